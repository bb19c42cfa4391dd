import PyProof.Rows.All
import Wide.All
import OpenK.AllK
import Wide.FinOn
import Lean
import PySem.Challenge.RW_sh0032_01
open PySem PySem.W PyProof.Rows PySem.Calls PySem.Spec
set_option Elab.async false
set_option maxRecDepth 100000
set_option linter.unusedVariables false
set_option linter.unusedSimpArgs false
set_option maxHeartbeats 4000000
set_option genSizeOf false
set_option tactic.hygienic false
set_option genCtorIdx false
set_option genInjectivity false
set_option bootstrap.genMatcherCode false
namespace Mine
noncomputable abbrev Lz:=List (List Nat)
noncomputable abbrev Ts:=List (Value × PyData)
noncomputable abbrev Nk:=List (Str × NameKind)
noncomputable abbrev Ce:=List (Str × Addr)
noncomputable abbrev Od:=List (Str × Option PyData)
noncomputable abbrev VP:=Value→Shared→Prop
noncomputable abbrev Lp:=List PyData
theorem gE{α:Type}(i:Nat){l:List α}{a:α}(h:l[i]?=some a):a∈l:=List.mem_of_getElem? h
end Mine
open List (all_cons all_eq_true any_cons append_assoc append_nil cons_append count_append count_cons dropLast_concat_getLast dropLast_eq_take drop_eq_getElem_cons drop_of_length_le drop_zero eraseIdx_eq_take_drop_succ exists_cons_of_ne_nil filterMap_cons filter_cons filter_sublist flatMap_cons flatMap_def flatten_append flatten_cons flatten_nil foldl_append foldl_cons forIn_cons forIn_nil forall_mem_cons getElem_map getElem_mem length_append length_cons length_drop length_dropLast length_eraseIdx_of_lt length_filter_le length_flatMap length_map length_nil length_range length_replicate length_reverse length_set length_singleton length_take length_zip length_zipIdx lookup_append lookup_cons map_append map_congr_left map_cons map_id map_map map_nil mem_append_left mem_append_right mem_cons mem_cons_of_mem mem_cons_self mem_map mem_reverse mem_zipIdx nil_append nil_suffix nodup_append nodup_cons nodup_nil not_mem_nil of_mem_zip perm_append_comm perm_append_comm_assoc perm_middle range_succ replicate_succ reverse_append reverse_cons reverse_perm suffix_cons suffix_refl sum_append sum_cons take_add_one take_append_drop take_left take_length take_of_length_le zip_cons_cons)
open Nat (add_le_add add_le_add_left add_le_add_right add_zero eq_of_beq_eq_true le_add_right le_antisymm le_of_ble_eq_true le_of_eq le_of_lt le_of_not_lt le_of_succ_le le_refl le_succ le_succ_of_le le_total le_trans lt_irrefl lt_of_le_of_lt lt_of_lt_of_le lt_succ_of_lt lt_succ_self lt_trans min_eq_left min_eq_right min_le_left min_le_right mod_lt mod_two_eq_zero_or_one mul_le_mul_left mul_zero ne_of_gt ne_of_lt not_succ_le_zero pow_le_pow_right sub_add_cancel sub_le sub_zero succ_le_succ succ_ne_zero zero_add zero_le zero_lt_succ)
open Int (add_assoc add_comm add_nonneg mul_add mul_nonneg natCast_nonneg neg_one_mul ofNat_inj ofNat_le one_mul self_le_toNat toNat_natCast toNat_of_nonneg toNat_sub zero_mul)
namespace Mine
inductive Ae | v (i:Nat) | n (k:Nat) | a (x y:Ae) | m (k:Nat) (x:Ae) | r (x:Ae) (k:Nat)
inductive Ie | z (i:Nat) | c (e:Ae) | q (n:Int) | a (x y:Ie) | s (x y:Ie) | g (x:Ie) | m (k:Int) (x:Ie) | r (x:Ie) (k:Int)
noncomputable def Aa:Ae:=.v 0
noncomputable def Ab:Ae:=.v 1
noncomputable def Ad:Ae:=.n 1
noncomputable def Af:Ie:=.z 0
noncomputable def Ag:Ae:=.v 2
noncomputable def Ah:Ie:=.q 1
noncomputable def Ai:Ie:=.z 1
noncomputable def Aj:Ie:=.q 0
noncomputable def Ak:Ie:=.q 9223372036854775808
noncomputable def Al:Ae:=.n 0
noncomputable def Am:Ae:=.n 1000
noncomputable def An:Ae:=.v 3
noncomputable def Ao:Ae:=.n 18446744073709551616
noncomputable def Ap:Ae:=.n 1000000
noncomputable def Aq:Ae:=.n 16777216
noncomputable def Ar:Ae:=.n 100
noncomputable def As:Ie:=.q (-1)
noncomputable def At:Ae:=.n 5
noncomputable def Au:Ie:=.q (-1099511627776)
noncomputable def Av:Ie:=.q 1099511627776
noncomputable def Aw:Ie:=.z 2
noncomputable def Ax:Ae:=.n 9223372036854775808
noncomputable def Ay:Ie:=.q (-1125899906842624)
noncomputable def Az:Ie:=.q (-18446744073709551616)
noncomputable def A0:Ie:=.q (-9223372036854775808)
noncomputable def A1:Ae:=.n 100000
noncomputable def A2:Ie:=.q 18446744073709551616
noncomputable def A3:Ae:=.n 300
noncomputable def aAt{α:Type}(o:α):List α→Nat→α
 |[],_=>o
 |x::l,i=>i.rec x fun i V=>aAt o l i
noncomputable def Ae.d(c:List Nat):Ae→Nat
 |v i=>aAt 0 c i
 |n k=>k
 |a x y=>x.d c+y.d c
 |m k x=>k*x.d c
 |r x k=>x.d c*k
noncomputable def Ie.d(c:List Nat)(d:List Int):Ie→Int
 |z i=>aAt 0 d i
 |.c e=>(e.d c:Nat)
 |q n=>n
 |a x y=>x.d c d+y.d c d
 |s x y=>x.d c d-y.d c d
 |g x=>- x.d c d
 |m k x=>k*x.d c d
 |r x k=>x.d c d*k
theorem aFour(a b c d:Int):(a+b)+(c+d)=(a+c)+(b+d):=by rw[add_assoc,add_assoc,← add_assoc b,add_comm b c,add_assoc]
noncomputable def aEv:List Int→List Int→Int
 |[],_=>0
 |x::l,c=>x*aAt 0 c 0+aEv l c.tail
noncomputable def aAdd(k:Int):List Int→List Int→List Int
 |[],l=>l.map (k * ·)
 |x::l,y=>(x+k*aAt 0 y 0)::aAdd k l y.tail
noncomputable def aUnit(i:Nat):List Int:=i.rec [1] fun V l=>0::l
theorem aEv_map(k:Int):∀ l c,aEv (l.map (k * ·)) c=k*aEv l c
 |[],c=>(Int.mul_zero k).symm
 |x::l,c=>(congr (congrArg HAdd.hAdd (Int.mul_assoc ..)) (aEv_map k l _)).trans (mul_add ..).symm
theorem aEv_cut:∀ l c,aEv l c=aAt 0 l 0*aAt 0 c 0+aEv l.tail c.tail
 |[],c=>by show(0:Int)=0*_+0;rw[zero_mul];rfl
 |x::l,c=>rfl
theorem aEv_add(k:Int):∀ l y c,aEv (aAdd k l y) c=aEv l c+k*aEv y c
 |[],y,c=>(aEv_map k y c).trans (Int.zero_add _).symm
 |x::l,y,c=>by
  show(x+k*aAt 0 y 0)*aAt 0 c 0+aEv (aAdd k l y.tail) c.tail=(x*aAt 0 c 0+aEv l c.tail)+k*aEv y c
  rw[aEv_add k l,aEv_cut y c,Int.add_mul,mul_add,Int.mul_assoc];exact aFour ..
theorem Gy:∀ i c,aEv (aUnit i) c=aAt 0 c i
 |0,[]=>rfl
 |0,c::cs=>(Int.add_zero _).trans (one_mul c)
 |i+1,[]=>(congr (congrArg HAdd.hAdd (zero_mul _)) (Gy i [])).trans (Int.zero_add _)
 |i+1,c::cs=>(congr (congrArg HAdd.hAdd (zero_mul _)) (Gy i cs)).trans (Int.zero_add _)
noncomputable abbrev Po:=List Int × List Int
noncomputable def Po.ev(p:Po)(c:List Nat)(d:List Int):Int:=aEv p.1 (1::c.map Int.ofNat)+aEv p.2 d
noncomputable def Po.add(k:Int)(p q:Po):Po:=(aAdd k p.1 q.1,aAdd k p.2 q.2)
theorem Po.ev_add(k:Int)(p q:Po) (c d):(Po.add k p q).ev c d=p.ev c d+k*q.ev c d:=by
 show aEv (aAdd k p.1 q.1) _+aEv (aAdd k p.2 q.2) _=(aEv p.1 _+aEv p.2 _)+k*(aEv q.1 _+aEv q.2 _)
 rw[aEv_add,aEv_add,mul_add];exact aFour ..
noncomputable def Ae.p:Ae→Po
 |v i=>(0::aUnit i,[])
 |n k=>([(k:Int)],[])
 |a x y=>Po.add 1 x.p y.p
 |m k x=>Po.add k ([],[]) x.p
 |r x k=>Po.add k ([],[]) x.p
noncomputable def Ie.p:Ie→Po
 |z i=>([],aUnit i)
 |.c e=>e.p
 |q n=>([n],[])
 |a x y=>Po.add 1 x.p y.p
 |s x y=>Po.add (-1) x.p y.p
 |g x=>Po.add (-1) ([],[]) x.p
 |m k x=>Po.add k ([],[]) x.p
 |r x k=>Po.add k ([],[]) x.p
theorem Po.scale(k:Int)(p:Po) (c d):(Po.add k ([],[]) p).ev c d=k*p.ev c d:=(Po.ev_add k _ p c d).trans (Int.zero_add _)
theorem aAt_map:∀ (c:List Nat) (i:Nat),aAt (0:Int) (c.map Int.ofNat) i=(aAt 0 c i:Nat)
 |[],_=>rfl
 |_::_,0=>rfl
 |_::c,i+1=>aAt_map c i
theorem aOne(k:Int)(c:List Int):k*1+aEv [] c+0=k:=(Int.add_zero _).trans ((Int.add_zero _).trans (Int.mul_one k))
theorem Ae.ev(c:List Nat)(d:List Int):∀ e:Ae,e.p.ev c d=(e.d c:Nat)
 |v i=>(Int.add_zero _).trans ((congr (congrArg HAdd.hAdd (zero_mul _)) (Gy i _)).trans ((Int.zero_add _).trans (aAt_map c i)))
 |n k=>aOne k _
 |a x y=>(Po.ev_add 1 x.p y.p c d).trans (congr (congrArg HAdd.hAdd (Ae.ev c d x)) ((one_mul _).trans (Ae.ev c d y)))
 |m k x=>(Po.scale k x.p c d).trans (congrArg ((k:Int) * ·) (Ae.ev c d x))
 |r x k=>((Po.scale k x.p c d).trans (congrArg ((k:Int) * ·) (Ae.ev c d x))).trans (Int.mul_comm ..)
theorem Ie.ev(c:List Nat)(d:List Int):∀ e:Ie,e.p.ev c d=e.d c d
 |z i=>(Int.zero_add _).trans (Gy i d)
 |.c e=>Ae.ev c d e
 |q n=>aOne n _
 |a x y=>(Po.ev_add 1 x.p y.p c d).trans (congr (congrArg HAdd.hAdd (Ie.ev c d x)) ((one_mul _).trans (Ie.ev c d y)))
 |s x y=>(Po.ev_add (-1) x.p y.p c d).trans ((congr (congrArg HAdd.hAdd (Ie.ev c d x)) ((neg_one_mul _).trans (congrArg Neg.neg (Ie.ev c d y)))).trans Int.sub_eq_add_neg.symm)
 |g x=>(Po.scale (-1) x.p c d).trans ((neg_one_mul _).trans (congrArg Neg.neg (Ie.ev c d x)))
 |m k x=>(Po.scale k x.p c d).trans (congrArg (k * ·) (Ie.ev c d x))
 |r x k=>((Po.scale k x.p c d).trans (congrArg (k * ·) (Ie.ev c d x))).trans (Int.mul_comm ..)
inductive Ac | z | c (k:Nat) (l r:Ae) (t:Ac) | i (k:Nat) (l r:Ie) (t:Ac)
noncomputable def Ac.G(c:List Nat)(d:List Int)(G:Prop):Ac→Prop
 |z=>G
 |.c _ l r t=>l.d c≤r.d c→t.G c d G
 |.i _ l r t=>l.d c d≤r.d c d→t.G c d G
noncomputable def Ac.S:Ac→Po
 |z=>([],[])
 |.c k l r t=>Po.add k t.S (Po.add (-1) r.p l.p)
 |.i k l r t=>Po.add k t.S (Po.add (-1) r.p l.p)
theorem aDif{p q:Po}{c d} {x y:Int}(hp:p.ev c d=x) (hq:q.ev c d=y):(Po.add (-1) q p).ev c d=y-x:=by
 rw[Po.ev_add,hp,hq,neg_one_mul];rfl
theorem aStep{p q:Po}{c d} {x y:Int}{k:Nat}{s:Po}(hp:p.ev c d=x) (hq:q.ev c d=y) (h:x≤y) (h':0≤s.ev c d):0≤(Po.add k s (Po.add (-1) q p)).ev c d:=by
 rw[Po.ev_add,aDif hp hq];exact add_nonneg h' (mul_nonneg (natCast_nonneg k) (Int.sub_nonneg_of_le h))
theorem Ac.ok{c:List Nat}{d:List Int}{G:Prop}:∀ {t:Ac},(0≤t.S.ev c d→G)→t.G c d G
 |z,h=>h (Int.le_refl 0)
 |.c k _ _ t,h=>fun q=>Ac.ok (t:=t) fun q'=>h (aStep (Ae.ev ..) (Ae.ev ..) (Int.ofNat_le.mpr q) q')
 |.i k _ _ t,h=>fun q=>Ac.ok (t:=t) fun q'=>h (aStep (Ie.ev ..) (Ie.ev ..) q q')
noncomputable def aPos:List Int→Bool
 |[]=>true
 |x::l=>(0:Nat).ble x.toNat&&(Int.neg x).toNat.beq 0&&aPos l
noncomputable def aZer:List Int→Bool
 |[]=>true
 |x::l=>x.natAbs.beq 0&&aZer l
theorem aPos_ev:∀ l (c:List Nat),aPos l=true→0≤aEv l (c.map Int.ofNat)
 |[],c,_=>Int.le_refl 0
 |x::l,c,h=>by
  obtain⟨h1,h2⟩:=(Bool.and_eq_true _ _).mp h;have h1:=eq_of_beq_eq_true ((Bool.and_eq_true _ _).mp h1).2;have hx:0≤x:=by
   match x,h1 with
   |.ofNat n,_=>exact natCast_nonneg n
   |.negSucc n,h1=>exact nomatch h1
  have e:aAt 0 (c.map Int.ofNat) 0=(aAt 0 c 0:Nat):=aAt_map c 0
  show 0≤x*aAt 0 (c.map Int.ofNat) 0+aEv l (c.map Int.ofNat).tail
  rw[e,← List.map_tail];exact add_nonneg (mul_nonneg hx (natCast_nonneg _)) (aPos_ev l c.tail h2)
theorem aZer_ev:∀ l c,aZer l=true→aEv l c=0
 |[],c,_=>rfl
 |x::l,c,h=>by
  obtain⟨h1,h2⟩:=(Bool.and_eq_true _ _).mp h
  show x*_+aEv l _=0
  rw[Int.natAbs_eq_zero.mp (eq_of_beq_eq_true h1),zero_mul,aZer_ev l _ h2];rfl
noncomputable def aChk(l r:Po)(t:Ac)(g:Nat):Bool :=
 let q:=Po.add (-1) (Po.add (g+1:Nat) ([(g:Int)],[]) (Po.add (-1) r l)) t.S
 aPos q.1&&aZer q.2
theorem aFin{l r:Po}{t:Ac}{g:Nat}{c d} {x y:Int}(h:aChk l r t g=true) (hl:l.ev c d=x) (hr:r.ev c d=y) (q:0≤t.S.ev c d):x≤y:=by
 obtain⟨h1,h2⟩:=(Bool.and_eq_true _ _).mp h;have h3:=aPos_ev _ (1::c) h1;have e:(Po.add (-1) (Po.add (g+1:Nat) ([(g:Int)],[]) (Po.add (-1) r l)) t.S).ev c d=(g+(g+1:Nat)*(y-x)) + -1*t.S.ev c d:=by
  rw[Po.ev_add,Po.ev_add,aDif hl hr];exact congrArg (· + _+_) (aOne g _)
 have h3:0≤(g+(g+1:Nat)*(y-x)) + -1*t.S.ev c d:=e▸add_nonneg h3 (Int.le_of_eq (aZer_ev _ _ h2).symm);rw[neg_one_mul] at h3;have h3:(0:Int)≤g+(g+1:Nat)*(y-x):=Int.le_trans q (Int.le_of_sub_nonneg h3)
 refine Int.le_of_sub_nonneg (Int.not_lt.mp fun n=>?_)
 have n:y-x≤-1:=Int.le_sub_one_of_lt n;have n:=Int.mul_le_mul_of_nonneg_left n (natCast_nonneg (g+1));have n:=Int.le_trans h3 (Int.add_le_add_left n g);rw[Int.mul_neg_one,Int.natCast_add,Int.neg_add,← add_assoc,Int.add_right_neg] at n;exact absurd n (by decide)
theorem ar(c:List Nat)(l r:Ae)(t:Ac)(g:Nat)(h:aChk l.p r.p t g=true):t.G c [] (l.d c≤r.d c):=Ac.ok fun q=>Int.ofNat_le.mp (aFin h (Ae.ev ..) (Ae.ev ..) q)
theorem an(c:List Nat)(d:List Int)(l r:Ae)(t:Ac)(g:Nat)(h:aChk l.p r.p t g=true):t.G c d (l.d c≤r.d c):=Ac.ok fun q=>Int.ofNat_le.mp (aFin h (Ae.ev ..) (Ae.ev ..) q)
theorem ai(c:List Nat)(d:List Int)(l r:Ie)(t:Ac)(g:Nat)(h:aChk l.p r.p t g=true):t.G c d (l.d c d≤r.d c d):=Ac.ok fun q=>aFin h (Ie.ev ..) (Ie.ev ..) q
theorem le_sa(a b:Nat):a≤a-b+b:=Nat.le_add_of_sub_le (le_refl _)
theorem abs_lt{x:Int}{n:Nat}(h:-(n:Int)<x)(h':x<n):x.natAbs<n:=by omega
@[elab_as_elim] theorem rz {α:Sort _}{motive:α→Prop}{a b:α}(h:a=b) (k:motive b):motive a:=h▸k
noncomputable abbrev Rf(a:Addr):PyData:=.dict [(.int (a:Nat),.none)]
noncomputable abbrev Rg(a b:Int):PyData:=.dict [(.int a,.int b)]
mutual
inductive Rp(P:Addr→Prop)(h:Heap):Value→PyData→Prop
 |none:Rp P h .none .none
 |bool (b):Rp P h (.bool b) (.bool b)
 |int (i t):Rp P h (.int i t) (.int i)
 |str (x t):Rp P h (.str x t) (.str x)
 |list {a vs n xs}:¬ P a→h.get? a=some ⟨.type "list",Option.none,.seq vs n,#[]⟩→Rps P h vs.toList xs→Rp P h (.ref a) (.list xs)
 |tuple {a vs n xs}:¬ P a→h.get? a=some ⟨.type "tuple",Option.none,.seq vs n,#[]⟩→Rps P h vs.toList xs→Rp P h (.ref a) (.tuple xs)
 |raw (a):Rp P h (.ref a) (Rf a)
 |rng {r a b t u v}:¬ P r→h.get? r=some { cls:=.type "range",dict:=Option.none,data:=.fields #[.int a t,.int b u,.int 1 v],slots:=#[] }→Rp P h (.ref r) (Rg a b)
inductive Rps(P:Addr→Prop)(h:Heap):List Value→Lp→Prop
 |nil:Rps P h [] []
 |cons {v vs d ds}:Rp P h v d→Rps P h vs ds→Rps P h (v::vs) (d::ds)
end
theorem Rps.ind{P:Addr→Prop}{h:Heap}{C:List Value→Lp→Prop}(hn:C [] [])(hc:∀ {v vs d ds},Rp P h v d→Rps P h vs ds→C vs ds→C (v::vs) (d::ds)){vs:List Value}{ds:Lp}(r:Rps P h vs ds):C vs ds :=
 Rps.rec (motive_1:=fun V V V=>True) (motive_2:=fun vs ds V=>C vs ds) trivial (fun V=>trivial) (fun V V=>trivial) (fun V V=>trivial) (fun V V V V=>trivial) (fun V V V V=>trivial) (fun V=>trivial) (fun V V=>trivial) hn (fun a b V ih=>hc a b ih) r
section
variable{P P':Addr→Prop}{h h':Heap}(hP:∀ a o,h.get? a=some o→P' a→P a)(hk:∀ a o,¬ P a→h.get? a=some o→h'.get? a=some o)
include hP hk
theorem Rp.mono{v:Value}{d:PyData}(r:Rp P h v d):Rp P' h' v d :=
 Rp.rec (motive_1:=fun v d V=>Rp P' h' v d) (motive_2:=fun vs ds V=>Rps P' h' vs ds) .none .bool .int .str (fun h1 h2 V ih=>.list (fun q=>h1 (hP _ _ h2 q)) (hk _ _ h1 h2) ih) (fun h1 h2 V ih=>.tuple (fun q=>h1 (hP _ _ h2 q)) (hk _ _ h1 h2) ih) .raw (fun h1 h2=>.rng (fun q=>h1 (hP _ _ h2 q)) (hk _ _ h1 h2)) .nil (fun V V a b=>.cons a b) r
theorem Rps.mono{vs:List Value}{ds:Lp}(r:Rps P h vs ds):Rps P' h' vs ds:=Rps.ind .nil (fun a V ih=>.cons (a.mono hP hk) ih) r
end
theorem By{P:Addr→Prop}{h:Heap}{v:Value}{a:Addr}(r:Rp P h v (Rf a)):v=.ref a:=by cases r;rfl
theorem B5{P:Addr→Prop}{h:Heap}{v:Value}{x:Str}(r:Rp P h v (.str x)):∃ t,v=.str x t:=by cases r;exact⟨_,rfl⟩
theorem B9{P:Addr→Prop}{h:Heap}{v:Value}{i:Int}(r:Rp P h v (.int i)):∃ t,v=.int i t:=by cases r;exact⟨_,rfl⟩
theorem list_of{P:Addr→Prop}{h:Heap}{v:Value}{ds:Lp}(r:Rp P h v (.list ds)):∃ a,v=.ref a:=by cases r;exact⟨_,rfl⟩
theorem len1{α:Type}:∀ {l:List α},l.length=1→∃ a,l=[a]
 |[a],_=>⟨a,rfl⟩
theorem len2{α:Type}:∀ {l:List α},l.length=2→∃ a b,l=[a,b]
 |a::m,h=>let ⟨b,e⟩:=len1 (l:=m) (Nat.succ.inj h);⟨a,b,by exact rz (e ..) rfl⟩
theorem len3{α:Type}:∀ {l:List α},l.length=3→∃ a b d,l=[a,b,d]
 |a::m,h=>let ⟨b,d,e⟩:=len2 (l:=m) (Nat.succ.inj h);⟨a,b,d,by exact rz (e ..) rfl⟩
theorem len4{α:Type}:∀ {l:List α},l.length=4→∃ a b d e,l=[a,b,d,e]
 |a::m,h=>let ⟨b,d,f,e⟩:=len3 (l:=m) (Nat.succ.inj h);⟨a,b,d,f,by exact rz (e ..) rfl⟩
theorem len5{α:Type}:∀ {l:List α},l.length=5→∃ a b d e f,l=[a,b,d,e,f]
 |a::m,h=>let ⟨b,d,f,g,e⟩:=len4 (l:=m) (Nat.succ.inj h);⟨a,b,d,f,g,by exact rz (e ..) rfl⟩
theorem Rps.uncons{P:Addr→Prop}{h:Heap}{us:List Value}{d:PyData}{ds:Lp}(H:Rps P h us (d::ds)):∃ v vs,us=v::vs∧Rp P h v d∧Rps P h vs ds:=by
 cases H with
 |cons a b=>exact⟨_,_,rfl,a,b⟩
theorem Rps.unnil{P:Addr→Prop}{h:Heap}{us:List Value}(H:Rps P h us []):us=[]:=by cases H;rfl
mutual
noncomputable def clean:PyData→Bool
 |.none=>true
 |.bool _=>true
 |.int _=>true
 |.str _=>true
 |.list xs=>Fm xs
 |.tuple xs=>Fm xs
 |.dict _=>false
noncomputable def Fm:Lp→Bool
 |[]=>true
 |d::ds=>clean d&&Fm ds
end
theorem Rp.reads{P:Addr→Prop}{h:Heap}{v:Value}{d:PyData}(r:Rp P h v d):clean d=true→∃ as,Reads h v d as :=
 Rp.rec (motive_1:=fun v d V=>clean d=true→∃ as,Reads h v d as) (motive_2:=fun vs ds V=>Fm ds=true→∃ as,ReadsAll h vs ds as) (fun V=>⟨_,.none⟩) (fun b V=>⟨_,.bool b⟩) (fun i t V=>⟨_,.int i t⟩) (fun x t V=>⟨_,.str x t⟩)
  (fun V h2 V ih e=>(ih e).elim fun V r=>⟨_,.list h2 rfl rfl r⟩) (fun V h2 V ih e=>(ih e).elim fun V r=>⟨_,.tuple h2 rfl rfl r⟩) (fun V e=>nomatch e) (fun V V e=>nomatch e) (fun V=>⟨_,.nil⟩) (fun V V i1 i2 e=>(i1 ((Bool.and_eq_true _ _).mp e).1).elim fun V r=>(i2 ((Bool.and_eq_true _ _).mp e).2).elim fun V q=>⟨_,.cons r q⟩) r
theorem Rps.reads{P:Addr→Prop}{h:Heap}{vs:List Value}{ds:Lp}(r:Rps P h vs ds):Fm ds=true→∃ as,ReadsAll h vs ds as :=
 Rps.ind (C:=fun vs ds=>Fm ds=true→∃ as,ReadsAll h vs ds as) (fun V=>⟨_,.nil⟩) (fun a V ih e=>(a.reads ((Bool.and_eq_true _ _).mp e).1).elim fun V r=>(ih ((Bool.and_eq_true _ _).mp e).2).elim fun V q=>⟨_,.cons r q⟩) r
section
variable{P:Addr→Prop}{h:Heap}
theorem Rps.length{vs:List Value}{ds:Lp}(H:Rps P h vs ds):vs.length=ds.length:=Rps.ind (C:=fun vs ds=>vs.length=ds.length) rfl (fun V V ih=>congrArg (· + 1) ih) H
theorem Rps.append{vs ws:List Value}{ds es:Lp}(H:Rps P h vs ds)(K:Rps P h ws es):Rps P h (vs++ws) (ds++es):=Rps.ind (C:=fun vs ds=>Rps P h (vs++ws) (ds++es)) K (fun a V ih=>.cons a ih) H
theorem Rps.get{vs:List Value}{ds:Lp}(H:Rps P h vs ds){i:Nat}{d:PyData}(e:ds[i]?=some d):∃ v,vs[i]?=some v∧Rp P h v d:=Rps.ind (C:=fun vs ds=>∀ (i:Nat) d,ds[i]?=some d→∃ v,vs[i]?=some v∧Rp P h v d) (fun V V e=>nomatch e) (fun a V ih i d e=>by cases i with | zero=>cases e;exact⟨_,rfl,a⟩ | succ i=>exact ih i d e) H i d e
theorem Rps.split{vs:List Value}{ds es:Lp}(H:Rps P h vs (ds++es)):∃ us ws,vs=us++ws∧Rps P h us ds∧Rps P h ws es:=by
 induction ds generalizing vs with
 |nil=>exact⟨[],vs,rfl,.nil,H⟩
 |cons d ds ih =>
  cases H with
  |cons a b =>
   obtain⟨us,ws,rfl,h1,h2⟩:=ih b;exact⟨_::us,ws,rfl,.cons a h1,h2⟩
theorem Rps.take{vs:List Value}{ds:Lp}(H:Rps P h vs ds):∀ n,Rps P h (vs.take n) (ds.take n):=Rps.ind (C:=fun vs ds=>∀ n,Rps P h (vs.take n) (ds.take n)) (fun n=>by cases n<;>exact .nil) (fun a V ih n=>by cases n with | zero=>exact .nil | succ n=>exact .cons a (ih n)) H
theorem Rps.drop{vs:List Value}{ds:Lp}(H:Rps P h vs ds):∀ n,Rps P h (vs.drop n) (ds.drop n):=Rps.ind (C:=fun vs ds=>∀ n,Rps P h (vs.drop n) (ds.drop n)) (fun n=>by cases n<;>exact .nil) (fun a b ih n=>by cases n with | zero=>exact .cons a b | succ n=>exact ih n) H
theorem Rps.set{vs:List Value}{ds:Lp}(H:Rps P h vs ds)(i:Nat){v:Value}{d:PyData}(hv:Rp P h v d):Rps P h (vs.set i v) (ds.set i d):=Rps.ind (C:=fun vs ds=>∀ i,Rps P h (vs.set i v) (ds.set i d)) (fun V=>.nil) (fun a b ih i=>by cases i with | zero=>exact .cons hv b | succ i=>exact .cons a (ih i)) H i
end
inductive Knd where
 |map(ρ:Od)
 |cell(d:Option PyData)
 |vcell(v:Value)
 |seq(cls:Value)(dict:Option Addr)(ds:Lp)
 |is(p:Obj→Prop)
 |vmap(ρ:List (Str × Value))
 |obj(ρ:Od)
noncomputable abbrev Xs:=List (Addr × Knd)
noncomputable def OwnAt(P:Addr→Prop)(h:Heap)(a:Addr):Knd→Prop
 |.map ρ=>(ρ.map (·.1)).Nodup∧∃ m,h.Ns a m∧∀ x d,(x,some d)∈ρ→∃ v,m x=some v∧Rp P h v d
 |.vmap ρ=>(ρ.map (·.1)).Nodup∧∃ m,h.Ns a m∧∀ x v,(x,v)∈ρ→m x=some v
 |.cell d=>∃ v,h.IsCell a v∧∀ d',d=some d'→∃ v',v=some v'∧Rp P h v' d'
 |.vcell v=>h.IsCell a (some v)
 |.seq cls dict ds=>∃ vs n,h.get? a=some ⟨cls,dict,.seq vs n,#[]⟩∧Rps P h vs.toList ds
 |.is p=>∃ o,h.get? a=some o∧p o
 |.obj ρ=>(ρ.map (·.1)).Nodup∧ρ.length≤64∧∃ m,h.Ns1 a m∧(∀ x d,(x,some d)∈ρ→∃ v,m x=some v∧Rp P h v d)∧∀ x,(∀ d,(x,some d)∉ρ)→m x=none
theorem OwnAt.there{P:Addr→Prop}{h:Heap}{a:Addr}{k:Knd}(H:OwnAt P h a k):∃ o,h.get? a=some o:=by
 cases k with
 |map ρ=>obtain⟨_,m,⟨o,_,_,ho,_⟩,_⟩:=H;exact⟨o,ho⟩
 |vmap ρ=>obtain⟨_,m,⟨o,_,_,ho,_⟩,_⟩:=H;exact⟨o,ho⟩
 |cell d=>obtain⟨v,⟨o,ho,_⟩,_⟩:=H;exact⟨o,ho⟩
 |vcell v=>obtain⟨o,ho,_⟩:=H;exact⟨o,ho⟩
 |seq c d ds=>obtain⟨vs,n,ho,_⟩:=H;exact⟨_,ho⟩
 |is p=>obtain⟨o,ho,_⟩:=H;exact⟨o,ho⟩
 |obj ρ=>obtain⟨_,_,m,⟨o,_,_,ho,_⟩,_⟩:=H;exact⟨o,ho⟩
theorem OwnAt.mono{P P':Addr→Prop}{h h':Heap}{a:Addr}{k:Knd}(H:OwnAt P h a k)(ha:∀ o,h.get? a=some o→h'.get? a=some o)
  (hP:∀ a o,h.get? a=some o→P' a→P a)(hk:∀ a o,¬ P a→h.get? a=some o→h'.get? a=some o):OwnAt P' h' a k:=by
 cases k with
 |map ρ =>
  obtain⟨hn,m,⟨o,es,ep,ho,r⟩,hm⟩:=H;exact⟨hn,m,⟨o,es,ep,ha o ho,r⟩,fun x d e=>let ⟨v,e1,e2⟩:=hm x d e;⟨v,e1,e2.mono hP hk⟩⟩
 |vmap ρ =>
  obtain⟨hn,m,⟨o,es,ep,ho,r⟩,hm⟩:=H;exact⟨hn,m,⟨o,es,ep,ha o ho,r⟩,hm⟩
 |cell d =>
  obtain⟨v,⟨o,ho,hd⟩,hv⟩:=H;exact⟨v,⟨o,ha o ho,hd⟩,fun d' e=>let ⟨v',e1,e2⟩:=hv d' e;⟨v',e1,e2.mono hP hk⟩⟩
 |vcell v=>obtain⟨o,ho,hd⟩:=H;exact⟨o,ha o ho,hd⟩
 |seq c d ds=>obtain⟨vs,n,ho,r⟩:=H;exact⟨vs,n,ha _ ho,r.mono hP hk⟩
 |is p=>obtain⟨o,ho,hp⟩:=H;exact⟨o,ha o ho,hp⟩
 |obj ρ =>
  obtain⟨hn,hl,m,hm,h1,h2⟩:=H;exact⟨hn,hl,m,hm.at ha,fun x d e=>let ⟨v,e1,e2⟩:=h1 x d e;⟨v,e1,e2.mono hP hk⟩,h2⟩
structure Cx where
 K:Frag
 h₀:Heap
 M:Addr→Prop
 Y:Addr→Prop
 os:OsState
 L:Addr
def ban(c:Cx)(X:Xs)(a:Addr):Prop:=c.Y a∨a∈X.map (·.1)
structure St(c:Cx)(X:Xs)(T:Ts)(s:Shared):Prop where
 own:∀ p∈X,OwnAt (ban c X) s.heap p.1 p.2
 lo:∀ p∈X,c.h₀.objs.size≤p.1∨c.M p.1
 nd:(X.map (·.1)).Nodup
 tmp:∀ q∈T,Rp (ban c X) s.heap q.1 q.2
 keep:∀ b o,c.h₀.get? b=some o→¬ c.M b→s.heap.get? b=some o
 stat:c.K.In s.heap
 kx:∀ p∈X,c.K.lookup p.1=none
 yb:∀ a,c.Y a→∃ o,s.heap.get? a=some o
 gens:AllBare s.gens
 os:s.os=c.os
 top:c.h₀.objs.size≤c.L∧∃ o,s.heap.get? c.L=some o
 yx:∀ p∈X,¬ c.Y p.1
variable{c:Cx}{X X':Xs}{T T':Ts}{s s':Shared}
theorem St.ban_lt(S:St c X T s){a:Addr}(h:ban c X a):∃ o,s.heap.get? a=some o:=by
 rcases h with h | h
 ·exact S.yb a h
 ·obtain⟨p,hp,rfl⟩:=List.mem_map.mp h;exact(S.own p hp).there
theorem St.cong(S:St c X T s)(h1:s'.heap=s.heap)(h2:s'.gens=s.gens)(h3:s'.os=s.os):St c X T s' :=
 ⟨by refine rz (h1 ..) <| S.own,S.lo,S.nd,by refine rz (h1 ..) <| S.tmp,by refine rz (h1 ..) <| S.keep,by refine rz (h1 ..) <| S.stat,S.kx,by refine rz (h1 ..) <| S.yb,by refine rz (h2 ..) <| S.gens,by refine rz (h3 ..) <| S.os,by refine rz (h1 ..) <| S.top,S.yx⟩
theorem St.toks(S:St c X T s)(t:Nat):St c X T { s with toks:=t }:=S.cong rfl rfl rfl
theorem St.ext(S:St c X T s)(hk:∀ b o,s.heap.get? b=some o→s'.heap.get? b=some o)(hg:AllBare s'.gens)(ho:s'.os=s.os):St c X T s':=by
 refine⟨fun p hp=>(S.own p hp).mono (hk _) (fun V V V q=>q) (fun a o V=>hk a o),S.lo,S.nd,fun q hq=>(S.tmp q hq).mono (fun V V V q=>q) (fun a o V=>hk a o),fun b o e m=>hk _ _ (S.keep b o e m),S.stat.keeps hk,S.kx,fun a y=>?_,hg,ho.trans S.os,⟨S.top.1,let ⟨o,e⟩:=S.top.2;⟨o,hk _ _ e⟩⟩,S.yx⟩
 obtain⟨o,e⟩:=S.yb a y;exact⟨o,hk _ _ e⟩
theorem St.extH(S:St c X T s){h':Heap}{t:Nat}(hk:∀ b o,s.heap.get? b=some o→h'.get? b=some o):St c X T { s with heap:=h',toks:=t }:=S.ext hk S.gens rfl
theorem St.drop(S:St c X T s)(hs:∀ q∈T',q∈T):St c X T' s:=⟨S.own,S.lo,S.nd,fun q hq=>S.tmp q (hs q hq),S.keep,S.stat,S.kx,S.yb,S.gens,S.os,S.top,S.yx⟩
theorem St.nil(S:St c X T s):St c X [] s:=S.drop (fun V h=>nomatch h)
theorem St.push(S:St c X T s){v:Value}{d:PyData}(h:Rp (ban c X) s.heap v d):St c X ((v,d)::T) s :=
 ⟨S.own,S.lo,S.nd,fun q hq=>by rcases List.mem_cons.mp hq with rfl | hq;exact h;exact S.tmp q hq,S.keep,S.stat,S.kx,S.yb,S.gens,S.os,S.top,S.yx⟩
theorem St.free{p:Addr × Knd}(S:St c (p::X) T s):St c X T s:=by
 have hb:∀ a,ban c X a→ban c (p::X) a:=fun a h=>h.imp id (fun h=>mem_cons_of_mem _ h)
 refine⟨fun q hq=>(S.own q (.tail _ hq)).mono (fun V e=>e) (fun a V V h=>hb a h) (fun V V V e=>e),fun q hq=>S.lo q (.tail _ hq),(List.nodup_cons.mp S.nd).2,fun q hq=>(S.tmp q hq).mono (fun a V V h=>hb a h) (fun V V V e=>e),S.keep,S.stat,fun q hq=>S.kx q (.tail _ hq),S.yb,S.gens,S.os,S.top,fun q hq=>S.yx q (.tail _ hq)⟩
theorem St.perm(S:St c X T s)(h:X.Perm X'):St c X' T s:=by
 have hm:∀ p,p∈X'↔p∈X:=fun p=>h.symm.mem_iff
 have hm1:∀ a,a∈X'.map (·.1)↔a∈X.map (·.1):=fun a=>(h.map (·.1)).symm.mem_iff
 have hb:∀ a,ban c X' a→ban c X a:=fun a h=>h.imp id (hm1 a).mp
 exact⟨fun q hq=>(S.own q ((hm q).mp hq)).mono (fun V e=>e) (fun a V V h=>hb a h) (fun V V V e=>e),fun q hq=>S.lo q ((hm q).mp hq),(h.map (·.1)).nodup_iff.mp S.nd,fun q hq=>(S.tmp q hq).mono (fun a V V h=>hb a h) (fun V V V e=>e),S.keep,S.stat,fun q hq=>S.kx q ((hm q).mp hq),S.yb,S.gens,S.os,S.top,fun q hq=>S.yx q ((hm q).mp hq)⟩
theorem St.lose{a:Addr}{k:Knd}(S:St c ((a,k)::X) T s)(hL:a≠c.L){h':Heap}{t:Nat}(hk:∀ b o,b≠a→s.heap.get? b=some o→h'.get? b=some o):St c X T { s with heap:=h',toks:=t }:=by
 have ba:ban c ((a,k)::X) a:=.inr (.head _);have hb:∀ b o,s.heap.get? b=some o→ban c X b→ban c ((a,k)::X) b:=fun b V V h=>h.imp id (.tail _)
 have hk':∀ b o,¬ ban c ((a,k)::X) b→s.heap.get? b=some o→h'.get? b=some o:=fun b o n e=>hk b o (fun q=>n (q▸ba)) e
 have nd:=S.nd;rw[map_cons,nodup_cons] at nd;refine⟨fun p hp=>(S.own p (.tail _ hp)).mono (fun o=>hk _ o fun q=>nd.1 (q▸List.mem_map.mpr ⟨p,hp,rfl⟩)) hb hk',fun p hp=>S.lo p (.tail _ hp),nd.2,fun q hq=>(S.tmp q hq).mono hb hk',fun b o e m=>?_,fun b o e=>?_,fun p hp=>S.kx p (.tail _ hp),fun b y=>?_,S.gens,S.os,⟨S.top.1,?_⟩,fun p hp=>S.yx p (.tail _ hp)⟩
 ·refine hk b o (fun q=>?_) (S.keep b o e m)
  subst q;rcases S.lo _ (.head _) with q | q
  ·exact absurd (Heap.lt_size e) (Nat.not_lt.mpr q)
  ·exact m q
 ·refine hk b o (fun q=>?_) (S.stat b o e)
  subst q;have:=S.kx _ (.head _);rw[show((b,k):Addr × Knd).1=b from rfl,e] at this;cases this
 ·obtain⟨o,eo⟩:=S.yb b y;exact⟨o,hk b o (fun q=>S.yx _ (.head _) (q▸y)) eo⟩
 ·obtain⟨o,eo⟩:=S.top.2;exact⟨o,hk _ o (Ne.symm hL) eo⟩
theorem St.fresh(S:St c X T s){a:Addr}{k:Knd}(ha:s.heap.get? a=none)(hlo:c.h₀.objs.size≤a)(hk:∀ b o,s.heap.get? b=some o→s'.heap.get? b=some o)(hg:AllBare s'.gens)(ho:s'.os=s.os)
  (own:OwnAt (ban c ((a,k)::X)) s'.heap a k):St c ((a,k)::X) T s':=by
 have hb:∀ b o,s.heap.get? b=some o→ban c ((a,k)::X) b→ban c X b:=by
  intro b o e h;refine h.imp id (fun h=>?_)
  rcases List.mem_cons.mp h with rfl | h
  ·rw[e] at ha;cases ha
  ·exact h
 have S':=S.ext hk hg ho;refine⟨fun q hq=>?_,fun q hq=>?_,?_,fun q hq=>(S.tmp q hq).mono hb (fun a o V=>hk a o),S'.keep,S'.stat,fun q hq=>?_,S'.yb,hg,S'.os,S'.top,fun q hq=>?_⟩
 ·rcases List.mem_cons.mp hq with rfl | hq
  ·exact own
  ·exact(S.own q hq).mono (hk _) hb (fun a o V=>hk a o)
 ·rcases List.mem_cons.mp hq with rfl | hq
  ·exact .inl hlo
  ·exact S.lo q hq
 ·refine rz (map_cons ..) <| List.nodup_cons.mpr ⟨fun h=>?_,S.nd⟩
  obtain⟨p,hp,e⟩:=List.mem_map.mp h;obtain⟨o,ho⟩:=(S.own p hp).there;rw[e,ha] at ho;cases ho
 ·rcases List.mem_cons.mp hq with rfl | hq
  ·cases q:c.K.lookup a with
   |none=>rfl
   |some o=>have:=S.stat _ _ q;rw[ha] at this;cases this
  ·exact S.kx q hq
 ·rcases List.mem_cons.mp hq with rfl | hq
  ·intro y;obtain⟨o,e⟩:=S.yb _ y;rw[ha] at e;cases e
  ·exact S.yx q hq
inductive Ups(a:Addr)(k k':Knd):Xs→Xs→Prop
 |here{Z:Xs}:Ups a k k' ((a,k)::Z) ((a,k')::Z)
 |there{p:Addr × Knd}{Z Z':Xs}:Ups a k k' Z Z'→Ups a k k' (p::Z) (p::Z')
section
variable{a:Addr}{k k':Knd}
theorem Ups.keys(U:Ups a k k' X X'):X'.map (·.1)=X.map (·.1):=by
 induction U with
 |here=>rfl
 |there _ ih=>simp[ih]
theorem Ups.mem(U:Ups a k k' X X'):(a,k)∈X:=by
 induction U with
 |here=>exact .head _
 |there _ ih=>exact .tail _ ih
theorem Ups.cases(U:Ups a k k' X X'):∀ p∈X',p=(a,k')∨p∈X:=by
 induction U with
 |here=>intro p hp;rcases List.mem_cons.mp hp with rfl | hp;exact .inl rfl;exact .inr (.tail _ hp)
 |there _ ih =>
  intro p hp;rcases List.mem_cons.mp hp with rfl | hp
  ·exact .inr (.head _)
  ·exact(ih p hp).imp id (.tail _)
theorem nodup_cases{X:Xs}(nd:(X.map (·.1)).Nodup){a:Addr}{k k':Knd}(h:(a,k)∈X)(h':(a,k')∈X):k=k':=by
 induction X with
 |nil=>cases h
 |cons p X ih =>
  rw[map_cons,nodup_cons] at nd;rcases List.mem_cons.mp h with rfl | g
  ·rcases List.mem_cons.mp h' with e | g'
   ·cases e;rfl
   ·exact absurd (List.mem_map.mpr ⟨(a,k'),g',rfl⟩) nd.1
  ·rcases List.mem_cons.mp h' with rfl | g'
   ·exact absurd (List.mem_map.mpr ⟨(a,k),g,rfl⟩:a∈X.map (·.1)) nd.1
   ·exact ih nd.2 g g'
theorem Ups.not(U:Ups a k k' X X')(nd:(X.map (·.1)).Nodup):∀ p∈X',p.1=a→p=(a,k'):=by
 induction U with
 |here =>
  intro p hp e;rcases List.mem_cons.mp hp with rfl | hp
  ·rfl
  ·rw[map_cons,nodup_cons] at nd;exact absurd (List.mem_map.mpr ⟨p,hp,e⟩) nd.1
 |@there q X X' U ih =>
  intro p hp e;rw[map_cons,nodup_cons] at nd;rcases List.mem_cons.mp hp with rfl | hp
  ·exact absurd (List.mem_map.mpr ⟨(a,k),U.mem,e.symm⟩) nd.1
  ·exact ih nd.2 p hp e
end
theorem St.upd(S:St c X T s){a:Addr}{k k':Knd}(U:Ups a k k' X X')(hk:∀ b o,b≠a→s.heap.get? b=some o→s'.heap.get? b=some o)(hg:AllBare s'.gens)(ho:s'.os=s.os)
  (own:OwnAt (ban c X') s'.heap a k'):St c X' T s':=by
 have bx:∀ b,ban c X' b↔ban c X b:=fun b=>by unfold ban;rw[U.keys]
 have ba:ban c X a:=.inr (List.mem_map.mpr ⟨_,U.mem,rfl⟩);have hb:∀ b o,s.heap.get? b=some o→ban c X' b→ban c X b:=fun b V V h=>(bx b).mp h
 have hk':∀ b o,¬ ban c X b→s.heap.get? b=some o→s'.heap.get? b=some o:=fun b o n e=>hk b o (fun q=>n (q▸ba)) e
 refine⟨fun p hp=>?_,fun p hp=>?_,by refine rz (U.keys ..) <| S.nd,fun q hq=>(S.tmp q hq).mono hb hk',fun b o e m=>?_,fun b o e=>?_,fun p hp=>?_,fun b y=>?_,hg,ho.trans S.os,⟨S.top.1,?_⟩,fun p hp=>?_⟩
 ·by_cases e:p.1=a
  ·refine rz (U.not S.nd p hp e ..) <| own
  ·rcases U.cases p hp with rfl | hp
   ·exact absurd rfl e
   ·exact(S.own p hp).mono (fun o=>hk _ o e) hb hk'
 ·rcases U.cases p hp with rfl | hp
  ·exact S.lo (a,k) U.mem
  ·exact S.lo p hp
 ·refine hk b o (fun q=>?_) (S.keep b o e m)
  subst q;rcases S.lo _ U.mem with q | q
  ·exact absurd (Heap.lt_size e) (Nat.not_lt.mpr q)
  ·exact m q
 ·refine hk b o (fun q=>?_) (S.stat b o e)
  subst q;have:=S.kx _ U.mem;rw[show((b,k):Addr × Knd).1=b from rfl,e] at this;cases this
 ·rcases U.cases p hp with rfl | hp
  ·exact S.kx (a,k) U.mem
  ·exact S.kx p hp
 ·by_cases e:b=a
  ·subst e;exact own.there
  ·obtain⟨o,eo⟩:=S.yb b y;exact⟨o,hk b o e eo⟩
 ·by_cases e:c.L=a
  ·refine rz (e ..) <| own.there
  ·obtain⟨o,eo⟩:=S.top.2;exact⟨o,hk _ o e eo⟩
 ·rcases U.cases p hp with rfl | hp
  ·exact S.yx (a,k) U.mem
  ·exact S.yx p hp
theorem St.size(S:St c X T s):c.h₀.objs.size≤s.heap.objs.size:=let ⟨_,e⟩:=S.top.2;le_trans S.top.1 (le_of_lt (Heap.lt_size e))
theorem get_size(h:Heap):h.get? h.objs.size=none:=by
 cases e:h.get? h.objs.size with
 |none=>rfl
 |some o=>exact absurd (Heap.lt_size e) (lt_irrefl _)
theorem St.own_push(S:St c X T s){o:Obj}{k:Knd}{t:Nat}(own:OwnAt (ban c ((s.heap.objs.size,k)::X)) (s.heap.push o) s.heap.objs.size k):St c ((s.heap.objs.size,k)::X) T { s with heap:=s.heap.push o,toks:=t } :=
 S.fresh (get_size _) S.size (fun V V e=>Heap.get?_push_of_some _ e) S.gens rfl own
theorem St.rp_push(S:St c X T s){o:Obj}{k:Knd}{v:Value}{d:PyData}(h:Rp (ban c X) s.heap v d):Rp (ban c ((s.heap.objs.size,k)::X)) (s.heap.push o) v d :=
 h.mono (fun b o e q=>q.imp id fun q=>by
  rcases List.mem_cons.mp q with rfl | q
  ·exact absurd (Heap.lt_size e) (lt_irrefl _)
  ·exact q) (fun b o V e=>Heap.get?_push_of_some _ e)
theorem St.rps_push(S:St c X T s){o:Obj}{k:Knd}{vs:List Value}{ds:Lp}(h:Rps (ban c X) s.heap vs ds):Rps (ban c ((s.heap.objs.size,k)::X)) (s.heap.push o) vs ds :=
 h.mono (fun b o e q=>q.imp id fun q=>by
  rcases List.mem_cons.mp q with rfl | q
  ·exact absurd (Heap.lt_size e) (lt_irrefl _)
  ·exact q) (fun b o V e=>Heap.get?_push_of_some _ e)
theorem St.push_step(S:St c X T s){o:Obj}{t:Nat}:St c X T { s with heap:=s.heap.push o,toks:=t }:=S.extH fun V V e=>Heap.get?_push_of_some _ e
theorem St.new_tuple(S:St c X T s){vs:List Value}{ds:Lp}{t:Nat}(h:Rps (ban c X) s.heap vs ds) :
  St c X ((.ref s.heap.objs.size,.tuple ds)::T) { s with heap:=s.heap.push { cls:=.type "tuple",data:=.seq vs.toArray },toks:=t }:=by
 refine(S.push_step (o:={ cls:=.type "tuple",data:=.seq vs.toArray }) (t:=t)).push ?_;refine .tuple (fun q=>?_) (Heap.get?_push_size _ rfl) (h.mono (fun V V V q=>q) fun b o V e=>Heap.get?_push_of_some _ e)
 obtain⟨o,e⟩:=S.ban_lt q;exact absurd (Heap.lt_size e) (lt_irrefl _)
theorem St.freeze{a:Addr}{ds:Lp}(S:St c ((a,.seq (.type "list") none ds)::X) T s):St c X ((.ref a,.list ds)::T) s:=by
 obtain⟨vs,n,ho,hr⟩:=S.own _ (.head _);have nd:=S.nd;rw[map_cons,nodup_cons] at nd;refine S.free.push (.list ?_ ho (hr.mono (fun b V V q=>q.imp id (.tail _)) fun V V V e=>e))
 rintro(q | q)
 ·exact S.yx _ (.head _) q
 ·exact nd.1 q
section
variable{Z Z':Xs}
theorem banL(hz:Z'.map (·.1)=Z.map (·.1))(a:Addr):ban c (Z'++X) a↔ban c (Z++X) a:=by unfold ban;rw[map_append,map_append,hz]
theorem ban_memZ{a:Addr}(h:a∈Z.map (·.1)):ban c (Z++X) a:=.inr (rz (map_append ..) <| mem_append_left _ h)
theorem Rp.updL(hz:Z'.map (·.1)=Z.map (·.1)){h h':Heap}(hk:∀ b o,b∉Z.map (·.1)→h.get? b=some o→h'.get? b=some o){v:Value}{d:PyData}(H:Rp (ban c (Z++X)) h v d):Rp (ban c (Z'++X)) h' v d :=
 H.mono (fun a V V q=>(banL hz a).mp q) fun a o n e=>hk a o (fun q=>n (ban_memZ q)) e
theorem St.updL(S:St c (Z++X) T s)(hz:Z'.map (·.1)=Z.map (·.1))(hk:∀ b o,b∉Z.map (·.1)→s.heap.get? b=some o→s'.heap.get? b=some o)(hg:AllBare s'.gens)(ho:s'.os=s.os)
  (own:∀ p∈Z',OwnAt (ban c (Z'++X)) s'.heap p.1 p.2):St c (Z'++X) T s':=by
 have nd:=S.nd;rw[map_append,nodup_append] at nd;have hm:∀ p∈Z',∃ q∈Z,q.1=p.1:=fun p hp=>by
  have:p.1∈Z.map (·.1):=by refine rz (Eq.symm (hz ..)) <| List.mem_map.mpr ⟨p,hp,rfl⟩
  exact List.mem_map.mp this
 have hk':∀ a o,¬ ban c (Z++X) a→s.heap.get? a=some o→s'.heap.get? a=some o:=fun a o n e=>hk a o (fun q=>n (ban_memZ q)) e
 have hb:∀ a o,s.heap.get? a=some o→ban c (Z'++X) a→ban c (Z++X) a:=fun a V V q=>(banL hz a).mp q
 refine⟨fun p hp=>?_,fun p hp=>?_,by refine rz (map_append ..) <| rz (hz ..) <| rz (Eq.symm (map_append ..)) <| S.nd,fun q hq=>(S.tmp q hq).mono hb hk',fun b o e m=>?_,fun b o e=>?_,fun p hp=>?_,fun a y=>?_,hg,ho.trans S.os,⟨S.top.1,?_⟩,fun p hp=>?_⟩
 ·rcases List.mem_append.mp hp with hp | hp
  ·exact own p hp
  ·exact(S.own p (mem_append_right _ hp)).mono (fun o=>hk _ o fun q=>nd.2.2 _ q _ (List.mem_map.mpr ⟨p,hp,rfl⟩) rfl) hb hk'
 ·rcases List.mem_append.mp hp with hp | hp
  ·obtain⟨q,hq,e⟩:=hm p hp;refine rz (Eq.symm (e ..)) <| S.lo q (mem_append_left _ hq)
  ·exact S.lo p (mem_append_right _ hp)
 ·refine hk b o (fun q=>?_) (S.keep b o e m)
  obtain⟨r,hr,rfl⟩:=List.mem_map.mp q;rcases S.lo r (mem_append_left _ hr) with z | z
  ·exact absurd (Heap.lt_size e) (Nat.not_lt.mpr z)
  ·exact m z
 ·refine hk b o (fun q=>?_) (S.stat b o e)
  obtain⟨r,hr,rfl⟩:=List.mem_map.mp q;have:=S.kx r (mem_append_left _ hr);rw[e] at this;cases this
 ·rcases List.mem_append.mp hp with hp | hp
  ·obtain⟨q,hq,e⟩:=hm p hp;refine rz (Eq.symm (e ..)) <| S.kx q (mem_append_left _ hq)
  ·exact S.kx p (mem_append_right _ hp)
 ·obtain⟨o,e⟩:=S.yb a y;refine⟨o,hk a o (fun q=>?_) e⟩
  obtain⟨r,hr,rfl⟩:=List.mem_map.mp q;exact S.yx r (mem_append_left _ hr) y
 ·by_cases q:c.L∈Z.map (·.1)
  ·rw[← hz] at q;obtain⟨p,hp,e⟩:=List.mem_map.mp q
   refine rz (Eq.symm (e ..)) <| (own p hp).there
  ·obtain⟨o,e⟩:=S.top.2;exact⟨o,hk _ _ q e⟩
 ·rcases List.mem_append.mp hp with hp | hp
  ·obtain⟨q,hq,e⟩:=hm p hp;refine rz (Eq.symm (e ..)) <| S.yx q (mem_append_left _ hq)
  ·exact S.yx p (mem_append_right _ hp)
theorem St.loseL:∀ {Z:Xs}{s:Shared}{h':Heap}{t:Nat},St c (Z++X) T s→c.L∉Z.map (·.1)→(∀ b o,b∉Z.map (·.1)→s.heap.get? b=some o→h'.get? b=some o)→St c X T { s with heap:=h',toks:=t }:=by
 intro Z s h' t S hL hk;have hb:∀ b o,s.heap.get? b=some o→ban c X b→ban c (Z++X) b:=fun b V V h=>h.imp id (fun h=>by refine rz (map_append ..) <| mem_append_right _ h)
 have hk':∀ a o,¬ ban c (Z++X) a→s.heap.get? a=some o→h'.get? a=some o:=fun a o n e=>hk a o (fun q=>n (ban_memZ q)) e
 have nd:=S.nd;rw[map_append,nodup_append] at nd;refine⟨fun p hp=>(S.own p (mem_append_right _ hp)).mono (fun o=>hk _ o fun q=>nd.2.2 _ q _ (List.mem_map.mpr ⟨p,hp,rfl⟩) rfl) hb hk',fun p hp=>S.lo p (mem_append_right _ hp),nd.2.1,fun q hq=>(S.tmp q hq).mono hb hk',fun b o e m=>?_,fun b o e=>?_,fun p hp=>S.kx p (mem_append_right _ hp),fun a y=>?_,S.gens,S.os,⟨S.top.1,?_⟩,fun p hp=>S.yx p (mem_append_right _ hp)⟩
 ·refine hk b o (fun q=>?_) (S.keep b o e m)
  obtain⟨r,hr,rfl⟩:=List.mem_map.mp q;rcases S.lo r (mem_append_left _ hr) with z | z
  ·exact absurd (Heap.lt_size e) (Nat.not_lt.mpr z)
  ·exact m z
 ·refine hk b o (fun q=>?_) (S.stat b o e)
  obtain⟨r,hr,rfl⟩:=List.mem_map.mp q;have:=S.kx r (mem_append_left _ hr);rw[e] at this;cases this
 ·obtain⟨o,e⟩:=S.yb a y;refine⟨o,hk a o (fun q=>?_) e⟩
  obtain⟨r,hr,rfl⟩:=List.mem_map.mp q;exact S.yx r (mem_append_left _ hr) y
 ·obtain⟨o,e⟩:=S.top.2;exact⟨o,hk _ _ hL e⟩
theorem St.freshL(S:St c X T s)(hz:(Z.map (·.1)).Nodup)(hlo:∀ p∈Z,s.heap.objs.size≤p.1)(hk:∀ b o,s.heap.get? b=some o→s'.heap.get? b=some o)(hg:AllBare s'.gens)(ho:s'.os=s.os)
  (own:∀ p∈Z,OwnAt (ban c (Z++X)) s'.heap p.1 p.2):St c (Z++X) T s':=by
 have none:∀ p∈Z,∀ o,s.heap.get? p.1≠some o:=fun p hp o e=>absurd (Heap.lt_size e) (Nat.not_lt.mpr (hlo p hp))
 have hb:∀ b o,s.heap.get? b=some o→ban c (Z++X) b→ban c X b:=by
  intro b o e h;refine h.imp id fun h=>?_
  rw[map_append] at h;rcases List.mem_append.mp h with h | h
  ·obtain⟨p,hp,rfl⟩:=List.mem_map.mp h;exact absurd e (none p hp o)
  ·exact h
 have S':=S.ext hk hg ho;have lo:c.h₀.objs.size≤s.heap.objs.size:=S.size;refine⟨fun p hp=>?_,fun p hp=>?_,?_,fun q hq=>(S.tmp q hq).mono hb (fun a o V=>hk a o),S'.keep,S'.stat,fun p hp=>?_,S'.yb,hg,S'.os,S'.top,fun p hp=>?_⟩
 ·rcases List.mem_append.mp hp with hp | hp
  ·exact own p hp
  ·exact(S.own p hp).mono (hk _) hb (fun a o V=>hk a o)
 ·rcases List.mem_append.mp hp with hp | hp
  ·exact .inl (le_trans lo (hlo p hp))
  ·exact S.lo p hp
 ·rw[map_append,nodup_append];refine⟨hz,S.nd,fun a ha b hb e=>?_⟩
  subst e;obtain⟨p,hp,rfl⟩:=List.mem_map.mp ha;obtain⟨q,hq,e⟩:=List.mem_map.mp hb;obtain⟨o,ho⟩:=(S.own q hq).there;rw[e] at ho;exact none p hp o ho
 ·rcases List.mem_append.mp hp with hp | hp
  ·cases q:c.K.lookup p.1 with
   |none=>rfl
   |some o=>exact absurd (S.stat _ _ q) (none p hp o)
  ·exact S.kx p hp
 ·rcases List.mem_append.mp hp with hp | hp
  ·intro y;obtain⟨o,e⟩:=S.yb _ y;exact none p hp o e
  ·exact S.yx p hp
theorem St.neLL(S:St c X T s)(hlo:∀ p∈Z,s.heap.objs.size≤p.1):c.L∉Z.map (·.1):=fun h=>by
 obtain⟨p,hp,e⟩:=List.mem_map.mp h;obtain⟨o,ho⟩:=S.top.2;rw[← e] at ho;exact absurd (Heap.lt_size ho) (Nat.not_lt.mpr (hlo p hp))
end
noncomputable def Kon(c:Cx)(X:Xs)(T:Ts)(d:PyData)(Q:VP):Prop :=
 ∀ v s',St c X ((v,d)::T) s'→Q v s'
section
variable{c:Cx}{X X':Xs}{T T':Ts}{s s':Shared}
theorem Kon.app{d:PyData}{v:Value}{Q:VP}(k:Kon c X T d Q)(S:St c X T s)(h:Rp (ban c X) s.heap v d):Q v s:=k v s (S.push h)
theorem St.pop{q:Value × PyData}(S:St c X (q::T) s):St c X T s:=S.drop fun V h=>.tail _ h
theorem St.rp(S:St c X T s){v:Value}{d:PyData}(h:(v,d)∈T):Rp (ban c X) s.heap v d:=S.tmp _ h
theorem Kon.int{i:Int}{Q:VP}(k:∀ t s',St c X T s'→Q (.int i t) s'):Kon c X T (.int i) Q:=fun v s' S=>by
 have h:=S.rp (.head _);cases h;exact k _ s' S.pop
theorem Kon.str{x:Str}{Q:VP}(k:∀ t s',St c X T s'→Q (.str x t) s'):Kon c X T (.str x) Q:=fun v s' S=>by
 have h:=S.rp (.head _);cases h;exact k _ s' S.pop
inductive Put(x:Str)(d:Option PyData):Od→Od→Prop
 |here {e ρ}:Put x d ((x,e)::ρ) ((x,d)::ρ)
 |there {p ρ ρ'}:Put x d ρ ρ'→Put x d (p::ρ) (p::ρ')
theorem Put.keys{x:Str}{d:Option PyData}{ρ ρ':Od}(P:Put x d ρ ρ'):ρ'.map (·.1)=ρ.map (·.1):=by
 induction P with
 |here=>rfl
 |there _ ih=>simp[ih]
theorem Put.memKey{x:Str}{d:Option PyData}{ρ ρ':Od}(P:Put x d ρ ρ'):x∈ρ.map (·.1):=by
 induction P with
 |here=>simp
 |there _ ih=>exact mem_cons_of_mem _ ih
theorem Put.cases{x:Str}{d:Option PyData}{ρ ρ':Od}(P:Put x d ρ ρ')(nd:(ρ.map (·.1)).Nodup):∀ p∈ρ',p=(x,d)∨(p∈ρ∧p.1≠x):=by
 induction P with
 |here =>
  intro p hp;rw[map_cons,nodup_cons] at nd;rcases List.mem_cons.mp hp with rfl | hp
  ·exact .inl rfl
  ·exact .inr ⟨.tail _ hp,fun e=>nd.1 (List.mem_map.mpr ⟨p,hp,e⟩)⟩
 |there P ih =>
  intro p hp;rw[map_cons,nodup_cons] at nd;rcases List.mem_cons.mp hp with rfl | hp
  ·exact .inr ⟨.head _,fun e=>nd.1 (e▸P.memKey)⟩
  ·exact(ih nd.2 p hp).imp id fun h=>⟨.tail _ h.1,h.2⟩
theorem St.look(S:St c X T s){L:Addr}{ρ:Od}{x:Str}{d:PyData}(hX:(L,Knd.map ρ)∈X)(hx:(x,some d)∈ρ):∃ m v,s.heap.Ns L m∧m x=some v∧Rp (ban c X) s.heap v d:=by
 obtain⟨_,m,hn,hm⟩:=S.own _ hX;obtain⟨v,e,r⟩:=hm x d hx;exact⟨m,v,hn,e,r⟩
theorem St.lookC(S:St c X T s){a:Addr}{d:PyData}(hX:(a,Knd.cell (some d))∈X):∃ v,s.heap.IsCell a (some v)∧Rp (ban c X) s.heap v d:=by
 obtain⟨v,hc,hv⟩:=S.own _ hX;obtain⟨v',rfl,r⟩:=hv d rfl;exact⟨v',hc,r⟩
theorem A5{α:Type}:∀ {l:List (Str × α)}{x:Str}{a:α},(l.map (·.1)).Nodup→(x,a)∈l→l.lookup x=some a
 |(y,b)::l,x,a,nd,h=>by
  rw[map_cons,nodup_cons] at nd;refine rz (lookup_cons ..) ?_
  rcases List.mem_cons.mp h with e | h
  ·cases e;simp
  ·have:x≠y:=fun e=>nd.1 (e▸List.mem_map.mpr ⟨_,h,rfl⟩)
   refine rz (beq_eq_false_iff_ne.mpr this ..) <| A5 nd.2 h
end
section
variable{prog:Program}{w:World}{A:Around}{E:VP}{c:Cx}{X X':Xs}{T T':Ts}{s s':Shared}{env:Env}
structure EnvOk(env:Env)(L:Addr)(names:Nk)(cells:Ce):Prop where
 kind:env.scope.kind=.function
 nms:env.scope.names=names
 cls:env.cells=cells
 loc:env.locals=L
 glo:env.globals=mainGlobals
 blt:env.builtins=builtinsNs
 nd:(names.map (·.1)).Nodup
 cnd:(cells.map (·.1)).Nodup
variable{L:Addr}{names:Nk}{cells:Ce}
theorem EnvOk.kindOf(H:EnvOk env L names cells){x:Str}{k:NameKind}(h:(x,k)∈names):env.kindOf x=some k:=by
 show env.scope.names.lookup x=some k
 refine rz (H.nms ..) <| A5 H.nd h
theorem EnvOk.cell(H:EnvOk env L names cells){x:Str}{a:Addr}(h:(x,a)∈cells):env.cells.lookup x=some a:=by
 refine rz (H.cls ..) <| A5 H.cnd h
theorem Ct{x:Str}{pos:Pos}{ρ:Od}{d:PyData}{Q:VP}(S:St c X T s)(H:EnvOk env L names cells)(hn:(x,NameKind.local)∈names)
  (hX:(L,Knd.map ρ)∈X)(hx:(x,some d)∈ρ)(k:Kon c X T d Q)(hd:(x == ("__debug__" : Str))=false):wpAny (model prog w) A (eval (.Name x pos) env) Q E s:=by
 obtain⟨m,v,h1,h2,h3⟩:=S.look hX hx;exact wpAny_Name (wpAny_loadName_local H.kind (H.kindOf hn) (H.loc▸h1) h2 (k.app S h3)) hd
theorem r_cell{x:Str}{pos:Pos}{a:Addr}{d:PyData}{Q:VP}(S:St c X T s)(H:EnvOk env L names cells)(hn:(x,NameKind.cell)∈names)
  (ha:(x,a)∈cells)(hX:(a,Knd.cell (some d))∈X)(k:Kon c X T d Q)(hd:(x == ("__debug__" : Str))=false):wpAny (model prog w) A (eval (.Name x pos) env) Q E s:=by
 obtain⟨v,h1,h3⟩:=S.lookC hX;exact wpAny_Name (wpAny_loadName_cell H.kind (H.kindOf hn) (H.cell ha) h1 (k.app S h3)) hd
theorem r_free{x:Str}{pos:Pos}{a:Addr}{d:PyData}{Q:VP}(S:St c X T s)(H:EnvOk env L names cells)(hn:(x,NameKind.free)∈names)
  (ha:(x,a)∈cells)(hX:(a,Knd.cell (some d))∈X)(k:Kon c X T d Q)(hd:(x == ("__debug__" : Str))=false)(hc:(x == ("__classdict__" : Str))=false):wpAny (model prog w) A (eval (.Name x pos) env) Q E s:=by
 obtain⟨v,h1,h3⟩:=S.lookC hX;exact wpAny_Name (wpAny_loadName_free H.kind (H.kindOf hn) (H.cell ha) h1 (k.app S h3) hc) hd
theorem OwnAt.put{P:Addr→Prop}{h':Heap}{L:Addr}{ρ ρ':Od}{x:Str}{d:Option PyData}{v:Value}{m:Str→Option Value}(nd:(ρ.map (·.1)).Nodup)(hm:∀ x d,(x,some d)∈ρ→∃ v,m x=some v∧Rp P h' v d)
  (U:Put x d ρ ρ')(hv:∀ d',d=some d'→Rp P h' v d')(hn:h'.Ns L (fun y=>if y=x then some v else m y)):OwnAt P h' L (.map ρ'):=by
 refine⟨by refine rz (U.keys ..) <| nd,_,hn,fun y e hy=>?_⟩
 rcases U.cases nd _ hy with q | ⟨q,ne⟩
 ·cases q;exact⟨v,if_pos rfl,hv _ rfl⟩
 ·obtain⟨u,e1,e2⟩:=hm y e q;exact⟨u,(if_neg ne).trans e1,e2⟩
theorem St.rpUps(S:St c X T s){a:Addr}{k k':Knd}(U:Ups a k k' X X'){h':Heap}(hk:∀ b o,b≠a→s.heap.get? b=some o→h'.get? b=some o){v:Value}{d:PyData}(h:Rp (ban c X) s.heap v d):Rp (ban c X') h' v d :=
 h.mono (fun b o V q=>by unfold ban at q⊢;rw[U.keys] at q;exact q) (fun b o n e=>hk b o (fun q=>n (q▸.inr (List.mem_map.mpr ⟨_,U.mem,rfl⟩))) e)
theorem Gn{x:Str}{v:Value}{d:PyData}{ρ ρ':Od}{Q:Unit→Shared→Prop}(S:St c X T s)(H:EnvOk env L names cells)(hn:(x,NameKind.local)∈names)
  (hv:Rp (ban c X) s.heap v d)(U:Ups L (.map ρ) (.map ρ') X X')(P:Put x (some d) ρ ρ')(k:∀ s',St c X' T s'→Q () s'):wpAny (model prog w) A (storeName env x v) Q E s:=by
 obtain⟨nd,m,hns,hm⟩:=S.own _ U.mem;have eL:=H.loc;subst eL;refine wpAny_storeName_local (H.kindOf hn) hns (fun h' hn' hs=>k _ ?_) (by refine rz (H.kind ..) ?_;rfl)
 have hk:∀ b o,b≠env.locals→s.heap.get? b=some o→h'.get? b=some o:=fun b o ne e=>hs.extBut b o ne e
 refine S.upd U hk S.gens rfl ?_;refine OwnAt.put nd (fun y e hy=>?_) P (fun d' e=>?_) hn'
 ·obtain⟨u,e1,e2⟩:=hm y e hy;exact⟨u,e1,S.rpUps U hk e2⟩
 ·cases e;exact S.rpUps U hk hv
theorem r_storeC{x:Str}{v:Value}{d:PyData}{d₀:Option PyData}{a:Addr}{Q:Unit→Shared→Prop}(S:St c X T s)(H:EnvOk env L names cells)(hn:(x,NameKind.cell)∈names)
  (hv:Rp (ban c X) s.heap v d)(ha:(x,a)∈cells)(U:Ups a (.cell d₀) (.cell (some d)) X X')(k:∀ s',St c X' T s'→Q () s'):wpAny (model prog w) A (storeName env x v) Q E s:=by
 obtain⟨v₀,hc,_⟩:=S.own _ U.mem;refine wpAny_storeName_cell H.kind (H.kindOf hn) (H.cell ha) hc fun h' hc' hs=>k _ ?_
 have hk:∀ b o,b≠a→s.heap.get? b=some o→h'.get? b=some o:=fun b o ne e=>hs.extBut b o ne e
 exact S.upd U hk S.gens rfl ⟨_,hc',fun d' e=>by cases e;exact⟨v,rfl,S.rpUps U hk hv⟩⟩
theorem r_glob{x:Str}{pos:Pos}{v:Value}{Q:VP}(S:St c X T s)(H:EnvOk env L names cells)(hn:(x,NameKind.globalImplicit)∈names)
  (hK:nsIn c.K mainGlobals x=some (some v))(k:Q v s)(hd:(x == ("__debug__" : Str))=false):wpAny (model prog w) A (eval (.Name x pos) env) Q E s:=by
 refine wpAny_Name (show wpAny _ _ (loadName env x) _ _ _ from ?_) hd
 refine rz (loadName_read H.kind (H.kindOf hn) ..) ?_;unfold loadGlobal;refine rz (H.glo ..) <| wpAny_bind ((looks_nsIn S.stat hK).here (wpAny_pure k))
theorem r_blt{x:Str}{pos:Pos}{v:Value}{Q:VP}(S:St c X T s)(H:EnvOk env L names cells)(hn:(x,NameKind.globalImplicit)∈names)
  (hK:nsIn c.K mainGlobals x=some none∧nsIn c.K builtinsNs x=some (some v))(k:Q v s)(hd:(x == ("__debug__" : Str))=false):wpAny (model prog w) A (eval (.Name x pos) env) Q E s:=by
 refine wpAny_Name (show wpAny _ _ (loadName env x) _ _ _ from ?_) hd
 refine rz (loadName_read H.kind (H.kindOf hn) ..) ?_;unfold loadGlobal;refine rz (H.glo ..) <| rz (H.blt ..) <| wpAny_bind ((looks_nsIn S.stat hK.1).here ?_)
 exact wpAny_bind ((looks_nsIn S.stat hK.2).here (wpAny_pure k))
theorem r_int{i:Int}{k pos} {Q:VP}(S:St c X T s) (h:∀ t s',St c X T s'→Q (.int i t) s'):wpAny (model prog w) A (eval (.Constant (.int i) k pos) env) Q E s:=wpAny_Constant_int (h _ _ (S.toks _))
theorem r_str{x:Str}{k pos} {Q:VP}(S:St c X T s) (h:∀ t s',St c X T s'→Q (.str x t) s'):wpAny (model prog w) A (eval (.Constant (.str x) k pos) env) Q E s:=wpAny_Constant_str (h _ _ (S.toks _))
theorem r_add{a b:Int}{t u:Tok}{Q:VP}(S:St c X T s)(h:∀ t s',St c X T s'→Q (.int (a+b) t) s'):wpAny (model prog w) A (binaryOp .Add (.int a t) (.int b u)) Q E s:=wpAny_add_int (h _ _ (S.toks _))
theorem r_sub{a b:Int}{t u:Tok}{Q:VP}(S:St c X T s)(h:∀ t s',St c X T s'→Q (.int (a-b) t) s'):wpAny (model prog w) A (binaryOp .Sub (.int a t) (.int b u)) Q E s:=PyProof.Rows.sub_int (h _ _ (S.toks _))
theorem r_mod{a b:Int}{t u:Tok}{Q:VP}(S:St c X T s)(hb:b≠0)(h:∀ t s',St c X T s'→Q (.int (a.fmod b) t) s'):wpAny (model prog w) A (binaryOp .Mod (.int a t) (.int b u)) Q E s:=mod_int' hb (h _ _ (S.toks _))
theorem r_eqstr{x y:Str}{t u:Tok}{Q:VP}(h:Q (.bool (x == y)) s):wpAny (model prog w) A (compareOp .Eq (.str x t) (.str y u)) Q E s:=PyProof.Rows.eq_str h
end
structure OkA(n:Nat)(A:Around):Prop where
 h:A.handled=none
 d:A.depth+n≤900
 u:A.units+100*n≤9000
 f:∃ l,A.frames=some l
 g:∃ l,A.guards=some l
theorem OkA.deeper{n:Nat}{A:Around}(H:OkA (n+1) A)(env:Env):OkA n (A.deeper env):=by
 obtain⟨h,d,u,⟨f,hf⟩,⟨g,hg⟩⟩:=H;refine⟨h,?_,?_,⟨env::f,?_⟩,⟨g,hg⟩⟩
 ·show A.depth+1+n≤900;exact(ar [_,_] (.a (.a Aa Ad) Ab) (.n 900) (.c 1 (.a Aa (.a Ab Ad)) (.n 900) .z) 0 rfl d)
 ·show A.units+3+100*n≤9000;exact(ar [_,_] (.a (.a Aa (.n 3)) (.m 100 Ab)) (.n 9000) (.c 1 (.a Aa (.m 100 (.a Ab Ad))) (.n 9000) .z) 0 rfl u)
 ·show A.frames.map (env::·)=_;refine rz (hf ..) ?_;rfl
theorem OkA.room{n:Nat}{A:Around}(H:OkA n A):A.depth<recursionLimit:=by have:=H.d;show A.depth<1000;exact(ar [_,_] (.a Aa Ad) Am (.c 1 (.a Aa Ab) (.n 900) .z) 0 rfl this)
theorem OkA.units{n:Nat}{A:Around}(H:OkA n A):A.units+64<cLine:=by have:=H.u;show A.units+64<9900;exact(ar [_,_] (.a (.a Aa (.n 64)) Ad) (.n 9900) (.c 1 (.a Aa (.m 100 Ab)) (.n 9000) .z) 0 rfl this)
theorem OkA.le{n m:Nat}{A:Around}(H:OkA n A)(h:m≤n):OkA m A:=⟨H.h,by have:=H.d;exact(ar [_,_,_] (.a Ag Aa) (.n 900) (.c 1 Aa Ab (.c 1 (.a Ag Ab) (.n 900) .z)) 0 rfl h this),by have:=H.u;have:100*m≤100*n:=mul_le_mul_left _ h;exact(ar [_,_,_] (.a Ag (.m 100 Aa)) (.n 9000) (.c 100 Aa Ab (.c 1 (.a Ag (.m 100 Ab)) (.n 9000) .z)) 0 rfl h (by assumption)),H.f,H.g⟩
theorem Bx:∀ (names:Nk) (n:Nat) (acc:List (Str × Nat)) (x:Str) (a:Nat),(x,a)∈cellsFrom n names acc→(x,a)∈acc∨((x,NameKind.cell)∈names∧n≤a∧a<n+names.length)
 |[],n,acc,x,a,h=>.inl h
 |(y,k)::r,n,acc,x,a,h=>by
  unfold cellsFrom at h
  split at h
  ·rename_i hk
   rcases Bx r (n+1) _ x a h with h | ⟨h,h1,h2⟩
   ·rcases List.mem_cons.mp h with e | h
    ·cases e;exact .inr ⟨by refine rz (eq_of_beq hk ..) <| .head _,le_refl _,by simp⟩
    ·exact .inl h
   ·exact .inr ⟨.tail _ h,by exact(le_of_lt h1),by simp only[length_cons];exact(ar [_,_,_] (.a Aa Ad) (.a Ab (.a Ag Ad)) (.c 1 (.a Aa Ad) (.a (.a Ab Ad) Ag) .z) 0 rfl h2)⟩
  ·rcases Bx r n _ x a h with h | ⟨h,h1,h2⟩
   ·exact .inl h
   ·exact .inr ⟨.tail _ h,h1,by simp only[length_cons];exact(ar [_,_,_] (.a Aa Ad) (.a Ab (.a Ag Ad)) (.c 1 (.a Aa Ad) (.a Ab Ag) .z) 0 rfl h2)⟩
theorem Ca:∀ (names:Nk) (n:Nat) (acc:Ce),(cellsFrom n names acc).map (·.1)=((names.filter (·.2 == .cell)).map (·.1)).reverse++acc.map (·.1)
 |[],n,acc=>by simp[cellsFrom]
 |(y,k)::r,n,acc=>by
  unfold cellsFrom
  by_cases hk:(k == NameKind.cell)=true
  ·refine rz (if_pos hk ..) <| rz (Ca r ..) ?_;simp[hk]
  ·refine rz (if_neg hk ..) <| rz (Ca r ..) ?_;simp[hk]
theorem De{names:Nk}(nd:(names.map (·.1)).Nodup)(n:Nat):((cellsFrom n names []).map (·.1)).Nodup:=by
 refine rz (Ca ..) <| rz (map_nil ..) <| rz (append_nil ..) ?_
 have:((names.filter (·.2 == .cell)).map (·.1)).Nodup:=List.Sublist.nodup (List.Sublist.map _ filter_sublist) nd
 exact List.pairwise_reverse.mpr (this.imp fun h=>Ne.symm h)
section
variable{prog:Program}{w:World}{A:Around}{E:VP}{R:Result→Shared→Prop}{c:Cx}{X X':Xs}{T T' T0:Ts}{s s':Shared}{env:Env}
structure Iter(prog:Program)(w:World)(A:Around)(c:Cx)(I:Addr)(kn:Nat→Xs)(ds:Lp)(T0:Ts)(tg:Expr):Prop where
 item:∀ i d X T s (Q:VP) (E E':VP),ds[i]?=some d→St c (kn i++X) T s→(∀ q∈T0,q∈T)→(∀ v s',St c (kn (i+1)++X) ((v,d)::T) s'→Q v s') →
  wpAny (model prog w) A (pyNext (.ref I)) (fun r s₁=>match r with | some v=>wpAny (model prog w) A (letOwnedTupleGo tg (.ref I) v) (fun V s₂=>Q v s₂) E' s₁ | none=>False) E s
 done:∀ X T s (Q:Option Value→Shared→Prop) (E:VP),St c (kn ds.length++X) T s→(∀ q∈T0,q∈T)→(∀ s',St c X T s'→Q none s') →
  wpAny (model prog w) A (pyNext (.ref I)) Q E s
 self:∀ i X T s (Q:VP) (E:VP),St c (kn i++X) T s→Q (.ref I) s→wpAny (model prog w) A (pyIter (.ref I)) Q E s
theorem D4{target:Expr}{it:Value}{body:List Stmt}(I:Nat→Shared→Prop)
  (turn:∀ n s,I n s→wpAny (model prog w) A (pyNext it) (fun r s₁=>match r with
   |none=>R (.ok .next) s₁
   |some v=>wpAny (model prog w) A (letOwnedTupleGo target it v) (fun V s₁'=>wpAny (model prog w) A (assign target env v) (fun V s₂=>wpAny (model prog w) A (execs body env) (fun f s₃=>match f with
     |.next | .cont=>∃ m,m<n∧I m s₃
     |.brk=>R (.ok .next) s₃
     |.ret v=>R (.ok (.ret v)) s₃) (notedBy (model prog w) A env fun e s'=>R (.error e) s') s₂) (notedBy (model prog w) A env fun e s'=>R (.error e) s') s₁') (notedBy (model prog w) A env fun e s'=>R (.error e) s') s₁) (notedBy (model prog w) A env fun e s'=>R (.error e) s') s)
  (n:Nat)(h:I n s):codeAny (model prog w) A (.forLoop target it body [] env) R s :=
 codeAny_forLoop_any I (fun n s hI=>wpAny_mono (turn n s hI) (fun r s₁ h₁=>by
  cases r with
  |none=>exact wpAny_execs_nil h₁
  |some v=>exact h₁) fun V V h=>h) n h
theorem for_it{I:Addr}{kn:Nat→Xs}{ds:Lp}{target:Expr}{body:List Stmt}{Q:Flow→Shared→Prop}(W:Iter prog w A c I kn ds T0 target)(J:Nat→Xs→Prop)
  (S:St c (kn 0++X) T0 s)(h0:J 0 X)
  (turn:∀ i d X v s (E':VP),ds[i]?=some d→J i X→St c (kn (i+1)++X) ((v,d)::T0) s→wpAny (model prog w) A (assign target env v) (fun V s₂=>wpAny (model prog w) A (execs body env) (fun f s₃=>match f with
   |.next | .cont=>∃ X',J (i+1) X'∧St c (kn (i+1)++X') T0 s₃
   |.brk=>Q .next s₃
   |.ret r=>Q (.ret r) s₃) E' s₂) E' s)
  (done:∀ X s,J ds.length X→St c X T0 s→Q .next s) :
  codeAny (model prog w) A (.forLoop target (.ref I) body [] env) (fun r s'=>match r with | .ok f=>Q f s' | .error e=>cameBackBy (model prog w) A env E e s') s:=by
 refine D4 (fun n s'=>∃ i X,n=ds.length-i∧i≤ds.length∧J i X∧St c (kn i++X) T0 s') ?_ ds.length ⟨0,X,rfl,zero_le _,h0,S⟩
 rintro n s' ⟨i,X,rfl,hi,hJ,S⟩
 by_cases hlt:i<ds.length
 ·have hd:ds[i]?=some ds[i]:=List.getElem?_eq_getElem hlt;have key:=W.item i ds[i] _ _ _ (fun v s₂=>St c (kn (i+1)++X) ((v,ds[i])::T0) s₂) (notedBy (model prog w) A env fun e s'=>cameBackBy (model prog w) A env E e s') (notedBy (model prog w) A env fun e s'=>cameBackBy (model prog w) A env E e s') hd S (fun q h=>h) (fun v s' h=>h)
  refine wpAny_mono key (fun r s₁ h₁=>?_) fun V V h=>h
  cases r with
  |none=>exact h₁.elim
  |some v =>
   refine wpAny_mono h₁ (fun V s₂ S₂=>?_) fun V V h=>h
   refine wpAny_mono (turn i _ X v s₂ _ hd hJ S₂) (fun V s₃ h₃=>wpAny_mono h₃ (fun f s₄ h₄=>?_) fun V V h=>h) fun V V h=>h
   cases f with
   |next=>obtain⟨X',j,S'⟩:=h₄;exact⟨ds.length-(i+1),by exact(ar [_,_,_,_] (.a An Ad) Ab (.c 1 Aa (.a Ab Ag) (.c 1 (.a An (.a Ag Ad)) Aa .z)) 0 rfl (le_sa ..) (le_of_eq (sub_add_cancel hlt))),i+1,X',rfl,hlt,j,S'⟩
   |cont=>obtain⟨X',j,S'⟩:=h₄;exact⟨ds.length-(i+1),by exact(ar [_,_,_,_] (.a An Ad) Ab (.c 1 Aa (.a Ab Ag) (.c 1 (.a An (.a Ag Ad)) Aa .z)) 0 rfl (le_sa ..) (le_of_eq (sub_add_cancel hlt))),i+1,X',rfl,hlt,j,S'⟩
   |brk=>exact h₄
   |ret v=>exact h₄
 ·have:i=ds.length:=by exact(le_antisymm hi (le_of_not_lt hlt))
  subst this;exact W.done _ _ _ _ _ S (fun q h=>h) fun s' S'=>done X s' hJ S'
noncomputable def knList(l:Addr)(i:Nat):Knd:=.is fun o=>o.cls=.type "list_iterator" ∧ o.data=.fields #[.ref l,.int i 0]
noncomputable def knStr(x:Str)(t:Tok)(i:Nat):Knd:=.is fun o=>o.cls=.type (strIterType x)∧o.data=.fields #[.str x t,.int i 0]
noncomputable def knRange(a:Int)(n:Nat)(i:Nat):Knd:=.is fun o=>o={ cls:=.type "range_iterator",dict:=none,data:=.fields #[rawInt (a+i),rawInt (n-i),rawInt 1],slots:=#[] }
theorem Fj{tg:Expr}{I:Addr}{v:Value}{o:Obj}{n:String}{Q:Unit→Shared→Prop}(ho:s.heap.get? I=some o)(hc:o.cls=.type n)(hn:(["enumerate","zip","dict_itemiterator","dict_reverseitemiterator","odict_iterator","itertools.zip_longest","itertools.pairwise"]:List String).contains n=false)
  (h:Q () s):wpAny (model prog w) A (letOwnedTupleGo tg (.ref I) v) Q E s:=by
 obtain⟨oc,od,odt,osl⟩:=o;dsimp only at hc;subst hc
 have key:∀ a b p,wpAny (model prog w) A (letOwnedTupleGo (.Tuple a b p) (.ref I) v) Q E s:=by
  intro a b p;cases v with
  |ref r =>
   refine wpAny_bind (wpAny_load ho ?_);dsimp only;cases odt<;>first | exact wpAny_pure h | (dsimp only;refine rz (hn ..) <| wpAny_pure h)
  |_=>exact wpAny_pure h
 cases tg with
 |Tuple a b p=>exact key a b p
 |List a p=>exact key a 0 p
 |_=>exact wpAny_pure h
theorem Rp.listObj{P:Addr→Prop}{h:Heap}{v:Value}{ds:Lp}(H:Rp P h v (.list ds)):∃ a vs n,v=.ref a∧¬ P a∧h.get? a=some ⟨.type "list",Option.none,.seq vs n,#[]⟩∧Rps P h vs.toList ds:=by
 cases H with | list h1 h2 h3=>exact⟨_,_,_,rfl,h1,h2,h3⟩
theorem Rp.tupleObj{P:Addr→Prop}{h:Heap}{v:Value}{ds:Lp}(H:Rp P h v (.tuple ds)):∃ a vs n,v=.ref a∧¬ P a∧h.get? a=some ⟨.type "tuple",Option.none,.seq vs n,#[]⟩∧Rps P h vs.toList ds:=by
 cases H with | tuple h1 h2 h3=>exact⟨_,_,_,rfl,h1,h2,h3⟩
theorem St.step(S:St c X T s){a:Addr}{k k':Knd}(U:Ups a k k' X X'){h':Heap}{t:Nat}(hk:∀ b o,b≠a→s.heap.get? b=some o→h'.get? b=some o)(own:OwnAt (ban c X') h' a k'):St c X' T { s with heap:=h',toks:=t } :=
 S.upd U hk S.gens rfl own
theorem memZ1{I b:Addr}{k:Knd}(h:b∉[(I,k)].map (·.1)):b≠I:=fun e=>h (rz (e ..) <| List.mem_singleton.mpr rfl)
theorem one_upd{I:Addr}{k k':Knd}(S:St c ([(I,k)]++X) T s){h':Heap}{t:Nat}(hk:∀ b o,b≠I→s.heap.get? b=some o→h'.get? b=some o)(own:OwnAt (ban c ([(I,k')]++X)) h' I k'):St c ([(I,k')]++X) T { s with heap:=h',toks:=t } :=
 S.updL rfl (fun b o h e=>hk b o (memZ1 h) e) S.gens rfl (fun p hp=>by refine rz (List.mem_singleton.mp hp ..) <| own)
theorem Dq{I:Addr}{k:Knd}(S:St c ([(I,k)]++X) T s):OwnAt (ban c ([(I,k)]++X)) s.heap I k:=S.own _ (.head _)
theorem one_rp{I:Addr}{k k':Knd}{h h':Heap}(hk:∀ b o,b≠I→h.get? b=some o→h'.get? b=some o){v:Value}{d:PyData}(H:Rp (ban c ([(I,k)]++X)) h v d):Rp (ban c ([(I,k')]++X)) h' v d :=
 Rp.updL rfl (fun b o h e=>hk b o (memZ1 h) e) H
theorem Gr{I:Addr}{k:Knd}(S:St c ([(I,k)]++X) T s)(hne:I≠c.L){h':Heap}{t:Nat}(hk:∀ b o,b≠I→s.heap.get? b=some o→h'.get? b=some o):St c X T { s with heap:=h',toks:=t } :=
 S.loseL (fun h=>hne (List.mem_singleton.mp h).symm) (fun b o h e=>hk b o (memZ1 h) e)
theorem iter_list(hh:A.handled=none){l:Addr}{ds:Lp}{tg:Expr}{I:Addr}(hne:I≠c.L)(hT:(.ref l,.list ds)∈T0):Iter prog w A c I (fun i=>[(I,knList l i)]) ds T0 tg where
 item:=by
  intro i d X T s Q E E' hd S hT0 hQ;obtain⟨l',vs,n,e,nb,hl,hr⟩:=(S.tmp _ (hT0 _ hT)).listObj;cases e;obtain⟨oI,hI,hI1,hI2⟩:=Dq S;obtain⟨v,hv,rv⟩:=hr.get hd;refine wpAny_pyNext_list_item (it:=I) (l:=l) (i:=i) (x:=v) ⟨oI,hI,hI1,hI2⟩ ⟨_,hl,rfl,_,rfl⟩ (by simpa using hv) (fun h' hit hs=>?_)
  obtain⟨o',ho',hc',hd'⟩:=hit;have hk:∀ b o,b≠I→s.heap.get? b=some o→h'.get? b=some o:=fun b o ne e=>hs.extBut b o ne e
  have S':=one_upd (k':=knList l (i+1)) S (h':=h') (t:=s.toks) hk ⟨o',ho',hc',hd'⟩;exact Fj ho' hc' (by decide) (hQ v _ (S'.push (one_rp hk rv)))
 done:=by
  intro X T s Q E S hT0 hQ;obtain⟨l',vs,n,e,nb,hl,hr⟩:=(S.tmp _ (hT0 _ hT)).listObj;cases e;obtain⟨oI,hI,hI1,hI2⟩:=Dq S;have hlen:=hr.length;have hsz:vs.size=ds.length:=by simpa using hlen
  refine wpAny_pyNext_list_end (it:=I) (l:=l) hh ⟨oI,hI,hI1,hI2⟩ ⟨_,hl,rfl,_,rfl⟩ (by simp[hsz]) (fun h' hs=>hQ _ (Gr S hne (t:=s.toks) hs))
 self:=by
  intro i X T s Q E S h;obtain⟨oI,hI,hI1,hI2⟩:=Dq S;exact wpAny_pyIter_listiter ⟨oI,hI,hI1,hI2⟩ h
theorem Gl(x:Str):strIterType x = "str_ascii_iterator" ∨ strIterType x = "str_iterator" := by unfold strIterType;split<;>simp
theorem iter_str(hh:A.handled=none){x:Str}{t:Tok}{tg:Expr}{I:Addr}(hne:I≠c.L):Iter prog w A c I (fun i=>[(I,knStr x t i)]) (x.cps.toList.map fun n=>.str ⟨#[n]⟩) T0 tg where
 item:=by
  intro i d X T s Q E E' hd S hT0 hQ;obtain⟨oI,hI,hI1,hI2⟩:=Dq S;obtain⟨n,hn,rfl⟩:∃ n,x.cps[i]?=some n∧d=.str ⟨#[n]⟩:=by
   rw[List.getElem?_map,Option.map_eq_some_iff] at hd;obtain⟨n,h1,h2⟩:=hd
   exact⟨n,by simpa using h1,h2.symm⟩
  have fin:∀ h' t',h'.IsStrIter I (strIterType x) x t (i+1)→Heap.SameBut I s.heap h'→wpAny (model prog w) A (letOwnedTupleGo tg (.ref I) (.str ⟨#[n]⟩ t')) (fun V s₂=>Q (.str ⟨#[n]⟩ t') s₂) E' { s with heap:=h',toks:=s.toks+1 }:=by
   intro h' t' hit hs;obtain⟨o',ho',hc',hd'⟩:=hit;have hk:∀ b o,b≠I→s.heap.get? b=some o→h'.get? b=some o:=fun b o ne e=>hs.extBut b o ne e
   have S':=one_upd (k':=knStr x t (i+1)) S (h':=h') (t:=s.toks+1) hk ⟨o',ho',hc',hd'⟩;exact Fj ho' hc' (by rcases Gl x with e | e<;>refine rz (e ..) ?_<;>decide) (hQ _ _ (S'.push (.str _ _)))
  rcases Gl x with e | e<;>rw[e] at hI1 fin
  ·exact wpAny_pyNext_ascii_item ⟨oI,hI,hI1,hI2⟩ hn fun h' hit hs=>fin h' _ hit hs
  ·exact wpAny_pyNext_wide_item ⟨oI,hI,hI1,hI2⟩ hn fun h' hit hs=>fin h' _ hit hs
 done:=by
  intro X T s Q E S hT0 hQ;obtain⟨oI,hI,hI1,hI2⟩:=Dq S;have hx:x.cps[(x.cps.toList.map fun n=>(PyData.str ⟨#[n]⟩)).length]?=none:=by simp
  rcases Gl x with e | e<;>rw[e] at hI1
  ·exact wpAny_pyNext_ascii_end hh ⟨oI,hI,hI1,hI2⟩ hx fun h' hs=>hQ _ (Gr S hne (t:=s.toks) hs)
  ·exact wpAny_pyNext_wide_end hh ⟨oI,hI,hI1,hI2⟩ hx fun h' hs=>hQ _ (Gr S hne (t:=s.toks) hs)
 self:=by
  intro i X T s Q E S h;obtain⟨oI,hI,hI1,hI2⟩:=Dq S;rcases Gl x with e | e<;>rw[e] at hI1
  ·exact wpAny_pyIter_striter_ascii ⟨oI,hI,hI1,hI2⟩ h
  ·exact wpAny_pyIter_striter_wide ⟨oI,hI,hI1,hI2⟩ h
noncomputable def rng(a:Int)(n:Nat):List Int:=(List.range n).map fun(i:Nat)=>a+(i:Int)
theorem rng_get{a:Int}{n i:Nat}{d:PyData}(hd:((rng a n).map PyData.int)[i]?=some d):i<n∧d=.int (a+i):=by
 rw[List.getElem?_map,Option.map_eq_some_iff] at hd;obtain⟨k,h1,h2⟩:=hd
 unfold rng at h1;rw[List.getElem?_map,Option.map_eq_some_iff] at h1
 obtain⟨j,h1,h3⟩:=h1;obtain⟨hl,e⟩:=List.getElem?_eq_some_iff.mp h1;simp at hl e
 subst e;exact⟨hl,by refine rz (Eq.symm (h2 ..)) <| rz (Eq.symm (h3 ..)) rfl⟩
theorem iter_range(hh:A.handled=none){a:Int}{n:Nat}{tg:Expr}{I:Addr}(hne:I≠c.L):Iter prog w A c I (fun i=>[(I,knRange a n i)]) ((rng a n).map .int) T0 tg where
 item:=by
  intro i d X T s Q E E' hd S hT0 hQ;obtain⟨oI,hI,hI2⟩:=Dq S;obtain⟨hlt,rfl⟩:=rng_get hd;subst hI2;refine wpAny_pyNext_range_item (x:=a+i) (left:=n-i) (step:=1) hI (ai [_,_] [] (.a Aj Ah) (.s (.c Ab) (.c Aa)) (.c 1 (.a Aa Ad) Ab .z) 0 rfl hlt) fun h' hit hs=>?_
  have hk:∀ b o,b≠I→s.heap.get? b=some o→h'.get? b=some o:=fun b o ne e=>hs.extBut b o ne e
  have hit':h'.get? I=some { cls:=.type "range_iterator",dict:=none,data:=.fields #[rawInt (a+(i+1:Nat)),rawInt (n-(i+1:Nat)),rawInt 1],slots:=#[] }:=by
   have e1:a+((i+1:Nat):Int)=a+i+1:=by exact(Int.le_antisymm (ai [_] [_] (.a Af (.c (.a Aa Ad))) (.a (.a Af (.c Aa)) Ah) .z 0 rfl) (ai [_] [_] (.a (.a Af (.c Aa)) Ah) (.a Af (.c (.a Aa Ad))) .z 0 rfl))
   have e2:(n:Int)-((i+1:Nat):Int)=n-i-1:=by exact(Int.le_antisymm (ai [_,_] [] (.s (.c Aa) (.c (.a Ab Ad))) (.s (.s (.c Aa) (.c Ab)) Ah) .z 0 rfl) (ai [_,_] [] (.s (.s (.c Aa) (.c Ab)) Ah) (.s (.c Aa) (.c (.a Ab Ad))) .z 0 rfl))
   refine rz (e1 ..) <| rz (e2 ..) <| hit
  have S':=one_upd (k':=knRange a n (i+1)) S (h':=h') (t:=s.toks+1) hk ⟨_,hit',rfl⟩;exact Fj hit' rfl (by decide) (hQ _ _ (S'.push (.int _ _)))
 done:=by
  intro X T s Q E S hT0 hQ;obtain⟨oI,hI,hI2⟩:=Dq S;subst hI2;have e:((rng a n).map PyData.int).length=n:=by simp[rng]
  rw[e] at hI;exact wpAny_pyNext_range_end hh (x:=a+n) (left:=n-n) (step:=1) hI (ai [_] [] (.s (.c Aa) (.c Aa)) Aj .z 0 rfl) fun h' hs=>hQ _ (Gr S hne (t:=s.toks) hs)
 self:=by
  intro i X T s Q E S h;obtain⟨oI,hI,hI2⟩:=Dq S;subst hI2;exact wpAny_pyIter_rangeiter hI h
noncomputable def Es(e it l:Addr)(i:Nat):Xs :=
 [(e,.is fun o=>∃ old,o={ cls:=.type "enumerate",dict:=none,data:=.fields #[.none,.bool false,.ref it,rawInt i,.none,old],slots:=#[] }),(it,knList l i)]
noncomputable def Cz(i:Nat)(l:Lp):Lp:=(l.zipIdx i).map fun p=>.tuple [.int p.2,p.1]
theorem D8(i:Nat)(ds:Lp):(Cz i ds).length=ds.length:=(length_map ..).trans (length_zipIdx ..)
theorem F9{ds:Lp}{k i:Nat}{d:PyData}(h:(Cz k ds)[i]?=some d):∃ d',ds[i]?=some d'∧d=.tuple [.int (k+i:Nat),d']:=by
 obtain⟨p,h1,rfl⟩:=Option.map_eq_some_iff.mp ((List.getElem?_map ..).symm.trans h);obtain⟨x,h3,rfl⟩:=Option.map_eq_some_iff.mp ((List.getElem?_zipIdx ..).symm.trans h1);exact⟨x,h3,rfl⟩
theorem numbered_map{α:Type}(f:α→PyData)(xs:List α)(k:Nat):Cz k (xs.map f)=(xs.zipIdx k).map fun p=>.tuple [.int (p.2:Nat),f p.1]:=(congrArg (List.map _) (List.zipIdx_map ..)).trans (map_map ..)
theorem iter_enum(hh:A.handled=none){l e it:Addr}{ds:Lp}{elts:List Expr}{x1} {pos:Pos}(hei:e≠it) (hne:c.L∉[e,it]) (hT:(.ref l,.list ds)∈T0):Iter prog w A c e (Es e it l) (Cz 0 ds) T0 (.Tuple elts x1 pos) where
 item:=by
  intro i d X T s Q E E' hd S hT0 hQ;obtain⟨l',vs,n,e',nb,hl,hr⟩:=(S.tmp _ (hT0 _ hT)).listObj;cases e';obtain⟨d',hd',rfl⟩:=F9 hd;rw[zero_add] at hQ;obtain⟨oe,he,old,rfl⟩:=S.own (e,_) (.head _)
  obtain⟨oI,hI,hI1,hI2⟩:=S.own (it,_) (.tail _ (.head _));obtain⟨v,hv,rv⟩:=hr.get hd';refine wpAny_pyNext_enum_item (e:=e) (it:=it) (l:=l) (i:=i) (items:=vs) (x:=v) he ⟨oI,hI,hI1,hI2⟩ ⟨_,hl,rfl,_,rfl⟩ (by simpa using hv) hei fun h₁ heo hit₁ ht₁ hz₁ hk₁=>?_
  refine wpAny_letOwnedTupleGo_enum heo fun h₂ he₂ hs₂=>hQ _ _ ?_
  have hk:∀ b o,b∉(Es e it l i).map (·.1)→s.heap.get? b=some o→h₂.get? b=some o:=fun b o nb e'=>by
   have ne1:b≠e:=fun q=>nb (rz (q ..) <| .head _)
   have ne2:b≠it:=fun q=>nb (rz (q ..) <| .tail _ (.head _))
   exact hs₂.extBut b o ne1 (hk₁ b o ne1 ne2 e')
  obtain⟨o1,ho1,hc1,hd1⟩:=hit₁;have S':St c (Es e it l (i+1)++X) T { s with heap:=h₂,toks:=s.toks+1 }:=by
   refine S.updL rfl hk S.gens rfl fun p hp=>?_
   rcases List.mem_cons.mp hp with rfl | hp
   ·exact⟨_,he₂,_,rfl⟩
   ·refine rz (List.mem_singleton.mp hp ..) <| ⟨o1,hs₂.extBut _ _ hei.symm ho1,hc1,hd1⟩
  refine S'.push ?_;have hlt:s.heap.objs.size≠e:=ne_of_gt (Heap.lt_size he);refine .tuple (fun q=>?_) (hs₂.extBut _ _ hlt ht₁) (.cons (.int _ _) (.cons (Rp.updL rfl hk rv) .nil))
  have q':=(banL (c:=c) (X:=X) (Z:=Es e it l i) (Z':=Es e it l (i+1)) rfl _).mp q;obtain⟨o,ho⟩:=S.ban_lt q';exact absurd (Heap.lt_size ho) (lt_irrefl _)
 done:=by
  intro X T s Q E S hT0 hQ;obtain⟨l',vs,n,e',nb,hl,hr⟩:=(S.tmp _ (hT0 _ hT)).listObj;cases e';rw[D8] at S;obtain⟨oe,he,old,rfl⟩:=S.own (e,_) (.head _)
  obtain⟨oI,hI,hI1,hI2⟩:=S.own (it,_) (.tail _ (.head _));have hsz:vs.size=ds.length:=by simpa using hr.length
  refine wpAny_pyNext_enum_end (items:=vs) hh he ⟨oI,hI,hI1,hI2⟩ ⟨_,hl,rfl,_,rfl⟩ (by simp[hsz]) fun h' hs=>hQ _ (S.loseL (t:=s.toks) ?_ fun b o nb e'=>hs b o (fun q=>nb (rz (q ..) <| .tail _ (.head _))) e')
  exact hne
 self:=by
  intro i X T s Q E S h;obtain⟨oe,he,old,rfl⟩:=S.own (e,_) (.head _);exact wpAny_pyIter_enum he h
noncomputable def knZip(z TI TO i1 i2 l1 l2:Addr)(i:Nat):Xs :=
 [(z,.is fun o=>o={ cls:=.type "zip",dict:=none,data:=.fields #[.none,.bool false,.bool false,.ref TI,.ref TO],slots:=#[] }),(TI,.is fun o=>o={ cls:=.type "tuple",data:=.seq #[.ref i1,.ref i2] }),
 (TO,.is fun o=>∃ a b:Value,o={ cls:=.type "tuple",data:=.seq #[a,b] }),(i1,knList l1 i),(i2,knList l2 i)]
noncomputable def Fc(a b:Lp):Lp:=a.zipWith (fun d e=>.tuple [d,e]) b
theorem paired_get{ds es:Lp}{i:Nat}{d:PyData}(h:(Fc ds es)[i]?=some d):∃ a b,ds[i]?=some a∧es[i]?=some b∧d=.tuple [a,b] :=
 let ⟨a,b,h1,h2,h3⟩:=List.getElem?_zipWith_eq_some.mp h;⟨a,b,h1,h2,h3.symm⟩
theorem paired_length(ds es:Lp):(Fc ds es).length=min ds.length es.length:=List.length_zipWith
theorem paired_map{α β:Type}(f:α→PyData)(g:β→PyData)(a:List α)(b:List β):Fc (a.map f) (b.map g)=(a.zip b).map fun p=>.tuple [f p.1,g p.2]:=List.zipWith_map.trans (List.map_zipWith (f:=fun p:α × β=>PyData.tuple [f p.1,g p.2]) (g:=Prod.mk)).symm
theorem iter_zip(hh:A.handled=none){z TI TO i1 i2 l1 l2:Addr}{ds es:Lp}{elts:List Expr}{x1} {pos:Pos}(D:ZipApart z TI TO i1 i2 l1 l2) (hne:c.L∉[z,TI,TO,i1,i2]) (hT1:(.ref l1,.list ds)∈T0) (hT2:(.ref l2,.list es)∈T0) :
  Iter prog w A c z (knZip z TI TO i1 i2 l1 l2) (Fc ds es) T0 (.Tuple elts x1 pos) where
 item:=by
  intro i d X T s Q E E' hd S hT0 hQ;obtain⟨l',vs,n,e',nb,hl,hr⟩:=(S.tmp _ (hT0 _ hT1)).listObj;cases e';obtain⟨l',us,n',e',nb',hl',hr'⟩:=(S.tmp _ (hT0 _ hT2)).listObj;cases e';obtain⟨d1,d2,hd1,hd2,rfl⟩:=paired_get hd;obtain⟨oz,hz,rfl⟩:=S.own (z,_) (.head _);obtain⟨oTI,hTI,rfl⟩:=S.own (TI,_) (.tail _ (.head _));obtain⟨oTO,hTO,a,b,rfl⟩:=S.own (TO,_) (.tail _ (.tail _ (.head _)));obtain⟨o1,h1,h1c,h1d⟩:=S.own (i1,_) (.tail _ (.tail _ (.tail _ (.head _))));obtain⟨o2,h2,h2c,h2d⟩:=S.own (i2,_) (.tail _ (.tail _ (.tail _ (.tail _ (.head _)))));obtain⟨v1,hv1,rv1⟩:=hr.get hd1;obtain⟨v2,hv2,rv2⟩:=hr'.get hd2;refine wpAny_pyNext_zip_item (xs:=vs) (ys:=us) (x:=v1) (y:=v2) D hz hTI hTO ⟨o1,h1,h1c,h1d⟩ ⟨o2,h2,h2c,h2d⟩ ⟨_,hl,rfl,_,rfl⟩ ⟨_,hl',rfl,_,rfl⟩ (by simpa using hv1) (by simpa using hv2) fun h₁ a1 a2 a3 a4 a5 a6 hk₁=>?_
  refine wpAny_letOwnedTupleGo_zip a1 fun h₂ hz₂ hs₂=>hQ _ _ ?_
  have hk:∀ b o,b∉(knZip z TI TO i1 i2 l1 l2 i).map (·.1)→s.heap.get? b=some o→h₂.get? b=some o:=fun b o nb e'=>by
   have n1:b≠z:=fun q=>nb (rz (q ..) <| .head _)
   have n2:b≠TO:=fun q=>nb (rz (q ..) <| .tail _ (.tail _ (.head _)))
   have n3:b≠i1:=fun q=>nb (rz (q ..) <| .tail _ (.tail _ (.tail _ (.head _))))
   have n4:b≠i2:=fun q=>nb (rz (q ..) <| .tail _ (.tail _ (.tail _ (.tail _ (.head _)))))
   exact hs₂.extBut b o n1 (hk₁ b o n1 n2 n3 n4 e')
  obtain⟨p1,g1,g1c,g1d⟩:=a3;obtain⟨p2,g2,g2c,g2d⟩:=a4;have S':St c (knZip z TI TO i1 i2 l1 l2 (i+1)++X) T { s with heap:=h₂ }:=by
   refine S.updL rfl hk S.gens rfl fun p hp=>?_
   rcases List.mem_cons.mp hp with rfl | hp
   ·exact⟨_,hz₂,rfl⟩
   rcases List.mem_cons.mp hp with rfl | hp
   ·exact⟨_,hs₂.extBut _ _ D.TIz (hk₁ _ _ D.TIz D.TITO D.TIi1 D.TIi2 hTI),rfl⟩
   rcases List.mem_cons.mp hp with rfl | hp
   ·exact⟨_,hs₂.extBut _ _ D.TOz a2,_,_,rfl⟩
   rcases List.mem_cons.mp hp with rfl | hp
   ·exact⟨p1,hs₂.extBut _ _ D.i1z g1,g1c,g1d⟩
   ·refine rz (List.mem_singleton.mp hp ..) <| ⟨p2,hs₂.extBut _ _ D.i2z g2,g2c,g2d⟩
  refine S'.push ?_;have hlt:s.heap.objs.size≠z:=ne_of_gt (Heap.lt_size hz);refine .tuple (fun q=>?_) (hs₂.extBut _ _ hlt a5) (.cons (Rp.updL rfl hk rv1) (.cons (Rp.updL rfl hk rv2) .nil))
  have q':=(banL (c:=c) (X:=X) (Z:=knZip z TI TO i1 i2 l1 l2 i) (Z':=knZip z TI TO i1 i2 l1 l2 (i+1)) rfl _).mp q;obtain⟨o,ho⟩:=S.ban_lt q';exact absurd (Heap.lt_size ho) (lt_irrefl _)
 done:=by
  intro X T s Q E S hT0 hQ;obtain⟨l',vs,n,e',nb,hl,hr⟩:=(S.tmp _ (hT0 _ hT1)).listObj;cases e';obtain⟨l',us,n',e',nb',hl',hr'⟩:=(S.tmp _ (hT0 _ hT2)).listObj;cases e';rw[paired_length] at S;obtain⟨oz,hz,rfl⟩:=S.own (z,_) (.head _)
  obtain⟨oTI,hTI,rfl⟩:=S.own (TI,_) (.tail _ (.head _));obtain⟨oTO,hTO,a,b,rfl⟩:=S.own (TO,_) (.tail _ (.tail _ (.head _)));obtain⟨o1,h1,h1c,h1d⟩:=S.own (i1,_) (.tail _ (.tail _ (.tail _ (.head _))));obtain⟨o2,h2,h2c,h2d⟩:=S.own (i2,_) (.tail _ (.tail _ (.tail _ (.tail _ (.head _)))));have e1:vs.size=ds.length:=by simpa using hr.length
  have e2:us.size=es.length:=by simpa using hr'.length
  refine wpAny_pyNext_zip_end (xs:=vs) (ys:=us) hh D hz hTI hTO ⟨o1,h1,h1c,h1d⟩ ⟨o2,h2,h2c,h2d⟩ ⟨_,hl,rfl,_,rfl⟩ ⟨_,hl',rfl,_,rfl⟩ ?_ fun h' hk=>hQ _ (S.loseL (t:=s.toks) hne fun b o nb e'=>?_)
  ·rcases le_total ds.length es.length with h | h
   ·exact .inl (by simp[e1,min_eq_left h])
   ·exact .inr (by simp[e2,min_eq_right h])
  ·exact hk b o (fun q=>nb (rz (q ..) <| .head _)) (fun q=>nb (rz (q ..) <| .tail _ (.tail _ (.head _)))) (fun q=>nb (rz (q ..) <| .tail _ (.tail _ (.tail _ (.head _)))))
    (fun q=>nb (rz (q ..) <| .tail _ (.tail _ (.tail _ (.tail _ (.head _)))))) e'
 self:=by
  intro i X T s Q E S h;obtain⟨oz,hz,rfl⟩:=S.own (z,_) (.head _);exact wpAny_pyIter_zip hz h
theorem St.neL(S:St c X T s):s.heap.objs.size≠c.L:=fun e=>by obtain⟨o,h⟩:=S.top.2;rw[← e,get_size] at h;cases h
theorem r_iter_list(hh:A.handled=none){l:Addr}{ds:Lp}{Q:VP}(S:St c X T s)(hT:(.ref l,.list ds)∈T)
  (k:∀ I s',St c ([(I,knList l 0)]++X) T s'→(∀ tg,Iter prog w A c I (fun i=>[(I,knList l i)]) ds T tg)→Q (.ref I) s'):wpAny (model prog w) A (pyIter (.ref l)) Q E s:=by
 obtain⟨l',vs,n,e,nb,hl,hr⟩:=(S.tmp _ hT).listObj;cases e;exact wpAny_pyIter_list ⟨_,hl,rfl,_,rfl⟩ (k _ _ (S.own_push (t:=s.toks) ⟨_,Heap.get?_push_size _ rfl,rfl,rfl⟩) (fun V=>iter_list hh S.neL hT))
theorem r_iter_str(hh:A.handled=none){x:Str}{t:Tok}{Q:VP}(S:St c X T s)
  (k:∀ I s',St c ([(I,knStr x t 0)]++X) T s'→(∀ tg,Iter prog w A c I (fun i=>[(I,knStr x t i)]) (x.cps.toList.map fun n=>.str ⟨#[n]⟩) T tg)→Q (.ref I) s'):wpAny (model prog w) A (pyIter (.str x t)) Q E s :=
 wpAny_pyIter_strU (k _ _ (S.own_push (t:=s.toks) ⟨_,Heap.get?_push_size _ rfl,rfl,rfl⟩) (fun V=>iter_str hh S.neL))
theorem r_enum(hh:A.handled=none){l:Addr}{ds:Lp}{Q:VP}(S:St c X T s)(hT:(.ref l,.list ds)∈T)
  (k:∀ e it s',St c (Es e it l 0++X) T s'→(∀ elts x1 pos,Iter prog w A c e (Es e it l) (Cz 0 ds) T (.Tuple elts x1 pos))→Q (.ref e) s'):wpAny (model prog w) A (call (.type "enumerate") [.ref l]) Q E s:=by
 obtain⟨l',vs,n,e,nb,hl,hr⟩:=(S.tmp _ hT).listObj;cases e;refine call_enumerate_list (items:=vs) ⟨_,hl,rfl,_,rfl⟩ fun h' he hit hsz hk=>?_
 obtain⟨o,ho,hc,hd⟩:=hit;have lo:∀ p∈Es (s.heap.objs.size+1) s.heap.objs.size l 0,s.heap.objs.size≤p.1:=by
  intro p hp;rcases List.mem_cons.mp hp with rfl | hp
  ·exact le_succ _
  ·refine rz (List.mem_singleton.mp hp ..) <| le_refl _
 refine k _ _ _ (S.freshL (s':={ s with heap:=h' }) (Z:=Es (s.heap.objs.size+1) s.heap.objs.size l 0) ?_ lo hk S.gens rfl fun p hp=>?_) (fun V V V=>iter_enum hh (Nat.succ_ne_self _) (S.neLL lo) hT)
 ·simp[Es]
 ·rcases List.mem_cons.mp hp with rfl | hp
  ·exact⟨_,he,_,rfl⟩
  ·refine rz (List.mem_singleton.mp hp ..) <| ⟨o,ho,hc,hd⟩
theorem r_zip(hh:A.handled=none){l1 l2:Addr}{ds es:Lp}{Q:VP}(S:St c X T s)(hT1:(.ref l1,.list ds)∈T)(hT2:(.ref l2,.list es)∈T)
  (k:∀ z TI TO i1 i2 s',St c (knZip z TI TO i1 i2 l1 l2 0++X) T s'→(∀ elts x1 pos,Iter prog w A c z (knZip z TI TO i1 i2 l1 l2) (Fc ds es) T (.Tuple elts x1 pos))→Q (.ref z) s'):wpAny (model prog w) A (call (.type "zip") [.ref l1,.ref l2]) Q E s:=by
 obtain⟨l',vs,n,e,nb,hl,hr⟩:=(S.tmp _ hT1).listObj;cases e;obtain⟨l',us,n',e,nb',hl',hr'⟩:=(S.tmp _ hT2).listObj;cases e;refine call_zip_2 (xs:=vs) (ys:=us) ⟨_,hl,rfl,_,rfl⟩ ⟨_,hl',rfl,_,rfl⟩ fun h' hz hTI hTO hit1 hit2 hsz hk=>?_
 obtain⟨o1,ho1,hc1,hd1⟩:=hit1;obtain⟨o2,ho2,hc2,hd2⟩:=hit2;have lo:∀ p∈knZip (s.heap.objs.size+4) (s.heap.objs.size+2) (s.heap.objs.size+3) s.heap.objs.size (s.heap.objs.size+1) l1 l2 0,s.heap.objs.size≤p.1:=by
  intro p hp;simp only[knZip,mem_cons,not_mem_nil,or_false] at hp;rcases hp with rfl | rfl | rfl | rfl | rfl<;>first | exact le_add_right _ _ | exact le_refl _
 refine k _ _ _ _ _ _ (S.freshL (s':={ s with heap:=h' }) (Z:=knZip (s.heap.objs.size+4) (s.heap.objs.size+2) (s.heap.objs.size+3) s.heap.objs.size (s.heap.objs.size+1) l1 l2 0) ?_ lo hk S.gens rfl fun p hp=>?_)
  (fun V V V=>iter_zip hh (zipApart_new (Heap.lt_size hl) (Heap.lt_size hl')) (S.neLL lo) hT1 hT2)
 ·simp[knZip]
 ·rcases List.mem_cons.mp hp with rfl | hp
  ·exact⟨_,hz,rfl⟩
  rcases List.mem_cons.mp hp with rfl | hp
  ·exact⟨_,hTI,rfl⟩
  rcases List.mem_cons.mp hp with rfl | hp
  ·exact⟨_,hTO,_,_,rfl⟩
  rcases List.mem_cons.mp hp with rfl | hp
  ·exact⟨o1,ho1,hc1,hd1⟩
  ·refine rz (List.mem_singleton.mp hp ..) <| ⟨o2,ho2,hc2,hd2⟩
end
section
variable{prog:Program}{w:World}{A:Around}{E:VP}{R:Result→Shared→Prop}{c:Cx}{X X':Xs}{T T' T0:Ts}{s s':Shared}{env:Env}
variable{Q:Flow→Shared→Prop}{rest:List Stmt}
def Kont(prog:Program)(w:World)(A:Around)(E:VP)(env:Env)(rest:List Stmt)(Q:Flow→Shared→Prop)(f:Flow)(s:Shared):Prop:=match f with
 |.next=>wpAny (model prog w) A (execs rest env) Q E s
 |f=>Q f s
theorem Ci{st:Stmt}(h:wpAny (model prog w) A (exec st env) (Kont prog w A E env rest Q) E s):wpAny (model prog w) A (execs (st::rest) env) Q E s :=
 wpAny_execs_cons (wpAny_mono h (fun f s' h=>by cases f<;>exact h) fun V V h=>h)
theorem k_next(h:wpAny (model prog w) A (execs rest env) Q E s):Kont prog w A E env rest Q .next s:=h
theorem k_ret{v:Value}(h:Q (.ret v) s):Kont prog w A E env rest Q (.ret v) s:=h
theorem k_brk(h:Q .brk s):Kont prog w A E env rest Q .brk s:=h
theorem k_cont(h:Q .cont s):Kont prog w A E env rest Q .cont s:=h
theorem x_nil(h:Q .next s):wpAny (model prog w) A (execs [] env) Q E s:=wpAny_execs_nil h
theorem x_assign{x:Str}{p q:Pos}{v:Expr}(h:wpAny (model prog w) A (eval v env) (fun a s₁=>wpAny (model prog w) A (storeName env x a) (fun V s₂=>wpAny (model prog w) A (execs rest env) Q E s₂) E s₁) E s)
  (hs:swapsWith v (some (.Name x p)) q.line env=pure false):wpAny (model prog w) A (execs (.Assign [.Name x p] v q::rest) env) Q E s:=Ci (wpAny_Assign_Name (wpAny_mono h (fun V V h=>wpAny_mono h (fun V V h=>h) fun V V h=>h) fun V V h=>h) hs)
theorem x_aug{x:Str}{p q:Pos}{op:Operator}{v:Expr}(h:wpAny (model prog w) A (loadName env x) (fun old s₁=>wpAny (model prog w) A (eval v env) (fun b s₂=>wpAny (model prog w) A (inplaceOp op old b)
   (fun r s₃=>wpAny (model prog w) A (storeName env x r) (fun V s₄=>wpAny (model prog w) A (execs rest env) Q E s₄) E s₃) E s₂) E s₁) E s):wpAny (model prog w) A (execs (.AugAssign (.Name x p) op v q::rest) env) Q E s :=
 Ci (wpAny_AugAssign_Name h)
theorem E9{v:Expr}{q:Pos}(h:wpAny (model prog w) A (eval v env) (fun a s₁=>Q (.ret a) s₁) E s):wpAny (model prog w) A (execs (.Return (some v) q::rest) env) Q E s:=Ci (wpAny_Return_some h)
theorem x_for{tg it:Expr}{body:List Stmt}{q:Pos}
  (h:wpAny (model prog w) A (eval it env) (fun x s₁=>wpAny (model prog w) A (pyIter x) (fun i s₂ =>
   codeAny (model prog w) A (.forLoop tg i body [] env) (fun r s'=>match r with | .ok f=>Kont prog w A E env rest Q f s' | .error e=>cameBackBy (model prog w) A env E e s') s₂) E s₁) E s)
  (hs:∀ x,foldedSetIterable it env x=pure x):wpAny (model prog w) A (execs (.For tg it body [] q::rest) env) Q E s:=Ci (wpAny_For h hs)
theorem x_if{t:Expr}{body els:List Stmt}{q:Pos}
  (h:wpAny (model prog w) A (isTrue t env (eval t env)) (fun b s₂=>(b=true→wpAny (model prog w) A (execs body env) (Kont prog w A E env rest Q) E s₂)∧(b=false→wpAny (model prog w) A (execs els env) (Kont prog w A E env rest Q) E s₂)) E s) :
  wpAny (model prog w) A (execs (.If t body els q::rest) env) Q E s :=
 Ci (wpAny_If (wpAny_mono h (fun b s₂ h=>by cases b;exact h.2 rfl;exact h.1 rfl) fun V V h=>h))
theorem x_expr{v:Expr}{q:Pos}(h:wpAny (model prog w) A (eval v env) (fun V s₁=>wpAny (model prog w) A (execs rest env) Q E s₁) E s)(hi:interactive env=false)(hs:swapsWith v none q.line env=pure false) :
  wpAny (model prog w) A (execs (.Expr v q::rest) env) Q E s:=Ci (wpAny_Expr_any (wpAny_mono h (fun V V h=>h) fun V V h=>h) hi hs)
theorem x_while{t:Expr}{body:List Stmt}{q:Pos}
  (h:codeAny (model prog w) A (.whileLoop t body [] env) (fun r s'=>match r with | .ok f=>Kont prog w A E env rest Q f s' | .error e=>cameBackBy (model prog w) A env E e s') s) :
  wpAny (model prog w) A (execs (.While t body [] q::rest) env) Q E s:=Ci (wpAny_While h)
theorem x_break{q:Pos}(h:Q .brk s):wpAny (model prog w) A (execs (.Break q::rest) env) Q E s:=Ci (wpAny_Break h)
theorem x_continue{q:Pos}(h:Q .cont s):wpAny (model prog w) A (execs (.Continue q::rest) env) Q E s:=Ci (wpAny_Continue h)
theorem t_cmp{l r:Expr}{op:CmpOp}{q:Pos}{whole:Sem Value}{Q:Bool→Shared→Prop}(h:wpAny (model prog w) A (eval l env) (fun a s₁=>wpAny (model prog w) A (eval r env) (fun b s₂=>wpAny (model prog w) A (compareOp op a b)
   (fun v s₃=>wpAny (model prog w) A (truthy v) Q E s₃) E s₂) E s₁) E s) (hm:behindInMarks op r=false):wpAny (model prog w) A (isTrue (.Compare l [op] [r] q) env whole) Q E s:=wpAny_isTrue_Compare1 h hm
theorem t_bool{b:Bool}{Q:Bool→Shared→Prop}(h:Q b s):wpAny (model prog w) A (truthy (.bool b)) Q E s:=wpAny_truthy_bool h
theorem r_if{t a b:Expr}{q:Pos}{Q:VP}(h:wpAny (model prog w) A (isTrue t env (eval t env)) (fun z s₁=>(z=true→wpAny (model prog w) A (eval a env) Q E s₁)∧(z=false→wpAny (model prog w) A (eval b env) Q E s₁)) E s) :
  wpAny (model prog w) A (eval (.IfExp t a b q) env) Q E s:=wpAny_IfExp (wpAny_mono h (fun b s₂ h=>by cases b;exact h.2 rfl;exact h.1 rfl) fun V V h=>h)
theorem r_bin{l r:Expr}{op:Operator}{q:Pos}{Q:VP}(h:wpAny (model prog w) A (eval l env) (fun a s₁=>wpAny (model prog w) A (eval r env) (fun b s₂=>wpAny (model prog w) A (binaryOp op a b) Q E s₂) E s₁) E s) :
  wpAny (model prog w) A (eval (.BinOp l op r q) env) Q E s:=wpAny_BinOp h
theorem r_cmp{l r:Expr}{op:CmpOp}{q:Pos}{Q:VP}(h:wpAny (model prog w) A (eval l env) (fun a s₁=>wpAny (model prog w) A (eval r env) (fun b s₂=>wpAny (model prog w) A (compareOp op a b) Q E s₂) E s₁) E s)
  (hm:behindInMarks op r=false):wpAny (model prog w) A (eval (.Compare l [op] [r] q) env) Q E s:=wpAny_Compare1 h hm
theorem a_name{x:Str}{p:Pos}{v:Value}{Q:Unit→Shared→Prop}(h:wpAny (model prog w) A (storeName env x v) Q E s):wpAny (model prog w) A (assign (.Name x p) env v) Q E s:=wpAny_assign_Name h
inductive Weak:Od→Od→Prop
 |nil:Weak [] []
 |same {p ρ ρ'}:Weak ρ ρ'→Weak (p::ρ) (p::ρ')
 |none {x d ρ ρ'}:Weak ρ ρ'→Weak ((x,d)::ρ) ((x,Option.none)::ρ')
theorem Weak.keys{ρ ρ':Od}(h:Weak ρ ρ'):ρ'.map (·.1)=ρ.map (·.1):=by induction h<;>simp[*]
theorem Weak.mem{ρ ρ':Od}(h:Weak ρ ρ'):∀ x d,(x,some d)∈ρ'→(x,some d)∈ρ:=by
 induction h with
 |nil=>intro x d h;exact h
 |same _ ih=>intro x d h;rcases List.mem_cons.mp h with e | h;exact e▸.head _;exact .tail _ (ih x d h)
 |none _ ih=>intro x d h;rcases List.mem_cons.mp h with e | h;cases e;exact .tail _ (ih x d h)
inductive WeakX:Xs→Xs→Prop
 |nil:WeakX [] []
 |rfl{Z:Xs}:WeakX Z Z
 |same{p:Addr × Knd}{Z Z':Xs}:WeakX Z Z'→WeakX (p::Z) (p::Z')
 |map{a:Addr}{ρ ρ':Od}{Z Z':Xs}:Weak ρ ρ'→WeakX Z Z'→WeakX ((a,.map ρ)::Z) ((a,.map ρ')::Z')
 |cell{a:Addr}{d:Option PyData}{Z Z':Xs}:WeakX Z Z'→WeakX ((a,.cell d)::Z) ((a,.cell Option.none)::Z')
theorem WeakX.keys(h:WeakX X X'):X'.map (·.1)=X.map (·.1):=by induction h<;>simp[*]
theorem WeakX.own{P:Addr→Prop}{h:Heap}(W:WeakX X X'):(∀ p∈X,OwnAt P h p.1 p.2)→∀ p∈X',OwnAt P h p.1 p.2:=by
 induction W with
 |nil=>exact id
 |rfl=>exact id
 |same _ ih =>
  intro H p hp;rcases List.mem_cons.mp hp with rfl | hp
  ·exact H _ (.head _)
  ·exact ih (fun q hq=>H q (.tail _ hq)) p hp
 |map hw _ ih =>
  intro H p hp;rcases List.mem_cons.mp hp with rfl | hp
  ·obtain⟨nd,m,hn,hm⟩:=H _ (.head _);exact⟨by refine rz (hw.keys ..) <| nd,m,hn,fun x d e=>hm x d (hw.mem x d e)⟩
  ·exact ih (fun q hq=>H q (.tail _ hq)) p hp
 |cell _ ih =>
  intro H p hp;rcases List.mem_cons.mp hp with rfl | hp
  ·obtain⟨v,hc,_⟩:=H _ (.head _);exact⟨v,hc,fun V e=>nomatch e⟩
  ·exact ih (fun q hq=>H q (.tail _ hq)) p hp
theorem St.weak(S:St c X T s)(W:WeakX X X'):St c X' T s:=by
 have hb:∀ a,ban c X' a↔ban c X a:=fun a=>by unfold ban;rw[W.keys]
 have hm:∀ p∈X',p.1∈X.map (·.1):=fun p hp=>by refine rz (Eq.symm (W.keys ..)) <| List.mem_map.mpr ⟨p,hp,rfl⟩
 refine⟨W.own fun p hp=>(S.own p hp).mono (fun V e=>e) (fun a V V h=>(hb a).mp h) (fun V V V e=>e),fun p hp=>?_,by refine rz (W.keys ..) <| S.nd,fun q hq=>(S.tmp q hq).mono (fun a V V h=>(hb a).mp h) (fun V V V e=>e),S.keep,S.stat,fun p hp=>?_,S.yb,S.gens,S.os,S.top,fun p hp=>?_⟩
 ·obtain⟨q,hq,e⟩:=List.mem_map.mp (hm p hp);refine rz (Eq.symm (e ..)) <| S.lo q hq
 ·obtain⟨q,hq,e⟩:=List.mem_map.mp (hm p hp);refine rz (Eq.symm (e ..)) <| S.kx q hq
 ·obtain⟨q,hq,e⟩:=List.mem_map.mp (hm p hp);refine rz (Eq.symm (e ..)) <| S.yx q hq
theorem Ups.app{a:Addr}{k k':Knd}{Z Z':Xs}(h:Ups a k k' Z Z'):∀ {W:Xs},Ups a k k' (W++Z) (W++Z')
 |[]=>h
 |_::_=>.there (Ups.app h)
end
section
variable{prog:Program}{w:World}{A:Around}{E:VP}{R:Result→Shared→Prop}{c:Cx}{X X':Xs}{T T' T0:Ts}{s s':Shared}{env:Env}
noncomputable def Fin1(c:Cx)(Xf:Xs)(T0:Ts)(r:Value)(d:PyData)(s:Shared):Prop :=
 ∃ X' T',WeakX X' Xf∧St c X' T' s∧Rp (ban c X') s.heap r d∧∀ q∈T0,q∈T'
theorem Fin1.st{Xf:Xs}{r:Value}{d:PyData}(F:Fin1 c Xf T0 r d s):St c Xf ((r,d)::T0) s:=by
 obtain⟨X',T',h1,S,h2,h3⟩:=F;refine((S.push h2).drop (T':=(r,d)::T0) (fun q hq=>?_)).weak h1
 rcases List.mem_cons.mp hq with rfl | hq
 ·exact .head _
 ·exact .tail _ (h3 q hq)
theorem r_append{a:Addr}{ds:Lp}{v:Value}{d:PyData}{Q:VP}(S:St c X T s)(hv:Rp (ban c X) s.heap v d)(U:Ups a (.seq (.type "list") Option.none ds) (.seq (.type "list") Option.none (ds++[d])) X X')
  (hsz:ds.length≤sizeLine)(k:∀ s',St c X' T s'→Q .none s'):wpAny (model prog w) A (call (.builtin "list.append") [.ref a,v]) Q E s:=by
 obtain⟨vs,n,ho,hr⟩:=S.own _ U.mem;have hlen:vs.size≤sizeLine:=by have:=hr.length;simp at this;exact(le_trans (le_of_eq this) hsz)
 refine wpAny_list_append_plain (hsz:=hlen) ⟨n,ho⟩ fun h' hl hs=>k _ ?_
 obtain⟨n',ho'⟩:=hl;have hk:∀ b o,b≠a→s.heap.get? b=some o→h'.get? b=some o:=fun b o ne e=>hs.extBut b o ne e
 refine S.step (t:=s.toks) U hk ⟨_,_,ho',?_⟩;have:Rps (ban c X') h' (vs.toList++[v]) (ds++[d]):=(hr.mono (fun b o V q=>by unfold ban at q⊢;rw[U.keys] at q;exact q) (fun b o n e=>hk b o (fun q=>n (q▸.inr (List.mem_map.mpr ⟨_,U.mem,rfl⟩))) e)).append (.cons (S.rpUps U hk hv) .nil)
 simpa using this
theorem ups_mid{a:Addr}{k k':Knd}:∀ (Z:Xs) {Z':Xs},Ups a k k' (Z++(a,k)::Z') (Z++(a,k')::Z')
 |[],_=>.here
 |p::Z,_=>.there (ups_mid Z)
theorem St.freeL:∀ (Z:Xs) {X:Xs},St c (Z++X) T s→St c X T s
 |[],_,S=>S
 |p::Z,_,S=>St.freeL Z (St.free S)
noncomputable def Gc(L:Addr)(names:Nk):Xs:=(cellsFrom (L+1) names []).map fun p=>(p.2,.cell Option.none)
noncomputable def Cj(names:Nk):Od:=(names.filter (·.2 == .local)).map fun n=>(n.1,Option.none)
theorem St.pushCells:∀ (names:Nk) {h:Heap}{X:Xs}{s:Shared},St c X T s→s.heap=h→∀ (acc:Ce),
  ∃ Z:Xs,St c (Z++X) T { s with heap:=PySem.pushCells h names }∧Z++acc.map (fun p=>(p.2,Knd.cell Option.none))=(cellsFrom h.objs.size names acc).map fun p=>(p.2,.cell Option.none)
 |[],h,X,s,S,e,acc=>⟨[],by subst e;exact S,rfl⟩
 |(name,kind)::r,h,X,s,S,e,acc=>by
  unfold PySem.pushCells cellsFrom
  by_cases hk:(kind == NameKind.cell)=true
  ·refine rz (if_pos hk ..) <| rz (if_pos hk ..) ?_
   subst e;have S1:St c ((s.heap.objs.size,.cell Option.none)::X) T { s with heap:=s.heap.push { cls:=.type "cell",data:=.cell Option.none } } :=
    S.own_push (t:=s.toks) ⟨Option.none,⟨_,Heap.get?_push_size _ rfl,rfl⟩,fun V e=>nomatch e⟩
   obtain⟨Z,S2,e2⟩:=St.pushCells r S1 rfl ((name,s.heap.objs.size)::acc);refine⟨Z++[(s.heap.objs.size,.cell Option.none)],by refine rz (append_assoc ..) <| S2,?_⟩
   refine rz (Eq.symm (Heap.size_push s.heap { cls:=.type "cell",data:=.cell Option.none } ..)) <| rz (Eq.symm (e2 ..)) ?_;simp
  ·refine rz (if_neg hk ..) <| rz (if_neg hk ..) <| St.pushCells r S e acc
theorem Bu:∀ (names:Nk) (n:Nat) (acc:Ce),cellsFrom n names acc=cellsFrom n names []++acc
 |[],n,acc=>rfl
 |(y,k)::r,n,acc=>by
  unfold cellsFrom
  split
  ·refine rz (Bu r (n+1) ((y,n)::acc) ..) <| rz (Bu r (n+1) [(y,n)] ..) <| rz (append_assoc ..) ?_;rfl
  ·exact Bu r n acc
theorem comp_env{scope:Scope}{cl:Ce}{Q:Env→Shared→Prop}(S:St c X T s)(hkind:scope.kind=.function)(hnd:(scope.names.map (·.1)).Nodup)
  (k:∀ s' C,C≠c.L→St c ((C,.map (Cj scope.names))::(Gc C scope.names++X)) T s'→Q { scope,locals:=C,globals:=env.globals,cells:=cellsFrom (C+1) scope.names cl,qual:=env.qual,func:=none,code:=env.code,frame:=env.frame,builtins:=env.builtins } s') :
  wpAny (model prog w) A (newFunctionEnv scope env.globals cl [] env.qual none .none (some env)) Q E s:=by
 simp only[newFunctionEnv,Option.isSome_some,if_true];refine wpAny_bind (wpAny_alloc ?_);refine wpAny_bind (wpAny_layCells _ (fun name kind cells=>by cases hkc:kind == NameKind.cell<;>simp[hkc]) _ _ _ _ ?_)
 have S0:St c ((s.heap.objs.size,.map (Cj scope.names))::X) T { s with heap:=s.heap.push { cls:=.type "dict",data:=.dict #[] } }:=by
  refine S.own_push (t:=s.toks) ⟨?_,_,Heap.Ns.new _ _,fun x d h=>?_⟩
  ·have:(Cj scope.names).map (·.1)=(scope.names.filter (·.2 == .local)).map (·.1):=by simp[Cj]
   refine rz (this ..) <| List.Sublist.nodup (List.Sublist.map _ filter_sublist) hnd
  ·obtain⟨p,_,e⟩:=List.mem_map.mp h;simp at e
 obtain⟨Z,S1,e⟩:=St.pushCells scope.names S0 rfl [];have hsz:(s.heap.push { cls:=.type "dict",data:=.dict #[] }).objs.size=s.heap.objs.size+1:=Heap.size_push ..;rw[hsz] at e;rw[map_nil,append_nil] at e
 subst e;refine wpAny_bind ?_;refine rz (forIn_nil ..) <| wpAny_pure (wpAny_pure ?_)
 refine rz (show({ s with heap:=s.heap.push { cls:=.type "dict",data:=.dict #[] } }:Shared).heap.objs.size=s.heap.objs.size+1 from hsz) <| k _ s.heap.objs.size S.neL (S1.perm ?_)
 show(Gc s.heap.objs.size scope.names++(s.heap.objs.size,.map (Cj scope.names))::X).Perm _
 exact perm_middle
theorem cells_nd{names:Nk}{cl:Ce}(nd:(names.map (·.1)).Nodup)(n:Nat)(hcl:∀ p∈cl,(p.1,NameKind.free)∈names)(cnd:(cl.map (·.1)).Nodup):((cellsFrom n names cl).map (·.1)).Nodup:=by
 refine rz (Bu ..) <| rz (map_append ..) <| List.nodup_append.mpr ⟨De nd n,cnd,fun a ha b hb e=>?_⟩
 subst e;obtain⟨p,hp,rfl⟩:=List.mem_map.mp ha;obtain⟨q,hq,e⟩:=List.mem_map.mp hb;rcases Bx names n [] p.1 p.2 hp with h | ⟨h,_⟩
 ·cases h
 ·have h2:=hcl q hq;rw[e] at h2;have:=(A5 nd h).symm.trans (A5 nd h2)
  cases this
end
noncomputable def Fn(prog:Program)(w:World)(K:Frag)(n:Nat)(f:Addr)(B:Xs)(ds:Lp)(post:PyData→Xs→Prop):Prop :=
 ∀ (A:Around) (c:Cx) (X:Xs) (T:Ts) (s:Shared) (vs:List Value) (R:Result→Shared→Prop),OkA n A→c.K=K→St c (B++X) T s→Rps (ban c (B++X)) s.heap vs ds →
  (∀ v d B' s',post d B'→St c (B'++X) ((v,d)::T) s'→R (.ok (.ret v)) s')→codeAny (model prog w) A (.call (.ref f) ⟨vs,[]⟩) R s
abbrev Pure(prog:Program)(w:World)(K:Frag)(n:Nat)(f:Addr)(ds:Lp)(d:PyData):Prop:=Fn prog w K n f [] ds fun d' B'=>d'=d∧B'=[]
noncomputable def Be(names:Nk)(b:List (Str × PyData)):Od:=(names.filter (·.2 == .local)).map fun n=>(n.1,b.lookup n.1)
noncomputable def Cs(l:Ce)(b:List (Str × PyData)):Xs:=l.map fun p=>(p.2,.cell (b.lookup p.1))
noncomputable def Bm(L:Addr)(names:Nk)(b:List (Str × PyData)):Xs:=Cs (cellsFrom (L+1) names []) b
theorem Fi{y p:Str}{d:PyData}{done:List (Str × PyData)}(h:y≠p):((p,d)::done).lookup y=done.lookup y:=by
 refine rz (lookup_cons ..) <| rz (beq_eq_false_iff_ne.mpr h ..) rfl
theorem E4{names:Nk}{p:Str}{d:PyData}{done:List (Str × PyData)}(h:∀ n∈names,n.2=.local→n.1≠p):Be names ((p,d)::done)=Be names done:=by
 unfold Be;refine map_congr_left fun n hn=>?_
 obtain⟨h1,h2⟩:=List.mem_filter.mp hn;exact rz (Fi (h n h1 (eq_of_beq h2)) ..) rfl
theorem Ek:∀ {names:Nk}{p:Str}{d:PyData}{done:List (Str × PyData)},(names.map (·.1)).Nodup→(p,NameKind.local)∈names→Put p (some d) (Be names done) (Be names ((p,d)::done))
 |(y,k)::r,p,d,done,nd,h=>by
  rw[map_cons,nodup_cons] at nd;unfold Be
  rcases List.mem_cons.mp h with e | h
  ·obtain⟨e1,e2⟩:=Prod.mk.inj e;subst e1;subst e2;have e:Be r ((p,d)::done)=Be r done:=E4 fun n hn V e=>nd.1 (e▸List.mem_map.mpr ⟨n,hn,rfl⟩)
   simp only[filter_cons,show((NameKind.local == NameKind.local)=true) from rfl,if_true,map_cons]
   unfold Be at e;refine rz (e ..) <| rz (show(List.lookup p ((p,d)::done))=some d by simp[lookup_cons]) <| .here
  ·have ih:=Ek (d:=d) (done:=done) nd.2 h;unfold Be at ih
   by_cases hk:(k == NameKind.local)=true
   ·simp only[filter_cons,hk,if_true,map_cons];have ne:y≠p:=fun e=>nd.1 (e▸List.mem_map.mpr ⟨_,h,rfl⟩)
    refine rz (show List.lookup y ((p,d)::done)=List.lookup y done from Fi ne) <| .there ih
   ·simp only[filter_cons,hk];exact ih
theorem E8{l:Ce}{p:Str}{d:PyData}{done:List (Str × PyData)}(h:p∉l.map (·.1)):Cs l ((p,d)::done)=Cs l done:=by
 unfold Cs;refine map_congr_left fun n hn=>?_
 have:n.1≠p:=fun e=>h (rz (Eq.symm (e ..)) <| List.mem_map.mpr ⟨n,hn,rfl⟩)
 exact rz (Fi this ..) rfl
theorem En:∀ {l:Ce}{p:Str}{a:Addr}{d:PyData}{done:List (Str × PyData)}{Z:Xs},(l.map (·.1)).Nodup→(p,a)∈l→∃ d₀,Ups a (.cell d₀) (.cell (some d)) (Cs l done++Z) (Cs l ((p,d)::done)++Z)
 |(y,b)::r,p,a,d,done,Z,nd,h=>by
  rw[map_cons,nodup_cons] at nd;rcases List.mem_cons.mp h with e | h
  ·obtain⟨e1,e2⟩:=Prod.mk.inj e;subst e1;subst e2;refine⟨done.lookup p,?_⟩;have e:Cs r ((p,d)::done)=Cs r done:=E8 nd.1
   show Ups _ _ _ ((a,.cell (done.lookup p))::(Cs r done++Z)) ((a,.cell (((p,d)::done).lookup p))::(Cs r ((p,d)::done)++Z))
   refine rz (e ..) <| rz (show(List.lookup p ((p,d)::done))=some d by simp[lookup_cons]) <| .here
  ·obtain⟨d₀,ih⟩:=En (d:=d) (done:=done) (Z:=Z) nd.2 h;refine⟨d₀,?_⟩;have ne:y≠p:=fun e=>nd.1 (e▸List.mem_map.mpr ⟨_,h,rfl⟩)
   show Ups _ _ _ ((b,.cell (done.lookup y))::(Cs r done++Z)) ((b,.cell (((p,d)::done).lookup y))::(Cs r ((p,d)::done)++Z))
   refine rz (Fi ne ..) <| .there ih
noncomputable def fnEnv(fd:FuncData)(L a:Addr):Env:=newEnv fd.scope L fd.globals (cellsFrom (L+1) fd.scope.names fd.closure) (fd.qualname ++ ".<locals>.") (some a) fd.code none fd.builtins
section
variable{prog:Program}{w:World}{A:Around}{E:VP}{c:Cx}{X X' B:Xs}{T T':Ts}{s s':Shared}{env:Env}
theorem store_args{L:Addr}{names:Nk}{cells:Ce}(f:Str × Value→PUnit→Sem (ForInStep PUnit))(hf:∀ n v u,f (n,v) u=(do storeName env n v;pure (.yield ⟨⟩)))
  (H:EnvOk env L names cells)(hcells:∀ q∈cellsFrom (L+1) names [],q∈cells) :
  ∀ (ps:List Str) (vs:List Value) (ds:Lp) (done:List (Str × PyData)) (s:Shared) (Q:PUnit→Shared→Prop),(∀ p∈ps,(p,NameKind.local)∈names∨(p,NameKind.cell)∈names)→vs.length=ds.length →
   St c ((L,.map (Be names done))::(Bm L names done++B)) T s→(∀ q∈vs.zip ds,q∈T) →
   (∀ s',St c ((L,.map (Be names ((ps.zip ds).reverse++done)))::(Bm L names ((ps.zip ds).reverse++done)++B)) T s'→Q ⟨⟩ s')→wpAny (model prog w) A (forIn (ps.zip vs) ⟨⟩ f) Q E s:=by
 intro ps
 induction ps with
 |nil=>intro vs ds done s Q _ _ S _ h;refine rz (List.zip_nil_left ..) <| rz (forIn_nil ..) <| wpAny_pure (h s S)
 |cons p ps ih =>
  intro vs ds done s Q hps hl S hT h;cases vs with
  |nil =>
   rw[show ds=[] from List.length_eq_zero_iff.mp hl.symm] at h
   refine rz (List.zip_nil_right ..) <| rz (forIn_nil ..) <| wpAny_pure (h s S)
  |cons v vs =>
   cases ds with
   |nil=>exact absurd hl (succ_ne_zero _)
   |cons d ds =>
    refine rz (zip_cons_cons ..) <| rz (forIn_cons ..) <| rz (hf ..) ?_
    have hv:Rp (ban c _) s.heap v d:=S.rp (hT _ (rz (zip_cons_cons ..) <| .head _))
    have next:∀ s',St c ((L,.map (Be names ((p,d)::done)))::(Bm L names ((p,d)::done)++B)) T s'→wpAny (model prog w) A (forIn (ps.zip vs) ⟨⟩ f) Q E s':=fun s' S' =>
     ih vs ds ((p,d)::done) s' Q (fun q hq=>hps q (.tail _ hq)) (by simpa using hl) S' (fun q hq=>hT q (rz (zip_cons_cons ..) <| .tail _ hq)) (by simpa using h)
    have cnd:=De H.nd (L+1);rcases hps p (.head _) with hn | hn
    ·have e:Bm L names ((p,d)::done)=Bm L names done:=by
      refine E8 fun hm=>?_
      obtain⟨⟨y,a⟩,hq,e⟩:=List.mem_map.mp hm;rcases Bx _ _ _ _ _ hq with z | ⟨z,_⟩
      ·cases z
      ·have e:y=p:=e;subst e;have:=(A5 H.nd hn).symm.trans (A5 H.nd z);cases this
     rw[e] at next;exact wpAny_bind (wpAny_bind (Gn S H hn hv .here (Ek H.nd hn) fun s' S'=>wpAny_pure (next s' S')))
    ·have e:Be names ((p,d)::done)=Be names done:=by
      refine E4 fun n hq hk e=>?_
      have hq':(p,NameKind.local)∈names:=by
       obtain⟨y,k⟩:=n;have e:y=p:=e;have hk:k=.local:=hk;subst e;subst hk;exact hq
      have:=(A5 H.nd hn).symm.trans (A5 H.nd hq');cases this
     rw[e] at next;have hm:p∈(cellsFrom (L+1) names []).map (·.1):=by
      refine rz (Ca ..) ?_;simp only[map_nil,append_nil,mem_reverse,mem_map,List.mem_filter];exact⟨_,⟨hn,rfl⟩,rfl⟩
     obtain⟨⟨y,a⟩,hq,e⟩:=List.mem_map.mp hm;have e:y=p:=e;subst e;obtain⟨d₀,U⟩:=En (d:=d) (done:=done) (Z:=B) cnd hq;exact wpAny_bind (wpAny_bind (r_storeC S H hn hv (hcells _ hq) (.there U) fun s' S'=>wpAny_pure (next s' S')))
noncomputable def Et(fd:FuncData):List Stmt:=match fd.body with | .stmts b=>b | _=>[]
noncomputable def chkD(fd:FuncData):Bool:=(match fd.body with | .stmts _=>true | _=>false) && !fd.scope.isCoroutine && !fd.scope.isGenerator&&(match fd.scope.kind with | .function=>true | _=>false)&&Nat.beq fd.globals mainGlobals&&Nat.beq fd.builtins builtinsNs
structure FdOk(fd:FuncData)(body:List Stmt):Prop where
 body:fd.body=.stmts body
 co:fd.scope.isCoroutine=false
 gen:fd.scope.isGenerator=false
 kind:fd.scope.kind=.function
 glo:fd.globals=mainGlobals
 blt:fd.builtins=builtinsNs
theorem Eg{fd:FuncData}(h:chkD fd=true):FdOk fd (Et fd):=by
 obtain⟨h,e6⟩:=(Bool.and_eq_true _ _).mp h;obtain⟨h,e5⟩:=(Bool.and_eq_true _ _).mp h;obtain⟨h,e4⟩:=(Bool.and_eq_true _ _).mp h;obtain⟨h,e3⟩:=(Bool.and_eq_true _ _).mp h;obtain⟨e1,e2⟩:=(Bool.and_eq_true _ _).mp h;refine⟨?_,(Bool.not_eq_true' _).mp e2,(Bool.not_eq_true' _).mp e3,?_,eq_of_beq_eq_true e5,eq_of_beq_eq_true e6⟩
 ·unfold Et;cases e:fd.body with
  |stmts b=>rfl
  |_=>rw[e] at e1;cases e1
 ·cases e:fd.scope.kind with
  |function=>rfl
  |_=>rw[e] at e4;cases e4
theorem fn_introA{K:Frag}{n:Nat}{f:Addr}{ds dd:Lp}{dv:List Value}{post:PyData→Xs→Prop}{oc:Value}{od:Option Addr}{sl:Array (Option Value)}{fd:FuncData}{body:List Stmt}(params:List Str)(names:Nk)(X0:Addr→Xs)(cl:Addr→Ce)
  (hf:∀ (c:Cx) (X:Xs) (T:Ts) (s:Shared),c.K=K→St c (B++X) T s→s.heap.get? f=some ⟨oc,od,.func fd,sl⟩∧s.heap.CodeRec fd.code fd.qualname)(hlim:∀ h,K.In h→h.NoLimit)
  (hpost:∀ d B',post d B'→∀ p∈B,p.1∈B'.map (·.1))
  (hd:FdOk fd body)(hnames:fd.scope.names=names)(hnd:(names.map (·.1)).Nodup)
  (hdv:∀ P (h:Heap),Rps P h dv dd)(hbind:∀ (vs:List Value) (A:Around) (s:Shared) (E:VP) (Q:List (Str × Value)→Shared→Prop),vs.length=ds.length→K.In s.heap→Q (params.zip (vs++dv)) s→wpAny (model prog w) A (bindArgs fd ⟨vs,[]⟩) Q E s)(hpk:∀ x∈params,(x,NameKind.local)∈names∨(x,NameKind.cell)∈names)
  (hclo:∀ q∈fd.closure,(q.1,NameKind.free)∈names)(hcln:(fd.closure.map (·.1)).Nodup)
  (hX0:∀ L,X0 L=(L,.map (Be names ((params.zip (ds++dd)).reverse)))::Bm L names ((params.zip (ds++dd)).reverse))(hcl:∀ L,cl L=cellsFrom (L+1) names fd.closure)
  (h:∀ A c T s L,OkA n A→c.K=K→St c (X0 L++B) T s→EnvOk (fnEnv fd L f) L names (cl L)→_root_.PySem.wpAt (model prog w) A (.func body (fnEnv fd L f)) (execs body (fnEnv fd L f)) (fun fl s'=>∃ Z d B',post d B'∧St c (Z++B') [((match fl with | .ret v=>v | _=>.none),d)] s') (fun V V=>False) s):Fn prog w K (n+1) f B ds post:=by
 intro A c X T s vs R oA hK S hvs hR;have hlen:=hvs.length;have hin:K.In s.heap:=hK▸S.stat;have hsz:c.h₀.objs.size≤s.heap.objs.size:=by
  obtain⟨h1,o,h2⟩:=S.top;exact le_of_lt (lt_of_le_of_lt h1 (Heap.lt_size h2))
 refine codeAny_call_function oA.room (hf c X T s hK S).1 rfl hd.co hd.gen hd.body (hf c X T s hK S).2 ?_;have hlen0:=hlen;have hvs0:=hvs
 replace hvs:=hvs.append (hdv _ _)
 replace hlen:=hvs.length
 refine hbind vs _ _ _ _ hlen0 hin ?_;simp only[newFunctionEnv,Option.isSome_none,Bool.false_eq_true,if_false];refine wpAny_bind (wpAny_alloc ?_);refine wpAny_bind (wpAny_layCells _ (fun name kind cells=>by cases hkc:kind == NameKind.cell<;>simp[hkc]) _ _ _ _ ?_)
 refine rz (show({ s with heap:=s.heap.push { cls:=.type "frame",data:=.dict #[] } }:Shared).heap.objs.size=s.heap.objs.size+1 from Heap.size_push ..) ?_
 have keepF:∀ b o,s.heap.get? b=some o→(s.heap.push { cls:=.type "frame",data:=.dict #[] }).get? b=some o:=fun b o e=>Heap.get?_push_of_some _ e
 have bb:∀ a o,s.heap.get? a=some o→ban ⟨K,s.heap,(fun a=>a∈B.map (·.1)),(fun a=>c.Y a∨a∈X.map (·.1)),s.os,s.heap.objs.size⟩ ((s.heap.objs.size,.map (Cj names))::B) a→ban c (B++X) a:=by
  intro a o e h;rcases h with (h | h) | h
  ·exact .inl h
  ·exact .inr (rz (map_append ..) <| mem_append_right _ h)
  ·rw[map_cons] at h;rcases List.mem_cons.mp h with rfl | h
   ·exact absurd (Heap.lt_size e) (lt_irrefl _)
   ·exact .inr (rz (map_append ..) <| mem_append_left _ h)
 have nd:=S.nd;rw[map_append,nodup_append] at nd;have S0:St ⟨K,s.heap,(fun a=>a∈B.map (·.1)),(fun a=>c.Y a∨a∈X.map (·.1)),s.os,s.heap.objs.size⟩ ((s.heap.objs.size,.map (Cj names))::B) ((vs++dv).zip (ds++dd)) { s with heap:=s.heap.push { cls:=.type "frame",data:=.dict #[] } }:=by
  have hkk:∀ a o,¬ ban c (B++X) a→s.heap.get? a=some o→(s.heap.push { cls:=.type "frame",data:=.dict #[] }).get? a=some o:=fun a o V e=>keepF a o e
  refine⟨fun p hp=>?_,fun p hp=>?_,?_,fun q hq=>?_,fun b o e V=>keepF b o e,hin.keeps keepF,fun p hp=>?_,fun a y=>?_,S.gens,rfl,⟨le_refl _,_,Heap.get?_push_size _ rfl⟩,fun p hp y=>?_⟩
  ·rcases List.mem_cons.mp hp with rfl | hp
   ·refine⟨?_,_,Heap.Ns.new _ _,fun x d h=>?_⟩
    ·have:(Cj names).map (·.1)=(names.filter (·.2 == .local)).map (·.1):=by simp[Cj]
     refine rz (this ..) <| List.Sublist.nodup (List.Sublist.map _ filter_sublist) hnd
    ·obtain⟨p,_,e⟩:=List.mem_map.mp h;simp at e
   ·exact(S.own p (mem_append_left _ hp)).mono (fun o e=>keepF _ o e) bb hkk
  ·rcases List.mem_cons.mp hp with rfl | hp
   ·exact .inl (le_refl _)
   ·exact .inr (List.mem_map.mpr ⟨p,hp,rfl⟩)
  ·rw[map_cons,nodup_cons];refine⟨fun h=>?_,nd.1⟩
   obtain⟨p,hp,e⟩:=List.mem_map.mp h;obtain⟨o,ho⟩:=(S.own p (mem_append_left _ hp)).there;rw[e] at ho;exact absurd (Heap.lt_size ho) (lt_irrefl _)
  ·have:∀ {vs:List Value}{ds:Lp},Rps (ban c (B++X)) s.heap vs ds→∀ q∈vs.zip ds,Rp (ban c (B++X)) s.heap q.1 q.2:=by
    intro vs ds H
    induction vs generalizing ds with
    |nil=>intro q hq;simp at hq
    |cons v vs ih =>
     cases H with
     |cons a b =>
      intro q hq;rcases List.mem_cons.mp hq with rfl | hq
      ·exact a
      ·exact ih b q hq
   exact(this hvs q hq).mono bb hkk
  ·rcases List.mem_cons.mp hp with rfl | hp
   ·show K.lookup s.heap.objs.size=none
    cases q:K.lookup s.heap.objs.size with
    |none=>rfl
    |some o=>exact absurd (Heap.lt_size (hin _ _ q)) (lt_irrefl _)
   ·show K.lookup p.1=none
    refine rz (Eq.symm (hK ..)) <| S.kx p (mem_append_left _ hp)
  ·rcases y with y | y
   ·obtain⟨o,e⟩:=S.yb a y;exact⟨o,keepF _ _ e⟩
   ·obtain⟨p,hp,rfl⟩:=List.mem_map.mp y;obtain⟨o,e⟩:=(S.own p (mem_append_right _ hp)).there;exact⟨o,keepF _ _ e⟩
  ·rcases List.mem_cons.mp hp with rfl | hp
   ·have:∃ o,s.heap.get? s.heap.objs.size=some o:=by
     rcases y with y | y
     ·exact S.yb _ y
     ·obtain⟨p,hp,e⟩:=List.mem_map.mp y;obtain⟨o,ho⟩:=(S.own p (mem_append_right _ hp)).there;rw[e] at ho;exact⟨o,ho⟩
    obtain⟨o,e⟩:=this;exact absurd (Heap.lt_size e) (lt_irrefl _)
   ·rcases y with y | y
    ·exact S.yx p (mem_append_left _ hp) y
    ·exact nd.2.2 _ (List.mem_map.mpr ⟨p,hp,rfl⟩) _ y rfl
 obtain⟨Z,S1,eZ⟩:=St.pushCells names S0 rfl [];have hszp:(s.heap.push { cls:=.type "frame",data:=.dict #[] }).objs.size=s.heap.objs.size+1:=Heap.size_push ..;rw[hszp,map_nil,append_nil] at eZ;subst eZ
 have S2:St _ ((s.heap.objs.size,.map (Be names []))::(Bm s.heap.objs.size names []++B)) ((vs++dv).zip (ds++dd)) _:=S1.perm (X':=(s.heap.objs.size,.map (Cj names))::(Bm s.heap.objs.size names []++B)) perm_middle;have hE:EnvOk (fnEnv fd s.heap.objs.size f) s.heap.objs.size names (cl s.heap.objs.size):=⟨hd.kind,hnames,by refine rz (hcl ..) <| rz (Eq.symm (hnames ..)) ?_;rfl,rfl,hd.glo,hd.blt,hnd,by refine rz (hcl ..) <| cells_nd hnd _ hclo hcln⟩
 refine rz (hnames ..) ?_;refine wpAny_bind (store_args (env:=fnEnv fd s.heap.objs.size f) _ (fun n v u=>?_) hE (fun q hq=>?_) params (vs++dv) (ds++dd) [] _ _ hpk hlen S2 (fun V h=>h) fun s₂ S₃=>?_)
 ·simp only[fnEnv,hnames,newEnv]
 ·refine rz (hcl ..) <| rz (Bu ..) <| mem_append_left _ hq
 rw[append_nil] at S₃;refine wpAny_pure ⟨hlim _ S₃.stat,?_⟩
 rw[show(_::(_++B))=X0 s.heap.objs.size++B by refine rz (hX0 ..) ?_;rfl] at S₃
 have hk2:=h (A.deeper (fnEnv fd s.heap.objs.size f)) _ _ _ s.heap.objs.size (oA.deeper _) rfl S₃ hE;have:codeAny (model prog w) A (.func body (fnEnv fd s.heap.objs.size f)) R s₂:=by
  refine ks_codeAny_funcAt (ks_wpAt_mono hk2 (fun fl s' hs=>?_) fun V V h=>h.elim)
  obtain⟨Z,d,B',hp,S'⟩:=hs;refine hR _ d B' s' hp ?_;have bq:∀ a,ban c (B'++X) a→ban ⟨K,s.heap,(fun a=>a∈B.map (·.1)),(fun a=>c.Y a∨a∈X.map (·.1)),s.os,s.heap.objs.size⟩ (Z++B') a:=by
   intro a h;rcases h with h | h
   ·exact .inl (.inl h)
   ·rw[map_append] at h;rcases List.mem_append.mp h with h | h
    ·exact .inr (rz (map_append ..) <| mem_append_right _ h)
    ·exact .inl (.inr h)
  have lob:∀ p∈B',s.heap.objs.size≤p.1∨p.1∈B.map (·.1):=fun p hp=>S'.lo p (mem_append_right _ hp)
  have bo:∀ a o,s.heap.get? a=some o→ban c (B'++X) a→ban c (B++X) a:=by
   intro a o e h;refine h.imp id fun h=>?_
   rw[map_append] at h⊢
   rcases List.mem_append.mp h with h | h
   ·obtain⟨p,hp,rfl⟩:=List.mem_map.mp h;rcases lob p hp with z | z
    ·exact absurd (Heap.lt_size e) (Nat.not_lt.mpr z)
    ·exact mem_append_left _ z
   ·exact mem_append_right _ h
  have keep:∀ b o,b∉B.map (·.1)→s.heap.get? b=some o→s'.heap.get? b=some o:=fun b o n e=>S'.keep b o e n
  have kk:∀ a o,¬ ban c (B++X) a→s.heap.get? a=some o→s'.heap.get? a=some o:=fun a o n e=>keep a o (fun z=>n (.inr (rz (map_append ..) <| mem_append_left _ z))) e
  have nd':=S'.nd;rw[map_append,nodup_append] at nd'
  refine⟨fun p hp=>?_,fun p hp=>?_,?_,fun q hq=>?_,fun b o e m=>?_,hK▸S'.stat,fun p hp=>?_,fun a y=>S'.yb a (.inl y),S'.gens,S'.os.trans S.os,⟨S.top.1,?_⟩,fun p hp y=>?_⟩
  ·rcases List.mem_append.mp hp with hp | hp
   ·exact(S'.own p (mem_append_right _ hp)).mono (fun V e=>e) (fun a V V h=>bq a h) (fun V V V e=>e)
   ·refine(S.own p (mem_append_right _ hp)).mono (fun o e=>keep _ o (fun z=>?_) e) bo kk
    exact nd.2.2 _ z _ (List.mem_map.mpr ⟨p,hp,rfl⟩) rfl
  ·rcases List.mem_append.mp hp with hp | hp
   ·rcases lob p hp with z | z
    ·exact .inl (le_trans hsz z)
    ·obtain⟨q,hq,e⟩:=List.mem_map.mp z;refine rz (Eq.symm (e ..)) <| S.lo q (mem_append_left _ hq)
   ·exact S.lo p (mem_append_right _ hp)
  ·rw[map_append,nodup_append];refine⟨nd'.2.1,nd.2.1,fun a ha b hb e=>?_⟩
   subst e;obtain⟨p,hp,rfl⟩:=List.mem_map.mp ha;exact S'.yx p (mem_append_right _ hp) (.inr hb)
  ·rcases List.mem_cons.mp hq with rfl | hq
   ·exact(S'.tmp _ (.head _)).mono (fun a V V h=>bq a h) (fun V V V e=>e)
   ·exact(S.tmp q hq).mono bo kk
  ·refine keep b o (fun z=>?_) (S.keep b o e m)
   obtain⟨q,hq,rfl⟩:=List.mem_map.mp z;rcases S.lo q (mem_append_left _ hq) with z | z
   ·exact absurd (Heap.lt_size e) (Nat.not_lt.mpr z)
   ·exact m z
  ·rcases List.mem_append.mp hp with hp | hp
   ·refine rz (hK ..) <| S'.kx p (mem_append_right _ hp)
   ·exact S.kx p (mem_append_right _ hp)
  ·by_cases z:c.L∈B.map (·.1)
   ·obtain⟨q,hq,e⟩:=List.mem_map.mp z;obtain⟨r,hr,e2⟩:=List.mem_map.mp (hpost d B' hp q hq);refine rz (Eq.symm (e ..)) <| rz (Eq.symm (e2 ..)) <| (S'.own r (mem_append_right _ hr)).there
   ·obtain⟨o,e⟩:=S.top.2;exact⟨o,keep _ _ z e⟩
  ·rcases List.mem_append.mp hp with hp | hp
   ·exact S'.yx p (mem_append_right _ hp) (.inl y)
   ·exact S.yx p (mem_append_right _ hp) y
 simpa only[fnEnv,hnames,newEnv] using this
theorem fn_intro0{K:Frag}{n:Nat}{f:Addr}{ds:Lp}{post:PyData→Xs→Prop}{oc:Value}{od:Option Addr}{sl:Array (Option Value)}{fd:FuncData}{body:List Stmt}(params:List Str)(names:Nk)(X0:Addr→Xs)(cl:Addr→Ce)
  (hf:∀ (c:Cx) (X:Xs) (T:Ts) (s:Shared),c.K=K→St c (B++X) T s→s.heap.get? f=some ⟨oc,od,.func fd,sl⟩∧s.heap.CodeRec fd.code fd.qualname)(hlim:∀ h,K.In h→h.NoLimit)
  (hpost:∀ d B',post d B'→∀ p∈B,p.1∈B'.map (·.1))
  (hd:FdOk fd body)(hnames:fd.scope.names=names)(hnd:(names.map (·.1)).Nodup)
  (hbind:∀ vs,vs.length=ds.length→bindArgs fd ⟨vs,[]⟩=pure (params.zip vs))(hpk:∀ x∈params,(x,NameKind.local)∈names∨(x,NameKind.cell)∈names)
  (hclo:∀ q∈fd.closure,(q.1,NameKind.free)∈names)(hcln:(fd.closure.map (·.1)).Nodup)
  (hX0:∀ L,X0 L=(L,.map (Be names ((params.zip ds).reverse)))::Bm L names ((params.zip ds).reverse))(hcl:∀ L,cl L=cellsFrom (L+1) names fd.closure)
  (h:∀ A c T s L,OkA n A→c.K=K→St c (X0 L++B) T s→EnvOk (fnEnv fd L f) L names (cl L)→wpAny (model prog w) A (execs body (fnEnv fd L f)) (fun fl s'=>∃ Z d B',post d B'∧St c (Z++B') [((match fl with | .ret v=>v | _=>.none),d)] s') (fun V V=>False) s):Fn prog w K (n+1) f B ds post :=
 fn_introA (dv:=[]) (dd:=[]) params names X0 cl hf hlim hpost hd hnames hnd (fun V V=>.nil) (fun vs A s E Q hl V hq=>wpAny_of_eq (hbind vs hl) (by rwa [append_nil] at hq)) hpk hclo hcln (rz (append_nil ..) <| hX0) hcl fun A c T s L oA hK S hE=>wpAt_of_wpAny (h A c T s L oA hK S hE)
theorem r_fn{K:Frag}{n:Nat}{f:Addr}{ds:Lp}{post:PyData→Xs→Prop}{vs:List Value}{Q:VP}(oA:OkA n A)(hK:c.K=K)(F:Fn prog w K n f B ds post)(S:St c (B++X) T s)(hv:Rps (ban c (B++X)) s.heap vs ds)
  (k:∀ d B',post d B'→Kon c (B'++X) T d Q):wpAny (model prog w) A (call (.ref f) vs) Q E s :=
 wpAny_call (F A c X T s vs _ oA hK S hv fun v d B' s' hp S'=>k d B' hp v s' S')
theorem r_pure{K:Frag}{n:Nat}{f:Addr}{ds:Lp}{d:PyData}{vs:List Value}{Q:VP}(oA:OkA n A)(hK:c.K=K)(F:Pure prog w K n f ds d)(S:St c X T s)(hv:Rps (ban c X) s.heap vs ds)
  (k:Kon c X T d Q):wpAny (model prog w) A (call (.ref f) vs) Q E s :=
 r_fn oA hK F S hv fun d B' ⟨e1,e2⟩=>by subst e1;subst e2;exact k
end
section
variable{prog:Program}{w:World}{A:Around}{E:VP}{c:Cx}{X X' B:Xs}{T T':Ts}{s s':Shared}{env:Env}{Q:VP}
theorem Kon.raw{a:Addr}(k:∀ s',St c X T s'→Q (.ref a) s'):Kon c X T (Rf a) Q:=fun v s' S=>by
 have h:=S.rp (.head _);cases h;exact k s' S.pop
noncomputable def Rd(c:Cx)(X:Xs)(h:Heap)(v:Value)(ds:Lp):Prop :=
 ∃ a vs n,v=.ref a∧h.get? a=some ⟨.type "list",none,.seq vs n,#[]⟩∧Rps (ban c X) h vs.toList ds
noncomputable def RdT(c:Cx)(X:Xs)(h:Heap)(v:Value)(ds:Lp):Prop :=
 ∃ a vs n,v=.ref a∧h.get? a=some ⟨.type "tuple",none,.seq vs n,#[]⟩∧Rps (ban c X) h vs.toList ds
theorem St.rdT(S:St c X T s){v:Value}{ds:Lp}(h:(v,.list ds)∈T):Rd c X s.heap v ds:=by
 obtain⟨a,vs,n,e,_,h1,h2⟩:=(S.tmp _ h).listObj;exact⟨a,vs,n,e,h1,h2⟩
theorem St.rdX(S:St c X T s){a:Addr}{ds:Lp}(h:(a,.seq (.type "list") none ds)∈X):Rd c X s.heap (.ref a) ds:=by
 obtain⟨vs,n,h1,h2⟩:=S.own _ h;exact⟨a,vs,n,rfl,h1,h2⟩
def Rds(h:Heap)(v:Value)(d:PyData):Prop:=∃ as,Reads h v d as
theorem Rd.rds{v:Value}{ds:Lp}{h:Heap}(R:Rd c X h v ds)(hc:Fm ds=true):Rds h v (.list ds):=by
 obtain⟨a,vs,n,rfl,h1,h2⟩:=R;obtain⟨as,r⟩:=h2.reads hc;exact⟨_,.list h1 rfl rfl r⟩
theorem r_mul{a b:Int}{t u:Tok}(S:St c X T s)(hm:IntMulOk a b)(h:∀ t s',St c X T s'→Q (.int (a*b) t) s'):wpAny (model prog w) A (binaryOp .Mult (.int a t) (.int b u)) Q E s:=PyProof.Rows.mul_int (h _ _ (S.toks _)) hm
theorem r_fdiv{a b:Int}{t u:Tok}(S:St c X T s)(hb:b≠0)(hs:b.natAbs<1073741824)(h:∀ t s',St c X T s'→Q (.int (a.fdiv b) t) s'):wpAny (model prog w) A (binaryOp .FloorDiv (.int a t) (.int b u)) Q E s:=floordiv_int hb (h _ _ (S.toks _)) (.inl (PyProof.noPylong_small hs))
theorem r_ifdiv{a b:Int}{t u:Tok}(S:St c X T s)(hb:b≠0)(hs:b.natAbs<1073741824)(h:∀ t s',St c X T s'→Q (.int (a.fdiv b) t) s'):wpAny (model prog w) A (inplaceOp .FloorDiv (.int a t) (.int b u)) Q E s:=ifloordiv_int hb (h _ _ (S.toks _)) (.inl (PyProof.noPylong_small hs))
theorem r_iadd{a b:Int}{t u:Tok}(S:St c X T s)(h:∀ t s',St c X T s'→Q (.int (a+b) t) s'):wpAny (model prog w) A (inplaceOp .Add (.int a t) (.int b u)) Q E s:=PyProof.Rows.iadd_int (h _ _ (S.toks _))
theorem r_pow{a n:Int}{t u:Tok}(S:St c X T s)(hn:0≤n)(hsz:(Builtin.Int.intBits a:Int)*n≤2^27)(h:∀ t s',St c X T s'→Q (.int (a^n.toNat) t) s'):wpAny (model prog w) A (binaryOp .Pow (.int a t) (.int n u)) Q E s:=pow_int hn hsz (h _ _ (S.toks _))
theorem r_neg{a:Int}{t:Tok}(S:St c X T s)(h:∀ t s',St c X T s'→Q (.int (-a) t) s'):wpAny (model prog w) A (unaryOp .USub (.int a t)) Q E s:=PyProof.Rows.neg_int (h _ _ (S.toks _))
theorem r_lt{a b:Int}{t u:Tok}(h:Q (.bool (decide (a<b))) s):wpAny (model prog w) A (compareOp .Lt (.int a t) (.int b u)) Q E s:=PyProof.Rows.lt_int h
theorem r_gt{a b:Int}{t u:Tok}(h:Q (.bool (decide (b<a))) s):wpAny (model prog w) A (compareOp .Gt (.int a t) (.int b u)) Q E s:=PyProof.Rows.gt_int h
theorem r_le{a b:Int}{t u:Tok}(h:Q (.bool (decide (a≤b))) s):wpAny (model prog w) A (compareOp .LtE (.int a t) (.int b u)) Q E s:=PyProof.Rows.le_int h
theorem r_ge{a b:Int}{t u:Tok}(h:Q (.bool (decide (b≤a))) s):wpAny (model prog w) A (compareOp .GtE (.int a t) (.int b u)) Q E s:=PyProof.Rows.ge_int h
theorem r_eqint{a b:Int}{t u:Tok}(h:Q (.bool (a == b)) s):wpAny (model prog w) A (compareOp .Eq (.int a t) (.int b u)) Q E s:=PyProof.Rows.eq_int h
theorem r_neint{a b:Int}{t u:Tok}(h:Q (.bool (a != b)) s):wpAny (model prog w) A (compareOp .NotEq (.int a t) (.int b u)) Q E s:=PyProof.Rows.ne_int h
theorem r_nestr{x y:Str}{t u:Tok}(h:Q (.bool (!(x == y))) s):wpAny (model prog w) A (compareOp .NotEq (.str x t) (.str y u)) Q E s:=PyProof.Rows.ne_str h
theorem r_adds{x y:Str}{t u:Tok}(S:St c X T s)(hsz:x.length+y.length≤sizeLine)(h:∀ t s',St c X T s'→Q (.str (x++y) t) s'):wpAny (model prog w) A (binaryOp .Add (.str x t) (.str y u)) Q E s:=PyProof.Rows.add_str (fun t' k=>h _ _ (S.toks k)) hsz
theorem r_iadds{x y:Str}{t u:Tok}(S:St c X T s)(hsz:x.length+y.length≤sizeLine)(h:∀ t s',St c X T s'→Q (.str (x++y) t) s'):wpAny (model prog w) A (inplaceOp .Add (.str x t) (.str y u)) Q E s:=PyProof.Rows.iadd_str (fun t' k=>h _ _ (S.toks k)) hsz
theorem r_instr{x y:Str}{t u:Tok}(h:Q (.bool (Txt.contains x y)) s):wpAny (model prog w) A (compareOp .In (.str y u) (.str x t)) Q E s:=P.in_str h
theorem r_stritem{value slice:Expr}{x:Str}{t u:Tok}{i:Int}{n:Nat}(S:St c X T s)(hr:(decide (i < -(2^63:Int))||decide (i≥2^63))=false)(hc:(seqIndex? i x.length).bind (x.cps[·]?)=some n)
  (h:∀ t s',St c X T s'→Q (.str ⟨#[n]⟩ t) s')(hs:subscripted slice false (.str x t) (.int i u)=operate [.str x t,.int i u] (getItem (.str x t) (.int i u))) :
  wpAny (model prog w) A (subscriptTail value slice (.str x t) (.int i u)) Q E s :=
 tail_any (typeIs_str s x t) slot_str_getitem.lookup (PyProof.Rows.getItem_str hr hc (h _ _ (S.toks _))) hs
theorem r_len{v:Value}{ds:Lp}(S:St c X T s)(R:Rd c X s.heap v ds)(hz:ds.length<2^63)(h:∀ t s',St c X T s'→Q (.int ds.length t) s'):wpAny (model prog w) A (call (.builtin "len") [v]) Q E s:=by
 obtain⟨a,vs,n,rfl,h1,h2⟩:=R;have e:vs.size=ds.length:=by simpa using h2.length
 refine call_len_list (items:=vs) ⟨_,h1,rfl,n,rfl⟩ (rz (e ..) <| (ai [_] [] (.a (.c Aa) Ah) Ak (.c 1 (.a Aa Ad) Ax .z) 0 rfl hz)) ?_
 refine rz (e ..) <| h _ _ (S.toks _)
theorem r_item{value slice:Expr}{v:Value}{ds:Lp}{k:Int}{u:Tok}{d:PyData}(S:St c X T s)(R:Rd c X s.heap v ds)(h0:0≤k)(hfit:k<2^63)(hd:ds[k.toNat]?=some d)(h:Kon c X T d Q)
  (hs:∀ a,subscripted slice false (.ref a) (.int k u)=operate [.ref a,.int k u] (getItem (.ref a) (.int k u))) :
  wpAny (model prog w) A (subscriptTail value slice v (.int k u)) Q E s:=by
 obtain⟨a,vs,n,rfl,h1,h2⟩:=R;obtain⟨x,hx,r⟩:=h2.get hd;have hl:s.heap.IsList a vs:=⟨_,h1,rfl,n,rfl⟩;exact tail_any hl.typeIs slot_list_getitem.lookup (wpAny_getItem_list (x:=x) hl h0 hfit (by simpa using hx) (h.app S r)) (hs a)
theorem r_itemneg{value slice:Expr}{v:Value}{ds:Lp}{k:Int}{u:Tok}{d:PyData}(S:St c X T s)(R:Rd c X s.heap v ds)(h0:k<0)(h1':-(ds.length:Int)≤k)(hfit:-(2^63)≤k)(hd:ds[(k+ds.length).toNat]?=some d)(h:Kon c X T d Q)
  (hs:∀ a,subscripted slice false (.ref a) (.int k u)=operate [.ref a,.int k u] (getItem (.ref a) (.int k u))) :
  wpAny (model prog w) A (subscriptTail value slice v (.int k u)) Q E s:=by
 obtain⟨a,vs,n,rfl,h1,h2⟩:=R;obtain⟨x,hx,r⟩:=h2.get hd;have e:vs.size=ds.length:=by simpa using h2.length
 have hl:s.heap.IsList a vs:=⟨_,h1,rfl,n,rfl⟩;exact tail_any hl.typeIs slot_list_getitem.lookup (wpAny_getItem_list_neg (x:=x) hl h0 (rz (e ..) <| h1') hfit (by refine rz (e ..) ?_;simpa using hx) (h.app S r)) (hs a)
noncomputable def pick{α:Type}(ds:List α)(lo hi st:Option Int):List α :=
 (sliceRange (sliceBounds lo hi st ds.length).1 (sliceBounds lo hi st ds.length).2.1 (sliceBounds lo hi st ds.length).2.2).filterMap (ds[·]?)
theorem Rps.pick{P:Addr→Prop}{h:Heap}{vs:Array Value}{ds:Lp}(H:Rps P h vs.toList ds)(lo hi st:Option Int):Rps P h (slicePick vs lo hi st).toList (Mine.pick ds lo hi st):=by
 unfold slicePick Mine.pick;have e:vs.size=ds.length:=by simpa using H.length
 refine rz (e ..) <| rz (List.toList_toArray ..) ?_
 generalize sliceRange _ _ _=l
 induction l with
 |nil=>exact .nil
 |cons i l ih =>
  refine rz (filterMap_cons ..) <| rz (filterMap_cons ..) ?_
  cases hd:ds[i]? with
  |none =>
   have:vs[i]?=none:=by
    rw[List.getElem?_eq_none_iff] at hd;rw[Array.getElem?_eq_none_iff];exact(le_trans (le_of_eq e) hd)
   refine rz (this ..) <| ih
  |some d =>
   obtain⟨v,hv,r⟩:=H.get hd;refine rz (show vs[i]?=some v by simpa using hv) <| .cons r ih
theorem r_lslice{value slice:Expr}{v vl vu vst:Value}{ds:Lp}{lo hi st:Option Int}{ops:Value→List Value}(S:St c X T s)(R:Rd c X s.heap v ds)(pl:IsPart vl lo)(pu:IsPart vu hi)(ps:IsPart vst st)(h0:st≠some 0)(hz:ds.length≤sizeLine)
  (h:∀ a s',St c ((a,.seq (.type "list") none (pick ds lo hi st))::X) T s'→Q (.ref a) s')
  (hs:∀ a,subscripted slice false (.ref a) (.ref s.heap.objs.size)=operate (ops (.ref a)) (getItem (.ref a) (.ref s.heap.objs.size))) :
  wpAny (model prog w) A (subscriptTail value slice v (.ref s.heap.objs.size)) Q E { s with heap:=s.heap.push { cls:=.type "slice",data:=.fields #[vl,vu,vst] } }:=by
 obtain⟨a,vs,n,rfl,h1,h2⟩:=R;have e:vs.size=ds.length:=by simpa using h2.length
 have hl:s.heap.IsList a vs:=⟨_,h1,rfl,n,rfl⟩;have S1:St c X T { s with heap:=s.heap.push { cls:=.type "slice",data:=.fields #[vl,vu,vst] } }:=S.push_step (t:=s.toks)
 have h2':=h2.mono (fun V V V q=>q) (fun b o V e=>Heap.get?_push_of_some { cls:=.type "slice",data:=.fields #[vl,vu,vst] } e)
 refine tail_any (Heap.IsList.typeIs (s:={ s with heap:=s.heap.push { cls:=.type "slice",data:=.fields #[vl,vu,vst] } }) (hl.push _)) list_getitem_lookup
  (wpAny_getItem_list_slice (hl.push _) (Heap.IsSliceOf.new ..) pl pu ps h0 (h _ _ (S1.own_push (t:=s.toks) ⟨_,_,Heap.get?_push_size _ rfl,?_⟩)) (rz (e ..) <| hz)) (hs a)
 exact S1.rps_push (o:={ cls:=.type "list",data:=.seq (slicePick vs lo hi st) }) (Rps.pick h2' lo hi st)
theorem Rps.ints{P:Addr→Prop}{h:Heap}{ns:List Int}:∀ {vs:List Value},Rps P h vs (ns.map .int)→IntsAre vs ns:=by
 induction ns with
 |nil=>intro vs H;cases H;exact .nil
 |cons n ns ih =>
  intro vs H;cases H with
  |cons a b=>cases a;exact .cons _ _ (ih b)
theorem Rps.of_ints{P:Addr→Prop}{h:Heap}{vs:List Value}{ns:List Int}(H:IntsAre vs ns):Rps P h vs (ns.map .int):=by
 induction H with
 |nil=>exact .nil
 |cons n t _ ih=>exact .cons (.int _ _) ih
theorem Rps.strs{P:Addr→Prop}{h:Heap}{ns:List Str}:∀ {vs:List Value},Rps P h vs (ns.map .str)→StrsAre vs ns:=by
 induction ns with
 |nil=>intro vs H;cases H;exact .nil
 |cons n ns ih =>
  intro vs H;cases H with
  |cons a b=>cases a;exact .cons _ _ (ih b)
theorem rd_size{v:Value}{ds:Lp}{h:Heap}{a:Addr}{vs:Array Value}(h2:Rps (ban c X) h vs.toList ds):vs.size=ds.length:=by simpa using h2.length
theorem St.h'(S:St c X T s){h':Heap}{t:Nat}(hk:∀ b o,s.heap.get? b=some o→h'.get? b=some o):St c X T { s with heap:=h',toks:=t }:=S.extH hk
theorem St.newOwn(S:St c X T s){h':Heap}{t:Nat}{a:Addr}{items:Array Value}{ds:Lp}{n:Nat}(hk:∀ b o,s.heap.get? b=some o→h'.get? b=some o)(ha:s.heap.objs.size≤a)
  (hD:h'.get? a=some { cls:=.type "list",dict:=none,data:=.seq items n,slots:=#[] })(hr:Rps (ban c X) s.heap items.toList ds):St c ((a,.seq (.type "list") none ds)::X) T { s with heap:=h',toks:=t }:=by
 have hb:∀ b o,s.heap.get? b=some o→ban c ((a,.seq (.type "list") none ds)::X) b→ban c X b:=fun b o e q=>q.imp id fun q=>by
  rcases List.mem_cons.mp q with rfl | q
  ·exact absurd (Heap.lt_size e) (Nat.not_lt.mpr ha)
  ·exact q
 refine S.freshL (s':={ s with heap:=h',toks:=t }) (Z:=[(a,.seq (.type "list") none ds)]) (by simp) (fun p hp=>?_) hk S.gens rfl (fun p hp=>?_)
 ·refine rz (List.mem_singleton.mp hp ..) <| ha
 ·refine rz (List.mem_singleton.mp hp ..) <| ⟨items,n,hD,hr.mono hb fun b o V e=>hk b o e⟩
theorem r_addlist{v v':Value}{ds es:Lp}(S:St c X T s)(R:Rd c X s.heap v ds)(R':Rd c X s.heap v' es)(hz:ds.length+es.length≤sizeLine)
  (h:∀ a s',St c ((a,.seq (.type "list") none (ds++es))::X) T s'→Q (.ref a) s'):wpAny (model prog w) A (binaryOp .Add v v') Q E s:=by
 obtain⟨a,vs,n,rfl,h1,h2⟩:=R;obtain⟨b,us,m,rfl,h3,h4⟩:=R';refine P.add_list h1 h3 (h _ _ ?_) (rz (rd_size (v:=.none) (a:=0) h2 ..) <| rz (rd_size (v:=.none) (a:=0) h4 ..) <| hz)
 refine S.newOwn (t:=s.toks) (fun V V e=>Heap.get?_push_of_some _ e) (le_refl _) (Heap.get?_push_size _ rfl) ?_
 simpa using h2.append h4
theorem inplace_iadd{a b:Value}(ha:s.TypeIs a "list")(hb:s.TypeIs b "list")(hc:wpAny (model prog w) A (call (.builtin "list.__iadd__") [a,b]) Q E s):wpAny (model prog w) A (inplaceOp .Add a b) Q E s:=by
 unfold inplaceOp;refine wpAny_holding ?_;have hl:typeLookup (.type "list") (dunderI "add")=pure (some (.builtin "list.__iadd__")):=PySem.F.slot_list_iadd.lookup;have hseq:isSeqSlot (some (Value.builtin "list.__iadd__"))=true:=by decide +kernel
 have hfi:fillsInplaceSlot (.type "list") "add" (Operator.Add == .Add)=pure false:=by
  unfold fillsInplaceSlot
  show(typeLookup (.type "list") (dunderI "add") >>= fun fi=>pure (fi.isSome && !isSeqSlot fi))=pure false
  refine rz (hl ..) <| rz (pure_bind ..) <| rz (hseq ..) ?_;rfl
 refine wpAny_bind (wpAny_typeOf ha (wpAny_bind (wpAny_of_eq hfi ?_)))
 show wpAny _ A (if false=true then _ else _) Q E s
 refine rz (if_neg Bool.false_ne_true ..) <| wpAny_bind (wpAny_binaryOp1_none (nm := "add") ha hb noFill_list_add ?_)
 refine wpAny_bind (wpAny_of_eq (PySem.seqSlot_of hl hseq) ?_);exact wpAny_bind (wpAny_rule hc)
theorem r_extend{a:Addr}{v':Value}{ds es:Lp}(S:St c X T s)(U:Ups a (.seq (.type "list") none ds) (.seq (.type "list") none (ds++es)) X X')(R':Rd c X s.heap v' es)(hz:ds.length+es.length≤4096)
  (h:∀ s',St c X' T s'→Q (.ref a) s'):wpAny (model prog w) A (inplaceOp .Add (.ref a) v') Q E s:=by
 obtain⟨vs,n,ho,hr⟩:=S.own _ U.mem;obtain⟨b,us,m,rfl,h3,h4⟩:=R';have e1:vs.size=ds.length:=by simpa using hr.length
 have e2:us.size=es.length:=by simpa using h4.length
 have hk':∀ b o,b≠a→s.heap.get? b=some o→(s.heap.update a (Obj.mapSeq fun x=>x++us)).get? b=some o:=fun b o ne e=>(Heap.get?_update_other _ _ (Ne.symm ne)).trans e
 refine inplace_iadd ⟨_,ho,rfl⟩ ⟨_,h3,rfl⟩ (call_meets PySem.F.slot_list_iadd ⟨_,ho,rfl⟩ PySem.F.entry_list_iadd (PySem.F.args_list_iadd_2 _ _)
  (PySem.AutoSeq1.list___iadd___list_list_0 a vs n b us m ?_ (rz (sizeLine_eq ..) <| (ar [_,_,_] Ag Aq (.c 1 (.a Aa Ab) (.n 4096) (.c 1 Ag Aa .z)) 0 rfl hz (le_of_eq e1))) (rz (sizeLine_eq ..) <| (ar [_,_,_,_] (.a Ag An) (.a Aq Ad) (.c 1 (.a Aa Ab) (.n 4096) (.c 1 Ag Aa (.c 1 An Ab .z))) 0 rfl hz (le_of_eq e1) (le_of_eq e2)))) ⟨ho,h3,h _ ?_⟩)
 ·have:Builtin.List.listTooLong (vs.size+us.size)=false:=by
   unfold Builtin.List.listTooLong;refine rz (sizeLine_eq ..) ?_;simp;exact(ar [_,_,_,_] (.a Ag An) Aq (.c 1 (.a Aa Ab) (.n 4096) (.c 1 Ag Aa (.c 1 An Ab .z))) 0 rfl hz (le_of_eq e1) (le_of_eq e2))
  refine rz (this ..) ?_;simp
 ·have mono:∀ {xs:List Value}{ys:Lp},Rps (ban c X) s.heap xs ys→Rps (ban c X') (s.heap.update a (Obj.mapSeq fun x=>x++us)) xs ys:=fun h =>
   h.mono (fun b o V q=>by unfold ban at q⊢;rw[U.keys] at q;exact q) (fun b o n e=>hk' b o (fun q=>n (q▸.inr (List.mem_map.mpr ⟨_,U.mem,rfl⟩))) e)
  refine S.step (t:=s.toks) U hk' ⟨_,_,Heap.get?_update_self _ ho rfl,?_⟩
  simpa using (mono hr).append (mono h4)
theorem r_setitem{a:Addr}{k:Int}{u:Tok}{v:Value}{d:PyData}{ds:Lp}{Q:Unit→Shared→Prop}(S:St c X T s)(hv:Rp (ban c X) s.heap v d)(U:Ups a (.seq (.type "list") none ds) (.seq (.type "list") none (ds.set k.toNat d)) X X')(h0:0≤k)(hfit:k<2^63)(hk:k<ds.length)
  (h:∀ s',St c X' T s'→Q () s'):wpAny (model prog w) A (setItem (.ref a) (.int k u) v) Q E s:=by
 obtain⟨vs,n,ho,hr⟩:=S.own _ U.mem;have e:vs.size=ds.length:=by simpa using hr.length
 refine ki_setAt (n:=n) (items:=vs) ho h0 hfit (rz (e ..) <| hk) (h _ ?_)
 have hk':∀ b o,b≠a→s.heap.get? b=some o→(s.heap.update a (Obj.mapSeq (·.setIfInBounds k.toNat v))).get? b=some o:=fun b o ne e=>(Heap.get?_update_other _ _ (Ne.symm ne)).trans e
 refine S.step (t:=s.toks) U hk' ⟨_,_,Heap.get?_update_self _ ho rfl,?_⟩;have hr':=(hr.mono (P':=ban c X') (h':=s.heap.update a (Obj.mapSeq (·.setIfInBounds k.toNat v))) (fun b o V q=>by unfold ban at q⊢;rw[U.keys] at q;exact q) (fun b o n e=>hk' b o (fun q=>n (q▸.inr (List.mem_map.mpr ⟨_,U.mem,rfl⟩))) e)).set k.toNat (S.rpUps U hk' hv)
 simpa using hr'
theorem r_popat{a:Addr}{i:Int}{u:Tok}{k:Nat}{d:PyData}{ds:Lp}(S:St c X T s)(U:Ups a (.seq (.type "list") none ds) (.seq (.type "list") none (ds.eraseIdx k)) X X')(hf:Builtin.List.listFitsIndex i=true)(hk:seqIndex? i ds.length=some k)(hd:ds[k]?=some d)(hz:ds.length≤sizeLine)
  (h:Kon c X' T d Q):wpAny (model prog w) A (call (.builtin "list.pop") [.ref a,.int i u]) Q E s:=by
 obtain⟨vs,n,ho,hr⟩:=S.own _ U.mem;have e:vs.size=ds.length:=by simpa using hr.length
 obtain⟨y,hy,ry⟩:=hr.get hd;have hk':∀ b o,b≠a→s.heap.get? b=some o→(s.heap.update a (Obj.mapSeq fun xs=>xs.eraseIdxIfInBounds k)).get? b=some o:=fun b o ne e=>(Heap.get?_update_other _ _ (Ne.symm ne)).trans e
 refine call_meets PySem.F.slot_list_pop ⟨_,ho,rfl⟩ PySem.F.entry_list_pop (PySem.F.args_list_pop_2 _ _) (PySem.MeetsSeq.list_pop_at a vs n i u k y hf (rz (e ..) <| hk) (by simpa using hy) (rz (e ..) <| hz)) ⟨ho,h _ _ ?_⟩
 refine(S.step (t:=s.toks) U hk' ⟨_,_,Heap.get?_update_self _ ho rfl,?_⟩).push (S.rpUps U hk' ry);have hr':=hr.mono (P':=ban c X') (h':=s.heap.update a (Obj.mapSeq fun xs=>xs.eraseIdxIfInBounds k)) (fun b o V q=>by unfold ban at q⊢;rw[U.keys] at q;exact q) (fun b o n e=>hk' b o (fun q=>n (q▸.inr (List.mem_map.mpr ⟨_,U.mem,rfl⟩))) e)
 have hl:k<vs.size:=by
  have:=List.getElem?_eq_some_iff.mp hd;obtain⟨h,_⟩:=this;exact(le_trans h (le_of_eq e.symm))
 have er:∀ {vs:List Value}{ds:Lp}{P:Addr→Prop}{h:Heap}(k:Nat),Rps P h vs ds→Rps P h (vs.eraseIdx k) (ds.eraseIdx k):=by
  intro vs ds P h k H;refine rz (eraseIdx_eq_take_drop_succ ..) <| rz (eraseIdx_eq_take_drop_succ ..) <| (H.take k).append (H.drop (k+1))
 have:=er k hr'
 simpa [Array.eraseIdxIfInBounds,hl] using this
theorem r_sum{v:Value}{ns:List Int}(hh:A.handled=none)(S:St c X T s)(R:Rd c X s.heap v (ns.map .int))(h:∀ t s',St c X T s'→Q (.int ns.sum t) s'):wpAny (model prog w) A (call (.builtin "sum") [v]) Q E s:=by
 obtain⟨a,vs,n,rfl,h1,h2⟩:=R;have hi:=h2.ints;have hl:s.heap.IsList a vs:=⟨_,h1,rfl,n,rfl⟩;refine call_sum_walkAnyS (wpAny_pyIter_list hl ?_);have hne:a≠s.heap.objs.size:=ne_of_lt (Heap.lt_size h1);have ek:∀ {s':Shared},Moved [s.heap.objs.size] (fun a b=>b=a) { s with heap:=s.heap.push { cls:=.type "list_iterator",data:=.fields #[.ref a,.int 0 0] } } s'→St c X T s':=fun {s'} M=>by
  refine S.ext (fun b o e=>M.heap b o (fun hm=>?_) (Heap.get?_push_of_some _ e)) (rz (M.gens ..) <| S.gens) M.os
  rcases List.mem_singleton.mp hm with rfl
  exact absurd (Heap.lt_size e) (lt_irrefl _)
 have hat:∀ {i:Nat}{v:Value},vs[i]?=some v→∃ t,v=.int (ns.getD i 0) t:=by
  intro i v hv;have hv':vs.toList[i]?=some v:=by simpa using hv
  have:∀ {vs:List Value}{ns:List Int}{i:Nat}{v:Value},IntsAre vs ns→vs[i]?=some v→∃ t,v=.int (ns.getD i 0) t:=by
   intro vs ns i v H
   induction H generalizing i with
   |nil=>intro h;simp at h
   |cons n t _ ih =>
    cases i with
    |zero=>intro h;simp at h;exact⟨t,by simpa using h.symm⟩
    |succ i=>intro h;simpa using ih (by simpa using h)
  exact this hi hv'
 have hsum:preSum (fun j=>ns.getD j 0) vs.size=ns.sum:=by
  have e:vs.size=ns.length:=by have:=h2.length;simpa using this
  refine rz (e ..) ?_;have:∀ (ns:List Int) (k:Nat),k≤ns.length→preSum (fun j=>ns.getD j 0) k=(ns.take k).sum:=by
   intro ns k
   induction k with
   |zero=>intro _;simp[preSum]
   |succ k ih =>
    intro hk;rw[preSum,ih (le_of_lt hk),take_add_one,sum_append];have hlt:k<ns.length:=by exact hk
    simp[List.getD,hlt]
  refine rz (this _ _ (le_refl _) ..) <| rz (take_length ..) rfl
 refine⟨_,_,_,_,_,_,_,fun j=>ns.getD j 0,rfl,(Walks.list (A:=A.in1) hh s.heap.objs.size a hne vs).toS,?_,?_,?_,?_⟩
 ·exact⟨⟨_,Heap.get?_push_size _ rfl,rfl,rfl⟩,hl.push _⟩
 ·intro b hb
  show b<(s.heap.push _).objs.size
  refine rz (Heap.size_push ..) ?_;rcases List.mem_cons.mp hb with rfl | hb
  ·exact lt_succ_self _
  ·rcases List.mem_cons.mp hb with rfl | hb
   ·exact lt_succ_of_lt (Heap.lt_size h1)
   ·cases hb
 ·exact fun i v hv=>hat hv
 ·intro s' t' M;refine rz (hsum ..) <| h t' s' (ek M)
theorem ints_at{vs:Array Value}{ns:List Int}(hi:IntsAre vs.toList ns){i:Nat}{v:Value}(hv:vs[i]?=some v):∃ t,v=.int (ns.getD i 0) t:=by
 have hv':vs.toList[i]?=some v:=by simpa using hv
 have:∀ {vs:List Value}{ns:List Int}{i:Nat}{v:Value},IntsAre vs ns→vs[i]?=some v→∃ t,v=.int (ns.getD i 0) t:=by
  intro vs ns i v H
  induction H generalizing i with
  |nil=>intro h;simp at h
  |cons n t _ ih =>
   cases i with
   |zero=>intro h;simp at h;exact⟨t,by simpa using h.symm⟩
   |succ i=>intro h;simpa using ih (by simpa using h)
 exact this hi hv'
def IsMax(m:Int)(ns:List Int):Prop:=m∈ns∧∀ a∈ns,a≤m
theorem r_max{v:Value}{ns:List Int}(hh:A.handled=none)(S:St c X T s)(R:Rd c X s.heap v (ns.map .int))(hne:ns≠[])(h:∀ m t s',IsMax m ns→St c X T s'→Q (.int m t) s'):wpAny (model prog w) A (call (.builtin "max") [v]) Q E s:=by
 obtain⟨a,vs,n,rfl,h1,h2⟩:=R;have hi:=h2.ints;have hl:s.heap.IsList a vs:=⟨_,h1,rfl,n,rfl⟩;have e:vs.size=ns.length:=by have:=h2.length;simpa using this
 have h0:0<ns.length:=List.length_pos_iff.mpr hne;have hne':a≠s.heap.objs.size:=ne_of_lt (Heap.lt_size h1);refine call_max_walk (wpAny_pyIter_list hl ?_);refine⟨_,_,_,_,_,_,_,rfl,Walks.list (A:=A.in1) hh s.heap.objs.size a hne' vs,⟨⟨_,Heap.get?_push_size _ rfl,rfl,rfl⟩,hl.push _⟩,?_,by exact(le_trans h0 (le_of_eq e.symm)),CmpOf.ints_gt (fun j=>ns.getD j 0) (fun i v hv=>ints_at hi hv),fun v h' tk hP hk=>?_⟩
 ·intro b hb
  show b<(s.heap.push _).objs.size
  refine rz (Heap.size_push ..) ?_;rcases List.mem_cons.mp hb with rfl | hb
  ·exact lt_succ_self _
  ·rcases List.mem_cons.mp hb with rfl | hb
   ·exact lt_succ_of_lt (Heap.lt_size h1)
   ·cases hb
 ·obtain⟨t,rfl⟩:=ints_at hi hP;obtain⟨b1,b2⟩:=argBest_gt (fun j=>ns.getD j 0) (vs.size-1)
  have hat:∀ j,j<ns.length→ns.getD j 0=ns[j]?.getD 0:=fun j V=>by simp[List.getD]
  refine h _ t _ ⟨?_,fun x hx=>?_⟩ (S.h' (t:=tk) fun b o e'=>hk b o (fun hm=>?_) (Heap.get?_push_of_some _ e'))
  ·have hlt:argBest (fun i j=>decide (ns.getD i 0 > ns.getD j 0)) (vs.size-1)<ns.length:=by exact(ar [_,_,_,_] (.a Ag Ad) Ab (.c 1 Aa Ab (.c 1 Ag An (.c 1 (.a An Ad) Aa .z))) 0 rfl (le_of_eq e) b1 (le_of_eq (sub_add_cancel (ar [_,_] Ad Ab (.c 1 Aa Ab (.c 1 (.a Al Ad) Aa .z)) 0 rfl (le_of_eq e.symm) h0))))
   refine rz (List.getD_eq_getElem?_getD ..) <| rz (List.getElem?_eq_getElem hlt ..) <| getElem_mem hlt
  ·obtain⟨j,hj,rfl⟩:=List.getElem_of_mem hx;have:=b2 j (ar [_,_,_,_] Ag An (.c 1 Aa Ab (.c 1 (.a Ag Ad) Aa (.c 1 Ab (.a An Ad) .z))) 0 rfl (le_of_eq e.symm) hj (le_sa ..));rw[List.getD_eq_getElem?_getD,List.getElem?_eq_getElem hj] at this;exact this
  ·rcases List.mem_singleton.mp hm with rfl
   exact absurd (Heap.lt_size e') (lt_irrefl _)
theorem r_max2{a b:Int}{t u:Tok}(hh:A.handled=none)(S:St c X T s)(h:∀ t s',St c X T s'→Q (.int (max a b) t) s'):wpAny (model prog w) A (call (.builtin "max") [.int a t,.int b u]) Q E s:=by
 refine max_two_ints hh fun h' tk hk=>?_
 have S':=S.h' (t:=tk) hk
 by_cases hb:b > a
 ·refine rz (if_pos hb ..) ?_;have:=h u _ S'
  rwa [show max a b=b by omega] at this
 ·refine rz (if_neg hb ..) ?_;have:=h t _ S'
  rwa [show max a b=a by omega] at this
noncomputable def isort(ns:List Int):List Int:=ns.mergeSort (fun a b=>decide (a≤b))
theorem Ee{ms ns:List Int}(p:ms.Perm ns)(hs:ms.Pairwise (·≤·)):ms=isort ns:=by
 have h1:(isort ns).Pairwise (fun a b=>(decide (a≤b))=true):=List.pairwise_mergeSort (le:=fun a b=>decide (a≤b)) (by intro a b c;simp;omega) (by intro a b;simp;omega) ns
 have h2:(isort ns).Perm ns:=List.mergeSort_perm ns _;refine List.Perm.eq_of_pairwise (le:=(·≤·)) (fun a b V V h1 h2=>Int.le_antisymm h1 h2) hs (h1.imp fun h=>by simpa using h) (p.trans h2.symm)
theorem r_sorted{v:Value}{ns:List Int}(S:St c X T s)(R:Rd c X s.heap v (ns.map .int))(h64:ns.length<64)(h:∀ a s',St c ((a,.seq (.type "list") none ((isort ns).map .int))::X) T s'→Q (.ref a) s'):wpAny (model prog w) A (call (.builtin "sorted") [v]) Q E s:=by
 obtain⟨a,vs,n,rfl,h1,h2⟩:=R;have hl:s.heap.IsList a vs.toList.toArray:=⟨_,h1,rfl,n,by simp⟩
 have e:vs.size=ns.length:=by have:=h2.length;simpa using this
 refine sorted_ints hl h2.ints (by simpa [e] using h64) fun out ns' a1 a2 a3=>h _ _ ?_
 obtain⟨k,he⟩:=sortedAll_at s.heap vs.toList out;refine rz (Eq.symm (Ee a2 a3 ..)) <| S.newOwn (t:=s.toks) (fun V V=>sortedAll_old) (le_succ _) he (Rps.of_ints a1)
theorem r_eqdata{v v':Value}{d d':PyData}(R:Rds s.heap v d)(R':Rds s.heap v' d')(ha:SeqAt.shaped d=true)(hb:SeqAt.shaped d'=true)(hu:A.units+64<cLine)(h:Q (.bool (PyData.eqv d d')) s):wpAny (model prog w) A (compareOp .Eq v v') Q E s:=by
 obtain⟨as,r⟩:=R;obtain⟨bs,r'⟩:=R';exact eq_dataH r r' ha hb hu h
theorem r_nedata{v v':Value}{d d':PyData}(R:Rds s.heap v d)(R':Rds s.heap v' d')(ha:SeqAt.shaped d=true)(hb:SeqAt.shaped d'=true)(hu:A.units+64<cLine)(h:Q (.bool (!PyData.eqv d d')) s):wpAny (model prog w) A (compareOp .NotEq v v') Q E s:=by
 obtain⟨as,r⟩:=R;obtain⟨bs,r'⟩:=R';exact ne_dataH r r' ha hb hu h
theorem r_indata{v v':Value}{xs:Lp}{d:PyData}(R:Rds s.heap v (.list xs))(R':Rds s.heap v' d)(hxs:PyData.canLayAll0 xs=true)(hd:d.canLay0=true)(hu:A.units+1+min (PyData.depthAll xs) d.depth<cLine)(h:Q (.bool (xs.any fun y=>PyData.eqv y d)) s):wpAny (model prog w) A (compareOp .In v' v) Q E s:=by
 obtain⟨as,r⟩:=R;obtain⟨bs,r'⟩:=R';exact SeqAt.in_list_reads r r' hxs hd hu h
theorem r_notindata{v v':Value}{xs:Lp}{d:PyData}(R:Rds s.heap v (.list xs))(R':Rds s.heap v' d)(hxs:PyData.canLayAll0 xs=true)(hd:d.canLay0=true)(hu:A.units+1+min (PyData.depthAll xs) d.depth<cLine)(h:Q (.bool (!xs.any fun y=>PyData.eqv y d)) s):wpAny (model prog w) A (compareOp .NotIn v' v) Q E s:=by
 obtain⟨as,r⟩:=R;obtain⟨bs,r'⟩:=R';exact SeqAt.notIn_list_reads r r' hxs hd hu h
theorem r_countint{v:Value}{ns:List Int}{k:Int}{t:Tok}(S:St c X T s)(R:Rd c X s.heap v (ns.map .int))(h:∀ t s',St c X T s'→Q (.int (ns.count k:Nat) t) s'):wpAny (model prog w) A (call (.builtin "list.count") [v,.int k t]) Q E s:=by
 obtain⟨a,vs,n,rfl,h1,h2⟩:=R;have hi:=h2.ints
 let e:Value→Bool:=fun | .int j _=>j == k | _=>false
 have he:∀ y,y∈vs→PySem.MeetsSeq.EqGives y (.int k t) (e y):=by
  intro y hy;have:∀ {vs:List Value}{ns:List Int},IntsAre vs ns→∀ y∈vs,∃ j u,y=.int j u:=by
   intro vs ns H
   induction H with
   |nil=>intro y hy;cases hy
   |cons n t _ ih=>intro y hy;rcases List.mem_cons.mp hy with rfl | hy;exact⟨_,_,rfl⟩;exact ih y hy
  obtain⟨j,u,rfl⟩:=this hi y (by simpa using hy)
  exact PySem.MeetsSeq.EqGives.int j k u t
 have hc:vs.toList.countP e=ns.count k:=by
  have:∀ {vs:List Value}{ns:List Int},IntsAre vs ns→vs.countP e=ns.count k:=by
   intro vs ns H
   induction H with
   |nil=>rfl
   |cons n t _ ih=>refine rz (List.countP_cons ..) <| rz (count_cons ..) <| rz (ih ..) rfl
  exact this hi
 refine call_meets PySem.F.slot_list_count ⟨_,h1,rfl⟩ PySem.F.entry_list_count (PySem.F.args_list_count_2 _ _) (PySem.MeetsSeq.list_count a vs n (.int k t) e he) ⟨h1,?_⟩;refine rz (hc ..) <| h _ _ (S.toks _)
theorem strs_at{vs:List Value}{ys:List Str}(H:StrsAre vs ys):∀ {i:Nat}{v:Value},vs[i]?=some v→∃ y u,ys[i]?=some y∧v=.str y u:=by
 induction H with
 |nil=>intro i v h;simp at h
 |cons n t _ ih =>
  intro i v h;cases i with
  |zero=>simp at h;exact⟨n,t,rfl,h.symm⟩
  |succ i=>simpa using ih (by simpa using h)
theorem strs_len{vs:List Value}{ys:List Str}(H:StrsAre vs ys):vs.length=ys.length:=by
 induction H with
 |nil=>rfl
 |cons n t _ ih=>simp[ih]
theorem r_indexstr{v:Value}{ys:List Str}{k:Str}{t:Tok}{j:Nat}(S:St c X T s)(R:Rd c X s.heap v (ys.map .str))(hj:ys[j]?=some k)(hno:∀ m,m<j→ys[m]?≠some k)(hz:ys.length≤sizeLine)(h:∀ t s',St c X T s'→Q (.int (j:Nat) t) s'):wpAny (model prog w) A (call (.builtin "list.index") [v,.str k t]) Q E s:=by
 obtain⟨a,vs,n,rfl,h1,h2⟩:=R;have hi:=h2.strs
 let e:Value→Bool:=fun | .str j _=>j.cps.toList == k.cps.toList | _=>false
 have ext:∀ {x y:Str},(x.cps.toList == y.cps.toList)=true→x=y:=by
  intro x y h;have:=eq_of_beq h;cases x;cases y;simp at this;exact rz (this ..) rfl
 have he:∀ y,y∈vs→PySem.MeetsSeq.EqGives y (.str k t) (e y):=by
  intro y hy;obtain⟨i,hi',rfl⟩:=List.getElem_of_mem (show y∈vs.toList by simpa using hy)
  obtain⟨x,u,_,hv⟩:=strs_at hi (List.getElem?_eq_getElem hi');refine rz (hv ..) <| PySem.SeqRoads2.EqGives.str x k u t
 have e0:vs.size=ys.length:=by have:=strs_len hi;simpa using this
 have hlt:j<vs.size:=by
  obtain⟨h,_⟩:=List.getElem?_eq_some_iff.mp hj;exact(le_trans h (le_of_eq e0.symm))
 refine call_meets PySem.F.slot_list_index ⟨_,h1,rfl⟩ PySem.F.entry_list_index (PySem.F.args_list_index_2 _ _) (PySem.MeetsSeq.list_index a vs n (.str k t) e he j hlt (by rw[sizeLine_eq] at hz;exact(ai [_,_,_] [] (.a (.c Ag) Ah) (.s Ak Ah) (.c 1 Aa Aq (.c 1 Ab Aa (.c 1 (.a Ag Ad) Ab .z))) 0 rfl hz (le_of_eq e0) hlt)) ?_ fun m hm hmj=>?_) ⟨h1,h _ _ (S.toks _)⟩
 ·obtain⟨x,u,hx,hv⟩:=strs_at hi (show vs.toList[j]?=some vs[j] by simp[hlt])
  refine rz (hv ..) ?_;rw[hj] at hx;cases hx
  exact beq_self_eq_true _
 ·obtain⟨x,u,hx,hv⟩:=strs_at hi (show vs.toList[m]?=some vs[m] by simp[hm])
  refine rz (hv ..) ?_;cases q:(x.cps.toList == k.cps.toList) with
  |false=>exact q
  |true=>exact absurd (ext q▸hx) (hno m hmj)
theorem r_join{v:Value}{x:Str}{t:Tok}{ys:List Str}(S:St c X T s)(R:Rd c X s.heap v (ys.map .str))(hok:(ys.map (·.length)).sum+ys.length*x.length≤16777216)(h:∀ t s',St c X T s'→Q (.str (Txt.join x ys) t) s'):wpAny (model prog w) A (call (.builtin "str.join") [.str x t,v]) Q E s:=by
 obtain⟨a,vs,n,rfl,h1,h2⟩:=R;exact PyProof.Rows.join_list (items:=vs) ⟨_,h1,rfl,n,rfl⟩ h2.strs hok fun t' k=>h _ _ (S.toks k)
theorem r_joinT{v:Value}{x:Str}{t:Tok}{ys:List Str}(S:St c X T s)(R:RdT c X s.heap v (ys.map .str))(hok:(ys.map (·.length)).sum+ys.length*x.length≤16777216)(h:∀ t s',St c X T s'→Q (.str (Txt.join x ys) t) s'):wpAny (model prog w) A (call (.builtin "str.join") [.str x t,v]) Q E s:=by
 obtain⟨a,vs,n,rfl,h1,h2⟩:=R;exact PyProof.Rows.join_tuple (items:=vs) ⟨_,h1,rfl,n,rfl⟩ h2.strs hok fun t' k=>h _ _ (S.toks k)
theorem r_count{x y:Str}{t u:Tok}(S:St c X T s)(h:∀ t s',St c X T s'→Q (.int (Txt.count x y) t) s'):wpAny (model prog w) A (call (.builtin "str.count") [.str x t,.str y u]) Q E s:=PySem.SC.count (h _ _ (S.toks _))
theorem r_strint{a:Int}{t:Tok}(S:St c X T s)(ha:a.natAbs.log2<1920)(h:∀ t s',St c X T s'→Q (.str (toString a) t) s'):wpAny (model prog w) A (call (.type "str") [.int a t]) Q E s:=PySem.P.str_of_int ha (h _ _ (S.toks _))
theorem r_intstr{x:Str}{a:Int}{t:Tok}(S:St c X T s)(hn:PySem.intText? x=some a)(hl:x.length≤640)(h:∀ t s',St c X T s'→Q (.int a t) s'):wpAny (model prog w) A (call (.type "int") [.str x t]) Q E s:=PySem.W.KIN.call_text hn hl (h _ _ (S.toks _))
theorem r_listof{v:Value}{ds:Lp}(S:St c X T s)(R:Rd c X s.heap v ds)(hz:ds.length≤sizeLine)(h:∀ a s',St c ((a,.seq (.type "list") none ds)::X) T s'→Q (.ref a) s'):wpAny (model prog w) A (call (.type "list") [v]) Q E s:=by
 obtain⟨a,vs,n,rfl,h1,h2⟩:=R;have e:vs.size=ds.length:=by simpa using h2.length
 exact call_list_seq a (.inl rfl) h1 rfl rfl (fun h' c' hk hD=>h _ _ (S.newOwn (t:=s.toks) hk (le_refl _) hD h2)) (rz (e ..) <| hz)
theorem r_tupleof{v:Value}{ds:Lp}(S:St c X T s)(R:Rd c X s.heap v ds)(hz:ds.length≤sizeLine)(h:∀ a s',St c X ((.ref a,.tuple ds)::T) s'→Q (.ref a) s'):wpAny (model prog w) A (call (.type "tuple") [v]) Q E s:=by
 obtain⟨a,vs,n,rfl,h1,h2⟩:=R;have e:vs.size=ds.length:=by simpa using h2.length
 refine call_tuple_list (items:=vs) ⟨_,h1,rfl,n,rfl⟩ (fun h' hk=>h _ _ ?_) (rz (e ..) <| hz)
 have S':=S.h' (t:=s.toks) hk;have:=S'.new_tuple (t:=s.toks) (vs:=vs.toList) (h2.mono (fun V V V q=>q) fun b o V e=>hk b o e)
 simpa using this
theorem r_liststr{x:Str}{t:Tok}(hh:A.handled=none)(S:St c X T s)(hz:x.cps.size≤sizeLine)(h:∀ a s',St c ((a,.seq (.type "list") none (x.cps.toList.map fun n=>PyData.str ⟨#[n]⟩))::X) T s'→Q (.ref a) s'):wpAny (model prog w) A (call (.type "list") [.str x t]) Q E s:=by
 refine call_list_str hh x t (fun h' tk acc' c' hk hD hi=>h _ _ (S.newOwn (t:=tk) hk (le_refl _) hD ?_)) hz
 obtain⟨e,hi⟩:=hi;have:∀ (vs:List Value) (l:List Nat),vs.length=l.length→(∀ (j:Nat) (v:Value),vs[j]?=some v→∃ c u,l[j]?=some c∧v=Value.str ⟨#[c]⟩ u)→Rps (ban c X) s.heap vs (l.map fun n=>PyData.str ⟨#[n]⟩):=by
  intro vs
  induction vs with
  |nil=>intro l e _;cases l with | nil=>exact .nil | cons _ _=>simp at e
  |cons v vs ih =>
   intro l e H;cases l with
   |nil=>simp at e
   |cons n l =>
    obtain⟨c',u,h1,rfl⟩:=H 0 v rfl;simp at h1;subst h1
    exact .cons (.str _ _) (ih l (by simpa using e) fun j v hj=>by simpa using H (j+1) v (by simpa using hj))
 exact this _ _ (by simpa using e) fun j v hj=>by
  obtain⟨c',u,h1,h2⟩:=hi j v (by simpa using hj)
  exact⟨c',u,by simpa using h1,h2⟩
theorem r_range1{n:Int}{t:Tok}(S:St c X T s)(h:Kon c X T (Rg 0 n) Q):wpAny (model prog w) A (call (.type "range") [.int n t]) Q E s :=
 call_range_1 (h _ _ ((S.push_step (t:=s.toks+1+1)).push (.rng (fun q=>by obtain⟨o,e⟩:=S.ban_lt q;exact absurd (Heap.lt_size e) (lt_irrefl _)) (Heap.get?_push_size _ rfl))))
theorem r_range2{a b:Int}{t u:Tok}(S:St c X T s)(h:Kon c X T (Rg a b) Q):wpAny (model prog w) A (call (.type "range") [.int a t,.int b u]) Q E s :=
 call_range_2 (h _ _ ((S.push_step (t:=s.toks+1)).push (.rng (fun q=>by obtain⟨o,e⟩:=S.ban_lt q;exact absurd (Heap.lt_size e) (lt_irrefl _)) (Heap.get?_push_size _ rfl))))
theorem Rp.rngObj{P:Addr→Prop}{h:Heap}{v:Value}{a b:Int}(H:Rp P h v (Rg a b)):∃ r t u w,v=.ref r∧¬ P r∧h.get? r=some { cls:=.type "range",dict:=Option.none,data:=.fields #[.int a t,.int b u,.int 1 w],slots:=#[] }:=by
 cases H with | rng h1 h2=>exact⟨_,_,_,_,rfl,h1,h2⟩
theorem D7(a b:Int):Builtin.Range.rangeSize a b 1=((b-a).toNat:Int):=by
 unfold Builtin.Range.rangeSize;refine rz (if_pos (by decide) ..) ?_
 split<;>omega
theorem r_iter_range{v:Value}{a b:Int}(hh:A.handled=none)(S:St c X T s)(hT:(v,Rg a b)∈T)(hs:Builtin.Range.small a b 1=true)
  (k:∀ I s',St c ([(I,knRange a (b-a).toNat 0)]++X) T s'→(∀ tg,Iter prog w A c I (fun i=>[(I,knRange a (b-a).toNat i)]) ((rng a (b-a).toNat).map .int) T tg)→Q (.ref I) s'):wpAny (model prog w) A (pyIter v) Q E s:=by
 obtain⟨r,t,u,z,rfl,_,hr⟩:=(S.tmp _ hT).rngObj;refine wpAny_pyIter_range hr hs (k _ _ (S.own_push (t:=s.toks) ⟨_,Heap.get?_push_size _ rfl,?_⟩) fun tg=>iter_range hh S.neL)
 refine rz (D7 ..) ?_;simp
theorem r_listrange{v:Value}{a b:Int}(hh:A.handled=none)(S:St c X T s)(hT:(v,Rg a b)∈T)(hs:Builtin.Range.small a b 1=true)(hz:(b-a).toNat≤2^24)
  (h:∀ a' s',St c ((a',.seq (.type "list") none ((rng a (b-a).toNat).map .int))::X) T s'→Q (.ref a') s'):wpAny (model prog w) A (call (.type "list") [v]) Q E s:=by
 obtain⟨r,t,u,z,rfl,_,hr⟩:=(S.tmp _ hT).rngObj;refine call_list_range hh hr hs (D7 a b) hz (fun h' tk acc' c' hk hD hi=>h _ _ (S.newOwn (t:=tk) hk (le_refl _) hD ?_))
 obtain⟨e,hi⟩:=hi;have:∀ (k:Nat) (vs:List Value) (o:Int),vs.length=k→(∀ (j:Nat) (v:Value),vs[j]?=some v→∃ t,v=Value.int (o+(j:Int)*1) t)→Rps (ban c X) s.heap vs ((rng o k).map .int):=by
  intro k
  induction k with
  |zero=>intro vs o e _;cases vs with | nil=>exact .nil | cons _ _=>simp at e
  |succ k ih =>
   intro vs o e H;cases vs with
   |nil=>simp at e
   |cons v vs =>
    obtain⟨t,hv⟩:=H 0 v rfl;have hr:rng o (k+1)=o::rng (o+1) k:=by
     unfold rng;refine rz (List.range_succ_eq_map ..) <| rz (map_cons ..) <| rz (map_map ..) ?_
     congr 1
     ·simp
     ·apply map_congr_left;intro i _;simp;exact(Int.le_antisymm (ai [_] [_] (.a Af (.a (.c Aa) Ah)) (.a (.a Af Ah) (.c Aa)) .z 0 rfl) (ai [_] [_] (.a (.a Af Ah) (.c Aa)) (.a Af (.a (.c Aa) Ah)) .z 0 rfl))
    refine rz (hr ..) <| rz (map_cons ..) <| rz (hv ..) ?_
    have e0:o+((0:Nat):Int)*1=o:=by simp
    refine rz (e0 ..) <| .cons (.int _ _) (ih vs (o+1) (by simpa using e) fun j v hj=>?_)
    obtain⟨t,h⟩:=H (j+1) v (by simpa using hj)
    exact⟨t,by refine rz (h ..) ?_;congr 1;push_cast;exact(Int.le_antisymm (ai [_] [_] (.a Af (.r (.a (.c Aa) Ah) 1)) (.a (.a Af Ah) (.r (.c Aa) 1)) .z 0 rfl) (ai [_] [_] (.a (.a Af Ah) (.r (.c Aa) 1)) (.a Af (.r (.a (.c Aa) Ah) 1)) .z 0 rfl))⟩
 exact this _ _ _ (by simpa using e) fun j v hj=>hi j v (by simpa using hj)
theorem r_list{elts:List Expr}{pos:Pos}(h:wpAny (model prog w) A (spliced (backTo pos (starEach elts env))) (fun vs s₁=>vs.length≤sizeLine∧∃ X T ds,St c X T s₁∧Rps (ban c X) s₁.heap vs ds∧∀ a s',St c ((a,.seq (.type "list") none ds)::X) T s'→Q (.ref a) s') E s):wpAny (model prog w) A (eval (.List elts pos) env) Q E s:=by
 refine wpAny_List (wpAny_mono h (fun vs s₁ h₁=>?_) fun V V e=>e)
 obtain⟨hz,X,T,ds,S,hr,k⟩:=h₁;exact⟨hz,k _ _ (S.newOwn (t:=s₁.toks) (fun V V e=>Heap.get?_push_of_some _ e) (le_refl _) (Heap.get?_push_size _ rfl) (by simpa using hr))⟩
theorem r_tuple{elts:List Expr}{k:Nat}{pos:Pos}(h:wpAny (model prog w) A (spliced (backTo pos (starEach elts env))) (fun vs s₁=>vs.length≤sizeLine∧∃ X T ds,St c X T s₁∧Rps (ban c X) s₁.heap vs ds∧∀ a s',St c X ((.ref a,.tuple ds)::T) s'→Q (.ref a) s') E s):wpAny (model prog w) A (eval (.Tuple elts k pos) env) Q E s:=by
 refine wpAny_Tuple (wpAny_mono h (fun vs s₁ h₁=>?_) fun V V e=>e)
 obtain⟨hz,X,T,ds,S,hr,k⟩:=h₁;exact⟨hz,k _ _ (S.new_tuple (t:=s₁.toks) hr)⟩
theorem Gk{a b:Int}(h1:-(2^40)≤a)(h2:a≤2^40)(h3:-(2^40)≤b)(h4:b≤2^40):Builtin.Range.small a b 1=true:=by
 unfold Builtin.Range.small;refine rz (D7 ..) ?_;have hf:∀ x:Int,-(2^50)≤x→x≤2^50→Builtin.Range.rangeFitsLong x=true:=by
  intro x h1 h2;unfold Builtin.Range.rangeFitsLong;simp;exact⟨(ai [] [_] A0 Af (.i 1 Ay Af .z) 0 rfl h1),(ai [] [_] (.a Af Ah) Ak (.i 1 Af (.q 1125899906842624) .z) 0 rfl h2)⟩
 rw[hf a (by exact(ai [] [_] Ay Af (.i 1 Au Af .z) 0 rfl h1)) (by exact(ai [] [_] Af (.q 1125899906842624) (.i 1 Af Av .z) 0 rfl h2)),hf b (by exact(ai [] [_] Ay Af (.i 1 Au Af .z) 0 rfl h3)) (by exact(ai [] [_] Af (.q 1125899906842624) (.i 1 Af Av .z) 0 rfl h4)),hf 1 (by decide) (by decide),hf _ (by exact(ai [_] [] Ay (.c Aa) .z 0 rfl)) (by omega),if_pos (by decide),hf _ (by exact(ai [] [_] Ay (.a Af (.s Ah Ah)) (.i 1 Au Af .z) 0 rfl h3)) (by exact(ai [] [_] (.a Af (.s Ah Ah)) (.q 1125899906842624) (.i 1 Af Av .z) 0 rfl h4))]
 simp
theorem r_call{id:Str}{p pos:Pos}{args:List Expr}(h:wpAny (model prog w) A (eval (.Name id p) env) (fun f s₁=>wpAny (model prog w) A (callWith pos f [] (backTo pos (starEach args env)) []) Q E s₁) E s) :
  wpAny (model prog w) A (eval (.Call (.Name id p) args [] pos) env) Q E s:=wpAny_Call_NameR h
theorem c_ref{f:Addr}{pos:Pos}{e:Expr}{rest:List Expr}(S:St c X T s)(hk:keepIn c.K (.ref f)=true)
  (h:wpAny (model prog w) A (spliced (backTo pos (starEach (e::rest) env))) (fun vs s₁=>(∃ X T,St c X T s₁)∧wpAny (model prog w) A (call (.ref f) vs) Q E s₁) E s)
  (he:starEach (e::rest) env=(false,eval e env)::starEach rest env)(hplain:(backTo pos (starEach rest env)).any (·.1)=false) :
  wpAny (model prog w) A (callWith pos (.ref f) [] (backTo pos (starEach (e::rest) env)) []) Q E s :=
 callWith_K S.stat hk (wpAny_mono h (fun vs s₁ h₁=>by obtain⟨⟨X,T,S'⟩,h₂⟩:=h₁;exact⟨S'.stat,h₂⟩) fun V V e=>e) he hplain
theorem c_ref0{f:Addr}{pos:Pos}(S:St c X T s)(hk:keepIn c.K (.ref f)=true)(h:wpAny (model prog w) A (call (.ref f) []) Q E s):wpAny (model prog w) A (callWith pos (.ref f) [] (backTo pos (starEach [] env)) []) Q E s :=
 callWith_K0 S.stat hk h
theorem c_blt{id:String}{pos:Pos}{e:Expr}{rest:List Expr}(h:wpAny (model prog w) A (spliced (backTo pos (starEach (e::rest) env))) (fun vs s₁=>wpAny (model prog w) A (call (.builtin id) vs) Q E s₁) E s)
  (he:starEach (e::rest) env=(false,eval e env)::starEach rest env)(hplain:(backTo pos (starEach rest env)).any (·.1)=false) :
  wpAny (model prog w) A (callWith pos (.builtin id) [] (backTo pos (starEach (e::rest) env)) []) Q E s:=PyProof.Rows.callWith_builtin1 h he hplain
theorem c_type{id:String}{pos:Pos}{e:Expr}{rest:List Expr}(h:wpAny (model prog w) A (spliced (backTo pos (starEach (e::rest) env))) (fun vs s₁=>wpAny (model prog w) A (call (.type id) vs) Q E s₁) E s)
  (he:starEach (e::rest) env=(false,eval e env)::starEach rest env)(hplain:(backTo pos (starEach rest env)).any (·.1)=false) :
  wpAny (model prog w) A (callWith pos (.type id) [] (backTo pos (starEach (e::rest) env)) []) Q E s:=PyProof.Rows.callWith_type1 h he hplain
theorem C5{pos:Pos}{e:Expr}{rest:List Expr}{Q:List Value→Shared→Prop}(h:wpAny (model prog w) A (eval e env) (fun v s₁=>wpAny (model prog w) A (spliced (backTo pos (starEach rest env))) (fun vs s₂=>Q (v::vs) s₂) E s₁) E s)
  (he:starEach (e::rest) env=(false,eval e env)::starEach rest env):wpAny (model prog w) A (spliced (backTo pos (starEach (e::rest) env))) Q E s:=wpAny_items_cons h he
theorem i_nil{pos:Pos}{Q:List Value→Shared→Prop}(h:Q [] s):wpAny (model prog w) A (spliced (backTo pos (starEach [] env))) Q E s:=wpAny_items_nil h
theorem c_meth{id:String}{pos:Pos}{v:Value}{e:Expr}{rest:List Expr}(h:wpAny (model prog w) A (spliced (backTo pos (starEach (e::rest) env))) (fun vs s₁=>wpAny (model prog w) A (call (.builtin id) (v::vs)) Q E s₁) E s)
  (he:starEach (e::rest) env=(false,eval e env)::starEach rest env)(hplain:(backTo pos (starEach rest env)).any (·.1)=false) :
  wpAny (model prog w) A (callWith pos (.builtin id) [v] (backTo pos (starEach (e::rest) env)) []) Q E s:=PyProof.Rows.callWith_method1 h he hplain
theorem St.isl(S:St c X T s){a:Addr}{ds:Lp}(h:(a,Knd.seq (.type "list") none ds)∈X):∃ a' vs n,Value.ref a=.ref a'∧s.heap.get? a'=some ⟨.type "list",none,.seq vs n,#[]⟩:=by
 obtain⟨vs,n,h1,_⟩:=S.own _ h;exact⟨a,vs,n,rfl,h1⟩
theorem r_subs{value slice:Expr}{pos:Pos}(h:wpAny (model prog w) A (eval value env) (fun o s₁=>wpAny (model prog w) A (eval slice env) (fun i s₂=>wpAny (model prog w) A (subscriptTail value slice o i) Q E s₂) E s₁) E s):wpAny (model prog w) A (eval (.Subscript value slice pos) env) Q E s:=Subscript_ h
theorem r_slice{lower upper step:Option Expr}{p:Pos}(h:wpAny (model prog w) A (evalPart lower env) (fun l s₁=>wpAny (model prog w) A (evalPart upper env) (fun u s₂=>wpAny (model prog w) A (evalPart step env) (fun st s₃ =>
   Q (.ref s₃.heap.objs.size) { s₃ with heap:=s₃.heap.push { cls:=.type "slice",data:=.fields #[l,u,st] } }) E s₂) E s₁) E s):wpAny (model prog w) A (eval (.Slice lower upper step p) env) Q E s:=wpAny_Slice h
theorem p_none(h:Q .none s):wpAny (model prog w) A (evalPart none env) Q E s:=wpAny_pure h
theorem p_some{e:Expr}(h:wpAny (model prog w) A (eval e env) Q E s):wpAny (model prog w) A (evalPart (some e) env) Q E s:=h
theorem t_val{e:Expr}{whole:Sem Value}{Q:Bool→Shared→Prop}(h:wpAny (model prog w) A whole (fun v s₁=>wpAny (model prog w) A (truthy v) Q E s₁) E s)
  (he:isTrue e env whole=(do let v ← whole;standAt e.pos;holding [v] (truthy v))):wpAny (model prog w) A (isTrue e env whole) Q E s:=wpAny_isTrue_value h he
theorem t_and{x y:Expr}{pos:Pos}{whole:Sem Value}{Q:Bool→Shared→Prop}(h:wpAny (model prog w) A (isTrue x env (eval x env)) (fun b s₁=>(b=true→wpAny (model prog w) A (isTrue y env (eval y env)) Q E s₁)∧(b=false→Q false s₁)) E s) :
  wpAny (model prog w) A (isTrue (.BoolOp .And [x,y] pos) env whole) Q E s :=
 wpAny_isTrue_BoolOp (wpAny_allTrue_And_cons (wpAny_mono h (fun b s₁ h₁=>by
  cases b
  ·exact h₁.2 rfl
  ·refine wpAny_allTrue_And_cons (wpAny_mono (h₁.1 rfl) (fun b s₂ h₂=>?_) fun V V e=>e)
   cases b
   ·exact h₂
   ·exact wpAny_allTrue_And_nil h₂) fun V V e=>e))
theorem t_or{x y:Expr}{pos:Pos}{whole:Sem Value}{Q:Bool→Shared→Prop}(h:wpAny (model prog w) A (isTrue x env (eval x env)) (fun b s₁=>(b=true→Q true s₁)∧(b=false→wpAny (model prog w) A (isTrue y env (eval y env)) Q E s₁)) E s) :
  wpAny (model prog w) A (isTrue (.BoolOp .Or [x,y] pos) env whole) Q E s :=
 wpAny_isTrue_BoolOp (wpAny_allTrue_Or_cons (wpAny_mono h (fun b s₁ h₁=>by
  cases b
  ·refine wpAny_allTrue_Or_cons (wpAny_mono (h₁.2 rfl) (fun b s₂ h₂=>?_) fun V V e=>e)
   cases b
   ·exact wpAny_allTrue_Or_nil h₂
   ·exact h₂
  ·exact h₁.1 rfl) fun V V e=>e))
theorem t_list{v:Value}{ds:Lp}{Q:Bool→Shared→Prop}(S:St c X T s)(R:Rd c X s.heap v ds)(hz:ds.length<2^63)(h:∀ s',St c X T s'→Q (!ds.isEmpty) s'):wpAny (model prog w) A (truthy v) Q E s:=by
 obtain⟨a,vs,n,rfl,h1,h2⟩:=R;have e:vs.size=ds.length:=by simpa using h2.length
 refine wpAny_truthy_list (items:=vs) ⟨_,h1,rfl,n,rfl⟩ (rz (e ..) <| (ai [_] [] (.a (.c Aa) Ah) Ak (.c 1 (.a Aa Ad) Ax .z) 0 rfl hz)) ?_
 have:vs.isEmpty=ds.isEmpty:=by
  cases ds with
  |nil=>simp at e;simp[e]
  |cons d ds=>simp at e;simp[Array.isEmpty,e]
 refine rz (this ..) <| h _ (S.toks _)
theorem x_setitem{o i value:Expr}{pos' pos:Pos}{rest:List Stmt}{Q:Flow→Shared→Prop}
  (h:wpAny (model prog w) A (eval value env) (fun v s₁=>wpAny (model prog w) A (eval o env) (fun ov s₂=>wpAny (model prog w) A (eval i env) (fun iv s₃=>wpAny (model prog w) A (setItem ov iv v) (fun V s₄=>wpAny (model prog w) A (execs rest env) Q E s₄) E s₃) E s₂) E s₁) E s)
  (hs:swapsWith value (some (.Subscript o i pos')) pos.line env=pure false):wpAny (model prog w) A (execs (.Assign [.Subscript o i pos'] value pos::rest) env) Q E s :=
 Ci (wpAny_Assign_Subscript (wpAny_mono h (fun V V h=>wpAny_mono h (fun V V h=>wpAny_mono h (fun V V h=>wpAny_mono h (fun V V h=>h) fun V V h=>h) fun V V h=>h) fun V V h=>h) fun V V h=>h) hs)
theorem x_augitem{o i value:Expr}{tpos pos:Pos}{op:Operator}{rest:List Stmt}{Q:Flow→Shared→Prop}
  (h:wpAny (model prog w) A (eval o env) (fun ov s₁=>wpAny (model prog w) A (eval i env) (fun iv s₂=>wpAny (model prog w) A (getItem ov iv) (fun old s₃=>wpAny (model prog w) A (eval value env) (fun v s₄=>wpAny (model prog w) A (inplaceOp op old v) (fun new s₅ =>
      wpAny (model prog w) A (setItem ov iv new) (fun V s₆=>wpAny (model prog w) A (execs rest env) Q E s₆) E s₅) E s₄) E s₃) E s₂) E s₁) E s)
  (hi:∀ ov iv new,augStore i ov iv new=(do holding [new,ov,iv] (setItem ov iv new);release [new,ov,iv] [];pure .next)) :
  wpAny (model prog w) A (execs (.AugAssign (.Subscript o i tpos) op value pos::rest) env) Q E s :=
 Ci (wpAny_AugAssign_SubscriptAny (wpAny_mono h (fun V V h=>wpAny_mono h (fun V V h=>wpAny_mono h (fun V V h=>wpAny_mono h (fun V V h=>wpAny_mono h (fun V V h=>wpAny_mono h (fun V V h=>h) fun V V h=>h) fun V V h=>h) fun V V h=>h) fun V V h=>h) fun V V h=>h) fun V V h=>h) hi)
theorem g_item{v:Value}{ds:Lp}{k:Int}{u:Tok}{d:PyData}(S:St c X T s)(R:Rd c X s.heap v ds)(h0:0≤k)(hfit:k<2^63)(hd:ds[k.toNat]?=some d)(h:Kon c X T d Q):wpAny (model prog w) A (getItem v (.int k u)) Q E s:=by
 obtain⟨a,vs,n,rfl,h1,h2⟩:=R;obtain⟨x,hx,r⟩:=h2.get hd;exact wpAny_getItem_list (x:=x) ⟨_,h1,rfl,n,rfl⟩ h0 hfit (by simpa using hx) (h.app S r)
theorem x_assigns{targets:List Expr}{value:Expr}{pos:Pos}{rest:List Stmt}{Q:Flow→Shared→Prop}
  (h:wpAny (model prog w) A (eval value env) (fun v s₁=>wpAny (model prog w) A (assignAll v ((assignEach targets env).map (·.2))) (fun V s₂=>wpAny (model prog w) A (execs rest env) Q E s₂) E s₁) E s)
  (hs:swapsWithSole targets value pos.line env=pure false)(hw:swappedStores targets value env=pure none) :
  wpAny (model prog w) A (execs (.Assign targets value pos::rest) env) Q E s :=
 Ci (wpAny_Assign_stores (wpAny_mono h (fun V V h=>wpAny_mono h (fun V V h=>h) fun V V h=>h) fun V V h=>h) hs hw)
theorem x_return0{q:Pos}{rest:List Stmt}{Q:Flow→Shared→Prop}(h:Q (.ret .none) s):wpAny (model prog w) A (execs (.Return none q::rest) env) Q E s:=Ci (wpAny_Return_none h)
theorem St.zips(S:St c X T s){us:List Value}{es:Lp}:Rps (ban c X) s.heap us es→St c X (us.zip es++T) s:=Rps.ind (C:=fun us es=>St c X (us.zip es++T) s) S fun a V ih=>ih.push a
theorem un_tuple{v:Value}{ds:Lp}{h':Heap}{a:Addr}{vs:Array Value}(S:St c X T s)(h2:Rps (ban c X) s.heap vs.toList ds)(hk:∀ b o,b≠s.heap.objs.size→s.heap.get? b=some o→h'.get? b=some o):St c X (vs.toList.zip ds++T) { s with heap:=h' } :=
 have hk':∀ b o,s.heap.get? b=some o→h'.get? b=some o:=fun b o e=>hk b o (fun q=>by rw[q] at e;exact absurd (Heap.lt_size e) (lt_irrefl _)) e
 St.zips (S.h' (t:=s.toks) hk') (h2.mono (fun V V V q=>q) fun b o V e=>hk' b o e)
theorem a_tuple{elts:List Expr}{x1} {pos:Pos}{v:Value}{ds:Lp}{Q:Unit→Shared→Prop}(hh:A.handled=none) (S:St c X T s) (hT:(v,.tuple ds)∈T) (hn:(assignEach elts env).length=ds.length) (hstar:(assignEach elts env).findIdx? (·.1)=none)
  (h:∀ vs s',vs.length=ds.length→St c X (vs.zip ds++T) s'→wpAny (model prog w) A (assignInOrder ((assignEach elts env).map (·.2)) vs) Q E s'):wpAny (model prog w) A (assign (.Tuple elts x1 pos) env v) Q E s:=by
 obtain⟨a,vs,n,rfl,nb,h1,h2⟩:=(S.tmp _ hT).tupleObj;have e:vs.toList.length=ds.length:=h2.length;exact wpAny_assign_Tuple (items:=vs) hh ⟨_,h1,rfl,n,rfl⟩ (hn.trans e.symm) hstar fun h' hk=>h _ _ e (un_tuple (v:=.none) (a:=a) S h2 hk)
theorem ao_cons{t:Value→Sem Unit}{ts:List (Value→Sem Unit)}{x:Value}{xs:List Value}{Q:Unit→Shared→Prop}(h:wpAny (model prog w) A (t x) (fun V s₁=>wpAny (model prog w) A (assignInOrder ts xs) Q E s₁) E s):wpAny (model prog w) A (assignInOrder (t::ts) (x::xs)) Q E s:=by
 show wpAny _ A (do holding xs (t x);assignInOrder ts xs) Q E s
 exact wpAny_bind (wpAny_holding h)
theorem ao_nil{xs:List Value}{Q:Unit→Shared→Prop}(h:Q () s):wpAny (model prog w) A (assignInOrder [] xs) Q E s:=wpAny_pure h
theorem Fa{elts:List Expr}{k tpos value pos} {rest:List Stmt}{Q:Flow→Shared→Prop}
  (h:wpAny (model prog w) A (eval value env) (fun v s₁=>wpAny (model prog w) A (assign (.Tuple elts k tpos) env v) (fun V s₂=>wpAny (model prog w) A (execs rest env) Q E s₂) E s₁) E s)
  (hs:swapsWithSole [.Tuple elts k tpos] value pos.line env=pure false)(hw:swappedStores [.Tuple elts k tpos] value env=pure none) :
  wpAny (model prog w) A (execs (.Assign [.Tuple elts k tpos] value pos::rest) env) Q E s :=
 Ci (Assign_Tuple (wpAny_mono h (fun V V h=>wpAny_mono h (fun V V h=>h) fun V V h=>h) fun V V h=>h) hs hw)
theorem x_assignR{elts:List Expr}{k tpos value pos} {rest:List Stmt}{Q:Flow→Shared→Prop}(names:List Str) (hh:A.handled=none)
  (h:wpAny (model prog w) A (eval value env) (fun v s₁=>∃ X T ds,St c X T s₁∧(v,.tuple ds)∈T∧ds.length=names.length∧∀ (vs:List Value) s',vs.length=ds.length→St c X (vs.zip ds++T) s'→wpAny (model prog w) A (assignInOrder (names.reverse.map fun n=>bindName env n) vs.reverse) (fun V s₂=>wpAny (model prog w) A (execs rest env) Q E s₂) E s') E s)
  (hs:swapsWithSole [.Tuple elts k tpos] value pos.line env=pure false)(hw:swappedStores [.Tuple elts k tpos] value env=pure (some names)) :
  wpAny (model prog w) A (execs (.Assign [.Tuple elts k tpos] value pos::rest) env) Q E s:=by
 refine Ci (Assign_Tuple_swapped (names:=names) (wpAny_mono h (fun v s₁ h₁=>?_) fun V V h=>h) hs hw)
 obtain⟨X,T,ds,S,hT,hl,k⟩:=h₁;obtain⟨a,vs,n,rfl,nb,h1,h2⟩:=(S.tmp _ hT).tupleObj;have e:vs.toList.length=ds.length:=h2.length;refine rz (show names.length=vs.size from hl.symm.trans e.symm) <| unpackItems_tuple hh ⟨_,h1,rfl,n,rfl⟩ fun h' hk=>k _ _ e (un_tuple (v:=.none) (a:=a) S h2 hk)
end
noncomputable def topS(i:Nat):Stmt:=(PySem.Challenge.pw_sh0032_01.main.body)[i]?.getD (.Pass default)
noncomputable def sName:Stmt→Str | .FunctionDef n ..=>n | _=>Str.empty
noncomputable def sArgs:Stmt→Arguments | .FunctionDef _ a ..=>a | _=>default
noncomputable def sBody:Stmt→List Stmt | .FunctionDef _ _ b ..=>b | .ClassDef _ _ _ b ..=>b | _=>[]
noncomputable def sScope:Stmt→Scope | .FunctionDef _ _ _ _ _ _ sc ..=>sc | _=>default
noncomputable def fdOf(st:Stmt)(qual:Str)(clo:Ce)(dfl pm:Value)(cd:Addr)(ct:Value):FuncData :=
 { name:=sName st,qualname:=qual,params:=sArgs st,body:=.stmts (sBody st),scope:=sScope st,globals:=mainGlobals,closure:=clo,defaults:=dfl,kwdefaults:=.none,doc:=.none,pyModule:=pm,annotations:=none,code:=.ref cd,closureTuple:=ct,builtins:=builtinsNs }
noncomputable def lawFd(i:Nat)(cd:Addr):FuncData:=fdOf (topS i) (sName (topS i)) [] .none (.str "law_sh0032_01" 455) cd .none
noncomputable def fnObj(fd:FuncData):Obj:=⟨.type "function",none,.func fd,#[]⟩
noncomputable def methFd(i j:Nat)(qual:Str)(clo:Ce)(dfl pm:Value)(cd:Addr)(ct:Value):FuncData:=fdOf ((sBody (topS i))[j]?.getD (.Pass default)) qual clo dfl pm cd ct
noncomputable def accM(j:Nat)(qual:Str)(clo:Ce)(dfl:Value)(cd:Addr)(ct:Value):FuncData:=methFd 3 j qual clo dfl (.str "cpy313.email.header" 194) cd ct
noncomputable def netM(j:Nat)(qual:Str)(cd:Addr):FuncData:=methFd 5 j qual [] .none (.str "cpy313.netrc" 293) cd .none
noncomputable def wsM(j:Nat)(qual:Str)(cd:Addr):FuncData:=methFd 7 j qual [] .none (.str "cpy313.tabnanny" 353) cd .none
noncomputable def Bz:List (Addr × FuncData):=[(225,lawFd 10 224),(230,lawFd 11 229),(237,lawFd 12 236),(244,lawFd 13 243),(251,lawFd 14 250),(256,lawFd 15 255),(261,lawFd 16 260),(266,lawFd 17 265),(271,lawFd 18 270),
 (278,lawFd 19 277),(285,lawFd 20 284),(292,lawFd 21 291),(297,lawFd 22 296),(302,lawFd 23 301),(309,lawFd 24 308),(314,lawFd 25 313),(220,lawFd 9 219),
 (38,accM 0 "_Accumulator.__init__" [("__class__",25)] (.ref 30) 37 (.ref 31)),(45,accM 1 "_Accumulator.push" [] .none 44 .none),(61,accM 3 "_Accumulator.pop" [("__class__",25)] .none 60 (.ref 54)),(75,accM 5 "_Accumulator.__str__" [] .none 74 .none),(98,accM 8 "_Accumulator.part_count" [("__class__",25)] .none 97 (.ref 91)),
 (119,netM 0 "_netrclex.__init__" 118),(126,netM 1 "_netrclex._read_char" 125),(133,netM 2 "_netrclex.get_token" 132),(140,netM 3 "_netrclex.push_token" 139),
 (164,wsM 1 "Whitespace.__init__" 163),(171,wsM 2 "Whitespace.longest_run_of_spaces" 170),(178,wsM 3 "Whitespace.indent_level" 177),(199,wsM 6 "Whitespace.less" 198)]
noncomputable def E1:List (Str × Value):=[("_law_stream",.ref 220),("_law_written",.ref 225),("_law_lead",.ref 230),("_law_order",.ref 237),("_law_nest",.ref 244),("_law_column",.ref 251),("_law_due",.ref 256),("_law_tied",.ref 261),("_law_shape",.ref 266),
 ("_law_sums",.ref 271),("_law_turned",.ref 278),("_law_line",.ref 285),("_law_pile",.ref 292),("_law_visits",.ref 297),("_law_cut",.ref 302),("_law_led",.ref 309),("_Accumulator",.ref 101),("_netrclex",.ref 143),("Whitespace",.ref 209),("EMPTYSTRING",.str Str.empty 196)]
noncomputable def Fo:List (Str × Value):=[("len",.builtin "len"),("max",.builtin "max"),("sorted",.builtin "sorted"),("sum",.builtin "sum"),("iter",.builtin "iter"),("enumerate",.type "enumerate"),("int",.type "int"),("list",.type "list"),("range",.type "range"),("str",.type "str"),("super",.type "super"),("tuple",.type "tuple"),("zip",.type "zip")]
noncomputable def clTab:List (Addr × String × Ce × List Str):=[(101,"list.__getattribute__",[("__init__",38),("push",45),("pop",61),("__str__",75),("part_count",98)],["_initial_size"]),
 (143,"object.__getattribute__",[("__init__",119),("_read_char",126),("get_token",133),("push_token",140)],["lineno","instream","whitespace","pushback"]),
 (209,"object.__getattribute__",[("__init__",164),("longest_run_of_spaces",171),("indent_level",178),("less",199)],["raw","n","nt","norm","is_simple"])]
noncomputable def clOk(K:Frag)(C:Addr)(ga:String)(ms:Ce)(as:List Str):Bool :=
 (clsIn K C).any (·.hasDict)&&findIn K (.ref C) "__getattribute__" == some (some (.builtin ga))&&findIn K (.ref C) "__getattr__" == some none &&
 findIn K (.ref C) "__setattr__" == some (some (.builtin "object.__setattr__"))&&ms.all (fun p=>findIn K (.ref C) p.1 == some (some (.ref p.2))&&typeIn K (.ref p.2) == some (.type "function"))&&as.all (fun n=>findIn K (.ref C) n == some none)
noncomputable def strKey(v:Value):Bool:=match v with | .str ..=>true | _=>false
noncomputable def dictB(f:Array DictEntry→Bool)(o:Option Obj):Bool:=match o with | some ⟨_,_,.dict es _,_⟩=>f es | _=>false
theorem dictB_of{f:Array DictEntry→Bool}{o:Option Obj}(e:dictB f o=true):∃ a b es n d,o=some ⟨a,b,.dict es n,d⟩∧f es=true:=by
 cases o with
 |none=>cases e
 |some o=>obtain⟨a,b,x,d⟩:=o;cases x<;>first | exact⟨_,_,_,_,_,rfl,e⟩ | cases e
noncomputable def nsStr(K:Frag)(a:Addr):Bool:=dictB (fun es=>es.toList.all fun e=>strKey e.key) (K.lookup a)
theorem ns_of{K:Frag}{a:Addr}(e:nsStr K a=true):∃ m:Str→Option Value,(∀ h,K.In h→h.Ns a m)∧∀ x r,nsIn K a x=some r→m x=r:=by
 obtain⟨cls,d,es,ep,sl,ho,e⟩:=dictB_of e;refine⟨nsFind es,fun h x=>⟨_,es,ep,x _ _ ho,rfl,fun y hy=>?_,fun V=>rfl⟩,fun x r hr=>?_⟩
 ·have:=List.all_eq_true.mp e y (by simpa using hy)
  cases hk:y.key<;>rw[hk] at this<;>first | exact⟨_,_,rfl⟩ | cases this
 ·unfold nsIn at hr;rw[ho] at hr
  unfold nsFind findBy;refine rz (Eq.symm (Array.find?_toList ..)) ?_;cases he:es.toList.find? (·.key.isStr x) with
  |some en=>simp only[he] at hr;exact Option.some.inj hr
  |none =>
   simp only[he] at hr
   split at hr
   ·cases hr
   ·exact Option.some.inj hr
noncomputable def clsB(f:ClassData→Array (Option Value)→Bool)(o:Option Obj):Bool:=match o with | some ⟨_,_,.cls cd,sl⟩=>f cd sl | _=>false
theorem clsB_of{f:ClassData→Array (Option Value)→Bool}{o:Option Obj}(e:clsB f o=true):∃ a b cd sl,o=some ⟨a,b,.cls cd,sl⟩∧f cd sl=true:=by
 cases o with
 |none=>cases e
 |some o=>obtain⟨a,b,x,d⟩:=o;cases x<;>first | exact⟨_,_,_,_,rfl,e⟩ | cases e
noncomputable def makesL(K:Frag)(C:Addr):Bool:=clsB (fun cd sl=>!cd.abstract && !cd.hasDel&&(sl.toList[4]?).join == some (.builtin "list.__new__") && !cd.mro.isEmpty&&cd.mro.contains (.ref C)&&cd.mro.contains (.type "list") &&
   specialIn K (.ref C) "__call__" == some (some (.builtin "type.__call__"))&&instIn K (.ref C) (.type "type") == some true) (K.lookup C)
theorem clsIn_obj{K:Frag}{C:Addr}{cd:ClassData}(e:clsIn K C=some cd):∃ a d sl,K.lookup C=some ⟨a,d,.cls cd,sl⟩:=by
 unfold clsIn at e;cases h:K.lookup C with
 |none=>rw[h] at e;cases e
 |some o=>obtain⟨a,b,x,d⟩:=o;rw[h] at e;cases x<;>first | (cases e;exact⟨_,_,_,rfl⟩) | cases e
noncomputable def fldB(f:Array Value→Bool)(o:Option Obj):Bool:=match o with | some ⟨_,_,.fields vs,_⟩=>f vs | _=>false
theorem fldB_of{f:Array Value→Bool}{o:Option Obj}(e:fldB f o=true):∃ a b vs d,o=some ⟨a,b,.fields vs,d⟩∧f vs=true:=by
 cases o with
 |none=>cases e
 |some o=>obtain⟨a,b,x,d⟩:=o;cases x<;>first | exact⟨_,_,_,_,rfl,e⟩ | cases e
noncomputable def strB(f:Str→Bool)(o:Option Value):Bool:=match o with | some (.str y _)=>f y | _=>false
theorem strB_of{f:Str→Bool}{o:Option Value}(e:strB f o=true):∃ y t,o=some (.str y t)∧f y=true:=by
 cases o with
 |none=>cases e
 |some o=>cases o<;>first | exact⟨_,_,rfl,e⟩ | cases e
noncomputable def valF(o:Option CFound):Option Value:=match o with | some (.val v)=>some v | _=>none
theorem valF_of{o:Option CFound}{v:Value}(e:valF o=some v):o=some (.val v):=by
 cases o with
 |none=>cases e
 |some o=>cases o<;>first | (cases e;rfl) | cases e
noncomputable def strAt(K:Frag)(C:Addr)(n x:Str):Bool:=strB (· == x) (valF (findCls K (.ref C) (.type "type") n))
theorem strAt_of{K:Frag}{C:Addr}{n x:Str}(e:strAt K C n x=true):∃ t,findCls K (.ref C) (.type "type") n=some (.val (.str x t)):=by
 obtain⟨y,t,h,e⟩:=strB_of e;exact⟨t,by refine rz (valF_of h ..) <| rz (eq_of_beq e ..) rfl⟩
noncomputable def refB(f:Addr→Bool)(o:Option (Option Value)):Bool:=match o with | some (some (.ref a))=>f a | _=>false
theorem refB_of{f:Addr→Bool}{o:Option (Option Value)}(e:refB f o=true):∃ a,o=some (some (.ref a))∧f a=true:=by
 cases o with
 |none=>cases e
 |some o=>cases o with
  |none=>cases e
  |some o=>cases o<;>first | exact⟨_,rfl,e⟩ | cases e
noncomputable def modB(o:Option Obj):Bool:=match o with | some ⟨.type n,some d,.plain,_⟩=>n == "module" && d == builtinsNs | _=>false
theorem modB_of{o:Option Obj}(e:modB o=true):∃ sl,o=some ⟨.type "module",some builtinsNs,.plain,sl⟩:=by
 cases o with
 |none=>cases e
 |some o =>
  obtain⟨a,b,x,d⟩:=o;cases a<;>first | cases e | skip
  cases b<;>first | cases e | skip
  cases x<;>first | cases e | skip
  obtain⟨h1,h2⟩:=(Bool.and_eq_true _ _).mp e;cases eq_of_beq h1;cases eq_of_beq h2;exact⟨_,rfl⟩
noncomputable def bmOk(K:Frag)(P:Addr):Bool:=refB (fun bm=>bm != builtinsNs&&bm != mainGlobals&&bm != P&&modB (K.lookup bm)) (nsIn K mainGlobals "__builtins__")
structure KOk(K:Frag):Prop where
 ns1:nsStr K mainGlobals=true
 ns2:nsStr K cStatics=true∧nsIn K cStatics "sys.recursionlimit" = some none
 bm:bmOk K 215=true∧bmOk K 70=true
 cd:codeHdIn K 219 215=true∧codeHdIn K 74 70=true
 fn:∀ p∈Bz,K.lookup p.1=some (fnObj p.2)∧codeIn K p.2.code p.2.qualname=true
 glob:∀ p∈E1,nsIn K mainGlobals p.1=some (some p.2)
 blt:∀ p∈Fo,nsIn K mainGlobals p.1=some none∧nsIn K builtinsNs p.1=some (some p.2)
 cl:∀ p∈clTab,clOk K p.1 p.2.1 p.2.2.1 p.2.2.2=true
 mks:makesIn K 143=true∧makesIn K 209=true∧makesL K 101=true
 mro:(clsIn K 101).map (·.mro)=some [.ref 101,.type "list",.type "object"]∧(clsIn K 143).map (·.mro)=some [.ref 143,.type "object"]∧(clsIn K 209).map (·.mro)=some [.ref 209,.type "object"]
 kc:keepIn K (.ref 101)=true∧keepIn K (.ref 143)=true∧keepIn K (.ref 209)=true
 wc:readsIn K 209 (.type "type")=true∧strAt K 209 "S" " " = true∧strAt K 209 "T" "\t" = true
theorem KOk.lim{K:Frag}(H:KOk K):∀ h,K.In h→h.NoLimit:=fun h x=>by
 obtain⟨m,h1,h2⟩:=ns_of H.ns2.1;exact⟨m,h1 h x,h2 _ _ H.ns2.2⟩
theorem KOk.keep{K:Frag}(H:KOk K){f:Addr}{fd:FuncData}(h:(f,fd)∈Bz):keepIn K (.ref f)=true:=by
 unfold keepIn;dsimp only;refine rz ((H.fn _ h).1 ..) ?_
 rfl
section
variable{prog:Program}{w:World}{A:Around}{E:VP}{c:Cx}{X:Xs}{T:Ts}{s:Shared}{cenv:Env}
theorem if_nil{f:Expr→Bool→Sem (ForInStep Bool)}{Q:Bool→Shared→Prop}(h:Q true s):wpAny (model prog w) A (forIn ([]:List Expr) true f) Q E s:=by refine rz (forIn_nil ..) <| wpAny_pure h
theorem if_one{e:Expr}{Q:Bool→Shared→Prop}(h:wpAny (model prog w) A (isTrue e cenv (eval e cenv)) Q E s) :
  wpAny (model prog w) A (forIn [e] true fun c r=>if r=true then do let ok ← isTrue c cenv (eval c cenv);pure (ForInStep.yield ok) else pure (ForInStep.yield r)) Q E s:=by
 refine rz (forIn_cons ..) ?_;simp only[if_true];refine wpAny_bind (wpAny_bind (wpAny_mono h (fun b s₁ h₁=>wpAny_pure ?_) fun V V e=>e))
 dsimp only;refine rz (forIn_nil ..) <| wpAny_pure h₁
end
noncomputable def Ei(l:Nk)(co:Ce):Ce→Option (Ce):=l.rec some fun p V f acc=>if p.2 == .free then (co.lookup p.1).bind fun a=>f ((p.1,a)::acc) else f acc
theorem Dw{n:Str}{k:NameKind}{r:Nk}{co acc:Ce}:Ei ((n,k)::r) co acc=if k == .free then (co.lookup n).bind fun a=>Ei r co ((n,a)::acc) else Ei r co acc:=rfl
noncomputable def relab(sn no:Nk):Nk:=sn.map fun(n,k)=>if (k == .free&&no.lookup n == some .cell) then (n,.cell) else (n,k)
section
variable{prog:Program}{w:World}{A:Around}{E:VP}{c:Cx}{X:Xs}{T:Ts}{s:Shared}{env:Env}{Lo:Addr}{no:Nk}{co:Ce}
theorem clos_of(hE:EnvOk env Lo no co){scope:Scope}{sn:Nk}{cl:Ce}(hs:scope.names=sn)(h:Ei sn co []=some cl):closureFor scope env=pure cl:=by
 unfold closureFor;refine rz (hs ..) ?_;have:∀ (l:Nk) (acc cl:Ce),Ei l co acc=some cl→(forIn l acc (fun(x:Str × NameKind) (r:Ce)=>(match x with | (name,kind)=>if (kind == NameKind.free)=true then do let a ← cellOf env name;pure (ForInStep.yield ((name,a)::r)) else pure (ForInStep.yield r):Sem (ForInStep (Ce)))):Sem (Ce))=pure cl:=by
  intro l
  induction l with
  |nil=>intro acc cl h;cases h;rfl
  |cons p l ih =>
   obtain⟨n,k⟩:=p;intro acc cl h;rw[Dw] at h;refine rz (forIn_cons ..) ?_
   by_cases hk:(k == NameKind.free)=true
   ·rw[if_pos hk] at h;cases ha:co.lookup n with
    |none=>rw[ha] at h;cases h
    |some a =>
     rw[ha] at h;have hc:cellOf env n=pure a:=by unfold cellOf;refine rz (hE.cls ..) <| rz (ha ..) rfl
     simp only[hk,if_true,hc,pure_bind];exact ih _ _ h
   ·rw[if_neg hk] at h;simp only[hk,pure_bind]
    exact ih _ _ h
 have e:=this sn [] cl h;simp only[bind_pure];exact e
theorem E5{co:Ce}:∀ {sn:Nk}{acc cl:Ce},Ei sn co acc=some cl→cl.map (·.1)=((sn.filter (·.2 == .free)).map (·.1)).reverse++acc.map (·.1)
 |[],acc,cl,h=>by cases h;simp
 |(n,k)::r,acc,cl,h=>by
  rw[Dw] at h
  by_cases hk:(k == NameKind.free)=true
  ·rw[if_pos hk] at h;cases ha:co.lookup n with
   |none=>rw[ha] at h;cases h
   |some a=>rw[ha] at h;refine rz (E5 h ..) ?_;simp[hk]
  ·rw[if_neg hk] at h;refine rz (E5 h ..) ?_;simp[hk]
theorem E6{co:Ce}:∀ {sn:Nk}{acc cl:Ce},Ei sn co acc=some cl→∀ q∈cl,q∈acc∨(q.1,NameKind.free)∈sn
 |[],acc,cl,h,q,hq=>by cases h;exact .inl hq
 |(n,k)::r,acc,cl,h,q,hq=>by
  rw[Dw] at h
  by_cases hk:(k == NameKind.free)=true
  ·rw[if_pos hk] at h;cases ha:co.lookup n with
   |none=>rw[ha] at h;cases h
   |some a =>
    rw[ha] at h;rcases E6 h q hq with h | h
    ·rcases List.mem_cons.mp h with rfl | h
     ·exact .inr (rz (Eq.symm (eq_of_beq hk ..)) <| .head _)
     ·exact .inl h
    ·exact .inr (.tail _ h)
  ·rw[if_neg hk] at h;exact(E6 h q hq).imp id (.tail _)
theorem clList_nd{co:Ce}{sn:Nk}{cl:Ce}(nd:(sn.map (·.1)).Nodup)(h:Ei sn co []=some cl):(cl.map (·.1)).Nodup:=by
 refine rz (E5 h ..) <| rz (map_nil ..) <| rz (append_nil ..) <| List.pairwise_reverse.mpr ((List.Sublist.nodup (List.Sublist.map _ filter_sublist) nd).imp fun h=>Ne.symm h)
theorem relab_of(hE:EnvOk env Lo no co){scope:Scope}{sn:Nk}(hs:scope.names=sn):(relabel scope env).names=relab sn no:=by
 unfold relabel relab;dsimp only;refine rz (hs ..) <| rz (hE.kind ..) ?_
 apply map_congr_left;rintro⟨n,k⟩ _
 show(if (k == NameKind.free&&(ScopeKind.function == ScopeKind.function)&&env.scope.names.lookup n == some .cell)=true then _ else _)=_
 refine rz (hE.nms ..) ?_;simp
theorem law_fn{K:Frag}(H:KOk K){n:Nat}{f:Addr}{B:Xs}{ds:Lp}{post:PyData→Xs→Prop}{fd:FuncData}{body:List Stmt}(params:List Str)(names:Nk)(X0:Addr→Xs)(cl:Addr→Ce)
  (hf:(f,fd)∈Bz)(hd:FdOk fd body)(hnames:fd.scope.names=names)(hnd:(names.map (·.1)).Nodup)
  (hbind:∀ vs,vs.length=ds.length→bindArgs fd ⟨vs,[]⟩=pure (params.zip vs))(hpk:∀ x∈params,(x,NameKind.local)∈names∨(x,NameKind.cell)∈names)
  (hclo:fd.closure=[])
  (hX0:∀ L,X0 L=(L,.map (Be names ((params.zip ds).reverse)))::Bm L names ((params.zip ds).reverse))(hcl:∀ L,cl L=cellsFrom (L+1) names [])
  (h:∀ A c s L,OkA n A→KOk c.K→c.K=K→St c (X0 L++B) [] s→EnvOk (fnEnv fd L f) L names (cl L)→wpAny (model prog w) A (execs body (fnEnv fd L f)) (fun fl s'=>∃ Z T d B',post d B'∧St c (Z++B') T s'∧Rp (ban c (Z++B')) s'.heap (match fl with | .ret v=>v | _=>.none) d) (fun V V=>False) s)
  (hpost:∀ d B',post d B'→∀ p∈B,p.1∈B'.map (·.1)):Fn prog w K (n+1) f B ds post:=by
 refine fn_intro0 params names X0 cl (fun c X T s hK S=>⟨S.stat _ _ (hK▸(H.fn _ hf).1),codeRec_of (hK▸S.stat:K.In s.heap) (H.fn _ hf).2⟩) H.lim hpost hd hnames hnd hbind hpk (rz (hclo ..) <| fun V h=>nomatch h) (rz (hclo ..) <| nodup_nil) hX0 (rz (hclo ..) <| hcl) (fun A c T s L oA hK S hE=>?_)
 refine wpAny_mono (h A c s L oA (hK▸H) hK S.nil hE) (fun fl s' h'=>?_) fun V V e=>e
 obtain⟨Z,T,d,B',hp,S',r⟩:=h';exact⟨Z,d,B',hp,S'.nil.push r⟩
end
noncomputable def tx(l:List Nat):Str:=⟨l.toArray⟩
theorem tx_inj{a b:List Nat}(h:tx a=tx b):a=b:=by
 unfold tx at h
 simpa using h
theorem tx_eta(x:Str):tx x.cps.toList=x:=by cases x;simp[tx]
theorem C1(l:List Nat):(tx l).cps.toList=l:=by simp[tx]
theorem Bh(a b:List Nat):tx a++tx b=tx (a++b):=by
 show Str.append _ _=_
 simp[Str.append,tx]
theorem A6(l:List Nat):(tx l).length=l.length:=by simp[Str.length,tx]
theorem tx_beq(a b:List Nat):(tx a == tx b)=decide (a=b):=by
 by_cases h:a=b
 ·subst h;simp
 ·refine rz (decide_eq_false h ..) <| beq_eq_false_iff_ne.mpr fun q=>h (tx_inj q)
theorem tx_sign(n:Nat):(⟨#[n]⟩:Str)=tx [n]:=rfl
theorem D0:(Str.ofString "")=tx []:=by decide +kernel
theorem strjoin_nil:∀ ls:Lz,Str.join (tx []) (ls.map tx)=tx ls.flatten
 |[]=>rfl
 |[a]=>by simp[Str.join]
 |a::b::r=>by
  have ih:=strjoin_nil (b::r);simp only[map_cons] at ih⊢
  unfold Str.join;rw[ih,Bh,Bh];simp
theorem Dl(ls:Lz):Txt.join (Str.ofString "") (ls.map tx)=tx ls.flatten:=by
 refine rz (D0 ..) <| rz (Eq.symm (strjoin_nil ..)) <| eq_of_beq (join_plain_closes _ _)
theorem map_strs{α:Type}(g:α→Str)(l:List α):List.map (fun a=>PyData.str (g a)) l=(l.map g).map PyData.str:=by refine rz (map_map ..) ?_;rfl
theorem map_ints{α:Type}(g:α→Int)(l:List α):List.map (fun a=>PyData.int (g a)) l=(l.map g).map PyData.int:=by refine rz (map_map ..) ?_;rfl
theorem sum_len(ls:Lz):((ls.map tx).map (·.length)).sum=ls.flatten.length:=by
 refine rz (map_map ..) ?_
 induction ls with
 |nil=>rfl
 |cons a r ih=>simp only[map_cons,sum_cons,flatten_cons,length_append];refine rz (ih ..) ?_;simp[A6]
theorem if_t{P Q:Prop}(h:P):(true=true→P)∧(true=false→Q):=⟨fun V=>h,fun e=>nomatch e⟩
theorem if_f{P Q:Prop}(h:Q):(false=true→P)∧(false=false→Q):=⟨fun e=>(nomatch e:False).elim,fun V=>h⟩
theorem Ew(a:Int)(n:Nat):(rng a n).length=n:=by simp[rng]
theorem rng_get'{a:Int}{n i:Nat}{x:Int}(h:(rng a n)[i]?=some x):i<n∧x=a+i:=by
 unfold rng at h;rw[List.getElem?_map,Option.map_eq_some_iff] at h
 obtain⟨j,h1,h3⟩:=h;obtain⟨hl,e⟩:=List.getElem?_eq_some_iff.mp h1;simp at hl e
 subst e;exact⟨hl,h3.symm⟩
theorem rng_map{α:Type}(g:Int→α)(n:Nat):(rng 0 n).map g=(List.range n).map fun(j:Nat)=>g (j:Int):=by
 unfold rng;refine rz (map_map ..) ?_;apply map_congr_left;intro j _;simp
theorem A4{n:Nat}(h:n≤1000000):n≤sizeLine:=by refine rz (sizeLine_eq ..) <| (ar [_] Aa Aq (.c 1 Aa Ap .z) 0 rfl h)
theorem flat_single{α β:Type}(g:α→β)(l:List α):(l.map fun a=>[g a]).flatten=l.map g:=by
 induction l with
 |nil=>rfl
 |cons a r ih=>simp[ih]
theorem fdiv_cast(a b:Nat):(a:Int).fdiv (b:Int)=((a / b:Nat):Int):=by refine rz (Int.fdiv_eq_ediv_of_nonneg _ (natCast_nonneg _) ..) ?_;rfl
theorem fmod_cast(a b:Nat):(a:Int).fmod (b:Int)=((a % b:Nat):Int):=by refine rz (Int.fmod_eq_emod_of_nonneg _ (natCast_nonneg _) ..) ?_;rfl
theorem contains_tx(r:List Nat)(n:Nat):Txt.contains (tx r) (tx [n])=decide (n∈r):=by
 have:=PySem.StrLaws.found_one (tx r) n;rw[C1] at this;exact this
theorem while_it{prog:Program}{w:World}{A:Around}{E:VP}{s:Shared}{env:Env}{t:Expr}{body rest:List Stmt}{q:Pos}{Q:Flow→Shared→Prop}(I:Nat→Shared→Prop)(n:Nat)(h:I n s)
  (turn:∀ n s (E':VP),I n s→wpAny (model prog w) A (isTrue t env (eval t env)) (fun b s₂=>(b=true→wpAny (model prog w) A (execs body env) (fun f s₃=>match f with
    |.next | .cont=>∃ m,m<n∧I m s₃
    |.brk=>wpAny (model prog w) A (execs rest env) Q E s₃
    |.ret v=>Q (.ret v) s₃) E' s₂)∧(b=false→wpAny (model prog w) A (execs rest env) Q E s₂)) E' s) :
  wpAny (model prog w) A (execs (.While t body [] q::rest) env) Q E s:=by
 refine x_while (codeAny_whileLoop I (fun n s hI=>wpAny_mono (turn n s _ hI) (fun b s₂ h₂=>?_) fun V V e=>e) n h)
 cases b with
 |true=>exact wpAny_mono (h₂.1 rfl) (fun f s₃ h₃=>by cases f<;>exact h₃) fun V V e=>e
 |false=>exact wpAny_execs_nil (h₂.2 rfl)
theorem lay_all:∀ (ds:Lp),PyData.canLayAll0 ds=true↔∀ d∈ds,d.canLay0=true
 |[]=>by simp[PyData.canLayAll0]
 |d::ds=>by simp[PyData.canLayAll0,lay_all ds]
theorem depth_all:∀ (ds:Lp) (n:Nat),(∀ d∈ds,d.depth≤n)→PyData.depthAll ds≤n
 |[],n,_=>by simp[PyData.depthAll]
 |d::ds,n,h=>by
  simp only[PyData.depthAll];exact Nat.max_le.mpr ⟨h d (.head _),depth_all ds n fun e he=>h e (.tail _ he)⟩
def Sh(n:Nat)(d:PyData):Prop:=d.canLay0=true∧d.depth≤n
theorem Sh.int{i:Int}:Sh 1 (.int i):=⟨rfl,by simp[PyData.depth]⟩
def okT(l:List Nat):Prop:=∀ n∈l,n<0x110000
theorem Sh.str{l:List Nat}(h:okT l):Sh 1 (.str (tx l)):=by
 refine⟨?_,by simp[PyData.depth]⟩
 show PyData.strOk _=true
 unfold PyData.strOk tx
 simpa using (show ∀ n∈l,n<0x110000 from h)
theorem Sh.le{n m:Nat}{d:PyData}(h:Sh n d)(hn:n≤m):Sh m d:=⟨h.1,le_trans h.2 hn⟩
theorem Sh.list{n:Nat}{ds:Lp}(h:∀ d∈ds,Sh n d):Sh (n+1) (.list ds):=by
 refine⟨?_,?_⟩
 ·simp only[PyData.canLay0];exact(lay_all ds).mpr fun d hd=>(h d hd).1
 ·simp only[PyData.depth];have:=depth_all ds n fun d hd=>(h d hd).2
  exact(succ_le_succ this)
theorem Sh.shaped{n:Nat}{d:PyData}(h:Sh n d)(hn:n≤64):SeqAt.shaped d=true:=by
 unfold SeqAt.shaped;refine rz (h.1 ..) <| rz (Bool.true_and ..) <| decide_eq_true (le_trans h.2 hn)
theorem Sh.ints(l:List Int):Sh 2 (.list (l.map .int)):=Sh.list fun d hd=>by
 obtain⟨x,_,rfl⟩:=List.mem_map.mp hd;exact Sh.int
theorem Sh.nil:Sh 2 (.list []):=Sh.list fun d hd=>nomatch hd
mutual
theorem clean_lay:∀ (d:PyData),d.canLay0=true→clean d=true
 |.none,_=>rfl
 |.bool _,_=>rfl
 |.int _,_=>rfl
 |.str _,_=>rfl
 |.list xs,h=>by simp only[PyData.canLay0] at h;simp only[clean];exact Em xs h
 |.tuple xs,h=>by simp only[PyData.canLay0] at h;simp only[clean];exact Em xs h
 |.dict _,h=>by simp[PyData.canLay0] at h
theorem Em:∀ (ds:Lp),PyData.canLayAll0 ds=true→Fm ds=true
 |[],_=>rfl
 |d::ds,h=>by
  simp only[PyData.canLayAll0,Bool.and_eq_true] at h;simp only[Fm,Bool.and_eq_true]
  exact⟨clean_lay d h.1,Em ds h.2⟩
end
theorem Sh.clean{n:Nat}{d:PyData}(h:Sh n d):clean d=true:=clean_lay d h.1
theorem eqv_nil(ds:Lp):PyData.eqv (.list ds) (.list [])=ds.isEmpty:=by cases ds<;>simp[PyData.eqv,PyData.eqvAll]
section
variable{prog:Program}{w:World}{A:Around}{E:VP}{c:Cx}{X:Xs}{T:Ts}{s:Shared}{Q:VP}{n:Nat}
theorem r_nenil{v v':Value}{ds:Lp}(oA:OkA n A)(R:Rd c X s.heap v ds)(R':Rd c X s.heap v' [])(hs:Sh 60 (.list ds))(h:Q (.bool (!ds.isEmpty)) s):wpAny (model prog w) A (compareOp .NotEq v v') Q E s :=
 r_nedata (R.rds (by have:=hs.clean;simpa [clean] using this)) (R'.rds rfl) (hs.shaped (by decide)) (Sh.nil.shaped (by decide)) oA.units (rz (eqv_nil ..) <| h)
theorem r_eqnil{v v':Value}{ds:Lp}(oA:OkA n A)(R:Rd c X s.heap v ds)(R':Rd c X s.heap v' [])(hs:Sh 60 (.list ds))(h:Q (.bool ds.isEmpty) s):wpAny (model prog w) A (compareOp .Eq v v') Q E s :=
 r_eqdata (R.rds (by have:=hs.clean;simpa [clean] using this)) (R'.rds rfl) (hs.shaped (by decide)) (Sh.nil.shaped (by decide)) oA.units (rz (eqv_nil ..) <| h)
end
noncomputable def swOne(no:Nk)(l:Nat):Expr→Option Str
 |.Name id pos=>if no.lookup id == some .local&&pos.line == l then some id else none
 |_=>none
noncomputable def swNames(ts:List Expr)(no:Nk):List Str:=ts.filterMap (swOne no ((ts.head?.map (·.pos.line)).getD 0))
noncomputable def madeE(e:Expr):Bool:=Nat.beq e.ctorIdx 16||Nat.beq e.ctorIdx 20||Nat.beq e.ctorIdx 24
theorem sw_if{α:Type}{c:Prop}[Decidable c] {a b x:α}{P:Prop}(h:¬c→x=a∨(x=b∧P)):(if c then a else x)=a∨((if c then a else x)=b∧P):=by
 by_cases q:c
 ·exact .inl (if_pos q)
 ·refine rz (if_neg q ..) <| h q
theorem made_not{v:Expr}(h:madeE v=true):constantsAlone 8 v=false:=by
 cases v<;>first | rfl | cases h
theorem sw_of{env:Env}{ts vs:List Expr}{k k':Nat}{p p':Pos}(hm:vs.any madeE=true) :
  swappedStores [.Tuple ts k p] (.Tuple vs k' p') env=pure none∨(swappedStores [.Tuple ts k p] (.Tuple vs k' p') env=pure (some (swNames ts env.scope.names))∧(swNames ts env.scope.names).length=ts.length):=by
 have ha:(vs.all (constantsAlone 8))=false:=by
  obtain⟨v,hv,hm⟩:=List.any_eq_true.mp hm;cases e:vs.all (constantsAlone 8) with
  |false=>rfl
  |true=>exact nomatch (made_not hm).symm.trans (List.all_eq_true.mp e v hv)
 refine sw_if fun V=>sw_if fun V=>sw_if fun h3=>sw_if fun V=>.inr ⟨if_neg (by refine rz (ha ..) <| Bool.false_ne_true),?_⟩
 rw[Bool.or_eq_true,not_or] at h3;exact Decidable.not_not.mp fun q=>h3.1 (bne_iff_ne.mpr q)
theorem seq_ok{c:Cx}{X:Xs}{T:Ts}{s:Shared}{vs:List Value}{ds:Lp}{P:Xs→Ts→Lp→Prop}(S:St c X T s)(hr:Rps (ban c X) s.heap vs ds)(hz:Nat.ble vs.length 64=true)(k:P X T ds) :
  vs.length≤sizeLine∧∃ X T ds,St c X T s∧Rps (ban c X) s.heap vs ds∧P X T ds :=
 ⟨A4 (le_trans (le_of_ble_eq_true hz) (by decide)),X,T,ds,S,hr,k⟩
theorem Gs{env:Env}{L:Addr}{no:Nk}{co:Ce}(hE:EnvOk env L no co):interactive env=false:=by unfold interactive;refine rz (hE.kind ..) ?_;rfl
theorem F6{k n:Nat}(h:k<n):seqIndex? (k:Int) n=some k:=by
 unfold seqIndex?;have h1:¬ ((k:Int)<0):=by exact(Int.not_lt.mpr (ai [_] [] Aj (.c Aa) .z 0 rfl))
 simp only[h1,if_false];refine rz (if_pos (by simp;exact h) ..) ?_
 simp
theorem seqIndex_neg{n:Nat}(h:0<n):seqIndex? (-1) n=some (n-1):=by
 unfold seqIndex?;simp only[show((-1:Int)<0) from by decide,if_true]
 refine rz (if_pos (by simp;exact⟨(ai [_] [] Aj (.a As (.c Aa)) (.c 1 (.a Al Ad) Aa .z) 0 rfl h),(ai [_] [] (.a (.a As (.c Aa)) Ah) (.c Aa) .z 0 rfl)⟩) ..) <| congrArg some ((congrArg Int.toNat (add_comm _ _)).trans (toNat_sub n 1))
theorem fits_nat{k:Nat}(h:k<2^40):Builtin.List.listFitsIndex (k:Int)=true:=by
 unfold Builtin.List.listFitsIndex;simp;exact(ai [_] [] (.a (.c Aa) Ah) Ak (.c 1 (.a Aa Ad) (.n 1099511627776) .z) 0 rfl h)
theorem Du{α β:Type}(f:α→β):∀ (l:List α) (k:Nat),(l.map f).eraseIdx k=(l.eraseIdx k).map f
 |[],_=>rfl
 |_::_,0=>rfl
 |a::l,k+1=>by simp[Du f l k]
section
variable{prog:Program}{w:World}{A:Around}{E:VP}{c:Cx}{X:Xs}{T:Ts}{s:Shared}{env:Env}{L:Addr}{names:Nk}{cells:Ce}{Q:VP}
theorem n_local{x:Str}{ρ:Od}{d:PyData}(S:St c X T s)(H:EnvOk env L names cells)(hn:(x,NameKind.local)∈names)(hX:(L,Knd.map ρ)∈X)(hx:(x,some d)∈ρ)(k:Kon c X T d Q):wpAny (model prog w) A (loadName env x) Q E s:=by
 obtain⟨m,v,h1,h2,h3⟩:=S.look hX hx;exact wpAny_loadName_local H.kind (H.kindOf hn) (H.loc▸h1) h2 (k.app S h3)
theorem n_cell{x:Str}{a:Addr}{d:PyData}(S:St c X T s)(H:EnvOk env L names cells)(hn:(x,NameKind.cell)∈names)(ha:(x,a)∈cells)(hX:(a,Knd.cell (some d))∈X)(k:Kon c X T d Q):wpAny (model prog w) A (loadName env x) Q E s:=by
 obtain⟨v,h1,h3⟩:=S.lookC hX;exact wpAny_loadName_cell H.kind (H.kindOf hn) (H.cell ha) h1 (k.app S h3)
end
section
variable{prog:Program}{w:World}{A:Around}{E:VP}{c:Cx}{X:Xs}{T:Ts}{s:Shared}{Q:VP}{n:Nat}
theorem any_int(l:List Int)(k:Int):(l.map PyData.int).any (fun y=>PyData.eqv y (.int k))=decide (k∈l):=by
 induction l with
 |nil=>rfl
 |cons a l ih =>
  refine rz (map_cons ..) <| rz (any_cons ..) <| rz (ih ..) ?_
  by_cases h:a=k
  ·subst h;simp[PyData.eqv]
  ·simp[PyData.eqv,h,Ne.symm h]
theorem any_tx(l:Lz)(k:List Nat):((l.map tx).map PyData.str).any (fun y=>PyData.eqv y (.str (tx k)))=decide (k∈l):=by
 induction l with
 |nil=>rfl
 |cons a l ih =>
  rw[map_cons,map_cons,any_cons,ih]
  by_cases h:a=k
  ·subst h;simp[PyData.eqv]
  ·have:(tx a == tx k)=false:=by refine rz (tx_beq ..) <| rz (decide_eq_false h ..) rfl
   simp[PyData.eqv,this,Ne.symm h]
theorem any_bool(l:List Bool)(k:Bool):(l.map PyData.bool).any (fun y=>PyData.eqv y (.bool k))=decide (k∈l):=by
 induction l with
 |nil=>rfl
 |cons a l ih =>
  refine rz (map_cons ..) <| rz (any_cons ..) <| rz (ih ..) ?_
  cases a<;>cases k<;>simp[PyData.eqv]
theorem OkA.in64(oA:OkA n A){m:Nat}(h:m≤60){k:Nat}:A.units+1+min k m<cLine:=by
 have:=oA.units;have h2:=min_le_right k m;exact(ar [_,_,_,_] (.a (.a (.a Ab Ad) An) Ad) Ag (.c 1 Aa (.n 60) (.c 1 (.a (.a Ab (.n 64)) Ad) Ag (.c 1 An Aa .z))) 0 rfl h this (min_le_right ..))
theorem lay_ints(l:List Int):PyData.canLayAll0 (l.map .int)=true:=(lay_all _).mpr fun d hd=>by obtain⟨x,_,rfl⟩:=List.mem_map.mp hd;rfl
theorem lay_txs{l:Lz}(h:∀ x∈l,okT x):PyData.canLayAll0 ((l.map tx).map .str)=true:=(lay_all _).mpr fun d hd=>by
 obtain⟨x,hx,rfl⟩:=List.mem_map.mp hd;obtain⟨y,hy,rfl⟩:=List.mem_map.mp hx;exact(Sh.str (h y hy)).1
theorem lay_bools(l:List Bool):PyData.canLayAll0 (l.map .bool)=true:=(lay_all _).mpr fun d hd=>by obtain⟨x,_,rfl⟩:=List.mem_map.mp hd;rfl
end
noncomputable abbrev dI(l:List Int):PyData:=.list (l.map .int)
noncomputable abbrev dN(l:List Nat):PyData:=.list (l.map fun n=>.int (n:Nat))
noncomputable abbrev dT(l:List (Nat × Int)):PyData:=.list (l.map fun p=>.tuple [.int (p.1:Nat),.int p.2])
noncomputable abbrev dNN(l:Lz):PyData:=.list (l.map dN)
theorem map_nats(l:List Nat):(l.map fun n=>PyData.int (n:Nat))=(l.map fun n=>((n:Nat):Int)).map PyData.int:=by refine rz (map_map ..) ?_;rfl
theorem mem_nats{l:List Nat}{k:Nat}:((k:Int)∈l.map fun n=>((n:Nat):Int))↔k∈l:=by
 rw[mem_map]
 constructor
 ·rintro⟨a,h,e⟩;have:a=k:=by exact(le_antisymm (an [_,_] [] Aa Ab (.i 1 (.c Aa) (.c Ab) .z) 0 rfl (Int.le_of_eq e)) (an [_,_] [] Aa Ab (.i 1 (.c Aa) (.c Ab) .z) 0 rfl (Int.le_of_eq e.symm)))
  exact this▸h
 ·exact fun h=>⟨k,h,rfl⟩
section
variable{prog:Program}{w:World}{A:Around}{E:VP}{c:Cx}{X:Xs}{T:Ts}{s:Shared}{Q:VP}{n:Nat}
end
theorem Cg{α:Type}(ds:List α)(lo hi:Option Int):pick ds lo hi none=(ds.drop (lo.elim 0 (clipAt ds.length))).take (hi.elim ds.length (clipAt ds.length)-lo.elim 0 (clipAt ds.length)):=by
 unfold pick;refine rz (sliceBounds_plain ..) ?_;simp only[sliceRange_one];have:=PySem.pick_run ds.toArray (lo.elim 0 (clipAt ds.length)) (hi.elim ds.length (clipAt ds.length)-lo.elim 0 (clipAt ds.length))
 simpa using this
theorem pick_from{α:Type}(ds:List α)(a:Nat):pick ds (some (a:Int)) none none=ds.drop a:=by
 refine rz (Cg ..) ?_;simp only[Option.elim,clipAt_nat];rcases le_total a ds.length with h | h
 ·refine rz (min_eq_left h ..) <| rz (take_of_length_le (by simp) ..) rfl
 ·refine rz (min_eq_right h ..) <| rz (drop_of_length_le (le_refl _) ..) <| rz (drop_of_length_le h ..) ?_;simp
theorem pick_upto{α:Type}(ds:List α)(b:Nat):pick ds none (some (b:Int)) none=ds.take b:=by
 refine rz (Cg ..) ?_;simp only[Option.elim,clipAt_nat,drop_zero,sub_zero];rcases le_total b ds.length with h | h
 ·exact rz (min_eq_left h ..) rfl
 ·refine rz (min_eq_right h ..) <| rz (take_of_length_le (le_refl _) ..) <| rz (take_of_length_le h ..) rfl
theorem pick_mid{α:Type}(ds:List α)(a b:Nat)(h:a+b≤ds.length):pick ds (some (a:Int)) (some ((a:Int)+(b:Int))) none=(ds.drop a).take b:=by
 refine rz (Cg ..) <| rz (show(a:Int)+(b:Int)=((a+b:Nat):Int) by exact(Int.le_antisymm (ai [_,_] [] (.a (.c Aa) (.c Ab)) (.c (.a Aa Ab)) .z 0 rfl) (ai [_,_] [] (.c (.a Aa Ab)) (.a (.c Aa) (.c Ab)) .z 0 rfl))) ?_
 simp only[Option.elim,clipAt_nat];refine rz (min_eq_left h ..) <| rz (min_eq_left (show a≤ds.length by exact(ar [_,_,_] Aa Ag (.c 1 (.a Aa Ab) Ag .z) 0 rfl h)) ..) <| rz (Nat.add_sub_cancel_left ..) rfl
theorem pick_run{α:Type}(ds:List α)(a b:Nat)(h:b≤ds.length)(hab:a≤b):pick ds (some (a:Int)) (some (b:Int)) none=(ds.drop a).take (b-a):=by
 refine rz (Cg ..) ?_;simp only[Option.elim,clipAt_nat];refine rz (min_eq_left h ..) <| rz (min_eq_left (show a≤ds.length by exact(le_trans hab h)) ..) rfl
theorem Db{α:Type}(ds:List α):pick ds none (some (-1)) none=ds.take (ds.length-1):=by
 refine rz (Cg ..) ?_;simp only[Option.elim,drop_zero,sub_zero];refine rz (show(-1:Int)=-((1:Nat):Int) from rfl) <| rz (clipAt_neg _ _ (le_refl _) ..) rfl
theorem Cy{α β:Type}(f:α→β)(ds:List α)(lo hi st:Option Int):pick (ds.map f) lo hi st=(pick ds lo hi st).map f:=by
 unfold pick;refine rz (length_map ..) <| rz (List.map_filterMap ..) ?_
 congr 1
 funext i
 exact rz (List.getElem?_map ..) rfl
section
variable{prog:Program}{w:World}{A:Around}{E:VP}{c:Cx}{X X':Xs}{T:Ts}{s:Shared}{Q:VP}{n:Nat}
end
theorem getD_get{l:List Int}{k:Nat}(h:k<l.length):l[k]?=some (l.getD k 0):=by simp[List.getD,h]
theorem Ef{l:Lz}{k:Nat}(h:k<l.length):l[k]?=some (l.getD k []):=by simp[List.getD,h]
theorem swaps_of{env:Env}{L:Addr}{no:Nk}{co:Ce}(hE:EnvOk env L no co){elt:Expr}{gens:List Comprehension}{sc:Scope}{p pos:Pos}{t:Str}{line:Nat}{b:Bool}
  (h:(no.lookup t == some .local&&pos.line == p.line && !(sc.names.any fun(n,k)=>n == t&&(k == .local||k == .cell)))=b):swapsWith (.ListComp elt gens sc p) (some (.Name t pos)) line env=pure b:=by
 subst h;have hb:env.blockKind=.function:=by unfold Env.blockKind;refine rz (hE.kind ..) ?_;rfl
 have hk:∀ x,env.kindOf x=no.lookup x:=fun x=>by show env.scope.names.lookup x=_;exact rz (hE.nms ..) rfl
 unfold swapsWith;simp only[hb,hk]
 rfl
theorem clipAt_le(n:Nat)(i:Int):clipAt n i≤n:=by
 have h:=clipAt_cast n i
 omega
theorem F5(lo hi:Option Int)(n:Nat):Builtin.Str.strSliceIndices lo hi 1 n=(List.range (hi.elim n (clipAt n)-lo.elim 0 (clipAt n))).map (lo.elim 0 (clipAt n) + ·):=by
 refine rz (Eq.symm (sliceRange_one ..)) ?_;unfold Builtin.Str.strSliceIndices;simp only[show((1:Int) > 0) from by decide,if_true]
 cases lo<;>cases hi<;>simp[clipAt_cast]
theorem sslice_pick(l:List Nat)(lo hi:Option (Int × Tok)):(slicePicked (tx l) lo hi none).filterMap ((tx l).cps[·]?)=pick l (lo.map (·.1)) (hi.map (·.1)) none:=by
 unfold slicePicked;refine rz (Cg ..) <| rz (A6 ..) ?_
 show List.filterMap _ (Builtin.Str.strSliceIndices _ _ 1 _)=_
 refine rz (F5 ..) ?_;have:=PySem.pick_run (tx l).cps ((lo.map (·.1)).elim 0 (clipAt l.length)) ((hi.map (·.1)).elim l.length (clipAt l.length)-(lo.map (·.1)).elim 0 (clipAt l.length))
 rw[C1] at this;exact this
theorem r_sslice{prog:Program}{w:World}{A:Around}{E:VP}{c:Cx}{X:Xs}{T:Ts}{s:Shared}{Q:VP}{value slice:Expr}{l:List Nat}{t:Tok}{lo hi:Option (Int × Tok)}{ops:List Value}(S:St c X T s)
  (hz:l.length≤1000000)(h:∀ t s',St c X T s'→Q (.str (tx (pick l (lo.map (·.1)) (hi.map (·.1)) none)) t) s')
  (hs:subscripted slice false (.str (tx l) t) (.ref s.heap.objs.size)=operate ops (getItem (.str (tx l) t) (.ref s.heap.objs.size))) :
  wpAny (model prog w) A (subscriptTail value slice (.str (tx l) t) (.ref s.heap.objs.size)) Q E { s with heap:=s.heap.push { cls:=.type "slice",data:=.fields #[partValue lo,partValue hi,.none] } }:=by
 have S1:St c X T { s with heap:=s.heap.push { cls:=.type "slice",data:=.fields #[partValue lo,partValue hi,.none] } }:=S.push_step (t:=s.toks)
 refine tail_any (typeIs_str _ _ _) slot_str_getitem.lookup (wpAny_getItem_str_slice (l:=lo) (u:=hi) (st:=none) ⟨_,Heap.get?_push_size _ rfl,rfl,rfl⟩ rfl ?_) hs;unfold sliceMade;have ep:=sslice_pick l lo hi
 split
 ·rename_i hc
  have hw:pick l (lo.map (·.1)) (hi.map (·.1)) none=l:=by
   simp only[Option.map_none,Option.getD_none,beq_self_eq_true,Bool.true_and,beq_iff_eq] at hc;unfold slicePicked at hc
   rw[A6] at hc;have hc:(Builtin.Str.strSliceIndices (lo.map (·.1)) (hi.map (·.1)) 1 l.length).length=l.length:=hc
   rw[F5,length_map,length_range] at hc;have hb:(hi.map (·.1)).elim l.length (clipAt l.length)≤l.length:=by
    cases hi with
    |none=>exact le_refl _
    |some p=>exact clipAt_le _ _
   refine rz (Cg ..) ?_;rcases Nat.eq_zero_or_pos l.length with h0 | h0
   ·have:l=[]:=List.length_eq_zero_iff.mp h0;subst this;simp
   ·have ha:(lo.map (·.1)).elim 0 (clipAt l.length)=0:=by omega
    have hb':(hi.map (·.1)).elim l.length (clipAt l.length)=l.length:=by exact(le_antisymm hb (le_trans (le_of_eq hc.symm) (sub_le ..)))
    refine rz (ha ..) <| rz (hb' ..) <| rz (drop_zero ..) <| rz (sub_zero ..) <| rz (take_length ..) rfl
  refine rz (Eq.symm (hw ..)) ?_;have:=h t _ S1;rw[hw] at this⊢
  exact this
 ·refine rz (ep ..) <| ⟨?_,h _ _ (S1.toks _)⟩
  show(tx _).length≤_
  refine rz (A6 ..) <| rz (Cg ..) <| rz (length_take ..) <| rz (length_drop ..) <| A4 (le_trans (min_le_right ..) (le_trans (sub_le ..) hz))
theorem map_bools{α:Type}(g:α→Bool)(l:List α):List.map (fun a=>PyData.bool (g a)) l=(l.map g).map PyData.bool:=by refine rz (map_map ..) ?_;rfl
theorem Sh.nats(l:List Nat):Sh 2 (.list (l.map fun n=>.int (n:Nat))):=Sh.list fun d hd=>by
 obtain⟨x,_,rfl⟩:=List.mem_map.mp hd;exact Sh.int
theorem compTurn_two1(elt t1 i1 t2 i2:Expr)(scope:Scope)(pos:Pos)(it acc:Value)(env:Env) :
  compTurn (.ListComp elt [⟨t1,i1,[],0⟩,⟨t2,i2,[],0⟩] scope pos) 1 it acc env=(do
   standAt i2.pos
   match ← pyNext it with
   |none=>pure (.done .next)
   |some v =>
    letOwnedTupleGo t2 it v
    assign t2 env v
    (do let _ ← call (.builtin "list.append") [acc,← eval elt env])
    again (.compLoop (.ListComp elt [⟨t1,i1,[],0⟩,⟨t2,i2,[],0⟩] scope pos) 1 it acc env)):=by rfl
section
variable{prog:Program}{w:World}{A:Around}{R:Result→Shared→Prop}{s:Shared}
theorem D5{elt t1 i1 t2 i2:Expr}{scope pos it acc env}
  (h0:codeAny (model prog w) A (.compLoop (.ListComp elt [⟨t1,i1,[],0⟩,⟨t2,i2,[],0⟩] scope pos) 1 it acc env) R s)
  (h:wpAny (model prog w) A (pyIter it) (fun it' s'=>codeAny (model prog w) A (.compLoop (.ListComp elt [⟨t1,i1,[],0⟩,⟨t2,i2,[],0⟩] scope pos) 1 it' acc env) R s')
   (notedBy (model prog w) A env fun x s'=>R (.error x) s') s) :
  codeAny (model prog w) A (.compStart (.ListComp elt [⟨t1,i1,[],0⟩,⟨t2,i2,[],0⟩] scope pos) 1 it acc env) R s:=by
 refine codeAny_of_tree ?_
 show wpAny _ _ ((compStart (.ListComp elt [⟨t1,i1,[],0⟩,⟨t2,i2,[],0⟩] scope pos) 1 it acc env).onRaise (fun x=>do noteFrame x env;standAt theWindowsPlace)) _ _ s
 refine wpAny_notedAt ?_;unfold compStart
 show wpAny _ _ (ask >>= _) _ _ s
 refine wpAny_bind (wpAny_askSetting (wpAny_ite ?_))
 split
 ·first
   |exact wpAny_bind (wpAny_pure (wpAny_pure (And.intro rfl h0)))
   |exact wpAny_pure (And.intro rfl h0)
 ·first
   |exact wpAny_bind (wpAny_rule (wpAny_bind (wpAny_standAt (wpAny_bind (wpAny_mono h (fun it' s' h'=>wpAny_pure (And.intro rfl h')) fun V V x=>x)))))
   |(refine wpAny_bind (wpAny_rule ?_);show wpAny _ _ (standAt i2.pos >>= _) _ _ s;exact wpAny_bind (wpAny_standAt (wpAny_bind (wpAny_mono h (fun it' s' h'=>wpAny_pure (And.intro rfl h')) fun V V x=>x))))
variable{E:VP}{c:Cx}{env:Env}
theorem comp_inner{elt t1 i1 t2 i2:Expr}{scope:Scope}{pos:Pos}{I acc:Addr}{kn:Nat→Xs}{ds:Lp}{T0:Ts}{X1 Y:Xs}{rs:Lp}(g:Nat→PyData)(W:Iter prog w A c I kn ds T0 t2)
  (hz:rs.length+ds.length≤sizeLine)
  (S:St c (kn 0++(X1++((acc,.seq (.type "list") Option.none rs)::Y))) T0 s)
  (turn:∀ j d v s (E':VP),ds[j]?=some d→St c (kn (j+1)++(X1++((acc,.seq (.type "list") Option.none (rs++(List.range j).map g))::Y))) ((v,d)::T0) s →
   wpAny (model prog w) A (assign t2 env v) (fun V s₂=>wpAny (model prog w) A (eval elt env) (fun r s₃=>Fin1 c (kn (j+1)++(X1++((acc,.seq (.type "list") Option.none (rs++(List.range j).map g))::Y))) T0 r (g j) s₃) E' s₂) E' s)
  (done:∀ s,St c (X1++((acc,.seq (.type "list") Option.none (rs++(List.range ds.length).map g))::Y)) T0 s→R (.ok .next) s) :
  codeAny (model prog w) A (.compLoop (.ListComp elt [⟨t1,i1,[],0⟩,⟨t2,i2,[],0⟩] scope pos) 1 (.ref I) (.ref acc) env) R s:=by
 refine codeAny_loop rfl (fun n s'=>∃ j,n=ds.length-j∧j≤ds.length∧St c (kn j++(X1++((acc,.seq (.type "list") Option.none (rs++(List.range j).map g))::Y))) T0 s') ?_ ds.length ⟨0,rfl,zero_le _,by simpa using S⟩
 rintro n s' ⟨j,rfl,hj,S'⟩
 show wpAny _ A ((compTurn (.ListComp elt [⟨t1,i1,[],0⟩,⟨t2,i2,[],0⟩] scope pos) 1 (.ref I) (.ref acc) env).onRaise (fun x=>do noteFrame x env;theTreesLotGoes x)) _ _ s'
 refine wpAny_noted ?_;refine rz (compTurn_two1 ..) <| wpAny_bind (wpAny_standAt (wpAny_bind ?_))
 by_cases hlt:j<ds.length
 ·have hx:ds[j]?=some ds[j]:=List.getElem?_eq_getElem hlt;refine wpAny_mono (W.item j _ _ _ _ (fun v s₂=>St c (kn (j+1)++(X1++((acc,.seq (.type "list") Option.none (rs++(List.range j).map g))::Y))) ((v,ds[j])::T0) s₂) _ (notedBy (model prog w) A env fun e s'=>R (Except.error e) s') hx S' (fun q h=>h) (fun v s' h=>h)) (fun r s₁ h₁=>?_) fun V V h=>h
  cases r with
  |none=>exact h₁.elim
  |some v =>
   refine wpAny_bind (wpAny_mono h₁ (fun V s₂ S₂=>?_) fun V V h=>h)
   refine wpAny_bind (wpAny_mono (turn j ds[j] v s₂ _ hx S₂) (fun V s₃ h₃=>wpAny_bind (wpAny_bind (wpAny_mono h₃ (fun r s₄ F=>wpAny_bind ?_) fun V V h=>h))) fun V V h=>h)
   have S₅:=F.st;refine r_append (a:=acc) (d:=g j) S₅ (S₅.rp (.head _)) (Ups.app (ups_mid X1)) (rz (length_append ..) <| rz (length_map ..) <| rz (length_range ..) <| le_trans (add_le_add_left hj _) hz) fun s₆ S₆=>?_
   refine wpAny_pure (wpAny_pure (And.intro rfl ⟨ds.length-(j+1),by exact(ar [_,_,_,_] (.a An Ad) Ab (.c 1 Aa (.a Ab Ag) (.c 1 (.a An (.a Ag Ad)) Aa .z)) 0 rfl (le_sa ..) (le_of_eq (sub_add_cancel hlt))),j+1,rfl,hlt,?_⟩))
   have e:rs++(List.range (j+1)).map g=rs++(List.range j).map g++[g j]:=by refine rz (range_succ ..) <| rz (map_append ..) <| rz (Eq.symm (append_assoc ..)) ?_;rfl
   refine rz (e ..) <| S₆.pop
 ·have ej:j=ds.length:=by exact(le_antisymm hj (le_of_not_lt hlt))
  subst ej;refine W.done _ _ _ _ _ S' (fun q h=>h) fun s₅ S₅=>wpAny_pure (done s₅ S₅)
theorem Ge{elt t1 i1 t2 i2:Expr}{scope:Scope}{pos:Pos}{I acc:Addr}{kn:Nat→Xs}{ds:Lp}{T0:Ts}{X1 Y:Xs}{rs:Lp}(g:Nat→PyData)(W:Iter prog w A c I kn ds T0 t2)
  (hz:rs.length+ds.length≤sizeLine)
  (S:St c (kn 0++(X1++((acc,.seq (.type "list") Option.none rs)::Y))) T0 s)
  (turn:∀ j d v s (E':VP),ds[j]?=some d→St c (kn (j+1)++(X1++((acc,.seq (.type "list") Option.none (rs++(List.range j).map g))::Y))) ((v,d)::T0) s →
   wpAny (model prog w) A (assign t2 env v) (fun V s₂=>wpAny (model prog w) A (eval elt env) (fun r s₃=>Fin1 c (kn (j+1)++(X1++((acc,.seq (.type "list") Option.none (rs++(List.range j).map g))::Y))) T0 r (g j) s₃) E' s₂) E' s)
  (done:∀ s,St c (X1++((acc,.seq (.type "list") Option.none (rs++(List.range ds.length).map g))::Y)) T0 s→R (.ok .next) s) :
  codeAny (model prog w) A (.compStart (.ListComp elt [⟨t1,i1,[],0⟩,⟨t2,i2,[],0⟩] scope pos) 1 (.ref I) (.ref acc) env) R s :=
 D5 (comp_inner g W hz S turn done) (W.self 0 _ _ _ _ _ S (comp_inner g W hz S turn done))
variable{X X':Xs}{T T' T0:Ts}{s':Shared}
theorem mulOk{a b:Int}(ha:a.natAbs<18446744073709551616)(hb:b.natAbs<18446744073709551616):IntMulOk a b:=IntMulOk.of_le (m:=64) (n:=64) (intBits_le_iff.mpr ha) (intBits_le_iff.mpr hb) (by decide)
end
theorem pick_rev{α:Type}(ds:List α):pick ds none none (some (-1))=ds.reverse:=by
 unfold pick;refine rz (krv_bounds ..) ?_
 show((sliceRange ((ds.length:Int)-1) (-1) (-1)).filterMap (ds[·]?))=_
 refine rz (krv_sliceRange ..) <| rz (krv_range ..) <| rz (List.filterMap_reverse ..) ?_
 have:=krv_all ds.toArray;simp only[List.size_toArray,List.getElem?_toArray] at this;exact rz (this ..) rfl
theorem Gv{l:List Nat}{k:Nat}(h:k<l.length):l[k]?=some (l.getD k 0):=by simp[List.getD,h]
noncomputable abbrev dNs(l:List Nat):Lp:=l.map fun n=>.int (n:Nat)
theorem sp32{n:Nat}:((⟨#[n]⟩:Str) == (" " : Str))=decide (n=32):=by
 have e:(" " : Str)=⟨#[32]⟩:=by decide +kernel
 refine rz (e ..) ?_
 by_cases h:n=32
 ·subst h;simp
 ·refine rz (decide_eq_false h ..) <| beq_eq_false_iff_ne.mpr fun q=>h (by simpa using q)
theorem beq_nat(a b:Nat):((a:Int) == (b:Int))=decide (a=b):=by
 rw[Bool.eq_iff_iff];simp;exact ofNat_inj
theorem beq_three(a:Nat):((a:Int) == 3)=decide (a=3):=beq_nat a 3
theorem beq_one(a:Nat):((a:Int) == 1)=decide (a=1):=beq_nat a 1
theorem beq_two(a:Nat):((a:Int) == 2)=decide (a=2):=beq_nat a 2
theorem pick_one{α:Type}(ds:List α):pick ds none (some 1) none=ds.take 1:=pick_upto ds 1
theorem pick_tail{α:Type}(ds:List α):pick ds (some 1) none none=ds.drop 1:=pick_from ds 1
theorem Rps.rep{P:Addr→Prop}{h:Heap}{vs:List Value}{ds:Lp}(H:Rps P h vs ds):∀ k,Rps P h (List.replicate k vs).flatten (List.replicate k ds).flatten
 |0=>.nil
 |k+1=>by
  refine rz (replicate_succ ..) <| rz (replicate_succ ..) <| rz (flatten_cons ..) <| rz (flatten_cons ..) <| H.append (Rps.rep H k)
section
variable{prog:Program}{w:World}{A:Around}{E:VP}{c:Cx}{X X':Xs}{T:Ts}{s:Shared}{Q:VP}
theorem r_mullist{v:Value}{ds:Lp}{x:Int}{u:Tok}(S:St c X T s)(R:Rd c X s.heap v ds)(h0:0≤x)(hx:x<2^63)(hz:ds.length*x.toNat≤2^24)
  (h:∀ a s',St c ((a,.seq (.type "list") none (List.replicate x.toNat ds).flatten)::X) T s'→Q (.ref a) s'):wpAny (model prog w) A (binaryOp .Mult v (.int x u)) Q E s:=by
 obtain⟨a,vs,n,rfl,h1,h2⟩:=R;have hsz:vs.size*x.toNat≤2^24:=by refine rz (rd_size (v:=.none) (a:=0) h2 ..) <| hz
 refine wpAny_binaryOp_repeat_ref (T := "list") (U := "int") (by decide) ⟨_,h1,rfl⟩ (fun s'=>typeIs_int s' x u) noFill_list_mul F.fills_int_mul F.slot_int_rmul repeat_list F.slot_int_index.lookup
  (call_meets F.slot_int_rmul (typeIs_int s x u) F.entry_int_rmul (F.args_int_rmul_2 _ _) (lm_int_rmul_list_any x u a vs n none #[])
   ⟨h1,rfl,⟨_,h1,rfl⟩,call_meets F.slot_list_mul ⟨_,h1,rfl⟩ F.entry_list_mul (F.args_list_mul_2 _ _)
    (lm_list_mul_any a vs n none #[] x u (by simp[Builtin.List.listFitsIndex];omega) (by omega) (by simp[Builtin.List.listTooLong,sizeLine];omega))
    ⟨h1,?_⟩⟩)
 refine h _ _ ?_;refine S.newOwn (t:=s.toks) (fun V V e=>Heap.get?_push_of_some _ e) (le_refl _) (Heap.get?_push_size _ rfl) ?_
 have e:=listMul_foldl_if vs x.toNat;have e2:(List.foldl (fun x1 x2=>x1++x2) #[] (List.replicate (if vs.isEmpty=true then 0 else x.toNat) vs)).toList=(List.replicate x.toNat vs.toList).flatten:=by exact rz (e ..) rfl
 show Rps _ _ (List.foldl (fun x1 x2=>x1++x2) #[] (List.replicate (if vs.isEmpty=true then 0 else x.toNat) vs)).toList _
 refine rz (e2 ..) <| h2.rep _
theorem St.lift{L b:Addr}{d:PyData}(S:St c X T s)(U:Ups L (.cell (some (Rf b))) (.cell (some d)) X X')(hT:(.ref b,d)∈T):St c X' T s:=by
 obtain⟨v,hv,hd⟩:=S.own _ U.mem;obtain⟨v',rfl,r⟩:=hd _ rfl;have e:v'=.ref b:=by
  cases r with
  |raw=>rfl
 subst e;refine S.upd U (fun V V V e=>e) S.gens rfl ⟨_,hv,fun d' e=>?_⟩
 cases e;refine⟨_,rfl,(S.tmp _ hT).mono (fun a o e q=>?_) fun V V V e=>e⟩
 unfold ban at q⊢
 rwa [U.keys] at q
end
end Mine
section
open Builtin Builtin.ObjectAttr
namespace Mine
theorem Put.mem{x:Str}{d:Option PyData}{ρ ρ':Od}(P:Put x d ρ ρ'):(x,d)∈ρ':=by
 induction P with
 |here=>exact .head _
 |there _ ih=>exact .tail _ ih
theorem Put.rest{x y:Str}{d e:Option PyData}{ρ ρ':Od}(P:Put x d ρ ρ')(ne:y≠x)(h:(y,e)∈ρ):(y,e)∈ρ':=by
 induction P with
 |here =>
  rcases List.mem_cons.mp h with q | h
  ·exact absurd (Prod.mk.inj q).1 ne
  ·exact .tail _ h
 |there _ ih =>
  rcases List.mem_cons.mp h with q | h
  ·refine rz (q ..) <| .head _
  ·exact .tail _ (ih h)
theorem lookIn_ns{name:Str}{o:Obj}{es:Array DictEntry}{ep:Nat}(hd:o.data=.dict es ep)(hk:StrKeys es):lookIn name o=some (nsFind es name):=by
 unfold lookIn nsFind findBy;refine rz (hd ..) ?_;dsimp only;refine rz (Eq.symm (Array.find?_toList ..)) ?_;cases e:es.toList.find? (fun x=>x.key.isStr name) with
 |some x=>rfl
 |none =>
  dsimp only;rw[if_neg]
  ·rfl
  ·intro h;obtain⟨x,hx,hr⟩:=List.any_eq_true.mp h;obtain⟨n,t,hn⟩:=hk x (by simpa using hx)
   unfold DictEntry.refKey at hr;rw[hn] at hr
   cases hr
theorem OkA.in1{n:Nat}{A:Around}(H:OkA (n+1) A):OkA n A.in1:=by
 obtain⟨h,d,u,f,g⟩:=H;exact⟨h,le_trans (add_le_add_left (le_succ n) _) d,by show A.units+1+100*n≤9000;exact(ar [_,_] (.a (.a Aa Ad) (.m 100 Ab)) (.n 9000) (.c 1 (.a Aa (.m 100 (.a Ab Ad))) (.n 9000) .z) 0 rfl u),f,g⟩
noncomputable abbrev Ins(C dx:Addr):Knd:=.is fun o=>o=instObj C dx
section
variable{prog:Program}{w:World}{A:Around}{E:VP}{c:Cx}{X X':Xs}{T:Ts}{s:Shared}{x dx C:Addr}{ρ ρ':Od}{name:Str}{env:Env}
def HasIns(X:Xs)(x dx C:Addr):Prop:=(x,Ins C dx)∈X∨∃ ds,(x,Knd.seq (.ref C) (some dx) ds)∈X
inductive InstW(c:Cx)(X:Xs)(s:Shared)(x dx C:Addr)(ρ:Od):Prop
 |mk(ox od:Obj)(m:Str→Option Value)(I:InstAt s.heap x ox C (some od))(hdx:ox.dict=some dx)(hm:s.heap.Ns1 dx m)(L:∀ name,lookIn name od=some (m name))(h1:∀ y d,(y,some d)∈ρ→∃ v,m y=some v∧Rp (ban c X) s.heap v d)(h2:∀ y,(∀ d,(y,some d)∉ρ)→m y=none)
theorem St.inst(S:St c X T s)(hi:HasIns X x dx C)(hd:(dx,Knd.obj ρ)∈X):InstW c X s x dx C ρ:=by
 obtain⟨_,_,m,⟨od,es,ep,ho,hod,hk,hu,hf⟩,h1,h2⟩:=S.own _ hd;have L:∀ name,lookIn name od=some (m name):=fun name=>by refine rz (lookIn_ns hod hk ..) <| rz (hf ..) rfl
 rcases hi with h | ⟨ds,h⟩
 ·obtain⟨o,hx,rfl⟩:=S.own _ h;exact⟨instObj C dx,od,m,⟨hx,rfl,rfl,ho⟩,rfl,⟨od,es,ep,ho,hod,hk,hu,hf⟩,L,h1,h2⟩
 ·obtain⟨vs,n,hx,_⟩:=S.own _ h;exact⟨_,od,m,⟨hx,rfl,rfl,ho⟩,rfl,⟨od,es,ep,ho,hod,hk,hu,hf⟩,L,h1,h2⟩
structure ClF(K:Frag)(C:Addr)(ga:String):Prop where
 cd:∃ cd,clsIn K C=some cd∧cd.hasDict=true
 ga:findIn K (.ref C) "__getattribute__" = some (some (.builtin ga))
 gt:findIn K (.ref C) "__getattr__" = some none
 sa:findIn K (.ref C) "__setattr__" = some (some (.builtin "object.__setattr__"))
theorem KOk.clF{K:Frag}(H:KOk K){C:Addr}{ga ms as} (h:(C,ga,ms,as)∈clTab):ClF K C ga∧(∀ p∈ms,findIn K (.ref C) p.1=some (some (.ref p.2))∧typeIn K (.ref p.2)=some (.type "function"))∧∀ n∈as,findIn K (.ref C) n=some none:=by
 have:=H.cl _ h;unfold clOk at this;simp only[Bool.and_eq_true,beq_iff_eq,all_eq_true] at this
 obtain⟨⟨⟨⟨⟨a,b⟩,c⟩,d⟩,e⟩,f⟩:=this;exact⟨⟨any_some a,b,c,d⟩,e,f⟩
theorem handed_rp{P:Addr→Prop}{h:Heap}{v:Value}{d:PyData}(r:Rp P h v d):handedIn v=true:=by cases r<;>rfl
theorem g_attr{d:PyData}{b:Bool}{Q:VP}(S:St c X T s)(hi:HasIns X x dx C)(hd:(dx,Knd.obj ρ)∈X)(hn:(name,some d)∈ρ)(F:ClF c.K C "object.__getattribute__")(hc:findIn c.K (.ref C) name=some none)(k:Kon c X T d Q) :
  wpAny (model prog w) A (getAttr (.ref x) name b) Q E s:=by
 obtain⟨ox,od,m,I,hdx,hm,L,h1,h2⟩:=S.inst hi hd;obtain⟨v,hv,r⟩:=h1 _ _ hn;obtain⟨cd,hcd,hhas⟩:=F.cd;refine get_value (od:=some od) (v:=v) S.stat I F.ga ?_ (handed_rp r) ?_
 ·unfold findObj;refine rz (hcd ..) <| rz (Option.bind_some ..) <| rz (hc ..) <| rz (Option.bind_some ..) ?_
  simp only[Option.bind_some];unfold PySem.W.ownOf;refine rz (hhas ..) <| rz (if_pos rfl ..) ?_
  dsimp only;refine rz (L name ..) <| rz (hv ..) ?_
  rfl
 ·exact k v _ ((S.toks _).push r)
theorem obj_put{P:Addr→Prop}{h':Heap}{d:PyData}{v:Value}{m:Str→Option Value}(nd:(ρ.map (·.1)).Nodup)(hl:ρ.length≤64)(U:Put name (some d) ρ ρ')(h1:∀ y d,(y,some d)∈ρ→∃ v,m y=some v∧Rp P h' v d)(h2:∀ y,(∀ d,(y,some d)∉ρ)→m y=none)
  (hv:Rp P h' v d)(hn:h'.Ns1 dx (fun y=>if y=name then some v else m y)):OwnAt P h' dx (.obj ρ'):=by
 refine⟨by refine rz (U.keys ..) <| nd,?_,_,hn,fun y e hy=>?_,fun y hy=>?_⟩
 ·have:=congrArg List.length U.keys;rw[length_map,length_map] at this;refine rz (this ..) <| hl
 ·rcases U.cases nd _ hy with q | ⟨q,ne⟩
  ·obtain⟨e1,e2⟩:=Prod.mk.inj q;have e1:y=name:=e1;have e2:some e=some d:=e2;cases e2;exact⟨v,if_pos e1,hv⟩
  ·obtain⟨u,e1,e2⟩:=h1 y e q;exact⟨u,by refine rz (Eq.symm (e1 ..)) <| if_neg ne,e2⟩
 ·have ne:y≠name:=by
   rintro rfl;exact hy d U.mem
  show(if y=name then some v else m y)=none
  refine rz (if_neg ne ..) <| h2 y fun d' hd'=>?_
  exact hy d' (U.rest ne hd')
inductive SetF(K:Frag)(C:Addr):Prop
 |mk(cd:ClassData)(hcd:clsIn K C=some cd)(hh:cd.hasDict=true)(ne:cd.mro.isEmpty=false)(ho:cd.mro.contains (.type "object")=true)(hp:∀ self,refuseLoop self "__setattr__" cd.mro=pure ())
theorem refuse_list(self:Value):refuseLoop self "__setattr__" [.type "list",.type "object"]=pure ():=by kernel_rfl
theorem KOk.setF{K:Frag}(H:KOk K){C:Addr}{ga ms as} (h:(C,ga,ms,as)∈clTab):SetF K C:=by
 obtain⟨⟨cd,hcd,hh⟩,_⟩:=(H.clF h).1;obtain⟨m1,m2,m3⟩:=H.mro;have key:∀ l,(clsIn K C).map (·.mro)=some l→cd.mro=l:=fun l e=>by rw[hcd] at e;exact Option.some.inj e
 unfold clTab at h;simp only[mem_cons,Prod.mk.injEq,not_mem_nil,or_false] at h
 rcases h with ⟨rfl,_⟩ | ⟨rfl,_⟩ | ⟨rfl,_⟩
 ·have e:=key _ m1;exact⟨cd,hcd,hh,by refine rz (e ..) ?_;rfl,by refine rz (e ..) ?_;rfl,fun self=>by refine rz (e ..) <| rz (refuseLoop_ref ..) <| refuse_list self⟩
 ·have e:=key _ m2;exact⟨cd,hcd,hh,by refine rz (e ..) ?_;rfl,by refine rz (e ..) ?_;rfl,fun self=>by refine rz (e ..) <| rz (refuseLoop_ref ..) <| PySem.F.store_object.passes self⟩
 ·have e:=key _ m3;exact⟨cd,hcd,hh,by refine rz (e ..) ?_;rfl,by refine rz (e ..) ?_;rfl,fun self=>by refine rz (e ..) <| rz (refuseLoop_ref ..) <| PySem.F.store_object.passes self⟩
theorem g_setattr{v:Value}{d:PyData}{Q:Unit→Shared→Prop}(S:St c X T s)(hi:HasIns X x dx C)(U:Ups dx (.obj ρ) (.obj ρ') X X')(P:Put name (some d) ρ ρ')(hv:Rp (ban c X) s.heap v d){ga:String}(F:ClF c.K C ga)(G:SetF c.K C)(hc:findIn c.K (.ref C) name=some none)
  (k:∀ s',St c X' T s'→Q () s'):wpAny (model prog w) A (setAttr (.ref x) name v) Q E s:=by
 obtain⟨ox,od,m,I,hdx,hm,L,h1,h2⟩:=S.inst hi U.mem;obtain⟨nd,hl,_⟩:=S.own _ U.mem;obtain⟨cd,hcd,hhas,ne,ho,hpass⟩:=G;refine set_plain S.stat I F.sa ?_;have X:=S.stat;have SF:=PySem.F.store_object;have sub:Looks (model prog w) s.heap (isInstance (.ref x) (.type "object")) true:=I.type.andThen (looks_mroIn X (by unfold mroIn;refine rz (hcd ..) <| rz (Option.bind_some ..) <| rz (if_neg (by rw[ne];decide) ..) <| rz (ho ..) rfl))
 refine codeAny_call_builtin SF.slot.plain SF.entry (@check_slot (model prog w) _ _ { s with toks:=s.toks+1 } "object.__setattr__" "object" "__setattr__" (.ref x) [.str name s.toks,v] [] _ SF.kind SF.split sub (SF.args (.ref x) (.str name s.toks) v) ?_)
 have hmro:Looks (model prog w) s.heap (mroOf (.ref C)) cd.mro:=(looks_clsIn X hcd).andThen .now;refine rz (osa_eq ..) <| rz (refuse_eq ..) ?_
 have tk:Looks (model prog w) s.heap (storeTaker? none) none:=Looks.now;refine wpAny_bind (wpAny_bind (I.type.here (s:={ s with toks:=s.toks+1 }) (wpAny_bind (hmro.here (s:={ s with toks:=s.toks+1 }) ?_))))
 refine rz (hpass ..) <| wpAny_pure (wpAny_bind (I.type.here (s:={ s with toks:=s.toks+1 }) (wpAny_bind ((looks_findIn X hc).here (s:={ s with toks:=s.toks+1 }) (wpAny_bind (tk.here (s:={ s with toks:=s.toks+1 }) ?_))))))
 obtain⟨hx,hcl,hn,-⟩:=I;obtain⟨oc,odi,oda,osl⟩:=ox;dsimp only at hcl hdx
 subst hcl hdx;refine wpAny_bind (wpAny_pure (wpAny_bind (wpAny_bind (wpAny_loadPart (s:={ s with toks:=s.toks+1 }) hx (wpAny_bind ((looks_clsIn X hcd).here (s:={ s with toks:=s.toks+1 }) ?_))))))
 refine rz (hhas ..) <| wpAny_pure (a:=some dx) (wpAny_bind (wpAny_pure (wpAny_bind ?_)))
 refine wpAny_nsSet1 hm fun h' hn' hs=>?_
 have bd:Within (fun y=>if y=name then some v else m y) (ρ'.map (·.1)):=fun y hy=>by
  by_cases e:y=name
  ·refine rz (e ..) <| List.mem_map.mpr ⟨_,P.mem,rfl⟩
  ·have hy:m y≠none:=fun q=>hy (by show(if y=name then some v else m y)=none;refine rz (if_neg e ..) <| q)
   refine rz (P.keys ..) ?_
   by_cases q:∃ d,(y,some d)∈ρ
   ·obtain⟨d,q⟩:=q;exact List.mem_map.mpr ⟨_,q,rfl⟩
   ·exact absurd (h2 y fun d z=>q ⟨d,z⟩) hy
 obtain⟨oD,esD,epD,hoD,hdD,hcD⟩:=hn'.count bd;have hl':(ρ'.map (·.1)).length≤64:=by refine rz (P.keys ..) <| rz (length_map ..) <| hl
 refine wpAny_bind (wpAny_lookBehind hoD (rz (hdD ..) <| pastItsLine_dict (rz (sizeLine_eq ..) <| (ar [_,_] Aa (.a Aq Ad) (.c 1 Aa Ab (.c 1 Ab (.n 64) .z)) 0 rfl hcD hl'))) ?_)
 refine wpAny_pure (k { s with heap:=h',toks:=s.toks+1+1 } ?_)
 have hk:∀ b o,b≠dx→s.heap.get? b=some o→h'.get? b=some o:=fun b o ne e=>hs.extBut b o ne e
 refine S.upd U hk S.gens rfl ?_;refine obj_put (m:=m) nd hl P (fun y e hy=>?_) h2 (S.rpUps U hk hv) hn'
 obtain⟨u,e1,e2⟩:=h1 y e hy;exact⟨u,e1,S.rpUps U hk e2⟩
end
end Mine
end
namespace Mine
noncomputable abbrev subL(C dx:Addr)(items:Array Value)(n:Nat):Obj:={ cls:=.ref C,dict:=some dx,data:=.seq items n,slots:=#[] }
theorem sub_append(l C dx:Addr)(items:Array Value)(n:Nat)(x:Value)(hsz:items.size≤sizeLine) :
  Meets (Builtin.«list.append» ⟨[.ref l,x],[]⟩) (fun V R s=>s.heap.get? l=some (subL C dx items n)∧R (.ok (.ret Value.none)) { s with heap:=s.heap.update l (Obj.mapSeq fun y=>y.push x),toks:=s.toks }) :=
 .of_wp fun prog w A R s h=>by
  obtain⟨hp,g,d,tk,os⟩:=s;obtain⟨hl,h⟩:=h;have hz':(items.push x).size≤sizeLine+1:=by refine rz (Array.size_push ..) <| (succ_le_succ hsz)
  wp_walk using (wpAny_updateSeq hl rfl (hz:=hsz) (_hz':=hz'));exact⟨_,rfl,h⟩
theorem sub_pop(l C dx:Addr)(items:Array Value)(n:Nat)(y:Value)(hy:items[items.size-1]?=some y)(hs1:items.size≤sizeLine) :
  Meets (Builtin.«list.pop» ⟨[.ref l],[]⟩) (fun V R s=>s.heap.get? l=some (subL C dx items n)∧R (.ok (.ret y)) { s with heap:=s.heap.update l (Obj.mapSeq fun xs=>xs.eraseIdxIfInBounds (items.size-1)) }) :=
 .of_wp fun prog w A R s h=>by
  obtain⟨hp,g,d,tk,os⟩:=s;obtain⟨hl,h⟩:=h;have hpos:0<items.size:=by
   have:=(Array.getElem?_eq_some_iff.mp hy).1;exact(ar [_,_] (.a Al Ad) Ab (.c 1 (.a Aa Ad) Ab .z) 0 rfl this)
  have hne:¬ items.isEmpty=true:=by
   intro he;have:items.size=0:=by simpa using he
   exact(not_succ_le_zero 0 (not_succ_le_zero 0 (ar [_] Ad Al (.c 1 (.a Al Ad) Aa (.c 1 Aa Al .z)) 0 rfl hpos (le_of_eq this))).elim)
  have hk:seqIndex? (-1) items.size=some (items.size-1):=by simp[seqIndex?];exact⟨⟨(ai [_] [] Aj (.a As (.c Aa)) (.c 1 (.a Al Ad) Aa .z) 0 rfl hpos),(ai [_] [] (.a (.a As (.c Aa)) Ah) (.c Aa) .z 0 rfl)⟩,(le_antisymm (an [_,_,_] [] Ag Ab (.c 1 Aa (.a Ab Ad) (.i 1 (.c Ag) (.a As (.c Aa)) .z)) 0 rfl (le_sa ..) (Int.le_of_eq (toNat_of_nonneg (ai [_] [] Aj (.a As (.c Aa)) (.c 1 (.a Al Ad) Aa .z) 0 rfl hpos)))) (an [_,_,_] [] Ag Ab (.i 1 (.a As (.c Aa)) (.c Ab) (.c 1 (.a Ag Ad) Aa .z)) 0 rfl (self_le_toNat _) (le_of_eq (sub_add_cancel (ar [_] Ad Aa (.c 1 (.a Al Ad) Aa .z) 0 rfl hpos)))))⟩
  have hz':(items.eraseIdxIfInBounds (items.size-1)).size≤sizeLine+1:=le_trans (PySem.MeetsSeq.size_erased items _) (le_succ_of_le hs1)
  wp_walk
  simp only[hk,hy,Option.bind_some,Option.map_some]
  wp_walk using (wpAny_updateSeq hl rfl (hz:=hs1) (_hz':=hz'))
  exact⟨_,rfl,h⟩
theorem sub_len(l C dx:Addr)(items:Array Value)(n:Nat) :
  Meets (Builtin.«list.__len__» ⟨[.ref l],[]⟩) (fun V R s=>s.heap.get? l=some (subL C dx items n)∧R (.ok (.ret (Value.int (((items.size:Nat):Int)) s.toks))) { s with heap:=s.heap,toks:=s.toks+1 }) :=
 .of_wp fun prog w A R s h=>by obtain⟨hp,g,d,tk,os⟩:=s;obtain⟨hl,h⟩:=h;wp_walk;exact⟨_,rfl,h⟩
theorem sub_iter(l C dx:Addr)(items:Array Value)(n:Nat) :
  Meets (Builtin.«list.__iter__» ⟨[.ref l],[]⟩) (fun V R s=>s.heap.get? l=some (subL C dx items n)∧R (.ok (.ret (Value.ref s.heap.objs.size))) { s with heap:=s.heap.push { cls:=Value.type "list_iterator",data:=Data.fields #[Value.ref l,rawInt 0] },toks:=s.toks }) :=
 .of_wp fun prog w A R s h=>by obtain⟨hp,g,d,tk,os⟩:=s;obtain⟨hl,h⟩:=h;wp_walk;exact⟨_,rfl,h⟩
theorem sub_init(l C dx:Addr)(n:Nat) :
  Meets (Builtin.«list.__init__» ⟨[.ref l],[]⟩) (fun V R s=>s.heap.get? l=some (subL C dx #[] n)∧R (.ok (.ret Value.none)) { s with heap:=s.heap.update l (Obj.mapSeq fun V=>#[]),toks:=s.toks }) :=
 .of_wp fun prog w A R s h=>by
  obtain⟨hp,g,d,tk,os⟩:=s;obtain⟨hl,h⟩:=h
  wp_walk using (wpAny_updateSeq hl rfl (hz:=by simp) (_hz':=by simp));exact⟨_,rfl,h⟩
theorem check_sub{M:Model}{A:Around}{E:VP}{s:Shared}{i owner n:String}{self:Value}{rest:List Value}{Q:Unit→Shared→Prop}
  (hk:builtinKind i=some .slot∨builtinKind i=some .method)(hs:splitId i=some (owner,n))(hi:Looks M s.heap (isInstance self (.type owner)) true)(ha:argsOk i ⟨self::rest,[]⟩)(q:Q () s) :
  wpAny M A (checkBuiltinCall i ⟨self::rest,[]⟩) Q E s:=by
 rcases hk with hk | hk<;>(
  simp only[checkBuiltinCall,hk,hs];refine wpAny_bind (hi.here ?_);simp only[Bool.not_true,Bool.false_eq_true,if_false];cases hsig:Manifest.signature? i with
  |none=>exact wpAny_pure q
  |some sig =>
   simp only[argsOk,hsig] at ha;have h2:Bind.checkArgs i sig ⟨self::rest,[]⟩=pure ():=ha
   show wpAny M A (Bind.checkArgs i sig ⟨self::rest,[]⟩) Q E s
   refine rz (h2 ..) <| wpAny_pure q)
theorem call_sub{prog:Program}{w:World}{A:Around}{E:VP}{s:Shared}{id n:String}{B:Builtin}{x:Value}{rest:List Value}{S:PySem.Spec}{Q:VP}
  (hk:builtinKind id=some .slot∨builtinKind id=some .method)(hs:splitId id=some ("list",n))(plain:plainId id=true)(entry:entryFor table id=some B)(args:argsOk id ⟨x::rest,[]⟩)
  (hi:Looks (model prog w) s.heap (isInstance x (.type "list")) true)(g:Meets (B ⟨x::rest,[]⟩) S)(h:S A (wants Q E) s):wpAny (model prog w) A (call (.builtin id) (x::rest)) Q E s :=
 wpAny_call (codeAny_call_builtin plain entry (check_sub hk hs hi args (g prog w A (wants Q E) s h)))
section
variable{prog:Program}{w:World}{A:Around}{E:VP}{c:Cx}{X X':Xs}{T:Ts}{s:Shared}{x dx C:Addr}{ds:Lp}{Q:VP}
theorem Rps.left{P:Addr→Prop}{h:Heap}{vs ws:List Value}{ds es:Lp}(H:Rps P h (vs++ws) (ds++es))(e:vs.length=ds.length):Rps P h vs ds:=by
 have:=H.take vs.length
 rwa [take_left,e,take_left] at this
def SubF(K:Frag)(C:Addr):Prop:=mroIn K C (.type "list")=some true
theorem KOk.subF{K:Frag}(H:KOk K):SubF K 101:=by
 obtain⟨cd,hcd,e⟩:=Option.map_eq_some_iff.mp H.mro.1;unfold SubF mroIn;refine rz (hcd ..) <| rz (Option.bind_some ..) <| rz (e ..) ?_
 rfl
theorem is_list{h:Heap}{M:Model}{o:Obj}(X:c.K.In h)(F:SubF c.K C)(hx:h.get? x=some o)(hc:o.cls=.ref C):Looks M h (isInstance (.ref x) (.type "list")) true :=
 Looks.andThen (a:=.ref C) (hc▸(Looks.ld hx).andThen .now) (looks_mroIn X F)
theorem a_append{v:Value}{d:PyData}(S:St c X T s)(F:SubF c.K C)(hv:Rp (ban c X) s.heap v d)(U:Ups x (.seq (.ref C) (some dx) ds) (.seq (.ref C) (some dx) (ds++[d])) X X')
  (hsz:ds.length≤sizeLine)(k:∀ s',St c X' T s'→Q .none s'):wpAny (model prog w) A (call (.builtin "list.append") [.ref x,v]) Q E s:=by
 obtain⟨vs,n,ho,hr⟩:=S.own _ U.mem;have hlen:vs.size≤sizeLine:=by have:=hr.length;simp at this;exact(le_trans (le_of_eq this) hsz)
 refine call_sub (n := "append") (.inr (by decide +kernel)) (by decide +kernel) PySem.F.slot_list_append.plain PySem.F.entry_list_append (PySem.F.args_list_append_2 _ _) (is_list S.stat F ho rfl) (sub_append x C dx vs n v hlen) ⟨ho,k _ ?_⟩
 have hk:∀ b o,b≠x→s.heap.get? b=some o→(s.heap.update x (Obj.mapSeq fun y=>y.push v)).get? b=some o:=fun b o ne e=>(Heap.get?_update_other _ _ (Ne.symm ne)).trans e
 refine S.step (t:=s.toks) U hk ⟨_,_,Heap.get?_update_self _ ho rfl,?_⟩;have:Rps (ban c X') (s.heap.update x (Obj.mapSeq fun y=>y.push v)) (vs.toList++[v]) (ds++[d]):=(hr.mono (fun b o V q=>by unfold ban at q⊢;rw[U.keys] at q;exact q) (fun b o n e=>hk b o (fun q=>n (q▸.inr (List.mem_map.mpr ⟨_,U.mem,rfl⟩))) e)).append (.cons (S.rpUps U hk hv) .nil)
 simpa using this
end
end Mine
section
open Builtin Builtin.ObjectAttr
namespace Mine
theorem made_weight(C:Addr)(vs:List Value)(kw:List (Str × Value)):(Code.builtin "type.__call__" ⟨.ref C::vs,kw⟩).weight=1:=by
 unfold Code.weight;refine rz (show(Code.builtin "type.__call__" ⟨.ref C::vs,kw⟩).frames=0 by kernel_rfl) <| rz (show(Code.builtin "type.__call__" ⟨.ref C::vs,kw⟩).isCreation=true by kernel_rfl) <| rz (show(Code.builtin "type.__call__" ⟨.ref C::vs,kw⟩).isGuard=false by kernel_rfl) <| rz (show(Code.builtin "type.__call__" ⟨.ref C::vs,kw⟩).isCaller=false by kernel_rfl) ?_
 rfl
theorem OkA.made{n:Nat}{A:Around}(H:OkA (n+1) A){C:Addr}{vs:List Value}{kw:List (Str × Value)}:OkA n (A.under (.builtin "type.__call__" ⟨.ref C::vs,kw⟩)):=by
 obtain⟨h,d,u,⟨l,f⟩,⟨g,hg⟩⟩:=H;have e1:(Code.builtin "type.__call__" ⟨.ref C::vs,kw⟩).envs=[]:=by
  unfold Code.envs;refine rz (show(Code.builtin "type.__call__" ⟨.ref C::vs,kw⟩).isFrame=false by kernel_rfl) ?_
  rfl
 have e2:(Code.builtin "type.__call__" ⟨.ref C::vs,kw⟩).guards=[]:=by
  unfold Code.guards;refine rz (show(Code.builtin "type.__call__" ⟨.ref C::vs,kw⟩).isGuard=false by kernel_rfl) ?_
  rfl
 have e3:(Code.builtin "type.__call__" ⟨.ref C::vs,kw⟩).cUnits=1:=by
  show 1+3*(Code.builtin "type.__call__" ⟨.ref C::vs,kw⟩).frames=1
  exact rz (show(Code.builtin "type.__call__" ⟨.ref C::vs,kw⟩).frames=0 by kernel_rfl) rfl
 refine⟨h,?_,?_,⟨l,?_⟩,⟨g,?_⟩⟩
 ·show A.depth+(Code.builtin "type.__call__" ⟨.ref C::vs,kw⟩).weight+n≤900
  refine rz (made_weight ..) <| (ar [_,_] (.a (.a Aa Ad) Ab) (.n 900) (.c 1 (.a Aa (.a Ab Ad)) (.n 900) .z) 0 rfl d)
 ·show A.units+(Code.builtin "type.__call__" ⟨.ref C::vs,kw⟩).cUnits+100*n≤9000
  refine rz (e3 ..) <| (ar [_,_] (.a (.a Aa Ad) (.m 100 Ab)) (.n 9000) (.c 1 (.a Aa (.m 100 (.a Ab Ad))) (.n 9000) .z) 0 rfl u)
 ·show pushEnvs (Code.builtin "type.__call__" ⟨.ref C::vs,kw⟩).envs A.frames=some l
  refine rz (e1 ..) <| f
 ·show pushGuards (Code.builtin "type.__call__" ⟨.ref C::vs,kw⟩).guards A.guards=some g
  refine rz (e2 ..) <| hg
section
variable{prog:Program}{w:World}{A:Around}{E:VP}{c:Cx}{X X':Xs}{T:Ts}{s:Shared}{x dx C:Addr}{ρ ρ':Od}{name:Str}{env:Env}{Q:VP}
theorem m_call{o:Expr}{apos pos:Pos}{args:List Expr}
  (h:wpAny (model prog w) A (eval o env) (fun ov s₁=>wpAny (model prog w) A (getMethod ov name (do return (← importBound o env).getD true)) (fun fx s₂=>wpAny (model prog w) A (callWith pos fx.1 fx.2 (backTo pos (starEach args env)) []) Q E s₂) E s₁) E s)
  (hbase:attributeBase o name env (eval o env)=eval o env)
  (hfew:((backTo pos (starEach args env)).all (fun x=>!x.1)&&(backToKw pos (keywordEach [] env)).all (fun x=>x.1.isSome)&&decide (args.length+([]:List Keyword).length+(if ([]:List Keyword).isEmpty then 0 else 1)<30))=true)
  (hline:(apos.endLine == pos.line)=true):wpAny (model prog w) A (eval (.Call (.Attribute o name apos) args [] pos) env) Q E s:=by
 refine rz (arm_eval_Call ..) <| rz (hbase ..) <| wpAny_bind (wpAny_mono h (fun ov s₁ h₁=>?_) fun V V e=>e)
 refine wpAny_bind (wpAny_standAt ?_);have hform:methodCallForm (args.length+([]:List Keyword).length) (backTo pos (starEach args env)) (backToKw pos (keywordEach [] env))=true:=hfew;have hpos:methodCallPos true o env apos pos=pure pos:=by unfold methodCallPos;simp[hline]
 unfold methodCall;refine rz (hform ..) <| wpAny_bind (wpAny_holding (wpAny_mono h₁ (fun fx s₂ h₂=>?_) fun V V e=>e))
 exact wpAny_bind (wpAny_of_eq hpos h₂)
theorem g_meth{ga:String}{f:Value}{tf:Value}{pl:Sem Bool}{Q:Value × List Value→Shared→Prop}(S:St c X T s)(hi:HasIns X x dx C)(hd:(dx,Knd.obj ρ)∈X)(hn:∀ d,(name,some d)∉ρ)(F:ClF c.K C ga)(hcan:(Manifest.canonical ga != "object.__getattribute__")=false)
  (hf:findIn c.K (.ref C) name=some (some f))(ht:typeIn c.K f=some tf)(htf:(tf != .type "function" && tf != .type "method_descriptor" && tf != .type "wrapper_descriptor")=false)(h:Q (f,[.ref x]) s):wpAny (model prog w) A (getMethod (.ref x) name pl) Q E s:=by
 obtain⟨ox,od,m,I,hdx,hm,L,h1,h2⟩:=S.inst hi hd;have X:=S.stat;have hnone:=h2 name hn;unfold getMethod specialOf;refine wpAny_bind (wpAny_bind (I.type.here ((looks_findIn X F.ga).here ?_)));dsimp only;refine rz (hcan ..) <| rz (if_neg Bool.false_ne_true ..) <| wpAny_bind (wpAny_bind (I.type.here ((looks_findIn X F.gt).here ?_)))
 refine wpAny_bind (wpAny_bind (I.type.here ((looks_findIn X hf).here (wpAny_bind ((looks_typeIn X ht).here ?_)))));refine rz (htf ..) <| rz (if_neg Bool.false_ne_true ..) <| wpAny_bind (wpAny_loadPart I.at_ ?_)
 refine rz (hdx ..) <| wpAny_bind (wpAny_nsGet hm.ns ?_)
 refine rz (hnone ..) <| wpAny_bind (wpAny_rule (wpAny_pure h))
theorem c_first{f:Addr}{v:Value}{pos:Pos}{e:Expr}{rest:List Expr}(S:St c X T s)(hk:keepIn c.K (.ref f)=true)
  (h:wpAny (model prog w) A (spliced (backTo pos (starEach (e::rest) env))) (fun vs s₁=>(∃ X T,St c X T s₁)∧wpAny (model prog w) A (call (.ref f) (v::vs)) Q E s₁) E s)
  (he:starEach (e::rest) env=(false,eval e env)::starEach rest env)(hplain:(backTo pos (starEach rest env)).any (·.1)=false) :
  wpAny (model prog w) A (callWith pos (.ref f) [v] (backTo pos (starEach (e::rest) env)) []) Q E s :=
 callWith_K (first:=[v]) S.stat hk (wpAny_mono h (fun vs s₁ h₁=>by obtain⟨⟨X,T,S'⟩,h₂⟩:=h₁;exact⟨S'.stat,h₂⟩) fun V V e=>e) he hplain
theorem c_first0{f:Addr}{v:Value}{pos:Pos}(S:St c X T s)(hk:keepIn c.K (.ref f)=true)(h:wpAny (model prog w) A (call (.ref f) [v]) Q E s):wpAny (model prog w) A (callWith pos (.ref f) [v] (backTo pos (starEach [] env)) []) Q E s :=
 callWith_K0 (first:=[v]) S.stat hk h
theorem St.make(S:St c X T s)(h0:∀ p∈ρ,p.2=none)(nd:(ρ.map (·.1)).Nodup)(hl:ρ.length≤64):St c ((s.heap.objs.size+1,Ins C s.heap.objs.size)::(s.heap.objs.size,.obj ρ)::X) T { s with heap:=(s.heap.push emptyDict).push (instObj C s.heap.objs.size) }:=by
 have S1:St c ((s.heap.objs.size,.obj ρ)::X) T { s with heap:=s.heap.push emptyDict,toks:=s.toks }:=S.own_push (o:=emptyDict) (k:=.obj ρ) ⟨nd,hl,fun V=>none,Heap.Ns1.of_empty (Heap.Ns.new s.heap (.type "dict")),fun x d h=>(by have:=h0 _ h;cases this),fun V V=>rfl⟩
 have S2:=S1.own_push (o:=instObj C s.heap.objs.size) (k:=Ins C s.heap.objs.size) (t:=s.toks) ⟨_,Heap.get?_push_size _ rfl,rfl⟩
 rwa [show({ s with heap:=s.heap.push emptyDict,toks:=s.toks }:Shared).heap.objs.size=s.heap.objs.size+1 from Heap.size_push ..] at S2
theorem r_make{K:Frag}{n:Nat}{fI:Addr}{vs:List Value}{ds:Lp}{ρ1:Od}(oA:OkA (n+1) A)(hK:c.K=K)(hm:makesIn c.K C=true)(hi:findIn c.K (.ref C) "__init__" = some (some (.ref fI)))(hf:typeIn c.K (.ref fI)=some (.type "function"))
  (h0:∀ p∈ρ,p.2=none)(nd:(ρ.map (·.1)).Nodup)(hl:ρ.length≤64)
  (F:∀ x dx,Fn prog w K n fI [(x,Ins C dx),(dx,.obj ρ)] (Rf x::ds) (fun d B'=>d=.none∧B'=[(x,Ins C dx),(dx,.obj ρ1)]))(S:St c X T s)(hv:Rps (ban c X) s.heap vs ds)
  (k:∀ x dx s',St c ((x,Ins C dx)::(dx,.obj ρ1)::X) T s'→Q (.ref x) s'):wpAny (model prog w) A (call (.ref C) vs) Q E s:=by
 have S2:=S.make (C:=C) h0 nd hl;obtain⟨hh,g,d,t,os⟩:=s;refine wpAny_call (make_core (makes_of S.stat hm) (looks_findIn S.stat hi) (fun self=>bind_fn S.stat self hf) (.inl rfl) ?_)
 refine F (hh.objs.size+1) hh.objs.size _ c X T _ _ _ oA.made hK S2 (.cons (.raw _) ?_) fun v d B' s' hp S'=>?_
 ·refine hv.mono (fun b o e q=>?_) fun b o V e=>Heap.get?_push_of_some _ (Heap.get?_push_of_some _ e)
  rcases q with q | q
  ·exact .inl q
  ·rcases List.mem_cons.mp q with rfl | q
   ·exact absurd (Heap.lt_size e) (Nat.not_lt.mpr (le_succ _))
   ·rcases List.mem_cons.mp q with rfl | q
    ·exact absurd (Heap.lt_size e) (lt_irrefl _)
    ·exact .inr q
 ·obtain⟨rfl,rfl⟩:=hp;have r:=S'.tmp _ (.head _);have e:v=.none:=by
   cases r with
   |none=>rfl
  refine⟨e,k _ hh.objs.size s' ?_⟩;exact S'.drop fun q hq=>.tail _ hq
end
end Mine
end
namespace Mine
noncomputable def D6:List Str:=["raw","n","nt","norm","is_simple"]
noncomputable def Dy:List Str:=["_initial_size"]
noncomputable def Ck:List Str:=["lineno","instream","whitespace","pushback"]
inductive Pull{α:Type}(p:α):List α→List α→Prop
 |here{l:List α}:Pull p (p::l) l
 |there{q:α}{l l':List α}:Pull p l l'→Pull p (q::l) (q::l')
theorem Pull.perm{α:Type}{p:α}{l l':List α}(h:Pull p l l'):l.Perm (p::l'):=by
 induction h with
 |here=>exact .refl _
 |there _ ih=>exact(ih.cons _).trans (.swap _ _ _)
theorem perm_pull{α:Type}{p:α}{l l' L:List α}(h:Pull p l l')(k:l'.Perm L):l.Perm (p::L):=h.perm.trans (k.cons p)
section
variable{prog:Program}{w:World}{A:Around}{E:VP}{c:Cx}{X X':Xs}{T:Ts}{s:Shared}{x dx C:Addr}{ρ ρ':Od}{name:Str}{env:Env}{Q:VP}
theorem KOk.ws{K:Frag}(H:KOk K):ClF K 209 "object.__getattribute__" ∧ SetF K 209∧∀ n∈D6,findIn K (.ref 209) n=some none :=
 have h:(209,"object.__getattribute__",_,_)∈clTab:=.tail _ (.tail _ (.head _))
 ⟨(H.clF h).1,H.setF h,(H.clF h).2.2⟩
theorem KOk.net{K:Frag}(H:KOk K):ClF K 143 "object.__getattribute__" ∧ SetF K 143∧∀ n∈Ck,findIn K (.ref 143) n=some none :=
 have h:(143,"object.__getattribute__",_,_)∈clTab:=.tail _ (.head _)
 ⟨(H.clF h).1,H.setF h,(H.clF h).2.2⟩
theorem g_ws{d:PyData}{b:Bool}(H:KOk c.K)(S:St c X T s)(hi:(x,Ins 209 dx)∈X)(hd:(dx,Knd.obj ρ)∈X)(hn:(name,some d)∈ρ)(hw:name∈D6)(k:Kon c X T d Q):wpAny (model prog w) A (getAttr (.ref x) name b) Q E s :=
 g_attr S (.inl hi) hd hn H.ws.1 (H.ws.2.2 _ hw) k
theorem g_net{d:PyData}{b:Bool}(H:KOk c.K)(S:St c X T s)(hi:(x,Ins 143 dx)∈X)(hd:(dx,Knd.obj ρ)∈X)(hn:(name,some d)∈ρ)(hw:name∈Ck)(k:Kon c X T d Q):wpAny (model prog w) A (getAttr (.ref x) name b) Q E s :=
 g_attr S (.inl hi) hd hn H.net.1 (H.net.2.2 _ hw) k
theorem s_ws{v:Value}{d:PyData}{Q:Unit→Shared→Prop}(H:KOk c.K)(S:St c X T s)(hi:(x,Ins 209 dx)∈X)(hv:Rp (ban c X) s.heap v d)(U:Ups dx (.obj ρ) (.obj ρ') X X')(P:Put name (some d) ρ ρ')(hw:name∈D6)(k:∀ s',St c X' T s'→Q () s') :
  wpAny (model prog w) A (setAttr (.ref x) name v) Q E s:=g_setattr S (.inl hi) U P hv H.ws.1 H.ws.2.1 (H.ws.2.2 _ hw) k
theorem s_net{v:Value}{d:PyData}{Q:Unit→Shared→Prop}(H:KOk c.K)(S:St c X T s)(hi:(x,Ins 143 dx)∈X)(hv:Rp (ban c X) s.heap v d)(U:Ups dx (.obj ρ) (.obj ρ') X X')(P:Put name (some d) ρ ρ')(hw:name∈Ck)(k:∀ s',St c X' T s'→Q () s') :
  wpAny (model prog w) A (setAttr (.ref x) name v) Q E s:=g_setattr S (.inl hi) U P hv H.net.1 H.net.2.1 (H.net.2.2 _ hw) k
theorem g_wsm{f:Addr}{pl:Sem Bool}{Q:Value × List Value→Shared→Prop}(H:KOk c.K)(S:St c X T s)(hi:(x,Ins 209 dx)∈X)(hd:(dx,Knd.obj ρ)∈X)(hm:(name,f)∈[(("__init__" : Str),164),("longest_run_of_spaces",171),("indent_level",178),("less",199)])(hk:ρ.map (·.1)=D6)(h:Q (.ref f,[.ref x]) s) :
  wpAny (model prog w) A (getMethod (.ref x) name pl) Q E s:=by
 have hn:∀ p∈([(("__init__" : Str),164),("longest_run_of_spaces",171),("indent_level",178),("less",199)]:Ce),p.1∉D6:=by decide +kernel
 have hn:=hn _ hm;rw[← hk] at hn;have hc:(209,"object.__getattribute__",_,_)∈clTab:=.tail _ (.tail _ (.head _))
 obtain⟨F,hms,_⟩:=H.clF hc;obtain⟨h1,h2⟩:=hms _ hm;exact g_meth S (.inl hi) hd (fun d hd=>hn (List.mem_map.mpr ⟨_,hd,rfl⟩)) F (by decide +kernel) h1 h2 (by decide +kernel) h
theorem g_netm{f:Addr}{pl:Sem Bool}{Q:Value × List Value→Shared→Prop}(H:KOk c.K)(S:St c X T s)(hi:(x,Ins 143 dx)∈X)(hd:(dx,Knd.obj ρ)∈X)(hm:(name,f)∈[(("__init__" : Str),119),("_read_char",126),("get_token",133),("push_token",140)])(hk:ρ.map (·.1)=Ck)(h:Q (.ref f,[.ref x]) s) :
  wpAny (model prog w) A (getMethod (.ref x) name pl) Q E s:=by
 have hn:∀ p∈([(("__init__" : Str),119),("_read_char",126),("get_token",133),("push_token",140)]:Ce),p.1∉Ck:=by decide +kernel
 have hn:=hn _ hm;rw[← hk] at hn;have hc:(143,"object.__getattribute__",_,_)∈clTab:=.tail _ (.head _)
 obtain⟨F,hms,_⟩:=H.clF hc;obtain⟨h1,h2⟩:=hms _ hm;exact g_meth S (.inl hi) hd (fun d hd=>hn (List.mem_map.mpr ⟨_,hd,rfl⟩)) F (by decide +kernel) h1 h2 (by decide +kernel) h
theorem g_accm{f:Addr}{ds:Lp}{pl:Sem Bool}{Q:Value × List Value→Shared→Prop}(H:KOk c.K)(S:St c X T s)(hi:(x,Knd.seq (.ref 101) (some dx) ds)∈X)(hd:(dx,Knd.obj ρ)∈X)(hm:(name,f)∈[(("__init__" : Str),38),("push",45),("pop",61),("__str__",75),("part_count",98)])(hk:ρ.map (·.1)=Dy)(h:Q (.ref f,[.ref x]) s) :
  wpAny (model prog w) A (getMethod (.ref x) name pl) Q E s:=by
 have hn:∀ p∈([(("__init__" : Str),38),("push",45),("pop",61),("__str__",75),("part_count",98)]:Ce),p.1∉Dy:=by decide +kernel
 have hn:=hn _ hm;rw[← hk] at hn;have hc:(101,"list.__getattribute__",_,_)∈clTab:=.head _
 obtain⟨F,hms,_⟩:=H.clF hc;obtain⟨h1,h2⟩:=hms _ hm;exact g_meth S (.inr ⟨_,hi⟩) hd (fun d hd=>hn (List.mem_map.mpr ⟨_,hd,rfl⟩)) F (by decide +kernel) h1 h2 (by decide +kernel) h
theorem g_clsS{b:Bool}(H:KOk c.K)(S:St c X T s)(k:Kon c X T (.str " ") Q):wpAny (model prog w) A (getAttr (.ref 209) "S" b) Q E s:=by
 obtain⟨h1,h2,_⟩:=H.wc;obtain⟨t,h2⟩:=strAt_of h2;exact cls_value S.stat h1 h2 rfl (k _ _ ((S.toks _).push (.str _ _)))
theorem g_clsT{b:Bool}(H:KOk c.K)(S:St c X T s)(k:Kon c X T (.str "\t") Q):wpAny (model prog w) A (getAttr (.ref 209) "T" b) Q E s:=by
 obtain⟨h1,_,h2⟩:=H.wc;obtain⟨t,h2⟩:=strAt_of h2;exact cls_value S.stat h1 h2 rfl (k _ _ ((S.toks _).push (.str _ _)))
theorem x_setattr{o value:Expr}{attr:Str}{pos' pos:Pos}{rest:List Stmt}{Q:Flow→Shared→Prop}
  (h:wpAny (model prog w) A (eval value env) (fun v s₁=>wpAny (model prog w) A (eval o env) (fun ov s₂=>wpAny (model prog w) A (setAttr ov attr v) (fun V s₃=>wpAny (model prog w) A (execs rest env) Q E s₃) E s₂) E s₁) E s)
  (hs:swapsWith value (some (.Attribute o attr pos')) pos.line env=pure false):wpAny (model prog w) A (execs (.Assign [.Attribute o attr pos'] value pos::rest) env) Q E s :=
 Ci (plainObj_wpAny_Assign_Attribute (wpAny_mono h (fun V V h=>wpAny_mono h (fun V V h=>wpAny_mono h (fun V V h=>h) fun V V e=>e) fun V V e=>e) fun V V e=>e) hs)
theorem x_augattr{o value:Expr}{attr:Str}{op:Operator}{tpos pos:Pos}{rest:List Stmt}{Q:Flow→Shared→Prop}
  (h:wpAny (model prog w) A (eval o env) (fun ov s₁=>wpAny (model prog w) A (getAttr ov attr true) (fun old s₂=>wpAny (model prog w) A (eval value env) (fun v s₃=>wpAny (model prog w) A (inplaceOp op old v) (fun new s₄ =>
   wpAny (model prog w) A (setAttr ov attr new) (fun V s₅=>wpAny (model prog w) A (execs rest env) Q E s₅) E s₄) E s₃) E s₂) E s₁) E s) :
  wpAny (model prog w) A (execs (.AugAssign (.Attribute o attr tpos) op value pos::rest) env) Q E s :=
 Ci (wpAny_AugAssign_AttributeAny (wpAny_mono h (fun V V h=>wpAny_mono h (fun V V h=>wpAny_mono h (fun V V h=>wpAny_mono h (fun V V h=>wpAny_mono h (fun V V h=>h) fun V V e=>e) fun V V e=>e) fun V V e=>e) fun V V e=>e) fun V V e=>e))
theorem g_listm{id:String}{v:Value}{pl:Sem Bool}{Q:Value × List Value→Shared→Prop}(slot:Slot "list" name id)(hty:typeOf (.builtin id)=pure (.type "method_descriptor"))(hl:∃ a vs n,v=.ref a∧s.heap.get? a=some ⟨.type "list",none,.seq vs n,#[]⟩)(h:Q (.builtin id,[v]) s) :
  wpAny (model prog w) A (getMethod v name pl) Q E s:=by
 obtain⟨a,vs,n,rfl,ha⟩:=hl;exact getMethod_builtin ⟨_,ha,rfl⟩ PySem.F.plainAttrs_list slot hty (fun b e=>by cases e;exact⟨_,ha,rfl⟩) h
theorem g_strm{id:String}{x:Str}{t:Tok}{pl:Sem Bool}{Q:Value × List Value→Shared→Prop}(slot:Slot "str" name id)(hty:typeOf (.builtin id)=pure (.type "method_descriptor"))(h:Q (.builtin id,[.str x t]) s) :
  wpAny (model prog w) A (getMethod (.str x t) name pl) Q E s :=
 getMethod_builtin (typeIs_str s x t) PySem.F.plainAttrs_str slot hty (fun b e=>by cases e) h
theorem r_lenT{v:Value}{ds:Lp}(S:St c X T s)(hT:(v,PyData.tuple ds)∈T)(hz:ds.length≤1000000)(h:∀ t s',St c X T s'→Q (.int ds.length t) s'):wpAny (model prog w) A (call (.builtin "len") [v]) Q E s:=by
 obtain⟨a,vs,n,rfl,_,h1,h2⟩:=(S.tmp _ hT).tupleObj;have e:vs.size=ds.length:=by simpa using h2.length
 refine PyProof.Rows.len_tuple (items:=vs) ⟨_,h1,rfl,n,rfl⟩ (rz (e ..) <| (ai [_] [] (.a (.c Aa) Ah) Ak (.c 1 Aa Ap .z) 0 rfl hz)) ?_
 refine rz (e ..) <| h _ _ (S.toks _)
theorem r_itemT{α:Type}(emb:α→PyData){value slice:Expr}{v:Value}{xs:List α}{k:Nat}{u:Tok}{y:α}(S:St c X T s)(hT:(v,PyData.tuple (xs.map emb))∈T)(hx:xs[k]?=some y)(hz:xs.length≤1000000)(h:Kon c X T (emb y) Q)
  (hs:∀ a,subscripted slice false (.ref a) (.int (k:Nat) u)=operate [.ref a,.int (k:Nat) u] (getItem (.ref a) (.int (k:Nat) u))):wpAny (model prog w) A (subscriptTail value slice v (.int (k:Nat) u)) Q E s:=by
 obtain⟨a,vs,n,rfl,_,h1,h2⟩:=(S.tmp _ hT).tupleObj;have hk:=(List.getElem?_eq_some_iff.mp hx).1;have e:vs.size=xs.length:=by simpa using h2.length
 obtain⟨z,hz',r⟩:=h2.get (i:=k) (d:=emb y) (by refine rz (List.getElem?_map ..) <| rz (hx ..) ?_;rfl)
 have ht:IsTup s.heap a vs:=⟨_,h1,rfl,n,rfl⟩;exact tail_any ht.typeIs slot_tuple_getitem.lookup (getItem_tuple ht (ai [_] [] A0 (.c Aa) .z 0 rfl) (ai [_,_] [] (.a (.c Ab) Ah) Ak (.c 1 Aa Ap (.c 1 (.a Ab Ad) Aa .z)) 0 rfl hz hk) (j:=k) (x:=z) (rz (e ..) <| F6 hk) (by simpa using hz') (h.app S r)) (hs a)
theorem aa_names3{n1 n2 n3:Str}{p1 p2 p3:Pos}{v:Value}{Q:Unit→Shared→Prop}(h:wpAny (model prog w) A (storeName env n1 v) (fun V s₁=>wpAny (model prog w) A (storeName env n2 v) (fun V s₂=>wpAny (model prog w) A (storeName env n3 v) (fun V s₃=>Q () s₃) E s₂) E s₁) E s) :
  wpAny (model prog w) A (assignAll v ((assignEach [.Name n1 p1,.Name n2 p2,.Name n3 p3] env).map (·.2))) Q E s:=by
 show wpAny _ A (do holding [v] (assign (.Name n1 p1) env v);do holding [v] (assign (.Name n2 p2) env v);assign (.Name n3 p3) env v) Q E s
 refine wpAny_bind (wpAny_holding (wpAny_assign_Name (wpAny_mono h (fun V s₁ h₁=>?_) fun V V e=>e)))
 refine wpAny_bind (wpAny_holding (wpAny_assign_Name (wpAny_mono h₁ (fun V s₂ h₂=>?_) fun V V e=>e)))
 exact wpAny_assign_Name h₂
theorem tw_break{α:Type}{p:α→Bool}:∀ {l:List α}{i:Nat}{y:α},(∀ z∈l.take i,p z=true)→l[i]?=some y→p y=false→l.takeWhile p=l.take i
 |[],_,_,_,h,_=>by simp at h
 |a::l,0,y,_,h,hp=>by
  simp at h;subst h
  simp[hp]
 |a::l,i+1,y,h0,h,hp=>by
  have ha:p a=true:=h0 a (by simp)
  refine rz (List.takeWhile_cons_of_pos ha ..) <| rz (List.take_succ_cons ..) <| rz (tw_break (fun z hz=>h0 z (by rw[List.take_succ_cons];exact .tail _ hz)) (by simpa using h) hp ..) rfl
theorem tw_all{α:Type}{p:α→Bool}:∀ {l:List α},(∀ z∈l,p z=true)→l.takeWhile p=l
 |[],_=>rfl
 |a::l,h=>by refine rz (List.takeWhile_cons_of_pos (h a (.head _)) ..) <| rz (tw_all fun z hz=>h z (.tail _ hz) ..) rfl
theorem flat_one{d:PyData}:∀ k:Nat,(List.replicate k [d]).flatten=List.replicate k d
 |0=>rfl
 |k+1=>by refine rz (replicate_succ ..) <| rz (flatten_cons ..) <| rz (flat_one k ..) ?_;rfl
theorem r_keep{K:Frag}{n:Nat}{f:Addr}{B:Xs}{ds:Lp}{d₀:PyData}{vs:List Value}(oA:OkA n A)(hK:c.K=K)(F:Fn prog w K n f B ds fun d B'=>d=d₀∧B'=B)(S:St c X T s)(hp:∃ Y,X.Perm (B++Y))(hv:Rps (ban c X) s.heap vs ds)(k:Kon c X T d₀ Q) :
  wpAny (model prog w) A (call (.ref f) vs) Q E s:=by
 obtain⟨Y,hp⟩:=hp;have hb:∀ b,ban c (B++Y) b→ban c X b:=fun b h=>h.imp id fun h=>(hp.map (·.1)).mem_iff.mpr h
 refine r_fn oA hK F (S.perm hp) (hv.mono (fun b o e q=>hb b q) fun V V V e=>e) fun d B' h=>?_
 obtain⟨rfl,rfl⟩:=h;intro v s' S';exact k v s' (S'.perm hp.symm)
end
end Mine
section
open Builtin Builtin.ObjectAttr
namespace Mine
theorem fn_ga:Slot "function" "__getattribute__" "object.__getattribute__" := .of (owner := "object") (n := "__getattribute__") (by refine rz (typeLookup_type ..) <| rz (builtinLookup_eq_fast ..) ?_;kernel_rfl) (by decide +kernel) (by decide +kernel) (by decide +kernel) (by first | exact .inl (by decide +kernel) | exact .inr (by decide +kernel)) (by refine rz (isSubtype_type ..) ?_;kernel_rfl)
theorem fn_ga_entry:entryFor table "object.__getattribute__" = some Builtin.«object.__getattribute__»:=entryFor_of_tree (by kernel_rfl)
theorem fn_ga_args(a b:Value):argsOk "object.__getattribute__" ⟨[a,b],[]⟩:=by unfold argsOk;kernel_rfl
theorem fn_no_hook:typeLookup (.type "function") "__getattr__" = pure none:=by refine rz (typeLookup_type ..) <| rz (builtinLookup_eq_fast ..) ?_;kernel_rfl
theorem fn_no_read:typeLookup (.type "function") "read" = pure none:=by refine rz (typeLookup_type ..) <| rz (builtinLookup_eq_fast ..) ?_;kernel_rfl
theorem fn_sa:Slot "function" "__setattr__" "object.__setattr__" := .of (owner := "object") (n := "__setattr__") (by refine rz (typeLookup_type ..) <| rz (builtinLookup_eq_fast ..) ?_;kernel_rfl) (by decide +kernel) (by decide +kernel) (by decide +kernel) (by first | exact .inl (by decide +kernel) | exact .inr (by decide +kernel)) (by refine rz (isSubtype_type ..) ?_;kernel_rfl)
theorem fn_mro:mroOf (.type "function")=pure [.type "function",.type "object"]:=by refine rz (mroOf_type ..) ?_;kernel_rfl
theorem fn_refuse(self:Value):refuseLoop self "__setattr__" [.type "function",.type "object"]=pure ():=by kernel_rfl
theorem fn_canon:(Manifest.canonical "object.__getattribute__" != "object.__getattribute__")=false:=by decide +kernel
theorem fn_hasDict:typeHasDict (.type "function")=true:=by decide +kernel
section
variable{prog:Program}{w:World}{A:Around}{E:VP}{c:Cx}{X X':Xs}{T:Ts}{s:Shared}{a D:Addr}{ρ ρ':Od}{name:Str}{env:Env}{Q:VP}
theorem fn_get{o:Obj}{m:Str→Option Value}{v:Value}{b:Bool}(ha:s.heap.get? a=some o)(hc:o.cls=.type "function")(hf:∃ fd,o.data=.func fd)(hd:o.dict=some D)(hm:s.heap.Ns D m)(hv:m name=some v)(hn:typeLookup (.type "function") name=pure none)(hh:handedIn v=true)
  (h:Q v { s with toks:=s.toks+1 }):wpAny (model prog w) A (getAttr (.ref a) name b) Q E s:=by
 have hT:∀ t,({ s with toks:=t }:Shared).TypeIs (.ref a) "function" := fun t=>⟨_,ha,hc⟩
 obtain⟨fd,hfd⟩:=hf;unfold getAttr getAttrBy;refine wpAny_bind (wpAny_mkText (wpAny_holding (wpAny_bind (wpAny_typeOf (hT _) (wpAny_bind (wpAny_of_eq fn_ga.lookup ?_))))))
 show wpAny _ _ (getAttrByItsOwn (.ref a) (.str name s.toks) (.type "function") (.builtin "object.__getattribute__") true b) _ _ _
 unfold getAttrByItsOwn hookBefore callGetattribute;refine wpAny_bind (wpAny_of_eq (show(if onTheHeap (.type "function") then typeLookup (.type "function") "__getattr__" else pure none)=pure none from rfl) ?_)
 refine rz (show(b&&onTheHeap (.builtin "object.__getattribute__"))=false from Bool.and_false _) <| rz (if_neg Bool.false_ne_true ..) <| wpAny_bind (wpAny_attempt (wpAny_holding ?_))
 unfold boundAndCalled;refine wpAny_bind (wpAny_of_eq (fn_ga.bind _) ?_);refine wpAny_mono (Q:=fun r s'=>r=v∧s'={ s with toks:=s.toks+1 }) (E:=fun V V=>False) ?_ (fun r s' hr=>?_) fun V V z=>z.elim
 ·refine wpAny_call_entry fn_ga (hT _) fn_ga_entry ?_ (fn_ga_args _ _);unfold Builtin.«object.__getattribute__»;refine wpAny_bind (wpAny_pure (wpAny_bind (wpAny_pure (wpAny_bind (wpAny_typeOf (hT _) (wpAny_bind ?_))))));unfold find;refine wpAny_bind (wpAny_of_eq hn (wpAny_bind (wpAny_pure (wpAny_bind (wpAny_pure ?_)))));unfold ownThenClass;refine wpAny_bind (wpAny_bind ?_);unfold ObjectAttr.ownDict;refine wpAny_bind (wpAny_loadPart (s:={ s with toks:=s.toks+1 }) ha ?_)
  refine rz (hfd ..) ?_;unfold instanceDict;refine wpAny_bind (wpAny_loadPart (s:={ s with toks:=s.toks+1 }) ha ?_)
  refine rz (hc ..) <| rz (hd ..) <| wpAny_pure (a:=some D) (show wpAny _ _ (nsGet D name) _ _ _ from ?_)
  refine wpAny_nsGet (s:={ s with toks:=s.toks+1 }) hm ?_
  refine rz (hv ..) <| wpAny_bind (wpAny_rule (wpAny_pure (wpAny_pure ⟨_,rfl,rfl,rfl⟩)))
 ·obtain⟨rfl,rfl⟩:=hr
  show wpAny _ _ (handedOut r) _ _ _
  refine rz (handedOut_of hh ..) <| wpAny_pure h
noncomputable abbrev FnD(fd:FuncData)(D:Addr):Knd:=.is fun o=>o=⟨.type "function",some D,.func fd,#[]⟩
noncomputable abbrev FnN(fd:FuncData):Knd:=.is fun o=>o=⟨.type "function",none,.func fd,#[]⟩
theorem f_meth{fd:FuncData}{d:PyData}{pl:Sem Bool}{Q:Value × List Value→Shared→Prop}(S:St c X T s)(ha:(a,FnD fd D)∈X)(hd:(D,Knd.obj ρ)∈X)(hn:(name,some d)∈ρ)(hno:typeLookup (.type "function") name=pure none)(k:Kon c X T d (fun v s'=>Q (v,[]) s')) :
  wpAny (model prog w) A (getMethod (.ref a) name pl) Q E s:=by
 obtain⟨o,ho,rfl⟩:=S.own _ ha;obtain⟨_,_,m,hm,h1,h2⟩:=S.own _ hd;obtain⟨v,hv,r⟩:=h1 _ _ hn;have hT:s.TypeIs (.ref a) "function" := ⟨_,ho,rfl⟩;unfold getMethod;refine wpAny_bind (wpAny_specialOf hT fn_ga.lookup ?_);dsimp only;refine rz (fn_canon ..) <| rz (if_neg Bool.false_ne_true ..) <| wpAny_bind (wpAny_specialOf hT fn_no_hook (wpAny_bind (wpAny_specialOf hT hno ?_)))
 refine wpAny_bind (fn_get ho rfl ⟨fd,rfl⟩ rfl hm.ns hv hno (handed_rp r) ?_);exact wpAny_pure (k v _ ((S.toks _).push r))
theorem f_setattr{fd:FuncData}{v:Value}{d:PyData}{Q:Unit→Shared→Prop}(S:St c X T s)(U:Ups a (FnN fd) (FnD fd s.heap.objs.size) X X')(hv:Rp (ban c X) s.heap v d)(hno:typeLookup (.type "function") name=pure none)
  (k:∀ D s',St c ((D,.obj [(name,some d)])::X') T s'→X'=X'→D=s.heap.objs.size→Q () s'):wpAny (model prog w) A (setAttr (.ref a) name v) Q E s:=by
 obtain⟨o,ho,rfl⟩:=S.own _ U.mem;have hT:∀ t,({ s with toks:=t }:Shared).TypeIs (.ref a) "function" := fun t=>⟨_,ho,rfl⟩
 have SF:=PySem.F.store_object;unfold setAttr;refine wpAny_bind (wpAny_mkText ?_);refine wpAny_bind (wpAny_callSpecial?_slot (name:=Str.ofString "__setattr__") (hT _) fn_sa (wpAny_call_entry fn_sa (hT _) SF.entry ?_ (SF.args _ _ _)));refine rz (osa_eq ..) <| rz (refuse_eq ..) <| wpAny_bind (wpAny_bind (wpAny_typeOf (hT _) (wpAny_bind (wpAny_of_eq fn_mro ?_))))
 refine rz (fn_refuse ..) <| wpAny_pure (wpAny_bind (wpAny_typeOf (hT _) (wpAny_bind (wpAny_of_eq hno (wpAny_bind (wpAny_pure ?_))))))
 show wpAny _ _ (storeInOwnDict (.ref a) (.type "function") (.str name s.toks) name v false) _ _ _
 unfold storeInOwnDict;refine wpAny_bind (wpAny_pure ?_);refine rz (if_neg (by decide) ..) <| wpAny_bind ?_
 show wpAny _ _ (instanceDict a true) _ _ _
 unfold instanceDict;refine wpAny_bind (wpAny_loadPart (s:={ s with toks:=s.toks+1 }) ho ?_)
 dsimp only;refine rz (fn_hasDict ..) <| rz (if_neg (by decide) ..) ?_
 have S1:St c ((s.heap.objs.size,.obj [(name,none)])::X) T { s with heap:=s.heap.push emptyDict,toks:=s.toks+1 }:=S.own_push (o:=emptyDict) (k:=.obj [(name,none)]) ⟨by simp,by simp,fun V=>none,Heap.Ns1.of_empty (Heap.Ns.new s.heap (.type "dict")),fun x d h=>by simp at h,fun V V=>rfl⟩
 have ho1:(s.heap.push emptyDict).get? a=some ⟨.type "function",none,.func fd,#[]⟩:=Heap.get?_push_of_some _ ho;refine wpAny_bind (wpAny_alloc ?_);refine wpAny_bind (wpAny_update (s:={ s with heap:=s.heap.push emptyDict,toks:=s.toks+1 }) ho1 ?_)
 unfold dictMade;dsimp only;refine rz (show finalisedInACycleAlone "function" = false by decide +kernel) <| rz (if_neg Bool.false_ne_true ..) <| wpAny_pure (a:=some s.heap.objs.size) ?_
 have U1:Ups a (FnN fd) (FnD fd s.heap.objs.size) ((s.heap.objs.size,.obj [(name,none)])::X) ((s.heap.objs.size,.obj [(name,none)])::X'):=.there U;have S2:St c ((s.heap.objs.size,.obj [(name,none)])::X') T { s with heap:=(s.heap.push emptyDict).update a fun o=>{ o with dict:=some s.heap.objs.size },toks:=s.toks+1 } :=
  S1.upd U1 (fun b o ne e=>(Heap.get?_update_other _ _ (Ne.symm ne)).trans e) S1.gens rfl ⟨_,Heap.get?_update_self _ ho1 rfl,rfl⟩
 have hv1:Rp (ban c ((s.heap.objs.size,.obj [(name,none)])::X)) (s.heap.push emptyDict) v d:=S.rp_push hv;have hv2:=S1.rpUps U1 (h':=(s.heap.push emptyDict).update a fun o=>{ o with dict:=some s.heap.objs.size }) (fun b o ne e=>(Heap.get?_update_other _ _ (Ne.symm ne)).trans e) hv1
 obtain⟨nd,hl,m,hm,h1,h2⟩:=S2.own _ (.head _)
 show wpAny _ _ (storeInDict s.heap.objs.size (.str name s.toks) name v) _ _ _
 unfold storeInDict newKeyGuard;refine wpAny_bind (wpAny_pure (wpAny_bind (wpAny_nsSet1 hm fun h' hn' hs=>?_)))
 have bd:Within (fun y=>if y=name then some v else m y) [name]:=fun y hy=>by
  by_cases e:y=name
  ·refine rz (e ..) <| .head _
  ·have hy:m y≠none:=fun q=>hy (by show(if y=name then some v else m y)=none;refine rz (if_neg e ..) <| q)
   exact absurd (h2 y fun d z=>by simp at z) hy
 obtain⟨oD,esD,epD,hoD,hdD,hcD⟩:=hn'.count bd;refine wpAny_bind (wpAny_lookBehind hoD (rz (hdD ..) <| pastItsLine_dict (le_trans hcD (by simp[sizeLine_eq]))) ?_)
 have U2:Ups s.heap.objs.size (.obj [(name,none)]) (.obj [(name,some d)]) ((s.heap.objs.size,.obj [(name,none)])::X') ((s.heap.objs.size,.obj [(name,some d)])::X'):=.here;have hk:∀ b o,b≠s.heap.objs.size→((s.heap.push emptyDict).update a fun o=>{ o with dict:=some s.heap.objs.size }).get? b=some o→h'.get? b=some o:=fun b o ne e=>hs.extBut b o ne e
 refine wpAny_pure ⟨_,rfl,wpAny_pure (k _ _ ?_ rfl rfl)⟩;refine S2.upd U2 hk S2.gens rfl ?_;exact obj_put (m:=m) (by simp) (by simp) .here (fun y e hy=>by simp at hy) h2 (S2.rpUps U2 hk hv2) hn'
end
end Mine
end
namespace Mine
noncomputable abbrev Tab(ps:Array Value):Knd:=.is fun o=>o=tabObj ps
noncomputable abbrev CodeK(q:Str):Knd:=.is fun o=>∃ vs t,o.data=.fields vs∧vs[1]?=some (.str q t)
theorem KOk.main{K:Frag}(H:KOk K):∃ mg:Str→Option Value,∀ h,K.In h→h.Ns mainGlobals mg∧h.BuiltinsAt mg 215∧h.BuiltinsAt mg 70:=by
 obtain⟨mg,h1,h2⟩:=ns_of H.ns1;refine⟨mg,fun h x=>?_⟩
 have bm:∀ P,bmOk K P=true→h.BuiltinsAt mg P:=fun P e=>by
  obtain⟨bm,hbm,e⟩:=refB_of e;simp only[Bool.and_eq_true,bne_iff_ne,ne_eq] at e;obtain⟨⟨⟨e1,e2⟩,e3⟩,e4⟩:=e
  obtain⟨sl,ho⟩:=modB_of e4;exact⟨bm,_,h2 _ _ hbm,e1,e2,e3,x _ _ ho,rfl,rfl,rfl⟩
 exact⟨h1 h x,bm _ H.bm.1,bm _ H.bm.2⟩
section
variable{prog:Program}{w:World}{A:Around}{E:VP}{c:Cx}{X X':Xs}{T:Ts}{s:Shared}{P:Addr}{env:Env}
theorem St.grow(S:St c X T s){oP:Obj}{r:Obj→Prop}(U:Ups P (.is fun o=>o=oP) (.is r) X X')(hf:oP.isFreed=false){h':Heap}{tk:Nat}(hk:∀ b o,b≠P→s.heap.get? b=some o→h'.get? b=some o)(own:∃ o,h'.get? P=some o∧r o)
  {c1 f1:Addr}{p q:Obj→Prop}(hc:s.heap.objs.size≤c1)(hcf:c1<f1)(oc:∃ o,h'.get? c1=some o∧p o)(of:∃ o,h'.get? f1=some o∧q o) :
  St c ((f1,.is q)::(c1,.is p)::X') T { s with heap:=h',toks:=tk }:=by
 obtain⟨o,ho,e⟩:=S.own _ U.mem;subst e;have hlt:=Heap.lt_size ho;obtain⟨o',ho',hr⟩:=own
 let h2:=h'.update P fun V=>o
 have hP2:h2.get? P=some o:=Heap.get?_update_self _ ho' hf;have ne:∀ b,b≠P→h2.get? b=h'.get? b:=fun b hb=>Heap.get?_update_other _ _ (Ne.symm hb)
 have hk2:∀ b o,s.heap.get? b=some o→h2.get? b=some o:=fun b y e=>by
  by_cases hb:b=P
  ·subst hb;rw[ho] at e;cases e;exact hP2
  ·refine rz (ne b hb ..) <| hk b y hb e
 have hcP:c1≠P:=fun e=>by rw[e] at hc;exact absurd hlt (Nat.not_lt.mpr hc)
 have hfP:f1≠P:=fun e=>by rw[e] at hcf;exact absurd hlt (Nat.not_lt.mpr (le_trans hc (le_of_lt hcf)))
 have S1:St c ([(f1,.is q),(c1,.is p)]++X) T { s with heap:=h2,toks:=tk }:=by
  refine S.freshL (by simp;exact ne_of_gt hcf) (fun r hr=>?_) hk2 S.gens rfl fun r hr=>?_
  ·simp at hr;rcases hr with rfl | rfl
   ·exact le_trans hc (le_of_lt hcf)
   ·exact hc
  ·simp at hr;rcases hr with rfl | rfl
   ·obtain⟨y,hy,hq⟩:=of;exact⟨y,by refine rz (ne _ hfP ..) <| hy,hq⟩
   ·obtain⟨y,hy,hq⟩:=oc;exact⟨y,by refine rz (ne _ hcP ..) <| hy,hq⟩
 have U1:Ups P (.is fun o'=>o'=o) (.is r) ([(f1,.is q),(c1,.is p)]++X) ([(f1,.is q),(c1,.is p)]++X'):=.there (.there U)
 exact S1.upd (s':={ s with heap:=h',toks:=tk }) U1 (fun b y hb e=>by refine rz (Eq.symm (ne b hb ..)) <| e) S.gens rfl ⟨o',ho',hr⟩
theorem x_def{X':Addr→Xs}{name:Str}{params:Arguments}{body:List Stmt}{scope:Scope}{pos:Pos}{rest:List Stmt}{Q:Flow→Shared→Prop}{clos:Ce}{ps:Array Value}{cA:Addr}{q:Str}(H:KOk c.K)
  (hd0:params.defaults=[])(hk0:params.kw_defaults=[])(ha:annTrees params none env=[])(hq:qualnameIn env name name=q)(hcl:closureFor scope env=pure clos)(hge:env.globals=mainGlobals)(hcode:env.code=.ref cA)
  (hP:(cA,P)=(219,215)∨(cA,P)=(74,70))(ht:TriplesOk ps.toList)(hnf:codeAmong pos ps.toList=none)(S:St c X T s)
  (U:∀ c1,Ups P (Tab ps) (Tab (ps++#[rawInt pos.line,rawInt pos.col,.ref c1])) X (X' c1))
  (k:∀ f c1 ctv doc pm s',St c ((f,.is fun o=>o=fnMade name q params body scope clos doc pm c1 ctv)::(c1,CodeK q)::X' c1) T s'→wpAny (model prog w) A (storeName env name (.ref f)) (fun V s''=>wpAny (model prog w) A (execs rest env) Q E s'') E s') :
  wpAny (model prog w) A (execs (.FunctionDef name params body [] none [] scope none name pos::rest) env) Q E s:=by
 obtain⟨mg,hmg⟩:=H.main;obtain⟨g1,g2,g3⟩:=hmg _ S.stat;have C:CodeHd s.heap cA P:=by
  rcases hP with e | e<;>cases e
  ·exact codeHd_of_K S.stat H.cd.1
  ·exact codeHd_of_K S.stat H.cd.2
 have hB:s.heap.BuiltinsAt mg P:=by rcases hP with e | e<;>cases e;exact g2;exact g3
 have hgP:mainGlobals≠P:=by rcases hP with e | e<;>cases e<;>decide
 obtain⟨o,ho,e⟩:=S.own _ (U 0).mem;subst e;refine Ci (nestDef_K hd0 hk0 ha ?_);refine rz (hq ..) <| makeFunction_K hcl hge g1 hcode C ho ht hnf hgP hB fun c1 ctv doc h' tk hx hge hlt hrec hPn=>?_
 obtain⟨c2,oc,vs,t,e1,e2,e3,e4⟩:=hrec;cases e1;refine wpAny_mono (k h'.objs.size c1 ctv doc _ _ (S.grow (U c1) rfl (h':=h'.push _) (tk:=tk) (fun b y hb e=>Heap.get?_push_of_some _ (hx b y hb e)) ⟨_,Heap.get?_push_of_some _ hPn,rfl⟩ hge hlt ⟨oc,Heap.get?_push_of_some _ e2,vs,t,e3,e4⟩ ⟨_,Heap.get?_push_size _ rfl,rfl⟩)) (fun V s'' h''=>h'') fun V V e=>e
theorem r_lambda{X':Addr→Xs}{params:Arguments}{body:Expr}{scope:Scope}{pos:Pos}{Q:VP}{clos:Ce}{ps:Array Value}{cA:Addr}{q:Str}(H:KOk c.K)
  (hdef:defaultsOf params env=([],[]))(hq:env.qual ++ "<lambda>" = q)(hcl:closureFor scope env=pure clos)(hge:env.globals=mainGlobals)(hcode:env.code=.ref cA)
  (hP:(cA,P)=(219,215)∨(cA,P)=(74,70))(ht:TriplesOk ps.toList)(hnf:codeAmong pos ps.toList=none)(S:St c X T s)
  (U:∀ c1,Ups P (Tab ps) (Tab (ps++#[rawInt pos.line,rawInt pos.col,.ref c1])) X (X' c1))
  (k:∀ f c1 ctv pm s',St c ((f,.is fun o=>o=kla_obj "<lambda>" q params body scope clos pm c1 ctv)::(c1,CodeK q)::X' c1) T s'→Q (.ref f) s') :
  wpAny (model prog w) A (eval (.Lambda params body scope pos) env) Q E s:=by
 obtain⟨mg,hmg⟩:=H.main;obtain⟨g1,g2,g3⟩:=hmg _ S.stat;have C:CodeHd s.heap cA P:=by
  rcases hP with e | e<;>cases e
  ·exact codeHd_of_K S.stat H.cd.1
  ·exact codeHd_of_K S.stat H.cd.2
 have hB:s.heap.BuiltinsAt mg P:=by rcases hP with e | e<;>cases e;exact g2;exact g3
 have hgP:mainGlobals≠P:=by rcases hP with e | e<;>cases e<;>decide
 obtain⟨o,ho,e⟩:=S.own _ (U 0).mem;subst e;refine kla_eval hdef ?_;refine rz (hq ..) <| kla_makeFunction hcl hge g1 hcode C ho ht hnf hgP hB fun c1 ctv h' tk hx hge hlt hrec hPn=>?_
 obtain⟨c2,oc,vs,t,e1,e2,e3,e4⟩:=hrec;cases e1;exact k h'.objs.size c1 ctv _ _ (S.grow (U c1) rfl (h':=h'.push _) (tk:=tk) (fun b y hb e=>Heap.get?_push_of_some _ (hx b y hb e)) ⟨_,Heap.get?_push_of_some _ hPn,rfl⟩ hge hlt ⟨oc,Heap.get?_push_of_some _ e2,vs,t,e3,e4⟩ ⟨_,Heap.get?_push_size _ rfl,rfl⟩)
theorem c_dyn{f:Addr}{pos:Pos}{e:Expr}{rest:List Expr}{fd:FuncData}{Q:VP}(S:St c X T s)(hm:(f,FnN fd)∈X)(h:wpAny (model prog w) A (spliced (backTo pos (starEach (e::rest) env))) (fun vs s₁=>FnAt f s₁.heap∧wpAny (model prog w) A (call (.ref f) vs) Q E s₁) E s)
  (he:starEach (e::rest) env=(false,eval e env)::starEach rest env)(hplain:(backTo pos (starEach rest env)).any (·.1)=false):wpAny (model prog w) A (callWith pos (.ref f) [] (backTo pos (starEach (e::rest) env)) []) Q E s:=by
 obtain⟨o,ho,rfl⟩:=S.own _ hm;exact callWith_F (first:=[]) ⟨_,_,_,_,ho⟩ h he hplain
theorem St.fnAt{f:Addr}{fd:FuncData}(S:St c X T s)(hm:(f,FnN fd)∈X):FnAt f s.heap:=by
 obtain⟨o,ho,rfl⟩:=S.own _ hm;exact⟨_,_,_,_,ho⟩
end
end Mine
section
open Builtin Builtin.ObjectAttr
namespace Mine
theorem ci_iter:Slot "callable_iterator" "__iter__" "callable_iterator.__iter__" := .of (owner := "callable_iterator") (n := "__iter__") (by refine rz (typeLookup_type ..) <| rz (builtinLookup_eq_fast ..) ?_;kernel_rfl) (by decide +kernel) (by decide +kernel) (by decide +kernel) (by first | exact .inl (by decide +kernel) | exact .inr (by decide +kernel)) (by refine rz (isSubtype_type ..) ?_;kernel_rfl)
theorem ci_iter_entry:entryFor table "callable_iterator.__iter__" = some Builtin.«dict_keyiterator.__iter__»:=entryFor_alias (id' := "dict_keyiterator.__iter__") (by kernel_rfl) rfl (by decide +kernel) (by kernel_rfl)
theorem ci_iter_args(a:Value):argsOk "callable_iterator.__iter__" ⟨[a],[]⟩:=by unfold argsOk;kernel_rfl
theorem E7:Slot "callable_iterator" "__next__" "callable_iterator.__next__" := .of (owner := "callable_iterator") (n := "__next__") (by refine rz (typeLookup_type ..) <| rz (builtinLookup_eq_fast ..) ?_;kernel_rfl) (by decide +kernel) (by decide +kernel) (by decide +kernel) (by first | exact .inl (by decide +kernel) | exact .inr (by decide +kernel)) (by refine rz (isSubtype_type ..) ?_;kernel_rfl)
theorem Dx:entryFor table "callable_iterator.__next__" = some Builtin.«callable_iterator.__next__»:=entryFor_of_tree (by kernel_rfl)
theorem Ej(a:Value):argsOk "callable_iterator.__next__" ⟨[a],[]⟩:=by unfold argsOk;kernel_rfl
theorem iter_kind:builtinKind "iter" = none:=by decide +kernel
theorem iter_plain:plainId "iter" = true:=by decide +kernel
theorem iter_entry:entryFor table "iter" = some Builtin.«iter»:=entryFor_of_tree (by kernel_rfl)
theorem iter_args(a b:Value):argsOk "iter" ⟨[a,b],[]⟩:=by unfold argsOk;kernel_rfl
theorem meth_call:typeLookup (.type "method") "__call__" = pure (some (.builtin "method.__call__")):=by refine rz (typeLookup_type ..) <| rz (builtinLookup_eq_fast ..) ?_;kernel_rfl
noncomputable abbrev MethK(f x:Addr):Knd:=.is fun o=>o=methodObj (.ref f) (.ref x)
noncomputable abbrev CiK(q:Addr):Knd:=.is fun o=>∃ t,o={ cls:=.type "callable_iterator",dict:=none,data:=.fields #[.ref q,.str "" t,.bool false],slots:=#[] }
noncomputable abbrev CiE:Knd:=.is fun o=>o={ cls:=.type "callable_iterator",dict:=none,data:=.fields #[.none,.none,.bool true],slots:=#[] }
section
variable{prog:Program}{w:World}{A:Around}{E:VP}{c:Cx}{X X':Xs}{T:Ts}{s:Shared}{x dx q it:Addr}{ρ:Od}{env:Env}{Q:VP}
theorem C8{f:Value}{pos:List Value}(hc:codeAny (model prog w) A (.call f ⟨pos,[]⟩) (fun r s'=>match r with | .ok (.ret v)=>Q v s' | .ok _=>False | .error e=>E e s') s):wpAny (model prog w) A (callBorrowed f pos) Q E s:=fun Γ p hΓ=>by
 unfold callBorrowed;refine rz (Sem.wp_call ..) <| codeAny_mono hc (R':=_) (fun r s' h=>?_) _ p rfl (hΓ.enter _ none p (by intro x;cases x))
 rcases r with e | (v | _ | _ | _)<;>first | exact h.elim | (simp only[Sem.wp_pure'];exact h) | (simp only[Sem.wp_raise];exact h) | exact h
theorem g_bound{b:Bool}(H:KOk c.K)(S:St c X T s)(hi:(x,Ins 143 dx)∈X)(hd:(dx,Knd.obj ρ)∈X)(hk:ρ.map (·.1)=Ck)(h:∀ q s',St c ((q,MethK 126 x)::X) T s'→Q (.ref q) s'):wpAny (model prog w) A (getAttr (.ref x) "_read_char" b) Q E s:=by
 have hc:(143,"object.__getattribute__",_,_)∈clTab:=.tail _ (.head _);obtain⟨F,hms,_⟩:=H.clF hc;obtain⟨h1,h2⟩:=hms ("_read_char",126) (.tail _ (.head _));obtain⟨ox,od,m,I,hdx,hm,L,_,hnone⟩:=S.inst (.inl hi) hd;have hn:m "_read_char" = none:=hnone _ fun d hd=>by
  have:("_read_char" : Str)∈Ck:=hk▸List.mem_map.mpr ⟨_,hd,rfl⟩
  revert this;decide +kernel
 obtain⟨cd,hcd,hhas⟩:=F.cd;have sp:∀ n r,fastLookup "function" n=some r→specialIn c.K (.ref 126) n=some r:=fun n r e=>by
  unfold specialIn;refine rz (h2 ..) <| e
 refine get_bind S.stat I F.ga (findObj_fn (g:=.builtin "function.__get__") (by unfold hasDictIn;refine rz (hcd ..) <| hhas) h1 (sp _ _ (by kernel_rfl)) ?_ (by decide +kernel) (rz (L ..) <| rz (hn ..) rfl)) F.gt ?_
 ·unfold takesIn;refine rz (sp "__set__" none (by kernel_rfl) ..) ?_
  dsimp only;refine rz (sp "__delete__" none (by kernel_rfl) ..) ?_
  rfl
 ·refine wpAny_call (PySem.W.fn_get (s:={ s with toks:=s.toks+1 }) S.stat h2 (handed_on rfl (h _ _ ?_)))
  exact(S.toks (s.toks+1)).own_push (t:=s.toks+1) ⟨_,Heap.get?_push_size _ rfl,rfl⟩
theorem r_iter2{t:Tok}{f x:Addr}(S:St c X T s)(hq:(q,MethK f x)∈X)(h:∀ it s',St c ((it,CiK q)::X) T s'→Q (.ref it) s'):wpAny (model prog w) A (call (.builtin "iter") [.ref q,.str "" t]) Q E s:=by
 obtain⟨o,ho,rfl⟩:=S.own _ hq;have hT:s.TypeIs (.ref q) "method" := ⟨_,ho,rfl⟩;refine Calls.call_function_entry iter_kind iter_plain iter_entry (iter_args _ _) ?_;unfold Builtin.«iter»;refine wpAny_bind (wpAny_of_eq (a:=[.ref q,.str "" t]) (by first | rfl | kernel_rfl) ?_)
 dsimp only;refine wpAny_bind (wpAny_specialOf hT meth_call ?_);refine rz (if_neg (by decide) ..) <| wpAny_bind (wpAny_rule (wpAny_bind (wpAny_newObj_type (wpAny_pure ⟨_,rfl,h _ _ ?_⟩) (by size_fits))))
 exact S.own_push (t:=s.toks) ⟨_,Heap.get?_push_size _ rfl,t,rfl⟩
theorem r_ci_self{k:Knd}(S:St c X T s)(hi:∃ o,s.heap.get? it=some o∧o.cls=.type "callable_iterator")(h:Q (.ref it) s):wpAny (model prog w) A (pyIter (.ref it)) Q E s:=by
 obtain⟨o,ho,hc⟩:=hi;have hT:s.TypeIs (.ref it) "callable_iterator" := ⟨o,ho,hc⟩;refine wpAny_pyIter_slot hT ci_iter (wpAny_call_entry ci_iter hT ci_iter_entry ?_ (ci_iter_args _))
 show wpAny _ _ (ret (.ref it)) _ _ s
 exact wpAny_pure ⟨_,rfl,"callable_iterator",_,hT,E7.lookup,h⟩
theorem ci_own(S:St c X T s)(hi:(it,CiK q)∈X):∃ o,s.heap.get? it=some o∧o.cls=.type "callable_iterator" := by
 obtain⟨o,ho,t,rfl⟩:=S.own _ hi;exact⟨_,ho,rfl⟩
theorem stop_end{α:Type}{A':Around}{Q:Option Value→Shared→Prop}{E:VP}{R:α→Shared→Prop}(hh:A.handled=none)(h:∀ h',(∀ b o,s.heap.get? b=some o→h'.get? b=some o)→Q none { s with heap:=h' }) :
  wpAny (model prog w) A (do raiseNew (← newExc (.type "StopIteration") []):Sem α) R (fun e s'=>wpAny (model prog w) A' (do if ← isInstance e (.type "StopIteration") then pure none else throw e) Q E s') s:=by
 show wpAny _ _ (newExc (.type "StopIteration") [] >>= _) _ _ _
 refine wpAny_bind ?_;simp only[newExc,newTuple];refine wpAny_bind (wpAny_newObj_type ?_ (by size_fits))
 refine wpAny_bind (m:=firstArgMember _ _) (wpAny_of_eq (a:=Value.none) (by first | rfl | (simp only[firstArgMember];rfl)) ?_)
 refine wpAny_newObj_type ?_ (by size_fits)
 simp only[raiseNew];refine wpAny_bind (wpAny_handled ?_);refine rz (hh ..) <| wpAny_bind (wpAny_pure (wpAny_throw ?_))
 refine wpAny_bind (wpAny_isInstance (T := "StopIteration") (b:=true) ⟨_,Heap.get?_push_size _ rfl,rfl⟩ isSubtype_stop ?_);exact wpAny_pure (h _ fun b o e=>Heap.get?_push_of_some _ (Heap.get?_push_of_some _ e))
theorem borrows{f x:Addr}{fd:FuncData}(hq:s.heap.get? q=some (methodObj (.ref f) (.ref x)))(hf:s.heap.get? f=some (fnObj fd)){Q:Bool→Shared→Prop}(h:Q true s):wpAny (model prog w) A (borrowsExactly (.ref q)) Q E s:=by
 unfold borrowsExactly;refine wpAny_bind (wpAny_load hq ?_);dsimp only;refine rz (if_pos (by decide) ..) <| wpAny_bind (wpAny_load (s:=s) hf ?_)
 exact wpAny_pure h
theorem ci_item{K:Frag}{n:Nat}{B B1 Y:Xs}{y:Str}{Q:Option Value→Shared→Prop}{x:Addr}(H:KOk c.K)(oA:OkA (n+2) A)(hK:c.K=K)(F:Fn prog w K n 126 B [Rf x] (fun d B'=>d=.str y∧B'=B1))(S:St c (B++Y) T s)(hi:(it,CiK q)∈Y)(hq:(q,MethK 126 x)∈Y)(hy:y ≠ "")
  (k:∀ t s',St c (B1++Y) T s'→Q (some (.str y t)) s'):wpAny (model prog w) A (pyNext (.ref it)) Q E s:=by
 obtain⟨o,ho,t0,rfl⟩:=S.own _ (mem_append_right _ hi);obtain⟨om,hm,rfl⟩:=S.own _ (mem_append_right _ hq);have hT:s.TypeIs (.ref it) "callable_iterator" := ⟨_,ho,rfl⟩;have hf:s.heap.get? 126=some (fnObj (netM 1 "_netrclex._read_char" 125)):=S.stat _ _ (H.fn (126,_) (by unfold Bz;repeat first | exact mem_cons_self | apply mem_cons_of_mem)).1
 unfold pyNext;refine wpAny_bind (wpAny_attempt (wpAny_callSpecial?_slot (name:=Str.ofString "__next__") hT E7 (wpAny_call_entry E7 hT Dx ?_ (Ej _))));unfold Builtin.«callable_iterator.__next__»;refine wpAny_bind (wpAny_pure ?_);refine wpAny_bind (wpAny_field ho rfl (x:=.bool false) rfl ?_);refine rz (if_neg (by decide) ..) <| wpAny_bind (wpAny_field ho rfl (x:=.ref q) rfl ?_)
 refine wpAny_bind (wpAny_attempt ?_);unfold callOutOfASlot;refine wpAny_bind (borrows hm hf ?_);refine rz (if_pos rfl ..) <| C8 (ks_codeAny_call_bound hm ?_)
 refine F A.in1 c Y T s _ _ (oA.in1.le (le_succ _)) hK S (.cons (.raw _) .nil) fun v d B' s' hp S'=>?_
 obtain⟨rfl,rfl⟩:=hp;have r:=S'.tmp _ (.head _);obtain⟨t,rfl⟩:∃ t,v=.str y t:=by
  cases r with
  |str a t=>exact⟨t,rfl⟩
 obtain⟨o',ho',t1,rfl⟩:=S'.own _ (mem_append_right _ hi);refine wpAny_bind (wpAny_field ho' rfl (x:=.bool false) rfl ?_);refine rz (if_neg (by decide) ..) <| wpAny_bind (wpAny_field ho' rfl (x:=.str "" t1) rfl ?_)
 refine wpAny_bind (wpAny_holding (wpAny_eqBool_str ?_));refine rz (if_pos (by simpa using fun e=>hy e.symm) ..) <| wpAny_pure ⟨_,rfl,wpAny_pure (k t _ (S'.drop fun q hq=>.tail _ hq))⟩
theorem ci_end{K:Frag}{n:Nat}{B B1 Y Y':Xs}{Q:Option Value→Shared→Prop}{x:Addr}(H:KOk c.K)(oA:OkA (n+2) A)(hK:c.K=K)(F:Fn prog w K n 126 B [Rf x] (fun d B'=>d=.str "" ∧ B'=B1))(S:St c (B++Y) T s)(U:Ups it (CiK q) CiE Y Y')(hq:(q,MethK 126 x)∈Y)
  (k:∀ s',St c (B1++Y') T s'→Q none s'):wpAny (model prog w) A (pyNext (.ref it)) Q E s:=by
 have hi:=U.mem;obtain⟨o,ho,t0,rfl⟩:=S.own _ (mem_append_right _ hi);obtain⟨om,hm,rfl⟩:=S.own _ (mem_append_right _ hq);have hT:s.TypeIs (.ref it) "callable_iterator" := ⟨_,ho,rfl⟩;have hf:s.heap.get? 126=some (fnObj (netM 1 "_netrclex._read_char" 125)):=S.stat _ _ (H.fn (126,_) (by unfold Bz;repeat first | exact mem_cons_self | apply mem_cons_of_mem)).1
 unfold pyNext;refine wpAny_bind (wpAny_attempt (wpAny_callSpecial?_slot (name:=Str.ofString "__next__") hT E7 (wpAny_call_entry E7 hT Dx ?_ (Ej _))));unfold Builtin.«callable_iterator.__next__»;refine wpAny_bind (wpAny_pure ?_);refine wpAny_bind (wpAny_field ho rfl (x:=.bool false) rfl ?_);refine rz (if_neg (by decide) ..) <| wpAny_bind (wpAny_field ho rfl (x:=.ref q) rfl ?_)
 refine wpAny_bind (wpAny_attempt ?_);unfold callOutOfASlot;refine wpAny_bind (borrows hm hf ?_);refine rz (if_pos rfl ..) <| C8 (ks_codeAny_call_bound hm ?_)
 refine F A.in1 c Y T s _ _ (oA.in1.le (le_succ _)) hK S (.cons (.raw _) .nil) fun v d B' s' hp S'=>?_
 obtain⟨rfl,rfl⟩:=hp;have r:=S'.tmp _ (.head _);obtain⟨t,rfl⟩:∃ t,v=.str "" t:=by
  generalize hz:("" : Str)=z at r;cases r with
  |str a t=>exact⟨t,rfl⟩
 obtain⟨o',ho',t1,rfl⟩:=S'.own _ (mem_append_right _ hi);obtain⟨om',hm',rfl⟩:=S'.own _ (mem_append_right _ hq);have hf':s'.heap.get? 126=some (fnObj (netM 1 "_netrclex._read_char" 125)):=S'.stat _ _ (H.fn (126,_) (by unfold Bz;repeat first | exact mem_cons_self | apply mem_cons_of_mem)).1
 refine wpAny_bind (wpAny_field ho' rfl (x:=.bool false) rfl ?_);refine rz (if_neg (by decide) ..) <| wpAny_bind (wpAny_field ho' rfl (x:=.str "" t1) rfl ?_)
 refine wpAny_bind (wpAny_holding (wpAny_eqBool_str ?_));refine rz (if_neg (by simp) ..) <| wpAny_bind (wpAny_rule ?_)
 refine wpAny_bind ?_
 show wpAny _ _ (field (.ref it) 0 >>= _) _ _ _
 refine wpAny_bind (wpAny_field ho' rfl (x:=.ref q) rfl (wpAny_bind ?_));unfold slotLetsGo;refine wpAny_bind (borrows hm' hf' ?_);refine rz (if_pos rfl ..) <| wpAny_pure ?_
 refine wpAny_bind (wpAny_setField_rec ho' (by simp) fun h1 e1 s1=>?_)
 refine wpAny_bind (wpAny_setField_rec (s:={ s' with heap:=h1 }) e1 (by simp) fun h2 e2 s2=>?_)
 refine wpAny_setField_rec (s:={ s' with heap:=h2 }) e2 (by simp) fun h3 e3 s3=>?_
 have hk3:∀ b o,b≠it→s'.heap.get? b=some o→h3.get? b=some o:=fun b o ne e=>(s3.2 b ne).trans ((s2.2 b ne).trans ((s1.2 b ne).trans e))
 have S3:St c (B'++Y') ((Value.str "" t,PyData.str "")::T) { s' with heap:=h3 }:=S'.upd (s':={ s' with heap:=h3 }) (Ups.app U) hk3 S'.gens rfl ⟨_,e3,rfl⟩
 refine stop_end (s:={ s' with heap:=h3 }) oA.in1.h fun h' hk=>k _ ?_
 exact(S3.drop fun q hq=>.tail _ hq).h' (t:=s'.toks) hk
theorem ci_ended{Q:Option Value→Shared→Prop}(hh:A.handled=none)(S:St c X T s)(hi:(it,CiE)∈X)(k:∀ s',St c X T s'→Q none s'):wpAny (model prog w) A (pyNext (.ref it)) Q E s:=by
 obtain⟨o,ho,rfl⟩:=S.own _ hi;have hT:s.TypeIs (.ref it) "callable_iterator" := ⟨_,ho,rfl⟩;unfold pyNext;refine wpAny_bind (wpAny_attempt (wpAny_callSpecial?_slot (name:=Str.ofString "__next__") hT E7 (wpAny_call_entry E7 hT Dx ?_ (Ej _))));unfold Builtin.«callable_iterator.__next__»;refine wpAny_bind (wpAny_pure ?_);refine wpAny_bind (wpAny_field ho rfl (x:=.bool true) rfl ?_);refine rz (if_pos (by decide) ..) <| wpAny_bind (wpAny_rule ?_)
 exact wpAny_bind (stop_end (A:=A.in1) hh fun h' hk=>k _ (S.h' (t:=s.toks) hk))
theorem for_gen{I:Addr}{target:Expr}{body:List Stmt}{Q:Flow→Shared→Prop}(Inv:Nat→Shared→Prop)(n:Nat)(h0:Inv n s)
  (turn:∀ n s (E':VP),Inv n s→wpAny (model prog w) A (pyNext (.ref I)) (fun r s₁=>match r with
   |none=>Q .next s₁
   |some v=>wpAny (model prog w) A (letOwnedTupleGo target (.ref I) v) (fun V s₂=>wpAny (model prog w) A (assign target env v) (fun V s₃=>wpAny (model prog w) A (execs body env) (fun f s₄=>match f with
     |.next | .cont=>∃ m,m<n∧Inv m s₄
     |.brk=>Q .next s₄
     |.ret r=>Q (.ret r) s₄) E' s₃) E' s₂) E' s₁) E' s) :
  codeAny (model prog w) A (.forLoop target (.ref I) body [] env) (fun r s'=>match r with | .ok f=>Q f s' | .error e=>cameBackBy (model prog w) A env E e s') s :=
 D4 Inv (fun n s h=>turn n s _ h) n h0
theorem r_makeP{K:Frag}{n:Nat}{fI C:Addr}{vs:List Value}{ds:Lp}{PB:Addr→Addr→Xs→Prop}(oA:OkA (n+1) A)(hK:c.K=K)(hm:makesIn c.K C=true)(hi:findIn c.K (.ref C) "__init__" = some (some (.ref fI)))(hf:typeIn c.K (.ref fI)=some (.type "function"))
  (h0:∀ p∈ρ,p.2=none)(nd:(ρ.map (·.1)).Nodup)(hl:ρ.length≤64)
  (F:∀ x dx,Fn prog w K n fI [(x,Ins C dx),(dx,.obj ρ)] (Rf x::ds) (fun d B'=>d=.none∧PB x dx B'))(S:St c X T s)(hv:Rps (ban c X) s.heap vs ds)
  (k:∀ x dx B' s',PB x dx B'→St c (B'++X) T s'→Q (.ref x) s'):wpAny (model prog w) A (call (.ref C) vs) Q E s:=by
 have S2:=S.make (C:=C) h0 nd hl;obtain⟨hh,g,d,t,os⟩:=s;refine wpAny_call (make_core (makes_of S.stat hm) (looks_findIn S.stat hi) (fun self=>bind_fn S.stat self hf) (.inl rfl) ?_)
 refine F (hh.objs.size+1) hh.objs.size _ c X T _ _ _ oA.made hK S2 (.cons (.raw _) ?_) fun v d B' s' hp S'=>?_
 ·refine hv.mono (fun b o e q=>?_) fun b o V e=>Heap.get?_push_of_some _ (Heap.get?_push_of_some _ e)
  rcases q with q | q
  ·exact .inl q
  ·rcases List.mem_cons.mp q with rfl | q
   ·exact absurd (Heap.lt_size e) (Nat.not_lt.mpr (le_succ _))
   ·rcases List.mem_cons.mp q with rfl | q
    ·exact absurd (Heap.lt_size e) (lt_irrefl _)
    ·exact .inr q
 ·obtain⟨rfl,hp⟩:=hp;have r:=S'.tmp _ (.head _);have e:v=.none:=by
   cases r with
   |none=>rfl
  exact⟨e,k _ _ B' s' hp (S'.drop fun q hq=>.tail _ hq)⟩
end
end Mine
end
section
open Builtin Builtin.ObjectAttr
namespace Mine
structure MadeL(M:Model)(h:Heap)(C:Addr):Prop where
 obj:∃ oc od cd sl,h.get? C=some ⟨oc,od,.cls cd,sl⟩∧cd.abstract=false∧cd.hasDel=false∧cd.mro.isEmpty=false
 made:Looks M h (Bind.madeBy (.ref C)) (some "list.__new__")
 base:Looks M h (Bind.staticBase (.ref C)) (.ref C)
 self:Looks M h (isSubtype (.ref C) (.ref C)) true
 lst:Looks M h (isSubtype (.ref C) (.type "list")) true
 call:Looks M h (specialOf (.ref C) "__call__") (some (.builtin "type.__call__"))
 typ:Looks M h (isInstance (.ref C) (.type "type")) true
theorem madeL_of{K:Frag}{M:Model}{h:Heap}(X:K.In h){C:Addr}(e:makesL K C=true):MadeL M h C:=by
 obtain⟨oc,od,cd,sl,ho,e⟩:=clsB_of e
 ·simp only[Bool.and_eq_true,Bool.not_eq_true',beq_iff_eq] at e;obtain⟨⟨⟨⟨⟨⟨⟨e1,e2⟩,e3⟩,e4⟩,e5⟩,e6⟩,e7⟩,e8⟩:=e
  have hc:clsIn K C=some cd:=by unfold clsIn;exact rz (ho ..) rfl
  have hm:Looks M h (mroOf (.ref C)) cd.mro:=(looks_clsIn X hc).andThen .now;obtain⟨c,l,hl⟩:∃ c l,cd.mro=c::l:=by cases q:cd.mro with | nil=>rw[q] at e4;cases e4 | cons c l=>exact⟨c,l,rfl⟩
  have made:Looks M h (Bind.madeBy (.ref C)) (some "list.__new__"):=by
   intro A Q E s k q;unfold Bind.madeBy;refine wpAny_bind (hm A _ E s k ?_);refine rz (hl ..) <| rz (forIn_cons ..) <| wpAny_bind (wpAny_bind (wpAny_bind (wpAny_bind (wpAny_loadPart (k _ _ (X _ _ ho)) (wpAny_pure ?_)))))
   dsimp only;refine rz (Eq.symm (Array.getElem?_toList ..)) <| rz (e3 ..) <| wpAny_pure (wpAny_pure (wpAny_pure q))
  refine⟨⟨oc,od,cd,sl,X _ _ ho,e1,e2,e4⟩,made,?_,looks_mroIn X ?_,looks_mroIn X ?_,looks_specialIn X e7,looks_instIn X e8⟩
  ·intro A Q E s k q;unfold Bind.staticBase;refine wpAny_bind (hm A _ E s k ?_);refine rz (hl ..) <| rz (forIn_cons ..) <| wpAny_bind (wpAny_bind (wpAny_bind (made A _ E s k (wpAny_pure (wpAny_pure (wpAny_pure q))))))
  ·unfold mroIn;refine rz (hc ..) <| rz (Option.bind_some ..) <| rz (if_neg (by rw[e4];decide) ..) <| rz (e5 ..) rfl
  ·unfold mroIn;refine rz (hc ..) <| rz (Option.bind_some ..) <| rz (if_neg (by rw[e4];decide) ..) <| rz (e6 ..) rfl
theorem nl_kind:builtinKind "list.__new__" = some .builtinFn:=by decide +kernel
theorem nl_split:splitId "list.__new__" = some ("list","__new__"):=by decide +kernel
theorem nl_sig(C:Addr):∃ sig,Manifest.signature? "list.__new__" = some sig∧Bind.checkArgs "list.__new__" sig ⟨[.ref C],[]⟩=pure ():=by
 cases e:Manifest.signature? "list.__new__" with
 |none=>exact absurd e (by decide +kernel)
 |some sig =>
  refine⟨sig,rfl,?_⟩;have:(Manifest.signature? "list.__new__").map (fun sig=>Bind.checkArgs "list.__new__" sig ⟨[.ref C],[]⟩)=some (pure ()):=by kernel_rfl
  rw[e] at this;exact Option.some.inj this
section
variable{prog:Program}{w:World}{A:Around}{C:Addr}{R:Result→Shared→Prop}{h:Heap}{g:Array GenState}{d:Drawn}{t:Nat}{os:OsState}
theorem new_L(Y:MadeL (model prog w) h C)(hq:R (.ok (.ret (.ref (h.objs.size+1)))) ⟨(h.push emptyDict).push (subL C h.objs.size #[] 0),g,d,t,os⟩) :
  codeAny (model prog w) A (.call (.builtin "list.__new__") ⟨[.ref C],[]⟩) R ⟨h,g,d,t,os⟩:=by
 obtain⟨⟨oc,od,cd,sl,hC,e1,e2,e4⟩,made,base,self,lst,call,typ⟩:=Y;refine codeAny_of_tree ?_
 show wpAny _ A.in1 (do checkBuiltinCall "list.__new__" ⟨[.ref C],[]⟩;again (.builtin "list.__new__" ⟨[.ref C],[]⟩)) _ _ _
 refine wpAny_bind ?_;have fin:wpAny (model prog w) A.in1 (again (.builtin "list.__new__" ⟨[.ref C],[]⟩)) (fun fin s'=>match fin with | .done f=>R (.ok f) s' | .again c'=>c'.quiet=true∧codeAny (model prog w) A c' R s') (fun e s'=>R (.error e) s') ⟨h,g,d,t,os⟩:=by
  refine wpAny_pure ⟨plainId_quiet PySem.F.plain_list_new _,codeAny_builtin_stack PySem.F.entry_list_new rfl fun p st=>?_⟩
  refine rz (Around.under_plainId PySem.F.plain_list_new _ ..) ?_;have hown:=owner_list_new;simp only[hown];have hC':=Heap.get?_push_of_some (subL C h.objs.size #[] 0) (Heap.get?_push_of_some emptyDict hC);refine wpAny_bind (ks_wpAny_isType_cls hC rfl ?_);refine rz (if_neg (by decide) ..) <| wpAny_bind (lst.at ?_)
  refine rz (if_neg (by decide) ..) <| wpAny_bind (wpAny_pure ?_)
  refine rz (if_neg (by simp[typeHasDict]) ..) <| wpAny_bind (show wpAny _ _ (alloc emptyDict >>= fun x=>pure (Value.ref x)) _ _ _ from wpAny_bind (wpAny_alloc (wpAny_pure ?_)))
  refine wpAny_bind (show wpAny _ _ (newObjAsIs (.ref C) (.seq #[]) (some h.objs.size)) _ _ _ from ?_)
  unfold newObjAsIs classHasDel;refine wpAny_bind (wpAny_alloc (wpAny_bind (wpAny_bind (wpAny_load hC' (wpAny_pure ?_)))));refine rz (e2 ..) <| wpAny_pure (wpAny_pure ?_)
  show R _ _
  refine rz (Heap.size_push ..) <| hq
 obtain⟨sig,hsig,hargs⟩:=nl_sig C;simp only[checkBuiltinCall,nl_kind,nl_split,hsig];refine wpAny_bind (ks_wpAny_isType_cls hC rfl ?_);refine rz (if_neg (by decide) ..) <| wpAny_bind (lst.at ?_)
 refine rz (if_neg (by decide) ..) <| wpAny_bind (base.at (wpAny_bind (made.at ?_)))
 dsimp only;refine rz (if_neg (by simp) ..) <| rz (hargs ..) <| wpAny_pure fin
theorem make_L{init:Addr}(Y:MadeL (model prog w) h C)(hi:Looks (model prog w) h (typeLookup (.ref C) "__init__") (some (.ref init)))
  (hb:∀ self,Looks (model prog w) h (bindSpecial (.ref init) self) (.ref init,[self]))
  (hq:codeAny (model prog w) (A.under (.builtin "type.__call__" ⟨[.ref C],[]⟩)) (.call (.ref init) ⟨[.ref (h.objs.size+1)],[]⟩) (InitBack (h.objs.size+1) R) ⟨(h.push emptyDict).push (subL C h.objs.size #[] 0),g,d,t,os⟩) :
  codeAny (model prog w) A (.call (.ref C) ⟨[],[]⟩) R ⟨h,g,d,t,os⟩:=by
 have Y':=Y;obtain⟨⟨oc,od,cd,sl,hC,e1,e2,e4⟩,made,base,self,lst,call,typ⟩:=Y;refine codeAny_of_tree ?_
 show wpAny _ _ (callAny (.ref C) _) _ _ _
 refine nd_load hC ?_
 show wpAny _ _ (callAny.viaDunder (.ref C) _) _ _ _
 unfold callAny.viaDunder;refine wpAny_bind (call.at ?_);dsimp only;refine rz (tc_bind ..) <| wpAny_bind (wpAny_pure (wpAny_bind (wpAny_pure ?_)))
 refine wpAny_pure (a:=Fin.again (.call (.builtin "type.__call__") ⟨[.ref C],[]⟩)) (And.intro rfl ?_);refine codeAny_call_builtin_at (Code.quiet_builtin _ (by decide +kernel)) entry_typeCall (PySem.W.check_slot tc_kind tc_split typ (tc_args _ _ _) ?_)
 unfold Builtin.«type.__call__»;have hm:Looks (model prog w) h (mroOf (.ref C)) cd.mro:=((Looks.ld (part:=none) hC).andThen .now).andThen .now
 repeat (first | simp only[e4,Bool.false_eq_true,if_false] | with_reducible refine wpAny_call ?_ | lk)
 refine new_L Y' ?_;have k:∀ b o,h.get? b=some o→((h.push emptyDict).push (subL C h.objs.size #[] 0)).get? b=some o:=fun b o e=>Heap.get?_push_of_some _ (Heap.get?_push_of_some _ e)
 have hx:((h.push emptyDict).push (subL C h.objs.size #[] 0)).get? (h.objs.size+1)=some (subL C h.objs.size #[] 0):=by heap_get
 have t1:Looks (model prog w) ((h.push emptyDict).push (subL C h.objs.size #[] 0)) (typeOf (.ref (h.objs.size+1))) (.ref C):=(Looks.ld hx).andThen .now;have s1:=self.keeps k;have i1:=hi.keeps k;have b1:=(hb (.ref (h.objs.size+1))).keeps k;unfold isInstance callSpecial? specialOf
 repeat (first | with_reducible refine wpAny_call ?_ | lk)
 refine codeAny_mono hq fun r s' z=>?_
 rcases r with e | (v | _ | _ | _)<;>first | exact z | exact z.elim | skip
 obtain⟨rfl,z⟩:=z;exact wpAny_pure (wpAny_pure z)
end
end Mine
end
section
open Builtin Builtin.ObjectAttr
namespace Mine
theorem wd_slot:Slot "wrapper_descriptor" "__get__" "wrapper_descriptor.__get__" := .of (owner := "wrapper_descriptor") (n := "__get__") (by refine rz (typeLookup_type ..) <| rz (builtinLookup_eq_fast ..) ?_;kernel_rfl) (by decide +kernel) (by decide +kernel) (by decide +kernel) (by first | exact .inl (by decide +kernel) | exact .inr (by decide +kernel)) (by refine rz (isSubtype_type ..) ?_;kernel_rfl)
theorem wd_entry:entryFor table "wrapper_descriptor.__get__" = some Builtin.«wrapper_descriptor.__get__»:=entryFor_of_tree (by kernel_rfl)
theorem wd_args(a b d:Value):argsOk "wrapper_descriptor.__get__" ⟨[a,b,d],[]⟩:=by unfold argsOk;kernel_rfl
theorem md_slot:Slot "method_descriptor" "__get__" "method_descriptor.__get__" := .of (owner := "method_descriptor") (n := "__get__") (by refine rz (typeLookup_type ..) <| rz (builtinLookup_eq_fast ..) ?_;kernel_rfl) (by decide +kernel) (by decide +kernel) (by decide +kernel) (by first | exact .inl (by decide +kernel) | exact .inr (by decide +kernel)) (by refine rz (isSubtype_type ..) ?_;kernel_rfl)
theorem md_entry:entryFor table "method_descriptor.__get__" = some Builtin.«method_descriptor.__get__»:=entryFor_of_tree (by kernel_rfl)
theorem md_args(a b d:Value):argsOk "method_descriptor.__get__" ⟨[a,b,d],[]⟩:=by unfold argsOk;kernel_rfl
noncomputable abbrev Df(bt id:String)(x:Addr):Obj:={ cls:=.type bt,dict:=none,data:=.fields #[.builtin id,.ref x],slots:=#[] }
noncomputable abbrev supObj(D x C:Addr):Obj:={ cls:=.type "super",dict:=none,data:=.fields #[.ref D,.ref x,.ref C],slots:=#[] }
structure SupB(dt gid bt id:String) where
 ty:typeOf (.builtin id)=pure (.type dt)
 slot:Slot dt "__get__" gid
 G:Builtin
 entry:entryFor table gid=some G
 args:∀ a b d,argsOk gid ⟨[a,b,d],[]⟩
 run:∀ (prog:Program) (w:World) (A:Around) (E:VP) (Q:VP) (x C:Addr) (s:Shared),Looks (model prog w) s.heap (isInstance (.ref x) (.type "list")) true →
  Q (.ref s.heap.objs.size) { s with heap:=s.heap.push (Df bt id x) }→wpAny (model prog w) A (G ⟨[.builtin id,.ref x,.ref C],[]⟩) (fun fin s'=>∃ v,fin=.done (.ret v)∧Q v s') E s
section
variable{prog:Program}{w:World}{M:Model}{A:Around}{E:VP}{h:Heap}{g:Array GenState}{d:Drawn}{t:Nat}{os:OsState}
theorem newF{bt id:String}{x:Addr}{s:Shared}{Q:VP}(hq:Q (.ref s.heap.objs.size) { s with heap:=s.heap.push (Df bt id x) }):wpAny (model prog w) A (newFields bt [.builtin id,.ref x]) Q E s:=by
 unfold newFields;exact wpAny_newObj_type hq (by size_fits)
noncomputable def supB_len:SupB "wrapper_descriptor" "wrapper_descriptor.__get__" "method-wrapper" "list.__len__" := ⟨by kernel_rfl,wd_slot,_,wd_entry,wd_args,fun prog w A E Q x C s hi hq=>by
 obtain⟨hp,g,d,t,os⟩:=s;unfold «wrapper_descriptor.__get__»;refine wpAny_bind (wpAny_of_eq (a:=((Value.builtin "list.__len__",some (Value.ref x),some (Value.ref C)):Value × Option Value × Option Value)) (by kernel_rfl) ?_)
 refine wpAny_bind (wpAny_bind (wpAny_of_eq (a:=((("__len__" : Str),Value.type "list"):Str × Value)) (by kernel_rfl) ?_))
 refine wpAny_bind (hi.at ?_);refine wpAny_pure (wpAny_bind (newF ?_));exact wpAny_pure ⟨_,rfl,hq⟩⟩
noncomputable def supB_init:SupB "wrapper_descriptor" "wrapper_descriptor.__get__" "method-wrapper" "list.__init__" := ⟨by kernel_rfl,wd_slot,_,wd_entry,wd_args,fun prog w A E Q x C s hi hq=>by
 obtain⟨hp,g,d,t,os⟩:=s;unfold «wrapper_descriptor.__get__»;refine wpAny_bind (wpAny_of_eq (a:=((Value.builtin "list.__init__",some (Value.ref x),some (Value.ref C)):Value × Option Value × Option Value)) (by kernel_rfl) ?_)
 refine wpAny_bind (wpAny_bind (wpAny_of_eq (a:=((("__init__" : Str),Value.type "list"):Str × Value)) (by kernel_rfl) ?_))
 refine wpAny_bind (hi.at ?_);refine wpAny_pure (wpAny_bind (newF ?_));exact wpAny_pure ⟨_,rfl,hq⟩⟩
noncomputable def supB_pop:SupB "method_descriptor" "method_descriptor.__get__" "builtin_function_or_method" "list.pop" := ⟨by kernel_rfl,md_slot,_,md_entry,md_args,fun prog w A E Q x C s hi hq=>by
 obtain⟨hp,g,d,t,os⟩:=s;unfold «method_descriptor.__get__»;refine wpAny_bind (wpAny_of_eq (a:=((Value.builtin "list.pop",some (Value.ref x),some (Value.ref C)):Value × Option Value × Option Value)) (by kernel_rfl) ?_)
 have e:Manifest.toldItsClass.contains "list.pop" = false:=by decide +kernel
 dsimp only;refine rz (if_neg (by rw[e];decide) ..) <| wpAny_bind (wpAny_bind (wpAny_of_eq (a:=((("pop" : Str),Value.type "list"):Str × Value)) (by kernel_rfl) ?_))
 refine wpAny_bind (hi.at ?_);refine wpAny_pure (wpAny_bind (newF ?_));exact wpAny_pure ⟨_,rfl,hq⟩⟩
theorem super_ga_b{so D x C:Addr}{l₀ l:List Value}{K:Frag}{name:Str}{tk:Tok}{dt gid bt id:String}{Q:Fin→Shared→Prop}(B:SupB dt gid bt id)
  (hso:h.get? so=some (supObj D x C))(hno:Looks (model prog w) h (opaqueClassAbove (.ref C)) none)(hi:Looks (model prog w) h (isInstance (.ref x) (.type "list")) true)
  (hC:Looks (model prog w) h (mroOf (.ref C)) l₀)(hl:(l₀.dropWhile (· != .ref D)).drop 1=l)(X:K.In h)
  (hf:alongIn K name l=some (some (.builtin id)))(hxC:x≠C)(hn:(name == ("__class__" : Str))=false)
  (hq:Q (.done (.ret (.ref h.objs.size))) ⟨h.push (Df bt id x),g,d,t,os⟩) :
  wpAny (model prog w) A (Builtin.«super.__getattribute__» ⟨[.ref so,.str name tk],[]⟩) Q E ⟨h,g,d,t,os⟩:=by
 have hlk:=B.slot.lookup;have hne:(Value.ref x == Value.ref C)=false:=by simp[hxC]
 have hTf:(⟨h,g,d,t,os⟩:Shared).TypeIs (.builtin id) dt:=B.ty;have hdt:(supObj D x C).data=.fields #[.ref D,.ref x,.ref C]:=rfl;have f0:(#[.ref D,.ref x,.ref C]:Array Value)[0]?=some (.ref D):=rfl;have f1:(#[.ref D,.ref x,.ref C]:Array Value)[1]?=some (.ref x):=rfl;have f2:(#[.ref D,.ref x,.ref C]:Array Value)[2]?=some (.ref C):=rfl;unfold Builtin.«super.__getattribute__»
 repeat (first
  |(with_reducible refine wpAny_field hso hdt f0 ?_) | (with_reducible refine wpAny_field hso hdt f1 ?_) | (with_reducible refine wpAny_field hso hdt f2 ?_)
  |(with_reducible refine ks_wpAny_notOpaque hno ?_)
  |(with_reducible refine Looks.at hC ?_;refine rz (hl ..) ?_)
  |(refine ks_forIn_along X (fun V V=>rfl) rfl ?_ hf)
  |(with_reducible refine wpAny_typeOf hTf ?_)
  |(with_reducible refine wpAny_call_entry B.slot hTf B.entry ?_ (B.args _ _ _))
  |(with_reducible refine B.run _ _ _ _ _ _ _ _ hi ?_)
  |(simp only[hn,hne,Bool.or_false,Bool.false_eq_true,if_false])
  |wp_step
  |dsimp only)
 all_goals exact hq
theorem F0{so D x C:Addr}{l₀ l:List Value}{K:Frag}{name:Str}{pl:Sem Bool}{dt gid bt id:String}{Q:Value × List Value→Shared→Prop}(B:SupB dt gid bt id)
  (hso:h.get? so=some (supObj D x C))(hno:Looks (model prog w) h (opaqueClassAbove (.ref C)) none)(hi:Looks (model prog w) h (isInstance (.ref x) (.type "list")) true)
  (hC:Looks (model prog w) h (mroOf (.ref C)) l₀)(hl:(l₀.dropWhile (· != .ref D)).drop 1=l)(X:K.In h)
  (hf:alongIn K name l=some (some (.builtin id)))(hxC:x≠C)(hn:(name == ("__class__" : Str))=false)
  (hq:Q (.ref h.objs.size,[]) ⟨h.push (Df bt id x),g,d,t+1,os⟩) :
  wpAny (model prog w) A (getMethod (.ref so) name pl) Q E ⟨h,g,d,t,os⟩:=by
 have hlk:=F.ks_slot_super_ga.lookup;have hcan:=F.ks_canon_super_ga;have hT:∀ t',(⟨h,g,d,t',os⟩:Shared).TypeIs (.ref so) "super" := fun V=>⟨_,hso,rfl⟩
 unfold getMethod;refine wpAny_bind (wpAny_specialOf (hT _) hlk ?_)
 show wpAny _ _ (if (Manifest.canonical "super.__getattribute__" != "object.__getattribute__")=true then _ else _) _ _ _
 refine rz (if_pos hcan ..) ?_;unfold getAttr getAttrBy;refine wpAny_bind (wpAny_bind (wpAny_mkText (wpAny_holding (wpAny_bind (wpAny_typeOf (hT _) (wpAny_bind (wpAny_of_eq hlk ?_)))))))
 show wpAny _ _ (getAttrByItsOwn (.ref so) (.str name t) (.type "super") (.builtin "super.__getattribute__") true false) _ _ _
 unfold getAttrByItsOwn hookBefore callGetattribute boundAndCalled;refine wpAny_bind (wpAny_of_eq (show(if onTheHeap (.type "super") then typeLookup (.type "super") "__getattr__" else pure none)=pure none from rfl) ?_)
 refine wpAny_bind (wpAny_attempt (wpAny_holding ?_))
 show wpAny _ _ (bindSpecial (.builtin "super.__getattribute__") (.ref so) >>= _) _ _ _
 refine wpAny_bind (wpAny_of_eq (F.ks_slot_super_ga.bind _) ?_);refine wpAny_mono (Q:=fun v s'=>v=.ref h.objs.size∧s'=⟨h.push (Df bt id x),g,d,t+1,os⟩) (E:=fun V V=>False)
  (wpAny_call_entry F.ks_slot_super_ga (hT _) F.ks_entry_super_ga (super_ga_b B hso hno hi hC hl X hf hxC hn ⟨_,rfl,rfl,rfl⟩) (F.ks_gaArgs_super _ _)) (fun v s' hv=>?_) fun V V z=>z.elim
 obtain⟨rfl,rfl⟩:=hv;exact wpAny_pure (wpAny_pure hq)
end
section
variable{prog:Program}{w:World}{A:Around}{E:VP}{c:Cx}{X X' B:Xs}{T T':Ts}{s s':Shared}{env:Env}
end
noncomputable def Dv(prog:Program)(K:Frag)(cc:Addr):Bool:=fldB (fun vs=>strB (fun f=>(prog.main.file:Str) == f) (vs[2]? : Option Value)) (K.lookup cc)
structure KOk2(prog:Program)(K:Frag):Prop extends KOk K where
 tp:nsIn K cStatics "thirdparty.any" = some none
 d30:K.lookup 30=some ⟨.type "tuple",none,.seq #[.int 0 210] 0,#[]⟩
 c25:K.lookup 25=some ⟨.type "cell",none,.cell (some (.ref 101)),#[]⟩
 cfile:Dv prog K 37=true∧Dv prog K 60=true∧Dv prog K 97=true
 top:(prog.main.scope.names.lookup ("super" : Str)).isSome=false
 cq:(clsIn K 101).map (·.qualname)=some "_Accumulator"
 ct:typeIn K (.ref 101)=some (.type "type")
 ap:findIn K (.ref 101) "append" = some (some (.builtin "list.append"))
 ir:findIn K (.ref 101) "__iter__" = some (some (.builtin "list.__iter__"))
section
variable{prog:Program}{w:World}{A:Around}{E:VP}{c:Cx}{X X':Xs}{T:Ts}{s:Shared}{x dx:Addr}{ds:Lp}{Q:VP}{ρ ρ':Od}
theorem sup_call{body:List Stmt}{name:Str}{dt gid bt id:String}{fd:FuncData}{f L cc:Addr}{names:Nk}{p0 p1 apos pos:Pos}{ar:Arg}(B:SupB dt gid bt id)(H:KOk2 prog c.K)(S:St c X T s)(hx:(x,Knd.seq (.ref 101) (some dx) ds)∈X)
  (hE:EnvOk (fnEnv fd L f) L names [("__class__",25)])(hL:(L,Knd.map ρ)∈X)(hself:(("self" : Str),some (Rf x))∈ρ)(h1:(("self" : Str),NameKind.local)∈names)(h2:(("__class__" : Str),NameKind.free)∈names)(h3:(("super" : Str),NameKind.globalImplicit)∈names)
  (hf:(f,fd)∈Bz)(hp:(fd.params.posonlyargs++fd.params.args).head? = some ar)(har:ar.arg = "self")(hcode:fd.code=.ref cc)(hcc:Dv prog c.K cc=true)
  (hal:alongIn c.K name [.type "list",.type "object"]=some (some (.builtin id)))(hn:(name == ("__class__" : Str))=false)
  (hbt:(bt != "method" && (bt == "builtin_function_or_method" || bt == "method-wrapper"))=true)
  (k:∀ q s',St c X T s'→s'.heap.get? q=some (Df bt id x)→wpAny (model prog w) A (call (.ref q) []) Q E s')
  (he:∀ env,eval (.Call (.Attribute (.Call (.Name "super" p0) [] [] p1) name apos) [] [] pos) env=(do
   let ov ← attributeBase (.Call (.Name "super" p0) [] [] p1) name env (eval (.Call (.Name "super" p0) [] [] p1) env)
   standAt apos.atName
   let (f,first) ← holding [ov] (getMethod ov name (do return (← importBound (.Call (.Name "super" p0) [] [] p1) env).getD true))
   callWith pos f first (backTo pos (starEach [] env)) [])) :
  _root_.PySem.wpAt (model prog w) A (.func body (fnEnv fd L f)) (eval (.Call (.Attribute (.Call (.Name "super" p0) [] [] p1) name apos) [] [] pos) (fnEnv fd L f)) Q E s:=by
 refine ks_wpAt_MethodCall ?_ (he _);have KX:=S.stat;have hfn:=KX _ _ (H.fn _ hf).1;obtain⟨ccl,cdd,ccs,vs,file,tf,hco,hvs,hfile⟩:∃ a b d vs file tf,c.K.lookup cc=some ⟨a,b,.fields vs,d⟩∧vs[2]?=some (.str file tf)∧((prog.main.file:Str) == file)=true:=by
  obtain⟨a,b,vs,d,h,e⟩:=fldB_of hcc;obtain⟨y,t,h2,e⟩:=strB_of e;exact⟨a,b,d,vs,y,t,h,h2,e⟩
 obtain⟨cd,hcd,hmro⟩:=Option.map_eq_some_iff.mp H.mro.1;have hsup:=H.blt ("super",.type "super") (by unfold Fo;repeat first | exact mem_cons_self | apply mem_cons_of_mem)
 obtain⟨m,vself,hns,hm,hr⟩:=S.look hL hself;have ev:vself=.ref x:=by
  cases hr with
  |raw a=>rfl
 subst ev;obtain⟨vs',n',hxo,_⟩:=S.own _ hx;obtain⟨oD,hD1,hD2⟩:∃ oD,s.heap.get? 101=some oD∧oD.data=.cls cd:=by
  obtain⟨a,d,sl,ho⟩:=clsIn_obj hcd;exact⟨_,KX _ _ ho,rfl⟩
 have hne:x≠101:=by
  rintro rfl;rw[hD1] at hxo;cases hxo
  cases hD2
 obtain⟨hh,g,d,t,os⟩:=s;have key:∀ {env:Env},env=fnEnv fd L f→wpAny (model prog w) A (loadName env "super") (fun g s₁=>g=.type "super" ∧ wpAny (model prog w) A (loadName env "__class__") (fun cls s₂=>wpAny (model prog w) A (loadName env ar.arg) (fun self s₃ =>
   wpAny (model prog w) A (isType cls) (fun b s₄=>b=true∧wpAny (model prog w) A (call (.type "super") [cls,self]) (fun ov s₁=>wpAny (model prog w) A (getMethod ov name (do return (← importBound (.Call (.Name "super" p0) [] [] p1) env).getD true)) (fun fx s₂=>wpAny (model prog w) A (callWith pos fx.1 fx.2 (backTo pos (starEach [] env)) []) Q E s₂) E s₁) E s₄) E s₃) E s₂) E s₁) E ⟨hh,g,d,t,os⟩:=by
  rintro env rfl;refine rz (loadName_read hE.kind (hE.kindOf h3) ..) ?_;unfold loadGlobal;refine rz (hE.glo ..) <| rz (hE.blt ..) <| wpAny_bind ((looks_nsIn KX hsup.1).here ?_)
  refine wpAny_bind ((looks_nsIn KX hsup.2).here (wpAny_pure ⟨rfl,?_⟩));refine wpAny_loadName_free hE.kind (hE.kindOf h2) (by refine rz (hE.cls ..) ?_;rfl) ⟨_,KX _ _ H.c25,rfl⟩ ?_
  refine rz (har ..) <| wpAny_loadName_local hE.kind (hE.kindOf h1) (hE.loc▸hns) hm ?_
  refine ks_wpAny_isType_cls hD1 hD2 ⟨rfl,?_⟩;refine ks_wpAny_call_super (C:=101) hD1 hD2 hxo rfl (fun V e=>by cases e) (looks_mroIn KX (by unfold mroIn;refine rz (hcd ..) <| rz (Option.bind_some ..) <| rz (hmro ..) ?_;rfl)) (fun h' e kp=>?_)
  have hl:Looks (model prog w) h' (mroOf (.ref 101)) [.ref 101,.type "list",.type "object"]:=hmro▸(looks_clsIn (KX.keeps kp) hcd).andThen .now;refine F0 B e (looks_opaque (KX.keeps kp) H.tp) (is_list (c:=c) (KX.keeps kp) H.subF (kp _ _ hxo) rfl) hl rfl (KX.keeps kp) hal hne hn ?_;have hb:(h'.push (Df bt id x)).get? h'.objs.size=some (Df bt id x):=Heap.get?_push_size _ rfl;have S':St c X T ⟨h'.push (Df bt id x),g,d,t+1,os⟩:=S.ext (fun b o e=>Heap.get?_push_of_some _ (kp b o e)) S.gens rfl
  simp only[Bool.and_eq_true,Bool.or_eq_true,beq_iff_eq,bne_iff_ne,ne_eq] at hbt;refine callWith_of (P:=fun h=>h.get? h'.objs.size=some (Df bt id x)) rfl (fun h2 e2=>⟨.machine,.inr (.inl rfl),(Looks.ld (part:=none) e2).andThen ?_⟩) (evalArgs_nil3 ⟨hb,k _ _ S' hb⟩)
  dsimp only;refine rz (if_pos (by simp[hbt.1]) ..) <| rz (if_pos (by rcases hbt.2 with q | q<;>simp[q]) ..) <| .now
 exact ks_wpAt_super_base (hE.kindOf h3) (hE.kindOf h2) hn rfl hfn rfl hp hcode (KX _ _ hco) rfl hvs hfile H.top (key rfl)
theorem F4{q:Addr}{id bt:String}{B:Builtin}{S:PySem.Spec}(hb:s.heap.get? q=some (Df bt id x))(hbt:(bt != "method" && (bt == "builtin_function_or_method" || bt == "method-wrapper"))=true)(plain:plainId id=true)(entry:entryFor table id=some B)
  (chk:∀ (A':Around) (Q':Unit→Shared→Prop) (E':VP),Q' () s→wpAny (model prog w) A' (checkBoundCall id ⟨[.ref x],[]⟩) Q' E' s)(g:Meets (B ⟨[.ref x],[]⟩) S)(h:S A (wants Q E) s):wpAny (model prog w) A (call (.ref q) []) Q E s:=by
 simp only[Bool.and_eq_true,Bool.or_eq_true,beq_iff_eq,bne_iff_ne,ne_eq] at hbt;refine wpAny_call (codeAny_of_tree ?_)
 show wpAny _ A.in1 (callAny (.ref q) ⟨[],[]⟩) _ _ _
 unfold callAny;refine wpAny_bind (wpAny_load hb ?_);dsimp only;refine rz (if_pos (by rcases hbt.2 with q | q<;>simp[q]) ..) ?_
 simp only[show(#[Value.builtin id,Value.ref x]:Array Value)[0]?=some (.builtin id) from rfl,show(#[Value.builtin id,Value.ref x]:Array Value)[1]?=some (.ref x) from rfl]
 refine rz (if_pos (by simp[hbt.1]) ..) <| wpAny_bind (chk _ _ _ ?_)
 refine wpAny_bind (wpAny_pure (wpAny_pure ⟨plainId_quiet plain _,codeAny_builtin entry ?_⟩));refine rz (Around.under_plainId plain _ ..) <| g prog w A (wants Q E) s h
theorem chk_slot{id:String}{v:Value}(hk:builtinKind id=some .slot)(ha:argsOk id ⟨[v],[]⟩)(A':Around)(Q':Unit→Shared→Prop)(E':VP)(q:Q' () s):wpAny (model prog w) A' (checkBoundCall id ⟨[v],[]⟩) Q' E' s:=by
 unfold checkBoundCall;cases hsig:Manifest.signature? id with
 |none=>exact wpAny_pure q
 |some sig =>
  simp only[argsOk,hsig] at ha;have h2:Bind.checkArgs id sig ⟨[v],[]⟩=pure ():=ha
  dsimp only;refine rz (hk ..) ?_;dsimp only;refine rz (if_pos (by decide) ..) <| rz (h2 ..) <| wpAny_pure q
theorem popSig(v:Value):∃ sig,Manifest.signature? "list.pop" = some sig∧∀ own:String,own = "_Accumulator" → Bind.checkArgs "list.pop" { sig with full:=s!"{own}.{Bind.lastOf "list.pop"}" } ⟨[v],[]⟩=pure ():=by
 cases e:Manifest.signature? "list.pop" with
 |none=>exact absurd e (by decide +kernel)
 |some sig =>
  refine⟨sig,rfl,fun own ho=>?_⟩
  subst ho;have:(Manifest.signature? "list.pop").map (fun sig=>Bind.checkArgs "list.pop" { sig with full:=s!"{"_Accumulator"}.{Bind.lastOf "list.pop"}" } ⟨[v],[]⟩)=some (pure ()):=by kernel_rfl
  rw[e] at this;exact Option.some.inj this
theorem chk_pop(H:KOk2 prog c.K)(S:St c X T s)(hx:(x,Knd.seq (.ref 101) (some dx) ds)∈X)(A':Around)(Q':Unit→Shared→Prop)(E':VP)(q:Q' () s):wpAny (model prog w) A' (checkBoundCall "list.pop" ⟨[.ref x],[]⟩) Q' E' s:=by
 obtain⟨vs',n',hxo,_⟩:=S.own _ hx;obtain⟨cd,hcd,hmro⟩:=Option.map_eq_some_iff.mp H.mro.1;have hq:=H.cq;rw[hcd] at hq;have hq:cd.qualname = "_Accumulator" := Option.some.inj hq
 obtain⟨sig,hsig,hch⟩:=popSig (.ref x);have KX:=S.stat;have hto:Looks (model prog w) s.heap (typeOf (.ref x)) (.ref 101):=(Looks.ld hxo).andThen .now;have him:Looks (model prog w) s.heap (isInstance (.ref x) (.type "module")) false:=hto.andThen (looks_mroIn KX (by unfold mroIn;refine rz (hcd ..) <| rz (Option.bind_some ..) <| rz (hmro ..) ?_;rfl))
 unfold checkBoundCall;refine rz (hsig ..) ?_;dsimp only;refine rz (show builtinKind "list.pop" = some .method by decide +kernel) ?_
 dsimp only;refine rz (if_neg (by decide) ..) <| wpAny_bind (him.here ?_)
 have hv:Manifest.varargsMethods.contains "list.pop" = false:=by decide +kernel
 refine rz (if_neg (by rw[hv];decide) ..) ?_
 obtain⟨hh,g,d,t,os⟩:=s;refine wpAny_bind (ks_wpAny_isType_inst hxo (fun V e=>by cases e) ?_)
 refine rz (if_neg (by decide) ..) <| wpAny_bind (hto.here ?_)
 dsimp only;refine wpAny_bind ((looks_clsIn KX hcd).here ?_);refine wpAny_bind ((looks_typeIn KX H.ct).here ?_);refine rz (if_pos (by decide) ..) <| rz (hch _ (by rw[hq];decide +kernel) ..) <| wpAny_pure q
theorem b_len{q:Addr}(S:St c X T s)(F:SubF c.K 101)(hb:s.heap.get? q=some (Df "method-wrapper" "list.__len__" x))(hx:(x,Knd.seq (.ref 101) (some dx) ds)∈X)(k:∀ t s',St c X T s'→Q (.int ds.length t) s'):wpAny (model prog w) A (call (.ref q) []) Q E s:=by
 obtain⟨vs,n,ho,hr⟩:=S.own _ hx;have e:vs.size=ds.length:=by simpa using hr.length
 refine F4 hb (by decide +kernel) PySem.F.slot_list_len.plain PySem.F.entry_list_len (chk_slot (by decide +kernel) (PySem.F.args_list_len_1 _)) (sub_len x 101 dx vs n) ⟨ho,?_⟩
 refine rz (e ..) <| k _ _ (S.toks _)
theorem b_init{q:Addr}(S:St c X T s)(F:SubF c.K 101)(hb:s.heap.get? q=some (Df "method-wrapper" "list.__init__" x))(hx:(x,Knd.seq (.ref 101) (some dx) [])∈X)(k:Kon c X T .none Q):wpAny (model prog w) A (call (.ref q) []) Q E s:=by
 obtain⟨vs,n,ho,hr⟩:=S.own _ hx;have e:vs=#[]:=by
  have e:vs.size=0:=by simpa using hr.length
  exact Array.eq_empty_of_size_eq_zero e
 subst e;refine F4 hb (by decide +kernel) PySem.F.slot_list_init.plain PySem.F.entry_list_init (chk_slot (by decide +kernel) (PySem.F.args_list_init_1 _)) (sub_init x 101 dx n) ⟨ho,k _ _ (St.push ?_ .none)⟩
 have hu:(s.heap.update x (Obj.mapSeq fun V=>#[])).get? x=some (subL 101 dx #[] n):=Heap.get?_update_self _ ho rfl
 refine S.extH (t:=s.toks) fun b o e=>?_
 by_cases h:b=x
 ·subst h;rw[ho] at e;cases e
  exact hu
 ·exact(Heap.get?_update_other _ _ (Ne.symm h)).trans e
theorem b_pop{q:Addr}{d:PyData}(H:KOk2 prog c.K)(S:St c X T s)(hb:s.heap.get? q=some (Df "builtin_function_or_method" "list.pop" x))(U:Ups x (.seq (.ref 101) (some dx) (ds++[d])) (.seq (.ref 101) (some dx) ds) X X')(hz:ds.length≤100000)(h:Kon c X' T d Q) :
  wpAny (model prog w) A (call (.ref q) []) Q E s:=by
 obtain⟨vs,n,ho,hr⟩:=S.own _ U.mem;have e:vs.size=ds.length+1:=by simpa using hr.length
 obtain⟨y,hy,ry⟩:=hr.get (i:=ds.length) (d:=d) (by simp)
 have hy':vs[vs.size-1]?=some y:=by refine rz (e ..) ?_;simpa using hy
 have hk:∀ b o,b≠x→s.heap.get? b=some o→(s.heap.update x (Obj.mapSeq fun xs=>xs.eraseIdxIfInBounds (vs.size-1))).get? b=some o:=fun b o ne e=>(Heap.get?_update_other _ _ (Ne.symm ne)).trans e
 refine F4 hb (by decide +kernel) PySem.F.slot_list_pop.plain PySem.F.entry_list_pop (chk_pop H S U.mem) (sub_pop x 101 dx vs n y hy' (rz (e ..) <| rz (sizeLine_eq ..) <| (ar [_] (.a Aa Ad) Aq (.c 1 Aa A1 .z) 0 rfl hz))) ⟨ho,h _ _ ?_⟩
 refine(S.step (t:=s.toks) U hk ⟨_,_,Heap.get?_update_self _ ho rfl,?_⟩).push (S.rpUps U hk ry);have hr':=hr.mono (P':=ban c X') (h':=s.heap.update x (Obj.mapSeq fun xs=>xs.eraseIdxIfInBounds (vs.size-1))) (fun b o V q=>by unfold ban at q⊢;rw[U.keys] at q;exact q) (fun b o n e=>hk b o (fun q=>n (q▸.inr (List.mem_map.mpr ⟨_,U.mem,rfl⟩))) e)
 have el:vs.toList=vs.toList.take ds.length++[y]:=by
  have h1:vs.toList.length=ds.length+1:=by simpa using e
  have h2:vs.toList[ds.length]?=some y:=hy;have:=take_append_drop ds.length vs.toList;rw[drop_eq_getElem_cons (le_of_eq h1.symm),drop_of_length_le (le_of_eq h1)] at this;obtain⟨h3,h4⟩:=List.getElem?_eq_some_iff.mp h2
  rw[h4] at this;exact this.symm
 have e2:(vs.eraseIdxIfInBounds (vs.size-1)).toList=vs.toList.take ds.length:=by
  rw[Array.eraseIdxIfInBounds,dif_pos (by exact(le_of_eq (sub_add_cancel (ar [_,_] Ad Ab (.c 1 (.a Aa Ad) Ab .z) 0 rfl (le_of_eq e.symm))))),Array.toList_eraseIdx,e]
  have h1:vs.toList.length=ds.length+1:=by simpa using e
  refine rz (Nat.add_sub_cancel ..) <| rz (eraseIdx_eq_take_drop_succ ..) <| rz (drop_of_length_le (le_of_eq h1) ..) <| rz (append_nil ..) rfl
 refine rz (e2 ..) ?_;rw[el] at hr'
 refine hr'.left ?_;have:vs.toList.length=ds.length+1:=by simpa using e
 refine rz (length_take ..) ?_;omega
theorem at_cons{M:Model}{env:Env}{cd:Code}{st:Stmt}{rest:List Stmt}{Q:Flow→Shared→Prop}(h:wpAny M A (execs [st] env) (fun f s'=>match f with | .next=>_root_.PySem.wpAt M A cd (execs rest env) Q E s' | f=>Q f s') E s) :
  _root_.PySem.wpAt M A cd (execs (st::rest) env) Q E s:=fun Γ p hc hΓ=>by
 refine rz (execs_cons ..) <| rz (Sem.wp_bind' ..) ?_
 have h1:=h Γ p hΓ;rw[execs_cons,Sem.wp_bind'] at h1;refine Sem.wp_mono M Γ _ (fun f p' s' h'=>?_) (fun V V V h'=>h') _ _ h1
 cases f with
 |next =>
  rw[execs_nil,Sem.wp_pure'] at h'
  exact h' Γ p' hc hΓ
 |_=>simpa only[Sem.wp_pure'] using h'
theorem at_ret{M:Model}{env:Env}{cd:Code}{e:Expr}{pos:Pos}{Q:Flow→Shared→Prop}(h:_root_.PySem.wpAt M A cd (eval e env) (fun v=>Q (.ret v)) E s):_root_.PySem.wpAt M A cd (execs [.Return (some e) pos] env) Q E s:=ks_wpAt_execs_cons (ks_wpAt_Return_some h)
theorem at_expr{env:Env}{cd:Code}{e:Expr}{pos:Pos}{Q:Flow→Shared→Prop}(h:_root_.PySem.wpAt (model prog w) A cd (eval e env) (fun V=>Q .next) E s)(hi:interactive env=false)(hs:swapsWith e none pos.line env=pure false) :
  _root_.PySem.wpAt (model prog w) A cd (execs [.Expr e pos] env) Q E s:=ks_wpAt_execs_cons (ks_wpAt_Expr_any (ks_wpAt_mono h (fun V s' h'=>by
   show _root_.PySem.wpAt _ _ _ (execs [] env) Q E s'
   refine rz (execs_nil ..) <| wpAt_of_wpAny (wpAny_pure h')) fun V V e=>e) hi hs)
theorem law_fnA{K:Frag}(H:KOk2 prog K){n:Nat}{f:Addr}{B:Xs}{ds dd:Lp}{dv:List Value}{post:PyData→Xs→Prop}{fd:FuncData}{body:List Stmt}(params:List Str)(names:Nk)(X0:Addr→Xs)
  (hf:(f,fd)∈Bz)(hd:FdOk fd body)(hnames:fd.scope.names=names)(hnd:(names.map (·.1)).Nodup)
  (hdv:∀ P (h:Heap),Rps P h dv dd)(hbind:∀ (vs:List Value) (A:Around) (s:Shared) (E:VP) (Q:List (Str × Value)→Shared→Prop),vs.length=ds.length→K.In s.heap→Q (params.zip (vs++dv)) s→wpAny (model prog w) A (bindArgs fd ⟨vs,[]⟩) Q E s)(hpk:∀ x∈params,(x,NameKind.local)∈names∨(x,NameKind.cell)∈names)
  (hclo:fd.closure=[(("__class__" : Str),25)])(hfr:(("__class__" : Str),NameKind.free)∈names)(hcells:∀ L,cellsFrom (L+1) names [(("__class__" : Str),25)]=[(("__class__" : Str),25)])
  (hX0:∀ L,X0 L=(L,.map (Be names ((params.zip (ds++dd)).reverse)))::Bm L names ((params.zip (ds++dd)).reverse))
  (h:∀ A c s L,OkA n A→KOk2 prog c.K→c.K=K→St c (X0 L++B) [] s→EnvOk (fnEnv fd L f) L names [("__class__",25)]→_root_.PySem.wpAt (model prog w) A (.func body (fnEnv fd L f)) (execs body (fnEnv fd L f)) (fun fl s'=>∃ Z T d B',post d B'∧St c (Z++B') T s'∧Rp (ban c (Z++B')) s'.heap (match fl with | .ret v=>v | _=>.none) d) (fun V V=>False) s)
  (hpost:∀ d B',post d B'→∀ p∈B,p.1∈B'.map (·.1)):Fn prog w K (n+1) f B ds post:=by
 refine fn_introA params names X0 (fun V=>[(("__class__" : Str),25)]) (fun c X T s hK S=>⟨S.stat _ _ (hK▸(H.fn _ hf).1),codeRec_of (hK▸S.stat:K.In s.heap) (H.fn _ hf).2⟩) H.lim hpost hd hnames hnd hdv hbind hpk (by refine rz (hclo ..) ?_;intro q hq;refine rz (List.mem_singleton.mp hq ..) <| hfr) (rz (hclo ..) <| List.nodup_cons.mpr ⟨by simp,nodup_nil⟩) hX0 (rz (hclo ..) <| fun L=>(hcells L).symm) (fun A c T s L oA hK S hE=>?_)
 refine ks_wpAt_mono (h A c s L oA (hK▸H) hK S.nil hE) (fun fl s' h'=>?_) fun V V e=>e
 obtain⟨Z,T,d,B',hp,S',r⟩:=h';exact⟨Z,d,B',hp,S'.nil.push r⟩
theorem g_acca{pl:Sem Bool}{Q:Value × List Value→Shared→Prop}(H2:KOk2 prog c.K)(S:St c X T s)(hi:(x,Knd.seq (.ref 101) (some dx) ds)∈X)(hd:(dx,Knd.obj ρ)∈X)(hk:ρ.map (·.1)=Dy)(h:Q (.builtin "list.append",[.ref x]) s) :
  wpAny (model prog w) A (getMethod (.ref x) "append" pl) Q E s:=by
 have hn:("append" : Str)∉Dy:=by decide +kernel
 rw[← hk] at hn;have hc:(101,"list.__getattribute__",_,_)∈clTab:=.head _
 exact g_meth S (.inr ⟨_,hi⟩) hd (fun d hd=>hn (List.mem_map.mpr ⟨_,hd,rfl⟩)) (H2.clF hc).1 (by decide +kernel) H2.ap (tf:=.type "method_descriptor") (by kernel_rfl) (by decide +kernel) h
theorem KOk.acc{K:Frag}(H:KOk K):ClF K 101 "list.__getattribute__" ∧ SetF K 101∧∀ n∈Dy,findIn K (.ref 101) n=some none :=
 have h:(101,"list.__getattribute__",_,_)∈clTab:=.head _
 ⟨(H.clF h).1,H.setF h,(H.clF h).2.2⟩
theorem s_acc{v:Value}{d:PyData}{name:Str}{Q:Unit→Shared→Prop}(H:KOk c.K)(S:St c X T s)(hi:(x,Knd.seq (.ref 101) (some dx) ds)∈X)(hv:Rp (ban c X) s.heap v d)(U:Ups dx (.obj ρ) (.obj ρ') X X')(P:Put name (some d) ρ ρ')(hw:name∈Dy)(k:∀ s',St c X' T s'→Q () s') :
  wpAny (model prog w) A (setAttr (.ref x) name v) Q E s:=g_setattr S (.inr ⟨_,hi⟩) U P hv H.acc.1 H.acc.2.1 (H.acc.2.2 _ hw) k
end
end Mine
end
section
open Builtin Builtin.ObjectAttr
namespace Mine
section
variable{prog:Program}{w:World}{A:Around}{E:VP}{s:Shared}{it l:Addr}{i n:Nat}{items:Array Value}{o:Obj}
theorem seq_next{x:Value}{Q:Option Value→Shared→Prop}(hit:s.heap.IsListIter it l i)(hl:s.heap.get? l=some o)(hd:o.data=.seq items n)(hx:items[i]?=some x)(hQ:∀ h',h'.IsListIter it l (i+1)→Heap.SameBut it s.heap h'→Q (some x) { s with heap:=h' }) :
  wpAny (model prog w) A (pyNext (.ref it)) Q E s:=by
 obtain⟨oi,ho,hc,hdi⟩:=id hit;unfold pyNext;refine wpAny_bind (wpAny_attempt (wpAny_callSpecial?_slot (name:=Str.ofString "__next__") hit.typeIs slot_listiter_next (wpAny_call_entry slot_listiter_next hit.typeIs entry_listiter_next ?_ (args_listiter_next _))));unfold Builtin.«list_iterator.__next__»;refine wpAny_bind (wpAny_pure (wpAny_bind (wpAny_field ho hdi (x:=.ref l) rfl ?_)));dsimp only;refine rz (if_neg (show ¬ ((Value.ref l == Value.none)=true) from Bool.false_ne_true) ..) <| wpAny_bind (wpAny_field ho hdi (x:=.int i 0) rfl ?_)
 refine wpAny_bind (wpAny_seqItems hl hd ?_);simp only[toNat_natCast,hx];refine wpAny_bind (wpAny_setField ho hdi (by simp) (wpAny_pure ⟨x,rfl,wpAny_pure (hQ _ ?_ (Heap.SameBut.update ..))⟩))
 exact⟨_,Heap.get?_update_self _ ho (Obj.isFreed_of_fields (Obj.data_mapFields hdi _)),(Obj.cls_mapFields ..).trans hc,by refine rz (Obj.data_mapFields hdi ..) ?_;simp[rawInt]⟩
theorem seq_end{Q:Option Value→Shared→Prop}(hh:A.handled=none)(hit:s.heap.IsListIter it l i)(hl:s.heap.get? l=some o)(hd:o.data=.seq items n)(hx:items[i]?=none)(hQ:∀ h',Heap.ExtBut it s.heap h'→Q none { s with heap:=h' }):wpAny (model prog w) A (pyNext (.ref it)) Q E s:=by
 obtain⟨oi,ho,hc,hdi⟩:=id hit;unfold pyNext;refine wpAny_bind (wpAny_attempt (wpAny_callSpecial?_slot (name:=Str.ofString "__next__") hit.typeIs slot_listiter_next (wpAny_call_entry slot_listiter_next hit.typeIs entry_listiter_next ?_ (args_listiter_next _))));unfold Builtin.«list_iterator.__next__»;refine wpAny_bind (wpAny_pure (wpAny_bind (wpAny_field ho hdi (x:=.ref l) rfl ?_)));dsimp only;refine rz (if_neg (show ¬ ((Value.ref l == Value.none)=true) from Bool.false_ne_true) ..) <| wpAny_bind (wpAny_field ho hdi (x:=.int i 0) rfl ?_)
 refine wpAny_bind (wpAny_seqItems hl hd ?_);simp only[toNat_natCast,hx];refine wpAny_bind (wpAny_rule (wpAny_bind (wpAny_setField ho hdi (by simp) ?_)))
 exact stop_end (A:=A.in1) hh fun h' hk=>hQ h' fun b o' hb e=>hk b o' ((Heap.get?_update_other _ _ (Ne.symm hb)).trans e)
end
def PileN(h:Heap)(N l:Addr)(ps:List (Str × Str)):Prop:=∃ o vs n,l<N∧h.get? l=some o∧o.data=.seq vs n∧vs.size=ps.length∧∀ (i:Nat) (p:Str × Str),ps[i]?=some p→∃ T t u,vs[i]?=some (.ref T)∧T<N∧h.IsTuple T #[.str p.1 t,.str p.2 u]
theorem PileN.keeps{h h':Heap}{N l:Addr}{ps:List (Str × Str)}(H:PileN h N l ps)(hk:∀ b o,b<N→h.get? b=some o→h'.get? b=some o):PileN h' N l ps:=by
 obtain⟨o,vs,n,h1,h2,h3,h4,h5⟩:=H;refine⟨o,vs,n,h1,hk _ _ h1 h2,h3,h4,fun i p hp=>?_⟩
 obtain⟨T,t,u,e1,e2,ot,e3,e4⟩:=h5 i p hp;exact⟨T,t,u,e1,e2,ot,hk _ _ e2 e3,e4⟩
theorem pile_walks{prog:Program}{w:World}{A:Around}(hh:A.handled=none)(I l N:Addr)(ps:List (Str × Str))(hI:N≤I)(M:Addr)(hM:I<M) :
  WalksU prog w A I (List.range M) [I] ps.length (fun i vals=>∃ p t u,ps[i]?=some p∧vals=#[.str p.1 t,.str p.2 u]) (fun i h=>h.IsListIter I l i∧PileN h N l ps) (fun i T h=>(h.IsListIter I l (i+1)∧PileN h N l ps)∧T<N) where
 sub:=fun b hb=>by refine rz (List.mem_singleton.mp hb ..) <| List.mem_range.mpr hM
 frame:=fun i h h' st hk=>⟨let ⟨o,ho,r⟩:=st.1;⟨o,hk I (List.mem_range.mpr hM) o ho,r⟩,st.2.keeps fun b o hb e=>hk b (List.mem_range.mpr (lt_trans (lt_of_lt_of_le hb hI) hM)) o e⟩
 item:=fun i s Q E hi st hQ=>by
  obtain⟨o,vs,n,h1,h2,h3,h4,h5⟩:=st.2;obtain⟨T,t,u,e1,e2,e3⟩:=h5 i ps[i] (List.getElem?_eq_getElem hi);refine seq_next st.1 h2 h3 e1 fun h' hit hs=>?_
  have hk:∀ b o,b<N→s.heap.get? b=some o→h'.get? b=some o:=fun b o hb e=>hs.extBut b o (ne_of_lt (lt_of_lt_of_le hb hI)) e
  have e3':h'.IsTuple T #[.str ps[i].1 t,.str ps[i].2 u]:=let ⟨ot,a1,a2⟩:=e3;⟨ot,hk _ _ e2 a1,a2⟩
  exact hQ T _ h' s.toks ⟨ps[i],t,u,List.getElem?_eq_getElem hi,rfl⟩ e3' ⟨⟨hit,st.2.keeps hk⟩,e2⟩ fun b o hb e=>hs.extBut b o (fun q=>hb (rz (q ..) <| List.mem_singleton.mpr rfl)) e
 go:=fun elts k pos i T s Q E hm hQ=>by
  obtain⟨o,ho,hc,_⟩:=hm.1.1;exact Fj ho hc (by decide) (hQ s.heap hm.1 fun V V V e=>e)
 apart:=fun i T h hm hb=>by
  rw[List.mem_singleton.mp hb] at hm;exact absurd hm.2 (Nat.not_lt.mpr hI)
 done:=fun s Q E st hQ=>by
  obtain⟨o,vs,n,h1,h2,h3,h4,h5⟩:=st.2;refine seq_end hh st.1 h2 h3 (by refine rz (Eq.symm (h4 ..)) <| Array.getElem?_eq_none (le_refl _)) fun h' hs=>hQ h' s.toks fun b o hb e=>hs b o (fun q=>hb (rz (q ..) <| List.mem_singleton.mpr rfl)) e
 self:=fun i s Q E st hQ=>wpAny_pyIter_listiter st.1 hQ
noncomputable abbrev TabK:Knd:=.is fun o=>∃ r:Array Value,o=tabObj r∧TriplesOk r.toList
theorem ups_same{a:Addr}{k:Knd}{X:Xs}(h:(a,k)∈X):Ups a k k X X:=by
 induction X with
 |nil=>cases h
 |cons p X ih =>
  rcases List.mem_cons.mp h with rfl | h
  ·exact .here
  ·exact .there (ih h)
noncomputable def catP(p:Str × Str):Str:=Txt.join Str.empty [p.1,p.2]
noncomputable def gN:Nk:=[(".0",.local),("fws",.local),("part",.local),("EMPTYSTRING",.globalImplicit)]
theorem Ex(n:Nat):passing (fun V=>true) n 0=List.range n:=by
 unfold passing;simp
section
variable{prog:Program}{w:World}{A:Around}{E:VP}{c:Cx}{X X':Xs}{T:Ts}{s:Shared}{x dx L:Addr}{Q:VP}{ρ:Od}{env:Env}{names:Nk}{cells:Ce}
theorem two_strs{P:Addr→Prop}{h:Heap}{us:List Value}{a b:Str}(hu:Rps P h us [.str a,.str b]):∃ t u,us=[.str a t,.str b u]:=by
 cases hu with
 |cons r1 r =>
  cases r with
  |cons r2 r =>
   cases r;obtain⟨t,rfl⟩:=B5 r1;obtain⟨u,rfl⟩:=B5 r2;exact⟨t,u,rfl⟩
theorem pair_obj{P:Addr→Prop}{h:Heap}{v:Value}{a b:Str}(r:Rp P h v (.tuple [.str a,.str b])):∃ T t u,v=.ref T∧T<h.objs.size∧h.IsTuple T #[.str a t,.str b u]:=by
 obtain⟨T,us,m,rfl,_,ht,hu⟩:=r.tupleObj;obtain⟨t,u,e⟩:=two_strs hu;exact⟨T,t,u,rfl,Heap.lt_size ht,_,ht,rfl,m,congrArg (Data.seq · m) (Array.toList_inj.mp e)⟩
theorem pile_of{ps:List (Str × Str)}(S:St c X T s)(hx:(x,Knd.seq (.ref 101) (some dx) (ps.map fun p=>.tuple [.str p.1,.str p.2]))∈X):PileN s.heap s.heap.objs.size x ps:=by
 obtain⟨vs,n,ho,hr⟩:=S.own _ hx;refine⟨_,vs,n,Heap.lt_size ho,ho,rfl,hr.length.trans (length_map _),fun i p hp=>?_⟩
 obtain⟨v,hv,rv⟩:=hr.get (i:=i) (d:=.tuple [.str p.1,.str p.2]) (by refine rz (List.getElem?_map ..) <| rz (hp ..) ?_;rfl)
 obtain⟨Tt,t,u,rfl,h1,h2⟩:=pair_obj rv;exact⟨Tt,t,u,Array.getElem?_toList.symm.trans hv,h1,h2⟩
theorem g_elt{cenv:Env}{C:Addr}{p1 p2 p3 p4 p5 p6:Pos}{k1:Nat}{m:Str→Option Value}{a1 b1:Str}{t u:Tok}{F:Value→Prop}(H:KOk c.K)(K1:c.K.In s.heap)(hE:EnvOk cenv C gN [])(hn:s.heap.Ns C m)(h1:m "fws" = some (.str a1 t))(h2:m "part" = some (.str b1 u))(hl:a1.length+b1.length≤100000)(hF:∀ t,F (.str (catP (a1,b1)) t))(hline:(p2.endLine == p6.line)=true) :
  wpAny (model prog w) A (eval (.Call (.Attribute (.Name "EMPTYSTRING" p1) "join" p2) [.Tuple [.Name "fws" p3,.Name "part" p4] k1 p5] [] p6) cenv) (fun y s₃=>F y∧Keeps s s₃) E s:=by
 refine m_call (wpAny_Name (show wpAny _ _ (loadName cenv "EMPTYSTRING") _ _ _ from ?_) (by decide +kernel)) (by with_unfolding_all rfl) (by with_unfolding_all rfl) hline
 refine rz (loadName_read hE.kind (hE.kindOf (gE 3 rfl)) ..) ?_;unfold loadGlobal;refine rz (hE.glo ..) <| wpAny_bind ((looks_nsIn K1 (H.glob ("EMPTYSTRING",_) (gE 19 rfl))).here (wpAny_pure ?_))
 refine g_strm PySem.F.slot_str_join PySem.F.type_str_join ?_;refine c_meth ?_ (by with_unfolding_all rfl) (by with_unfolding_all rfl)
 refine C5 (wpAny_Tuple (C5 (wpAny_Name (wpAny_loadName_local hE.kind (hE.kindOf (gE 1 rfl)) (hE.loc▸hn) h1 ?_) (by decide +kernel)) (by with_unfolding_all rfl))) (by with_unfolding_all rfl)
 refine C5 (wpAny_Name (wpAny_loadName_local hE.kind (hE.kindOf (gE 2 rfl)) (hE.loc▸hn) h2 ?_) (by decide +kernel)) (by with_unfolding_all rfl)
 refine i_nil ⟨by refine rz (sizeLine_eq ..) ?_;simp,i_nil ?_⟩
 refine join_tuple (items:=#[.str a1 t,.str b1 u]) (ys:=[a1,b1]) ⟨_,Heap.get?_push_size _ rfl,rfl,_,rfl⟩ (.cons _ _ (.cons _ _ .nil)) (by simp[Str.length,show Str.empty.cps.size=0 from rfl] at hl⊢;exact(ar [_,_] (.a Aa Ab) Aq (.c 1 (.a Aa Ab) A1 .z) 0 rfl hl)) fun t' k=>⟨hF _,_,_,rfl,fun b o e=>Heap.get?_push_of_some _ e⟩
theorem r_iter_sub{ds:Lp}(H2:KOk2 prog c.K)(S:St c X T s)(hx:(x,Knd.seq (.ref 101) (some dx) ds)∈X)(k:Q (.ref s.heap.objs.size) { s with heap:=s.heap.push { cls:=.type "list_iterator",data:=.fields #[.ref x,rawInt 0] } }):wpAny (model prog w) A (pyIter (.ref x)) Q E s:=by
 obtain⟨vs,n,ho,_⟩:=S.own _ hx;have hsp:Looks (model prog w) s.heap (specialOf (.ref x) "__iter__") (some (.builtin "list.__iter__")):=Looks.andThen (a:=.ref 101) ((Looks.ld ho).andThen .now) (looks_findIn S.stat H2.ir);unfold pyIter;refine wpAny_bind (hsp.here ?_);dsimp only;refine wpAny_bind ?_;have hb:=PySem.F.slot_list_iter.bind (.ref x);have fin:wpAny (model prog w) A (call (.builtin "list.__iter__") [.ref x]) (fun v s'=>wpAny (model prog w) A (match some v with
   |some it=>(do
    match ← specialOf it "__next__" with
    |none=>do rule "iter.non-iterator";raiseError "TypeError" s!"iter() returned non-iterator of type '{← typeNameOf it}'"
    |some _=>pure it:Sem Value)
   |none=>unsupported "") Q E s') E s:=by
  refine call_sub (n := "__iter__") (.inl (by decide +kernel)) (by decide +kernel) PySem.F.slot_list_iter.plain PySem.F.entry_list_iter (PySem.F.args_list_iter_1 _) (is_list S.stat H2.subF ho rfl) (sub_iter x 101 dx vs n) ⟨ho,?_⟩
  refine wpAny_bind (wpAny_specialOf (T := "list_iterator") ⟨_,Heap.get?_push_size _ rfl,rfl⟩ slot_listiter_next.lookup (wpAny_pure k))
 simp only[callSpecialIfBoundUnlessNone?,bindSpecialIfBound?];refine wpAny_holding (wpAny_bind (wpAny_bind (hsp.here ?_)));refine wpAny_bind (wpAny_askSetting (wpAny_ite ?_))
 split
 ·refine wpAny_bind (wpAny_of_eq hb (wpAny_pure ?_));dsimp only;refine rz (if_neg (show ¬ ((Value.builtin "list.__iter__" == Value.none)=true) from Bool.false_ne_true) ..) <| wpAny_bind (wpAny_mono fin (fun v s' h=>wpAny_pure h) fun V V e=>e)
 ·refine wpAny_tryCatch (wpAny_bind (wpAny_of_eq hb (wpAny_pure ?_)));dsimp only;refine rz (if_neg (show ¬ ((Value.builtin "list.__iter__" == Value.none)=true) from Bool.false_ne_true) ..) <| wpAny_bind (wpAny_mono fin (fun v s' h=>wpAny_pure h) fun V V e=>e)
theorem gen_code{M:Model}{A:Around}{E:VP}{s:Shared}{env:Env}{c P:Addr}{ps:Array Value}{pos:Pos}{qualname:Str}{scope:Scope}{Q:VP}(hc:env.code=.ref c)(hok:s.heap.IsCode c P ps)(htab:s.heap.TableAt c P ps)
  (hQ:∀ code h' tk ps',Heap.ExtBut P s.heap h'→h'.IsCode c P ps'→h'.TableAt c P ps'→Q code { s with heap:=h',toks:=tk }):wpAny M A (genexprCode env pos qualname scope) Q E s:=by
 cases hnf:codeAmong pos ps.toList with
 |some cv=>exact wpAny_genexprCode_hit hc hok hnf (hQ cv s.heap s.toks ps (Heap.ExtBut.refl _ _) hok htab)
 |none=>exact wpAny_genexprCodeX hc hok htab hnf fun c' h' tk h1 V V h2 V h3 V=>hQ _ h' tk _ h1 h2 h3
noncomputable def catsP(ps:List (Str × Str)):Str:=Txt.join Str.empty (ps.map catP)
theorem cats_of{ps:List (Str × Str)}{l:List (Str × Tok)}(hit:ItemsOf (fun j y=>∃ i,(passing (fun V=>true) ps.length 0)[j]?=some i∧∃ p t,ps[i]?=some p∧y=.str (catP p) t) (strValues l).toArray (passing (fun V=>true) ps.length 0).length):l.map (·.1)=ps.map catP:=by
 have hsz:l.length=ps.length:=by have:=hit.1;simp[strValues] at this;refine rz (this ..) <| rz (Ex ..) <| rz (length_range ..) rfl
 refine List.ext_getElem? fun j=>?_
 rcases Nat.lt_or_ge j ps.length with hj | hj
 ·obtain⟨q,hq⟩:∃ q,l[j]?=some q:=⟨_,List.getElem?_eq_getElem (Nat.lt_of_lt_of_eq hj hsz.symm)⟩;obtain⟨i,hi,p,t,hp,he⟩:=hit.2 j (.str q.1 q.2) (by simp[strValues,hq])
  rw[Ex,List.getElem?_range hj] at hi;cases hi
  refine rz (List.getElem?_map ..) <| rz (List.getElem?_map ..) <| rz (hq ..) <| rz (hp ..) <| congrArg some (Value.str.inj he).1
 ·refine rz (List.getElem?_eq_none (by simpa [hsz] using hj) ..) <| rz (List.getElem?_eq_none (by simpa using hj) ..) rfl
theorem cats_sum:∀ {l:List (Str × Str)},(∀ p∈l,p.1.length+p.2.length≤1000)→((l.map catP).map (·.length)).sum≤l.length*1000
 |[],_=>le_refl _
 |p::r,h=>by
  have h1:=cats_sum fun q hq=>h q (.tail _ hq)
  have h2:(catP p).length≤1000:=le_trans (le_of_eq (by show(p.1.cps++#[]++p.2.cps).size=p.1.length+p.2.length;simp[Str.length])) (h p (.head _))
  rw[map_cons,map_cons,sum_cons,length_cons,Nat.succ_mul,Nat.add_comm];exact add_le_add h1 h2
inductive GenS(c:Cx)(X:Xs)(T:Ts)(x:Addr)(ps:List (Str × Str))(N:Addr)(s:Shared):Prop
 |mk(s₁:Shared)(tb:Array Value)(S:St c X T s₁)(eN:s₁.heap.objs.size=N)(hI:s.heap.get? N=some { cls:=.type "list_iterator",data:=.fields #[.ref x,rawInt 0] })(hP:PileN s.heap N x ps)(hK:c.K.In s.heap)
  (up:∀ b o,b≠70→s₁.heap.get? b=some o→s.heap.get? b=some o)(ht:s.heap.get? 70=some (tabObj tb))(ok:TriplesOk tb.toList)(hg:s.gens=s₁.gens)(ho:s.os=s₁.os)
theorem GenS.back{ps:List (Str × Str)}{N:Addr}{s s':Shared}{h5:Heap}{tk:Nat}{gs:GenState}(Y:GenS c X T x ps N s)(ht:(70,TabK)∈X)(h70:∀ o,s.heap.get? 70=some o→h5.get? 70=some o)(hk5:∀ b o,s.heap.get? b=some o→h5.get? b=some o)(hbare:gs.bare=true)
  (hm:Moved [s.heap.objs.size,N] (GenOnlyQ s.gens.size) { s with gens:=s.gens.push gs,toks:=tk,heap:=h5 } s'){t':Nat}:St c X T { s' with toks:=t' }:=by
 obtain⟨s₁,tb,S,rfl,hI,hP,hK,up,h70,ok,hg,ho⟩:=Y;have lt:∀ (b:Addr) (o:Obj),s₁.heap.get? b=some o→b<s₁.heap.objs.size:=fun b o e=>Heap.lt_size e
 obtain⟨o70,ho70,_⟩:=S.own _ ht;have apart:∀ b o,s₁.heap.get? b=some o→b∉[s.heap.objs.size,s₁.heap.objs.size]:=fun b o e q=>by
  rcases List.mem_cons.mp q with rfl | q
  ·exact absurd (lt_trans (lt _ _ e) (Heap.lt_size hI)) (lt_irrefl _)
  ·exact absurd (lt _ _ e) (rz (List.mem_singleton.mp q ..) <| lt_irrefl _)
 refine S.upd (s':={ s' with toks:=t' }) (ups_same ht) (fun b o hb e=>hm.heap b o (apart b o e) (hk5 b o (up b o hb e))) ?_ (hm.os.trans ho) ⟨tabObj tb,hm.heap 70 _ (apart 70 _ ho70) (hk5 _ _ h70),tb,rfl,ok⟩
 exact fun y hy=>hm.gens.bare (fun y hy=>AllBare.push (hg▸S.gens) hbare y hy) y hy
theorem gen_join{ps:List (Str × Str)}{N a:Addr}{s:Shared}{h5:Heap}{tk:Nat}{gs:GenState}{t0:Tok}(Y:GenS c X T x ps N s)(ht:(70,TabK)∈X)(hl:∀ p∈ps,p.1.length+p.2.length≤1000)(hn:ps.length≤1000)(k:∀ t s',St c X T s'→Q (.str (catsP ps) t) s')
  (hbare:gs.bare=true)(ha5:s.heap.objs.size<a)(hsz5:h5.objs.size=a+1)(hk5:∀ b o,s.heap.get? b=some o→h5.get? b=some o)
  (W:WalksS prog w A.in4 a (a::s.heap.objs.size::List.range s.heap.objs.size) [s.heap.objs.size,N] (GenOnlyQ s.gens.size) (passing (fun V=>true) ps.length 0).length (fun j y=>∃ i,(passing (fun V=>true) ps.length 0)[j]?=some i∧∃ p t,ps[i]?=some p∧y=.str (catP p) t) (GenAt prog w A.in4 a s.gens.size s.heap.objs.size (List.range s.heap.objs.size) [N] (fun V=>true) ps.length (fun i y=>∃ p t,ps[i]?=some p∧y=.str (catP p) t)))
  (hst:GenAt prog w A.in4 a s.gens.size s.heap.objs.size (List.range s.heap.objs.size) [N] (fun V=>true) ps.length (fun i y=>∃ p t,ps[i]?=some p∧y=.str (catP p) t) 0 { s with gens:=s.gens.push gs,toks:=tk,heap:=h5 }) :
  wpAny (model prog w) A (call (.builtin "str.join") [.str Str.empty t0,.ref a]) Q E { s with gens:=s.gens.push gs,toks:=tk,heap:=h5 }:=by
 refine SC.joinGen (W.in4_2) (fun i s' st=>?_) hst (fun b hb=>?_) (mem_cons_self ..) (fun i v hv=>?_) (fun s' l hm hit=>?_) (rz (Ex ..) <| rz (length_range ..) <| rz (sizeLine_eq ..) <| le_trans hn (by decide))
 ·obtain⟨⟨o,nm,qn,g1,g2,_⟩,_⟩:=st;exact⟨o,g1,g2⟩
 ·show b<h5.objs.size
  refine rz (hsz5 ..) ?_;rcases List.mem_cons.mp hb with rfl | hb
  ·exact lt_succ_self _
  ·rcases List.mem_cons.mp hb with rfl | hb
   ·exact lt_succ_of_lt ha5
   ·exact lt_succ_of_lt (lt_trans (List.mem_range.mp hb) ha5)
 ·obtain⟨j,_,p,t,_,rfl⟩:=hv;exact⟨_,_,rfl⟩
 ·refine rz (cats_of hit ..) <| ⟨joinOk_of_weight (le_trans (add_le_add_right (cats_sum hl) _) ?_) (by decide),fun t' tk'=>k t' _ (Y.back ht (hk5 _) hk5 hbare hm)⟩
  simp only[length_map];exact(ar [_] (.a (.r Aa 1000) Aa) (.n 1048576) (.c 1001 Aa Am .z) 0 rfl hn)
theorem gen_at{ps:List (Str × Str)}{t0:Tok}{N:Addr}{s:Shared}{code:Value}{scope:Scope}{p1 p2 p3 p4 p5 p6:Pos}{k1:Nat}(H:KOk c.K)(hh:A.handled=none)(Y:GenS c X T x ps N s)(ht:(70,TabK)∈X)(hE:EnvOk env L names cells)(hsc:scope.names=gN)(hkind:scope.kind=.function)
  (hl:∀ p∈ps,p.1.length+p.2.length≤1000)(hn:ps.length≤1000)(hline:(p2.endLine == p6.line)=true)(k:∀ t s',St c X T s'→Q (.str (catsP ps) t) s') :
  ∃ I fp wr n₀ Pt St₀ Mid pz F,Value.ref N=.ref I∧(∀ A':Around,A'.handled=none→WalksU prog w A' I fp wr n₀ Pt St₀ Mid)∧(∀ i vals,Pt i vals→∃ va vb,vals=#[va,vb])∧St₀ 0 s.heap∧(∀ b∈fp,b<s.heap.objs.size)∧s.heap.NoLimit∧cStatics∉wr ∧
   (∀ href:Heap,(∀ b o,s.heap.get? b=some o→href.get? b=some o)→QuietGenT prog w (genEnv scope [] s.heap.objs.size code builtinsNs env) "fws" "part" [] (.Call (.Attribute (.Name "EMPTYSTRING" p1) "join" p2) [.Tuple [.Name "fws" p3,.Name "part" p4] k1 p5] [] p6) (List.range s.heap.objs.size) wr Pt pz F href) ∧
   (∀ a h₅ tk gs,gs.bare=true→s.heap.objs.size<a→h₅.objs.size=a+1→(∀ b o,s.heap.get? b=some o→h₅.get? b=some o) →
    WalksS prog w A.in4 a (a::s.heap.objs.size::List.range s.heap.objs.size) (s.heap.objs.size::wr) (GenOnlyQ s.gens.size) (passing pz n₀ 0).length (fun j y=>∃ i,(passing pz n₀ 0)[j]?=some i∧F i y) (GenAt prog w A.in4 a s.gens.size s.heap.objs.size (List.range s.heap.objs.size) wr pz n₀ F) →
    GenAt prog w A.in4 a s.gens.size s.heap.objs.size (List.range s.heap.objs.size) wr pz n₀ F 0 { s with gens:=s.gens.push gs,toks:=tk,heap:=h₅ } →
    wpAny (model prog w) A (call (.builtin "str.join") [.str Str.empty t0,.ref a]) Q E { s with gens:=s.gens.push gs,toks:=tk,heap:=h₅ }):=by
 have Y':=Y;obtain⟨s₁,tb,S,rfl,hI,hP,hK,up,h70,ok,hg,ho⟩:=Y;have hlt:=Heap.lt_size hI;refine⟨_,List.range s.heap.objs.size,[s₁.heap.objs.size],ps.length,_,_,_,(fun V=>true),(fun i y=>∃ p t,ps[i]?=some p∧y=.str (catP p) t),rfl,(fun A' hA=>pile_walks hA s₁.heap.objs.size x s₁.heap.objs.size ps (le_refl _) s.heap.objs.size hlt),?_,⟨⟨_,hI,rfl,rfl⟩,hP⟩,(fun b hb=>List.mem_range.mp hb),H.lim _ hK,?_,fun href hh3=>?_,fun a h5 tk gs hbare ha5 hsz5 hk5 W hst=>gen_join Y' ht hl hn k hbare ha5 hsz5 hk5 W hst⟩
 ·rintro i vals ⟨p,t,u,_,rfl⟩;exact⟨_,_,rfl⟩
 ·intro q;obtain⟨m,hm,_⟩:=H.lim _ S.stat;have:=hm.lt;rw[List.mem_singleton.mp q] at this;exact absurd this (lt_irrefl _)
 ·have hE':EnvOk (genEnv scope [] s.heap.objs.size code builtinsNs env) s.heap.objs.size gN []:=⟨hkind,hsc,rfl,rfl,hE.glo,rfl,by decide +kernel,nodup_nil⟩
  have Ku:∀ u:Shared,(∀ b∈List.range s.heap.objs.size,b∉[s₁.heap.objs.size]→∀ o,href.get? b=some o→u.heap.get? b=some o)→c.K.In u.heap:=fun u hu b o e=>by
   have e3:=hK b o e;refine hu b (List.mem_range.mpr (Heap.lt_size e3)) (fun q=>?_) o (hh3 _ _ e3)
   have:=Heap.lt_size (S.stat b o e);rw[List.mem_singleton.mp q] at this;exact absurd this (lt_irrefl _)
  refine⟨fun A' E' i va vb u m hA hP hns h1 h2 hu=>?_,fun A' E' i va vb u m hA hP hz hns h1 h2 hu=>?_⟩
  ·refine rz (forIn_nil ..) <| wpAny_pure ⟨rfl,u.heap,u.toks,rfl,fun V V e=>e⟩
  ·obtain⟨p,t,u',hp,e⟩:=hP;cases e;exact g_elt H (Ku u hu) hE' hns h1 h2 (le_trans (hl p (List.mem_of_getElem? hp)) (by decide)) (fun t=>⟨p,t,hp,rfl⟩) hline
theorem gen_walk{G:Value→Value→Addr→Shared→Prop}{ps:List (Str × Str)}{s₁:Shared}{pos:Pos}{scope:Scope}{q:Str}(H2:KOk2 prog c.K)(S₁:St c X T s₁)(hx:(x,Knd.seq (.ref 101) (some dx) (ps.map fun p=>.tuple [.str p.1,.str p.2]))∈X)(ht:(70,TabK)∈X)(hglo:env.globals=mainGlobals)(hcode:env.code=.ref 74)
  (k:∀ code s₄,GenS c X T x ps s₁.heap.objs.size s₄→G (.ref s₁.heap.objs.size) code builtinsNs s₄) :
  wpAny (model prog w) A (pyIter (.ref x)) (fun it s₂=>s₂.heap.NoLimit∧wpAny (model prog w) A (genexprCode env pos q scope) (fun code s₃=>wpAny (model prog w) A (builtinsFor env.globals env.builtins) (fun bi s₄=>G it code bi s₄) E s₃) E s₂) E s₁:=by
 have H:=H2.toKOk;refine r_iter_sub H2 S₁ hx ?_;obtain⟨mg,hmg⟩:=H.main;have up1:∀ (b:Addr) (o:Obj),s₁.heap.get? b=some o→(s₁.heap.push { cls:=.type "list_iterator",data:=.fields #[.ref x,rawInt 0] }).get? b=some o:=fun b o e=>Heap.get?_push_of_some _ e
 have hI:=Heap.get?_push_size s₁.heap (o:={ cls:=.type "list_iterator",data:=.fields #[.ref x,rawInt 0] }) rfl;generalize s₁.heap.push { cls:=.type "list_iterator",data:=.fields #[.ref x,rawInt 0] } = h2 at up1 hI⊢
 obtain⟨o70,ho70,tb,rfl,htr⟩:=S₁.own _ ht;have hcd:=(codeHd_of_K S₁.stat H.cd.2).keeps up1;refine⟨H.lim _ (S₁.stat.keeps up1),gen_code hcode (hcd.code (up1 _ _ ho70) htr) (hcd.tab (up1 _ _ ho70)) fun code h3 tk tb' hext hcd' htab'=>?_⟩
 have up3:∀ (b:Addr) (o:Obj),b≠70→s₁.heap.get? b=some o→h3.get? b=some o:=fun b o hb e=>hext b o hb (up1 b o e)
 have K3:c.K.In h3:=fun b o e=>up3 b o (fun q=>by
  have:=S₁.kx _ ht;rw[q] at e;rw[e] at this
  cases this) (S₁.stat b o e)
 have ne70:∀ {b o},s₁.heap.get? b=some o→o.data≠.fields tb→b≠70:=fun e n q=>n (by rw[q,ho70] at e;cases e;rfl)
 have ok3:TriplesOk tb'.toList:=by
  obtain⟨_,_,_,_,_,_,_,_,_,_,_,_,_,_,_,_,_,_,e⟩:=hcd';exact e.2.1
 have hP:PileN h3 s₁.heap.objs.size x ps:=by
  obtain⟨o,vs,n,q1,q2,q3,q4,q5⟩:=pile_of S₁ hx;refine⟨o,vs,n,q1,up3 _ _ (ne70 q2 (rz (q3 ..) <| fun q=>nomatch q)) q2,q3,q4,fun i p hp=>?_⟩
  obtain⟨Tt,t,u,e1,e2,ot,e3,e4,m,e5⟩:=q5 i p hp;exact⟨Tt,t,u,e1,e2,ot,up3 _ _ (ne70 e3 (rz (e5 ..) <| fun q=>nomatch q)) e3,e4,m,e5⟩
 have goal:=k code { s₁ with heap:=h3,toks:=tk } ⟨s₁,tb',S₁,rfl,hext _ _ (fun q=>by have:=Heap.lt_size ho70;rw[q] at this;exact absurd this (lt_irrefl _)) hI,hP,K3,up3,htab'.2,ok3,rfl,rfl⟩
 obtain⟨hg1,_,bm,ob,b1,b2,b3,b4,b5,b6,b7,b8⟩:=hmg _ K3;exact wpAny_builtinsFor (rz (hglo ..) <| hg1) b1 b2 b5 b6 b7 b8 goal
theorem r_strgen{ps:List (Str × Str)}{n:Nat}{t0:Tok}{p1 p2 p3 p4 p5 p6 p7 p8 p9 p10 pos:Pos}{k1 k2:Nat}{scope:Scope}(H2:KOk2 prog c.K)(oA:OkA n A)(S:St c X T s)(hx:(x,Knd.seq (.ref 101) (some dx) (ps.map fun p=>.tuple [.str p.1,.str p.2]))∈X)(ht:(70,TabK)∈X)
  (hE:EnvOk env L names cells)(hL:(L,Knd.map ρ)∈X)(hself:(("self" : Str),some (Rf x))∈ρ)(hsl:(("self" : Str),NameKind.local)∈names)(hcode:env.code=.ref 74)(hsc:scope.names=gN)(hco:scope.isCoroutine=false)(hkind:scope.kind=.function)
  (hl:∀ p∈ps,p.1.length+p.2.length≤1000)(hn:ps.length≤1000)(hline:(p2.endLine == p6.line)=true)(k:∀ t s',St c X T s'→Q (.str (catsP ps) t) s') :
  wpAny (model prog w) A (eval (.GeneratorExp (.Call (.Attribute (.Name "EMPTYSTRING" p1) "join" p2) [.Tuple [.Name "fws" p3,.Name "part" p4] k1 p5] [] p6) [⟨.Tuple [.Name "fws" p8,.Name "part" p9] k2 p10,.Name "self" p7,[],0⟩] scope pos) env)
   (fun v s₁=>wpAny (model prog w) A (call (.builtin "str.join") [.str Str.empty t0,v]) Q E s₁) E s:=by
 refine wpAny_GeneratorExp_walksQT oA.h hco (show closureFor scope env=pure [] from clos_of hE hsc (by kernel_rfl)) (by refine rz (hsc ..) ?_;decide +kernel) (by refine rz (hsc ..) ?_;decide +kernel) (by refine rz (hsc ..) ?_;decide +kernel) (by refine rz (hsc ..) ?_;decide +kernel) (by decide +kernel) hkind oA.room ?_ (fun V=>rfl)
 exact Ct S hE hsl hL hself (Kon.raw fun s₁ S₁=>gen_walk H2 S₁ hx ht hE.glo hcode fun code s₄ Y=>gen_at H2.toKOk oA.h Y ht hE hsc hkind hl hn hline k) (by decide +kernel)
end
end Mine
end
namespace Mine
section
variable(prog:Program)(w:World)(A:Around)(c:Cx)
def W0(m:Sem Value)(X:Xs)(K:PyData→Xs→Prop):Prop:=∀ Z T s (E:VP) (Q:VP),St c (X++Z) T s→(∀ d X' v s',K d X'→St c (X'++Z) ((v,d)::T) s'→Q v s')→wpAny (model prog w) A m Q E s
def W1(m:Value→Sem Value)(a:PyData)(X:Xs)(K:PyData→Xs→Prop):Prop:=∀ v Z T s (E:VP) (Q:VP),St c (X++Z) ((v,a)::T) s→(∀ d X' v s',K d X'→St c (X'++Z) ((v,d)::T) s'→Q v s')→wpAny (model prog w) A (m v) Q E s
def W2(m:Value→Value→Sem Value)(a b:PyData)(X:Xs)(K:PyData→Xs→Prop):Prop:=∀ v u Z T s (E:VP) (Q:VP),St c (X++Z) ((u,b)::(v,a)::T) s→(∀ d X' v s',K d X'→St c (X'++Z) ((v,d)::T) s'→Q v s')→wpAny (model prog w) A (m v u) Q E s
def U1(m:Value→Sem Unit)(a:PyData)(X:Xs)(K:Xs→Prop):Prop:=∀ v Z T s (E:VP) (Q:Unit→Shared→Prop),St c (X++Z) ((v,a)::T) s→(∀ X' s',K X'→St c (X'++Z) T s'→Q () s')→wpAny (model prog w) A (m v) Q E s
def U3(m:Value→Value→Value→Sem Unit)(a b d:PyData)(X:Xs)(K:Xs→Prop):Prop:=∀ v u y Z T s (E:VP) (Q:Unit→Shared→Prop),St c (X++Z) ((v,a)::(u,b)::(y,d)::T) s→(∀ X' s',K X'→St c (X'++Z) T s'→Q () s')→wpAny (model prog w) A (m v u y) Q E s
def WC(f:Value)(ds:Lp)(X:Xs)(K:PyData→Xs→Prop):Prop:=∀ vs Z T s (E:VP) (Q:VP),vs.length=ds.length→St c (X++Z) (vs.zip ds++T) s→(∀ d X' v s',K d X'→St c (X'++Z) ((v,d)::T) s'→Q v s')→wpAny (model prog w) A (call f vs) Q E s
def WL(pos:Pos)(env:Env)(es:List Expr)(X:Xs)(K:Lp→Xs→Prop):Prop:=∀ Z T s (E:VP) (Q:List Value→Shared→Prop),St c (X++Z) T s→(∀ ds X' vs s',K ds X'→vs.length=ds.length→St c (X'++Z) (vs.zip ds++T) s'→Q vs s')→wpAny (model prog w) A (spliced (backTo pos (starEach es env))) Q E s
def WT(env:Env)(e:Expr)(X:Xs)(K:Bool→Xs→Prop):Prop:=∀ Z T s (E:VP) (Q:Bool→Shared→Prop),St c (X++Z) T s→(∀ b X' s',K b X'→St c (X'++Z) T s'→Q b s')→wpAny (model prog w) A (isTrue e env (eval e env)) Q E s
inductive Fl | next | brk | cont | ret (d:PyData)
def Ws(env:Env)(l:List Stmt)(X:Xs)(K:Fl→Xs→Prop):Prop:=∀ Z T s (E:VP) (Q:Flow→Shared→Prop),St c (X++Z) T s →
 (∀ X' s',K .next X'→St c (X'++Z) T s'→Q .next s')→(∀ X' s',K .brk X'→St c (X'++Z) T s'→Q .brk s')→(∀ X' s',K .cont X'→St c (X'++Z) T s'→Q .cont s')→(∀ d X' v s',K (.ret d) X'→St c (X'++Z) ((v,d)::T) s'→Q (.ret v) s') →
 wpAny (model prog w) A (execs l env) Q E s
end
section
variable{prog:Program}{w:World}{A:Around}{c:Cx}{env:Env}{L:Addr}{names:Nk}{cells:Ce}{X X':Xs}{K:PyData→Xs→Prop}{J:Fl→Xs→Prop}{rest:List Stmt}
theorem Ups.left{a:Addr}{k k':Knd}{Z:Xs}(U:Ups a k k' X X'):Ups a k k' (X++Z) (X'++Z):=by
 induction U with
 |here=>exact .here
 |there _ ih=>exact .there ih
theorem WeakX.left{Z:Xs}:∀ {X X':Xs},WeakX X X'→WeakX (X++Z) (X'++Z):=fun W=>by
 induction W with
 |nil=>exact .rfl
 |rfl=>exact .rfl
 |same _ ih=>exact .same ih
 |map h _ ih=>exact .map h ih
 |cell _ ih=>exact .cell ih
theorem w_local{x:Str}{p:Pos}{ρ:Od}{d:PyData}(hE:EnvOk env L names cells)(hn:(x,NameKind.local)∈names)(hX:(L,Knd.map ρ)∈X)(hx:(x,some d)∈ρ)(k:K d X)(hd:(x == ("__debug__" : Str))=false):W0 prog w A c (eval (.Name x p) env) X K :=
 fun Z T s E Q S q=>Ct S hE hn (mem_append_left _ hX) hx (fun v s' S'=>q _ _ _ _ k S') hd
theorem w_int{i:Int}{k p} (h:K (.int i) X):W0 prog w A c (eval (.Constant (.int i) k p) env) X K :=
 fun Z T s E Q S q=>r_int S fun t s' S'=>q _ _ _ _ h (S'.push (.int _ _))
theorem w_bin{l r:Expr}{op:Operator}{p:Pos}(h:W0 prog w A c (eval l env) X fun a X1=>W0 prog w A c (eval r env) X1 fun b X2=>W2 prog w A c (binaryOp op) a b X2 K):W0 prog w A c (eval (.BinOp l op r p) env) X K :=
 fun Z T s E Q S q=>r_bin (h Z T s E _ S fun a X1 v s1 h1 S1=>h1 Z _ s1 E _ S1 fun b X2 u s2 h2 S2=>h2 v u Z T s2 E Q S2 q)
theorem w_un{e:Expr}{op:UnaryOp}{p:Pos}(h:W0 prog w A c (eval e env) X fun a X1=>W1 prog w A c (unaryOp op) a X1 K):W0 prog w A c (eval (.UnaryOp op e p) env) X K :=
 fun Z T s E Q S q=>wpAny_UnaryOp (h Z T s E _ S fun a X1 v s1 h1 S1=>h1 v Z T s1 E Q S1 q)
theorem w_subs{o i:Expr}{p:Pos}(h:W0 prog w A c (eval o env) X fun a X1=>W0 prog w A c (eval i env) X1 fun b X2=>W2 prog w A c (subscriptTail o i) a b X2 K):W0 prog w A c (eval (.Subscript o i p) env) X K :=
 fun Z T s E Q S q=>r_subs (h Z T s E _ S fun a X1 v s1 h1 S1=>h1 Z _ s1 E _ S1 fun b X2 u s2 h2 S2=>h2 v u Z T s2 E Q S2 q)
theorem w2_int{m:Value→Value→Sem Value}{a b:Int}{d:PyData}(hm:∀ t u T s (E:VP) (Q:VP) Y,St c Y T s→(∀ v s',St c Y ((v,d)::T) s'→Q v s')→wpAny (model prog w) A (m (.int a t) (.int b u)) Q E s)(h:K d X):W2 prog w A c m (.int a) (.int b) X K:=fun v u Z T s E Q S q=>by
 obtain⟨u',rfl⟩:=B9 (S.rp (.head _));obtain⟨t',rfl⟩:=B9 (S.rp (.tail _ (.head _)));exact hm _ _ _ _ _ _ _ S.pop.pop fun v s' S'=>q _ _ _ _ h S'
theorem w_add{a b:Int}(h:K (.int (a+b)) X):W2 prog w A c (binaryOp .Add) (.int a) (.int b) X K :=
 w2_int (fun t u T s E Q Y S q=>r_add S fun t s' S'=>q _ _ (S'.push (.int _ _))) h
theorem w_iadd{a b:Int}(h:K (.int (a+b)) X):W2 prog w A c (inplaceOp .Add) (.int a) (.int b) X K :=
 w2_int (fun t u T s E Q Y S q=>r_iadd S fun t s' S'=>q _ _ (S'.push (.int _ _))) h
theorem w_neg{a:Int}(h:K (.int (-a)) X):W1 prog w A c (unaryOp .USub) (.int a) X K:=fun v Z T s E Q S q=>by
 obtain⟨u',rfl⟩:=B9 (S.rp (.head _));exact r_neg S.pop fun t s' S'=>q _ _ _ _ h (S'.push (.int _ _))
theorem w_storeL{x:Str}{d:PyData}{ρ ρ':Od}{J:Xs→Prop}(hE:EnvOk env L names cells)(hn:(x,NameKind.local)∈names)(U:Ups L (.map ρ) (.map ρ') X X')(P:Put x (some d) ρ ρ')(k:J X'):U1 prog w A c (storeName env x) d X J :=
 fun v Z T s E Q S q=>Gn S hE hn (S.rp (.head _)) U.left P fun s' S'=>q _ _ k S'.pop
theorem w_aname{x:Str}{p:Pos}{d:PyData}{J:Xs→Prop}(h:U1 prog w A c (storeName env x) d X J):U1 prog w A c (assign (.Name x p) env) d X J:=fun v Z T s E Q S q=>a_name (h v Z T s E Q S q)
theorem ws_nil(h:J .next X):Ws prog w A c env [] X J:=fun Z T s E Q S q1 V V V=>x_nil (q1 _ _ h S)
theorem ws_assign{x:Str}{p q:Pos}{v:Expr}(h:W0 prog w A c (eval v env) X fun d X1=>U1 prog w A c (storeName env x) d X1 fun X2=>Ws prog w A c env rest X2 J)(hs:swapsWith v (some (.Name x p)) q.line env=pure false):Ws prog w A c env (.Assign [.Name x p] v q::rest) X J :=
 fun Z T s E Q S q1 q2 q3 q4=>x_assign (h Z T s E _ S fun d X1 v s1 h1 S1=>h1 v Z T s1 E _ S1 fun X2 s2 h2 S2=>h2 Z T s2 E Q S2 q1 q2 q3 q4) hs
theorem sub_dup2{α:Type}{x y:α}{T:List α}:∀ q∈x::y::x::y::T,q∈x::y::T:=fun q h=>by
 simp only[mem_cons] at h⊢
 rcases h with h | h | h | h | h<;>simp[h]
theorem sub_sw{α:Type}{x y z:α}{T:List α}:∀ q∈z::y::x::T,q∈z::x::y::T:=fun q h=>by
 simp only[mem_cons] at h⊢
 rcases h with h | h | h | h<;>simp[h]
theorem sub_mid{α:Type}{x y:α}{T:List α}:∀ q∈x::T,q∈x::y::T:=fun q h=>(List.mem_cons.mp h).elim (fun e=>e▸.head _) fun h=>.tail _ (.tail _ h)
theorem ws_augitem{o i v:Expr}{tp p:Pos}{op:Operator}(h:W0 prog w A c (eval o env) X fun a X1=>W0 prog w A c (eval i env) X1 fun b X2=>W2 prog w A c getItem a b X2 fun old X3=>W0 prog w A c (eval v env) X3 fun y X4=>W2 prog w A c (inplaceOp op) old y X4 fun z X5=>U3 prog w A c (fun y o i=>setItem o i y) z a b X5 fun X6=>Ws prog w A c env rest X6 J)
  (hi:∀ ov iv new,augStore i ov iv new=(do holding [new,ov,iv] (setItem ov iv new);release [new,ov,iv] [];pure .next)):Ws prog w A c env (.AugAssign (.Subscript o i tp) op v p::rest) X J :=
 fun Z T s E Q S q1 q2 q3 q4=>x_augitem (h Z T s E _ S fun a X1 va s1 h1 S1=>h1 Z _ s1 E _ S1 fun b X2 vb s2 h2 S2 =>
  h2 va vb Z ((vb,b)::(va,a)::T) s2 E _ (S2.drop sub_dup2) fun old X3 vo s3 h3 S3=>h3 Z _ s3 E _ S3 fun y X4 vy s4 h4 S4=>h4 vo vy Z ((vb,b)::(va,a)::T) s4 E _ S4 fun z X5 vz s5 h5 S5 =>
  h5 vz va vb Z T s5 E _ (S5.drop sub_sw) fun X6 s6 h6 S6=>h6 Z T s6 E Q S6 q1 q2 q3 q4) hi
theorem ws_setitem{o i v:Expr}{tp p:Pos}(h:W0 prog w A c (eval v env) X fun y X1=>W0 prog w A c (eval o env) X1 fun a X2=>W0 prog w A c (eval i env) X2 fun b X3=>U3 prog w A c (fun i o y=>setItem o i y) b a y X3 fun X4=>Ws prog w A c env rest X4 J)
  (hs:swapsWith v (some (.Subscript o i tp)) p.line env=pure false):Ws prog w A c env (.Assign [.Subscript o i tp] v p::rest) X J :=
 fun Z T s E Q S q1 q2 q3 q4=>x_setitem (h Z T s E _ S fun y X1 vy s1 h1 S1=>h1 Z _ s1 E _ S1 fun a X2 va s2 h2 S2=>h2 Z _ s2 E _ S2 fun b X3 vb s3 h3 S3=>h3 vb va vy Z T s3 E _ S3 fun X4 s4 h4 S4=>h4 Z T s4 E Q S4 q1 q2 q3 q4) hs
theorem Cp{α:Type}{x:α}{T T':List α}(h:∀ q∈T,q∈T'):∀ q∈x::T,q∈x::T':=fun q hq=>(List.mem_cons.mp hq).elim (fun e=>e▸.head _) fun hq=>.tail _ (h q hq)
theorem wl_nil{pos:Pos}{J:Lp→Xs→Prop}(h:J [] X):WL prog w A c pos env [] X J:=fun Z T s E Q S q=>i_nil (q [] X [] s h rfl S)
theorem wl_cons{pos:Pos}{e:Expr}{es:List Expr}{J:Lp→Xs→Prop}(h:W0 prog w A c (eval e env) X fun d X1=>WL prog w A c pos env es X1 fun ds X2=>J (d::ds) X2)
  (he:starEach (e::es) env=(false,eval e env)::starEach es env):WL prog w A c pos env (e::es) X J:=fun Z T s E Q S q =>
 C5 (h Z T s E _ S fun d X1 v s1 h1 S1=>h1 Z _ s1 E _ S1 fun ds X2 vs s2 h2 hl S2=>q (d::ds) X2 (v::vs) s2 h2 (by simp[hl]) (S2.drop fun y hy=>by
  simp only[zip_cons_cons,cons_append,mem_cons,List.mem_append] at hy⊢
  rcases hy with h | h | h<;>simp[h])) he
theorem w_calltype{id:Str}{ty:String}{p pos:Pos}{e:Expr}{es:List Expr}(hE:EnvOk env L names cells)(hn:(id,NameKind.globalImplicit)∈names)(hK:nsIn c.K mainGlobals id=some none∧nsIn c.K builtinsNs id=some (some (.type ty)))
  (h:WL prog w A c pos env (e::es) X fun ds X1=>WC prog w A c (.type ty) ds X1 K)(he:starEach (e::es) env=(false,eval e env)::starEach es env)(hc:(backTo pos (starEach es env)).any (·.1)=false)
  (hd:(id == ("__debug__" : Str))=false):W0 prog w A c (eval (.Call (.Name id p) (e::es) [] pos) env) X K:=fun Z T s E Q S q =>
 r_call (r_blt S hE hn hK (c_type (h Z T s E _ S fun ds X1 vs s1 h1 hl S1=>h1 vs Z T s1 E Q hl S1 q) he hc) hd)
theorem w_setO{a:Addr}{k:Int}{d:PyData}{ds:Lp}{J:Xs→Prop}(U:Ups a (.seq (.type "list") none ds) (.seq (.type "list") none (ds.set k.toNat d)) X X')(h0:0≤k)(hf:k<2^63)(hk:k<ds.length)(h:J X'):U3 prog w A c (fun y o i=>setItem o i y) d (Rf a) (.int k) X J:=fun v u y Z T s E Q S q=>by
 obtain rfl:=By (S.rp (.tail _ (.head _)));obtain⟨t',rfl⟩:=B9 (S.rp (.tail _ (.tail _ (.head _))));exact r_setitem S (S.rp (.head _)) U.left h0 hf hk fun s' S'=>q _ _ h S'.pop.pop.pop
theorem w_setO2{a:Addr}{k:Int}{d:PyData}{ds:Lp}{J:Xs→Prop}(U:Ups a (.seq (.type "list") none ds) (.seq (.type "list") none (ds.set k.toNat d)) X X')(h0:0≤k)(hf:k<2^63)(hk:k<ds.length)(h:J X'):U3 prog w A c (fun i o y=>setItem o i y) (.int k) (Rf a) d X J:=fun v u y Z T s E Q S q=>by
 obtain rfl:=By (S.rp (.tail _ (.head _)));obtain⟨t',rfl⟩:=B9 (S.rp (.head _));exact r_setitem S (S.rp (.tail _ (.tail _ (.head _)))) U.left h0 hf hk fun s' S'=>q _ _ h S'.pop.pop.pop
theorem w_cell{x:Str}{p:Pos}{a:Addr}{d:PyData}(hE:EnvOk env L names cells)(hn:(x,NameKind.cell)∈names)(ha:(x,a)∈cells)(hX:(a,Knd.cell (some d))∈X)(k:K d X)(hd:(x == ("__debug__" : Str))=false):W0 prog w A c (eval (.Name x p) env) X K :=
 fun Z T s E Q S q=>r_cell S hE hn ha (mem_append_left _ hX) (fun v s' S'=>q _ _ _ _ k S') hd
theorem w_free{x:Str}{p:Pos}{a:Addr}{d:PyData}(hE:EnvOk env L names cells)(hn:(x,NameKind.free)∈names)(ha:(x,a)∈cells)(hX:(a,Knd.cell (some d))∈X)(k:K d X)(hd:(x == ("__debug__" : Str))=false)(hm:(x == ("__classdict__" : Str))=false):W0 prog w A c (eval (.Name x p) env) X K :=
 fun Z T s E Q S q=>r_free S hE hn ha (mem_append_left _ hX) (fun v s' S'=>q _ _ _ _ k S') hd hm
theorem w_str{x:Str}{k p} (h:K (.str x) X):W0 prog w A c (eval (.Constant (.str x) k p) env) X K :=
 fun Z T s E Q S q=>r_str S fun t s' S'=>q _ _ _ _ h (S'.push (.str _ _))
theorem w_cmp{l r:Expr}{op:CmpOp}{p:Pos}(h:W0 prog w A c (eval l env) X fun a X1=>W0 prog w A c (eval r env) X1 fun b X2=>W2 prog w A c (compareOp op) a b X2 K)(hm:behindInMarks op r=false):W0 prog w A c (eval (.Compare l [op] [r] p) env) X K :=
 fun Z T s E Q S q=>r_cmp (h Z T s E _ S fun a X1 v s1 h1 S1=>h1 Z _ s1 E _ S1 fun b X2 u s2 h2 S2=>h2 v u Z T s2 E Q S2 q) hm
theorem w_storeC{x:Str}{d:PyData}{d₀:Option PyData}{a:Addr}{J:Xs→Prop}(hE:EnvOk env L names cells)(hn:(x,NameKind.cell)∈names)(ha:(x,a)∈cells)(U:Ups a (.cell d₀) (.cell (some d)) X X')(k:J X'):U1 prog w A c (storeName env x) d X J :=
 fun v Z T s E Q S q=>r_storeC S hE hn (S.rp (.head _)) ha U.left fun s' S'=>q _ _ k S'.pop
theorem perm_lc{α:Type}{A B C D:List α}{z:α}:(A++(z::(B++(C++D)))).Perm ((A++C)++(z::(B++D))):=by
 refine rz (append_assoc ..) <| List.Perm.append_left A ?_
 refine List.Perm.trans ?_ (perm_middle (a:=z) (l₁:=C) (l₂:=B++D)).symm;exact(perm_append_comm_assoc B C D).cons z
theorem bool_of{P:Addr→Prop}{h:Heap}{v:Value}{b:Bool}(r:Rp P h v (.bool b)):v=.bool b:=by cases r;rfl
theorem wt_cmp{l r:Expr}{op:CmpOp}{p:Pos}{J:Bool→Xs→Prop}(h:W0 prog w A c (eval l env) X fun a X1=>W0 prog w A c (eval r env) X1 fun b X2=>W2 prog w A c (compareOp op) a b X2 fun d X3=>∃ b,d=.bool b∧J b X3)(hm:behindInMarks op r=false):WT prog w A c env (.Compare l [op] [r] p) X J :=
 fun Z T s E Q S q=>t_cmp (h Z T s E _ S fun a X1 v s1 h1 S1=>h1 Z _ s1 E _ S1 fun b X2 u s2 h2 S2=>h2 v u Z T s2 E _ S2 fun d X3 y s3 ⟨b,e1,h3⟩ S3=>by subst e1;obtain rfl:=bool_of (S3.rp (.head _));exact t_bool (q _ _ _ h3 S3.pop)) hm
noncomputable def thenS(prog:Program)(w:World)(A:Around)(c:Cx)(env:Env)(rest:List Stmt)(J:Fl→Xs→Prop):Fl→Xs→Prop
 |.next,X=>Ws prog w A c env rest X J
 |f,X=>J f X
theorem ws_if{t:Expr}{body els:List Stmt}{p:Pos}(h:WT prog w A c env t X fun b X1=>(b=true→Ws prog w A c env body X1 (thenS prog w A c env rest J))∧(b=false→Ws prog w A c env els X1 (thenS prog w A c env rest J))):Ws prog w A c env (.If t body els p::rest) X J :=
 fun Z T s E Q S q1 q2 q3 q4=>by
  have key:∀ l X1 s1,Ws prog w A c env l X1 (thenS prog w A c env rest J)→St c (X1++Z) T s1→wpAny (model prog w) A (execs l env) (Kont prog w A E env rest Q) E s1:=fun l X1 s1 hl S1 =>
   hl Z T s1 E _ S1 (fun X2 s2 h2 S2=>k_next (h2 Z T s2 E Q S2 q1 q2 q3 q4)) (fun X2 s2 h2 S2=>k_brk (q2 _ _ h2 S2)) (fun X2 s2 h2 S2=>k_cont (q3 _ _ h2 S2)) (fun d X2 v s2 h2 S2=>k_ret (q4 _ _ _ _ h2 S2))
  exact x_if (h Z T s E _ S fun b X1 s1 h1 S1=>⟨fun e=>key _ _ _ (h1.1 e) S1,fun e=>key _ _ _ (h1.2 e) S1⟩)
theorem ws_expr{v:Expr}{p:Pos}(h:W0 prog w A c (eval v env) X fun V X1=>Ws prog w A c env rest X1 J)(hi:interactive env=false)(hv:∀ (E:VP) (Q:Flow→Shared→Prop) s,wpAny (model prog w) A (eval v env) (fun V s₁=>wpAny (model prog w) A (execs rest env) Q E s₁) E s→wpAny (model prog w) A (execs (.Expr v p::rest) env) Q E s):Ws prog w A c env (.Expr v p::rest) X J :=
 fun Z T s E Q S q1 q2 q3 q4=>hv E Q s (h Z T s E _ S fun d X1 v s1 h1 S1=>h1 Z T s1 E Q S1.pop q1 q2 q3 q4)
theorem w2_cmp{op:CmpOp}{a b:Int}{r:Bool}(hm:∀ t u s (E:VP) (Q:VP),Q (.bool r) s→wpAny (model prog w) A (compareOp op (.int a t) (.int b u)) Q E s)(h:K (.bool r) X):W2 prog w A c (compareOp op) (.int a) (.int b) X K:=fun v u Z T s E Q S q=>by
 obtain⟨u',rfl⟩:=B9 (S.rp (.head _));obtain⟨t',rfl⟩:=B9 (S.rp (.tail _ (.head _)));exact hm _ _ _ _ _ (q _ _ _ _ h (S.pop.pop.push (.bool _)))
theorem w_eqint{a b:Int}(h:K (.bool (a == b)) X):W2 prog w A c (compareOp .Eq) (.int a) (.int b) X K:=w2_cmp (fun V V V V V q=>r_eqint q) h
theorem w_neint{a b:Int}(h:K (.bool (a != b)) X):W2 prog w A c (compareOp .NotEq) (.int a) (.int b) X K:=w2_cmp (fun V V V V V q=>r_neint q) h
theorem w_lt{a b:Int}(h:K (.bool (decide (a<b))) X):W2 prog w A c (compareOp .Lt) (.int a) (.int b) X K:=w2_cmp (fun V V V V V q=>r_lt q) h
theorem w_gt{a b:Int}(h:K (.bool (decide (b<a))) X):W2 prog w A c (compareOp .Gt) (.int a) (.int b) X K:=w2_cmp (fun V V V V V q=>r_gt q) h
theorem w_le{a b:Int}(h:K (.bool (decide (a≤b))) X):W2 prog w A c (compareOp .LtE) (.int a) (.int b) X K:=w2_cmp (fun V V V V V q=>r_le q) h
theorem w_ge{a b:Int}(h:K (.bool (decide (b≤a))) X):W2 prog w A c (compareOp .GtE) (.int a) (.int b) X K:=w2_cmp (fun V V V V V q=>r_ge q) h
theorem w_sub{a b:Int}(h:K (.int (a-b)) X):W2 prog w A c (binaryOp .Sub) (.int a) (.int b) X K :=
 w2_int (fun t u T s E Q Y S q=>r_sub S fun t s' S'=>q _ _ (S'.push (.int _ _))) h
theorem w_mod{a b:Int}(hb:b≠0)(h:K (.int (a.fmod b)) X):W2 prog w A c (binaryOp .Mod) (.int a) (.int b) X K :=
 w2_int (fun t u T s E Q Y S q=>r_mod S hb fun t s' S'=>q _ _ (S'.push (.int _ _))) h
theorem rps_zip{P:Addr→Prop}{h:Heap}:∀ {vs:List Value}{ds:Lp},vs.length=ds.length→(∀ y∈vs.zip ds,Rp P h y.1 y.2)→Rps P h vs ds:=by
 intro vs
 induction vs with
 |nil=>intro ds hl _;cases ds with | nil=>exact .nil | cons _ _=>exact absurd hl.symm (succ_ne_zero _)
 |cons v vs ih=>intro ds hl hy;cases ds with
  |nil=>exact absurd hl (succ_ne_zero _)
  |cons d ds=>exact .cons (hy (v,d) (.head _)) (ih (Nat.succ.inj hl) fun y h=>hy y (.tail _ h))
theorem wc_pure{K':Frag}{n:Nat}{f:Addr}{ds:Lp}{d:PyData}(oA:OkA n A)(hK:c.K=K')(F:Pure prog w K' n f ds d)(h:K d X):WC prog w A c (.ref f) ds X K:=fun vs Z T s E Q hl S q =>
 r_pure oA hK F (S.drop (T':=T) fun y hy=>mem_append_right _ hy) (rps_zip hl fun y hy=>S.rp (mem_append_left _ hy)) fun v s' S'=>q _ _ _ _ h S'
theorem w_callref{id:Str}{f:Addr}{p pos:Pos}{e:Expr}{es:List Expr}(hE:EnvOk env L names cells)(hn:(id,NameKind.globalImplicit)∈names)(hK:nsIn c.K mainGlobals id=some (some (.ref f)))(hk:keepIn c.K (.ref f)=true)
  (h:WL prog w A c pos env (e::es) X fun ds X1=>WC prog w A c (.ref f) ds X1 K)(he:starEach (e::es) env=(false,eval e env)::starEach es env)(hc:(backTo pos (starEach es env)).any (·.1)=false)
  (hd:(id == ("__debug__" : Str))=false):W0 prog w A c (eval (.Call (.Name id p) (e::es) [] pos) env) X K:=fun Z T s E Q S q =>
 r_call (r_glob S hE hn hK (c_ref S hk (h Z T s E _ S fun ds X1 vs s1 h1 hl S1=>⟨⟨_,_,S1⟩,h1 vs Z T s1 E Q hl S1 q⟩) he hc) hd)
theorem w_callblt{id:Str}{b:String}{p pos:Pos}{e:Expr}{es:List Expr}(hE:EnvOk env L names cells)(hn:(id,NameKind.globalImplicit)∈names)(hK:nsIn c.K mainGlobals id=some none∧nsIn c.K builtinsNs id=some (some (.builtin b)))
  (h:WL prog w A c pos env (e::es) X fun ds X1=>WC prog w A c (.builtin b) ds X1 K)(he:starEach (e::es) env=(false,eval e env)::starEach es env)(hc:(backTo pos (starEach es env)).any (·.1)=false)
  (hd:(id == ("__debug__" : Str))=false):W0 prog w A c (eval (.Call (.Name id p) (e::es) [] pos) env) X K:=fun Z T s E Q S q =>
 r_call (r_blt S hE hn hK (c_blt (h Z T s E _ S fun ds X1 vs s1 h1 hl S1=>h1 vs Z T s1 E Q hl S1 q) he hc) hd)
theorem wc_range1{n:Int}(h:K (Rg 0 n) X):WC prog w A c (.type "range") [.int n] X K:=fun vs Z T s E Q hl S q=>by
 obtain⟨v,rfl⟩:=len1 hl;obtain⟨t,rfl⟩:=B9 (S.rp (.head _));exact r_range1 S.pop fun v s' S'=>q _ _ _ _ h S'
theorem wc_range2{a b:Int}(h:K (Rg a b) X):WC prog w A c (.type "range") [.int a,.int b] X K:=fun vs Z T s E Q hl S q=>by
 obtain⟨v,u,rfl⟩:=len2 hl;obtain⟨t,rfl⟩:=B9 (S.rp (.head _));obtain⟨t',rfl⟩:=B9 (S.rp (.tail _ (.head _)));exact r_range2 S.pop.pop fun v s' S'=>q _ _ _ _ h S'
theorem w_ifexp{t a b:Expr}{p:Pos}(h:WT prog w A c env t X fun z X1=>(z=true→W0 prog w A c (eval a env) X1 K)∧(z=false→W0 prog w A c (eval b env) X1 K)):W0 prog w A c (eval (.IfExp t a b p) env) X K :=
 fun Z T s E Q S q=>r_if (h Z T s E _ S fun z X1 s1 h1 S1=>⟨fun e=>h1.1 e Z T s1 E Q S1 q,fun e=>h1.2 e Z T s1 E Q S1 q⟩)
theorem w_listF{es:List Expr}{p:Pos}(h:WL prog w A c p env es X fun ds X1=>ds.length≤sizeLine∧K (.list ds) X1):W0 prog w A c (eval (.List es p) env) X K:=fun Z T s E Q S q =>
 r_list (c:=c) (h Z T s E _ S fun ds X1 vs s1 ⟨hz,h1⟩ hl S1=>⟨by refine rz (hl ..) <| hz,_,T,ds,S1.drop fun y hy=>mem_append_right _ hy,rps_zip hl fun y hy=>S1.rp (mem_append_left _ hy),fun a s' S'=>q _ _ _ _ h1 S'.freeze⟩)
theorem w_tuple{es:List Expr}{k:Nat}{p:Pos}(h:WL prog w A c p env es X fun ds X1=>ds.length≤sizeLine∧K (.tuple ds) X1):W0 prog w A c (eval (.Tuple es k p) env) X K:=fun Z T s E Q S q =>
 r_tuple (c:=c) (h Z T s E _ S fun ds X1 vs s1 ⟨hz,h1⟩ hl S1=>⟨by refine rz (hl ..) <| hz,_,T,ds,S1.drop fun y hy=>mem_append_right _ hy,rps_zip hl fun y hy=>S1.rp (mem_append_left _ hy),fun a s' S'=>q _ _ _ _ h1 S'⟩)
end
noncomputable def nsEq(l:List Nat):List Nat→Bool:=l.rec (fun m=>m.rec true fun V V V=>false) fun a V f m=>m.rec false fun b m V=>cond (Nat.beq a b) (f m) false
theorem F2{α:Type}{b:Bool}{x y z:α}(h:cond b x y=z):(b=true∧x=z)∨(b=false∧y=z):=by
 cases b with
 |true=>exact .inl ⟨rfl,h⟩
 |false=>exact .inr ⟨rfl,h⟩
theorem nsEq_eq:∀ {l m:List Nat},nsEq l m=true→l=m
 |[],[],_=>rfl
 |[],_::_,h=>nomatch (h:false=true)
 |_::_,[],h=>nomatch (h:false=true)
 |a::l,b::m,h=>(F2 (b:=Nat.beq a b) (x:=nsEq l m) (y:=false) (z:=true) h).elim (fun h=>congr (congrArg List.cons (eq_of_beq_eq_true h.1)) (nsEq_eq h.2)) fun h=>nomatch h.2
theorem nsEq_self(l:List Nat):nsEq l l=true:=l.rec rfl fun a l ih=>(congrArg (fun b=>cond b (nsEq l l) false) (Nat.beq_refl a)).trans ih
noncomputable def sEq(x y:Str):Bool:=nsEq x.cps.toList y.cps.toList
theorem D2{x y:Str}(h:sEq x y=true):x=y:=by
 cases x;cases y;have:=nsEq_eq h;simp only at this;refine rz (Str.mk.injEq ..) <| Array.toList_inj.mp this
theorem sEq_ne{x y:Str}(h:sEq x y=false):x≠y:=fun e=>by subst e;unfold sEq at h;rw[nsEq_self] at h;cases h
inductive Sg
 |nil
 |put(x:Str)(d:PyData)(σ:Sg)
 |obj(a:Addr)(k:Knd)(σ:Sg)
 |upd(i:Nat)(k:Knd)(σ:Sg)
 |rem(i:Nat)(σ:Sg)
 |own(O:Xs)(σ:Sg)
noncomputable def Sg.vars:Sg→List (Str × PyData)
 |nil=>[] | put x d σ=>(x,d)::σ.vars | obj _ _ σ=>σ.vars | upd _ _ σ=>σ.vars | rem _ σ=>σ.vars | own _ σ=>σ.vars
noncomputable def setK(k:Knd):Nat→Xs→Xs
 |_,[]=>[]
 |0,p::X=>(p.1,k)::X
 |i+1,p::X=>p::setK k i X
noncomputable def Sg.objs:Sg→Xs
 |nil=>[] | put _ _ σ=>σ.objs | obj a k σ=>(a,k)::σ.objs | upd i k σ=>setK k i σ.objs | rem i σ=>σ.objs.eraseIdx i | own O _=>O
noncomputable def look(x:Str)(σ:Sg):Option PyData:=σ.rec none (fun y d V f=>cond (sEq x y) (some d) f) (fun V V V f=>f) (fun V V V f=>f) (fun V V f=>f) fun V V f=>f
theorem Cu(x:Str):∀ σ:Sg,look x σ=σ.vars.lookup x
 |.nil=>rfl
 |.put y d σ=>by
  show cond (sEq x y) (some d) (look x σ)=List.lookup x ((y,d)::σ.vars)
  refine rz (lookup_cons ..) ?_;cases h:sEq x y with
  |true=>obtain rfl:=D2 h;refine rz (beq_self_eq_true x ..) ?_;rfl
  |false=>refine rz (beq_eq_false_iff_ne.mpr (sEq_ne h) ..) <| Cu x σ
 |.obj _ _ σ=>Cu x σ | .upd _ _ σ=>Cu x σ | .rem _ σ=>Cu x σ | .own _ σ=>Cu x σ
noncomputable def findS{α:Type}(x:Str)(l:List (Str × α)):Option α:=l.rec none fun p V f=>cond (sEq x p.1) (some p.2) f
theorem Bf{α:Type}{x:Str}:∀ {l:List (Str × α)}{a:α},findS x l=some a→(x,a)∈l
 |[],a,h=>nomatch (h:none=some a)
 |(y,b)::r,a,h=>by
  rcases F2 (b:=sEq x y) (x:=some b) (y:=findS x r) h with ⟨e,h⟩ | ⟨e,h⟩
  ·cases h;refine rz (D2 e ..) <| .head _
  ·exact .tail _ (Bf h)
noncomputable def ownK(x:Str)(l:Nk):Bool:=(findS x l).any fun k=>k == .local||k == .cell
noncomputable def ownB(x:Str)(l:Nk):Bool:=match sEq x "__debug__" with | true=>false | false=>ownK x l
theorem ownK_mem{x:Str}{l:Nk}(h:ownK x l=true):(x,NameKind.local)∈l∨(x,NameKind.cell)∈l:=by
 obtain⟨k,e,h⟩:=(Option.any_eq_true ..).mp h;rcases(Bool.or_eq_true _ _).mp h with h | h
 ·cases eq_of_beq h;exact .inl (Bf e)
 ·cases eq_of_beq h;exact .inr (Bf e)
theorem Fx{x:Str}{l:Nk}(h:ownB x l=true):((x,NameKind.local)∈l∨(x,NameKind.cell)∈l)∧(x == ("__debug__" : Str))=false:=by
 unfold ownB at h
 split at h
 ·cases h
 ·rename_i e;exact⟨ownK_mem h,beq_eq_false_iff_ne.mpr (sEq_ne e)⟩
def WJ(prog:Program)(w:World)(A:Around)(c:Cx)(env:Env)(e:Expr)(tg:Expr)(X:Xs)(K:Lp→Xs→Prop):Prop:=∀ Z T s (E:VP) (Q:VP),St c (X++Z) T s→(∀ ds X' I kn T' s',K ds X'→(∀ y∈T,y∈T')→St c (kn 0++(X'++Z)) T' s'→Iter prog w A c I kn ds T' tg→Q (.ref I) s')→wpAny (model prog w) A (eval e env) (fun x s₁=>wpAny (model prog w) A (pyIter x) Q E s₁) E s
structure Pg where
 prog:Program
 w:World
 K:Frag
 H:KOk K
structure Sn where
 own:Nk
 lvl:Nat
noncomputable abbrev Fr:=List (Str × PyData)
structure Sc(g:Pg)(N:Sn)(fr:Fr) where
 A:Around
 c:Cx
 env:Env
 L:Addr
 names:Nk
 cells:Ce
 out:Xs
 oA:OkA N.lvl A
 hK:c.K=g.K
 hE:EnvOk env L names cells
 nd:(N.own.map (·.1)).Nodup
 hn:∀ x k,(x,k)∈N.own→k≠.free→(x,k)∈names
 hc:∀ q∈cellsFrom (L+1) N.own [],q∈cells
 hfree:∀ x,(x,NameKind.free)∈N.own→∃ a,(x,a)∈cells
 hf:∀ x d,(x,d)∈fr→((x,NameKind.free)∈names∨(x,NameKind.cell)∈names)∧(x == ("__debug__" : Str))=false∧(x == ("__classdict__" : Str))=false∧∃ a,(x,a)∈cells∧(a,Knd.cell (some d))∈out
section
variable{g:Pg}{N:Sn}{fr:Fr}(sc:Sc g N fr)
noncomputable def full(σ:Sg):Xs:=(sc.L,.map (Be N.own σ.vars))::(Bm sc.L N.own σ.vars++(σ.objs++sc.out))
def Inv(N:Sn)(σ:Sg):Prop:=∀ x d,look x σ=some d→ownB x N.own=true
def liftA{α:Type}(K:α→Sg→Prop)(d:α)(X:Xs):Prop:=∃ σ,X=full sc σ∧Inv N σ∧K d σ
def liftU(K:Sg→Prop)(X:Xs):Prop:=∃ σ,X=full sc σ∧Inv N σ∧K σ
def V0(m:Sem Value)(σ:Sg)(K:PyData→Sg→Prop):Prop:=Inv N σ→W0 g.prog g.w sc.A sc.c m (full sc σ) (liftA sc K)
def V2(m:Value→Value→Sem Value)(a b:PyData)(σ:Sg)(K:PyData→Sg→Prop):Prop:=Inv N σ→W2 g.prog g.w sc.A sc.c m a b (full sc σ) (liftA sc K)
def VU1(m:Value→Sem Unit)(a:PyData)(σ:Sg)(K:Sg→Prop):Prop:=Inv N σ→U1 g.prog g.w sc.A sc.c m a (full sc σ) (liftU sc K)
def VU3(m:Value→Value→Value→Sem Unit)(a b d:PyData)(σ:Sg)(K:Sg→Prop):Prop:=Inv N σ→U3 g.prog g.w sc.A sc.c m a b d (full sc σ) (liftU sc K)
def VC(f:Value)(ds:Lp)(σ:Sg)(K:PyData→Sg→Prop):Prop:=Inv N σ→WC g.prog g.w sc.A sc.c f ds (full sc σ) (liftA sc K)
def VL(pos:Pos)(es:List Expr)(σ:Sg)(K:Lp→Sg→Prop):Prop:=Inv N σ→WL g.prog g.w sc.A sc.c pos sc.env es (full sc σ) (liftA sc K)
def VT(e:Expr)(σ:Sg)(K:Bool→Sg→Prop):Prop:=Inv N σ→WT g.prog g.w sc.A sc.c sc.env e (full sc σ) (liftA sc K)
def VI(e tg:Expr)(σ:Sg)(K:Lp→Sg→Prop):Prop:=Inv N σ→WJ g.prog g.w sc.A sc.c sc.env e tg (full sc σ) (liftA sc K)
def VS(l:List Stmt)(σ:Sg)(J:Fl→Sg→Prop):Prop:=Inv N σ→Ws g.prog g.w sc.A sc.c sc.env l (full sc σ) fun f X=>liftA sc J f X
end
section
variable{prog:Program}{w:World}{A:Around}{c:Cx}{env:Env}{X:Xs}
theorem W0.mono{m:Sem Value}{K K':PyData→Xs→Prop}(h:W0 prog w A c m X K)(k:∀ d Y,K d Y→K' d Y):W0 prog w A c m X K':=fun Z T s E Q S q=>h Z T s E Q S fun d X' v s' hk=>q d X' v s' (k _ _ hk)
theorem W2.mono{m:Value→Value→Sem Value}{a b:PyData}{K K':PyData→Xs→Prop}(h:W2 prog w A c m a b X K)(k:∀ d Y,K d Y→K' d Y):W2 prog w A c m a b X K':=fun v u Z T s E Q S q=>h v u Z T s E Q S fun d X' v s' hk=>q d X' v s' (k _ _ hk)
theorem U1.mono{m:Value→Sem Unit}{a:PyData}{K K':Xs→Prop}(h:U1 prog w A c m a X K)(k:∀ Y,K Y→K' Y):U1 prog w A c m a X K':=fun v Z T s E Q S q=>h v Z T s E Q S fun X' s' hk=>q X' s' (k _ hk)
theorem U3.mono{m:Value→Value→Value→Sem Unit}{a b d:PyData}{K K':Xs→Prop}(h:U3 prog w A c m a b d X K)(k:∀ Y,K Y→K' Y):U3 prog w A c m a b d X K':=fun v u y Z T s E Q S q=>h v u y Z T s E Q S fun X' s' hk=>q X' s' (k _ hk)
theorem WL.mono{pos:Pos}{es:List Expr}{K K':Lp→Xs→Prop}(h:WL prog w A c pos env es X K)(k:∀ d Y,K d Y→K' d Y):WL prog w A c pos env es X K':=fun Z T s E Q S q=>h Z T s E Q S fun ds X' vs s' hk=>q ds X' vs s' (k _ _ hk)
theorem WT.mono{e:Expr}{K K':Bool→Xs→Prop}(h:WT prog w A c env e X K)(k:∀ d Y,K d Y→K' d Y):WT prog w A c env e X K':=fun Z T s E Q S q=>h Z T s E Q S fun d X' s' hk=>q d X' s' (k _ _ hk)
theorem Ws.mono{l:List Stmt}{K K':Fl→Xs→Prop}(h:Ws prog w A c env l X K)(k:∀ d Y,K d Y→K' d Y):Ws prog w A c env l X K':=fun Z T s E Q S q1 q2 q3 q4=>h Z T s E Q S (fun X' s' hk=>q1 X' s' (k _ _ hk)) (fun X' s' hk=>q2 X' s' (k _ _ hk)) (fun X' s' hk=>q3 X' s' (k _ _ hk)) fun d X' v s' hk=>q4 d X' v s' (k _ _ hk)
end
section
variable{g:Pg}{N:Sn}{fr:Fr}{sc:Sc g N fr}
theorem cell_skip{names:Nk}{L:Addr}{p:Str}{d:PyData}{b:List (Str × PyData)}(nd:(names.map (·.1)).Nodup)(hn:(p,NameKind.local)∈names):Bm L names ((p,d)::b)=Bm L names b:=by
 refine E8 fun hm=>?_
 obtain⟨⟨y,a⟩,hq,e⟩:=List.mem_map.mp hm;rcases Bx _ _ _ _ _ hq with z | ⟨z,_⟩
 ·cases z
 ·have e:y=p:=e;subst e;have:=(A5 nd hn).symm.trans (A5 nd z);cases this
theorem frame_skip{names:Nk}{p:Str}{d:PyData}{b:List (Str × PyData)}(nd:(names.map (·.1)).Nodup)(hn:(p,NameKind.cell)∈names):Be names ((p,d)::b)=Be names b:=by
 refine E4 fun n hq hk e=>?_
 have hq':(p,NameKind.local)∈names:=by
  obtain⟨y,k⟩:=n;have e:y=p:=e;have hk:k=.local:=hk;subst e;subst hk;exact hq
 have:=(A5 nd hn).symm.trans (A5 nd hq');cases this
theorem F3{names:Nk}(L:Addr){p:Str}(hn:(p,NameKind.cell)∈names):∃ a,(p,a)∈cellsFrom (L+1) names []:=by
 have hm:p∈(cellsFrom (L+1) names []).map (·.1):=by
  refine rz (Ca ..) ?_;simp only[map_nil,append_nil,mem_reverse,mem_map,List.mem_filter];exact⟨_,⟨hn,rfl⟩,rfl⟩
 obtain⟨⟨y,a⟩,hq,e⟩:=List.mem_map.mp hm;have e:y=p:=e;subst e;exact⟨a,hq⟩
theorem Inv.put{x:Str}{d:PyData}{σ:Sg}(hb:ownB x N.own=true)(i:Inv N σ):Inv N (.put x d σ):=fun y e h=>by
 rcases F2 (b:=sEq y x) (x:=some d) (y:=look y σ) h with ⟨hy,_⟩ | ⟨_,h⟩
 ·refine rz (D2 hy ..) <| hb
 ·exact i _ _ h
theorem v_store{x:Str}{d:PyData}{σ:Sg}{K:Sg→Prop}(hb:ownB x N.own=true)(h:K (.put x d σ)):VU1 sc (storeName sc.env x) d σ K:=fun i=>by
 have goal:liftU sc K (full sc (.put x d σ)):=⟨_,rfl,i.put hb,h⟩;have nd:=sc.nd;have e0:full sc (.put x d σ)=(sc.L,.map (Be N.own ((x,d)::σ.vars)))::(Bm sc.L N.own ((x,d)::σ.vars)++(σ.objs++sc.out)):=rfl;rw[e0] at goal;rcases(Fx hb).1 with hn | hn
 ·rw[cell_skip nd hn] at goal;exact w_storeL sc.hE (sc.hn _ _ hn (by decide)) .here (Ek nd hn) goal
 ·rw[frame_skip nd hn] at goal;obtain⟨a,ha⟩:=F3 sc.L hn
  obtain⟨d₀,U⟩:=En (d:=d) (done:=σ.vars) (Z:=σ.objs++sc.out) (De nd (sc.L+1)) ha;exact w_storeC sc.hE (sc.hn _ _ hn (by decide)) (sc.hc _ ha) (.there U) goal
theorem v_look{x:Str}{p:Pos}{d:PyData}{σ:Sg}{K:PyData→Sg→Prop}(hx:look x σ=some d)(h:K d σ):V0 sc (eval (.Name x p) sc.env) σ K:=fun i=>by
 have goal:liftA sc K d (full sc σ):=⟨_,rfl,i,h⟩;obtain⟨hk,hd⟩:=Fx (i _ _ hx);rw[Cu] at hx;rcases hk with hn | hn
 ·refine w_local sc.hE (sc.hn _ _ hn (by decide)) (.head _) ?_ goal hd
  refine List.mem_map.mpr ⟨(x,.local),List.mem_filter.mpr ⟨hn,rfl⟩,?_⟩;exact rz (hx ..) rfl
 ·obtain⟨a,ha⟩:=F3 sc.L hn;refine w_cell sc.hE (sc.hn _ _ hn (by decide)) (sc.hc _ ha) (.tail _ (mem_append_left _ ?_)) goal hd
  refine List.mem_map.mpr ⟨(x,a),ha,?_⟩;exact rz (hx ..) rfl
theorem v_free{x:Str}{p:Pos}{d:PyData}{σ:Sg}{K:PyData→Sg→Prop}(hx:(x,d)∈fr)(h:K d σ):V0 sc (eval (.Name x p) sc.env) σ K:=fun i=>by
 obtain⟨hn,hd,hm,a,ha,hX⟩:=sc.hf _ _ hx;rcases hn with hn | hn
 ·exact w_free sc.hE hn ha (.tail _ (mem_append_right _ (mem_append_right _ hX))) ⟨_,rfl,i,h⟩ hd hm
 ·exact w_cell sc.hE hn ha (.tail _ (mem_append_right _ (mem_append_right _ hX))) ⟨_,rfl,i,h⟩ hd
end
section
variable{prog:Program}{w:World}{A:Around}{c:Cx}{env:Env}{X:Xs}
def Le(c:Cx)(X X':Xs):Prop:=∀ Z T s,St c (X++Z) T s→St c (X'++Z) T s
theorem Le.of{X':Xs}(h:WeakX X X'):Le c X X':=fun Z T s S=>S.weak h.left
theorem Le.drop{X' D:Xs}(h:X.Perm (D++X')):Le c X X':=fun Z T s S=>by
 have S1:=S.perm (h.append_right Z);rw[append_assoc] at S1;exact S1.freeL D
theorem Le.trans{X' X2:Xs}(h:Le c X X')(h2:Le c X' X2):Le c X X2:=fun Z T s S=>h2 Z T s (h Z T s S)
theorem WJ.mono{e tg:Expr}{K K':Lp→Xs→Prop}(h:WJ prog w A c env e tg X K)(k:∀ d Y,K d Y→K' d Y):WJ prog w A c env e tg X K':=fun Z T s E Q S q=>h Z T s E Q S fun ds X' I kn T' s' hk=>q ds X' I kn T' s' (k _ _ hk)
theorem ws_forJ{tg it:Expr}{body:List Stmt}{q:Pos}{rest:List Stmt}{J:Fl→Xs→Prop}(h:WJ prog w A c env it tg X fun ds X0=>∃ I:Nat→Xs→Prop,I 0 X0 ∧
   (∀ i d X1,ds[i]?=some d→I i X1→U1 prog w A c (assign tg env) d X1 fun X2=>Ws prog w A c env body X2 fun f X3=>match f with | .next=>I (i+1) X3 | .cont=>I (i+1) X3 | .brk=>Ws prog w A c env rest X3 J | .ret r=>J (.ret r) X3) ∧
   ∀ X1,I ds.length X1→Ws prog w A c env rest X1 J) (hs:∀ x,foldedSetIterable it env x=pure x):Ws prog w A c env (.For tg it body [] q::rest) X J:=fun Z T s E Q S q1 q2 q3 q4=>by
 refine x_for (h Z T s E _ S ?_) hs;rintro ds X1 It kn T' s2 ⟨I,h0,turn,done⟩ hT S2 W;refine for_it W (fun i Y=>∃ Xi,Y=Xi++Z∧I i Xi) S2 ⟨_,rfl,h0⟩ ?_ ?_
 ·rintro i d Y v s3 E' hd ⟨Xi,rfl,hI⟩ S3;refine turn i d Xi hd hI v _ _ s3 E' _ (S3.perm (perm_append_comm_assoc _ _ _)) fun X2 s4 h4 S4=>?_
  refine h4 _ _ s4 E' _ S4 ?_ ?_ ?_ ?_
  ·exact fun X3 s5 h5 S5=>⟨_,⟨X3,rfl,h5⟩,S5.perm (perm_append_comm_assoc _ _ _)⟩
  ·exact fun X3 s5 h5 S5=>k_next (h5 Z T s5 E Q ((S5.perm (perm_append_comm_assoc _ _ _)).freeL _ |>.drop hT) q1 q2 q3 q4)
  ·exact fun X3 s5 h5 S5=>⟨_,⟨X3,rfl,h5⟩,S5.perm (perm_append_comm_assoc _ _ _)⟩
  ·exact fun r X3 v s5 h5 S5=>k_ret (q4 _ _ _ _ h5 ((S5.perm (perm_append_comm_assoc _ _ _)).freeL _ |>.drop (Cp hT)))
 ·rintro Y s3 ⟨Xi,rfl,hI⟩ S3;exact k_next (done Xi hI Z T s3 E Q (S3.drop hT) q1 q2 q3 q4)
end
noncomputable abbrev KV:=PyData→Sg→Prop
structure VR where
 E:Expr→Sg→KV→Prop
 T:Expr→Sg→(Bool→Sg→Prop)→Prop
 I:Expr→Expr→Sg→(Lp→Sg→Prop)→Prop
 L:Pos→List Expr→Sg→(Lp→Sg→Prop)→Prop
 A:Expr→PyData→Sg→(Sg→Prop)→Prop
 S:List Stmt→Sg→(Fl→Sg→Prop)→Prop
noncomputable abbrev RR:=Sn→Fr→VR
inductive LC{α:Type}(p:Prop)(K:α→Sg→Prop)(d:α)(σ:Sg):Prop
 |mk(h:p)(k:K d σ)
inductive LSub(σ σ':Sg):Prop
 |mk(h:σ'.vars.map (fun p=>look p.1 σ)=σ'.vars.map (fun p=>some p.2))(ho:σ.objs=σ'.objs)
 |drop(D:Xs)(h:σ'.vars.map (fun p=>look p.1 σ)=σ'.vars.map (fun p=>some p.2))(ho:σ.objs.Perm (D++σ'.objs))
noncomputable abbrev Lk(rs:Lp):Knd:=.seq (.type "list") none rs
noncomputable def ownD(as:List Addr)(ts:List (Lp)):Xs:=(as.zip ts).map fun p=>(p.1,Lk p.2)
inductive LFz(P:Sg→Prop):Sg→Prop
 |ok{σ:Sg}(h:P σ):LFz P σ
 |frz{σ:Sg}(y:Str)(x:Addr)(ds:Lp)(j:Nat)(hy:look y σ=some (Rf x))(hX:σ.objs[j]?=some (x,.seq (.type "list") none ds))(h:LFz P (.put y (.list ds) (.rem j σ))):LFz P σ
 |deep{σ:Sg}(x:Addr)(as:List Addr)(ts:List (Lp))(Y:Xs)(hl:as.length=ts.length)(ho:σ.objs.Perm ((x,Lk (as.map Rf))::(ownD as ts++Y)))(h:LFz P (.own ((x,Lk (ts.map .list))::Y) σ)):LFz P σ
inductive LObj(m:PyData)(σ:Sg)(P:Lp→Prop):Prop
 |mk(x:Addr)(ds:Lp)(j:Nat)(ha:m=Rf x)(hX:σ.objs[j]?=some (x,.seq (.type "list") none ds))(h:P ds)
def IsL(σ:Sg)(a:PyData)(ds:Lp):Prop:=a=.list ds∨∃ (x:Addr) (j:Nat),a=Rf x∧σ.objs[j]?=some (x,Knd.seq (.type "list") none ds)
def vLst(a:PyData)(σ:Sg)(P:Lp→Prop):Prop:=match a with
 |.list ds=>P ds
 |.dict m=>LObj (.dict m) σ P
 |_=>False
inductive LOwn(ds:Lp)(σ:Sg)(K:KV):Prop
 |own(h:∀ a,K (Rf a) (.obj a (.seq (.type "list") none ds) σ))
 |frz(h:K (.list ds) σ)
inductive LGet(ds:Lp)(k:Int)(σ:Sg)(K:KV):Prop
 |mk(d:PyData)(h0:0≤k)(hf:k<2^63)(hd:ds[k.toNat]?=some d)(h:K d σ)
 |neg(d:PyData)(h0:k<0)(h1:-(ds.length:Int)≤k)(hf:-(2^63)≤k)(hd:ds[(k+ds.length).toNat]?=some d)(h:K d σ)
inductive LGetT(ds:Lp)(k:Int)(σ:Sg)(K:KV):Prop
 |mk(n:Nat)(d:PyData)(hk:k=(n:Nat))(hd:ds[n]?=some d)(hz:ds.length≤1000000)(h:K d σ)
inductive LGetP(ds:Lp)(k:Int)(σ:Sg)(K:KV):Prop
 |mk(d:PyData)(h0:0≤k)(hf:k<2^63)(hd:ds[k.toNat]?=some d)(h:K d σ)
inductive LChr(x:Str)(k:Int)(σ:Sg)(K:KV):Prop
 |mk(n:Nat)(hr:(decide (k < -(2^63:Int))||decide (k≥2^63))=false)(hc:(seqIndex? k x.length).bind (x.cps[·]?)=some n)(h:K (.str ⟨#[n]⟩) σ)
inductive LSet(a b d:PyData)(σ:Sg)(K:Sg→Prop):Prop
 |mk(x:Addr)(ds:Lp)(k:Int)(j:Nat)(ha:a=Rf x)(hb:b=.int k)(hX:σ.objs[j]?=some (x,.seq (.type "list") none ds))(h0:0≤k)(hf:k<2^63)(hd:k<ds.length)(h:K (.upd j (.seq (.type "list") none (ds.set k.toNat d)) σ))
inductive LExt(a b:PyData)(σ:Sg)(K:KV):Prop
 |mk(x:Addr)(ds es:Lp)(j:Nat)(ha:a=Rf x)(hX:σ.objs[j]?=some (x,.seq (.type "list") none ds))(hb:IsL σ b es)(hz:ds.length+es.length≤4096)(h:K (Rf x) (.upd j (.seq (.type "list") none (ds++es)) σ))
inductive LApp(a d:PyData)(σ:Sg)(K:KV):Prop
 |mk(x:Addr)(ds:Lp)(j:Nat)(ha:a=Rf x)(hX:σ.objs[j]?=some (x,.seq (.type "list") none ds))(hz:ds.length≤sizeLine)(h:K .none (.upd j (.seq (.type "list") none (ds++[d])) σ))
inductive LMod(a b:Int)(σ:Sg)(K:KV):Prop
 |mk(hb:b≠0)(h:K (.int (a.fmod b)) σ)
inductive LDiv(a b:Int)(σ:Sg)(K:KV):Prop
 |mk(hb:b≠0)(hs:b.natAbs<1073741824)(h:K (.int (a.fdiv b)) σ)
inductive LEqL(a b:PyData)(σ:Sg)(K:KV):Prop
 |nil(ds:Lp)(ha:IsL σ a ds)(hb:b=.list [])(hs:Sh 60 (.list ds))(h:K (.bool ds.isEmpty) σ)
inductive LNeL(a b:PyData)(σ:Sg)(K:KV):Prop
 |nil(ds:Lp)(ha:IsL σ a ds)(hb:b=.list [])(hs:Sh 60 (.list ds))(h:K (.bool (!ds.isEmpty)) σ)
 |gen(ds es:Lp)(ha:IsL σ a ds)(hb:IsL σ b es)(hs:Sh 60 (.list ds))(ht:Sh 60 (.list es))(h:K (.bool (!PyData.eqv (.list ds) (.list es))) σ)
inductive LIn(ds:Lp)(a:PyData)(σ:Sg)(K:Bool→Prop):Prop
 |mk(r:Bool)(hr:(ds.any fun y=>PyData.eqv y a)=r)(hl:PyData.canLayAll0 ds=true)(ha:a.canLay0=true)(hd:a.depth≤60)(h:K r)
inductive LInts(ds:Lp)(P:List Int→Prop):Prop
 |mk(ns:List Int)(e:ds=ns.map .int)(h:P ns)
inductive LStrs(ds:Lp)(P:List Str→Prop):Prop
 |mk(ss:List Str)(e:ds=ss.map .str)(h:P ss)
inductive LIf(b:Bool)(P Q:Prop):Prop
 |mk(h1:b=true→P)(h2:b=false→Q)
noncomputable def isK(d:PyData)(σ:Sg):KV:=fun d' σ'=>d'=d∧σ'=σ
inductive LIfE(r:VR)(x y:Expr)(z:Bool)(σ:Sg)(K:KV):Prop
 |mk(h1:z=true→r.E x σ K)(h2:z=false→r.E y σ K)
 |cut(d:PyData)(h1:z=true→r.E x σ (isK d σ))(h2:z=false→r.E y σ (isK d σ))(h:K d σ)
inductive LRet(d:PyData)(σ:Sg)(J:Fl→Sg→Prop):Prop
 |mk(h:J (.ret d) σ)
 |frz(x:Addr)(ds:Lp)(j:Nat)(ha:d=Rf x)(hX:σ.objs[j]?=some (x,.seq (.type "list") none ds))(h:J (.ret (.list ds)) (.rem j σ))
def loopJ(r:VR)(rest:List Stmt)(F':Sg)(J:Fl→Sg→Prop)(f:Fl)(σ:Sg):Prop:=match f with
 |.next=>LSub σ F' | .cont=>LSub σ F' | .brk=>r.S rest σ J | .ret d=>J (.ret d) σ
def loopJx{α:Type}(r:VR)(rest:List Stmt)(P:α→Prop)(F':α→Sg)(J:Fl→Sg→Prop)(f:Fl)(σ:Sg):Prop:=match f with
 |.next=>∃ a,P a∧LSub σ (F' a) | .cont=>∃ a,P a∧LSub σ (F' a) | .brk=>r.S rest σ J | .ret d=>J (.ret d) σ
inductive LFor(r:VR)(tg:Expr)(body rest:List Stmt)(ds:Lp)(σ:Sg)(J:Fl→Sg→Prop):Prop
 |mk(F:Nat→Sg)(h0:LSub σ (F 0))(turn:∀ i d,ds[i]?=some d→r.A tg d (F i) fun σ=>r.S body σ (loopJ r rest (F (i+1)) J))(done:LFz (fun σ=>r.S rest σ J) (F ds.length))
 |ex(α:Type)(P:Nat→α→Prop)(F:Nat→α→Sg)(a₀:α)(p0:P 0 a₀)(h0:LSub σ (F 0 a₀))(turn:∀ i a d,ds[i]?=some d→P i a→r.A tg d (F i a) fun σ=>r.S body σ (loopJx r rest (P (i+1)) (F (i+1)) J))(done:∀ a,P ds.length a→LFz (fun σ=>r.S rest σ J) (F ds.length a))
def whileJ{α:Type}(r:VR)(rest:List Stmt)(F:α→Sg)(m:α→Nat)(a:α)(J:Fl→Sg→Prop)(f:Fl)(σ:Sg):Prop:=match f with
 |.next=>∃ b,m b<m a∧LSub σ (F b) | .cont=>∃ b,m b<m a∧LSub σ (F b) | .brk=>r.S rest σ J | .ret d=>J (.ret d) σ
inductive LWhile(r:VR)(t:Expr)(body rest:List Stmt)(σ:Sg)(J:Fl→Sg→Prop):Prop
 |cut(α β:Type)(F:α→Sg)(m:α→Nat)(G:β→Sg)(a₀:α)(h0:LSub σ (F a₀))(turn:∀ a,r.T t (F a) fun z σ=>LIf z (r.S body σ (whileJ r rest F m a J)) (∃ b,LSub σ (G b)))(done:∀ b,LFz (fun σ=>r.S rest σ J) (G b))
 |mk(α:Type)(F:α→Sg)(m:α→Nat)(a₀:α)(h0:LSub σ (F a₀))(turn:∀ a,r.T t (F a) fun z σ=>LIf z (r.S body σ (whileJ r rest F m a J)) (LFz (fun σ=>r.S rest σ J) σ))
def thenJ(r:VR)(rest:List Stmt)(J:Fl→Sg→Prop)(f:Fl)(σ:Sg):Prop:=match f with
 |.next=>r.S rest σ J | .brk=>J .brk σ | .cont=>J .cont σ | .ret d=>J (.ret d) σ
def cutJ(F:Sg)(J:Fl→Sg→Prop)(f:Fl)(σ:Sg):Prop:=match f with
 |.next=>LSub σ F | .brk=>J .brk σ | .cont=>J .cont σ | .ret d=>J (.ret d) σ
inductive LIfS(r:VR)(z:Bool)(body els rest:List Stmt)(σ:Sg)(J:Fl→Sg→Prop):Prop
 |mk(h1:z=true→r.S body σ (thenJ r rest J))(h2:z=false→r.S els σ (thenJ r rest J))
 |cut(F:Sg)(h1:z=true→r.S body σ (cutJ F J))(h2:z=false→r.S els σ (cutJ F J))(h:r.S rest F J)
noncomputable def Cl(prog:Program)(w:World)(K:Frag)(n:Nat)(f:Value)(B:Xs)(ds:Lp)(post:PyData→Xs→Prop):Prop :=
 ∀ (A:Around) (c:Cx) (X:Xs) (T:Ts) (s:Shared) (vs:List Value) (E Q:VP),OkA n A→c.K=K→St c (B++X) T s→Rps (ban c (B++X)) s.heap vs ds →
  (∀ v d B' s',post d B'→St c (B'++X) ((v,d)::T) s'→Q v s')→wpAny (model prog w) A (call f vs) Q E s
inductive LFn(g:Pg)(n:Nat)(ds:Lp)(σ:Sg)(K:KV):Value→Prop
 |pure{f:Addr}(m:Nat)(hm:Nat.ble m n=true)(d:PyData)(F:Pure g.prog g.w g.K m f ds d)(h:K d σ):LFn g n ds σ K (.ref f)
 |fn{f:Addr}(m:Nat)(hm:Nat.ble m n=true)(B Y:Xs)(post:PyData→Xs→Prop)(F:Fn g.prog g.w g.K m f B ds post)(hp:σ.objs.Perm (B++Y))(h:∀ d B',post d B'→K d (.own (B'++Y) σ)):LFn g n ds σ K (.ref f)
 |cl{f:Value}(m:Nat)(hm:Nat.ble m n=true)(B Y:Xs)(post:PyData→Xs→Prop)(F:Cl g.prog g.w g.K m f B ds post)(hp:σ.objs.Perm (B++Y))(h:∀ d B',post d B'→K d (.own (B'++Y) σ)):LFn g n ds σ K f
noncomputable def wsMs:Ce:=[("__init__",164),("longest_run_of_spaces",171),("indent_level",178),("less",199)]
noncomputable def netMs:Ce:=[("__init__",119),("_read_char",126),("get_token",133),("push_token",140)]
noncomputable def accMs:Ce:=[("__init__",38),("push",45),("pop",61),("__str__",75),("part_count",98)]
inductive MRes(σ:Sg)(x:Addr)(name:Str)(f:Addr):Prop
 |ws(dx:Addr)(ρ:Od)(i j:Nat)(hi:σ.objs[i]?=some (x,Ins 209 dx))(hd:σ.objs[j]?=some (dx,.obj ρ))(hm:findS name wsMs=some f)(hk:ρ.map (·.1)=D6)
 |net(dx:Addr)(ρ:Od)(i j:Nat)(hi:σ.objs[i]?=some (x,Ins 143 dx))(hd:σ.objs[j]?=some (dx,.obj ρ))(hm:findS name netMs=some f)(hk:ρ.map (·.1)=Ck)
 |acc(dx:Addr)(ρ:Od)(ds:Lp)(i j:Nat)(hi:σ.objs[i]?=some (x,.seq (.ref 101) (some dx) ds))(hd:σ.objs[j]?=some (dx,.obj ρ))(hm:findS name accMs=some f)(hk:ρ.map (·.1)=Dy)
inductive LPop(x:Addr)(ps:Lp)(σ:Sg)(K:KV):Prop
 |mk(i:Int)(k:Nat)(d:PyData)(ds:Lp)(j:Nat)(hp:ps=[.int i])(hX:σ.objs[j]?=some (x,.seq (.type "list") none ds))(hf:Builtin.List.listFitsIndex i=true)(hk:seqIndex? i ds.length=some k)(hd:ds[k]?=some d)(hz:ds.length≤sizeLine)(h:K d (.upd j (.seq (.type "list") none (ds.eraseIdx k)) σ))
inductive LMtd(g:Pg)(n:Nat)(r:VR)(name:Str)(pos:Pos)(es:List Expr)(a:PyData)(σ:Sg)(K:KV):Prop
 |fn0(x f:Addr)(ha:a=Rf x)(hes:es=[])(hm:MRes σ x name f)(h:LFn g n [a] σ K (.ref f))
 |fn(x f:Addr)(e:Expr)(es':List Expr)(ha:a=Rf x)(hes:es=e::es')(hm:MRes σ x name f)(h:r.L pos es σ fun ds σ=>LFn g n (a::ds) σ K (.ref f))
 |fattr(x D f:Addr)(fd fd':FuncData)(ρ:Od)(i j k:Nat)(e:Expr)(es':List Expr)(ha:a=Rf x)(hi:σ.objs[i]?=some (x,FnD fd D))(hd:σ.objs[j]?=some (D,.obj ρ))(hf:σ.objs[k]?=some (f,FnN fd'))(hnm:sEq name "read" = true)(hn:findS name ρ=some (some (Rf f)))(hes:es=e::es')(h:r.L pos es σ fun ds σ2=>σ2.objs[k]?=some (f,FnN fd')∧LFn g n ds σ2 K (.ref f))
 |popAt(x:Addr)(ds:Lp)(j:Nat)(e:Expr)(es':List Expr)(ha:a=Rf x)(hX:σ.objs[j]?=some (x,.seq (.type "list") none ds))(hn:sEq name "pop" = true)(hes:es=e::es')(h:r.L pos es σ fun ps σ=>LPop x ps σ K)
inductive LAttr(name:Str)(a:PyData)(σ:Sg)(K:KV):Prop
 |ws(x dx:Addr)(ρ:Od)(i j:Nat)(d:PyData)(ha:a=Rf x)(hi:σ.objs[i]?=some (x,Ins 209 dx))(hd:σ.objs[j]?=some (dx,.obj ρ))(hn:findS name ρ=some (some d))(hw:D6.any (sEq name)=true)(h:K d σ)
 |net(x dx:Addr)(ρ:Od)(i j:Nat)(d:PyData)(ha:a=Rf x)(hi:σ.objs[i]?=some (x,Ins 143 dx))(hd:σ.objs[j]?=some (dx,.obj ρ))(hn:findS name ρ=some (some d))(hw:Ck.any (sEq name)=true)(h:K d σ)
noncomputable def putN(x:Str)(d:PyData)(l:Od):Option (Od):=l.rec none fun p r f=>cond (sEq x p.1) (some ((p.1,some d)::r)) (f.map (List.cons p))
inductive LSetA(name:Str)(a d:PyData)(σ:Sg)(K:Sg→Prop):Prop
 |ws(x dx:Addr)(ρ ρ':Od)(i j:Nat)(ha:a=Rf x)(hi:σ.objs[i]?=some (x,Ins 209 dx))(hd:σ.objs[j]?=some (dx,.obj ρ))(hn:putN name d ρ=some ρ')(hw:D6.any (sEq name)=true)(h:K (.upd j (.obj ρ') σ))
 |net(x dx:Addr)(ρ ρ':Od)(i j:Nat)(ha:a=Rf x)(hi:σ.objs[i]?=some (x,Ins 143 dx))(hd:σ.objs[j]?=some (dx,.obj ρ))(hn:putN name d ρ=some ρ')(hw:Ck.any (sEq name)=true)(h:K (.upd j (.obj ρ') σ))
def vIfs(r:VR)(ifs:List Expr)(σ:Sg)(P Q:Sg→Prop):Prop:=match ifs with
 |[]=>P σ
 |[t]=>r.T t σ fun z σ=>LIf z (P σ) (Q σ)
 |_=>False
inductive LComp(r:VR)(elt tg:Expr)(ifs:List Expr)(ds:Lp)(σ:Sg)(K:KV):Prop
 |mk(J:Nat→Lp→Xs→Prop)(hz:ds.length≤sizeLine)(h0:J 0 [] σ.objs)
  (turn:∀ i d rs O,ds[i]?=some d→J i rs O→∃ (Pt:Prop) (Pe:KV) (Pn:Sg→Prop),(Pt→∀ d' σ3,Pe d' σ3→J (i+1) (rs++[d']) σ3.objs)∧(∀ σ2,Pn σ2→J (i+1) rs σ2.objs)∧r.A tg d (.own O .nil) fun σ1=>vIfs r ifs σ1 (fun σ2=>Pt∧r.E elt σ2 Pe) Pn)
  (done:∀ rs O,J ds.length rs O→LOwn rs (.own O σ) K∨O=σ.objs∧LOwn rs σ K)
inductive In2(r:VR)(elt t2:Expr)(fs:Lp)(O:Xs)(es:Lp)(σ:Sg):Prop
 |mk(f:Nat→PyData)(F:Sg)(hf:fs=(List.range es.length).map f)(hF:LSub σ F)(hO:F.objs=O)(turn:∀ j e,es[j]?=some e→r.A t2 e F fun σ3=>r.E elt σ3 fun d' σ4=>d'=f j∧LSub σ4 F)
inductive LComp2(r:VR)(elt t1 t2 i2:Expr)(ds:Lp)(σ:Sg)(K:KV):Prop
 |mk(fs:Nat→Lp)(hz:ds.length≤sizeLine)(hl:∀ i,((List.range i).flatMap fs).length+(fs i).length≤sizeLine∨ds.length≤i)
  (turn:∀ i d,ds[i]?=some d→r.A t1 d (.own σ.objs .nil) fun σ1=>r.I i2 t2 σ1 (In2 r elt t2 (fs i) σ.objs))
  (done:LOwn ((List.range ds.length).flatMap fs) σ K)
section
def vAdd(a b:PyData)(σ:Sg)(K:KV):Prop:=match a with
 |.int i=>(match b with | .int j=>K (.int (i+j)) σ | _=>False)
 |.str x=>(match b with | .str y=>LC (x.length+y.length≤sizeLine) K (.str (x++y)) σ | _=>False)
 |a=>vLst a σ fun ds=>vLst b σ fun es=>ds.length+es.length≤sizeLine∧LOwn (ds++es) σ K
def vInt(a:PyData)(P:Int→Prop):Prop:=match a with | .int i=>P i | _=>False
def vBool(d:PyData)(P:Bool→Prop):Prop:=match d with | .bool b=>P b | _=>False
def vStr(a:PyData)(P:Str→Prop):Prop:=match a with | .str i=>P i | _=>False
def vMul(a b:PyData)(σ:Sg)(K:KV):Prop:=match a with
 |.int i=>vInt b fun j=>LC (IntMulOk i j) K (.int (i*j)) σ
 |a=>vInt b fun x=>vLst a σ fun ds=>(0≤x∧x<2^63∧ds.length*x.toNat≤2^24)∧LOwn (List.replicate x.toNat ds).flatten σ K
def vBin(op:Operator)(a b:PyData)(σ:Sg)(K:KV):Prop:=match op with
 |.Add=>vAdd a b σ K
 |.Sub=>vInt a fun i=>vInt b fun j=>K (.int (i-j)) σ
 |.Mult=>vMul a b σ K
 |.Mod=>vInt a fun i=>vInt b fun j=>LMod i j σ K
 |.FloorDiv=>vInt a fun i=>vInt b fun j=>LDiv i j σ K
 |.Pow=>vInt a fun i=>vInt b fun j=>LC (0≤j∧(Builtin.Int.intBits i:Int)*j≤2^27) K (.int (i^j.toNat)) σ
 |_=>False
def vIBin(op:Operator)(a b:PyData)(σ:Sg)(K:KV):Prop:=match op with
 |.Add=>(match a with
  |.int i=>vInt b fun j=>K (.int (i+j)) σ
  |.str x=>vStr b fun y=>LC (x.length+y.length≤sizeLine) K (.str (x++y)) σ
  |a=>LExt a b σ K)
 |.FloorDiv=>vInt a fun i=>vInt b fun j=>LDiv i j σ K
 |_=>False
def vEq(a b:PyData)(σ:Sg)(K:KV):Prop:=match a with
 |.int i=>vInt b fun j=>K (.bool (i == j)) σ
 |.str x=>vStr b fun y=>K (.bool (x == y)) σ
 |a=>LEqL a b σ K
def vNe(a b:PyData)(σ:Sg)(K:KV):Prop:=match a with
 |.int i=>vInt b fun j=>K (.bool (i != j)) σ
 |.str x=>vStr b fun y=>K (.bool (!(x == y))) σ
 |a=>LNeL a b σ K
def vIn(a b:PyData)(σ:Sg)(K:KV):Prop:=match b with
 |.str x=>vStr a fun y=>K (.bool (Txt.contains x y)) σ
 |b=>vLst b σ fun ds=>LIn ds a σ fun r=>K (.bool r) σ
def vCmp(op:CmpOp)(a b:PyData)(σ:Sg)(K:KV):Prop:=match op with
 |.Eq=>vEq a b σ K
 |.NotEq=>vNe a b σ K
 |.Lt=>vInt a fun i=>vInt b fun j=>K (.bool (decide (i<j))) σ
 |.LtE=>vInt a fun i=>vInt b fun j=>K (.bool (decide (i≤j))) σ
 |.Gt=>vInt a fun i=>vInt b fun j=>K (.bool (decide (j<i))) σ
 |.GtE=>vInt a fun i=>vInt b fun j=>K (.bool (decide (j≤i))) σ
 |.In=>vIn a b σ K
 |.NotIn=>vLst b σ fun ds=>LIn ds a σ fun r=>K (.bool (!r)) σ
 |.IsNot=>vBool a fun i=>vBool b fun j=>K (.bool (!(i == j))) σ
 |_=>False
def vSubs(a b:PyData)(σ:Sg)(K:KV):Prop:=vInt b fun k=>match a with
 |.str x=>LChr x k σ K
 |.tuple ds=>LGetT ds k σ K
 |a=>vLst a σ fun ds=>LGet ds k σ K
def vGet(a b:PyData)(σ:Sg)(K:KV):Prop:=vInt b fun k=>vLst a σ fun ds=>LGetP ds k σ K
def vSlice(a:PyData)(l h t:Option Int)(σ:Sg)(K:KV):Prop:=match a with
 |.str x=>(match t with | none=>LC (x.length≤1000000) K (.str (tx (pick x.cps.toList l h none))) σ | some _=>False)
 |a=>vLst a σ fun ds=>(t≠some 0∧ds.length≤sizeLine)∧LOwn (pick ds l h t) σ K
noncomputable def plainE(e:Expr):Bool:=!(Nat.beq e.ctorIdx 26)
noncomputable def Fe(e:Expr):Bool:=!(Nat.beq e.ctorIdx 22)
noncomputable def Fg(e:Expr):Bool:=!(Nat.ble 8 e.ctorIdx&&Nat.ble e.ctorIdx 10)
noncomputable def noSet(e:Expr):Bool:=!(Nat.beq e.ctorIdx 7)
noncomputable def noBase:Expr→Bool | .Call _ [] _ _=>false | _=>true
noncomputable def valT(e:Expr):Bool:=!(Nat.beq e.ctorIdx 0||Nat.beq e.ctorIdx 3||Nat.beq e.ctorIdx 5||Nat.beq e.ctorIdx 15)
noncomputable def B3(es:List Expr):Bool:=es.all Fe
noncomputable def gloK(x:Str)(l:Nk):Bool:=(findS x l).any (· == .globalImplicit)
noncomputable def gloB(x:Str)(l:Nk):Bool:=match sEq x "__debug__" with | true=>false | false=>gloK x l
def oneL{α:Type}(l:List α)(P:α→Prop)(Q:Prop):Prop:=match l with | []=>Q | a::r=>(match r with | []=>P a | _::_=>Q)
def twoL{α:Type}(l:List α)(P:α→α→Prop)(Q:Prop):Prop:=match l with | []=>Q | a::r=>oneL r (P a) Q
def threeL{α:Type}(l:List α)(P:α→α→α→Prop)(Q:Prop):Prop:=match l with | []=>Q | a::r=>twoL r (P a) Q
def v12(l:Lp)(P:PyData→Prop)(Q:PyData→PyData→Prop):Prop:=match l with | []=>False | a::r=>(match r with | []=>P a | b::r=>(match r with | []=>Q a b | _::_=>False))
def vRg(m:List (PyData × PyData))(P:Int→Int→Prop)(Q:Prop):Prop:=oneL m (fun p=>match p.1 with | .int a=>(match p.2 with | .int b=>P a b | _=>Q) | _=>Q) Q
def vNm(t:Expr)(P:Str→Prop):Prop:=match t with | .Name x _=>P x | _=>False
def vIc(t:Expr)(P:Int→Prop):Prop:=match t with | .Constant c _ _=>(match c with | .int i=>P i | _=>False) | _=>False
noncomputable def intZ:Int→Bool | .ofNat n=>n.beq 0 | _=>false
inductive Bj(n:Nat) | list | range | len | sum | max | sorted | str | int | tuple
noncomputable abbrev Bi:=Bj 0
noncomputable def biTab:List (Str × Bi):=[("list",.list),("range",.range),("len",.len),("sum",.sum),("max",.max),("sorted",.sorted),("str",.str),("int",.int),("tuple",.tuple)]
noncomputable def fnTab:Ce:=[("_law_written",225),("_law_lead",230),("_law_order",237),("_law_nest",244),("_law_column",251),("_law_due",256),("_law_tied",261),("_law_shape",266),
 ("_law_sums",271),("_law_turned",278),("_law_line",285),("_law_pile",292),("_law_visits",297),("_law_cut",302),("_law_led",309),("_law_stream",220),("_Accumulator",101),("_netrclex",143),("Whitespace",209)]
def vListA(a:PyData)(σ:Sg)(K:KV):Prop:=match a with
 |.str x=>x.cps.size≤sizeLine∧LOwn (x.cps.toList.map fun n=>.str ⟨#[n]⟩) σ K
 |.dict m=>vRg m (fun a b=>(Builtin.Range.small a b 1=true∧(b-a).toNat≤2^24)∧LOwn ((rng a (b-a).toNat).map .int) σ K) (vLst (.dict m) σ fun xs=>xs.length≤sizeLine∧LOwn xs σ K)
 |a=>vLst a σ fun xs=>xs.length≤sizeLine∧LOwn xs σ K
def vList(ds:Lp)(σ:Sg)(K:KV):Prop:=oneL ds (fun a=>vListA a σ K) False
def vRange(ds:Lp)(σ:Sg)(K:KV):Prop:=v12 ds (fun a=>vInt a fun n=>K (Rg 0 n) σ) fun a b=>vInt a fun i=>vInt b fun j=>K (Rg i j) σ
def vMax(ds:Lp)(σ:Sg)(K:KV):Prop:=v12 ds (fun a=>vLst a σ fun xs=>LInts xs fun ns=>ns≠[]∧∀ m,IsMax m ns→K (.int m) σ) fun a b=>vInt a fun i=>vInt b fun j=>K (.int (max i j)) σ
def v1(ds:Lp)(P:PyData→Prop):Prop:=oneL ds P False
def vStrOf(g:Pg)(n:Nat)(a:PyData)(σ:Sg)(K:KV):Prop:=match a with
 |.int i=>LC (i.natAbs.log2<1920) K (.str (toString i)) σ
 |a=>LFn g n [a] σ K (.type "str")
def vLen(a:PyData)(σ:Sg)(K:KV):Prop:=match a with
 |.tuple xs=>LC (xs.length≤1000000) K (.int xs.length) σ
 |a=>vLst a σ fun xs=>LC (xs.length<2^63) K (.int xs.length) σ
def vBi(g:Pg)(n:Nat)(f:Bi)(ds:Lp)(σ:Sg)(K:KV):Prop:=match f with
 |.list=>vList ds σ K
 |.range=>vRange ds σ K
 |.len=>v1 ds fun a=>vLen a σ K
 |.tuple=>v1 ds fun a=>vLst a σ fun xs=>LC (xs.length≤sizeLine) K (.tuple xs) σ
 |.sum=>v1 ds fun a=>vLst a σ fun xs=>LInts xs fun ns=>K (.int ns.sum) σ
 |.max=>vMax ds σ K
 |.sorted=>v1 ds fun a=>vLst a σ fun xs=>LInts xs fun ns=>ns.length<64∧LOwn ((isort ns).map .int) σ K
 |.str=>v1 ds fun a=>vStrOf g n a σ K
 |.int=>v1 ds fun a=>vStr a fun x=>∃ i,LC (PySem.intText? x=some i∧x.length≤640) K (.int i) σ
inductive Mj(n:Nat) | append | index | count | join
noncomputable abbrev Me:=Mj 0
noncomputable def meTab:List (Str × Me):=[("append",.append),("index",.index),("count",.count),("join",.join)]
inductive LIdx(ds:Lp)(d:PyData)(σ:Sg)(K:KV):Prop
 |mk(ys:List Str)(k:Str)(j:Nat)(ha:ds=ys.map .str)(hd:d=.str k)(hj:ys[j]?=some k)(hno:∀ m,m<j→ys[m]?≠some k)(hz:ys.length≤sizeLine)(h:K (.int (j:Nat)) σ)
def Dz(d:PyData)(P:Lp→Prop):Prop:=match d with | .list ds=>P ds | _=>False
def vCount(r:VR)(e:Expr)(a:PyData)(σ:Sg)(K:KV):Prop:=match a with
 |.str x=>r.E e σ fun d σ=>vStr d fun y=>K (.int (Txt.count x y)) σ
 |a=>Dz a fun xs=>r.E e σ fun d σ=>vInt d fun k=>LInts xs fun ns=>K (.int (ns.count k:Nat)) σ
def vSeq(d:PyData)(σ:Sg)(P:Lp→Prop):Prop:=match d with | .tuple ys=>P ys | d=>vLst d σ P
def vMe(r:VR)(f:Me)(e:Expr)(a:PyData)(σ:Sg)(K:KV):Prop:=match f with
 |.append=>vLst a σ fun V=>r.E e σ fun d σ=>LApp a d σ K
 |.index=>Dz a fun ds=>r.E e σ fun d σ=>LIdx ds d σ K
 |.count=>vCount r e a σ K
 |.join=>vStr a fun x=>r.E e σ fun d σ=>vSeq d σ fun ys=>LStrs ys fun ss=>LC ((ss.map (·.length)).sum+ss.length*x.length≤16777216) K (.str (Txt.join x ss)) σ
end
section
variable(g:Pg)(N:Sn)(fr:Fr)
def rawE(e:Expr)(σ:Sg)(K:KV):Prop:=∀ sc:Sc g N fr,V0 sc (eval e sc.env) σ K
def rawS(l:List Stmt)(σ:Sg)(J:Fl→Sg→Prop):Prop:=∀ sc:Sc g N fr,VS sc l σ J
def vName(x:Str)(σ:Sg)(K:KV):Prop:=match look x σ with
 |some d=>K d σ
 |none=>match findS x fr with | some d=>K d σ | none=>False
def Br(x:Str)(d:PyData)(σ:Sg)(K:Sg→Prop):Prop:=match ownB x N.own with
 |true=>K (.put x d σ) | false=>False
noncomputable def frOf(σ:Sg)(l:Nk):Fr:=l.filterMap fun p=>cond (p.2 == .free) (((look p.1 σ).or (findS p.1 fr)).map (Prod.mk p.1)) none
def vCallN(r:VR)(x:Str)(e:Expr)(es:List Expr)(pos:Pos)(σ:Sg)(K:KV)(rw:Prop):Prop:=match B3 (e::es) with
 |true=>(match gloB x N.own with
  |true=>(match findS x biTab with
   |some f=>r.L pos (e::es) σ fun ds σ=>vBi g N.lvl f ds σ K
   |none=>match findS x fnTab with
    |some f=>r.L pos (e::es) σ fun ds σ=>LFn g N.lvl ds σ K (.ref f)
    |none=>rw)
  |false=>rw)
 |false=>rw
def vCall0(x:Str)(σ:Sg)(K:KV)(rw:Prop):Prop:=match gloB x N.own with
 |true=>(match findS x fnTab with
  |some f=>LFn g N.lvl [] σ K (.ref f)
  |none=>rw)
 |false=>rw
def vCallM(r:VR)(o:Expr)(name:Str)(ap:Pos)(es:List Expr)(pos:Pos)(σ:Sg)(K:KV)(rw:Prop):Prop:=match B3 es&&noBase o&&Nat.beq ap.endLine pos.line&&Nat.ble es.length 9 with
 |true=>(match findS name meTab with
  |some f=>(match es with | [e]=>r.E o σ fun a σ=>vMe r f e a σ K | _=>rw)
  |none=>r.E o σ fun a σ=>LMtd g N.lvl r name pos es a σ K)
 |false=>rw
def vCall(r:VR)(f:Expr)(es:List Expr)(pos:Pos)(σ:Sg)(K:KV)(rw:Prop):Prop:=match f with
 |.Name x _=>(match es with | e::es=>vCallN g N r x e es pos σ K rw | []=>vCall0 g N x σ K rw)
 |.Attribute o name ap=>vCallM g N r o name ap es pos σ K rw
 |_=>rw
def Gg(r:VR)(l:Expr)(ops:List CmpOp)(rs:List Expr)(σ:Sg)(K:KV):Prop:=match ops with
 |[op]=>(match rs with
  |[.List [] _]=>r.E l σ fun a σ=>vCmp op a (.list []) σ K
  |[e]=>(match noSet e with | true=>r.E l σ fun a σ=>r.E e σ fun b σ=>vCmp op a b σ K | false=>False)
  |_=>False)
 |_=>False
def vPart(r:VR)(e:Option Expr)(σ:Sg)(K:Option Int→Sg→Prop):Prop:=match e with
 |none=>K none σ
 |some e=>r.E e σ fun d σ=>vInt d fun i=>K (some i) σ
def vSubscript(r:VR)(o i:Expr)(σ:Sg)(K:KV):Prop:=match i with
 |.Slice lo hi st _=>r.E o σ fun a σ=>vPart r lo σ fun l σ=>vPart r hi σ fun h σ=>vPart r st σ fun t σ=>vSlice a l h t σ K
 |i=>r.E o σ fun a σ=>r.E i σ fun b σ=>vSubs a b σ K
def vConst(c:Const)(σ:Sg)(K:KV):Prop:=match c with
 |.int i=>K (.int i) σ | .str x=>K (.str x) σ | .bool b=>K (.bool b) σ | .none=>K .none σ | _=>False
noncomputable def cellK(x:Str)(l:Nk):Bool:=(findS x l).any fun k=>k == .cell||k == .free
noncomputable def Ga(l:List Str):Bool:=l.rec true fun x l f=>cond (l.any (sEq x)) false f
noncomputable def scoOk(own:Nk)(sco:Scope):Bool:=match sco.kind with
 |.function=>Ga (sco.names.map (·.1))&&sco.names.all fun p=>match p.2 with | .free=>cellK p.1 own && !(sEq p.1 "__debug__") && !(sEq p.1 "__classdict__") | _=>true
 |_=>false
noncomputable def localK(x:Str)(l:Nk):Bool:=(findS x l).any (· == .local)
noncomputable def noName(x:Str)(l:Nk):Bool:=l.all fun p=>!(sEq p.1 x)
def vComp2(ih:RR)(r:VR)(x:Str)(p:Pos)(elt:Expr)(gens:List Comprehension)(sco:Scope)(pv:Pos)(σ:Sg)(K:KV):Prop:=twoL gens (fun a b=>match (intZ a.is_async&&intZ b.is_async&&a.ifs.isEmpty&&b.ifs.isEmpty)&&(noSet a.iter&&noSet b.iter&&scoOk N.own sco&&localK x N.own&&Nat.beq p.line pv.line&&noName x sco.names) with
  |true=>r.I a.iter a.target σ fun ds σ=>LComp2 (ih ⟨sco.names,N.lvl⟩ (frOf fr σ sco.names)) elt a.target b.target b.iter ds σ K
  |false=>False) False
noncomputable def isTwo:List Comprehension→Bool | [_,_]=>true | _=>false
def vComp(ih:RR)(r:VR)(elt:Expr)(gens:List Comprehension)(sco:Scope)(σ:Sg)(K:KV)(rw:Prop):Prop:=oneL gens (fun a=>match intZ a.is_async&&(noSet a.iter&&scoOk N.own sco) with | true=>r.I a.iter a.target σ fun ds σ=>LComp (ih ⟨sco.names,N.lvl⟩ (frOf fr σ sco.names)) elt a.target a.ifs ds σ K | false=>rw) rw
noncomputable def clsAt:List (Str × Str):=[("S"," "),("T","\t")]
def vCls(x name:Str)(σ:Sg)(K:KV):Prop:=match sEq x "Whitespace" with
 |true=>(match findS name clsAt with | some y=>K (.str y) σ | none=>False)
 |false=>False
noncomputable def vAndV(r:VR):List Expr→Sg→KV→Prop
 |[],_,_=>False
 |[x],σ,K=>r.E x σ K
 |x::rest,σ,K=>r.E x σ fun d σ=>vBool d fun b=>LIf b (vAndV r rest σ K) (K (.bool false) σ)
def stepE(ih:RR)(r:VR)(e:Expr)(σ:Sg)(K:KV):Prop:=match e with
 |.Name x _=>vName fr x σ K
 |.Constant c _ _=>vConst c σ K
 |.BinOp l op x _=>r.E l σ fun a σ=>r.E x σ fun b σ=>vBin op a b σ K
 |.UnaryOp op x _=>(match op with | .USub=>r.E x σ fun a σ=>vInt a fun i=>K (.int (-i)) σ | _=>rawE g N fr e σ K)
 |.Compare l ops rs _=>Gg r l ops rs σ K
 |.IfExp t a b _=>r.T t σ fun z σ=>LIfE r a b z σ K
 |.Subscript o i _=>vSubscript r o i σ K
 |.List es p=>(match B3 es with | true=>r.L p es σ fun ds σ=>(match Nat.ble ds.length 100 with | true=>LOwn ds σ K | false=>False) | false=>False)
 |.Tuple es _ p=>(match B3 es with | true=>r.L p es σ fun ds σ=>(match Nat.ble ds.length 100 with | true=>K (.tuple ds) σ | false=>False) | false=>False)
 |.Attribute o name _=>(match o with | .Name x _=>(match gloB x N.own with | true=>vCls x name σ K | false=>r.E o σ fun a σ=>LAttr name a σ K) | _=>rawE g N fr e σ K)
 |.BoolOp op vs p=>(match op with | .And=>vAndV r vs σ K | _=>rawE g N fr e σ K)
 |.Call f es kws pos=>(match kws with | []=>vCall g N r f es pos σ K (rawE g N fr e σ K) | _=>rawE g N fr e σ K)
 |.ListComp elt gens sco _=>vComp N fr ih r elt gens sco σ K (rawE g N fr e σ K)
 |e=>rawE g N fr e σ K
def stepL(r:VR)(pos:Pos)(es:List Expr)(σ:Sg)(K:Lp→Sg→Prop):Prop:=match es with
 |[]=>K [] σ
 |e::es=>match Fe e with | true=>r.E e σ fun d σ=>r.L pos es σ fun ds σ=>K (d::ds) σ | false=>False
def vCompareT(r:VR)(l:Expr)(ops:List CmpOp)(rs:List Expr)(σ:Sg)(K:Bool→Sg→Prop):Prop:=Gg r l ops rs σ fun d σ=>vBool d fun b=>K b σ
def vBoolOp(r:VR)(op:BoolOp)(vs:List Expr)(σ:Sg)(K:Bool→Sg→Prop):Prop:=match vs with
 |[x,y]=>(match op with
  |.And=>r.T x σ fun b σ=>LIf b (r.T y σ K) (K false σ)
  |.Or=>r.T x σ fun b σ=>LIf b (K true σ) (r.T y σ K))
 |_=>False
def vTruth(d:PyData)(σ:Sg)(K:Bool→Sg→Prop):Prop:=match d with
 |.bool b=>K b σ
 |d=>vLst d σ fun ds=>LC (ds.length<2^63) K (!ds.isEmpty) σ
def stepT(r:VR)(e:Expr)(σ:Sg)(K:Bool→Sg→Prop):Prop:=match e with
 |.Compare l ops rs _=>vCompareT r l ops rs σ K
 |.BoolOp op vs _=>vBoolOp r op vs σ K
 |e=>match valT e with | true=>r.E e σ fun d σ=>vTruth d σ K | false=>False
def vIter(d:PyData)(σ:Sg)(K:Lp→Sg→Prop):Prop:=match d with
 |.list ds=>K ds σ
 |.str x=>K (x.cps.toList.map fun n=>.str ⟨#[n]⟩) σ
 |.dict m=>vRg m (fun a b=>LC (Builtin.Range.small a b 1=true) K ((rng a (b-a).toNat).map .int) σ) False
 |_=>False
noncomputable def isTup(e:Expr):Bool:=Nat.beq e.ctorIdx 25
def vIterN(r:VR)(it tg:Expr)(x:Str)(es:List Expr)(σ:Sg)(K:Lp→Sg→Prop):Prop:=match sEq x "enumerate" with
 |true=>oneL es (fun e=>match gloB x N.own&&(isTup tg&&Fe e) with | true=>r.E e σ fun d σ=>Dz d fun ds=>K (Cz 0 ds) σ | false=>False) False
 |false=>match sEq x "zip" with
  |true=>twoL es (fun e f=>match gloB x N.own&&(isTup tg&&B3 [e,f]) with | true=>r.E e σ fun d σ=>r.E f σ fun d' σ=>Dz d fun ds=>Dz d' fun es=>K (Fc ds es) σ | false=>False) False
  |false=>r.E it σ fun d σ=>vIter d σ K
def vIterC(r:VR)(it tg f:Expr)(es:List Expr)(kws:List Keyword)(σ:Sg)(K:Lp→Sg→Prop):Prop:=match f with
 |.Name x _=>(match kws with | []=>vIterN N r it tg x es σ K | _::_=>r.E it σ fun d σ=>vIter d σ K)
 |_=>r.E it σ fun d σ=>vIter d σ K
def stepI(r:VR)(it tg:Expr)(σ:Sg)(K:Lp→Sg→Prop):Prop:=match it with
 |.Call f es kws _=>vIterC N r it tg f es kws σ K
 |it=>r.E it σ fun d σ=>vIter d σ K
noncomputable def vNs(N:Sn):List Expr→Lp→Sg→(Sg→Prop)→Prop
 |[],[],σ,K=>K σ
 |t::ts,d::ds,σ,K=>(match t with | .Name x _=>Br N x d σ fun σ=>vNs N ts ds σ K | _=>False)
 |_,_,_,_=>False
def vTup(d:PyData)(P:Lp→Prop):Prop:=match d with | .tuple ds=>P ds | _=>False
def stepA(tg:Expr)(d:PyData)(σ:Sg)(K:Sg→Prop):Prop:=match tg with
 |.Name x _=>Br N x d σ K
 |.Tuple es _ _=>vTup d fun ds=>vNs N es ds σ K
 |_=>False
noncomputable def Ey:List Expr→List Str
 |[]=>[]
 |e::es=>match e with | .Name x _=>x::Ey es | _=>Ey es
def vAsgN(ih:RR)(r:VR)(x:Str)(p:Pos)(v:Expr)(rest:List Stmt)(σ:Sg)(J:Fl→Sg→Prop):Prop:=match v with
 |.ListComp elt gens sco pv=>(match isTwo gens with
  |true=>vComp2 N fr ih r x p elt gens sco pv σ fun d σ=>Br N x d σ fun σ=>r.S rest σ J
  |false=>vComp N fr ih r elt gens sco σ (fun d σ=>Br N x d σ fun σ=>r.S rest σ J) False)
 |v=>(match Fg v with | true=>r.E v σ fun d σ=>Br N x d σ fun σ=>r.S rest σ J | false=>False)
def vAssign(ih:RR)(r:VR)(tg v:Expr)(rest:List Stmt)(σ:Sg)(J:Fl→Sg→Prop)(rw:Prop):Prop:=match tg with
 |.Name x p=>vAsgN N fr ih r x p v rest σ J
 |.Subscript o i _=>(match Fg v with | true=>r.E v σ fun y σ=>r.E o σ fun a σ=>r.E i σ fun b σ=>LSet a b y σ fun σ=>r.S rest σ J | false=>False)
 |.Tuple ts _ _=>(match v with
  |.Call ..=>r.E v σ fun d σ=>vTup d fun ds=>vNs N ts ds σ fun σ=>r.S rest σ J
  |.Attribute ..=>r.E v σ fun d σ=>vTup d fun ds=>vNs N ts ds σ fun σ=>r.S rest σ J
  |.Tuple vs _ _=>(match Ga (Ey ts)&&vs.any madeE with | true=>r.E v σ fun d σ=>vTup d fun ds=>vNs N ts ds σ fun σ=>r.S rest σ J | false=>False)
  |.ListComp ..=>r.E v σ fun d σ=>Dz d fun ds=>vNs N ts ds σ fun σ=>r.S rest σ J
  |_=>rw)
 |.Attribute o name _=>(match Fg v with | true=>r.E v σ fun d σ=>r.E o σ fun a σ=>LSetA name a d σ fun σ=>r.S rest σ J | false=>False)
 |_=>rw
def vAug(r:VR)(tg:Expr)(op:Operator)(v:Expr)(rest:List Stmt)(σ:Sg)(J:Fl→Sg→Prop)(rw:Prop):Prop:=match tg with
 |.Name x _=>(match look x σ with | some old=>r.E v σ fun b σ=>vIBin op old b σ fun d σ=>Br N x d σ fun σ=>r.S rest σ J | none=>False)
 |.Attribute o name _=>r.E o σ fun a σ=>LAttr name a σ fun old σ=>r.E v σ fun b σ=>vIBin op old b σ fun d σ=>LSetA name a d σ fun σ=>r.S rest σ J
 |.Subscript o i _=>(match plainE i with | true=>r.E o σ fun a σ=>r.E i σ fun b σ=>vGet a b σ fun old σ=>r.E v σ fun y σ=>vIBin op old y σ fun z σ=>LSet a b z σ fun σ=>r.S rest σ J | false=>False)
 |_=>rw
def vMulti(r:VR)(tgs:List Expr)(v:Expr)(rest:List Stmt)(σ:Sg)(J:Fl→Sg→Prop)(rw:Prop):Prop:=threeL tgs (fun a b c=>vNm a fun x=>vNm b fun y=>vNm c fun z=>vIc v fun i=>Br N x (.int i) σ fun σ=>Br N y (.int i) σ fun σ=>Br N z (.int i) σ fun σ=>r.S rest σ J) rw
noncomputable def rawIt(it:Expr)(σ:Sg):Bool:=match it with | .Name x _=>(match look x σ with | some (.dict _)=>true | _=>false) | _=>false
def stepS1(ih:RR)(r:VR)(st:Stmt)(rest:List Stmt)(σ:Sg)(J:Fl→Sg→Prop):Prop:=match st with
 |.Return v _=>(match v with | some v=>r.E v σ fun d σ=>LRet d σ J | none=>J (.ret .none) σ)
 |.Assign tgs v _=>(match tgs with
  |[tg]=>vAssign N fr ih r tg v rest σ J (rawS g N fr (st::rest) σ J)
  |tgs=>vMulti N r tgs v rest σ J (rawS g N fr (st::rest) σ J))
 |.AugAssign tg op v _=>vAug N r tg op v rest σ J (rawS g N fr (st::rest) σ J)
 |.For tg it body els _=>(match els with | []=>(match rawIt it σ with | true=>rawS g N fr (st::rest) σ J | false=>(match noSet it with | true=>r.I it tg σ fun ds σ=>LFor r tg body rest ds σ J | false=>False)) | _=>False)
 |.While t body els _=>(match els with | []=>LWhile r t body rest σ J | _=>False)
 |.If t body els _=>r.T t σ fun z σ=>LIfS r z body els rest σ J
 |.Expr v _=>(match Fg v with | true=>r.E v σ fun V σ=>r.S rest σ J | false=>False)
 |.Break _=>J .brk σ
 |.Continue _=>J .cont σ
 |_=>rawS g N fr (st::rest) σ J
def stepS(ih:RR)(r:VR)(l:List Stmt)(σ:Sg)(J:Fl→Sg→Prop):Prop:=match l with
 |[]=>J .next σ
 |st::rest=>stepS1 g N fr ih r st rest σ J
noncomputable def bot:VR:=⟨fun V V V=>False,fun V V V=>False,fun V V V V=>False,fun V V V V=>False,fun V V V V=>False,fun V V V=>False⟩
noncomputable def step(ih:RR):VR where
 E:=stepE g N fr ih (ih N fr)
 T:=stepT (ih N fr)
 I:=stepI N (ih N fr)
 L:=stepL (ih N fr)
 A:=stepA N
 S:=stepS g N fr ih (ih N fr)
end
noncomputable def R(g:Pg):Nat→RR
 |0=>fun V V=>bot
 |n+1=>fun N fr=>step g N fr (R g n)
theorem gloK_mem{x:Str}{l:Nk}(h:gloK x l=true):(x,NameKind.globalImplicit)∈l:=by
 obtain⟨k,e,h⟩:=(Option.any_eq_true ..).mp h;cases eq_of_beq h;exact Bf e
theorem gloB_of{x:Str}{l:Nk}(h:gloB x l=true):(x,NameKind.globalImplicit)∈l∧(x == ("__debug__" : Str))=false:=by
 unfold gloB at h
 split at h
 ·cases h
 ·rename_i e;exact⟨gloK_mem h,beq_eq_false_iff_ne.mpr (sEq_ne e)⟩
theorem Bn{e:Expr}(h:Fe e=true)(es:List Expr)(env:Env):starEach (e::es) env=(false,eval e env)::starEach es env:=by
 cases e<;>first | rfl | cases h
theorem Cd{env:Env}{pos:Pos}:∀ {es:List Expr},B3 es=true→(backTo pos (starEach es env)).any (·.1)=false
 |[],_=>rfl
 |e::es,h=>by
  refine rz (Bn ((Bool.and_eq_true _ _).mp h).1 ..) <| Cd (pos:=pos) (env:=env) ((Bool.and_eq_true _ _).mp h).2
theorem Go{i:Expr}(h:plainE i=true)(o iv:Value):subscripted i false o iv=operate [o,iv] (getItem o iv):=by
 cases i<;>first | rfl | cases h
theorem plain_aug{i:Expr}(h:plainE i=true)(ov iv new:Value):augStore i ov iv new=(do holding [new,ov,iv] (setItem ov iv new);release [new,ov,iv] [];pure .next):=by
 cases i<;>first | rfl | cases h
theorem Ff{v:Expr}(h:Fg v=true)(t:Option Expr)(n:Nat)(env:Env):swapsWith v t n env=pure false:=by
 cases v<;>first | rfl | cases h
theorem noBase_of{o:Expr}(h:noBase o=true)(name:Str)(env:Env):attributeBase o name env (eval o env)=eval o env:=by
 cases o with
 |Call f es kws pos=>cases es with
  |nil=>cases h
  |cons e es=>cases f<;>rfl
 |_=>rfl
theorem valT_of{e:Expr}(h:valT e=true)(env:Env):isTrue e env (eval e env)=(do let v ← eval e env;standAt e.pos;holding [v] (truthy v)):=by
 cases e<;>first | rfl | cases h
theorem marks_of{e:Expr}(h:noSet e=true)(op:CmpOp):behindInMarks op e=false:=by
 cases e<;>first | rfl | cases h
theorem noSet_of{e:Expr}(h:noSet e=true)(env:Env)(x:Value):foldedSetIterable e env x=pure x:=by
 cases e<;>first | rfl | cases h
section
variable{g:Pg}{N:Sn}{fr:Fr}{sc:Sc g N fr}
theorem tt_el{b:Bool}{P G:Prop}(h:match b with | true=>P | false=>False)(f:b=true→P→G):G:=by
 cases b with
 |true=>exact f rfl h
 |false=>exact h.elim
theorem elA{α:Type}{K:α→Sg→Prop}{P:α→Xs→Prop}(f:∀ d σ,Inv N σ→K d σ→P d (full sc σ)):∀ d X,liftA sc K d X→P d X:=fun d X h=>by
 obtain⟨σ,rfl,i,h⟩:=h;exact f d σ i h
theorem elU{K:Sg→Prop}{P:Xs→Prop}(f:∀ σ,Inv N σ→K σ→P (full sc σ)):∀ X,liftU sc K X→P X:=fun X h=>by
 obtain⟨σ,rfl,i,h⟩:=h;exact f σ i h
theorem elS{K:PyData→Sg→Prop}{c:Cx}{Z:Xs}{T:Ts}{Q:VP}(f:∀ d σ v s,Inv N σ→K d σ→St c (full sc σ++Z) ((v,d)::T) s→Q v s):∀ d X v s,liftA sc K d X→St c (X++Z) ((v,d)::T) s→Q v s:=fun d X v s h=>by
 obtain⟨σ,rfl,i,h⟩:=h;exact f d σ v s i h
theorem elSU{K:Sg→Prop}{c:Cx}{Z:Xs}{T:Ts}{Q:Shared→Prop}(f:∀ σ s,Inv N σ→K σ→St c (full sc σ++Z) T s→Q s):∀ X s,liftU sc K X→St c (X++Z) T s→Q s:=fun X s h=>by
 obtain⟨σ,rfl,i,h⟩:=h;exact f σ s i h
theorem elT{K:Bool→Sg→Prop}{c:Cx}{Z:Xs}{T:Ts}{Q:Bool→Shared→Prop}(f:∀ d σ s,Inv N σ→K d σ→St c (full sc σ++Z) T s→Q d s):∀ d X s,liftA sc K d X→St c (X++Z) T s→Q d s:=fun d X s h=>by
 obtain⟨σ,rfl,i,h⟩:=h;exact f d σ s i h
theorem elL{K:Lp→Sg→Prop}{c:Cx}{Z:Xs}{T:Ts}{Q:List Value→Shared→Prop}(f:∀ ds σ vs s,Inv N σ→K ds σ→vs.length=ds.length→St c (full sc σ++Z) (vs.zip ds++T) s→Q vs s):∀ ds X vs s,liftA sc K ds X→vs.length=ds.length→St c (X++Z) (vs.zip ds++T) s→Q vs s:=fun ds X vs s h=>by
 obtain⟨σ,rfl,i,h⟩:=h;exact f ds σ vs s i h
structure VOk(sc:Sc g N fr)(r:VR):Prop where
 E:∀ {e σ K},r.E e σ K→V0 sc (eval e sc.env) σ K
 T:∀ {e σ K},r.T e σ K→VT sc e σ K
 I:∀ {e tg σ K},r.I e tg σ K→VI sc e tg σ K
 L:∀ {pos es σ K},r.L pos es σ K→VL sc pos es σ K
 A:∀ {tg d σ K},r.A tg d σ K→VU1 sc (assign tg sc.env) d σ K
 S:∀ {l σ J},r.S l σ J→VS sc l σ J
def ROk(g:Pg)(ih:RR):Prop:=∀ {N:Sn}{fr:Fr}(sc:Sc g N fr),VOk sc (ih N fr)
theorem goal{α:Type}{K:α→Sg→Prop}{d:α}{σ:Sg}(i:Inv N σ)(h:K d σ):liftA sc K d (full sc σ):=⟨_,rfl,i,h⟩
theorem goalU{K:Sg→Prop}{σ:Sg}(i:Inv N σ)(h:K σ):liftU sc K (full sc σ):=⟨_,rfl,i,h⟩
theorem Bq{σ:Sg}{j:Nat}{p:Addr × Knd}(h:σ.objs[j]?=some p):p∈full sc σ:=.tail _ (mem_append_right _ (mem_append_left _ (List.mem_of_getElem? h)))
theorem setK_ups{a:Addr}{k k':Knd}{O:Xs}:∀ {j:Nat}{X:Xs},X[j]?=some (a,k)→Ups a k k' (X++O) (setK k' j X++O)
 |0,p::X,h=>by cases h;exact .here
 |j+1,p::X,h=>.there (setK_ups (j:=j) (X:=X) h)
theorem Dm{σ:Sg}{j:Nat}{a:Addr}{k k':Knd}(h:σ.objs[j]?=some (a,k)):Ups a k k' (full sc σ) (full sc (.upd j k' σ)):=.there (Ups.app (setK_ups h))
theorem F1{p:Addr × Knd}:∀ {j:Nat}{X:Xs},X[j]?=some p→X.Perm (p::X.eraseIdx j)
 |0,q::X,h=>by cases h;exact .refl _
 |j+1,q::X,h=>((F1 (j:=j) (X:=X) h).cons q).trans (.swap _ _ _)
theorem perm_full{σ:Sg}{j:Nat}{p:Addr × Knd}(h:σ.objs[j]?=some p):(full sc σ).Perm (p::full sc (.rem j σ)):=by
 have h1:=(F1 h).append_right sc.out;have h2:=((h1.append_left (Bm sc.L N.own σ.vars)).trans perm_middle).cons (sc.L,Knd.map (Be N.own σ.vars));exact h2.trans (.swap _ _ _)
theorem obj_perm{σ:Sg}{a:Addr}{k:Knd}:((a,k)::full sc σ).Perm (full sc (.obj a k σ)) :=
 ((List.Perm.swap _ _ _).trans ((perm_middle (a:=(a,k)) (l₁:=Bm sc.L N.own σ.vars) (l₂:=σ.objs++sc.out)).symm.cons _))
theorem Do{σ:Sg}{B Y:Xs}(h:σ.objs.Perm (B++Y)):(full sc σ).Perm (B++((sc.L,.map (Be N.own σ.vars))::(Bm sc.L N.own σ.vars++(Y++sc.out)))):=by
 have h1:=h.append_right sc.out;rw[append_assoc] at h1;have h2:=((h1.append_left (Bm sc.L N.own σ.vars)).trans (perm_append_comm_assoc _ _ _)).cons (sc.L,Knd.map (Be N.own σ.vars))
 exact h2.trans List.perm_middle.symm
theorem Bg{a:PyData}{P:Int→Prop}(h:vInt a P):∃ i,a=.int i∧P i:=by cases a<;>first | exact⟨_,rfl,h⟩ | cases h
theorem Ev{a:PyData}{P:Str→Prop}(h:vStr a P):∃ i,a=.str i∧P i:=by cases a<;>first | exact⟨_,rfl,h⟩ | cases h
theorem Gh{a:PyData}{P:Bool→Prop}(h:vBool a P):∃ i,a=.bool i∧P i:=by cases a<;>first | exact⟨_,rfl,h⟩ | cases h
theorem Dh{a:PyData}{P:Lp→Prop}(h:Dz a P):∃ i,a=.list i∧P i:=by cases a<;>first | exact⟨_,rfl,h⟩ | cases h
theorem Bw{a:PyData}{σ:Sg}{P:Lp→Prop}(h:vLst a σ P):∃ ds,IsL σ a ds∧P ds:=by
 cases a with
 |list ds=>exact⟨_,.inl rfl,h⟩
 |dict m=>obtain⟨x,ds,j,ha,hX,h⟩:=h;exact⟨_,.inr ⟨_,_,ha,hX⟩,h⟩
 |_=>cases h
theorem oneL_of{α:Type}{l:List α}{P:α→Prop}{Q:Prop}(h:oneL l P Q):(∃ a,l=[a]∧P a)∨Q:=match l,h with
 |[],h=>.inr h
 |[a],h=>.inl ⟨a,rfl,h⟩
 |_::_::_,h=>.inr h
theorem twoL_of{α:Type}{l:List α}{P:α→α→Prop}{Q:Prop}(h:twoL l P Q):(∃ a b,l=[a,b]∧P a b)∨Q:=match l,h with
 |[],h=>.inr h
 |a::_,h=>(oneL_of h).imp (fun⟨b,e,h⟩=>⟨a,b,congrArg (a::·) e,h⟩) id
theorem threeL_of{α:Type}{l:List α}{P:α→α→α→Prop}{Q:Prop}(h:threeL l P Q):(∃ a b c,l=[a,b,c]∧P a b c)∨Q:=match l,h with
 |[],h=>.inr h
 |a::_,h=>(twoL_of h).imp (fun⟨b,c,e,h⟩=>⟨a,b,c,congrArg (a::·) e,h⟩) id
theorem v12_of{l:Lp}{P:PyData→Prop}{Q:PyData→PyData→Prop}(h:v12 l P Q):(∃ a,l=[a]∧P a)∨∃ a b,l=[a,b]∧Q a b:=match l,h with
 |[a],h=>.inl ⟨a,rfl,h⟩
 |[a,b],h=>.inr ⟨a,b,rfl,h⟩
theorem vRg_of{m:List (PyData × PyData)}{P:Int→Int→Prop}{Q:Prop}(h:vRg m P Q):(∃ a b,m=[(.int a,.int b)]∧P a b)∨Q:=by
 rcases oneL_of h with ⟨⟨x,y⟩,rfl,h⟩ | h
 ·cases x with
  |int a=>cases y with
   |int b=>exact .inl ⟨a,b,rfl,h⟩
   |_=>exact .inr h
  |_=>exact .inr h
 ·exact .inr h
theorem vNm_of{t:Expr}{P:Str→Prop}(h:vNm t P):∃ x p,t=.Name x p∧P x:=by
 cases t with
 |Name x p=>exact⟨x,p,rfl,h⟩
 |_=>exact h.elim
theorem vIc_of{t:Expr}{P:Int→Prop}(h:vIc t P):∃ i k p,t=.Constant (.int i) k p∧P i:=by
 cases t with
 |Constant c k p=>cases c with
  |int i=>exact⟨i,k,p,rfl,h⟩
  |_=>exact h.elim
 |_=>exact h.elim
theorem intZ_of{n:Int}(h:intZ n=true):n=0:=match n,h with
 |.ofNat _,h=>congrArg Int.ofNat (eq_of_beq_eq_true h)
theorem v1_of{ds:Lp}{P:PyData→Prop}(h:v1 ds P):∃ a,ds=[a]∧P a:=(oneL_of h).resolve_right id
theorem rd_of{σ:Sg}{a:PyData}{ds:Lp}{Z:Xs}{T:Ts}{s:Shared}{v:Value}(h:IsL σ a ds)(S:St sc.c (full sc σ++Z) T s)(hv:(v,a)∈T):Rd sc.c (full sc σ++Z) s.heap v ds:=by
 rcases h with rfl | ⟨x,j,rfl,hX⟩
 ·exact S.rdT hv
 ·obtain rfl:=By (S.tmp _ hv);exact S.rdX (mem_append_left _ (Bq hX))
theorem C3{ds:Lp}{σ:Sg}{K:KV}{Z:Xs}{T:Ts}{s:Shared}{a:Addr}{Q:VP}(i:Inv N σ)(h:LOwn ds σ K)(S:St sc.c ((a,.seq (.type "list") none ds)::(full sc σ++Z)) T s)
  (q:∀ d X' v s',liftA sc K d X'→St sc.c (X'++Z) ((v,d)::T) s'→Q v s'):Q (.ref a) s:=by
 cases h with
 |own h=>exact q _ _ _ _ (goal (σ:=.obj a _ σ) i (h a)) ((S.perm (obj_perm.append_right Z)).push (.raw a))
 |frz h=>exact q _ _ _ _ (goal i h) S.freeze
theorem F7{T T':Ts}{K:PyData→Xs→Prop}{c:Cx}{Z:Xs}{Q:VP}(hT:∀ y∈T,y∈T')(q:∀ d X' v s',K d X'→St c (X'++Z) ((v,d)::T) s'→Q v s'):∀ d X' v s',K d X'→St c (X'++Z) ((v,d)::T') s'→Q v s':=fun d X' v s' k S=>q d X' v s' k (S.drop (Cp hT))
theorem sub2{α:Type}{x y:α}{T:List α}:∀ q∈T,q∈x::y::T:=fun V h=>.tail _ (.tail _ h)
theorem sub1{α:Type}{x:α}{T:List α}:∀ q∈T,q∈x::T:=fun V h=>.tail _ h
theorem v_add{a b:PyData}{σ:Sg}{K:KV}(h:vAdd a b σ K):V2 sc (binaryOp .Add) a b σ K:=by
 have lists:(vLst a σ fun ds=>vLst b σ fun es=>ds.length+es.length≤sizeLine∧LOwn (ds++es) σ K)→V2 sc (binaryOp .Add) a b σ K:=fun h iv v u Z T s E Q S q=>by
  obtain⟨ds,ha,h⟩:=Bw h;obtain⟨es,hb,hz,h⟩:=Bw h;exact r_addlist S (rd_of ha S (.tail _ (.head _))) (rd_of hb S (.head _)) hz fun a' s' S'=>C3 iv h S' (F7 sub2 q)
 cases a with
 |int i=>cases b<;>first | exact fun iv=>w_add (goal iv h) | cases h
 |str x=>cases b with
  |str y =>
   intro iv v u Z T s E Q S q;obtain⟨u',rfl⟩:=B5 (S.rp (.head _));obtain⟨t',rfl⟩:=B5 (S.rp (.tail _ (.head _)));exact r_adds S.pop.pop h.1 fun t s' S'=>q _ _ _ _ (goal iv h.2) (S'.push (.str _ _))
  |_=>cases h
 |list ds=>exact lists h
 |dict m=>exact lists h
 |_=>cases h
theorem w2_int'{m:Value→Value→Sem Value}{a b:Int}{d:PyData}{σ:Sg}{K:KV}(hm:∀ t u T s (E:VP) (Q:VP) Y,St sc.c Y T s→(∀ v s',St sc.c Y ((v,d)::T) s'→Q v s')→wpAny (model g.prog g.w) sc.A (m (.int a t) (.int b u)) Q E s)(h:K d σ):V2 sc m (.int a) (.int b) σ K:=fun iv=>w2_int hm (goal iv h)
theorem v_mul{a b:PyData}{σ:Sg}{K:KV}(h:vMul a b σ K):V2 sc (binaryOp .Mult) a b σ K:=by
 have lists:(vInt b fun x=>vLst a σ fun ds=>(0≤x∧x<2^63∧ds.length*x.toNat≤2^24)∧LOwn (List.replicate x.toNat ds).flatten σ K)→V2 sc (binaryOp .Mult) a b σ K:=fun h iv v u Z T s E Q S q=>by
  obtain⟨x,rfl,h⟩:=Bg h;obtain⟨ds,ha,⟨h0,h1,h2⟩,h⟩:=Bw h;obtain⟨u',rfl⟩:=B9 (S.rp (.head _));exact r_mullist S (rd_of ha S (.tail _ (.head _))) h0 h1 h2 fun a' s' S'=>C3 iv h S' (F7 sub2 q)
 cases a with
 |int i =>
  obtain⟨j,rfl,hm,h⟩:=Bg h;exact w2_int' (fun t u T s E Q Y S q=>r_mul S hm fun t s' S'=>q _ _ (S'.push (.int _ _))) h
 |_=>exact lists h
theorem v_bin{op:Operator}{a b:PyData}{σ:Sg}{K:KV}(h:vBin op a b σ K):V2 sc (binaryOp op) a b σ K:=by
 cases op with
 |Add=>exact v_add h
 |Mult=>exact v_mul h
 |Sub =>
  obtain⟨i,rfl,h⟩:=Bg h;obtain⟨j,rfl,h⟩:=Bg h;exact fun iv=>w_sub (goal iv h)
 |Mod =>
  obtain⟨i,rfl,h⟩:=Bg h;obtain⟨j,rfl,⟨hb,h⟩⟩:=Bg h;exact fun iv=>w_mod hb (goal iv h)
 |FloorDiv =>
  obtain⟨i,rfl,h⟩:=Bg h;obtain⟨j,rfl,⟨hb,hs,h⟩⟩:=Bg h;exact w2_int' (fun t u T s E Q Y S q=>r_fdiv S hb hs fun t s' S'=>q _ _ (S'.push (.int _ _))) h
 |Pow =>
  obtain⟨i,rfl,h⟩:=Bg h;obtain⟨j,rfl,⟨hb,hs⟩,h⟩:=Bg h;exact w2_int' (fun t u T s E Q Y S q=>r_pow S hb hs fun t s' S'=>q _ _ (S'.push (.int _ _))) h
 |_=>cases h
theorem v_ext{a b:PyData}{σ:Sg}{K:KV}(h:LExt a b σ K):V2 sc (inplaceOp .Add) a b σ K:=fun iv v u Z T s E Q S q=>by
 obtain⟨x,ds,es,j,rfl,hX,hb,hz,h⟩:=h;obtain rfl:=By (S.rp (.tail _ (.head _)));exact r_extend S (Dm hX).left (rd_of hb S (.head _)) hz fun s' S'=>q _ _ _ _ (goal (σ:=.upd j _ σ) iv h) (S'.pop.pop.push (.raw x))
theorem v_ibin{op:Operator}{a b:PyData}{σ:Sg}{K:KV}(h:vIBin op a b σ K):V2 sc (inplaceOp op) a b σ K:=by
 cases op with
 |Add=>cases a with
  |int i =>
   obtain⟨j,rfl,h⟩:=Bg h;exact fun iv=>w_iadd (goal iv h)
  |str x =>
   obtain⟨y,rfl,hz,h⟩:=Ev h;intro iv v u Z T s E Q S q;obtain⟨u',rfl⟩:=B5 (S.rp (.head _));obtain⟨t',rfl⟩:=B5 (S.rp (.tail _ (.head _)));exact r_iadds S.pop.pop hz fun t s' S'=>q _ _ _ _ (goal iv h) (S'.push (.str _ _))
  |_=>exact v_ext h
 |FloorDiv =>
  obtain⟨i,rfl,h⟩:=Bg h;obtain⟨j,rfl,⟨hb,hs,h⟩⟩:=Bg h;exact w2_int' (fun t u T s E Q Y S q=>r_ifdiv S hb hs fun t s' S'=>q _ _ (S'.push (.int _ _))) h
 |_=>cases h
theorem w2_str{m:Value→Value→Sem Value}{a b:Str}{r:Bool}{σ:Sg}{K:KV}(hm:∀ t u s (E:VP) (Q:VP),Q (.bool r) s→wpAny (model g.prog g.w) sc.A (m (.str a t) (.str b u)) Q E s)(h:K (.bool r) σ):V2 sc m (.str a) (.str b) σ K:=fun iv v u Z T s E Q S q=>by
 obtain⟨u',rfl⟩:=B5 (S.rp (.head _));obtain⟨t',rfl⟩:=B5 (S.rp (.tail _ (.head _)));exact hm _ _ _ _ _ (q _ _ _ _ (goal iv h) (S.pop.pop.push (.bool _)))
theorem v_eql{a b:PyData}{σ:Sg}{K:KV}(h:LEqL a b σ K):V2 sc (compareOp .Eq) a b σ K:=fun iv v u Z T s E Q S q=>by
 obtain⟨ds,ha,rfl,hs,h⟩:=h;exact r_eqnil sc.oA (rd_of ha S (.tail _ (.head _))) (S.rdT (.head _)) hs (q _ _ _ _ (goal iv h) (S.pop.pop.push (.bool _)))
theorem v_nel{a b:PyData}{σ:Sg}{K:KV}(h:LNeL a b σ K):V2 sc (compareOp .NotEq) a b σ K:=fun iv v u Z T s E Q S q=>by
 cases h with
 |nil ds ha hb hs h =>
  subst hb;exact r_nenil sc.oA (rd_of ha S (.tail _ (.head _))) (S.rdT (.head _)) hs (q _ _ _ _ (goal iv h) (S.pop.pop.push (.bool _)))
 |gen ds es ha hb hs ht h =>
  exact r_nedata ((rd_of ha S (.tail _ (.head _))).rds (by have:=hs.clean;simpa [clean] using this)) ((rd_of hb S (.head _)).rds (by have:=ht.clean;simpa [clean] using this)) (hs.shaped (by decide)) (ht.shaped (by decide)) sc.oA.units (q _ _ _ _ (goal iv h) (S.pop.pop.push (.bool _)))
theorem clean_rds{σ:Sg}{a:PyData}{T:Ts}{X:Xs}{s:Shared}{v:Value}(S:St sc.c X T s)(hv:(v,a)∈T)(h:clean a=true):Rds s.heap v a:=(S.tmp _ hv).reads h
theorem v_inl{neg:Bool}{a b:PyData}{σ:Sg}{K:KV}{ds:Lp}(hb:IsL σ b ds)(h:LIn ds a σ fun r=>K (.bool (match neg with | true=>!r | false=>r)) σ):V2 sc (compareOp (match neg with | true=>.NotIn | false=>.In)) a b σ K:=fun iv v u Z T s E Q S q=>by
 obtain⟨r,hr,hl,ha,hd,h⟩:=h;have h1:=(rd_of hb S (.head _)).rds (Em _ hl);have h2:=clean_rds (sc:=sc) (σ:=σ) S (.tail _ (.head _)) (clean_lay _ ha);have h3:=sc.oA.in64 (k:=PyData.depthAll ds) hd;cases neg with
 |true=>exact r_notindata h1 h2 hl ha h3 (rz (hr ..) <| q _ _ _ _ (goal iv h) (S.pop.pop.push (.bool _)))
 |false=>exact r_indata h1 h2 hl ha h3 (rz (hr ..) <| q _ _ _ _ (goal iv h) (S.pop.pop.push (.bool _)))
theorem v_cmp{op:CmpOp}{a b:PyData}{σ:Sg}{K:KV}(h:vCmp op a b σ K):V2 sc (compareOp op) a b σ K:=by
 cases op with
 |Eq=>cases a with
  |int i=>obtain⟨j,rfl,h⟩:=Bg h;exact fun iv=>w_eqint (goal iv h)
  |str x=>obtain⟨j,rfl,h⟩:=Ev h;exact w2_str (fun V V V V V q=>r_eqstr q) h
  |_=>exact v_eql h
 |NotEq=>cases a with
  |int i=>obtain⟨j,rfl,h⟩:=Bg h;exact fun iv=>w_neint (goal iv h)
  |str x=>obtain⟨j,rfl,h⟩:=Ev h;exact w2_str (fun V V V V V q=>r_nestr q) h
  |_=>exact v_nel h
 |Lt=>obtain⟨i,rfl,h⟩:=Bg h;obtain⟨j,rfl,h⟩:=Bg h;exact fun iv=>w_lt (goal iv h)
 |LtE=>obtain⟨i,rfl,h⟩:=Bg h;obtain⟨j,rfl,h⟩:=Bg h;exact fun iv=>w_le (goal iv h)
 |Gt=>obtain⟨i,rfl,h⟩:=Bg h;obtain⟨j,rfl,h⟩:=Bg h;exact fun iv=>w_gt (goal iv h)
 |GtE=>obtain⟨i,rfl,h⟩:=Bg h;obtain⟨j,rfl,h⟩:=Bg h;exact fun iv=>w_ge (goal iv h)
 |In =>
  have lists:(vLst b σ fun ds=>LIn ds a σ fun r=>K (.bool r) σ)→V2 sc (compareOp .In) a b σ K:=fun h=>by
   obtain⟨ds,hb,h⟩:=Bw h;exact v_inl (neg:=false) hb h
  cases b with
  |str x=>obtain⟨y,rfl,h⟩:=Ev h;exact w2_str (fun V V V V V q=>r_instr q) h
  |_=>exact lists h
 |NotIn =>
  obtain⟨ds,hb,h⟩:=Bw h;exact v_inl (neg:=true) hb h
 |IsNot =>
  obtain⟨i,rfl,h⟩:=Gh h;obtain⟨j,rfl,h⟩:=Gh h;intro iv v u Z T s E Q S q;obtain rfl:=bool_of (S.rp (.head _));obtain rfl:=bool_of (S.rp (.tail _ (.head _)));refine wpAny_isNot_plain rfl ?_;refine rz (show(!(Value.bool i == Value.bool j))=!(i == j) by cases i<;>cases j<;>rfl) <| q _ _ _ _ (goal iv h) (S.pop.pop.push (.bool _))
 |_=>cases h
theorem v_subs{o i:Expr}{a b:PyData}{σ:Sg}{K:KV}(hi:plainE i=true)(h:vSubs a b σ K):V2 sc (subscriptTail o i) a b σ K:=by
 obtain⟨k,rfl,h⟩:=Bg h;have lists:(vLst a σ fun ds=>LGet ds k σ K)→V2 sc (subscriptTail o i) a (.int k) σ K:=fun h iv v u Z T s E Q S q=>by
  obtain⟨ds,ha,h⟩:=Bw h;obtain⟨u',rfl⟩:=B9 (S.rp (.head _));cases h with
  |mk d h0 hf hd h=>exact r_item S (rd_of ha S (.tail _ (.head _))) h0 hf hd (fun v s' S'=>q _ _ _ _ (goal iv h) (S'.drop (Cp sub2))) fun V=>Go hi _ _
  |neg d h0 h1 hf hd h=>exact r_itemneg S (rd_of ha S (.tail _ (.head _))) h0 h1 hf hd (fun v s' S'=>q _ _ _ _ (goal iv h) (S'.drop (Cp sub2))) fun V=>Go hi _ _
 cases a with
 |tuple ds =>
  have h':LGetT ds k σ K:=h;obtain⟨n,d,rfl,hd,hz,h1⟩:=h';intro iv v u Z T s E Q S q;obtain⟨u',rfl⟩:=B9 (S.rp (.head _));exact r_itemT (fun d:PyData=>d) (xs:=ds) S (rz (List.map_id' ..) <| .tail _ (.head _)) hd hz (fun v s' S'=>q _ _ _ _ (goal iv h1) (S'.drop (Cp sub2))) (fun V=>Go hi _ _)
 |str x =>
  obtain⟨n,hr,hc,h⟩:=h;intro iv v u Z T s E Q S q;obtain⟨u',rfl⟩:=B9 (S.rp (.head _));obtain⟨t',rfl⟩:=B5 (S.rp (.tail _ (.head _)));exact r_stritem S.pop.pop hr hc (fun t s' S'=>q _ _ _ _ (goal iv h) (S'.push (.str _ _))) (Go hi _ _)
 |_=>exact lists h
theorem v_get{a b:PyData}{σ:Sg}{K:KV}(h:vGet a b σ K):V2 sc getItem a b σ K:=fun iv v u Z T s E Q S q=>by
 obtain⟨k,rfl,h⟩:=Bg h;obtain⟨ds,ha,⟨d,h0,hf,hd,h⟩⟩:=Bw h;obtain⟨u',rfl⟩:=B9 (S.rp (.head _));exact g_item S (rd_of ha S (.tail _ (.head _))) h0 hf hd (fun v s' S'=>q _ _ _ _ (goal iv h) (S'.drop (Cp sub2)))
theorem v_set{a b d:PyData}{σ:Sg}{K:Sg→Prop}(h:LSet a b d σ K):VU3 sc (fun y o i=>setItem o i y) d a b σ K:=fun iv=>by
 obtain⟨x,ds,k,j,rfl,rfl,hX,h0,hf,hd,h⟩:=h;exact w_setO (Dm hX) h0 hf hd (goalU (σ:=.upd j _ σ) iv h)
theorem v_set2{a b d:PyData}{σ:Sg}{K:Sg→Prop}(h:LSet a b d σ K):VU3 sc (fun i o y=>setItem o i y) b a d σ K:=fun iv=>by
 obtain⟨x,ds,k,j,rfl,rfl,hX,h0,hf,hd,h⟩:=h;exact w_setO2 (Dm hX) h0 hf hd (goalU (σ:=.upd j _ σ) iv h)
theorem Inv.le{σ σ':Sg}(i:Inv N σ)(h:σ'.vars.map (fun p=>look p.1 σ)=σ'.vars.map (fun p=>some p.2)):Inv N σ':=fun x d hx=>by
 rw[Cu] at hx;exact i _ _ (List.map_inj_left.mp h _ (PyProof.Rows.mem_of_lookup hx))
theorem Fq{names:Nk}{b b':List (Str × PyData)}(h:∀ x d,b'.lookup x=some d→b.lookup x=some d):Weak (Be names b) (Be names b'):=by
 unfold Be
 induction names.filter (·.2 == .local) with
 |nil=>exact .nil
 |cons n r ih =>
  simp only[map_cons];cases e:b'.lookup n.1 with
  |none=>exact .none ih
  |some d=>refine rz (h _ _ e ..) <| .same ih
theorem Fs{l:Ce}{b b':List (Str × PyData)}{Z Z':Xs}(h:∀ x d,b'.lookup x=some d→b.lookup x=some d)(hZ:WeakX Z Z'):WeakX (Cs l b++Z) (Cs l b'++Z'):=by
 induction l with
 |nil=>exact hZ
 |cons p r ih =>
  show WeakX ((p.2,.cell (b.lookup p.1))::(Cs r b++Z)) ((p.2,.cell (b'.lookup p.1))::(Cs r b'++Z'))
  cases e:b'.lookup p.1 with
  |none=>exact .cell ih
  |some d=>refine rz (h _ _ e ..) <| .same ih
theorem LSub.ok{σ σ':Sg}(i:Inv N σ)(h:LSub σ σ'):Le sc.c (full sc σ) (full sc σ')∧Inv N σ':=by
 have key:σ'.vars.map (fun p=>look p.1 σ)=σ'.vars.map (fun p=>some p.2)→∀ x d,σ'.vars.lookup x=some d→σ.vars.lookup x=some d:=fun h x d hx=>by
  refine rz (Eq.symm (Cu ..)) <| List.map_inj_left.mp h _ (PyProof.Rows.mem_of_lookup hx)
 cases h with
 |mk h ho =>
  refine⟨Le.of ?_,i.le h⟩;unfold full;refine rz (ho ..) <| .map (Fq (key h)) (Fs (key h) .rfl)
 |drop D h ho=>exact⟨(Le.drop (Do ho)).trans (Le.of (.map (Fq (key h)) (Fs (key h) .rfl))),i.le h⟩
theorem st_refine{y:Str}{x:Addr}{ds:Lp}{σ:Sg}{Z:Xs}{T:Ts}{s:Shared}(hb:ownB y N.own=true)(hy:look y σ=some (Rf x))(S:St sc.c (full sc σ++Z) ((.ref x,.list ds)::T) s):St sc.c (full sc (.put y (.list ds) σ)++Z) T s:=by
 have nd:=sc.nd;have e0:full sc (.put y (.list ds) σ)=(sc.L,.map (Be N.own ((y,.list ds)::σ.vars)))::(Bm sc.L N.own ((y,.list ds)::σ.vars)++(σ.objs++sc.out)):=rfl;refine rz (e0 ..) ?_;rw[Cu] at hy;rcases(Fx hb).1 with hn | hn
 ·refine rz (cell_skip nd hn ..) ?_;have P:=Ek (d:=.list ds) (done:=σ.vars) nd hn;have U:Ups sc.L (.map (Be N.own σ.vars)) (.map (Be N.own ((y,.list ds)::σ.vars))) (full sc σ++Z) _:=.here;refine(St.upd S U (fun V V V e=>e) S.gens rfl ?_).pop
  obtain⟨nd',m,hm,hv⟩:=S.own _ U.mem;refine⟨by refine rz (P.keys ..) <| nd',m,hm,fun z d hz=>?_⟩
  have rp:∀ {v d},Rp (ban sc.c (full sc σ++Z)) s.heap v d→Rp (ban sc.c _) s.heap v d:=fun r=>r.mono (fun a o e q=>by unfold ban at q⊢;rwa [U.keys] at q) fun V V V e=>e
  rcases P.cases nd' _ hz with e | ⟨hz,_⟩
  ·cases e;obtain⟨v,e1,r⟩:=hv y (Rf x) (List.mem_map.mpr ⟨(y,.local),List.mem_filter.mpr ⟨hn,rfl⟩,by exact rz (hy ..) rfl⟩)
   obtain rfl:=By r;exact⟨_,e1,rp (S.rp (.head _))⟩
  ·obtain⟨v,e1,r⟩:=hv z d hz;exact⟨v,e1,rp r⟩
 ·refine rz (frame_skip nd hn ..) ?_;obtain⟨a,ha⟩:=F3 sc.L hn;obtain⟨d₀,U⟩:=En (d:=.list ds) (done:=σ.vars) (Z:=σ.objs++sc.out) (De nd (sc.L+1)) ha;have hc:(a,Knd.cell (some (Rf x)))∈full sc σ:=.tail _ (mem_append_left _ (List.mem_map.mpr ⟨(y,a),ha,by exact rz (hy ..) rfl⟩))
  have U2:Ups a (.cell d₀) (.cell (some (.list ds))) (full sc σ) ((sc.L,.map (Be N.own σ.vars))::(Bm sc.L N.own ((y,.list ds)::σ.vars)++(σ.objs++sc.out))):=.there U;have nd2:=S.nd;have e:=nodup_cases nd2 (mem_append_left Z U2.mem) (mem_append_left Z hc);rw[e] at U2;exact(St.lift S U2.left (.head _)).pop
theorem St.absorb{c:Cx}{X:Xs}{T:Ts}{s:Shared}{x a:Addr}{pre post ds:Lp}(S:St c ((x,Lk (pre++Rf a::post))::(a,Lk ds)::X) T s):St c ((x,Lk (pre++.list ds::post))::X) T s:=by
 have S1:=(S.perm (.swap _ _ _)).freeze;obtain⟨vs,n,ho,hr⟩:=S1.own _ (.head _);obtain⟨us,ws,e,r1,r2⟩:=hr.split;cases r2 with
 |cons r2 r3 =>
  obtain rfl:=By r2;exact(S1.upd (k':=Lk (pre++.list ds::post)) .here (fun V V V e=>e) S1.gens rfl ⟨vs,n,ho,by refine rz (e ..) <| r1.append (.cons (S1.tmp _ (.head _)) r3)⟩).pop
theorem St.deep{c:Cx}{X:Xs}{T:Ts}{s:Shared}{x:Addr}:∀ {as:List Addr}{ts:List (Lp)}{pre:Lp},as.length=ts.length→St c ((x,Lk (pre++as.map Rf))::(ownD as ts++X)) T s→St c ((x,Lk (pre++ts.map .list))::X) T s
 |[],[],_,_,S=>S
 |a::as,t::ts,pre,h,S=>by
  have S1:=St.deep (pre:=pre++[.list t]) (Nat.succ.inj h) (rz (append_assoc ..) <| St.absorb S)
  rw[append_assoc] at S1;exact S1
theorem LFz.ok'{P:Sg→Prop}{σ:Sg}(h:LFz P σ)(i:Inv N σ):∃ σ',Le sc.c (full sc σ) (full sc σ')∧Inv N σ'∧P σ':=by
 induction h with
 |ok h=>exact⟨_,fun V V V S=>S,i,h⟩
 |@frz σ y x ds j hy hX h ih =>
  have hb:=i _ _ hy;obtain⟨σ',h1,h2,h3⟩:=ih (i.put (σ:=.rem j σ) hb);refine⟨σ',?_,h2,h3⟩;intro Z T s S;refine h1 Z T s ?_;have S1:=(S.perm ((perm_full hX).append_right Z)).freeze;exact st_refine (σ:=.rem j σ) hb hy S1
 |@deep σ x as ts Y hl ho h ih =>
  obtain⟨σ',h1,h2,h3⟩:=ih (show Inv N (.own ((x,Lk (ts.map .list))::Y) σ) from i)
  refine⟨σ',fun Z T s S=>h1 Z T s ?_,h2,h3⟩
  have S1:=St.deep (pre:=[]) hl (S.perm ((Do (B:=(x,Lk (as.map Rf))::ownD as ts) ho).append_right Z |>.trans (rz (append_assoc ..) <| .refl _)))
  exact S1.perm ((Do (sc:=sc) (σ:=.own ((x,Lk (ts.map .list))::Y) σ) (B:=[(x,Lk (ts.map .list))]) (Y:=Y) (.refl _)).symm.append_right Z)
theorem u_le{prog:Program}{w:World}{A:Around}{c:Cx}{X X':Xs}{m:Value→Sem Unit}{d:PyData}{K:Xs→Prop}(hl:Le c X X')(h:U1 prog w A c m d X' K):U1 prog w A c m d X K:=fun v Z T s E Q S q=>h v Z T s E Q (hl Z _ s S) q
theorem s_le{prog:Program}{w:World}{A:Around}{c:Cx}{env:Env}{X X':Xs}{l:List Stmt}{J:Fl→Xs→Prop}(hl:Le c X X')(h:Ws prog w A c env l X' J):Ws prog w A c env l X J:=fun Z T s E Q S=>h Z T s E Q (hl Z _ s S)
variable{r:VR}{ih:RR}
theorem v_for{tg it:Expr}{body rest:List Stmt}{q:Pos}{σ:Sg}{J:Fl→Sg→Prop}(ok:VOk sc r)(hs:noSet it=true)(h:r.I it tg σ fun ds σ=>LFor r tg body rest ds σ J):VS sc (.For tg it body [] q::rest) σ J:=fun iv=>by
 refine ws_forJ (WJ.mono (ok.I h iv) ?_) fun x=>noSet_of hs _ x
 refine elA fun ds σ1 i1 h1=>?_
 have go:∀ (α:Type) (P:Nat→α→Prop) (F:Nat→α→Sg) (nx:Nat→Sg→Prop),(∀ i σ,nx i σ→∃ a,P i a∧LSub σ (F i a))→nx 0 σ1→(∀ i a d,ds[i]?=some d→P i a→r.A tg d (F i a) fun σ=>r.S body σ fun f σ=>match f with | .next=>nx (i+1) σ | .cont=>nx (i+1) σ | .brk=>r.S rest σ J | .ret d=>J (.ret d) σ)→(∀ a,P ds.length a→LFz (fun σ=>r.S rest σ J) (F ds.length a))→∃ I:Nat→Xs→Prop,I 0 (full sc σ1)∧(∀ i d X1,ds[i]?=some d→I i X1→U1 g.prog g.w sc.A sc.c (assign tg sc.env) d X1 fun X2=>Ws g.prog g.w sc.A sc.c sc.env body X2 fun f X3=>match f with | .next=>I (i+1) X3 | .cont=>I (i+1) X3 | .brk=>Ws g.prog g.w sc.A sc.c sc.env rest X3 (fun f X=>liftA sc J f X) | .ret r=>liftA sc J (.ret r) X3)∧∀ X1,I ds.length X1→Ws g.prog g.w sc.A sc.c sc.env rest X1 fun f X=>liftA sc J f X:=fun α P F nx hn h0 turn done=>by
  have nxt:∀ {i σ},nx i σ→Inv N σ→∃ a,P i a∧Le sc.c (full sc σ) (full sc (F i a))∧Inv N (F i a):=fun h3 i3=>by
   obtain⟨a,p,h⟩:=hn _ _ h3;exact⟨a,p,LSub.ok i3 h⟩
  refine⟨fun i X=>∃ a,P i a∧Le sc.c X (full sc (F i a))∧Inv N (F i a),nxt h0 i1,?_,?_⟩
  ·rintro i d X1 hd ⟨a,p,hl,iF⟩;refine u_le hl (U1.mono (ok.A (turn i a d hd p) iF) ?_);refine elU fun σ2 i2 h2=>?_
   refine Ws.mono (ok.S h2 i2) ?_;refine elA fun f σ3 i3 h3=>?_
   cases f with
   |next=>exact nxt h3 i3
   |cont=>exact nxt h3 i3
   |brk=>exact ok.S h3 i3
   |ret d=>exact goal (K:=fun d σ=>J (.ret d) σ) i3 h3
  ·rintro X1 ⟨a,p,hl,iF⟩;obtain⟨σ',l2,i2,h2⟩:=LFz.ok' (sc:=sc) (done a p) iF;exact s_le (hl.trans l2) (ok.S h2 i2)
 cases h1 with
 |mk F h0 turn done=>exact go Unit (fun V V=>True) (fun i V=>F i) (fun i σ=>LSub σ (F i)) (fun V V h=>⟨(),trivial,h⟩) h0 (fun i V d hd V=>turn i d hd) fun V V=>done
 |ex α P F a₀ p0 h0 turn done=>exact go α P F (fun i σ=>∃ a,P i a∧LSub σ (F i a)) (fun V V h=>h) ⟨a₀,p0,h0⟩ turn done
theorem v_while{t:Expr}{body rest:List Stmt}{q:Pos}{σ:Sg}{J:Fl→Sg→Prop}(ok:VOk sc r)(h:LWhile r t body rest σ J):VS sc (.While t body [] q::rest) σ J:=fun iv Z T s E Q S q1 q2 q3 q4=>by
 have go:∀ (α:Type) (F:α→Sg) (m:α→Nat) (a₀:α) (P:Sg→Prop),LSub σ (F a₀)→(∀ a,r.T t (F a) fun z σ=>LIf z (r.S body σ (whileJ r rest F m a J)) (P σ))→(∀ σ2,Inv N σ2→P σ2→∃ σ',Le sc.c (full sc σ2) (full sc σ')∧Inv N σ'∧r.S rest σ' J)→wpAny (model g.prog g.w) sc.A (execs (.While t body [] q::rest) sc.env) Q E s:=by
  intro α F m a₀ P h0 turn done;obtain⟨l0,i0⟩:=LSub.ok (sc:=sc) iv h0;refine while_it (fun n s=>∃ a,n=m a∧Inv N (F a)∧St sc.c (full sc (F a)++Z) T s) (m a₀) ⟨a₀,rfl,i0,l0 Z T s S⟩ ?_
  rintro n s1 E' ⟨a,rfl,ia,S1⟩;refine(ok.T (turn a) ia) Z T s1 E' _ S1 ?_;refine elT fun z σ2 s2 i2 hq S2=>?_
  obtain⟨h1,h2⟩:=hq;refine⟨fun e=>?_,fun e=>?_⟩
  ·have back:∀ {X:Xs}{s3:Shared},liftA sc (fun(_:Unit) σ=>∃ b,m b<m a∧LSub σ (F b)) () X→St sc.c (X++Z) T s3→∃ k,k<m a∧∃ a,k=m a∧Inv N (F a)∧St sc.c (full sc (F a)++Z) T s3:=by
    rintro X s3 ⟨σ3,rfl,i3,b,hb,h3⟩ S3;obtain⟨l4,i4⟩:=LSub.ok (sc:=sc) i3 h3;exact⟨_,hb,b,rfl,i4,l4 Z T s3 S3⟩
   refine ok.S (h1 e) i2 Z T s2 E' _ S2 (fun X s3 h3 S3=>back h3 S3) ?_ (fun X s3 h3 S3=>back h3 S3) ?_
   ·refine elSU fun σ3 s3 i3 h3 S3=>?_
    exact ok.S h3 i3 Z T s3 E Q S3 q1 q2 q3 q4
   ·refine elS fun d σ3 v s3 i3 h3 S3=>?_
    exact q4 _ _ _ _ (goal (K:=fun d σ=>J (.ret d) σ) i3 h3) S3
  ·obtain⟨σ',l2,i3,h3⟩:=done σ2 i2 (h2 e);exact ok.S h3 i3 Z T s2 E Q (l2 Z T s2 S2) q1 q2 q3 q4
 cases h with
 |cut α β F m G a₀ h0 turn done =>
  refine go α F m a₀ _ h0 turn fun σ2 i2 ⟨b,hb⟩=>?_
  obtain⟨l1,i1⟩:=LSub.ok (sc:=sc) i2 hb;obtain⟨σ',l2,i3,h3⟩:=LFz.ok' (sc:=sc) (done b) i1;exact⟨σ',l1.trans l2,i3,h3⟩
 |mk α F m a₀ h0 turn=>exact go α F m a₀ _ h0 turn fun σ2 i2 h2=>LFz.ok' (sc:=sc) h2 i2
theorem v_ret{d:PyData}{σ:Sg}{J:Fl→Sg→Prop}(i:Inv N σ)(h:LRet d σ J):liftA sc (fun d σ=>J (.ret d) σ) d (full sc σ)∨∃ a ds X2,d=Rf a∧(full sc σ).Perm ((a,.seq (.type "list") none ds)::X2)∧liftA sc (fun d σ=>J (.ret d) σ) (.list ds) X2:=by
 cases h with
 |mk h=>exact .inl (goal i h)
 |frz x ds j ha hX h=>exact .inr ⟨x,ds,_,ha,perm_full hX,⟨.rem j σ,rfl,i,h⟩⟩
theorem ws_return'{prog:Program}{w:World}{A:Around}{c:Cx}{env:Env}{X:Xs}{rest:List Stmt}{J:Fl→Xs→Prop}{v:Expr}{q:Pos}(h:W0 prog w A c (eval v env) X fun d X1=>J (.ret d) X1∨∃ a ds X2,d=Rf a∧X1.Perm ((a,.seq (.type "list") none ds)::X2)∧J (.ret (.list ds)) X2):Ws prog w A c env (.Return (some v) q::rest) X J :=
 fun Z T s E Q S q1 q2 q3 q4=>E9 (h Z T s E _ S fun d X1 v s1 h1 S1=>by
  rcases h1 with h1 | ⟨a,ds,X2,rfl,hp,hj⟩
  ·exact q4 _ _ _ _ h1 S1
  ·obtain rfl:=By (S1.rp (.head _));exact q4 _ _ _ _ hj ((S1.perm (hp.append_right Z)).freeze.drop sub_mid))
theorem Da{x:Str}{d:PyData}{σ:Sg}{K:Sg→Prop}(h:Br N x d σ K):VU1 sc (storeName sc.env x) d σ K:=by
 unfold Br at h;cases e:ownB x N.own with
 |true=>rw[e] at h;exact v_store e h
 |false=>rw[e] at h;exact h.elim
theorem vc_own{ds:Lp}{σ:Sg}{K:KV}(h:vList ds σ K):VC sc (.type "list") ds σ K:=fun iv vs Z T s E Q hl S q=>by
 have lists:∀ {a:PyData},ds=[a]→(vLst a σ fun xs=>xs.length≤sizeLine∧LOwn xs σ K)→wpAny (model g.prog g.w) sc.A (call (.type "list") vs) Q E s:=fun {a} e h1=>by
  obtain⟨xs,ha,hz,h2⟩:=Bw h1;subst e;obtain⟨v,rfl⟩:=len1 hl;exact r_listof S (rd_of ha S (.head _)) hz fun a' s' S'=>C3 iv h2 S' (F7 sub1 q)
 obtain⟨a,rfl,h⟩:=v1_of h;cases a with
 |str x =>
  obtain⟨v,rfl⟩:=len1 hl;obtain⟨t,rfl⟩:=B5 (S.rp (.head _));exact r_liststr sc.oA.h S h.1 fun a' s' S'=>C3 iv h.2 S' (F7 sub1 q)
 |dict m =>
  rcases vRg_of h with ⟨a,b,rfl,h⟩ | h
  ·obtain⟨v,rfl⟩:=len1 hl;exact r_listrange sc.oA.h S (.head _) h.1.1 h.1.2 fun a' s' S'=>C3 iv h.2 S' (F7 sub1 q)
  ·exact lists rfl h
 |_=>exact lists rfl h
theorem vc_range{ds:Lp}{σ:Sg}{K:KV}(h:vRange ds σ K):VC sc (.type "range") ds σ K:=by
 rcases v12_of h with ⟨a,rfl,h⟩ | ⟨a,b,rfl,h⟩
 ·obtain⟨i,rfl,h⟩:=Bg h;exact fun iv=>wc_range1 (goal iv h)
 ·obtain⟨i,rfl,h⟩:=Bg h;obtain⟨j,rfl,h⟩:=Bg h;exact fun iv=>wc_range2 (goal iv h)
theorem vc_max{ds:Lp}{σ:Sg}{K:KV}(h:vMax ds σ K):VC sc (.builtin "max") ds σ K:=fun iv vs Z T s E Q hl S q=>by
 rcases v12_of h with ⟨a,rfl,h⟩ | ⟨a,b,rfl,h⟩
 ·obtain⟨v,rfl⟩:=len1 hl;obtain⟨xs,ha,⟨ns,rfl,hne,h⟩⟩:=Bw h;exact r_max sc.oA.h S (rd_of ha S (.head _)) hne fun m t s' hm S'=>q _ _ _ _ (goal iv (h m hm)) (S'.pop.push (.int _ _))
 ·obtain⟨v,u,rfl⟩:=len2 hl;obtain⟨i,rfl,h1⟩:=Bg h;obtain⟨j,rfl,h2⟩:=Bg h1;obtain⟨t,rfl⟩:=B9 (S.rp (.head _));obtain⟨t',rfl⟩:=B9 (S.rp (.tail _ (.head _)));exact r_max2 sc.oA.h S fun t s' S'=>q _ _ _ _ (goal iv h2) (S'.pop.pop.push (.int _ _))
noncomputable def biVal:Bi→Value | .list=>.type "list" | .range=>.type "range" | .len=>.builtin "len" | .sum=>.builtin "sum" | .max=>.builtin "max" | .sorted=>.builtin "sorted" | .str=>.type "str" | .int=>.type "int" | .tuple=>.type "tuple"
theorem v_fn{f:Value}{ds:Lp}{σ:Sg}{K:KV}(h:LFn g N.lvl ds σ K f):VC sc f ds σ K:=fun iv=>by
 have lent:∀ {m:Nat}{f:Value}{B Y:Xs}{post:PyData→Xs→Prop},Nat.ble m N.lvl=true→Cl g.prog g.w g.K m f B ds post→σ.objs.Perm (B++Y)→(∀ d B',post d B'→K d (.own (B'++Y) σ))→WC g.prog g.w sc.A sc.c f ds (full sc σ) (liftA sc K):=by
  intro m f B Y post hm F hp h vs Z T s E Q hl S q;have S1:=S.perm ((Do hp).append_right Z);rw[append_assoc] at S1;refine F sc.A sc.c _ T s vs E Q (sc.oA.le (le_of_ble_eq_true hm)) sc.hK (S1.drop (T':=T) fun y hy=>mem_append_right _ hy) (rps_zip hl fun y hy=>S1.rp (mem_append_left _ hy)) fun v d B' s' hb S'=>?_
  have p:(full sc (.own (B'++Y) σ)).Perm (B'++((sc.L,.map (Be N.own σ.vars))::(Bm sc.L N.own σ.vars++(Y++sc.out)))):=Do (σ:=.own (B'++Y) σ) (.refl _);refine q d (full sc (.own (B'++Y) σ)) v s' (goal (σ:=.own (B'++Y) σ) iv (h d B' hb)) (S'.perm ?_);refine rz (Eq.symm (append_assoc ..)) <| (p.symm.append_right Z)
 cases h with
 |pure m hm d F h=>exact wc_pure (sc.oA.le (le_of_ble_eq_true hm)) sc.hK F (goal iv h)
 |fn m hm B Y post F hp h=>exact lent hm (fun A c X T s vs E Q oA hK S hv k=>r_fn oA hK F S hv fun d B' hb v s' S'=>k v d B' s' hb S') hp h
 |cl m hm B Y post F hp h=>exact lent hm F hp h
theorem v_bi{f:Bi}{ds:Lp}{σ:Sg}{K:KV}(h:vBi g N.lvl f ds σ K):VC sc (biVal f) ds σ K:=by
 cases f with
 |list=>exact vc_own h
 |range=>exact vc_range h
 |max=>exact vc_max h
 |len =>
  intro iv vs Z T s E Q hl S q;obtain⟨a,rfl,h⟩:=v1_of h;obtain⟨v,rfl⟩:=len1 hl;have lists:(vLst a σ fun xs=>LC (xs.length<2^63) K (.int xs.length) σ)→wpAny (model g.prog g.w) sc.A (call (biVal .len) [v]) Q E s:=fun h=>by
   obtain⟨xs,ha,hz,h⟩:=Bw h;exact r_len S (rd_of ha S (.head _)) hz fun t s' S'=>q _ _ _ _ (goal iv h) (S'.pop.push (.int _ _))
  cases a with
  |tuple xs=>exact r_lenT S (.head _) h.1 fun t s' S'=>q _ _ _ _ (goal iv h.2) (S'.pop.push (.int _ _))
  |_=>exact lists h
 |tuple =>
  intro iv vs Z T s E Q hl S q;obtain⟨a,rfl,h⟩:=v1_of h;obtain⟨v,rfl⟩:=len1 hl;obtain⟨xs,ha,hz,h⟩:=Bw h;exact r_tupleof S (rd_of ha S (.head _)) hz fun a' s' S'=>q _ _ _ _ (goal iv h) (S'.drop (Cp sub1))
 |sum =>
  intro iv vs Z T s E Q hl S q;obtain⟨a,rfl,h⟩:=v1_of h;obtain⟨v,rfl⟩:=len1 hl;obtain⟨xs,ha,⟨ns,rfl,h⟩⟩:=Bw h;exact r_sum sc.oA.h S (rd_of ha S (.head _)) fun t s' S'=>q _ _ _ _ (goal iv h) (S'.pop.push (.int _ _))
 |sorted =>
  intro iv vs Z T s E Q hl S q;obtain⟨a,rfl,h⟩:=v1_of h;obtain⟨v,rfl⟩:=len1 hl;obtain⟨xs,ha,⟨ns,rfl,hz,h⟩⟩:=Bw h;exact r_sorted S (rd_of ha S (.head _)) hz fun a' s' S'=>C3 iv h S' (F7 sub1 q)
 |str =>
  intro iv vs Z T s E Q hl S q;obtain⟨a,rfl,h⟩:=v1_of h;cases a with
  |int i =>
   obtain⟨v,rfl⟩:=len1 hl;obtain⟨t,rfl⟩:=B9 (S.rp (.head _));exact r_strint S h.1 fun t s' S'=>q _ _ _ _ (goal iv h.2) (S'.pop.push (.str _ _))
  |_=>exact v_fn h iv vs Z T s E Q hl S q
 |int =>
  intro iv vs Z T s E Q hl S q;obtain⟨a,rfl,h⟩:=v1_of h;obtain⟨v,rfl⟩:=len1 hl;obtain⟨i,rfl,n,⟨hz,h1⟩,h⟩:=Ev h;obtain⟨t,rfl⟩:=B5 (S.rp (.head _));exact r_intstr S hz h1 fun t s' S'=>q _ _ _ _ (goal iv h) (S'.pop.push (.int _ _))
noncomputable def biName:Bi→Str | .list => "list" | .range => "range" | .len => "len" | .sum => "sum" | .max => "max" | .sorted => "sorted" | .str => "str" | .int => "int" | .tuple => "tuple"
noncomputable def biIx:Bi→Nat | .list=>7 | .range=>8 | .len=>0 | .sum=>3 | .max=>1 | .sorted=>2 | .str=>9 | .int=>6 | .tuple=>11
theorem bi_at(f:Bi):Fo[biIx f]?=some (biName f,biVal f):=by cases f<;>rfl
theorem bi_in{K:Frag}(H:KOk K){x:Str}{f:Bi}(hx:(x,f)∈biTab):nsIn K mainGlobals x=some none∧nsIn K builtinsNs x=some (some (biVal f)):=by
 have e:sEq x (biName f)=true:=List.all_eq_true.mp (show(biTab.all fun p=>sEq p.1 (biName p.2))=true by decide +kernel) _ hx
 refine rz (D2 e ..) <| H.blt _ (List.mem_of_getElem? (bi_at f))
theorem w_callval{prog:Program}{w:World}{A:Around}{c:Cx}{env:Env}{L:Addr}{names:Nk}{cells:Ce}{X:Xs}{K:PyData→Xs→Prop}{id:Str}{f:Bi}{p pos:Pos}{e:Expr}{es:List Expr}(hE:EnvOk env L names cells)(hn:(id,NameKind.globalImplicit)∈names)(hK:nsIn c.K mainGlobals id=some none∧nsIn c.K builtinsNs id=some (some (biVal f)))
  (h:WL prog w A c pos env (e::es) X fun ds X1=>WC prog w A c (biVal f) ds X1 K)(he:starEach (e::es) env=(false,eval e env)::starEach es env)(hc:(backTo pos (starEach es env)).any (·.1)=false)
  (hd:(id == ("__debug__" : Str))=false):W0 prog w A c (eval (.Call (.Name id p) (e::es) [] pos) env) X K:=by
 cases f<;>first | exact w_calltype hE hn hK h he hc hd | exact w_callblt hE hn hK h he hc hd
noncomputable def fnChk:Bool:=fnTab.all fun p=>(E1.any fun q=>sEq p.1 q.1&&(match q.2 with | .ref a=>Nat.beq a p.2 | _=>false))&&((Bz.any fun q=>Nat.beq q.1 p.2)||Nat.beq p.2 101||Nat.beq p.2 143||Nat.beq p.2 209)
theorem fn_in{K:Frag}(H:KOk K){x:Str}{f:Addr}(hx:(x,f)∈fnTab):nsIn K mainGlobals x=some (some (.ref f))∧keepIn K (.ref f)=true:=by
 obtain⟨h,g⟩:=(Bool.and_eq_true _ _).mp (List.all_eq_true.mp (show fnChk=true by decide +kernel) _ hx)
 refine⟨?_,?_⟩
 ·obtain⟨⟨y,v⟩,hq,h⟩:=List.any_eq_true.mp h;obtain⟨h1,h2⟩:=(Bool.and_eq_true _ _).mp h;obtain rfl:=D2 h1;cases v with
  |ref a=>obtain rfl:a=f:=eq_of_beq_eq_true h2;exact H.glob _ hq
  |_=>cases h2
 ·obtain⟨c1,c2,c3⟩:=H.kc;rcases(Bool.or_eq_true _ _).mp g with g | g
  ·rcases(Bool.or_eq_true _ _).mp g with g | g
   ·rcases(Bool.or_eq_true _ _).mp g with g | g
    ·obtain⟨⟨a,fd⟩,hq,h⟩:=List.any_eq_true.mp g;obtain rfl:a=f:=eq_of_beq_eq_true h;exact H.keep hq
    ·obtain rfl:f=101:=eq_of_beq_eq_true g;exact c1
   ·obtain rfl:f=143:=eq_of_beq_eq_true g;exact c2
  ·obtain rfl:f=209:=eq_of_beq_eq_true g;exact c3
end
theorem sEq_self(x:Str):sEq x x=true:=nsEq_self _
theorem D9:∀ {l:List Str},Ga l=true→l.Nodup
 |[],_=>nodup_nil
 |x::l,h=>by
  rcases F2 (b:=l.any (sEq x)) (x:=false) (y:=Ga l) h with ⟨_,h⟩ | ⟨e,h⟩
  ·cases h
  ·refine List.nodup_cons.mpr ⟨fun hm=>?_,D9 h⟩
   have:=List.any_eq_true.mpr ⟨x,hm,sEq_self x⟩;rw[e] at this;cases this
theorem cellK_mem{x:Str}{l:Nk}(h:cellK x l=true):(x,NameKind.cell)∈l∨(x,NameKind.free)∈l:=by
 obtain⟨k,e,h⟩:=(Option.any_eq_true ..).mp h;rcases(Bool.or_eq_true _ _).mp h with h | h
 ·cases eq_of_beq h;exact .inl (Bf e)
 ·cases eq_of_beq h;exact .inr (Bf e)
theorem Gd(names:Nk)(n:Nat)(acc:Ce):∀ q∈acc,q∈cellsFrom n names acc:=fun q h=>by refine rz (Bu ..) <| mem_append_right _ h
theorem cellsFrom_sub(names:Nk)(n:Nat)(acc:Ce):∀ q∈cellsFrom n names [],q∈cellsFrom n names acc:=fun q h=>by refine rz (Bu names n acc ..) <| mem_append_left _ h
theorem clList_ex{co:Ce}:∀ {sn:Nk}{acc:Ce},(∀ x,(x,NameKind.free)∈sn→∃ a,co.lookup x=some a)→∃ cl,Ei sn co acc=some cl∧(∀ q∈acc,q∈cl)∧∀ x a,(x,NameKind.free)∈sn→co.lookup x=some a→(x,a)∈cl
 |[],acc,_=>⟨acc,rfl,fun V h=>h,fun V V h=>nomatch h⟩
 |(n,k)::r,acc,h=>by
  refine rz Dw ?_
  by_cases hk:(k == NameKind.free)=true
  ·obtain rfl:=eq_of_beq hk;obtain⟨a,ha⟩:=h n (.head _);obtain⟨cl,h1,h2,h3⟩:=clList_ex (sn:=r) (acc:=(n,a)::acc) fun x hx=>h x (.tail _ hx)
   refine rz (ha ..) <| ⟨cl,h1,fun q hq=>h2 q (.tail _ hq),fun x b hx hb=>?_⟩
   rcases List.mem_cons.mp hx with e | hx
   ·cases e;rw[ha] at hb;cases hb
    exact h2 _ (.head _)
   ·exact h3 x b hx hb
  ·refine rz (if_neg hk ..) ?_;obtain⟨cl,h1,h2,h3⟩:=clList_ex (sn:=r) (acc:=acc) fun x hx=>h x (.tail _ hx)
   refine⟨cl,h1,h2,fun x b hx hb=>?_⟩
   rcases List.mem_cons.mp hx with e | hx
   ·cases e;exact absurd rfl hk
   ·exact h3 x b hx hb
theorem frOf_mem{fr:Fr}{σ:Sg}{l:Nk}{x:Str}{d:PyData}(h:(x,d)∈frOf fr σ l):(x,NameKind.free)∈l∧(look x σ=some d∨(x,d)∈fr):=by
 obtain⟨⟨y,k⟩,hm,h⟩:=List.mem_filterMap.mp h;rcases F2 h with ⟨e,h⟩ | ⟨_,h⟩
 ·obtain⟨d',h,e'⟩:=Option.map_eq_some_iff.mp h;cases e';cases eq_of_beq e;exact⟨hm,(Option.or_eq_some_iff.mp h).imp id fun h=>Bf h.2⟩
 ·cases h
theorem relab_keep{sn no:Nk}{x:Str}{k:NameKind}(h:(x,k)∈sn):(k≠.free→(x,k)∈relab sn no)∧(k=.free→(x,NameKind.free)∈relab sn no∨(x,NameKind.cell)∈relab sn no):=by
 refine⟨fun hk=>List.mem_map.mpr ⟨_,h,?_⟩,fun hk=>?_⟩
 ·show(if (k == .free&&no.lookup x == some .cell)=true then (x,NameKind.cell) else (x,k))=(x,k)
  rw[if_neg];intro e;exact hk (eq_of_beq ((Bool.and_eq_true _ _).mp e).1)
 ·subst hk
  by_cases e:(NameKind.free == .free&&no.lookup x == some .cell)=true
  ·exact .inr (List.mem_map.mpr ⟨_,h,if_pos e⟩)
  ·exact .inl (List.mem_map.mpr ⟨_,h,if_neg e⟩)
noncomputable def compB(t i:Expr)(B:Value→Value→Env→Sem Fin)(it acc:Value)(env:Env):Sem Fin:=do
 standAt i.pos
 match ← pyNext it with
 |none=>pure (.done .next)
 |some v =>
  letOwnedTupleGo t it v
  assign t env v
  B it acc env
noncomputable def tests(ifs:List Expr)(env:Env):Sem Bool:=forIn ifs true fun c r=>if r=true then do let ok ← isTrue c env (eval c env);pure (ForInStep.yield ok) else pure (ForInStep.yield r)
noncomputable def emitB(elt:Expr)(acc:Value)(env:Env):Sem Unit:=do let _ ← call (.builtin "list.append") [acc,← eval elt env]
noncomputable def B1(e elt:Expr)(ifs:List Expr)(it acc:Value)(env:Env):Sem Fin:=tests ifs env >>= fun ok=>if ok=true then emitB elt acc env >>= fun V=>again (.compLoop e 0 it acc env) else again (.compLoop e 0 it acc env)
noncomputable def B2(e i2:Expr)(it acc:Value)(env:Env):Sem Fin:=do
 let x ← eval i2 env
 standAt i2.pos
 let x ← foldedSetIterable i2 env x
 let _ ← runOwn (.compStart e 1 (← holding [x] (pyIter x)) acc env) env
 again (.compLoop e 0 it acc env)
section
variable{g:Pg}{N:Sn}{fr:Fr}{sc:Sc g N fr}{r:VR}{ih:RR}
theorem inner_perm{sn:Nk}{fr':Fr}{σ:Sg}(sc':Sc g ⟨sn,N.lvl⟩ fr')(hO:sc'.out=(sc.L,.map (Be N.own σ.vars))::(Bm sc.L N.own σ.vars++sc.out))(B Z:Xs)(za:Addr × Knd)(τ:Sg):(full sc' τ++(za::(B++Z))).Perm (((sc'.L,Knd.map (Be sn τ.vars))::Bm sc'.L sn τ.vars)++(za::(B++(full sc (.own τ.objs σ)++Z)))):=by
 have p1:(full sc (.own τ.objs σ)).Perm (τ.objs++sc'.out):=by refine rz (hO ..) <| Do (σ:=.own τ.objs σ) (B:=τ.objs) (Y:=[]) (rz (append_nil ..) <| .refl _)
 have p2:=perm_lc (A:=((sc'.L,Knd.map (Be sn τ.vars))::Bm sc'.L sn τ.vars)) (B:=B) (C:=full sc (.own τ.objs σ)) (D:=Z) (z:=za);refine List.Perm.trans ?_ p2.symm;exact(((p1.symm.append_left ((sc'.L,Knd.map (Be sn τ.vars))::Bm sc'.L sn τ.vars))).append_right _)
inductive BodyQ(sc:Sc g N fr)(c:Code)(J:Lp→Xs→Prop)(acc:Addr)(Y1 Y2:Xs)(T:Ts)(s:Shared):Fin→Prop
 |mk(rs:Lp)(O:Xs)(hJ:J rs O)(S:St sc.c (full sc (.own O .nil)++(Y1++((acc,Lk rs)::Y2))) T s):BodyQ sc c J acc Y1 Y2 T s (.again c)
noncomputable def Body(sc:Sc g N fr)(e:Expr)(B:Value→Value→Env→Sem Fin)(J:Lp→Xs→Prop)(rs:Lp)(τ:Sg):Prop :=
 ∀ (I acc:Addr) (Y1 Y2:Xs) (T:Ts) (s:Shared) (E:VP),Inv N τ→St sc.c (full sc τ++(Y1++((acc,Lk rs)::Y2))) T s →
  wpAny (model g.prog g.w) sc.A (B (.ref I) (.ref acc) sc.env) (fun f s'=>BodyQ sc (.compLoop e 0 (.ref I) (.ref acc) sc.env) J acc Y1 Y2 T s' f) E s
theorem St.fade{τ:Sg}{Z:Xs}{T:Ts}{s:Shared}(S:St sc.c (full sc τ++Z) T s):St sc.c (full sc (.own τ.objs .nil)++Z) T s:=by
 refine S.weak (WeakX.left ?_);unfold full;have h:∀ x d,(Sg.own τ.objs .nil).vars.lookup x=some d→τ.vars.lookup x=some d:=fun x d h=>nomatch h
 exact .map (Fq h) (Fs h .rfl)
inductive LoopI(sc:Sc g N fr)(J:Nat→Lp→Xs→Prop)(m:Nat)(kn:Nat→Xs)(acc:Addr)(Z:Xs)(T:Ts)(n:Nat)(s:Shared):Prop
 |mk(i:Nat)(rs:Lp)(O:Xs)(e:n=m-i)(hJ:J i rs O)(S:St sc.c (kn i++(full sc (.own O .nil)++((acc,Lk rs)::Z))) T s)(hi:i≤m)
theorem comp_loop{elt:Expr}{gens:List Comprehension}{sco:Scope}{pos:Pos}{t i:Expr}{B:Value→Value→Env→Sem Fin}{I acc:Addr}{kn:Nat→Xs}{ds:Lp}{T:Ts}{Z O:Xs}{s:Shared}{R:Result→Shared→Prop}{J:Nat→Lp→Xs→Prop}
  (hB:∀ it acc env,compTurn (.ListComp elt gens sco pos) 0 it acc env=compB t i B it acc env)(W:Iter g.prog g.w sc.A sc.c I kn ds T t)
  (turn:∀ i d rs O,ds[i]?=some d→J i rs O→∃ M,VU1 sc (assign t sc.env) d (.own O .nil) M∧∀ τ,M τ→Body sc (.ListComp elt gens sco pos) B (J (i+1)) rs τ)
  (S:St sc.c (kn 0++(full sc (.own O .nil)++((acc,Lk [])::Z))) T s)(h0:J 0 [] O)
  (done:∀ rs O s',J ds.length rs O→St sc.c (full sc (.own O .nil)++((acc,Lk rs)::Z)) T s'→R (.ok .next) s'):codeAny (model g.prog g.w) sc.A (.compLoop (.ListComp elt gens sco pos) 0 (.ref I) (.ref acc) sc.env) R s:=by
 refine codeAny_loop rfl (LoopI sc J ds.length kn acc Z T) ?_ _ ⟨0,[],O,rfl,h0,S,zero_le _⟩;rintro n s1 ⟨i,rs,O,rfl,hJ,S,hi⟩
 show wpAny _ sc.A ((compTurn (.ListComp elt gens sco pos) 0 (.ref I) (.ref acc) sc.env).onRaise (fun x=>do noteFrame x sc.env;theTreesLotGoes x)) _ _ s1
 refine rz (hB ..) <| wpAny_noted (wpAny_bind (wpAny_standAt (wpAny_bind ?_)))
 rcases Nat.lt_or_eq_of_le hi with hlt | rfl
 ·obtain⟨M,hA,hb⟩:=turn i _ rs O (List.getElem?_eq_getElem hlt) hJ;refine wpAny_mono (W.item i _ _ _ _ _ _ (notedBy (model g.prog g.w) sc.A sc.env fun e s'=>R (.error e) s') (List.getElem?_eq_getElem hlt) S (fun V h=>h) fun v s' h=>h) (fun r s2 h2=>?_) fun V V h=>h
  cases r with
  |none=>exact h2.elim
  |some v =>
   refine wpAny_bind (wpAny_mono h2 (fun V s3 S3=>?_) fun V V h=>h)
   refine wpAny_bind (hA (fun V V h=>nomatch h) v _ _ s3 _ _ (S3.perm (perm_append_comm_assoc _ _ _)) ?_)
   refine elSU fun τ s4 iv hM S4=>?_
   refine wpAny_mono (hb τ hM I acc _ _ _ s4 _ iv S4) (fun f s5 h5=>?_) fun V V h=>h
   obtain⟨rs',O',hJ',S5⟩:=h5;exact⟨rfl,ds.length-(i+1),Nat.sub_succ_lt_self _ _ hlt,i+1,rs',O',rfl,hJ',S5.perm (perm_append_comm_assoc _ _ _),hlt⟩
 ·exact W.done _ _ _ _ _ S (fun V h=>h) fun s5 S5=>wpAny_pure (done rs O s5 hJ S5)
theorem body1{elt:Expr}{gens:List Comprehension}{sco:Scope}{pos:Pos}{ifs:List Expr}{J:Lp→Xs→Prop}{rs:Lp}{τ:Sg}{Pt:Prop}{Pe:KV}{Pn:Sg→Prop}(ok:VOk sc r)(hz:rs.length≤sizeLine)
  (he:Pt→∀ d σ,Pe d σ→J (rs++[d]) σ.objs)(hn:∀ σ,Pn σ→J rs σ.objs)(h:vIfs r ifs τ (fun σ=>Pt∧r.E elt σ Pe) Pn):Body sc (.ListComp elt gens sco pos) (B1 (.ListComp elt gens sco pos) elt ifs) J rs τ:=fun I acc Y1 Y2 T s E iv S=>by
 unfold B1;generalize hc:Code.compLoop (.ListComp elt gens sco pos) 0 (.ref I) (.ref acc) sc.env=c;have last:∀ σ s,Inv N σ→St sc.c (full sc σ++(Y1++((acc,Lk rs)::Y2))) T s→(Pt∧r.E elt σ Pe)→wpAny (model g.prog g.w) sc.A (emitB elt (.ref acc) sc.env >>= fun V=>again c) (fun f s'=>BodyQ sc c J acc Y1 Y2 T s' f) E s:=fun σ s i1 S1 h1=>by
  refine wpAny_bind (wpAny_bind (ok.E h1.2 i1 _ _ s _ _ S1 ?_));refine elS fun d σ3 v s3 i3 h3 S3=>?_
  refine wpAny_bind (r_append S3 (S3.rp (.head _)) (Ups.app (Ups.app .here)) hz fun s4 S4=>?_)
  exact wpAny_pure (wpAny_pure ⟨_,_,he h1.1 _ _ h3,S4.pop.fade⟩)
 refine wpAny_bind ?_;cases ifs with
 |nil=>exact if_nil (last τ s iv S h)
 |cons t ifs=>cases ifs with
  |nil =>
   refine if_one (ok.T h iv _ _ s E _ S ?_);refine elT fun b σ2 s4 i2 hq S4=>?_
   obtain⟨h2,h3⟩:=hq;cases b with
   |true=>exact last σ2 s4 i2 S4 (h2 rfl)
   |false=>exact wpAny_pure ⟨_,_,hn σ2 (h3 rfl),S4.fade⟩
  |cons _ _=>exact h.elim
theorem body2{elt t1 i1 t2 i2:Expr}{sco:Scope}{pos:Pos}{J:Lp→Xs→Prop}{rs:Lp}{τ:Sg}{fs:Lp}{O:Xs}(ok:VOk sc r)(hs2:noSet i2=true)(hz:rs.length+fs.length≤sizeLine)
  (hJ:J (rs++fs) O)(h:r.I i2 t2 τ (In2 r elt t2 fs O)) :
  Body sc (.ListComp elt [⟨t1,i1,[],0⟩,⟨t2,i2,[],0⟩] sco pos) (B2 (.ListComp elt [⟨t1,i1,[],0⟩,⟨t2,i2,[],0⟩] sco pos) i2) J rs τ:=fun I acc Y1 Y2 T s E iv S=>by
 unfold B2;refine wpAny_bind (wpAny_mono (ok.I h iv _ T s E _ S ?_) (fun x s4 h4=>wpAny_bind (wpAny_standAt (wpAny_bind (wpAny_of_eq (noSet_of hs2 _ x) (wpAny_bind (wpAny_holding h4)))))) fun V V h=>h)
 rintro es X I2 kn2 T2 s6 ⟨σ3,rfl,i3,⟨f,F,hfs,hF,rfl,turn⟩⟩ hT2 S6 W2;obtain⟨lF,iF⟩:=LSub.ok (sc:=sc) i3 hF;subst hfs;rw[length_map,length_range] at hz;have S7:St sc.c (kn2 0++((full sc F++Y1)++((acc,Lk rs)::Y2))) T2 s6:=by
  refine rz (append_assoc ..) <| (lF _ T2 s6 (S6.perm (perm_append_comm_assoc _ _ _))).perm (perm_append_comm_assoc _ _ _)
 refine wpAny_bind (wpAny_runOwn (Ge f W2 hz S7 (fun j e v s7 E2 hj S8=>?_) fun s7 S8=>?_))
 ·rw[append_assoc] at S8⊢
  refine ok.A (turn j e hj) iF v _ _ s7 E2 _ (S8.perm (perm_append_comm_assoc _ _ _)) ?_;refine elSU fun σ4 s8 i4 h7 S10=>?_
  refine ok.E h7 i4 _ _ s8 E2 _ S10 ?_;refine elS fun d' σ5 r s9 i5 hq S11=>?_
  obtain⟨rfl,h8⟩:=hq;have S12:=((LSub.ok (sc:=sc) i5 h8).1 _ _ s9 S11).perm (perm_append_comm_assoc _ _ _);exact⟨_,_,.rfl,S12,S12.rp (.head _),fun y hy=>.tail _ hy⟩
 ·rw[append_assoc] at S8;exact wpAny_pure ⟨_,_,hJ,(S8.drop hT2).fade⟩
structure InOk(sc:Sc g N fr)(sco:Scope)(fr':Fr)(O:Xs)(cl:Ce):Prop where
 nd:(sco.names.map (·.1)).Nodup
 cells:∀ x,(x,NameKind.free)∈sco.names→∃ a,(x,a)∈cl
 fr:∀ x d,(x,d)∈fr'→(x,NameKind.free)∈sco.names∧(x == ("__debug__" : Str))=false∧(x == ("__classdict__" : Str))=false∧∃ a,(x,a)∈cl∧(a,Knd.cell (some d))∈O
noncomputable abbrev outO(sc:Sc g N fr)(σ:Sg):Xs:=(sc.L,.map (Be N.own σ.vars))::(Bm sc.L N.own σ.vars++sc.out)
noncomputable def inSc{sco:Scope}{fr':Fr}{O:Xs}{cl:Ce}(h:InOk sc sco fr' O cl){C:Addr}{env:Env}(hE:EnvOk env C (relab sco.names sc.names) (cellsFrom (C+1) sco.names cl)):Sc g ⟨sco.names,N.lvl⟩ fr' :=
 ⟨sc.A,sc.c,env,C,_,_,O,sc.oA,sc.hK,hE,h.nd,fun V V hx hk=>(relab_keep hx).1 hk,cellsFrom_sub _ _ _,fun x hx=>(h.cells x hx).imp fun V ha=>Gd _ _ _ _ ha,fun x d hx =>
  let ⟨h1,h2,h3,a,h4,h5⟩:=h.fr x d hx;⟨(relab_keep h1).2 rfl,h2,h3,a,Gd _ _ _ _ h4,h5⟩⟩
theorem inner_ok{sco:Scope}(h:scoOk N.own sco=true):∃ cl,Ei sco.names sc.cells []=some cl∧sco.kind=.function∧(sco.names.map (·.1)).Nodup∧∀ σ,Inv N σ→InOk sc sco (frOf fr σ sco.names) (outO sc σ) cl:=by
 unfold scoOk at h
 split at h
 case h_2=>cases h
 rename_i hkind
 obtain⟨h1,h2⟩:=(Bool.and_eq_true _ _).mp h;have hnd:=D9 h1;have h3:∀ x,(x,NameKind.free)∈sco.names→((x,NameKind.cell)∈N.own∨(x,NameKind.free)∈N.own)∧(x == ("__debug__" : Str))=false∧(x == ("__classdict__" : Str))=false:=fun x hx=>by
  have:=List.all_eq_true.mp h2 _ hx;simp only[Bool.and_eq_true,Bool.not_eq_true'] at this;exact⟨cellK_mem this.1.1,beq_eq_false_iff_ne.mpr (sEq_ne this.1.2),beq_eq_false_iff_ne.mpr (sEq_ne this.2)⟩
 have h4:∀ x,(x,NameKind.free)∈sco.names→∃ a,(x,a)∈sc.cells:=fun x hx=>by
  rcases(h3 x hx).1 with h | h
  ·obtain⟨a,ha⟩:=F3 sc.L h;exact⟨a,sc.hc _ ha⟩
  ·exact sc.hfree x h
 obtain⟨cl,hcl,_,hin⟩:=clList_ex (co:=sc.cells) (acc:=[]) fun x hx=>(h4 x hx).imp fun a ha=>A5 sc.hE.cnd ha
 refine⟨cl,hcl,hkind,hnd,fun σ iv=>⟨hnd,fun x hx=>?_,fun x d hx=>?_⟩⟩
 ·obtain⟨a,ha⟩:=h4 x hx;exact⟨a,hin x a hx (A5 sc.hE.cnd ha)⟩
 ·obtain⟨hfree,hd⟩:=frOf_mem hx;obtain⟨h5,h67⟩:=h3 x hfree;refine⟨hfree,h67.1,h67.2,?_⟩;rcases hd with hd | hd
  ·have hc:(x,NameKind.cell)∈N.own:=by
    rcases(Fx (iv _ _ hd)).1 with h | h
    ·rcases h5 with q | q
     ·exact q
     ·have:=(A5 sc.nd h).symm.trans (A5 sc.nd q);cases this
    ·exact h
   obtain⟨a,ha⟩:=F3 sc.L hc;refine⟨a,hin x a hfree (A5 sc.hE.cnd (sc.hc _ ha)),.tail _ (mem_append_left _ (List.mem_map.mpr ⟨(x,a),ha,?_⟩))⟩;rw[Cu] at hd;exact rz (hd ..) rfl
  ·obtain⟨_,_,_,a,ha,hX⟩:=sc.hf _ _ hd;exact⟨a,hin x a hfree (A5 sc.hE.cnd ha),.tail _ (mem_append_right _ hX)⟩
inductive CIn(sc:Sc g N fr)(ih:RR)(sco:Scope)(e t:Expr)(B:Value→Value→Env→Sem Fin)(K:KV)(ds:Lp)(σ:Sg):Prop
 |mk(J:Nat→Lp→Xs→Prop)(h0:J 0 [] σ.objs)
  (turn:∀ (sc':Sc g ⟨sco.names,N.lvl⟩ (frOf fr σ sco.names)) i d rs O,ds[i]?=some d→J i rs O→∃ M,(ih ⟨sco.names,N.lvl⟩ (frOf fr σ sco.names)).A t d (.own O .nil) M∧∀ τ,M τ→Body sc' e B (J (i+1)) rs τ)
  (done:∀ rs O,J ds.length rs O→LOwn rs (.own O σ) K∨O=σ.objs∧LOwn rs σ K)
theorem envOk_in{sco:Scope}{cl:Ce}{C:Addr}(hkind:sco.kind=.function)(hnd:(sco.names.map (·.1)).Nodup)(hcl:Ei sco.names sc.cells []=some cl) :
  EnvOk { scope:=relabel sco sc.env,locals:=C,globals:=sc.env.globals,cells:=cellsFrom (C+1) sco.names cl,qual:=sc.env.qual,func:=none,code:=sc.env.code,frame:=sc.env.frame,builtins:=sc.env.builtins } C (relab sco.names sc.names) (cellsFrom (C+1) sco.names cl):=by
 have hcn:=relab_of (scope:=sco) sc.hE rfl;have hrn:(relab sco.names sc.names).map (·.1)=sco.names.map (·.1):=by
  unfold relab;refine rz (map_map ..) ?_;exact map_congr_left fun p V=>by
   show(if _ then (p.1,NameKind.cell) else (p.1,p.2)).1=p.1
   split<;>rfl
 exact⟨hkind,hcn,rfl,rfl,sc.hE.glo,sc.hE.blt,by refine rz (hrn ..) <| hnd,cells_nd hnd _ (fun q hq=>(E6 hcl q hq).resolve_left (fun h=>nomatch h)) (clList_nd hnd hcl)⟩
theorem in_perm{sn:Nk}{fr':Fr}{σ:Sg}(sc':Sc g ⟨sn,N.lvl⟩ fr')(hO:sc'.out=outO sc σ)(B Z O:Xs)(za:Addr × Knd):((sc'.L,Knd.map (Cj sn))::(Gc sc'.L sn++(za::(B++(full sc (.own O σ)++Z))))).Perm (B++(full sc' (.own O .nil)++(za::Z))) :=
 (inner_perm (sc:=sc) sc' hO B Z za (.own O .nil)).symm.trans (((perm_middle (a:=za) (l₁:=B) (l₂:=Z)).symm.append_left _).trans (perm_append_comm_assoc _ _ _))
theorem comp_go{elt t i:Expr}{ifs:List Expr}{gs:List Comprehension}{sco:Scope}{pos pos':Pos}{B:Value→Value→Env→Sem Fin}{use:Option (Value→Sem Unit)}{σ:Sg}{P:Lp→Sg→Prop}{K:KV}{Z:Xs}{T:Ts}{s:Shared}{Q E:VP}
  (hB:∀ it acc env,compTurn (.ListComp elt (⟨t,i,ifs,0⟩::gs) sco pos) 0 it acc env=compB t i B it acc env)(ok:VOk sc r)(okR:ROk g ih)(h0:noSet i=true)(hs:scoOk N.own sco=true)(h:r.I i t σ P)(hP:∀ ds σ1,P ds σ1→CIn sc ih sco (.ListComp elt (⟨t,i,ifs,0⟩::gs) sco pos) t B K ds σ1)
  (iv:Inv N σ)(S:St sc.c (full sc σ++Z) T s)
  (fin:∀ a C rs σ2 T' s',C≠sc.c.L→(∀ y∈T,y∈T')→Inv N σ2→LOwn rs σ2 K→St sc.c ((C,.map (Cj sco.names))::(Gc C sco.names++((a,Lk rs)::(full sc σ2++Z)))) T' s'→compPost (model g.prog g.w) sc.A E use Q (.ref a) C (.ok .next) s') :
  wpAny (model g.prog g.w) sc.A (comprehension (.ListComp elt (⟨t,i,ifs,0⟩::gs) sco pos) sco sc.env pos' (newList []) false (eval i sc.env) use) Q E s:=by
 obtain⟨cl,hcl,hkind,hnd,hin⟩:=inner_ok (sc:=sc) hs;refine wpAny_comprehension_free rfl (noSet_of h0 _) (clos_of sc.hE rfl hcl) hkind (fun x hx hl=>A5 hnd (show(x.1,NameKind.local)∈sco.names from hl▸hx)) (ok.I h iv Z T s E _ S ?_)
 rintro ds X I kn T' s2 ⟨σ1,rfl,i1,hp⟩ hT S2 W;obtain⟨J,hJ0,turn,done⟩:=hP ds σ1 hp;refine wpAny_newList (show wpAny _ _ _ _ _ _ from ?_)
 have Sacc:=S2.own_push (o:={ cls:=.type "list",data:=.seq ([]:List Value).toArray }) (k:=Lk []) (t:=s2.toks) ⟨#[],0,Heap.get?_push_size _ rfl,.nil⟩;generalize s2.heap.objs.size=acc at Sacc⊢
 refine comp_env Sacc hkind hnd fun s4 C hCL S4=>?_
 have S5:=S4.perm (in_perm (sc:=sc) (inSc (sc:=sc) (C:=C) (hin σ1 i1) (envOk_in hkind hnd hcl)) rfl (kn 0) Z σ1.objs (acc,Lk []));have key:=comp_loop (sc:=inSc (sc:=sc) (C:=C) (hin σ1 i1) (envOk_in hkind hnd hcl)) (R:=compPost (model g.prog g.w) sc.A E use Q (.ref acc) C) hB W (fun i d rs O hd hJ=>(turn _ i d rs O hd hJ).imp fun M h=>⟨(okR _).A h.1,h.2⟩) S5 hJ0 fun rs O s' hJ S'=>by
  have S6:=S'.perm (in_perm (sc:=sc) (inSc (sc:=sc) (C:=C) (hin σ1 i1) (envOk_in hkind hnd hcl)) rfl [] Z O (acc,Lk rs)).symm;rcases done rs O hJ with h | ⟨rfl,h⟩
  ·exact fin acc C rs (.own O σ1) T' s' hCL hT i1 h S6
  ·exact fin acc C rs σ1 T' s' hCL hT i1 h S6
 exact codeAny_compStart_list key (W.self 0 _ _ _ _ _ S5 key)
theorem cin1{elt t i:Expr}{ifs:List Expr}{sco:Scope}{pos:Pos}{K:KV}(okR:ROk g ih)(ds:Lp)(σ:Sg)(h:LComp (ih ⟨sco.names,N.lvl⟩ (frOf fr σ sco.names)) elt t ifs ds σ K):CIn sc ih sco (.ListComp elt [⟨t,i,ifs,0⟩] sco pos) t (B1 (.ListComp elt [⟨t,i,ifs,0⟩] sco pos) elt ifs) K ds σ:=by
 obtain⟨J,hz,hJ,turn,done⟩:=h;refine⟨fun k rs O=>J k rs O∧rs.length≤k,⟨hJ,le_refl _⟩,fun sc' k d rs O hd hj=>?_,fun rs O hj=>done rs O hj.1⟩
 obtain⟨Pt,Pe,Pn,he,hn,ht⟩:=turn k d rs O hd hj.1;refine⟨_,ht,fun τ h=>body1 (okR sc') (le_trans hj.2 (le_trans (le_of_lt (List.getElem?_eq_some_iff.mp hd).1) hz)) (fun hp d' σ3 h3=>⟨he hp d' σ3 h3,?_⟩) (fun σ2 h2=>⟨hn σ2 h2,le_succ_of_le hj.2⟩) h⟩
 refine rz (length_append ..) <| succ_le_succ hj.2
theorem v_comp{elt tg it:Expr}{ifs:List Expr}{sco:Scope}{pos:Pos}{σ:Sg}{K:KV}(ok:VOk sc r)(okR:ROk g ih)(hs:(noSet it&&scoOk N.own sco)=true)(h:r.I it tg σ fun ds σ=>LComp (ih ⟨sco.names,N.lvl⟩ (frOf fr σ sco.names)) elt tg ifs ds σ K):V0 sc (eval (.ListComp elt [⟨tg,it,ifs,0⟩] sco pos) sc.env) σ K:=fun iv Z T s E Q S q=>by
 obtain⟨h0,hsco⟩:=(Bool.and_eq_true _ _).mp hs;refine rz (eval_ListComp ..) <| comp_go (fun V V V=>rfl) ok okR h0 hsco h (cin1 okR) iv S fun a C rs σ2 T' s' hC hT i2 h2 S'=>?_
 obtain⟨_,m,hns,_⟩:=S'.own _ (.head _);exact⟨m,hns,fun h' hs'=>C3 i2 h2 ((S'.lose hC (t:=s'.toks) (h':=h') fun b o ne e=>hs'.extBut b o ne e).freeL (Gc C sco.names)) (F7 hT q)⟩
theorem fin_asg{sco:Scope}{x:Str}{p:Pos}{rest:List Stmt}{J:Fl→Sg→Prop}{T:Ts}{Z:Xs}{E:VP}{Q:Flow→Shared→Prop}{a C:Addr}{rs:Lp}{σ2:Sg}{T':Ts}{s':Shared}(ok:VOk sc r)(hC:C≠sc.c.L)(hT:∀ y∈T,y∈T')(i2:Inv N σ2)(h2:LOwn rs σ2 fun d σ=>Br N x d σ fun σ=>r.S rest σ J)
  (S':St sc.c ((C,.map (Cj sco.names))::(Gc C sco.names++((a,Lk rs)::(full sc σ2++Z)))) T' s')
  (q:∀ σ s',Inv N σ→r.S rest σ J→St sc.c (full sc σ++Z) T s'→wpAny (model g.prog g.w) sc.A (execs rest sc.env) Q E s') :
  compPost (model g.prog g.w) sc.A E (some (assign (.Name x p) sc.env)) (fun V s'=>wpAny (model g.prog g.w) sc.A (execs rest sc.env) Q E s') (.ref a) C (.ok .next) s':=by
 have S1:=S'.perm ((perm_middle (a:=(a,Lk rs)) (l₁:=(C,Knd.map (Cj sco.names))::Gc C sco.names) (l₂:=full sc σ2++Z)).trans ((perm_append_comm_assoc _ _ _).cons _))
 show wpAny _ sc.A (assign (.Name x p) sc.env (.ref a)) _ _ _
 refine wpAny_assign_Name ?_;refine C3 (Q:=fun v s'=>wpAny (model g.prog g.w) sc.A (storeName sc.env x v) _ E s') i2 h2 S1 ?_
 refine elS fun d σ3 v s3 i3 h3 S3=>?_
 refine Da h3 i3 v _ _ s3 E _ S3 ?_;refine elSU fun σ4 s4 i4 h4 S4=>?_
 have S5:=S4.perm (perm_append_comm_assoc _ _ _);obtain⟨_,m,hns,_⟩:=S5.own _ (.head _);exact⟨m,hns,fun h' hs'=>q σ4 _ i4 h4 ((St.freeL (Gc C sco.names) (St.lose (t:=s4.toks) (h':=h') S5 hC fun b o ne e=>hs'.extBut b o ne e)).drop hT)⟩
theorem asg_go{elt t i:Expr}{ifs:List Expr}{gs:List Comprehension}{sco:Scope}{pos p q:Pos}{x:Str}{rest:List Stmt}{J:Fl→Sg→Prop}{σ:Sg}{P:Lp→Sg→Prop}{B:Value→Value→Env→Sem Fin}
  (hsw:swapsWith (.ListComp elt (⟨t,i,ifs,0⟩::gs) sco pos) (some (.Name x p)) q.line sc.env=pure true)(hB:∀ it acc env,compTurn (.ListComp elt (⟨t,i,ifs,0⟩::gs) sco pos) 0 it acc env=compB t i B it acc env)(ok:VOk sc r)(okR:ROk g ih)(h0:noSet i=true)(hs:scoOk N.own sco=true)(h:r.I i t σ P)
  (hP:∀ ds σ1,P ds σ1→CIn sc ih sco (.ListComp elt (⟨t,i,ifs,0⟩::gs) sco pos) t B (fun d σ=>Br N x d σ fun σ=>r.S rest σ J) ds σ1):VS sc (.Assign [.Name x p] (.ListComp elt (⟨t,i,ifs,0⟩::gs) sco pos) q::rest) σ J:=fun iv Z T s E Q S q1 q2 q3 q4=>by
 refine Ci ?_;refine rz (exec_Assign_Name_used _ _ _ _ hsw ..) <| wpAny_bind (wpAny_standAt (wpAny_bind ?_))
 show wpAny _ sc.A (do let _ ← comprehension (.ListComp elt (⟨t,i,ifs,0⟩::gs) sco pos) sco sc.env _ (newList []) false (eval i sc.env) (some (assign (.Name x p) sc.env))) _ _ s
 refine wpAny_bind (wpAny_mono (comp_go hB ok okR h0 hs h hP iv S fun a C rs σ2 T' s' hC hT i2 h2 S'=>fin_asg ok hC hT i2 h2 S' fun σ s' i3 h3 S3=>ok.S h3 i3 Z T s' E Q S3 q1 q2 q3 q4) (fun V s' hq=>wpAny_pure (wpAny_pure hq)) fun V V e=>e)
theorem cin2{elt t1 i1 t2 i2:Expr}{sco:Scope}{pos:Pos}{K:KV}(okR:ROk g ih)(hs2:noSet i2=true)(ds:Lp)(σ:Sg)(h:LComp2 (ih ⟨sco.names,N.lvl⟩ (frOf fr σ sco.names)) elt t1 t2 i2 ds σ K) :
  CIn sc ih sco (.ListComp elt [⟨t1,i1,[],0⟩,⟨t2,i2,[],0⟩] sco pos) t1 (B2 (.ListComp elt [⟨t1,i1,[],0⟩,⟨t2,i2,[],0⟩] sco pos) i2) K ds σ:=by
 obtain⟨fs,hz,hl,turn,done⟩:=h;refine⟨fun k rs O=>rs=(List.range k).flatMap fs∧O=σ.objs,⟨rfl,rfl⟩,fun sc' k d rs O hd hj=>?_,fun rs O hj=>.inr ⟨hj.2,hj.1▸done⟩⟩
 obtain⟨rfl,rfl⟩:=hj;refine⟨_,turn k d hd,fun τ h=>body2 (fs:=fs k) (okR sc') hs2 ((hl k).resolve_right (Nat.not_le_of_lt (List.getElem?_eq_some_iff.mp hd).1)) ⟨?_,rfl⟩ h⟩
 refine rz (range_succ ..) <| rz (List.flatMap_append ..) <| rz (List.flatMap_singleton ..) rfl
theorem localK_mem{x:Str}{l:Nk}(h:localK x l=true):(x,NameKind.local)∈l:=by
 obtain⟨k,e,h⟩:=(Option.any_eq_true ..).mp h;cases eq_of_beq h;exact Bf e
theorem and4{a b c d:Bool}{G:Prop}(h:(a&&b&&c&&d)=true)(k:a=true→b=true→c=true→d=true→G):G :=
 let h1:=(Bool.and_eq_true _ _).mp h;let h2:=(Bool.and_eq_true _ _).mp h1.1;let h3:=(Bool.and_eq_true _ _).mp h2.1;k h3.1 h3.2 h2.2 h1.2
theorem comp0{a:Comprehension}(h1:intZ a.is_async=true)(h2:a.ifs.isEmpty=true):a=⟨a.target,a.iter,[],0⟩:=by
 obtain⟨t,i,c,z⟩:=a;have e1:z=0:=intZ_of h1;have e2:c=[]:=List.isEmpty_iff.mp h2;refine rz (e1 ..) <| rz (e2 ..) rfl
theorem v_asgcomp2{elt:Expr}{gens:List Comprehension}{sco:Scope}{pos py spos:Pos}{y:Str}{σ:Sg}{rest:List Stmt}{J:Fl→Sg→Prop}(ok:VOk sc r)(okR:ROk g ih)
  (h:vComp2 N fr ih r y py elt gens sco pos σ fun d σ=>Br N y d σ fun σ=>r.S rest σ J):VS sc (.Assign [.Name y py] (.ListComp elt gens sco pos) spos::rest) σ J:=by
 obtain⟨a,b,rfl,h⟩:=(twoL_of h).resolve_right id;refine tt_el h fun hc h=>?_
 obtain⟨hz,hc⟩:=(Bool.and_eq_true _ _).mp hc;refine and4 hz fun hz1 hz2 hc1 hc2=>?_
 obtain⟨hc,hno⟩:=(Bool.and_eq_true _ _).mp hc;obtain⟨hc,hline⟩:=(Bool.and_eq_true _ _).mp hc;refine and4 hc fun h1 h2 hsco hloc=>?_
 refine rz (comp0 hz1 hc1 ..) <| rz (comp0 hz2 hc2 ..) <| asg_go (swaps_of sc.hE ?_) (fun V V V=>rfl) ok okR h1 hsco h (cin2 okR h2)
 refine rz (A5 sc.hE.nd (sc.hn _ _ (localK_mem hloc) (by decide)) ..) <| rz (eq_of_beq_eq_true hline ..) ?_
 have:(sco.names.any fun(n,k)=>n == y&&(k == .local||k == .cell))=false:=by
  rw[List.any_eq_false];intro p hp hh;have:=List.all_eq_true.mp hno p hp;simp only[Bool.not_eq_true'] at this;exact sEq_ne this (eq_of_beq ((Bool.and_eq_true _ _).mp hh).1)
 refine rz (this ..) ?_
 show(true&&(pos.line == pos.line)&&true)=true
 refine rz (beq_self_eq_true ..) ?_
 rfl
end
section
variable{prog:Program}{w:World}{A:Around}{E:VP}{c:Cx}{T:Ts}{s:Shared}{env:Env}
theorem unpack_list{t:Addr}{items:Array Value}{targets:List (Bool × (Value→Sem Unit))}{Q:Unit→Shared→Prop}(hh:A.handled=none)(ht:s.heap.IsList t items)
  (hn:targets.length=items.size)(hstar:targets.findIdx? (·.1)=none)
  (h:∀ h',Heap.ExtBut s.heap.objs.size s.heap h'→wpAny (model prog w) A (assignInOrder (targets.map (·.2)) items.toList) Q E { s with heap:=h' }) :
  wpAny (model prog w) A (unpack (.ref t) targets) Q E s:=by
 unfold unpack;exact rz (hn ..) <| rz (hstar ..) <| wpAny_bind (wpAny_holding (kun_itemsOf hh ht h))
theorem a_list{X:Xs}{elts:List Expr}{x1} {pos:Pos}{v:Value}{ds:Lp}{Q:Unit→Shared→Prop}(hh:A.handled=none) (S:St c X T s) (hT:(v,.list ds)∈T) (hn:(assignEach elts env).length=ds.length) (hstar:(assignEach elts env).findIdx? (·.1)=none)
  (h:∀ vs s',vs.length=ds.length→St c X (vs.zip ds++T) s'→wpAny (model prog w) A (assignInOrder ((assignEach elts env).map (·.2)) vs) Q E s'):wpAny (model prog w) A (assign (.Tuple elts x1 pos) env v) Q E s:=by
 obtain⟨a,vs,n,rfl,nb,h1,h2⟩:=(S.tmp _ hT).listObj;have e:vs.toList.length=ds.length:=h2.length;refine rz (arm_assign_Tuple ..) <| wpAny_bind (wpAny_standAt (unpack_list (items:=vs) hh ⟨_,h1,rfl,n,rfl⟩ (hn.trans e.symm) hstar fun h' hk=>h _ _ e (un_tuple (v:=.none) (a:=a) S h2 hk)))
end
section
variable{g:Pg}{N:Sn}{fr:Fr}{sc:Sc g N fr}{r:VR}{ih:RR}
noncomputable def putsL(l:List (Str × PyData))(σ:Sg):Sg:=l.foldl (fun σ p=>.put p.1 p.2 σ) σ
theorem vTup_el{d:PyData}{K:Lp→Prop}{P:PyData→Prop}(h:vTup d K)(f:∀ ds,K ds→P (.tuple ds)):P d:=by
 cases d with
 |tuple ds=>exact f ds h
 |_=>exact h.elim
noncomputable abbrev nmE(q:Str × Pos):Expr:=.Name q.1 q.2
theorem name_el{t:Expr}{P:Str→Prop}{G:Expr→Prop}(h:match t with | .Name x _=>P x | _=>False)(f:∀ q:Str × Pos,P q.1→G (nmE q)):G t:=by
 cases t with
 |Name x p=>exact f (x,p) h
 |_=>exact h.elim
theorem vNs_of:∀ {ts:List Expr}{ds:Lp}{σ:Sg}{K:Sg→Prop},vNs N ts ds σ K→∃ xs:List (Str × Pos),ts=xs.map nmE∧xs.length=ds.length∧(∀ q∈xs,ownB q.1 N.own=true)∧K (putsL ((xs.map (·.1)).zip ds) σ)
 |[],[],_,_,h=>⟨[],rfl,rfl,nofun,h⟩
 |[],_::_,_,_,h=>h.elim
 |_::_,[],_,_,h=>h.elim
 |t::ts,d::ds,σ,K,h=>name_el (G:=fun t=>∃ xs:List (Str × Pos),t::ts=xs.map nmE∧xs.length=ds.length+1∧(∀ q∈xs,ownB q.1 N.own=true)∧K (putsL ((xs.map (·.1)).zip (d::ds)) σ)) h fun q h=>tt_el h fun hb h=>by
  obtain⟨xs,rfl,h1,h2,h3⟩:=vNs_of h;exact⟨q::xs,rfl,congrArg (· + 1) h1,List.forall_mem_cons.mpr ⟨hb,h2⟩,h3⟩
theorem inv_puts:∀ {xs:List Str}{ds:Lp}{σ:Sg},(∀ x∈xs,ownB x N.own=true)→Inv N σ→Inv N (putsL (xs.zip ds) σ)
 |[],_,_,_,i=>i
 |_::_,[],_,_,i=>i
 |_::xs,_::ds,_,h,i=>inv_puts (xs:=xs) (ds:=ds) (fun x hx=>h x (.tail _ hx)) (i.put (h _ (.head _)))
theorem st_list{β:Type}(nm:β→Str)(F:β→Value→Sem Unit)(hF:∀ q v s (E:VP) (Q:Unit→Shared→Prop),wpAny (model g.prog g.w) sc.A (storeName sc.env (nm q) v) Q E s→wpAny (model g.prog g.w) sc.A (F q v) Q E s){Z:Xs}{T:Ts}{E:VP}{Q:Unit→Shared→Prop}(xs:List β):∀ (ds:Lp) (σ:Sg),(∀ q∈xs,ownB (nm q) N.own=true)→xs.length=ds.length→Inv N σ→∀ (vs:List Value) (s:Shared),vs.length=ds.length→St sc.c (full sc σ++Z) (vs.zip ds++T) s →
  (∀ s',St sc.c (full sc (putsL ((xs.map nm).zip ds) σ)++Z) T s'→Q () s')→wpAny (model g.prog g.w) sc.A (assignInOrder (xs.map F) vs) Q E s:=by
 induction xs with
 |nil=>exact fun V V V V V V V V S q=>ao_nil (q _ (S.drop fun V hy=>mem_append_right _ hy))
 |cons x xs ih =>
  intro ds σ h hl i vs s hv S q
  match ds,vs,hl,hv,S,q with
  |d::ds,v::vs,hl,hv,S,q =>
   exact ao_cons (hF _ _ _ _ _ (v_store (K:=fun σ1=>σ1=.put (nm x) d σ) (h _ (.head _)) rfl i v Z (vs.zip ds++T) s E _ S (elSU fun σ1 s1 i1 e S1=>ih ds _ (fun q hq=>h q (.tail _ hq)) (Nat.succ.inj hl) (i.put (h _ (.head _))) vs s1 (Nat.succ.inj hv) (e▸S1) q)))
theorem each_names{env:Env}:∀ xs:List (Str × Pos),assignEach (xs.map nmE) env=xs.map fun q=>(false,assign (nmE q) env)
 |[]=>rfl
 |_::xs=>congrArg _ (each_names xs)
theorem Fk{α:Type}:∀ xs:List α,∀ f:α→Value→Sem Unit,(xs.map fun t=>(false,f t)).findIdx? (·.1)=none∧(xs.map fun t=>(false,f t)).map (·.2)=xs.map f
 |[],_=>⟨rfl,rfl⟩
 |t::ts,f=>⟨by refine rz (map_cons ..) <| rz (List.findIdx?_cons ..) <| rz ((Fk ts f).1 ..) ?_;rfl,congrArg (f t::·) (Fk ts f).2⟩
theorem v_nsA{ts:List Expr}{ds:Lp}{σ:Sg}{K:Sg→Prop}(h:vNs N ts ds σ K)(i:Inv N σ):(assignEach ts sc.env).length=ds.length∧(assignEach ts sc.env).findIdx? (·.1)=none∧∀ (vs:List Value) (Z:Xs) (T:Ts) (y:Value × PyData) (s:Shared) (E:VP) (Q:Unit→Shared→Prop),vs.length=ds.length→St sc.c (full sc σ++Z) (vs.zip ds++y::T) s→(∀ X' s',liftU sc K X'→St sc.c (X'++Z) T s'→Q () s')→wpAny (model g.prog g.w) sc.A (assignInOrder ((assignEach ts sc.env).map (·.2)) vs) Q E s:=by
 obtain⟨xs,rfl,h1,h2,h3⟩:=vNs_of h;refine rz (each_names ..) <| rz (length_map ..) <| rz ((Fk xs _).2 ..) <| ⟨h1,(Fk xs _).1,fun vs Z T y s E Q hl S q=>st_list (·.1) _ (fun V V V V V=>a_name) xs ds σ h2 h1 i vs s hl (S.drop fun y hy=>(List.mem_append.mp hy).elim (mem_append_left _) fun hy=>mem_append_right _ (.tail _ hy)) fun s' S'=>q _ s' (goalU (inv_puts (fun x hx=>by obtain⟨q,hq,rfl⟩:=List.mem_map.mp hx;exact h2 q hq) i) h3) S'⟩
theorem v_tuple{ts:List Expr}{k:Nat}{p:Pos}{d:PyData}{σ:Sg}{K:Sg→Prop}(h:vTup d fun ds=>vNs N ts ds σ K):VU1 sc (assign (.Tuple ts k p) sc.env) d σ K:=fun iv v Z T s E Q=>by
 refine vTup_el (P:=fun d=>St sc.c (full sc σ++Z) ((v,d)::T) s→_) h fun ds h=>?_
 have H:=v_nsA (sc:=sc) h iv;exact fun S q=>a_tuple sc.oA.h S (.head _) H.1 H.2.1 fun vs s' hl S'=>H.2.2 vs Z T _ s' E Q hl S' q
theorem v_unlist{ts:List Expr}{k:Nat}{p:Pos}{ds:Lp}{σ:Sg}{K:Sg→Prop}(h:vNs N ts ds σ K):VU1 sc (assign (.Tuple ts k p) sc.env) (.list ds) σ K:=fun iv v Z T s E Q S q =>
 have H:=v_nsA (sc:=sc) h iv
 a_list sc.oA.h S (.head _) H.1 H.2.1 fun vs s' hl S'=>H.2.2 vs Z T _ s' E Q hl S' q
theorem full_look{σ σ':Sg}(h:∀ x,σ.vars.lookup x=σ'.vars.lookup x)(ho:σ.objs=σ'.objs):full sc σ=full sc σ':=by
 unfold full;have e1:Be N.own σ.vars=Be N.own σ'.vars:=by unfold Be;exact map_congr_left fun n V=>by exact rz (h ..) rfl
 have e2:Bm sc.L N.own σ.vars=Bm sc.L N.own σ'.vars:=by unfold Bm Cs;exact map_congr_left fun n V=>by exact rz (h ..) rfl
 refine rz (e1 ..) <| rz (e2 ..) <| rz (ho ..) rfl
theorem Fv:∀ (l:List (Str × PyData)) (σ:Sg),(putsL l σ).vars=l.reverse++σ.vars
 |[],_=>rfl
 |p::l,σ=>by refine rz (reverse_cons ..) <| rz (append_assoc ..) <| Fv l (.put p.1 p.2 σ)
theorem Fw:∀ (l:List (Str × PyData)) (σ:Sg),(putsL l σ).objs=σ.objs
 |[],_=>rfl
 |p::l,σ=>Fw l (.put p.1 p.2 σ)
theorem look_rev{z:Str}:∀ {l:List (Str × PyData)},(l.map (·.1)).Nodup→l.reverse.lookup z=l.lookup z
 |[],_=>rfl
 |p::l,h=>by
  obtain⟨h1,h2⟩:=List.nodup_cons.mp h;refine rz (reverse_cons ..) <| rz (lookup_append ..) <| rz (look_rev h2 ..) <| rz (lookup_cons ..) <| rz (lookup_cons ..) ?_
  cases e:z == p.1 with
  |false=>exact Option.or_none
  |true =>
   obtain rfl:=beq_iff_eq.mp e;refine rz (List.lookup_eq_none_iff.mpr fun q hq=>bne_iff_ne.mpr fun e=>h1 (List.mem_map.mpr ⟨q,hq,e.symm⟩) ..) ?_;rfl
theorem puts_rev{l:List (Str × PyData)}{σ:Sg}(h:(l.map (·.1)).Nodup):full sc (putsL l.reverse σ)=full sc (putsL l σ) :=
 full_look (fun z=>by refine rz (Fv ..) <| rz (Fv ..) <| rz (List.reverse_reverse ..) <| rz (lookup_append ..) <| rz (lookup_append ..) <| rz (look_rev h ..) rfl) ((Fw ..).trans (Fw ..).symm)
theorem nodup_names:∀ {xs:List (Str × Pos)},Ga (Ey (xs.map nmE))=true→(xs.map (·.1)).Nodup:=fun {xs} h=>by
 have e:∀ xs:List (Str × Pos),Ey (xs.map nmE)=xs.map (·.1):=fun xs=>by
  induction xs with
  |nil=>rfl
  |cons x xs ih=>exact congrArg (x.1::·) ih
 refine rz (Eq.symm (e ..)) <| D9 h
theorem sw_names{no:Nk}{xs:List (Str × Pos)}(h:(swNames (xs.map nmE) no).length=xs.length):swNames (xs.map nmE) no=xs.map (·.1):=by
 unfold swNames at h⊢
 generalize ((xs.map nmE).head?.map (·.pos.line)).getD 0=l at h⊢
 rw[List.filterMap_map] at h⊢
 induction xs with
 |nil=>rfl
 |cons x xs ih =>
  rw[filterMap_cons] at h⊢
  cases e:(swOne no l ∘ nmE) x with
  |none =>
   rw[e] at h;exact absurd (h▸List.length_filterMap_le _ xs) (Nat.not_succ_le_self _)
  |some y =>
   rw[e] at h;have e':(if (no.lookup x.1 == some .local&&x.2.line == l)=true then some x.1 else none)=some y:=e
   split at e'
   ·cases e';exact congrArg _ (ih (Nat.succ.inj h))
   ·cases e'
theorem v_tupled{ts vs:List Expr}{k k':Nat}{p p' pos:Pos}{rest:List Stmt}{σ:Sg}{J:Fl→Sg→Prop}(ok:VOk sc r)(hm:(Ga (Ey ts)&&vs.any madeE)=true)
  (h:r.E (.Tuple vs k' p') σ fun d σ=>vTup d fun ds=>vNs N ts ds σ fun σ=>r.S rest σ J):VS sc (.Assign [.Tuple ts k p] (.Tuple vs k' p') pos::rest) σ J:=fun iv Z T s E Q S q1 q2 q3 q4=>by
 obtain⟨hnd,hm⟩:=(Bool.and_eq_true _ _).mp hm;rcases sw_of (k:=k) (k':=k') (p:=p) (p':=p') (ts:=ts) (env:=sc.env) hm with hw | ⟨hw,hn⟩
 ·exact Fa (ok.E h iv Z T s E _ S (elS fun d σ1 v s1 i1 h1 S1=>v_tuple h1 i1 v Z T s1 E _ S1 (elSU fun σ2 s2 i2 h2 S2=>ok.S h2 i2 Z T s2 E Q S2 q1 q2 q3 q4))) rfl hw
 ·refine x_assignR (c:=sc.c) _ sc.oA.h (ok.E h iv Z T s E _ S (elS fun d σ1 v s1 i1 h1=>?_)) rfl hw
  refine vTup_el (P:=fun d=>St sc.c (full sc σ1++Z) ((v,d)::T) s1→_) h1 fun ds h1 S1=>?_
  obtain⟨xs,e,h1,h2,h3⟩:=vNs_of h1;rw[e] at hn hnd⊢
  rw[length_map] at hn;refine rz (sw_names hn ..) ?_
  have nd:=nodup_names hnd;have ho:∀ x∈xs.map (·.1),ownB x N.own=true:=fun x hx=>by obtain⟨q,hq,rfl⟩:=List.mem_map.mp hx;exact h2 q hq
  have hl:(xs.map (·.1)).length=ds.length:=(length_map _).trans h1
  generalize xs.map (·.1)=ns at nd ho hl h3⊢
  refine⟨_,_,ds,S1,.head _,hl.symm,fun us s2 hu S2=>?_⟩
  refine st_list (T:=T) id (bindName sc.env) (fun V V V V V=>bindName_) ns.reverse ds.reverse σ1 (fun x hx=>ho x (List.mem_reverse.mp hx)) (rz (length_reverse ..) <| rz (length_reverse ..) <| hl) i1 us.reverse s2 (rz (length_reverse ..) <| rz (length_reverse ..) <| hu) (S2.drop fun y hy=>?_) fun s3 S3=>?_
  ·rcases List.mem_append.mp hy with hy | hy
   ·refine mem_append_left _ (List.mem_reverse.mp ?_);refine rz (show(us.zip ds).reverse=us.reverse.zip ds.reverse from List.reverse_zipWith hu) <| hy
   ·exact mem_append_right _ (.tail _ hy)
  ·rw[map_id,show ns.reverse.zip ds.reverse=(ns.zip ds).reverse from(List.reverse_zipWith hl).symm,puts_rev (rz (List.map_fst_zip (le_of_eq hl) ..) <| nd)] at S3
   exact ok.S h3 (inv_puts ho i1) Z T s3 E Q S3 q1 q2 q3 q4
end
noncomputable def meStr:Me→Str | .append => "append" | .index => "index" | .count => "count" | .join => "join"
section
variable{g:Pg}{N:Sn}{fr:Fr}{sc:Sc g N fr}{r:VR}{ih:RR}
theorem Bt{e:Expr}{es:List Expr}(h:B3 (e::es)=true):Fe e=true∧B3 es=true:=(Bool.and_eq_true _ _).mp h
theorem noStars_all{env:Env}{pos:Pos}:∀ {es:List Expr},B3 es=true→(backTo pos (starEach es env)).all (fun x=>!x.1)=true
 |[],_=>rfl
 |e::es,h=>by
  obtain⟨h1,h2⟩:=Bt h;refine rz (Bn h1 ..) <| noStars_all (pos:=pos) (env:=env) h2
theorem few{env:Env}{pos:Pos}{es:List Expr}(h:B3 es=true)(hl:Nat.ble es.length 9=true):((backTo pos (starEach es env)).all (fun x=>!x.1)&&(backToKw pos (keywordEach [] env)).all (fun x=>x.1.isSome)&&decide (es.length+([]:List Keyword).length+(if ([]:List Keyword).isEmpty then 0 else 1)<30))=true:=by
 rw[noStars_all h,Bool.true_and,Bool.and_eq_true];refine⟨rfl,decide_eq_true ?_⟩;have:=le_of_ble_eq_true hl
 show es.length+0+0<30
 exact(ar [_] (.a (.a (.a Aa Al) Al) Ad) (.n 30) (.c 1 Aa (.n 9) .z) 0 rfl this)
theorem w_meth{prog:Program}{w:World}{A:Around}{c:Cx}{env:Env}{X:Xs}{K:PyData→Xs→Prop}{o e:Expr}{name:Str}{ap pos:Pos}(hb:noBase o=true)(he:Fe e=true)(hl:Nat.beq ap.endLine pos.line=true)
  (h:W0 prog w A c (eval o env) X fun a X1=>∃ id,(∀ Z T s v (pl:Sem Bool) (E:VP) (Q:Value × List Value→Shared→Prop),St c (X1++Z) ((v,a)::T) s→Q (.builtin id,[v]) s→wpAny (model prog w) A (getMethod v name pl) Q E s)∧W0 prog w A c (eval e env) X1 fun d X2=>W2 prog w A c (fun v u=>call (.builtin id) [v,u]) a d X2 K):W0 prog w A c (eval (.Call (.Attribute o name ap) [e] [] pos) env) X K:=fun Z T s E Q S q =>
 m_call (h Z T s E _ S fun a X1 v s1 ⟨id,hm,h1⟩ S1=>hm Z T s1 v _ E _ S1 (c_meth (C5 (h1 Z _ s1 E _ S1 fun d X2 u s2 h2 S2=>i_nil (h2 v u Z T s2 E Q S2 q)) (Bn he _ _)) (Bn he _ _) rfl)) (noBase_of hb _ _) (by refine rz (Bn he ..) ?_;rfl) (rz (eq_of_beq_eq_true hl ..) <| beq_self_eq_true _)
theorem Gu{name:Str}{id:String}(slot:Slot "list" name id)(hty:typeOf (.builtin id)=pure (.type "method_descriptor")){σ:Sg}{a:PyData}{ds:Lp}(ha:IsL σ a ds):∀ Z T s v (pl:Sem Bool) (E:VP) (Q:Value × List Value→Shared→Prop),St sc.c (full sc σ++Z) ((v,a)::T) s→Q (.builtin id,[v]) s→wpAny (model g.prog g.w) sc.A (getMethod v name pl) Q E s:=fun Z T s v pl E Q S q=>by
 obtain⟨b,vs,n,e,h1,_⟩:=rd_of ha S (.head _);exact g_listm slot hty ⟨b,vs,n,e,h1⟩ q
theorem got_str{name:Str}{id:String}(slot:Slot "str" name id)(hty:typeOf (.builtin id)=pure (.type "method_descriptor")){X:Xs}{x:Str}:∀ Z T s v (pl:Sem Bool) (E:VP) (Q:Value × List Value→Shared→Prop),St sc.c (X++Z) ((v,.str x)::T) s→Q (.builtin id,[v]) s→wpAny (model g.prog g.w) sc.A (getMethod v name pl) Q E s:=fun Z T s v pl E Q S q=>by
 obtain⟨t,rfl⟩:=B5 (S.rp (.head _));exact g_strm slot hty q
theorem me_name{name:Str}{f:Me}(h:findS name meTab=some f):name=meStr f:=by
 have:=Bf h;unfold meTab at this;simp only[mem_cons,Prod.mk.injEq,not_mem_nil,or_false] at this
 rcases this with ⟨rfl,rfl⟩ | ⟨rfl,rfl⟩ | ⟨rfl,rfl⟩ | ⟨rfl,rfl⟩<;>rfl
theorem v_app{a d:PyData}{σ:Sg}{K:KV}(h:LApp a d σ K):V2 sc (fun v u=>call (.builtin "list.append") [v,u]) a d σ K:=fun iv v u Z T s E Q S q=>by
 obtain⟨x,ds,j,rfl,hX,hz,h⟩:=h;obtain rfl:=By (S.rp (.tail _ (.head _)));exact r_append S (S.rp (.head _)) (Dm hX).left hz fun s' S'=>q _ _ _ _ (goal (σ:=.upd j _ σ) iv h) (S'.pop.pop.push .none)
theorem mres_ok{σ:Sg}{x f:Addr}{name:Str}(h:MRes σ x name f):keepIn sc.c.K (.ref f)=true∧∀ Z T s (pl:Sem Bool) (E:VP) (Q:Value × List Value→Shared→Prop),St sc.c (full sc σ++Z) T s→Q (.ref f,[.ref x]) s→wpAny (model g.prog g.w) sc.A (getMethod (.ref x) name pl) Q E s:=by
 have H:KOk sc.c.K:=sc.hK▸g.H;have keep:∀ {fd:FuncData}(j:Nat),Bz[j]?=some (f,fd)→keepIn sc.c.K (.ref f)=true:=fun j hj=>H.keep (List.mem_of_getElem? hj)
 have one:∀ {ms:Ce},findS name ms=some f→(∀ p∈ms,∃ (j:Nat) (fd:FuncData),Bz[j]?=some (p.2,fd))→keepIn sc.c.K (.ref f)=true:=fun hm hms=>by
  obtain⟨j,fd,hj⟩:=hms _ (Bf hm);exact keep j hj
 cases h with
 |ws dx ρ i j hi hd hm hk =>
  refine⟨one hm ?_,fun Z T s pl E Q S q=>g_wsm H S (mem_append_left _ (Bq hi)) (mem_append_left _ (Bq hd)) (Bf hm) hk q⟩
  unfold wsMs;simp only[forall_mem_cons];exact⟨⟨26,_,rfl⟩,⟨27,_,rfl⟩,⟨28,_,rfl⟩,⟨29,_,rfl⟩,fun V h=>nomatch h⟩
 |net dx ρ i j hi hd hm hk =>
  refine⟨one hm ?_,fun Z T s pl E Q S q=>g_netm H S (mem_append_left _ (Bq hi)) (mem_append_left _ (Bq hd)) (Bf hm) hk q⟩
  unfold netMs;simp only[forall_mem_cons];exact⟨⟨22,_,rfl⟩,⟨23,_,rfl⟩,⟨24,_,rfl⟩,⟨25,_,rfl⟩,fun V h=>nomatch h⟩
 |acc dx ρ ds i j hi hd hm hk =>
  refine⟨one hm ?_,fun Z T s pl E Q S q=>g_accm H S (mem_append_left _ (Bq hi)) (mem_append_left _ (Bq hd)) (Bf hm) hk q⟩
  unfold accMs;simp only[forall_mem_cons];exact⟨⟨17,_,rfl⟩,⟨18,_,rfl⟩,⟨19,_,rfl⟩,⟨20,_,rfl⟩,⟨21,_,rfl⟩,fun V h=>nomatch h⟩
theorem v_pop{x:Addr}{ps:Lp}{σ:Sg}{K:KV}(h:LPop x ps σ K)(iv:Inv N σ)(vs:List Value)(Z:Xs)(T:Ts)(s:Shared)(E Q:VP)(hl:vs.length=ps.length)(S:St sc.c (full sc σ++Z) (vs.zip ps++T) s)(q:∀ d X' v s',liftA sc K d X'→St sc.c (X'++Z) ((v,d)::T) s'→Q v s'):wpAny (model g.prog g.w) sc.A (call (.builtin "list.pop") (.ref x::vs)) Q E s:=by
 obtain⟨i,k,d,ds,j,rfl,hX,hf,hk,hd,hz,h⟩:=h;obtain⟨v,rfl⟩:=len1 hl;obtain⟨t,rfl⟩:=B9 (S.rp (.head _));exact r_popat S (Dm hX).left hf hk hd hz fun v s' S'=>q _ _ _ _ (goal (σ:=.upd j _ σ) iv h) (S'.drop (Cp sub1))
theorem v_mtd{o:Expr}{es:List Expr}{name:Str}{ap pos:Pos}{σ:Sg}{K:KV}(ok:VOk sc r)(hs:B3 es=true)(hb:noBase o=true)(hl:Nat.beq ap.endLine pos.line=true)(hn:Nat.ble es.length 9=true)(h:r.E o σ fun a σ=>LMtd g N.lvl r name pos es a σ K):V0 sc (eval (.Call (.Attribute o name ap) es [] pos) sc.env) σ K:=fun iv Z T s E Q S q=>by
 refine m_call (ok.E h iv Z T s E _ S ?_) (noBase_of hb _ _) (few hs hn) (rz (eq_of_beq_eq_true hl ..) <| beq_self_eq_true _)
 refine elS fun a σ1 v s1 i1 h1 S1=>?_
 cases h1 with
 |fn0 x f ha hes hm h1 =>
  subst ha hes;obtain rfl:=By (S1.rp (.head _));obtain⟨hk,hg⟩:=mres_ok (sc:=sc) hm;exact hg Z _ s1 _ E _ S1 (c_first0 S1 hk (v_fn h1 i1 [.ref x] Z T s1 E Q rfl S1 q))
 |fn x f e es' ha hes hm h1 =>
  subst ha hes;obtain rfl:=By (S1.rp (.head _));obtain⟨hk,hg⟩:=mres_ok (sc:=sc) hm;refine hg Z _ s1 _ E _ S1 ?_;have fin:∀ ds σ2 vs s2,Inv N σ2→LFn g N.lvl (Rf x::ds) σ2 K (.ref f)→vs.length=ds.length→St sc.c (full sc σ2++Z) (vs.zip ds++((.ref x,Rf x)::T)) s2→wpAny (model g.prog g.w) sc.A (call (.ref f) (.ref x::vs)) Q E s2:=fun ds σ2 vs s2 i2 h2 hl S2 =>
   v_fn h2 i2 (.ref x::vs) Z T s2 E Q (by simp[hl]) (S2.drop (by
    intro y hy;rw[zip_cons_cons] at hy;rcases List.mem_cons.mp hy with rfl | hy
    ·exact mem_append_right _ (.head _)
    ·rcases List.mem_append.mp hy with hy | hy
     ·exact mem_append_left _ hy
     ·exact mem_append_right _ (.tail _ hy))) q
  have post:∀ ds X' vs s2,liftA sc (fun ds σ=>LFn g N.lvl (Rf x::ds) σ K (.ref f)) ds X'→vs.length=ds.length→St sc.c (X'++Z) (vs.zip ds++((.ref x,Rf x)::T)) s2→(∃ X T,St sc.c X T s2)∧wpAny (model g.prog g.w) sc.A (call (.ref f) (.ref x::vs)) Q E s2:=by
   refine elL fun ds σ2 vs s2 i2 h2 hl S2=>?_
   exact⟨⟨_,_,S2⟩,fin ds σ2 vs s2 i2 h2 hl S2⟩
  obtain⟨h3,h4⟩:=Bt hs;exact c_first S1 hk (ok.L h1 i1 Z _ s1 E _ S1 post) (Bn h3 _ _) (Cd h4)
 |fattr x D f fd fd' ρ i j k e es' ha hi hd hf hnm hn hes h1 =>
  subst ha hes;obtain rfl:=D2 hnm;obtain rfl:=By (S1.rp (.head _));have inX:∀ {p:Addr × Knd}{m:Nat},σ1.objs[m]?=some p→p∈full sc σ1++Z:=fun h=>mem_append_left _ (Bq h)
  refine f_meth S1 (inX hi) (inX hd) (Bf hn) fn_no_read fun v s2 S2=>?_
  obtain rfl:=By (S2.rp (.head _));obtain⟨h3,h4⟩:=Bt hs;refine c_dyn S2 (inX hf) (ok.L h1 i1 Z T s2 E _ S2.pop.pop ?_) (Bn h3 _ _) (Cd h4);refine elL fun ds σ2 vs s3 i2 hq hl S3=>?_
  obtain⟨h5,h2⟩:=hq;exact⟨S3.fnAt (mem_append_left _ (Bq h5)),v_fn h2 i2 vs Z T s3 E Q hl S3 q⟩
 |popAt x ds j e es' ha hX hnm hes h1 =>
  subst ha hes;obtain rfl:=D2 hnm;refine Gu PySem.F.slot_list_pop PySem.F.type_list_pop (σ:=σ1) (.inr ⟨x,j,rfl,hX⟩) Z T s1 v _ E _ S1 ?_;obtain rfl:=By (S1.rp (.head _));obtain⟨h3,h4⟩:=Bt hs;refine c_meth (ok.L h1 i1 Z T s1 E _ S1.pop ?_) (Bn h3 _ _) (Cd h4);refine elL fun ps σ2 vs s2 i2 h2 hl S2=>?_
  exact v_pop h2 i2 vs Z T s2 E Q hl S2 q
theorem v_callm{o:Expr}{es:List Expr}{name:Str}{ap pos:Pos}{σ:Sg}{K:KV}(ok:VOk sc r)(h:vCallM g N r o name ap es pos σ K (rawE g N fr (.Call (.Attribute o name ap) es [] pos) σ K)):V0 sc (eval (.Call (.Attribute o name ap) es [] pos) sc.env) σ K:=by
 unfold vCallM at h;cases hc:B3 es&&noBase o&&Nat.beq ap.endLine pos.line&&Nat.ble es.length 9 with
 |false=>rw[hc] at h;exact h sc
 |true =>
 rw[hc] at h;simp only[Bool.and_eq_true] at hc
 obtain⟨⟨⟨hs,hb⟩,hl⟩,hn⟩:=hc;cases hf:findS name meTab with
 |none=>rw[hf] at h;exact v_mtd ok hs hb hl hn h
 |some f =>
 rw[hf] at h;cases es with
 |nil=>exact h sc
 |cons e es =>
 cases es with
 |cons _ _=>exact h sc
 |nil =>
 have he:Fe e=true:=(Bt hs).1;have hname:=me_name hf;have h:r.E o σ fun a σ=>vMe r f e a σ K:=h
 intro iv;refine w_meth hb he hl (W0.mono (ok.E h iv) ?_);refine elA fun a σ1 i1 h1=>?_
 cases f with
 |append =>
  have hname:name=Str.ofString "append" := hname;subst hname;obtain⟨ds,ha,h1⟩:=Bw h1;refine⟨_,Gu PySem.F.slot_list_append PySem.F.type_list_append ha,W0.mono (ok.E h1 i1) ?_⟩;refine elA fun d σ2 i2 h2=>?_
  exact v_app h2 i2
 |index =>
  have hname:name=Str.ofString "index" := hname;subst hname;obtain⟨ds,rfl,h1⟩:=Dh h1;refine⟨_,Gu PySem.F.slot_list_index PySem.F.type_list_index (σ:=σ1) (.inl rfl),W0.mono (ok.E h1 i1) ?_⟩;refine elA fun d σ2 i2 h2=>?_
  obtain⟨ys,k,j,rfl,rfl,hj,hno,hz,h2⟩:=h2;intro v u Z T s E Q S q;obtain⟨t,rfl⟩:=B5 (S.rp (.head _));exact r_indexstr S (S.rdT (.tail _ (.head _))) hj hno hz fun t s' S'=>q _ _ _ _ (goal i2 h2) (S'.pop.pop.push (.int _ _))
 |count =>
  have hname:name=Str.ofString "count" := hname;subst hname;have lists:(Dz a fun xs=>r.E e σ1 fun d σ=>vInt d fun k=>LInts xs fun ns=>K (.int (ns.count k:Nat)) σ)→∃ id,(∀ Z T s v (pl:Sem Bool) (E:VP) (Q:Value × List Value→Shared→Prop),St sc.c (full sc σ1++Z) ((v,a)::T) s→Q (.builtin id,[v]) s→wpAny (model g.prog g.w) sc.A (getMethod v (Str.ofString "count") pl) Q E s)∧W0 g.prog g.w sc.A sc.c (eval e sc.env) (full sc σ1) fun d X2=>W2 g.prog g.w sc.A sc.c (fun v u=>call (.builtin id) [v,u]) a d X2 (liftA sc K):=fun h1=>by
   obtain⟨ds,rfl,h1⟩:=Dh h1;refine⟨_,Gu PySem.F.slot_list_count PySem.F.type_list_count (σ:=σ1) (.inl rfl),W0.mono (ok.E h1 i1) ?_⟩;refine elA fun d σ2 i2 h2=>?_
   obtain⟨k,rfl,⟨ns,rfl,h3⟩⟩:=Bg h2;intro v u Z T s E Q S q;obtain⟨t,rfl⟩:=B9 (S.rp (.head _));exact r_countint S (S.rdT (.tail _ (.head _))) fun t s' S'=>q _ _ _ _ (goal i2 h3) (S'.pop.pop.push (.int _ _))
  cases a with
  |str x =>
   have h1:r.E e σ1 fun d σ=>vStr d fun y=>K (.int (Txt.count x y)) σ:=h1
   refine⟨_,got_str PySem.F.slot_str_count PySem.F.type_str_count,W0.mono (ok.E h1 i1) ?_⟩;refine elA fun d σ2 i2 h2=>?_
   obtain⟨y,rfl,h2⟩:=Ev h2;intro v u Z T s E Q S q;obtain⟨t,rfl⟩:=B5 (S.rp (.head _));obtain⟨t',rfl⟩:=B5 (S.rp (.tail _ (.head _)));exact r_count S fun t s' S'=>q _ _ _ _ (goal i2 h2) (S'.pop.pop.push (.int _ _))
  |_=>exact lists h1
 |join =>
  have hname:name=Str.ofString "join" := hname;subst hname;obtain⟨x,rfl,h1⟩:=Ev h1;refine⟨_,got_str PySem.F.slot_str_join PySem.F.type_str_join,W0.mono (ok.E h1 i1) ?_⟩;refine elA fun d σ2 i2 h2=>?_
  intro v u Z T s E Q S q;have lists:(vLst d σ2 fun ys=>LStrs ys fun ss=>LC ((ss.map (·.length)).sum+ss.length*x.length≤16777216) K (.str (Txt.join x ss)) σ2)→wpAny (model g.prog g.w) sc.A (call (.builtin "str.join") [v,u]) Q E s:=fun h2=>by
   obtain⟨ys,hb,⟨ss,rfl,hz,h3⟩⟩:=Bw h2;have R:=rd_of hb S (.head _);obtain⟨t,rfl⟩:=B5 (S.rp (.tail _ (.head _)));exact r_join S R hz fun t s' S'=>q _ _ _ _ (goal i2 h3) (S'.pop.pop.push (.str _ _))
  cases d with
  |tuple ys =>
   obtain⟨ss,rfl,hz,h3⟩:=h2;obtain⟨a,vs,n,rfl,_,h5,h6⟩:=(S.tmp _ (.head _)).tupleObj;obtain⟨t,rfl⟩:=B5 (S.rp (.tail _ (.head _)));exact r_joinT S ⟨a,vs,n,rfl,h5,h6⟩ hz fun t s' S'=>q _ _ _ _ (goal i2 h3) (S'.pop.pop.push (.str _ _))
  |_=>exact lists h2
theorem Fz{x:Str}(h:gloB x N.own=true):(x,NameKind.globalImplicit)∈sc.names∧(x == ("__debug__" : Str))=false:=by
 obtain⟨h1,h2⟩:=gloB_of h;exact⟨sc.hn _ _ h1 (by decide),h2⟩
theorem v_calln{x:Str}{p:Pos}{e:Expr}{es:List Expr}{pos:Pos}{σ:Sg}{K:KV}(ok:VOk sc r)(h:vCallN g N r x e es pos σ K (rawE g N fr (.Call (.Name x p) (e::es) [] pos) σ K)):V0 sc (eval (.Call (.Name x p) (e::es) [] pos) sc.env) σ K:=by
 unfold vCallN at h;cases h1:B3 (e::es) with
 |false=>rw[h1] at h;exact h sc
 |true =>
 cases h2:gloB x N.own with
 |false=>rw[h1,h2] at h;exact h sc
 |true =>
 rw[h1,h2] at h;obtain⟨hn,hd⟩:=Fz (sc:=sc) h2
 obtain⟨h3,h4⟩:=Bt h1;cases h5:findS x biTab with
 |some f =>
  rw[h5] at h;have h:r.L pos (e::es) σ fun ds σ=>vBi g N.lvl f ds σ K:=h
  intro iv;refine w_callval sc.hE hn (sc.hK▸bi_in g.H (Bf h5)) (WL.mono (ok.L h iv) ?_) (Bn h3 _ _) (Cd h4) hd;refine elA fun ds σ1 i1 h=>?_
  exact v_bi h i1
 |none =>
  rw[h5] at h;cases h6:findS x fnTab with
  |none=>rw[h6] at h;exact h sc
  |some f =>
   rw[h6] at h;have h:r.L pos (e::es) σ fun ds σ=>LFn g N.lvl ds σ K (.ref f):=h
   intro iv;have hk:=sc.hK▸fn_in g.H (Bf h6);refine w_callref sc.hE hn hk.1 hk.2 (WL.mono (ok.L h iv) ?_) (Bn h3 _ _) (Cd h4) hd;refine elA fun ds σ1 i1 h=>?_
   exact v_fn h i1
theorem v_call0{x:Str}{p:Pos}{pos:Pos}{σ:Sg}{K:KV}(h:vCall0 g N x σ K (rawE g N fr (.Call (.Name x p) [] [] pos) σ K)):V0 sc (eval (.Call (.Name x p) [] [] pos) sc.env) σ K:=by
 unfold vCall0 at h;cases h2:gloB x N.own with
 |false=>rw[h2] at h;exact h sc
 |true =>
 rw[h2] at h;obtain⟨hn,hd⟩:=Fz (sc:=sc) h2
 cases h6:findS x fnTab with
 |none=>rw[h6] at h;exact h sc
 |some f =>
  rw[h6] at h;intro iv Z T s E Q S q
  have hk:=sc.hK▸fn_in g.H (Bf h6);exact r_call (r_glob S sc.hE hn hk.1 (c_ref0 S hk.2 (v_fn h iv [] Z T s E Q rfl S q)) hd)
theorem v_cmpr{l:Expr}{ops:List CmpOp}{rs:List Expr}{p:Pos}{σ:Sg}{K:KV}(ok:VOk sc r)(h:Gg r l ops rs σ K):∃ op e,ops=[op]∧rs=[e]∧behindInMarks op e=false∧V0 sc (eval l sc.env) σ fun a σ=>V0 sc (eval e sc.env) σ fun b σ=>V2 sc (compareOp op) a b σ K:=by
 cases ops with
 |nil=>exact h.elim
 |cons op ops =>
 cases ops with
 |cons _ _=>exact h.elim
 |nil =>
 cases rs with
 |nil=>exact h.elim
 |cons e rs =>
 cases rs with
 |cons _ _=>cases e with
  |List es p=>cases es<;>exact h.elim
  |_=>exact h.elim
 |nil =>
 have two:noSet e=true→(r.E l σ fun a σ=>r.E e σ fun b σ=>vCmp op a b σ K)→V0 sc (eval l sc.env) σ fun a σ=>V0 sc (eval e sc.env) σ fun b σ=>V2 sc (compareOp op) a b σ K:=fun V h iv=>W0.mono (ok.E h iv) (by
  refine elA fun a σ1 i1 h1=>?_
  refine⟨σ1,rfl,i1,fun i1=>W0.mono (ok.E h1 i1) ?_⟩
  refine elA fun b σ2 i2 h2=>?_
  exact⟨σ2,rfl,i2,v_cmp h2⟩)
 have gen:(match noSet e with | true=>r.E l σ fun a σ=>r.E e σ fun b σ=>vCmp op a b σ K | false=>False)→noSet e=true∧V0 sc (eval l sc.env) σ fun a σ=>V0 sc (eval e sc.env) σ fun b σ=>V2 sc (compareOp op) a b σ K:=fun h=>by
  refine tt_el h fun hs h=>?_
  exact⟨hs,two hs h⟩
 suffices hh:noSet e=true∧V0 sc (eval l sc.env) σ fun a σ=>V0 sc (eval e sc.env) σ fun b σ=>V2 sc (compareOp op) a b σ K from⟨op,e,rfl,rfl,marks_of hh.1 op,hh.2⟩
 cases e with
 |List es p=>cases es with
  |nil =>
   have h:r.E l σ fun a σ=>vCmp op a (.list []) σ K:=h
   refine⟨rfl,fun iv=>W0.mono (ok.E h iv) ?_⟩
   refine elA fun a σ1 i1 h1=>?_
   refine⟨σ1,rfl,i1,fun i1=>w_listF (wl_nil ⟨zero_le _,?_⟩)⟩
   exact⟨σ1,rfl,i1,v_cmp h1⟩
  |cons _ _=>exact gen h
 |_=>exact gen h
theorem liftV0{m:Sem Value}{σ:Sg}{K K':KV}{X:PyData→Xs→Prop}(h:V0 sc m σ K)(i:Inv N σ)(k:∀ d σ',Inv N σ'→K d σ'→X d (full sc σ')):W0 g.prog g.w sc.A sc.c m (full sc σ) X:=W0.mono (h i) (by
 rintro d Y ⟨σ',rfl,i',h'⟩;exact k d σ' i' h')
theorem v_compare{l:Expr}{ops:List CmpOp}{rs:List Expr}{p:Pos}{σ:Sg}{K:KV}(ok:VOk sc r)(h:Gg r l ops rs σ K):V0 sc (eval (.Compare l ops rs p) sc.env) σ K:=by
 obtain⟨op,e,rfl,rfl,hm,h⟩:=v_cmpr (p:=p) ok h;exact fun iv=>w_cmp (liftV0 (K':=K) h iv fun a σ1 i1 h1=>liftV0 (K':=K) h1 i1 fun b σ2 i2 h2=>h2 i2) hm
theorem v_compareT{l:Expr}{ops:List CmpOp}{rs:List Expr}{p:Pos}{σ:Sg}{K:Bool→Sg→Prop}(ok:VOk sc r)(h:vCompareT r l ops rs σ K):VT sc (.Compare l ops rs p) σ K:=by
 obtain⟨op,e,rfl,rfl,hm,h⟩:=v_cmpr (p:=p) ok h;refine fun iv=>wt_cmp (liftV0 (K':=fun V V=>True) h iv fun a σ1 i1 h1=>liftV0 (K':=fun V V=>True) h1 i1 fun b σ2 i2 h2=>W2.mono (h2 i2) ?_) hm
 refine elA fun d σ3 i3 h3=>?_
 obtain⟨z,rfl,h3⟩:=Gh h3;exact⟨z,rfl,goal i3 h3⟩
theorem v_slice{a:PyData}{l h t:Option Int}{σ:Sg}{K:KV}{o:Expr}{lo hi st:Option Expr}{p:Pos}(iv:Inv N σ)(hh:vSlice a l h t σ K){v vl vh vt:Value}{Z:Xs}{T:Ts}{s:Shared}{E:VP}{Q:VP}(S:St sc.c (full sc σ++Z) T s)(hv:(v,a)∈T)(pl:IsPart vl l)(ph:IsPart vh h)(pt:IsPart vt t)(hst:st=none→t=none)
  (q:∀ d X' v s',liftA sc K d X'→St sc.c (X'++Z) ((v,d)::T) s'→Q v s'):wpAny (model g.prog g.w) sc.A (subscriptTail o (.Slice lo hi st p) v (.ref s.heap.objs.size)) Q E { s with heap:=s.heap.push { cls:=.type "slice",data:=.fields #[vl,vh,vt] } }:=by
 have hs:∀ w u:Value,∃ ops,subscripted (.Slice lo hi st p) false w u=operate ops (getItem w u):=fun w u=>by cases st<;>exact⟨_,rfl⟩
 have lists:(vLst a σ fun ds=>(t≠some 0∧ds.length≤sizeLine)∧LOwn (pick ds l h t) σ K)→wpAny (model g.prog g.w) sc.A (subscriptTail o (.Slice lo hi st p) v (.ref s.heap.objs.size)) Q E { s with heap:=s.heap.push { cls:=.type "slice",data:=.fields #[vl,vh,vt] } }:=fun hh=>by
  obtain⟨ds,ha,⟨h0,hz⟩,hh⟩:=Bw hh;cases st with
  |none=>exact r_lslice (ops:=fun a=>[_,a]) S (rd_of ha S hv) pl ph pt h0 hz (fun a' s' S'=>C3 iv hh S' q) fun a=>rfl
  |some e=>exact r_lslice (ops:=fun a=>[a,_]) S (rd_of ha S hv) pl ph pt h0 hz (fun a' s' S'=>C3 iv hh S' q) fun a=>rfl
 cases a with
 |str x =>
  cases t with
  |some _=>exact hh.elim
  |none =>
   cases pt;obtain⟨hz,hh⟩:=hh;have r0:=S.tmp _ hv;obtain⟨tk,rfl⟩:=B5 r0;have e:tx x.cps.toList=x:=tx_eta x;obtain⟨lo',rfl,rfl⟩:∃ lo':Option (Int × Tok),vl=partValue lo'∧l=lo'.map (·.1):=by cases pl with | none=>exact⟨none,rfl,rfl⟩ | int i t=>exact⟨some (i,t),rfl,rfl⟩
   obtain⟨hi',rfl,rfl⟩:∃ lo':Option (Int × Tok),vh=partValue lo'∧h=lo'.map (·.1):=by cases ph with | none=>exact⟨none,rfl,rfl⟩ | int i t=>exact⟨some (i,t),rfl,rfl⟩
   obtain⟨ops,ho⟩:=hs (.str x tk) (.ref s.heap.objs.size);have key:=r_sslice (value:=o) (slice:=.Slice lo hi st p) (l:=x.cps.toList) (t:=tk) (lo:=lo') (hi:=hi') (ops:=ops) (E:=E) (Q:=Q) (prog:=g.prog) (w:=g.w) (A:=sc.A) S hz (fun t s' S'=>q _ _ _ _ (goal iv hh) (S'.push (.str _ _))) (rz (e ..) <| ho)
   rw[e] at key;exact key
 |_=>exact lists hh
theorem v_part{e:Option Expr}{σ:Sg}{K:Option Int→Sg→Prop}(ok:VOk sc r)(h:vPart r e σ K)(iv:Inv N σ){Z:Xs}{T:Ts}{s:Shared}{E:VP}{Q:VP}(S:St sc.c (full sc σ++Z) T s)(q:∀ i σ' v s',(e=none→i=none)→K i σ'→Inv N σ'→IsPart v i→St sc.c (full sc σ'++Z) T s'→Q v s'):wpAny (model g.prog g.w) sc.A (evalPart e sc.env) Q E s:=by
 cases e with
 |none=>exact p_none (q none σ _ s (fun V=>rfl) h iv .none S)
 |some e =>
  refine p_some (ok.E h iv Z T s E _ S ?_);refine elS fun d σ1 v s1 i1 h1 S1=>?_
  obtain⟨i,rfl,h1⟩:=Bg h1;obtain⟨t,rfl⟩:=B9 (S1.rp (.head _));exact q (some i) σ1 _ s1 (fun e=>nomatch e) h1 i1 (.int _ _) S1.pop
theorem v_subscript{o i:Expr}{p:Pos}{σ:Sg}{K:KV}(ok:VOk sc r)(h:vSubscript r o i σ K):V0 sc (eval (.Subscript o i p) sc.env) σ K:=by
 have plain:plainE i=true→(r.E o σ fun a σ=>r.E i σ fun b σ=>vSubs a b σ K)→V0 sc (eval (.Subscript o i p) sc.env) σ K:=fun hp h iv=>by
  refine w_subs (W0.mono (ok.E h iv) ?_);refine elA fun a σ1 i1 h1=>?_
  refine W0.mono (ok.E h1 i1) ?_;refine elA fun b σ2 i2 h2=>?_
  exact v_subs hp h2 i2
 cases i with
 |Slice lo hi st p' =>
  have h:r.E o σ fun a σ=>vPart r lo σ fun l σ=>vPart r hi σ fun h σ=>vPart r st σ fun t σ=>vSlice a l h t σ K:=h
  intro iv Z T s E Q S q;refine r_subs (ok.E h iv Z T s E _ S ?_);refine elS fun a σ1 v s1 i1 h1 S1=>?_
  refine r_slice (v_part ok h1 i1 S1 fun l σ2 vl s2 V h2 i2 pl S2=>v_part ok h2 i2 S2 fun hh σ3 vh s3 V h3 i3 ph S3=>v_part ok h3 i3 S3 fun t σ4 vt s4 ht h4 i4 pt S4=>?_)
  exact v_slice i4 h4 S4 (.head _) pl ph pt ht (F7 sub1 q)
 |_=>exact plain rfl h
theorem vcomp_or{elt:Expr}{gens:List Comprehension}{sco:Scope}{σ:Sg}{K:KV}{rw:Prop}(h:vComp N fr ih r elt gens sco σ K rw):(∃ tg it ifs,gens=[⟨tg,it,ifs,0⟩]∧(noSet it&&scoOk N.own sco)=true∧r.I it tg σ fun ds σ=>LComp (ih ⟨sco.names,N.lvl⟩ (frOf fr σ sco.names)) elt tg ifs ds σ K)∨rw:=by
 rcases oneL_of h with ⟨⟨tg,it,ifs,z⟩,rfl,h2⟩ | h2
 ·cases hs:intZ z&&(noSet it&&scoOk N.own sco) with
  |false=>replace h2:match intZ z&&(noSet it&&scoOk N.own sco) with | true=>r.I it tg σ fun ds σ=>LComp (ih ⟨sco.names,N.lvl⟩ (frOf fr σ sco.names)) elt tg ifs ds σ K | false=>rw:=h2;rw[hs] at h2;exact .inr h2
  |true =>
   replace h2:match intZ z&&(noSet it&&scoOk N.own sco) with | true=>r.I it tg σ fun ds σ=>LComp (ih ⟨sco.names,N.lvl⟩ (frOf fr σ sco.names)) elt tg ifs ds σ K | false=>rw:=h2
   rw[hs] at h2;have hs:=(Bool.and_eq_true _ _).mp hs
   exact .inl ⟨tg,it,ifs,by exact rz (intZ_of hs.1 ..) rfl,hs.2,h2⟩
 ·exact .inr h2
theorem vcomp_ok{elt:Expr}{gens:List Comprehension}{sco:Scope}{p:Pos}{σ:Sg}{K:KV}(ok:VOk sc r)(okR:ROk g ih)(h:vComp N fr ih r elt gens sco σ K (rawE g N fr (.ListComp elt gens sco p) σ K)):V0 sc (eval (.ListComp elt gens sco p) sc.env) σ K:=by
 rcases vcomp_or h with ⟨tg,it,ifs,rfl,hs,h⟩ | h
 ·exact v_comp ok okR hs h
 ·exact h sc
theorem e_and{x y:Expr}{rest:List Expr}{pos:Pos}{prog:Program}{w:World}{A:Around}{env:Env}{s:Shared}{E:VP}{Q:VP}
  (h:wpAny (model prog w) A (eval x env) (fun v s₁=>wpAny (model prog w) A (truthy v) (fun t s₂=>if t then wpAny (model prog w) A (eval (.BoolOp .And (y::rest) pos) env) Q E s₂ else Q v s₂) E s₁) E s) :
  wpAny (model prog w) A (eval (.BoolOp .And (x::y::rest) pos) env) Q E s:=by
 show wpAny (model prog w) A (do
  let v ← eval x env
  standAt pos
  let t ← holding [v] (truthy v)
  match BoolOp.And,t with
  |.And,false | .Or,true=>pure v
  |_,_=>boolOp pos .And (eval y env::evalEach rest env)) Q E s
 refine wpAny_bind (wpAny_mono h (fun v s₁ h₁=>wpAny_bind (wpAny_standAt (wpAny_bind (wpAny_holding (wpAny_mono h₁ (fun t s₂ h₂=>?_) fun V V x=>x))))) fun V V x=>x)
 cases t with
 |false=>exact wpAny_pure h₂
 |true=>exact h₂
theorem v_andv(ok:VOk sc r){p:Pos}:∀ (vs:List Expr) {σ:Sg}{K:KV},vAndV r vs σ K→V0 sc (eval (.BoolOp .And vs p) sc.env) σ K
 |[],_,_,h=>h.elim
 |[x],σ,K,h=>ok.E (e:=x) h
 |x::y::rest,σ,K,h=>fun iv Z T s E Q S q=>by
  have h:r.E x σ fun d σ=>vBool d fun b=>LIf b (vAndV r (y::rest) σ K) (K (.bool false) σ):=h
  refine e_and (ok.E h iv Z T s E _ S ?_);refine elS fun d σ1 v s1 i1 h1 S1=>?_
  obtain⟨b,rfl,⟨h2,h3⟩⟩:=Gh h1;obtain rfl:=bool_of (S1.rp (.head _));refine t_bool ?_;cases b with
  |true=>exact v_andv ok (y::rest) (h2 rfl) i1 Z T s1 E Q S1.pop q
  |false=>exact q _ _ _ _ (goal i1 (h3 rfl)) S1
theorem any_mem{x:Str}{l:List Str}(h:l.any (sEq x)=true):x∈l:=by
 obtain⟨y,hy,e⟩:=List.any_eq_true.mp h;refine rz (D2 e ..) <| hy
theorem v_attr{name:Str}{a:PyData}{σ:Sg}{K:KV}(h:LAttr name a σ K)(iv:Inv N σ){v:Value}{Z:Xs}{T:Ts}{s:Shared}{E:VP}{Q:VP}{b:Bool}(S:St sc.c (full sc σ++Z) ((v,a)::T) s)(q:∀ d X' v s',liftA sc K d X'→St sc.c (X'++Z) ((v,d)::T) s'→Q v s'):wpAny (model g.prog g.w) sc.A (getAttr v name b) Q E s:=by
 have H:KOk sc.c.K:=sc.hK▸g.H;cases h with
 |ws x dx ρ i j d ha hi hd hn hw h =>
  subst ha;obtain rfl:=By (S.rp (.head _));exact g_ws H S (mem_append_left _ (Bq hi)) (mem_append_left _ (Bq hd)) (Bf hn) (any_mem hw) fun v s' S'=>q _ _ _ _ (goal iv h) (S'.drop (Cp sub1))
 |net x dx ρ i j d ha hi hd hn hw h =>
  subst ha;obtain rfl:=By (S.rp (.head _));exact g_net H S (mem_append_left _ (Bq hi)) (mem_append_left _ (Bq hd)) (Bf hn) (any_mem hw) fun v s' S'=>q _ _ _ _ (goal iv h) (S'.drop (Cp sub1))
theorem putN_put{x:Str}{d:PyData}:∀ {ρ ρ':Od},putN x d ρ=some ρ'→Put x (some d) ρ ρ'
 |[],ρ',h=>nomatch (h:none=some ρ')
 |(y,e)::r,ρ',h=>by
  rcases F2 (b:=sEq x y) (x:=some ((y,some d)::r)) (y:=(putN x d r).map (List.cons (y,e))) h with ⟨q,h⟩ | ⟨_,h⟩
  ·refine rz (D2 q ..) ?_;cases h;exact .here
  ·obtain⟨r',hr,e'⟩:=Option.map_eq_some_iff.mp h;cases e';exact .there (putN_put hr)
theorem v_seta{name:Str}{a d:PyData}{σ:Sg}{K:Sg→Prop}(h:LSetA name a d σ K)(iv:Inv N σ){v u:Value}{Z:Xs}{T:Ts}{s:Shared}{E:VP}{Q:Unit→Shared→Prop}(S:St sc.c (full sc σ++Z) T s)(hv:(v,a)∈T)(hu:(u,d)∈T)(q:∀ X' s',liftU sc K X'→St sc.c (X'++Z) T s'→Q () s'):wpAny (model g.prog g.w) sc.A (setAttr v name u) Q E s:=by
 have H:KOk sc.c.K:=sc.hK▸g.H;cases h with
 |ws x dx ρ ρ' i j ha hi hd hn hw h =>
  subst ha;obtain rfl:=By (S.tmp _ hv);exact s_ws H S (mem_append_left _ (Bq hi)) (S.tmp _ hu) (Dm hd).left (putN_put hn) (any_mem hw) fun s' S'=>q _ _ (goalU (σ:=.upd j _ σ) iv h) S'
 |net x dx ρ ρ' i j ha hi hd hn hw h =>
  subst ha;obtain rfl:=By (S.tmp _ hv);exact s_net H S (mem_append_left _ (Bq hi)) (S.tmp _ hu) (Dm hd).left (putN_put hn) (any_mem hw) fun s' S'=>q _ _ (goalU (σ:=.upd j _ σ) iv h) S'
theorem v_cls{x name:Str}{p p':Pos}{σ:Sg}{K:KV}(hg:gloB x N.own=true)(h:vCls x name σ K):V0 sc (eval (.Attribute (.Name x p') name p) sc.env) σ K:=fun iv Z T s E Q S q=>by
 unfold vCls at h;refine tt_el h fun hx h=>?_
 obtain rfl:=D2 hx;have H:KOk sc.c.K:=sc.hK▸g.H;obtain⟨hn,hd⟩:=Fz (sc:=sc) hg;refine Attribute_name (r_glob S sc.hE hn (fn_in H (f:=209) (Bf rfl)).1 ?_ hd);cases hs:findS name clsAt with
 |none=>rw[hs] at h;exact h.elim
 |some y =>
 rw[hs] at h;have hm:=Bf hs
 unfold clsAt at hm;rcases List.mem_cons.mp hm with e | hm
 ·cases e;exact g_clsS H S fun v s' S'=>q _ _ _ _ (goal iv h) S'
 ·cases List.mem_singleton.mp hm;exact g_clsT H S fun v s' S'=>q _ _ _ _ (goal iv h) S'
theorem stepE_ok(ok:VOk sc r)(okR:ROk g ih){e:Expr}{σ:Sg}{K:KV}(h:stepE g N fr ih r e σ K):V0 sc (eval e sc.env) σ K:=by
 cases e with
 |Name x p =>
  have h:vName fr x σ K:=h;unfold vName at h;cases h1:look x σ with
  |some d=>rw[h1] at h;exact v_look h1 h
  |none =>
   rw[h1] at h;cases h2:findS x fr with
   |some d=>rw[h2] at h;exact v_free (Bf h2) h
   |none=>rw[h2] at h;exact h.elim
 |Constant c k p =>
  cases c with
  |int i=>exact fun iv=>w_int (goal iv h)
  |str x=>exact fun iv=>w_str (goal iv h)
  |bool b=>exact fun iv Z T s E Q S q=>wpAny_Constant_bool (q _ _ _ _ (goal iv h) (S.push (.bool _)))
  |none=>exact fun iv Z T s E Q S q=>wpAny_Constant_none (q _ _ _ _ (goal iv h) (S.push .none))
  |_=>exact False.elim h
 |BinOp l op x p =>
  have h:r.E l σ fun a σ=>r.E x σ fun b σ=>vBin op a b σ K:=h
  intro iv;refine w_bin (W0.mono (ok.E h iv) ?_);refine elA fun a σ1 i1 h=>?_
  refine W0.mono (ok.E h i1) ?_;refine elA fun b σ2 i2 h=>?_
  exact v_bin h i2
 |UnaryOp op x p =>
  cases op with
  |USub =>
   have h:r.E x σ fun a σ=>vInt a fun i=>K (.int (-i)) σ:=h
   intro iv;refine w_un (W0.mono (ok.E h iv) ?_);refine elA fun a σ1 i1 h=>?_
   obtain⟨i,rfl,h⟩:=Bg h;exact w_neg (goal i1 h)
  |_=>exact h sc
 |Compare l ops rs p=>exact v_compare ok h
 |IfExp t a b p =>
  have h:r.T t σ fun z σ=>LIfE r a b z σ K:=h
  intro iv;refine w_ifexp (WT.mono (ok.T h iv) ?_);refine elA fun z σ1 i1 h=>?_
  cases h with
  |mk h1 h2=>exact⟨fun e=>ok.E (h1 e) i1,fun e=>ok.E (h2 e) i1⟩
  |cut d h1 h2 h =>
   have k:∀ {d' σ'},Inv N σ'→isK d σ1 d' σ'→liftA sc K d' (full sc σ'):=fun i' ⟨e1,e2⟩=>by subst e1 e2;exact goal i' h
   exact⟨fun e=>liftV0 (K':=K) (ok.E (h1 e)) i1 fun V V i' h'=>k i' h',fun e=>liftV0 (K':=K) (ok.E (h2 e)) i1 fun V V i' h'=>k i' h'⟩
 |Subscript o i p=>exact v_subscript ok h
 |List es p =>
  have h:match B3 es with | true=>r.L p es σ fun ds σ=>(match Nat.ble ds.length 100 with | true=>LOwn ds σ K | false=>False) | false=>False:=h
  refine tt_el h fun h1 h=>?_
  have h:r.L p es σ fun ds σ=>(match Nat.ble ds.length 100 with | true=>LOwn ds σ K | false=>False):=h
  intro iv Z T s E Q S q;refine r_list (c:=sc.c) (ok.L h iv Z T s E _ S ?_);refine elL fun ds σ1 vs s1 i1 h2 hl S1=>?_
  refine tt_el h2 fun h3 h2=>?_
  exact⟨by refine rz (hl ..) <| A4 (le_trans (le_of_ble_eq_true h3) (by decide)),_,T,ds,S1.drop fun y hy=>mem_append_right _ hy,rps_zip hl fun y hy=>S1.rp (mem_append_left _ hy),fun a s' S'=>C3 i1 h2 S' q⟩
 |Tuple es k p =>
  have h:match B3 es with | true=>r.L p es σ fun ds σ=>(match Nat.ble ds.length 100 with | true=>K (.tuple ds) σ | false=>False) | false=>False:=h
  refine tt_el h fun h1 h=>?_
  have h:r.L p es σ fun ds σ=>(match Nat.ble ds.length 100 with | true=>K (.tuple ds) σ | false=>False):=h
  intro iv;refine w_tuple (WL.mono (ok.L h iv) ?_);refine elA fun ds σ1 i1 h2=>?_
  refine tt_el h2 fun h3 h2=>?_
  exact⟨A4 (le_trans (le_of_ble_eq_true h3) (by decide)),goal i1 h2⟩
 |Call f es kws pos =>
  cases kws with
  |cons _ _=>exact h sc
  |nil =>
   cases f with
   |Name x p =>
    cases es with
    |nil=>exact v_call0 h
    |cons e es=>exact v_calln ok h
   |Attribute o name ap=>exact v_callm ok h
   |_=>exact h sc
 |ListComp elt gens sco p=>exact vcomp_ok ok okR h
 |Attribute o name p =>
  cases o with
  |Name x p' =>
   have h:match gloB x N.own with | true=>vCls x name σ K | false=>r.E (.Name x p') σ fun a σ=>LAttr name a σ K:=h
   cases hg:gloB x N.own with
   |true=>rw[hg] at h;exact v_cls hg h
   |false =>
   rw[hg] at h;intro iv Z T s E Q S q
   refine Attribute_name (ok.E h iv Z T s E _ S ?_);refine elS fun a σ1 v s1 i1 h1 S1=>?_
   exact v_attr h1 i1 S1 q
  |_=>exact h sc
 |BoolOp op vs p =>
  cases op with
  |And=>exact v_andv ok vs h
  |Or=>exact h sc
 |_=>exact h sc
theorem stepL_ok(ok:VOk sc r){pos:Pos}{es:List Expr}{σ:Sg}{K:Lp→Sg→Prop}(h:stepL r pos es σ K):VL sc pos es σ K:=by
 cases es with
 |nil=>exact fun i=>wl_nil (goal i h)
 |cons e es =>
  have h:match Fe e with | true=>r.E e σ fun d σ=>r.L pos es σ fun ds σ=>K (d::ds) σ | false=>False:=h
  refine tt_el h fun he h=>?_
  intro i;refine wl_cons (W0.mono (ok.E h i) ?_) (Bn he _ _);refine elA fun a σ1 i1 h=>?_
  refine WL.mono (ok.L h i1) ?_;refine elA fun ds σ2 i2 h=>?_
  exact goal i2 h
theorem v_truth{d:PyData}{σ:Sg}{K:Bool→Sg→Prop}(h:vTruth d σ K)(iv:Inv N σ){v:Value}{Z:Xs}{T:Ts}{s:Shared}{E:VP}{Q:Bool→Shared→Prop}(S:St sc.c (full sc σ++Z) ((v,d)::T) s)(q:∀ b X' s',liftA sc K b X'→St sc.c (X'++Z) T s'→Q b s'):wpAny (model g.prog g.w) sc.A (truthy v) Q E s:=by
 have lists:(vLst d σ fun ds=>LC (ds.length<2^63) K (!ds.isEmpty) σ)→wpAny (model g.prog g.w) sc.A (truthy v) Q E s:=fun h=>by
  obtain⟨ds,ha,hz,h⟩:=Bw h;exact t_list S (rd_of ha S (.head _)) hz fun s' S'=>q _ _ _ (goal iv h) S'.pop
 cases d with
 |bool b =>
  obtain rfl:=bool_of (S.rp (.head _));exact t_bool (q _ _ _ (goal iv h) S.pop)
 |_=>exact lists h
theorem wt_valV{e:Expr}{σ:Sg}{K:Bool→Sg→Prop}(ok:VOk sc r)(he:valT e=true)(h:r.E e σ fun d σ=>vTruth d σ K):VT sc e σ K:=fun iv Z T s E Q S q=>by
 refine t_val (ok.E h iv Z T s E _ S ?_) (valT_of he _);refine elS fun d σ1 v s1 i1 h1 S1=>?_
 exact v_truth h1 i1 S1 q
theorem v_boolop{op:BoolOp}{vs:List Expr}{p:Pos}{σ:Sg}{K:Bool→Sg→Prop}(ok:VOk sc r)(h:vBoolOp r op vs σ K):VT sc (.BoolOp op vs p) σ K:=by
 cases vs with
 |nil=>exact h.elim
 |cons x vs=>cases vs with
  |nil=>exact h.elim
  |cons y vs=>cases vs with
   |cons _ _=>exact h.elim
   |nil =>
    intro iv Z T s E Q S q;cases op with
    |And =>
     refine t_and (ok.T h iv Z T s E _ S ?_);refine elT fun b σ1 s1 i1 hq S1=>?_
     obtain⟨h1,h2⟩:=hq;exact⟨fun e=>ok.T (h1 e) i1 Z T s1 E Q S1 q,fun e=>q _ _ _ (goal i1 (h2 e)) S1⟩
    |Or =>
     refine t_or (ok.T h iv Z T s E _ S ?_);refine elT fun b σ1 s1 i1 hq S1=>?_
     obtain⟨h1,h2⟩:=hq;exact⟨fun e=>q _ _ _ (goal i1 (h1 e)) S1,fun e=>ok.T (h2 e) i1 Z T s1 E Q S1 q⟩
theorem stepT_ok(ok:VOk sc r){e:Expr}{σ:Sg}{K:Bool→Sg→Prop}(h:stepT r e σ K):VT sc e σ K:=by
 have gen:(match valT e with | true=>r.E e σ fun d σ=>vTruth d σ K | false=>False)→VT sc e σ K:=fun h=>by
  refine tt_el h fun he h=>?_
  exact wt_valV ok he h
 cases e with
 |Compare l ops rs p=>exact v_compareT ok h
 |BoolOp op vs p=>exact v_boolop ok h
 |_=>exact gen h
theorem wj_any{e tg:Expr}{σ:Sg}{K:Lp→Sg→Prop}(ok:VOk sc r)(h:r.E e σ fun d σ=>vIter d σ K):VI sc e tg σ K:=fun iv Z T s E Q S q=>by
 refine ok.E h iv Z T s E _ S ?_;refine elS fun d σ1 v s1 i1 h1 S1=>?_
 cases d with
 |list ds =>
  obtain⟨a,rfl⟩:=list_of (S1.rp (.head _));exact r_iter_list sc.oA.h S1 (.head _) fun It s2 S2 W=>q _ _ _ _ _ _ (goal i1 h1) (fun y hy=>.tail _ hy) S2 (W tg)
 |str x =>
  obtain⟨t,rfl⟩:=B5 (S1.rp (.head _));exact r_iter_str sc.oA.h S1 fun It s2 S2 W=>q _ _ _ (fun i=>[(It,knStr _ t i)]) _ _ (goal i1 h1) (fun y hy=>.tail _ hy) S2 (W tg)
 |dict m =>
  obtain⟨a,b,rfl,h1⟩:=(vRg_of h1).resolve_right id;exact r_iter_range sc.oA.h S1 (.head _) h1.1 fun It s2 S2 W=>q _ _ _ (fun i=>[(It,knRange a (b-a).toNat i)]) _ _ (goal i1 h1.2) (fun y hy=>.tail _ hy) S2 (W tg)
 |_=>exact h1.elim
theorem tup_of{e:Expr}(h:isTup e=true):∃ es k p,e=.Tuple es k p:=by cases e<;>first | exact⟨_,_,_,rfl⟩ | cases h
theorem v_enum{e tg:Expr}{p pos:Pos}{σ:Sg}{K:Lp→Sg→Prop}(ok:VOk sc r)(hg:gloB "enumerate" N.own=true)(ht:isTup tg=true)(he:Fe e=true)(h:r.E e σ fun d σ=>Dz d fun ds=>K (Cz 0 ds) σ):VI sc (.Call (.Name "enumerate" p) [e] [] pos) tg σ K:=fun iv Z T s E Q S q=>by
 obtain⟨elts,x1,p2,rfl⟩:=tup_of ht;obtain⟨hn,hd⟩:=Fz (sc:=sc) hg;refine r_call (r_blt S sc.hE hn (sc.hK▸g.H.blt ("enumerate",.type "enumerate") (by unfold Fo;repeat first | exact .head _ | refine .tail _ ?_)) (c_type (C5 (ok.E h iv Z T s E _ S ?_) (Bn he _ _)) (Bn he _ _) rfl) hd)
 refine elS fun d σ1 v s1 i1 h1 S1=>?_
 obtain⟨ds,rfl,h1⟩:=Dh h1;obtain⟨a,rfl⟩:=list_of (S1.rp (.head _));exact i_nil (r_enum sc.oA.h S1 (.head _) fun en it s2 S2 W=>(W [] x1 p2).self 0 _ _ _ _ _ S2 (q _ _ _ _ _ _ (goal i1 h1) (fun y hy=>.tail _ hy) S2 (W elts x1 p2)))
theorem v_zip{e f tg:Expr}{p pos:Pos}{σ:Sg}{K:Lp→Sg→Prop}(ok:VOk sc r)(hg:gloB "zip" N.own=true)(ht:isTup tg=true)(he:B3 [e,f]=true)(h:r.E e σ fun d σ=>r.E f σ fun d' σ=>Dz d fun ds=>Dz d' fun es=>K (Fc ds es) σ):VI sc (.Call (.Name "zip" p) [e,f] [] pos) tg σ K:=fun iv Z T s E Q S q=>by
 obtain⟨elts,x1,p2,rfl⟩:=tup_of ht;obtain⟨hn,hd⟩:=Fz (sc:=sc) hg;obtain⟨h5,h6⟩:=Bt he;obtain⟨h7,_⟩:=Bt h6;refine r_call (r_blt S sc.hE hn (sc.hK▸g.H.blt ("zip",.type "zip") (by unfold Fo;repeat first | exact .head _ | refine .tail _ ?_)) (c_type (C5 (ok.E h iv Z T s E _ S ?_) (Bn h5 _ _)) (Bn h5 _ _) (Cd h6)) hd)
 refine elS fun d σ1 v s1 i1 h1 S1=>?_
 refine C5 (ok.E h1 i1 Z _ s1 E _ S1 ?_) (Bn h7 _ _);refine elS fun d' σ2 u s2 i2 h2 S2=>?_
 obtain⟨ds,rfl,h3⟩:=Dh h2;obtain⟨es,rfl,h4⟩:=Dh h3;obtain⟨a,rfl⟩:=list_of (S2.rp (.tail _ (.head _)));obtain⟨b,rfl⟩:=list_of (S2.rp (.head _));exact i_nil (r_zip sc.oA.h S2 (.tail _ (.head _)) (.head _) fun z TI TO j1 j2 s3 S3 W=>(W [] x1 p2).self 0 _ _ _ _ _ S3 (q _ _ _ _ _ _ (goal i2 h4) (fun y hy=>.tail _ (.tail _ hy)) S3 (W elts x1 p2)))
theorem v_itern{x:Str}{p pos:Pos}{tg:Expr}{es:List Expr}{σ:Sg}{K:Lp→Sg→Prop}(ok:VOk sc r)(h:vIterN N r (.Call (.Name x p) es [] pos) tg x es σ K):VI sc (.Call (.Name x p) es [] pos) tg σ K:=by
 unfold vIterN at h;cases h1:sEq x "enumerate" with
 |true =>
  rw[h1] at h;obtain rfl:=D2 h1
  obtain⟨e,rfl,h⟩:=(oneL_of h).resolve_right id;refine tt_el h fun hc h=>?_
  have hc:=(Bool.and_eq_true _ _).mp hc;have hd:=(Bool.and_eq_true _ _).mp hc.2;exact v_enum ok hc.1 hd.1 hd.2 h
 |false =>
  rw[h1] at h;cases h5:sEq x "zip" with
  |false=>rw[h5] at h;exact wj_any ok h
  |true =>
   rw[h5] at h;obtain rfl:=D2 h5
   obtain⟨e,f,rfl,h⟩:=(twoL_of h).resolve_right id;refine tt_el h fun hc h=>?_
   have hc:=(Bool.and_eq_true _ _).mp hc;have hd:=(Bool.and_eq_true _ _).mp hc.2;exact v_zip ok hc.1 hd.1 hd.2 h
theorem stepI_ok(ok:VOk sc r){it tg:Expr}{σ:Sg}{K:Lp→Sg→Prop}(h:stepI N r it tg σ K):VI sc it tg σ K:=by
 cases it with
 |Call f es kws pos =>
  have h:vIterC N r (.Call f es kws pos) tg f es kws σ K:=h;cases f with
  |Name x p=>cases kws with
   |nil=>exact v_itern ok h
   |cons _ _=>exact wj_any ok h
  |_=>exact wj_any ok h
 |_=>exact wj_any ok h
theorem stepA_ok{tg:Expr}{d:PyData}{σ:Sg}{K:Sg→Prop}(h:stepA N tg d σ K):VU1 sc (assign tg sc.env) d σ K:=by
 cases tg with
 |Name x p=>exact fun i=>w_aname (Da h i)
 |Tuple es k p=>exact v_tuple h
 |_=>exact False.elim h
theorem v_assign{tg v:Expr}{q:Pos}{rest:List Stmt}{σ:Sg}{J:Fl→Sg→Prop}(ok:VOk sc r)(okR:ROk g ih)(h:vAssign N fr ih r tg v rest σ J (rawS g N fr (.Assign [tg] v q::rest) σ J)):VS sc (.Assign [tg] v q::rest) σ J:=by
 cases tg with
 |Name x p =>
  have gen:(match Fg v with | true=>r.E v σ fun d σ=>Br N x d σ fun σ=>r.S rest σ J | false=>False)→VS sc (.Assign [.Name x p] v q::rest) σ J:=fun h=>by
   refine tt_el h fun hv h=>?_
   intro i;refine ws_assign (W0.mono (ok.E h i) ?_) (Ff hv _ _ _);refine elA fun d σ1 i1 h=>?_
   refine U1.mono (Da h i1) ?_;refine elU fun σ2 i2 h=>?_
   exact ok.S h i2
  cases v with
  |ListComp elt gens sco p' =>
   have h:match isTwo gens with
    |true=>vComp2 N fr ih r x p elt gens sco p' σ fun d σ=>Br N x d σ fun σ=>r.S rest σ J
    |false=>vComp N fr ih r elt gens sco σ (fun d σ=>Br N x d σ fun σ=>r.S rest σ J) False:=h
   cases h2:isTwo gens with
   |true=>rw[h2] at h;exact v_asgcomp2 ok okR h
   |false =>
   rw[h2] at h;obtain⟨tg,it,ifs,rfl,hs,h1⟩:=(vcomp_or h).resolve_right id
   generalize hb:(sc.names.lookup x == some .local&&p.line == p'.line && !(sco.names.any fun(n,k)=>n == x&&(k == .local||k == .cell)))=b
   have hsw:=swaps_of sc.hE (elt:=elt) (gens:=[⟨tg,it,ifs,0⟩]) (p:=p') (line:=q.line) hb;cases b with
   |true=>obtain⟨h0,hsco⟩:=(Bool.and_eq_true _ _).mp hs;exact asg_go hsw (fun V V V=>rfl) ok okR h0 hsco h1 (cin1 okR)
   |false =>
    intro i;refine ws_assign (W0.mono (v_comp (pos:=p') ok okR hs h1 i) ?_) hsw;refine elA fun d σ1 i1 h=>?_
    refine U1.mono (Da h i1) ?_;refine elU fun σ2 i2 h=>?_
    exact ok.S h i2
  |_=>exact gen h
 |Subscript o i p =>
  have h:match Fg v with | true=>r.E v σ fun y σ=>r.E o σ fun a σ=>r.E i σ fun b σ=>LSet a b y σ fun σ=>r.S rest σ J | false=>False:=h
  refine tt_el h fun hv h=>?_
  intro i;refine ws_setitem (W0.mono (ok.E h i) ?_) (Ff hv _ _ _);refine elA fun d σ1 i1 h=>?_
  refine W0.mono (ok.E h i1) ?_;refine elA fun a σ2 i2 h=>?_
  refine W0.mono (ok.E h i2) ?_;refine elA fun b σ3 i3 h=>?_
  refine U3.mono (v_set2 h i3) ?_;refine elU fun σ4 i4 h=>?_
  exact ok.S h i4
 |Tuple ts k p =>
  cases v with
  |Call f es kws pos =>
   have h:r.E (.Call f es kws pos) σ fun d σ=>vTup d fun ds=>vNs N ts ds σ fun σ=>r.S rest σ J:=h
   intro i Z T s E Q S q1 q2 q3 q4;refine Fa (ok.E h i Z T s E _ S ?_) rfl rfl;refine elS fun d σ1 v s1 i1 h1 S1=>?_
   refine v_tuple h1 i1 v Z T s1 E _ S1 ?_;refine elSU fun σ2 s2 i2 h2 S2=>?_
   exact ok.S h2 i2 Z T s2 E Q S2 q1 q2 q3 q4
  |Attribute o' nm pos =>
   have h:r.E (.Attribute o' nm pos) σ fun d σ=>vTup d fun ds=>vNs N ts ds σ fun σ=>r.S rest σ J:=h
   intro i Z T s E Q S q1 q2 q3 q4;refine Fa (ok.E h i Z T s E _ S ?_) rfl rfl;refine elS fun d σ1 v s1 i1 h1 S1=>?_
   refine v_tuple h1 i1 v Z T s1 E _ S1 ?_;refine elSU fun σ2 s2 i2 h2 S2=>?_
   exact ok.S h2 i2 Z T s2 E Q S2 q1 q2 q3 q4
  |Tuple vs k' p' =>
   have h:match Ga (Ey ts)&&vs.any madeE with | true=>r.E (.Tuple vs k' p') σ fun d σ=>vTup d fun ds=>vNs N ts ds σ fun σ=>r.S rest σ J | false=>False:=h
   refine tt_el h fun hm h=>?_
   exact v_tupled ok hm h
  |ListComp elt gens sco p' =>
   have h:r.E (.ListComp elt gens sco p') σ fun d σ=>Dz d fun ds=>vNs N ts ds σ fun σ=>r.S rest σ J:=h
   intro i Z T s E Q S q1 q2 q3 q4;refine Fa (ok.E h i Z T s E _ S ?_) rfl rfl;refine elS fun d σ1 v s1 i1 h1 S1=>?_
   obtain⟨ds,rfl,h1⟩:=Dh h1;refine v_unlist h1 i1 v Z T s1 E _ S1 ?_;refine elSU fun σ2 s2 i2 h2 S2=>?_
   exact ok.S h2 i2 Z T s2 E Q S2 q1 q2 q3 q4
  |_=>exact h sc
 |Attribute o name p =>
  have h:match Fg v with | true=>r.E v σ fun d σ=>r.E o σ fun a σ=>LSetA name a d σ fun σ=>r.S rest σ J | false=>False:=h
  refine tt_el h fun hv h=>?_
  intro i Z T s E Q S q1 q2 q3 q4;refine x_setattr (ok.E h i Z T s E _ S ?_) (Ff hv _ _ _);refine elS fun d σ1 u s1 i1 h1 S1=>?_
  refine ok.E h1 i1 Z _ s1 E _ S1 ?_;refine elS fun a σ2 v' s2 i2 h2 S2=>?_
  refine v_seta h2 i2 S2 (.head _) (.tail _ (.head _)) ?_;refine elSU fun σ3 s3 i3 h3 S3=>?_
  exact ok.S h3 i3 Z T s3 E Q (S3.drop sub2) q1 q2 q3 q4
 |_=>exact h sc
theorem sub_dup{α:Type}{x:α}{T:List α}:∀ q∈x::x::T,q∈x::T:=fun q h=>(List.mem_cons.mp h).elim (fun e=>e▸.head _) id
theorem ws_aug{x:Str}{p q:Pos}{op:Operator}{v:Expr}{old:PyData}{rest:List Stmt}{σ:Sg}{J:Fl→Sg→Prop}(ok:VOk sc r)(hx:look x σ=some old)(h:r.E v σ fun b σ=>vIBin op old b σ fun d σ=>Br N x d σ fun σ=>r.S rest σ J):VS sc (.AugAssign (.Name x p) op v q::rest) σ J:=fun iv Z T s E Q S q1 q2 q3 q4=>by
 have fin:∀ v' s',St sc.c (full sc σ++Z) ((v',old)::T) s'→wpAny (model g.prog g.w) sc.A (eval v sc.env) (fun b s₂=>wpAny (model g.prog g.w) sc.A (inplaceOp op v' b) (fun r s₃=>wpAny (model g.prog g.w) sc.A (storeName sc.env x r) (fun V s₄=>wpAny (model g.prog g.w) sc.A (execs rest sc.env) Q E s₄) E s₃) E s₂) E s':=fun v' s' S'=>by
  refine ok.E h iv Z _ s' E _ S' ?_;refine elS fun b σ1 u s1 i1 h1 S1=>?_
  refine v_ibin h1 i1 v' u Z T s1 E _ S1 ?_;refine elS fun d σ2 y s2 i2 h2 S2=>?_
  refine Da h2 i2 y Z T s2 E _ S2 ?_;refine elSU fun σ3 s3 i3 h3 S3=>?_
  exact ok.S h3 i3 Z T s3 E Q S3 q1 q2 q3 q4
 refine x_aug ?_;have hb:=Fx (iv _ _ hx);rw[Cu] at hx;rcases hb.1 with hn | hn
 ·exact n_local S sc.hE (sc.hn _ _ hn (by decide)) (.head _) (List.mem_map.mpr ⟨(x,.local),List.mem_filter.mpr ⟨hn,rfl⟩,by exact rz (hx ..) rfl⟩) fin
 ·obtain⟨a,ha⟩:=F3 sc.L hn;exact n_cell S sc.hE (sc.hn _ _ hn (by decide)) (sc.hc _ ha) (.tail _ (mem_append_left _ (mem_append_left _ (List.mem_map.mpr ⟨(x,a),ha,by exact rz (hx ..) rfl⟩)))) fin
theorem v_aug{tg v:Expr}{op:Operator}{q:Pos}{rest:List Stmt}{σ:Sg}{J:Fl→Sg→Prop}(ok:VOk sc r)(h:vAug N r tg op v rest σ J (rawS g N fr (.AugAssign tg op v q::rest) σ J)):VS sc (.AugAssign tg op v q::rest) σ J:=by
 cases tg with
 |Name x p =>
  have h:match look x σ with | some old=>r.E v σ fun b σ=>vIBin op old b σ fun d σ=>Br N x d σ fun σ=>r.S rest σ J | none=>False:=h
  cases hx:look x σ with
  |none=>rw[hx] at h;exact h.elim
  |some old=>rw[hx] at h;exact ws_aug ok hx h
 |Attribute o name p =>
  have h:r.E o σ fun a σ=>LAttr name a σ fun old σ=>r.E v σ fun b σ=>vIBin op old b σ fun d σ=>LSetA name a d σ fun σ=>r.S rest σ J:=h
  intro i Z T s E Q S q1 q2 q3 q4;refine x_augattr (ok.E h i Z T s E _ S ?_);refine elS fun a σ1 va s1 i1 h1 S1=>?_
  refine v_attr (T:=(va,a)::T) h1 i1 (S1.drop sub_dup) ?_;refine elS fun old σ2 vo s2 i2 h2 S2=>?_
  refine ok.E h2 i2 Z _ s2 E _ S2 ?_;refine elS fun b σ3 vb s3 i3 h3 S3=>?_
  refine v_ibin h3 i3 vo vb Z ((va,a)::T) s3 E _ S3 ?_;refine elS fun d σ4 vd s4 i4 h4 S4=>?_
  refine v_seta h4 i4 S4 (.tail _ (.head _)) (.head _) ?_;refine elSU fun σ5 s5 i5 h5 S5=>?_
  exact ok.S h5 i5 Z T s5 E Q (S5.drop sub2) q1 q2 q3 q4
 |Subscript o i p =>
  have h:match plainE i with | true=>r.E o σ fun a σ=>r.E i σ fun b σ=>vGet a b σ fun old σ=>r.E v σ fun y σ=>vIBin op old y σ fun z σ=>LSet a b z σ fun σ=>r.S rest σ J | false=>False:=h
  refine tt_el h fun hp h=>?_
  intro i;refine ws_augitem (W0.mono (ok.E h i) ?_) (plain_aug hp);refine elA fun a σ1 i1 h=>?_
  refine W0.mono (ok.E h i1) ?_;refine elA fun b σ2 i2 h=>?_
  refine W2.mono (v_get h i2) ?_;refine elA fun old σ3 i3 h=>?_
  refine W0.mono (ok.E h i3) ?_;refine elA fun y σ4 i4 h=>?_
  refine W2.mono (v_ibin h i4) ?_;refine elA fun z σ5 i5 h=>?_
  refine U3.mono (v_set h i5) ?_;refine elU fun σ6 i6 h=>?_
  exact ok.S h i6
 |_=>exact h sc
theorem v_if{t:Expr}{body els rest:List Stmt}{q:Pos}{σ:Sg}{J:Fl→Sg→Prop}(ok:VOk sc r)(h:r.T t σ fun z σ=>LIfS r z body els rest σ J):VS sc (.If t body els q::rest) σ J:=fun iv=>by
 refine ws_if (WT.mono (ok.T h iv) ?_);refine elA fun z σ1 i1 h1=>?_
 have fin:∀ {l:List Stmt}{J':Fl→Sg→Prop},r.S l σ1 J'→(∀ f σ',Inv N σ'→J' f σ'→thenS g.prog g.w sc.A sc.c sc.env rest (fun f X=>liftA sc J f X) f (full sc σ'))→Ws g.prog g.w sc.A sc.c sc.env l (full sc σ1) (thenS g.prog g.w sc.A sc.c sc.env rest fun f X=>liftA sc J f X):=fun h k=>Ws.mono (ok.S h i1) (by
  refine elA fun f σ2 i2 h2=>?_
  exact k f σ2 i2 h2)
 cases h1 with
 |mk h1 h2 =>
  have k:∀ f σ',Inv N σ'→thenJ r rest J f σ'→thenS g.prog g.w sc.A sc.c sc.env rest (fun f X=>liftA sc J f X) f (full sc σ'):=fun f σ' i' h'=>by
   cases f with
   |next=>exact ok.S h' i'
   |brk=>exact goal (K:=J) i' h'
   |cont=>exact goal (K:=J) i' h'
   |ret d=>exact goal (K:=J) i' h'
  exact⟨fun e=>fin (h1 e) k,fun e=>fin (h2 e) k⟩
 |cut F h1 h2 h3 =>
  have k:∀ f σ',Inv N σ'→cutJ F J f σ'→thenS g.prog g.w sc.A sc.c sc.env rest (fun f X=>liftA sc J f X) f (full sc σ'):=fun f σ' i' h'=>by
   cases f with
   |next =>
    obtain⟨l,iF⟩:=LSub.ok (sc:=sc) i' h';exact s_le l (ok.S h3 iF)
   |brk=>exact goal (K:=J) i' h'
   |cont=>exact goal (K:=J) i' h'
   |ret d=>exact goal (K:=J) i' h'
  exact⟨fun e=>fin (h1 e) k,fun e=>fin (h2 e) k⟩
theorem v_multi{tgs:List Expr}{v:Expr}{q:Pos}{rest:List Stmt}{σ:Sg}{J:Fl→Sg→Prop}(ok:VOk sc r)(h:vMulti N r tgs v rest σ J (rawS g N fr (.Assign tgs v q::rest) σ J)):VS sc (.Assign tgs v q::rest) σ J:=fun iv Z T s E Q S q1 q2 q3 q4=>by
 rcases threeL_of h with ⟨a,b,c,rfl,h⟩ | h
 case inr=>exact h sc iv Z T s E Q S q1 q2 q3 q4
 obtain⟨x,p,rfl,h⟩:=vNm_of h;obtain⟨y,p',rfl,h⟩:=vNm_of h;obtain⟨z,p2,rfl,h⟩:=vNm_of h;obtain⟨i,k,p3,rfl,h⟩:=vIc_of h;have h:Br N x (.int i) σ fun σ=>Br N y (.int i) σ fun σ=>Br N z (.int i) σ fun σ=>r.S rest σ J:=h
 refine x_assigns (r_int S fun t s1 S1=>aa_names3 ?_) rfl rfl
 refine Da h iv (.int i t) Z _ s1 E _ (S1.push (.int _ _)) ?_;refine elSU fun σ2 s2 i2 h2 S2=>?_
 refine Da h2 i2 (.int i t) Z _ s2 E _ (S2.push (.int _ _)) ?_;refine elSU fun σ3 s3 i3 h3 S3=>?_
 refine Da h3 i3 (.int i t) Z _ s3 E _ (S3.push (.int _ _)) ?_;refine elSU fun σ4 s4 i4 h4 S4=>?_
 exact ok.S h4 i4 Z T s4 E Q S4 q1 q2 q3 q4
theorem stepS_ok(ok:VOk sc r)(okR:ROk g ih){l:List Stmt}{σ:Sg}{J:Fl→Sg→Prop}(h:stepS g N fr ih r l σ J):VS sc l σ J:=by
 cases l with
 |nil=>exact fun i=>ws_nil (goal (K:=J) i h)
 |cons st rest =>
  cases st with
  |Return v q =>
   cases v with
   |none=>exact fun i Z T s E Q S q1 q2 q3 q4=>x_return0 (q4 _ _ _ _ (goal (K:=fun d σ=>J (.ret d) σ) i h) (S.push .none))
   |some v =>
    have h:r.E v σ fun d σ=>LRet d σ J:=h
    intro i;refine ws_return' (W0.mono (ok.E h i) ?_);refine elA fun d σ1 i1 h=>?_
    exact v_ret i1 h
  |Assign tgs v q =>
   cases tgs with
   |nil=>exact h sc
   |cons tg tgs=>cases tgs with
    |nil=>exact v_assign ok okR h
    |cons _ _=>exact v_multi ok h
  |AugAssign tg op v q=>exact v_aug ok h
  |For tg it body els q =>
   cases els with
   |cons _ _=>exact False.elim h
   |nil =>
    have h:match rawIt it σ with | true=>rawS g N fr (.For tg it body [] q::rest) σ J | false=>(match noSet it with | true=>r.I it tg σ fun ds σ=>LFor r tg body rest ds σ J | false=>False):=h
    cases hr:rawIt it σ with
    |true=>rw[hr] at h;exact h sc
    |false =>
    rw[hr] at h;refine tt_el h fun hs h=>?_
    exact v_for ok hs h
  |While t body els q =>
   cases els with
   |nil=>exact v_while ok h
   |cons _ _=>exact False.elim h
  |If t body els q=>exact v_if ok h
  |Expr v q =>
   have h:match Fg v with | true=>r.E v σ fun V σ=>r.S rest σ J | false=>False:=h
   refine tt_el h fun hv h=>?_
   intro iv;refine ws_expr (W0.mono (ok.E h iv) ?_) (Gs sc.hE) fun E Q s hh=>x_expr hh (Gs sc.hE) (Ff hv _ _ _)
   refine elA fun d σ1 i1 h1=>?_
   exact ok.S h1 i1
  |Break q=>exact fun i Z T s E Q S q1 q2 q3 q4=>x_break (q2 _ _ (goal (K:=J) i h) S)
  |Continue q=>exact fun i Z T s E Q S q1 q2 q3 q4=>x_continue (q3 _ _ (goal (K:=J) i h) S)
  |_=>exact h sc
end
theorem bot_ok{g:Pg}{N:Sn}{fr:Fr}(sc:Sc g N fr):VOk sc bot:=⟨False.elim,False.elim,False.elim,False.elim,False.elim,False.elim⟩
theorem R_ok(g:Pg):∀ n,ROk g (R g n)
 |0,_,_,sc=>bot_ok sc
 |n+1,_,_,sc=>⟨stepE_ok (R_ok g n sc) (R_ok g n),stepT_ok (R_ok g n sc),stepI_ok (R_ok g n sc),stepL_ok (R_ok g n sc),stepA_ok,stepS_ok (R_ok g n sc) (R_ok g n)⟩
noncomputable def B6(fd:FuncData):List Str:=(fd.params.posonlyargs++fd.params.args).map (·.arg)
noncomputable def ini:List Str→Lp→Sg→Sg
 |p::ps,d::ds,σ=>ini ps ds (.put p d σ)
 |_,_,σ=>σ
theorem ini_vars:∀ (ps:List Str) (ds:Lp) (σ:Sg),(ini ps ds σ).vars=(ps.zip ds).reverse++σ.vars
 |[],_,_=>rfl
 |_::_,[],_=>rfl
 |p::ps,d::ds,σ=>by
  show(ini ps ds (.put p d σ)).vars=_
  refine rz (ini_vars ..) <| rz (zip_cons_cons ..) <| rz (reverse_cons ..) <| rz (append_assoc ..) ?_
  rfl
theorem ini_objs:∀ (ps:List Str) (ds:Lp) (σ:Sg),(ini ps ds σ).objs=σ.objs
 |[],_,_=>rfl
 |_::_,[],_=>rfl
 |p::ps,d::ds,σ=>ini_objs ps ds (.put p d σ)
noncomputable def chkF(fd:FuncData):Bool:=Ga (fd.scope.names.map (·.1))&&((chkD fd&&fd.closure.isEmpty)&&(B6 fd).all fun x=>ownB x fd.scope.names)
noncomputable def freeK(l:Nk):Bool:=l.all fun p=>match p.2 with | .free=>false | _=>true
theorem freeK_of{l:Nk}(h:freeK l=true):∀ x,(x,NameKind.free)∉l:=fun x hx=>by
 have:=List.all_eq_true.mp h _ hx;cases this
inductive LPost(post:PyData→Xs→Prop)(d:PyData)(σ:Sg):Prop
 |mk(D B':Xs)(hp:post d B')(pm:σ.objs.Perm (D++B'))
def fnJ(post:PyData→Xs→Prop)(fl:Fl)(σ:Sg):Prop:=match fl with
 |.ret d=>LPost post d σ | .next=>LPost post .none σ | .brk=>False | .cont=>False
theorem lawFnS{prog:Program}{w:World}{K:Frag}(H:KOk K)(P:Pg→Prop)(hP:P ⟨prog,w,K,H⟩){n:Nat}(j:Nat){f:Addr}{fd:FuncData}{B:Xs}{ds:Lp}{post:PyData→Xs→Prop}(O:Sg)(hO:O.objs=B)(hv:O.vars=[])(hj:Bz[j]?=some (f,fd))
  (hk:(chkF fd&&freeK fd.scope.names)=true)(hbind:∀ vs,vs.length=ds.length→bindArgs fd ⟨vs,[]⟩=pure ((B6 fd).zip vs))
  (h:∀ g:Pg,P g→∀ sc:Sc g ⟨fd.scope.names,n⟩ [],VS sc (Et fd) (ini (B6 fd) ds O) (fnJ post))
  (hpost:∀ d B',post d B'→∀ p∈B,p.1∈B'.map (·.1)):Fn prog w K (n+1) f B ds post:=by
 obtain⟨hk,hfree⟩:=(Bool.and_eq_true _ _).mp hk;obtain⟨h1,hk⟩:=(Bool.and_eq_true _ _).mp hk;obtain⟨h3,h2⟩:=(Bool.and_eq_true _ _).mp hk;obtain⟨hd,hclo⟩:=(Bool.and_eq_true _ _).mp h3;have hclo:=List.isEmpty_iff.mp hclo;refine law_fn H (B6 fd) fd.scope.names _ _ (List.mem_of_getElem? hj) (Eg hd) rfl (D9 h1) hbind (fun x hx=>(Fx (List.all_eq_true.mp h2 x hx)).1) hclo (fun L=>rfl) (fun L=>rfl) (fun A c s L oA HK hK S hE=>?_) hpost
 let g:Pg:=⟨prog,w,K,H⟩
 let sc:Sc g ⟨fd.scope.names,n⟩ []:=⟨A,c,fnEnv fd L f,L,fd.scope.names,cellsFrom (L+1) fd.scope.names [],[],oA,hK,hE,D9 h1,fun V V h V=>h,fun q hq=>hq,fun x hx=>absurd hx (freeK_of hfree x),fun x d hx=>nomatch hx⟩
 have e:full sc (ini (B6 fd) ds O)=((L,.map (Be fd.scope.names (((B6 fd).zip ds).reverse)))::Bm L fd.scope.names (((B6 fd).zip ds).reverse))++B:=by
  unfold full;refine rz (ini_vars ..) <| rz (ini_objs ..) <| rz (hv ..) <| rz (hO ..) <| rz (append_nil ..) ?_
  show _::(_++(B++[]))=_
  refine rz (append_nil ..) ?_;rfl
 have inv:Inv ⟨fd.scope.names,n⟩ (ini (B6 fd) ds O):=fun x d hx=>by
  rw[Cu,ini_vars,hv] at hx;have hm:=PyProof.Rows.mem_of_lookup hx
  rw[append_nil,mem_reverse] at hm;exact List.all_eq_true.mp h2 x (of_mem_zip hm).1
 have key:=h g hP sc inv;rw[e] at key;have fin:∀ {d:PyData}{σ:Sg}{T:Ts}{s':Shared}{v:Value},LPost post d σ→St c (full sc σ++[]) ((v,d)::T) s'→∃ Z T d B',post d B'∧St c (Z++B') T s'∧Rp (ban c (Z++B')) s'.heap v d:=by
  rintro d σ T s' v ⟨D,B',hp,pm⟩ S';have p1:(full sc σ).Perm ((((sc.L,.map (Be fd.scope.names σ.vars))::Bm sc.L fd.scope.names σ.vars)++D)++B'):=by
   show(((sc.L,Knd.map (Be fd.scope.names σ.vars))::Bm sc.L fd.scope.names σ.vars)++(σ.objs++[])).Perm _
   refine rz (append_nil ..) <| rz (append_assoc ..) <| pm.append_left _
  rw[append_nil] at S'
  have S2:=S'.perm p1;exact⟨_,_,d,B',hp,S2,S2.rp (.head _)⟩
 refine key [] [] s _ _ (rz (append_nil ..) <| S) ?_ ?_ ?_ ?_
 ·refine elSU fun σ s' V h S'=>?_
  exact fin h (S'.push .none)
 ·rintro X s' ⟨σ,_,_,e⟩;exact e.elim
 ·rintro X s' ⟨σ,_,_,e⟩;exact e.elim
 ·refine elS fun d σ v s' V h S'=>?_
  exact fin h S'
theorem lawFnG{prog:Program}{w:World}{K:Frag}(H:KOk K)(P:Pg→Prop)(hP:P ⟨prog,w,K,H⟩){n:Nat}(j:Nat){f:Addr}{fd:FuncData}{B:Xs}{ds:Lp}{post:PyData→Xs→Prop}(O:Sg)(hO:O.objs=B)(hv:O.vars=[])(hj:Bz[j]?=some (f,fd))
  (hk:(chkF fd&&freeK fd.scope.names)=true)(hbind:∀ vs,vs.length=ds.length→bindArgs fd ⟨vs,[]⟩=pure ((B6 fd).zip vs))
  (h:∀ g:Pg,P g→(R g 1000 ⟨fd.scope.names,n⟩ []).S (Et fd) (ini (B6 fd) ds O) (fnJ post))
  (hpost:∀ d B',post d B'→∀ p∈B,p.1∈B'.map (·.1)):Fn prog w K (n+1) f B ds post:=lawFnS H P hP j O hO hv hj hk hbind (fun g hg sc=>(R_ok g 1000 sc).S (h g hg)) hpost
theorem Er{prog:Program}{w:World}{K:Frag}(H:KOk K){n:Nat}(j:Nat){f:Addr}{fd:FuncData}{B:Xs}{ds:Lp}{post:PyData→Xs→Prop}(O:Sg)(hO:O.objs=B)(hv:O.vars=[])(hj:Bz[j]?=some (f,fd))
  (hk:(chkF fd&&freeK fd.scope.names)=true)(hbind:∀ vs,vs.length=ds.length→bindArgs fd ⟨vs,[]⟩=pure ((B6 fd).zip vs))
  (h:∀ g:Pg,(R g 1000 ⟨fd.scope.names,n⟩ []).S (Et fd) (ini (B6 fd) ds O) (fnJ post))
  (hpost:∀ d B',post d B'→∀ p∈B,p.1∈B'.map (·.1)):Fn prog w K (n+1) f B ds post:=lawFnG H (fun V=>True) trivial j O hO hv hj hk hbind (fun g V=>h g) hpost
theorem lawFnV2{prog:Program}{w:World}{K:Frag}(H2:KOk2 prog K){n:Nat}(j:Nat){f:Addr}{fd:FuncData}{B:Xs}{ds:Lp}{post:PyData→Xs→Prop}(O:Sg)(hO:O.objs=B)(hv:O.vars=[])(hj:Bz[j]?=some (f,fd))
  (hk:(chkF fd&&freeK fd.scope.names)=true)(hbind:∀ vs,vs.length=ds.length→bindArgs fd ⟨vs,[]⟩=pure ((B6 fd).zip vs))
  (h:∀ g:Pg,KOk2 g.prog g.K→(R g 1000 ⟨fd.scope.names,n⟩ []).S (Et fd) (ini (B6 fd) ds O) (fnJ post))
  (hpost:∀ d B',post d B'→∀ p∈B,p.1∈B'.map (·.1)):Fn prog w K (n+1) f B ds post:=lawFnG H2.toKOk (fun g=>KOk2 g.prog g.K) H2 j O hO hv hj hk hbind h hpost
theorem lawG{prog:Program}{w:World}{K:Frag}(H:KOk K)(P:Pg→Prop)(hP:P ⟨prog,w,K,H⟩){n:Nat}(j:Nat){f:Addr}{fd:FuncData}{ds:Lp}{d:PyData}(hj:Bz[j]?=some (f,fd))
  (hk:(chkF fd&&freeK fd.scope.names)=true)(hbind:∀ vs,vs.length=ds.length→bindArgs fd ⟨vs,[]⟩=pure ((B6 fd).zip vs))
  (h:∀ g:Pg,P g→(R g 1000 ⟨fd.scope.names,n⟩ []).S (Et fd) (ini (B6 fd) ds .nil) fun fl V=>fl=.ret d):Pure prog w K (n+1) f ds d:=by
 refine lawFnS H P hP j .nil rfl rfl hj hk hbind (fun g hp sc iv=>Ws.mono ((R_ok g 1000 sc).S (h g hp) iv) fun fl X h1=>?_) fun V V V p hp=>nomatch hp
 obtain⟨σ,hX,i,rfl⟩:=h1;exact⟨σ,hX,i,⟨σ.objs,[],⟨rfl,rfl⟩,by rw[append_nil]⟩⟩
theorem lawV{prog:Program}{w:World}{K:Frag}(H:KOk K){n:Nat}(j:Nat){f:Addr}{fd:FuncData}{ds:Lp}{d:PyData}(hj:Bz[j]?=some (f,fd))
  (hk:(chkF fd&&freeK fd.scope.names)=true)(hbind:∀ vs,vs.length=ds.length→bindArgs fd ⟨vs,[]⟩=pure ((B6 fd).zip vs))
  (h:∀ g:Pg,(R g 1000 ⟨fd.scope.names,n⟩ []).S (Et fd) (ini (B6 fd) ds .nil) fun fl V=>fl=.ret d):Pure prog w K (n+1) f ds d:=lawG H (fun V=>True) trivial j hj hk hbind (fun g V=>h g)
noncomputable def snocs{α:Type}(f:Nat→α):Nat→List α
 |0=>[]
 |n+1=>snocs f n++[f n]
theorem Gj{α:Type}(f:Nat→α):∀ n,snocs f n=(List.range n).map f
 |0=>rfl
 |n+1=>by refine rz (range_succ ..) <| rz (map_append ..) <| rz (Eq.symm (Gj f n ..)) ?_;rfl
theorem snocs_len{α:Type}(f:Nat→α)(n:Nat):(snocs f n).length=n:=by refine rz (Gj ..) <| rz (length_map ..) <| rz (length_range ..) rfl
theorem ne_of{α β:Type}{l:List α}{f:α→β}(e:(!(l.map f).isEmpty)=true):l≠[]:=fun h=>by subst h;cases e
theorem nil_of{α β:Type}{l:List α}{f:α→β}(e:(!(l.map f).isEmpty)=false):l=[]:=by
 cases l with
 |nil=>rfl
 |cons _ _=>cases e
theorem nil_ofE{α β:Type}{l:List α}{f:α→β}(e:(l.map f).isEmpty=true):l=[]:=by
 cases l with
 |nil=>rfl
 |cons _ _=>cases e
theorem lt_nat(a b:Nat):decide ((a:Int)<(b:Int))=decide (a<b):=decide_eq_decide.mpr Int.ofNat_lt
theorem len63{n:Nat}(h:n≤1000000):n<2^63:=lt_of_le_of_lt h (by decide)
theorem txsum_le{m:Nat}:∀ {l:Lz},(∀ r∈l,r.length≤m)→((l.map tx).map (·.length)).sum≤m*l.length
 |[],_=>by simp
 |r::l,h=>by
  have h1:=txsum_le fun x hx=>h x (.tail _ hx)
  have h2:=h r (.head _);simp only[map_cons,sum_cons,length_cons,A6,Nat.mul_succ] at h1⊢
  exact(ar [_,_,_,_] (.a Ag Aa) (.a Ab An) (.c 1 Aa Ab (.c 1 Ag An .z)) 0 rfl h1 h2)
theorem range_flat{α β:Type}(h:α→List β):∀ (r:List α),(List.range r.length).flatMap (fun q=>(r[q]?.map h).getD [])=r.flatMap h
 |[]=>rfl
 |a::r=>by
  refine rz (length_cons ..) <| rz (List.range_succ_eq_map ..) <| rz (flatMap_cons ..) <| rz (List.flatMap_map ..) <| rz (flatMap_cons ..) <| rz (Eq.symm (range_flat h r ..)) ?_
  rfl
theorem Eh:(Str.ofString "").length=0:=by refine rz (D0 ..) <| rz (A6 ..) ?_;rfl
section
variable{α:Type}{f:α→PyData}{l:List α}{k:Nat}{σ:Sg}{K:KV}{x:α}
theorem idx_lt(hd:l[k]?=some x)(hz:l.length≤1000000):k<2^63:=by
 have:=(List.getElem?_eq_some_iff.mp hd).1;exact(ar [_,_] (.a Ab Ad) Ax (.c 1 Aa Ap (.c 1 (.a Ab Ad) Aa .z)) 0 rfl hz this)
theorem idx_map(hd:l[k]?=some x):(l.map f)[((k:Nat):Int).toNat]?=some (f x):=by refine rz (toNat_natCast ..) <| rz (List.getElem?_map ..) <| rz (hd ..) ?_;rfl
theorem LOwn.eq{ds ds':Lp}(e:ds=ds')(h:LOwn ds' σ K):LOwn ds σ K:=e▸h
theorem LStrs.eq{ds ds':Lp}{P:List Str→Prop}(e:ds=ds')(h:LStrs ds' P):LStrs ds P:=e▸h
theorem LGet.m(hd:l[k]?=some x)(hz:l.length≤1000000)(h:K (f x) σ):LGet (l.map f) (k:Nat) σ K:=by
 have:=idx_lt hd hz;exact .mk _ (ai [_] [] Aj (.c Aa) .z 0 rfl) (ai [_] [] (.a (.c Aa) Ah) Ak (.c 1 (.a Aa Ad) Ax .z) 0 rfl this) (idx_map hd) h
theorem LGet.z(hd:l[0]?=some x)(h:K (f x) σ):LGet (l.map f) 0 σ K:=.mk (f x) (by decide) (by decide) (by show(l.map f)[0]?=_;refine rz (List.getElem?_map ..) <| rz (hd ..) ?_;rfl) h
theorem LGetP.m(hd:l[k]?=some x)(hz:l.length≤1000000)(h:K (f x) σ):LGetP (l.map f) (k:Nat) σ K:=by
 have:=idx_lt hd hz;exact .mk _ (ai [_] [] Aj (.c Aa) .z 0 rfl) (ai [_] [] (.a (.c Aa) Ah) Ak (.c 1 (.a Aa Ad) Ax .z) 0 rfl this) (idx_map hd) h
theorem LGet.last(hd:l.getLast? = some x)(hz:l.length≤1000000)(h:K (f x) σ):LGet (l.map f) (-1) σ K:=by
 have h0:0<l.length:=by cases l with | nil=>simp at hd | cons _ _=>simp
 refine .neg (f x) (by decide) (rz (length_map ..) <| (ai [_] [] (.g (.c Aa)) As (.c 1 (.a Al Ad) Aa .z) 0 rfl h0)) (by decide) ?_ h
 refine rz (length_map ..) <| rz (List.getElem?_map ..) <| rz (show((-1:Int)+(l.length:Int)).toNat=l.length-1 from(congrArg Int.toNat (add_comm _ _)).trans (toNat_sub l.length 1)) <| rz (Eq.symm (List.getLast?_eq_getElem? ..)) <| rz (hd ..) ?_
 rfl
theorem LObj.m{a:Addr}{ds:Lp}{P:Lp→Prop}(j:Nat)(hX:σ.objs[j]?=some (a,.seq (.type "list") none ds))(h:P ds):LObj (Rf a) σ P:=.mk a ds j rfl hX h
theorem LSet.m{K:Sg→Prop}{a:Addr}(j:Nat)(hX:σ.objs[j]?=some (a,.seq (.type "list") none (l.map f)))(hk:k<l.length)(hz:l.length≤1000000)(h:K (.upd j (.seq (.type "list") none ((l.set k x).map f)) σ)):LSet (Rf a) (.int (k:Nat)) (f x) σ K :=
 .mk a (l.map f) _ j rfl rfl hX (ai [_] [] Aj (.c Aa) .z 0 rfl) (ai [_,_] [] (.a (.c Aa) Ah) Ak (.c 1 (.a Aa Ad) Ab (.c 1 Ab Ap .z)) 0 rfl hk hz) (rz (length_map ..) <| (ai [_,_] [] (.a (.c Aa) Ah) (.c Ab) (.c 1 (.a Aa Ad) Ab .z) 0 rfl hk)) (rz (toNat_natCast ..) <| rz (Eq.symm (List.map_set ..)) <| h)
theorem LApp.m{a:Addr}(j:Nat)(hX:σ.objs[j]?=some (a,.seq (.type "list") none (l.map f)))(hz:l.length≤1000000)(h:K .none (.upd j (.seq (.type "list") none ((l++[x]).map f)) σ)):LApp (Rf a) (f x) σ K :=
 .mk a (l.map f) j rfl hX (rz (length_map ..) <| A4 hz) (by rw[map_append] at h;exact h)
theorem LApp.e{a:Addr}{d:PyData}(j:Nat)(e:d=f x)(hX:σ.objs[j]?=some (a,.seq (.type "list") none (l.map f)))(hz:l.length≤1000000)(h:K .none (.upd j (.seq (.type "list") none ((l++[x]).map f)) σ)):LApp (Rf a) d σ K:=e▸.m j hX hz h
theorem LFor.m{r:VR}{tg:Expr}{body rest:List Stmt}{J:Fl→Sg→Prop}(F:Nat→Sg)(h0:LSub σ (F 0))(turn:∀ (i:Nat) x,l[i]?=some x→r.A tg (f x) (F i) fun σ=>r.S body σ (loopJ r rest (F (i+1)) J))(done:LFz (fun σ=>r.S rest σ J) (F l.length)):LFor r tg body rest (l.map f) σ J :=
 .mk F h0 (fun i d hd=>by
  rw[List.getElem?_map,Option.map_eq_some_iff] at hd;obtain⟨x,h1,rfl⟩:=hd
  exact turn i x h1) (rz (length_map ..) <| done)
inductive IsE(d':PyData)(O:Xs)(d:PyData)(σ:Sg):Prop
 |mk(h:d=d')(ho:σ.objs=O)
theorem Bl{i:Nat}(h:l[i]?=some x):l.take (i+1)=l.take i++[x]:=by refine rz (take_add_one ..) <| rz (h ..) ?_;rfl
theorem LComp.m{r:VR}{elt tg:Expr}(e:α→PyData)(hz:l.length≤1000000)(turn:∀ (i:Nat) x,l[i]?=some x→r.A tg (f x) (.own σ.objs .nil) fun σ1=>True∧r.E elt σ1 (IsE (e x) σ.objs))(done:LOwn (l.map e) σ K):LComp r elt tg [] (l.map f) σ K:=by
 refine .mk (fun i rs O=>rs=(l.take i).map e∧O=σ.objs) (rz (length_map ..) <| A4 hz) ⟨rfl,rfl⟩ ?_ ?_
 ·rintro i d rs O hd ⟨rfl,rfl⟩;rw[List.getElem?_map,Option.map_eq_some_iff] at hd;obtain⟨x,h1,rfl⟩:=hd
  refine⟨True,IsE (e x) σ.objs,fun V=>False,fun _ d' σ3 ⟨h2,h3⟩=>⟨?_,h3⟩,fun V h=>h.elim,turn i x h1⟩
  refine rz (Bl h1 ..) <| rz (map_append ..) <| rz (h2 ..) ?_;rfl
 ·rintro rs O ⟨rfl,rfl⟩;refine rz (length_map ..) <| rz (take_length ..) <| .inr ⟨rfl,done⟩
theorem LComp.t{r:VR}{elt tg t:Expr}(e:α→PyData)(p:α→Bool)(hz:l.length≤1000000)(turn:∀ (i:Nat) x,l[i]?=some x→r.A tg (f x) (.own σ.objs .nil) fun σ1=>r.T t σ1 fun z σ2=>LIf z (p x=true∧r.E elt σ2 (IsE (e x) σ.objs)) (p x=false∧σ2.objs=σ.objs))(done:LOwn ((l.filter p).map e) σ K):LComp r elt tg [t] (l.map f) σ K:=by
 refine .mk (fun i rs O=>rs=((l.take i).filter p).map e∧O=σ.objs) (rz (length_map ..) <| A4 hz) ⟨rfl,rfl⟩ ?_ ?_
 ·rintro i d rs O hd ⟨rfl,rfl⟩;rw[List.getElem?_map,Option.map_eq_some_iff] at hd;obtain⟨x,h1,rfl⟩:=hd
  have tk:(l.take (i+1)).filter p=(l.take i).filter p++(if p x then [x] else []):=take_succ_filter p l i x h1
  refine⟨p x=true,IsE (e x) σ.objs,fun σ2=>p x=false∧σ2.objs=σ.objs,fun hp d' σ3 ⟨h2,h3⟩=>⟨?_,h3⟩,fun σ2 ⟨hp,h⟩=>⟨?_,h⟩,turn i x h1⟩
  ·refine rz (tk ..) <| rz (hp ..) <| rz (map_append ..) <| rz (h2 ..) ?_;rfl
  ·refine rz (tk ..) <| rz (hp ..) ?_;simp
 ·rintro rs O ⟨rfl,rfl⟩;refine rz (length_map ..) <| rz (take_length ..) <| .inr ⟨rfl,done⟩
theorem LInts.m{P:List Int→Prop}(e:α→Int)(h:P (l.map e)):LInts (l.map fun a=>.int (e a)) P:=.mk _ (map_ints e l) h
theorem LStrs.m{P:List Str→Prop}(e:α→Str)(h:P (l.map e)):LStrs (l.map fun a=>.str (e a)) P:=.mk _ (map_strs e l) h
end
theorem rng0(n:Nat):(rng 0 (((n:Nat):Int)-0).toNat).map PyData.int=(List.range n).map fun j=>PyData.int (j:Nat):=by refine rz (Int.sub_zero ..) <| rz (toNat_natCast ..) <| rz (rng_map ..) rfl
theorem Dj{n:Nat}(h:n≤1000000):Builtin.Range.small 0 (n:Int) 1=true:=Gk (by decide) (by decide) (ai [_] [] Au (.c Aa) .z 0 rfl) (ai [_] [] (.c Aa) Av (.c 1 Aa Ap .z) 0 rfl h)
theorem Gx{n i j:Nat}(h:(List.range n)[i]?=some j):i<n∧j=i:=by
 obtain⟨h1,h2⟩:=List.getElem?_eq_some_iff.mp h;simp at h1 h2
 exact⟨h1,h2.symm⟩
section
variable{α β:Type}{f:α→PyData}{l:List α}{σ:Sg}{K:KV}{r:VR}{elt tg t:Expr}{body rest:List Stmt}{J:Fl→Sg→Prop}
theorem Bc{d:α}{k:Nat}(h:k<l.length):l[k]?=some (l.getD k d):=by simp[List.getD,h]
theorem LFor.rg{n:Nat}(F:Nat→Sg)(h0:LSub σ (F 0))(turn:∀ i,i<n→r.A tg (.int (i:Nat)) (F i) fun σ=>r.S body σ (loopJ r rest (F (i+1)) J))(done:LFz (fun σ=>r.S rest σ J) (F n)):LFor r tg body rest ((rng 0 (((n:Nat):Int)-0).toNat).map .int) σ J:=by
 refine rz (rng0 ..) <| .m F h0 (fun i j hj=>?_) (rz (length_range ..) <| done)
 obtain⟨h1,rfl⟩:=Gx hj;exact turn j h1
theorem LFor.e(F:Nat→Sg)(h0:LSub σ (F 0))(turn:∀ (i:Nat) x,l[i]?=some x→r.A tg (.tuple [.int (i:Nat),f x]) (F i) fun σ=>r.S body σ (loopJ r rest (F (i+1)) J))(done:LFz (fun σ=>r.S rest σ J) (F l.length)):LFor r tg body rest (Cz 0 (l.map f)) σ J :=
 .mk F h0 (fun i d hd=>by
  obtain⟨d',h1,rfl⟩:=F9 hd;rw[List.getElem?_map,Option.map_eq_some_iff] at h1;obtain⟨x,h1,rfl⟩:=h1
  refine rz (zero_add ..) <| turn i x h1) (rz (D8 ..) <| rz (length_map ..) <| done)
theorem LFor.z{g:β→PyData}{b:List β}(F:Nat→Sg)(h0:LSub σ (F 0))(turn:∀ (i:Nat) p,(l.zip b)[i]?=some p→r.A tg (.tuple [f p.1,g p.2]) (F i) fun σ=>r.S body σ (loopJ r rest (F (i+1)) J))(done:LFz (fun σ=>r.S rest σ J) (F (l.zip b).length)):LFor r tg body rest (Fc (l.map f) (b.map g)) σ J:=by
 refine rz (paired_map ..) <| .m F h0 turn done
theorem LComp.rg{n:Nat}(e:Nat→PyData)(hz:n≤1000000)(turn:∀ i,i<n→r.A tg (.int (i:Nat)) (.own σ.objs .nil) fun σ1=>True∧r.E elt σ1 (IsE (e i) σ.objs))(done:LOwn ((List.range n).map e) σ K):LComp r elt tg [] ((rng 0 (((n:Nat):Int)-0).toNat).map .int) σ K:=by
 refine rz (rng0 ..) <| .m e (rz (length_range ..) <| hz) (fun i j hj=>?_) done
 obtain⟨h1,rfl⟩:=Gx hj;exact turn j h1
theorem LComp.rt{n:Nat}(e:Nat→PyData)(p:Nat→Bool)(hz:n≤1000000)(turn:∀ i,i<n→r.A tg (.int (i:Nat)) (.own σ.objs .nil) fun σ1=>r.T t σ1 fun z σ2=>LIf z (p i=true∧r.E elt σ2 (IsE (e i) σ.objs)) (p i=false∧σ2.objs=σ.objs))(done:LOwn (((List.range n).filter p).map e) σ K):LComp r elt tg [t] ((rng 0 (((n:Nat):Int)-0).toNat).map .int) σ K:=by
 refine rz (rng0 ..) <| .t e p (rz (length_range ..) <| hz) (fun i j hj=>?_) done
 obtain⟨h1,rfl⟩:=Gx hj;exact turn j h1
theorem LComp.z{g:β→PyData}{b:List β}(e:α × β→PyData)(hz:l.length≤1000000)(turn:∀ (i:Nat) p,(l.zip b)[i]?=some p→r.A tg (.tuple [f p.1,g p.2]) (.own σ.objs .nil) fun σ1=>True∧r.E elt σ1 (IsE (e p) σ.objs))(done:LOwn ((l.zip b).map e) σ K):LComp r elt tg [] (Fc (l.map f) (b.map g)) σ K:=by
 refine rz (paired_map ..) <| .m e (rz (length_zip ..) <| (le_trans (min_le_left ..) hz)) turn done
theorem LComp.e(e:Nat × α→PyData)(hz:l.length≤1000000)(turn:∀ (i:Nat) x,l[i]?=some x→r.A tg (.tuple [.int (i:Nat),f x]) (.own σ.objs .nil) fun σ1=>True∧r.E elt σ1 (IsE (e (i,x)) σ.objs))(done:LOwn (l.zipIdx.map fun p=>e (p.2,p.1)) σ K):LComp r elt tg [] (Cz 0 (l.map f)) σ K:=by
 refine rz (numbered_map ..) <| .m (fun p=>e (p.2,p.1)) (rz (length_zipIdx ..) <| hz) (fun i p hp=>?_) done
 rw[List.getElem?_zipIdx,Option.map_eq_some_iff] at hp;obtain⟨x,h1,rfl⟩:=hp
 refine rz (zero_add ..) <| turn i x h1
end
theorem LInts.i{P:List Int→Prop}{l:List Int}(h:P l):LInts (l.map .int) P:=.mk _ rfl h
theorem LInts.n{P:List Int→Prop}{l:List Nat}(h:P (l.map fun n=>((n:Nat):Int))):LInts (l.map fun n=>.int (n:Nat)) P:=.mk _ (map_nats l) h
theorem LStrs.x{P:List Str→Prop}{l:Lz}(h:P (l.map tx)):LStrs (l.map fun a=>.str (tx a)) P:=.mk _ (map_strs tx l) h
theorem LIf.d{p:Prop}[Decidable p] {P Q:Prop}(h1:p→P) (h2:¬p→Q):LIf (decide p) P Q:=.mk (fun e=>h1 (of_decide_eq_true e)) (fun e=>h2 (of_decide_eq_false e))
theorem LIfS.d{r:VR}{p:Prop}[Decidable p] {body els rest:List Stmt}{σ:Sg}{J:Fl→Sg→Prop}(h1:p→r.S body σ (thenJ r rest J)) (h2:¬p→r.S els σ (thenJ r rest J)):LIfS r (decide p) body els rest σ J:=.mk (fun e=>h1 (of_decide_eq_true e)) (fun e=>h2 (of_decide_eq_false e))
theorem LIfE.d{r:VR}{p:Prop}[Decidable p] {x y:Expr}{σ:Sg}{K:KV}(h1:p→r.E x σ K) (h2:¬p→r.E y σ K):LIfE r x y (decide p) σ K:=.mk (fun e=>h1 (of_decide_eq_true e)) (fun e=>h2 (of_decide_eq_false e))
section
variable{K:Bool→Prop}{σ:Sg}
theorem LIn.n{l:List Nat}{k:Nat}(h:K (decide (k∈l))):LIn (l.map fun n=>.int (n:Nat)) (.int (k:Nat)) σ K:=by
 refine rz (map_nats ..) <| .mk (decide (k∈l)) (by refine rz (any_int ..) ?_;simp only[mem_nats]) (lay_ints _) rfl (by simp[PyData.depth]) h
theorem LIn.b{l:List Bool}{k:Bool}(h:K (decide (k∈l))):LIn (l.map .bool) (.bool k) σ K:=.mk _ (any_bool l k) (lay_bools l) rfl (by simp[PyData.depth]) h
theorem LIn.x{l:Lz}{k:List Nat}(hl:∀ x∈l,okT x)(hk:okT k)(h:K (decide (k∈l))):LIn (l.map fun a=>.str (tx a)) (.str (tx k)) σ K:=by
 refine rz (map_strs ..) <| .mk _ (any_tx l k) (lay_txs hl) (Sh.str hk).1 (by simp[PyData.depth]) h
end
noncomputable def takeIx(is:List Nat):Xs→Option (Xs × Xs):=is.rec (fun X=>some ([],X)) fun i V f X=>X[i]?.bind fun p=>(f (X.eraseIdx i)).map fun q=>(p::q.1,q.2)
theorem Cc:∀ {is:List Nat}{X B Y:Xs},takeIx is X=some (B,Y)→X.Perm (B++Y)
 |[],X,B,Y,h=>by cases h;exact .refl _
 |i::is,X,B,Y,h=>by
  obtain⟨p,e,h⟩:=Option.bind_eq_some_iff.mp h;obtain⟨⟨B',Y'⟩,e2,h⟩:=Option.map_eq_some_iff.mp h;cases h;exact(F1 e).trans ((Cc e2).cons p)
section
variable{g:Pg}{n m:Nat}{ds:Lp}{σ σ':Sg}{K:KV}{B B0 Y:Xs}{d0:PyData}
theorem LFn.det{f:Addr}(is:List Nat)(hm:Nat.ble m n=true)(F:Fn g.prog g.w g.K m f B ds fun d B'=>d=d0∧B'=B0)(ht:takeIx is σ.objs=some (B,Y))(h:K d0 (.own (B0++Y) σ)):LFn g n ds σ K (.ref f) :=
 .fn m hm B Y _ F (Cc ht) fun d B' ⟨e1,e2⟩=>by subst e1 e2;exact h
theorem LFn.detC{f:Value}(is:List Nat)(hm:Nat.ble m n=true)(F:Cl g.prog g.w g.K m f B ds fun d B'=>d=d0∧B'=B0)(ht:takeIx is σ.objs=some (B,Y))(h:K d0 (.own (B0++Y) σ)):LFn g n ds σ K f :=
 .cl m hm B Y _ F (Cc ht) fun d B' ⟨e1,e2⟩=>by subst e1 e2;exact h
theorem LFn.new{f:Value}{b:Addr→Addr→Xs}(hm:Nat.ble m n=true)(F:Cl g.prog g.w g.K m f [] ds fun d B'=>∃ x dx,d=Rf x∧B'=b x dx)(h:∀ x dx,K (Rf x) (.own (b x dx++σ.objs) σ)):LFn g n ds σ K f :=
 .cl m hm [] σ.objs _ F (.refl _) fun d B' ⟨x,dx,e1,e2⟩=>by subst e1 e2;exact h x dx
theorem LSub.ix(is:List Nat){D:Xs}(h:σ'.vars.map (fun p=>look p.1 σ)=σ'.vars.map (fun p=>some p.2))(ht:takeIx is σ.objs=some (σ'.objs,D)):LSub σ σ' :=
 .drop D h ((Cc ht).trans perm_append_comm)
theorem LPost.det{post:PyData→Xs→Prop}(is:List Nat){D:Xs}(hp:post d0 B)(ht:takeIx is σ.objs=some (B,D)):LPost post d0 σ:=.mk D B hp ((Cc ht).trans perm_append_comm)
end
section
variable{a b:Nat}{a' b':Int}{σ:Sg}{K:KV}
theorem LMod.n(hb:b≠0)(h:K (.int ((a % b:Nat):Int)) σ)(ea:a'=((a:Nat):Int):=by rfl)(eb:b'=((b:Nat):Int):=by rfl):LMod a' b' σ K:=by
 subst ea;subst eb;exact .mk (fun e=>hb (Int.ofNat.inj e)) (by rw[fmod_cast];exact h)
theorem LDiv.n(hb:b≠0)(hs:b<1073741824)(h:K (.int ((a / b:Nat):Int)) σ)(ea:a'=((a:Nat):Int):=by rfl)(eb:b'=((b:Nat):Int):=by rfl):LDiv a' b' σ K:=by
 subst ea;subst eb;exact .mk (fun e=>hb (Int.ofNat.inj e)) hs (by rw[fdiv_cast];exact h)
end
section
variable{r:VR}{z z':Bool}{σ:Sg}{K:KV}{J:Fl→Sg→Prop}
theorem LIfE.eq{x y:Expr}(e:z=z')(h:LIfE r x y z' σ K):LIfE r x y z σ K:=e▸h
theorem LIfS.eq{body els rest:List Stmt}(e:z=z')(h:LIfS r z' body els rest σ J):LIfS r z body els rest σ J:=e▸h
theorem LIf.eq{P Q:Prop}(e:z=z')(h:LIf z' P Q):LIf z P Q:=e▸h
end
theorem execs_app(env:Env)(l2:List Stmt):∀ l1:List Stmt,execs (l1++l2) env=(execs l1 env >>= fun f=>match f with | .next=>execs l2 env | f=>pure f)
 |[]=>by refine rz (show execs [] env=pure .next from rfl) <| rz (pure_bind ..) ?_;rfl
 |st::l1=>by
  show(exec st env >>= fun f=>match f with | .next=>execs (l1++l2) env | f=>pure f)=(exec st env >>= fun f=>match f with | .next=>execs l1 env | f=>pure f) >>= _
  refine rz (bind_assoc ..) ?_
  congr 1
  funext f
  cases f with
  |next=>exact execs_app env l2 l1
  |_=>exact rz (pure_bind ..) rfl
def segJ{α:Type}(F:α→Sg)(f:Fl)(σ:Sg):Prop:=match f with | .next=>∃ x,LFz (fun σ=>LSub σ (F x)) σ | _=>False
structure SV{g:Pg}{N:Sn}{fr:Fr}(sc:Sc g N fr)(l:List Stmt)(σ:Sg)(J:Fl→Sg→Prop):Prop where
 ok:VS sc l σ J
section
variable{g:Pg}{N:Sn}{fr:Fr}{sc:Sc g N fr}
theorem SV.seg{l:List Stmt}{σ:Sg}{J:Fl→Sg→Prop}{α:Type}{F:α→Sg}(i k j:Nat)(hj:i+k=j)(h1:(R g 1000 N fr).S ((l.drop i).take k) σ (segJ F))(h2:∀ x,SV sc (l.drop j) (F x) J):SV sc (l.drop i) σ J:=⟨fun iv Z T s E Q S q1 q2 q3 q4=>by
 subst hj;refine rz (show l.drop i=(l.drop i).take k++l.drop (i+k) by rw[← List.drop_drop,take_append_drop]) <| rz (execs_app ..) ?_
 refine wpAny_bind ((R_ok g 1000 sc).S h1 iv Z T s E _ S ?_ ?_ ?_ ?_)
 ·rintro X s' ⟨σ',rfl,i',x,h⟩ S';obtain⟨σ2,l2,i2,h⟩:=LFz.ok' (sc:=sc) h i';obtain⟨l1,i1⟩:=LSub.ok i2 h;exact(h2 x).ok i1 Z T s' E Q (l1 _ _ _ (l2 _ _ _ S')) q1 q2 q3 q4
 ·rintro X s' ⟨σ',_,_,h⟩;exact h.elim
 ·rintro X s' ⟨σ',_,_,h⟩;exact h.elim
 ·rintro d X v s' ⟨σ',_,_,h⟩;exact h.elim⟩
end
theorem LSub.fr(is:List Nat){σ σ':Sg}{B Y:Xs}(h:σ'.vars.map (fun p=>look p.1 σ)=σ'.vars.map (fun p=>some p.2))(ht:takeIx is σ.objs=some (B,Y))(ho:B++Y=σ'.objs):LSub σ σ' :=
 .drop [] h ((Cc ht).trans (.of_eq ho))
theorem SV.sub{g:Pg}{N:Sn}{fr:Fr}{sc:Sc g N fr}{l:List Stmt}{σ σ':Sg}{J:Fl→Sg→Prop}(h:LSub σ σ')(k:SV sc l σ' J):SV sc l σ J:=⟨fun iv Z T s E Q S q1 q2 q3 q4=>by
 obtain⟨l1,i1⟩:=LSub.ok iv h;exact k.ok i1 Z T s E Q (l1 _ _ _ S) q1 q2 q3 q4⟩
theorem lawFnT{prog:Program}{w:World}{K:Frag}(H2:KOk2 prog K){n:Nat}(j:Nat){f:Addr}{fd:FuncData}{B:Xs}{ds:Lp}{post:PyData→Xs→Prop}(O:Sg)(hO:O.objs=B)(hv:O.vars=[])(hj:Bz[j]?=some (f,fd))
  (hk:(chkF fd&&freeK fd.scope.names)=true)(hbind:∀ vs,vs.length=ds.length→bindArgs fd ⟨vs,[]⟩=pure ((B6 fd).zip vs))(N:Sn)(l:List Stmt)(σ:Sg)(eN:(⟨fd.scope.names,n⟩:Sn)=N)(el:Et fd=l)(es:ini (B6 fd) ds O=σ)
  (h:∀ g:Pg,KOk2 g.prog g.K→∀ sc:Sc g N [],SV sc l σ (fnJ post))
  (hpost:∀ d B',post d B'→∀ p∈B,p.1∈B'.map (·.1)):Fn prog w K (n+1) f B ds post:=by
 subst eN el es;exact lawFnS H2.toKOk (fun g=>KOk2 g.prog g.K) H2 j O hO hv hj hk hbind (fun g hg sc=>(h g hg sc).ok) hpost
end Mine
section
open PySem.W.X
namespace Mine
theorem tab_of{K:Frag}{h:Heap}{cc P:Addr}{ps:Array Value}(e:codeHdIn K cc P=true)(x:K.In h)(hP:h.get? P=some (tabObj ps)):isCodeTable h P:=((codeHd_of_K x e).tab hP).isCodeTable
theorem script_heap{R:WRecords}{w:World}{s₀ s₁:Shared}{ns:List Int}{a:Addr}{as:List Addr}(L:Laid R w s₀ s₁ [ofPy (PyData.list (ns.map PyData.int))] [.ref a] as):∀ b o,s₁.heap.get? b=some o→b=s₀.heap.objs.size∨s₀.heap.get? b=some o:=by
 obtain⟨ord,_,e⟩:=L.laid;simp only[ofPy,layAllW,layW] at e;cases q:layAllW R (classAt s₀.heap) w.params ord (ofPys (List.map PyData.int ns)) s₀ with
 |none=>rw[q] at e;cases e
 |some r =>
  rw[q] at e;have hh:=PySem.W.X.lay_ints ns s₀ r q
  simp only[Option.some.injEq,Prod.mk.injEq,List.cons.injEq,Value.ref.injEq] at e;obtain⟨_,es⟩:=e
  intro b o hb;rw[← es] at hb;dsimp only at hb
  rw[hh] at hb;have hlt:=Heap.lt_size hb
  rw[Heap.size_push] at hlt
  by_cases e:b=s₀.heap.objs.size
  ·exact .inl e
  ·right
   have e2:(s₀.heap.push { cls:=.type "list",data:=.seq r.1.toArray }).objs[b]?=s₀.heap.objs[b]?:=by
    show(s₀.heap.objs.push _)[b]?=_
    refine rz (Array.getElem?_push ..) <| rz (if_neg e ..) rfl
   unfold Heap.get? at hb⊢
   rw[e2] at hb;exact hb
end Mine
end
namespace Mine
variable{prog:Program}{w:World}{K:Frag}
noncomputable def rdStmt:Stmt:=((sBody (topS 9))[0]?).getD (.Pass default)
noncomputable abbrev rdFd(cell c1:Addr)(ctv doc pm:Value):FuncData:=fnX "_law_read" "_law_stream.<locals>._law_read" (sArgs rdStmt) (sBody rdStmt) (sScope rdStmt) [("left",cell)] .none .none doc pm none (.ref c1) ctv
noncomputable def lamBody:Stmt→Expr | .Assign _ (.Lambda _ b _ _) _=>b | _=>default
noncomputable def lamArgs:Stmt→Arguments | .Assign _ (.Lambda a _ _ _) _=>a | _=>default
noncomputable def lamScope:Stmt→Scope | .Assign _ (.Lambda _ _ sc _) _=>sc | _=>default
noncomputable def lamStmt:Stmt:=((sBody (topS 9))[1]?).getD (.Pass default)
noncomputable abbrev lamFd(c1:Addr)(ctv pm:Value):FuncData:=kla_fn "<lambda>" "_law_stream.<locals>.<lambda>" (lamArgs lamStmt) (lamBody lamStmt) (lamScope lamStmt) [] pm (.ref c1) ctv
def StreamX(lf st:Addr)(X:Xs):Prop:=∃ D rd c1 cell ctv doc pm c2 ctv2 pm2,X=[(st,FnD (lamFd c2 ctv2 pm2) D),(D,.obj [("read",some (Rf rd))]),(rd,FnN (rdFd cell c1 ctv doc pm)),(c1,CodeK "_law_stream.<locals>._law_read"),(cell,.cell (some (Rf lf)))]
theorem stream_ok(H:KOk K)(lf:Addr)(ds:Lp) :
  Fn prog w K 3 220 [(lf,.seq (.type "list") none ds),(215,Tab #[])] [Rf lf] (fun d B'=>∃ st X r,StreamX lf st X∧d=Rf st∧B'=X++[(lf,.seq (.type "list") none ds),(215,Tab r)]):=by
 refine law_fn H ["left"] [("left",.cell),("_law_read",.local),("stream",.local)] (fun L=>[(L,.map [("_law_read",none),("stream",none)]),(L+1,.cell (some (Rf lf)))]) (fun L=>[("left",L+1)]) (fd:=lawFd 9 219) (gE 16 rfl) (Eg rfl) ?_ ?_ ?_ ?_ ?_ ?_ ?_ ?_ ?_
 ·kernel_rfl!
 ·decide +kernel
 ·intro vs hv;obtain⟨v0,rfl⟩:=len1 hv
  kernel_rfl!
 ·decide +kernel
 ·kernel_rfl!
 ·intro L;kernel_rfl!
 ·intro L;kernel_rfl!
 rotate_left
 ·intro d B' hp;obtain⟨st,X,r,_,rfl,rfl⟩:=hp;simp
 clear H
 intro A c s L oA H hK hS hE
 clear hK
 have hcode:(fnEnv (lawFd 9 219) L 220).code=.ref 219:=rfl;have hqual:(fnEnv (lawFd 9 219) L 220).qual = "_law_stream.<locals>." := by kernel_rfl
 have hglo:(fnEnv (lawFd 9 219) L 220).globals=mainGlobals:=rfl;generalize fnEnv (lawFd 9 219) L 220=env at hE hcode hqual hglo⊢
 change wpAny (model prog w) A (execs (Stmt.FunctionDef _ _ _ _ _ _ _ _ _ _::_) _) _ _ _
 simp only[cons_append,nil_append] at hS;refine x_def (ps:=#[]) (X':=fun c1=>[(L,.map [("_law_read",none),("stream",none)]),(L+1,.cell (some (Rf lf))),(lf,.seq (.type "list") none ds),(215,Tab (#[]++#[rawInt 141,rawInt 4,.ref c1]))]) (q := "_law_stream.<locals>._law_read") (clos:=[("left",L+1)]) H rfl rfl rfl ?_ (clos_of hE rfl (by kernel_rfl!)) hglo hcode (.inl rfl) trivial rfl hS (fun c1=>.there (.there (.there .here))) ?_
 ·unfold qualnameIn;refine rz (hE.kindOf (by repeat (first | exact .head _ | apply List.Mem.tail)) ..) <| rz (hqual ..) ?_
  kernel_rfl!
 clear hS
 intro rd c1 ctv doc pm s hS;refine Gn hS hE (by repeat (first | exact .head _ | apply List.Mem.tail)) (by first | (apply St.rp hS;(repeat (first | exact .head _ | apply List.Mem.tail));done) | exact .int _ _ | exact .str _ _ | exact .raw _ | exact .none) (by repeat first | exact Ups.here | apply Ups.there) (by repeat first | exact Put.here | apply Put.there) ?_;clear hS;intro s hS
 refine x_assign ?_ (by with_unfolding_all rfl)
 refine r_lambda (ps:=#[]++#[rawInt 141,rawInt 4,.ref c1]) (X':=fun c2=>(rd,.is fun o=>o=fnMade "_law_read" "_law_stream.<locals>._law_read" (sArgs rdStmt) (sBody rdStmt) (sScope rdStmt) [("left",L+1)] doc pm c1 ctv)::(c1,CodeK "_law_stream.<locals>._law_read")::[(L,.map [("_law_read",some (Rf rd)),("stream",none)]),(L+1,.cell (some (Rf lf))),(lf,.seq (.type "list") none ds),(215,Tab (#[]++#[rawInt 141,rawInt 4,.ref c1]++#[rawInt 143,rawInt 13,.ref c2]))]) (q := "_law_stream.<locals>.<lambda>") (clos:=[]) H rfl ?_ (clos_of hE rfl (by kernel_rfl!)) hglo hcode (.inl rfl) (by simp[TriplesOk,rawInt]) (by kernel_rfl!) hS (fun c2=>.there (.there (.there (.there (.there .here))))) ?_
 ·refine rz (hqual ..) ?_;kernel_rfl!
 clear hS
 intro st c2 ctv2 pm2 s hS;refine Gn hS hE (by repeat (first | exact .head _ | apply List.Mem.tail)) (by first | (apply St.rp hS;(repeat (first | exact .head _ | apply List.Mem.tail));done) | exact .int _ _ | exact .str _ _ | exact .raw _ | exact .none) (by repeat first | exact Ups.here | apply Ups.there) (by repeat first | exact Put.here | apply Put.there) ?_;clear hS;intro s hS
 refine x_setattr ?_ (by with_unfolding_all rfl)
 refine Ct hS hE (by repeat (first | exact .head _ | apply List.Mem.tail)) (by repeat (first | exact .head _ | apply List.Mem.tail)) (by repeat (first | exact .head _ | apply List.Mem.tail)) ?_ (by decide +kernel)
 refine Kon.raw ?_;clear hS;intro s hS;refine Ct hS hE (by repeat (first | exact .head _ | apply List.Mem.tail)) (by repeat (first | exact .head _ | apply List.Mem.tail)) (by repeat (first | exact .head _ | apply List.Mem.tail)) ?_ (by decide +kernel)
 refine Kon.raw ?_;clear hS;intro s hS;refine f_setattr (fd:=lamFd c2 ctv2 pm2) hS .here (by first | (apply St.rp hS;(repeat (first | exact .head _ | apply List.Mem.tail));done) | exact .int _ _ | exact .str _ _ | exact .raw _ | exact .none) fn_no_read ?_
 clear hS
 intro D s hS _ hD;rw[← hD] at hS;refine E9 ?_
 refine Ct hS hE (by repeat (first | exact .head _ | apply List.Mem.tail)) (by repeat (first | exact .head _ | apply List.Mem.tail)) (by repeat (first | exact .head _ | apply List.Mem.tail)) ?_ (by decide +kernel)
 refine Kon.raw ?_;clear hS;intro s hS;have hS1:St c ([(L,.map [("_law_read",some (Rf rd)),("stream",some (Rf st))]),(c2,CodeK "_law_stream.<locals>.<lambda>")]++([(st,FnD (lamFd c2 ctv2 pm2) D),(D,.obj [("read",some (Rf rd))]),(rd,FnN (rdFd (L+1) c1 ctv doc pm)),(c1,CodeK "_law_stream.<locals>._law_read"),(L+1,.cell (some (Rf lf)))]++[(lf,.seq (.type "list") none ds),(215,Tab (#[]++#[rawInt 141,rawInt 4,.ref c1]++#[rawInt 143,rawInt 13,.ref c2]))])) _ s:=hS.perm (by(try simp only[cons_append,nil_append]);repeat first | exact List.Perm.refl _ | (refine perm_pull (by repeat first | exact Pull.here | apply Pull.there) ?_))
 exact⟨[(L,_),(c2,_)],_,_,_,⟨st,_,_,⟨D,rd,c1,L+1,ctv,doc,pm,c2,ctv2,pm2,rfl⟩,rfl,rfl⟩,hS1,.raw _⟩
variable{prog:Program}{w:World}{K:Frag}
noncomputable abbrev chS(n:Nat):PyData:=.str ⟨#[n]⟩
noncomputable abbrev RdX(rd c1 cell lf:Addr)(ctv doc pm:Value)(cs:List Nat):Xs:=[(rd,FnN (rdFd cell c1 ctv doc pm)),(c1,CodeK "_law_stream.<locals>._law_read"),(cell,.cell (some (Rf lf))),(lf,.seq (.type "list") none (cs.map chS))]
theorem Sh.chs{cs:List Nat}(h:okT cs):Sh 2 (.list (cs.map chS)):=Sh.list fun d hd=>by
 obtain⟨n,hn,rfl⟩:=List.mem_map.mp hd;exact Sh.str (l:=[n]) fun m hm=>by refine rz (List.mem_singleton.mp hm ..) <| h n hn
theorem reader_ok(H:KOk K)(rd c1 cell lf:Addr)(ctv doc pm:Value)(cs:List Nat)(h1:cs.length≤100000)(hok:okT cs) :
  Fn prog w K 2 rd (RdX rd c1 cell lf ctv doc pm cs) [.int 1] (fun d B'=>d=.str ⟨(cs.take 1).toArray⟩∧B'=RdX rd c1 cell lf ctv doc pm (cs.drop 1)):=by
 refine fn_intro0 ["size"] [("size",.local),("left",.free)] (fun L=>[(L,.map [("size",some (.int 1))])]) (fun L=>[("left",cell)]) (oc:=.type "function") (od:=none) (sl:=#[]) (fd:=rdFd cell c1 ctv doc pm) (fun c X T s hK S=>?_) H.lim ?_ (Eg rfl) ?_ ?_ ?_ ?_ ?_ ?_ ?_ ?_ ?_
 ·obtain⟨o,ho,rfl⟩:=S.own _ (.head _);obtain⟨o2,h2,vs,t,e1,e2⟩:=S.own _ (.tail _ (.head _));exact⟨ho,c1,o2,vs,t,rfl,h2,e1,e2⟩
 ·intro d B' hp;obtain⟨rfl,rfl⟩:=hp;simp
 ·kernel_rfl!
 ·decide +kernel
 ·intro vs hv;obtain⟨v0,rfl⟩:=len1 hv
  kernel_rfl!
 ·decide +kernel
 ·intro q hq;refine rz (List.mem_singleton.mp hq ..) <| .tail _ (.head _)
 ·simp
 ·intro L;kernel_rfl!
 ·intro L;kernel_rfl!
 intro A c T s L oA hK hS hE;have H:KOk c.K:=hK▸H
 clear hK
 generalize fnEnv (rdFd cell c1 ctv doc pm) L rd=env at hE⊢
 change wpAny (model prog w) A (execs (Stmt.Return _ _::_) _) _ _ _
 simp only[cons_append,nil_append] at hS;refine E9 ?_
 refine r_if ?_;refine t_and ?_;refine t_cmp ?_ (by with_unfolding_all rfl)
 refine Ct hS hE (by repeat (first | exact .head _ | apply List.Mem.tail)) (by repeat (first | exact .head _ | apply List.Mem.tail)) (by repeat (first | exact .head _ | apply List.Mem.tail)) ?_ (by decide +kernel)
 refine Kon.int ?_;clear hS;intro t s hS;refine r_int hS ?_;clear hS;intro t s hS;refine r_eqint ?_;refine t_bool ?_;refine rz (show((1:Int) == 1)=true from rfl) <| if_t ?_
 refine t_cmp ?_ (by with_unfolding_all rfl)
 refine r_free hS hE (by repeat (first | exact .head _ | apply List.Mem.tail)) (by repeat (first | exact .head _ | apply List.Mem.tail)) (by repeat (first | exact .head _ | apply List.Mem.tail)) ?_ (by decide +kernel) (by decide +kernel)
 refine Kon.raw ?_;clear hS;intro s hS;refine r_list (c:=c) ?_;refine i_nil ?_;refine seq_ok hS (by repeat first | exact .nil | (apply Rps.cons;first | (apply St.rp hS;(repeat (first | exact .head _ | apply List.Mem.tail));done) | exact .int _ _ | exact .str _ _ | exact .raw _ | exact .none)) (by with_unfolding_all rfl) ?_;clear hS;intro a s hS
 refine r_nenil oA (by apply St.rdX hS;repeat (first | exact .head _ | apply List.Mem.tail)) (by apply St.rdX hS;repeat (first | exact .head _ | apply List.Mem.tail)) ((Sh.chs hok).le (by decide)) ?_
 have hS:=hS.free;cases cs with
 |nil =>
  refine rz (show(!(List.map chS []).isEmpty)=false from rfl) <| t_bool ?_
  refine if_f ?_;refine r_str hS ?_;clear hS;intro t s hS;exact⟨[(L,_)],_,_,⟨rfl,rfl⟩,hS.nil.push (.str _ _)⟩
 |cons ch r =>
  refine rz (show(!(List.map chS (ch::r)).isEmpty)=true from rfl) <| t_bool ?_
  refine if_t ?_;refine m_call ?_ (by with_unfolding_all rfl) (by with_unfolding_all rfl) (by with_unfolding_all rfl)
  refine r_free hS hE (by repeat (first | exact .head _ | apply List.Mem.tail)) (by repeat (first | exact .head _ | apply List.Mem.tail)) (by repeat (first | exact .head _ | apply List.Mem.tail)) ?_ (by decide +kernel) (by decide +kernel)
  refine Kon.raw ?_;clear hS;intro s hS;refine g_listm PySem.F.slot_list_pop PySem.F.type_list_pop (by apply St.isl hS;repeat (first | exact .head _ | apply List.Mem.tail)) ?_
  refine c_meth ?_ (by with_unfolding_all rfl) (by with_unfolding_all rfl)
  refine C5 ?_ (by with_unfolding_all rfl)
  refine r_int hS ?_;clear hS;intro t s hS;refine i_nil ?_;refine r_popat (k:=0) (d:=chS ch) hS (.there (.there (.there (.there .here)))) (by decide) (by simp[seqIndex?]) rfl (by simp[sizeLine_eq] at h1⊢;exact(ar [_] Aa (.n 16777215) (.c 1 Aa (.n 99999) .z) 0 rfl h1)) ?_
  refine Kon.str ?_;clear hS;intro t s hS;exact⟨[(L,_)],_,_,⟨rfl,rfl⟩,hS.nil.push (.str _ _)⟩
structure LxP where
 (x dx pb st D rd c1 cell lf:Addr)
 (ctv doc pm:Value)
 lam:FuncData
noncomputable abbrev lxD(p:LxP)(n:Int):Od:=[("lineno",some (.int n)),("instream",some (Rf p.st)),("whitespace",some (.str "\n\t\r ")),("pushback",some (Rf p.pb))]
noncomputable abbrev LxX(p:LxP)(n:Int)(ps:Lp)(cs:List Nat):Xs:=[(p.x,Ins 143 p.dx),(p.dx,.obj (lxD p n)),(p.pb,.seq (.type "list") none ps),(p.st,FnD p.lam p.D),(p.D,.obj [("read",some (Rf p.rd))]),(p.rd,FnN (rdFd p.cell p.c1 p.ctv p.doc p.pm)),(p.c1,CodeK "_law_stream.<locals>._law_read"),(p.cell,.cell (some (Rf p.lf))),(p.lf,.seq (.type "list") none (cs.map chS))]
noncomputable def lnOf(n:Int)(cs:List Nat):Int:=if cs.head? = some 10 then n+1 else n
theorem nl10{l:List Nat}:((⟨(l.take 1).toArray⟩:Str) == ("\n" : Str))=decide (l.head? = some 10):=by
 have e:("\n" : Str)=⟨#[10]⟩:=by decide +kernel
 refine rz (e ..) ?_;cases l with
 |nil=>rfl
 |cons a r =>
  by_cases h:a=10
  ·subst h;simp
  ·refine rz (decide_eq_false (by simpa using h) ..) <| beq_eq_false_iff_ne.mpr fun q=>h (by simpa using q)
variable{prog:Program}{w:World}{K:Frag}
noncomputable abbrev partD(p:Str × Str):PyData:=.tuple [.str p.1,.str p.2]
noncomputable abbrev AccX(x dx:Addr)(ps:List (Str × Str)):Xs:=[(x,.seq (.ref 101) (some dx) (ps.map partD)),(dx,.obj [("_initial_size",some (.int 0))])]
theorem part_ok(H:KOk2 prog K)(x dx:Addr)(ps:List (Str × Str)) :
  Fn prog w K 2 98 (AccX x dx ps) [Rf x] (fun d B'=>d=.int ps.length∧B'=AccX x dx ps):=by
 refine law_fnA H (dv:=[]) (dd:=[]) ["self"] [("self",.local),("__class__",.free),("super",.globalImplicit)] (fun L=>[(L,.map [("self",some (Rf x))])]) (fd:=accM 8 "_Accumulator.part_count" [("__class__",25)] .none 97 (.ref 91)) (gE 21 rfl) (Eg rfl) ?_ ?_ (fun V V=>.nil) ?_ ?_ ?_ ?_ ?_ ?_ ?_ ?_
 ·kernel_rfl!
 ·decide +kernel
 ·intro vs A s E Q hv hK hq;obtain⟨v0,rfl⟩:=len1 hv;have e:bindArgs (accM 8 "_Accumulator.part_count" [("__class__",25)] .none 97 (.ref 91)) ⟨[v0],[]⟩=pure ([("self" : Str)].zip [v0]):=by kernel_rfl!
  exact wpAny_of_eq e hq
 ·decide +kernel
 ·rfl
 ·decide +kernel
 ·intro L;kernel_rfl!
 ·intro L;kernel_rfl!
 rotate_left
 ·intro d B' hp;obtain⟨_,rfl⟩:=hp;simp
 clear H
 intro A c s L oA H hK hS hE;refine at_ret ?_;simp only[cons_append,nil_append] at hS;refine sup_call supB_len H hS (by repeat (first | exact .head _ | apply List.Mem.tail)) hE (by repeat (first | exact .head _ | apply List.Mem.tail)) (.head _) (.head _) (by repeat (first | exact .head _ | apply List.Mem.tail)) (by repeat (first | exact .head _ | apply List.Mem.tail)) (gE 21 rfl) rfl rfl rfl H.cfile.2.2 (by kernel_rfl) (by decide +kernel) (by decide +kernel) (fun q s hS hb=>?_) (by intro _;rfl)
 refine b_len hS H.subF hb (by repeat (first | exact .head _ | apply List.Mem.tail)) fun t s hS=>?_
 refine rz (length_map ..) <| ⟨[(L,_)],_,_,_,⟨rfl,rfl⟩,hS,.int _ _⟩
theorem push_ok(H2:KOk2 prog K)(x dx:Addr)(ps:List (Str × Str))(a1 b1:Str)(h1:ps.length≤100000) :
  Fn prog w K 2 45 (AccX x dx ps) [Rf x,.str a1,.str b1] (fun d B'=>d=.none∧B'=AccX x dx (ps++[(a1,b1)])):=by
 have H:=H2.toKOk;refine law_fn H ["self","fws","string"] [("self",.local),("fws",.local),("string",.local)] (fun L=>[(L,.map [("self",some (Rf x)),("fws",some (.str a1)),("string",some (.str b1))])]) (fun L=>[]) (fd:=accM 1 "_Accumulator.push" [] .none 44 .none) (gE 18 rfl) (Eg rfl) ?_ ?_ ?_ ?_ ?_ ?_ ?_ ?_ ?_
 ·kernel_rfl!
 ·decide +kernel
 ·intro vs hv;obtain⟨v0,v1,v2,rfl⟩:=len3 hv
  kernel_rfl!
 ·decide +kernel
 ·kernel_rfl!
 ·intro L;kernel_rfl!
 ·intro L;kernel_rfl!
 rotate_left
 ·intro d B' hp;obtain⟨_,hp⟩:=hp
  first | (subst hp;simp;done) | (obtain⟨_,rfl⟩:=hp;simp;done)
 clear H
 intro A c s L oA H hK hS hE
 replace H2:KOk2 prog c.K:=hK▸H2
 clear hK
 generalize fnEnv (accM 1 "_Accumulator.push" [] .none 44 .none) L 45=env at hE⊢
 change wpAny (model prog w) A (execs (Stmt.Expr _ _::_) _) _ _ _
 simp only[cons_append,nil_append] at hS;refine x_expr ?_ (Gs hE) (by with_unfolding_all rfl)
 refine m_call ?_ (by with_unfolding_all rfl) (by with_unfolding_all rfl) (by with_unfolding_all rfl)
 refine Ct hS hE (by repeat (first | exact .head _ | apply List.Mem.tail)) (by repeat (first | exact .head _ | apply List.Mem.tail)) (by repeat (first | exact .head _ | apply List.Mem.tail)) ?_ (by decide +kernel)
 refine Kon.raw ?_;clear hS;intro s hS;refine g_acca H2 hS (by repeat (first | exact .head _ | apply List.Mem.tail)) (by repeat (first | exact .head _ | apply List.Mem.tail)) (by with_unfolding_all rfl) ?_
 refine c_meth ?_ (by with_unfolding_all rfl) (by with_unfolding_all rfl)
 refine C5 ?_ (by with_unfolding_all rfl)
 refine r_tuple (c:=c) ?_;refine C5 ?_ (by with_unfolding_all rfl)
 refine Ct hS hE (by repeat (first | exact .head _ | apply List.Mem.tail)) (by repeat (first | exact .head _ | apply List.Mem.tail)) (by repeat (first | exact .head _ | apply List.Mem.tail)) ?_ (by decide +kernel)
 refine Kon.str ?_;clear hS;intro t s hS;refine C5 ?_ (by with_unfolding_all rfl)
 refine Ct hS hE (by repeat (first | exact .head _ | apply List.Mem.tail)) (by repeat (first | exact .head _ | apply List.Mem.tail)) (by repeat (first | exact .head _ | apply List.Mem.tail)) ?_ (by decide +kernel)
 refine Kon.str ?_;clear hS;intro t s hS;refine i_nil ?_;refine seq_ok hS (by repeat first | exact .nil | (apply Rps.cons;first | (apply St.rp hS;(repeat (first | exact .head _ | apply List.Mem.tail));done) | exact .int _ _ | exact .str _ _ | exact .raw _ | exact .none)) (by with_unfolding_all rfl) ?_;clear hS;intro a s hS
 refine i_nil ?_;refine a_append hS H2.subF (by first | (apply St.rp hS;(repeat (first | exact .head _ | apply List.Mem.tail));done) | exact .int _ _ | exact .str _ _ | exact .raw _ | exact .none) (by repeat first | exact Ups.here | apply Ups.there) ?_ ?_;rotate_left;clear hS;intro s hS
 refine x_nil ?_
 ·exact⟨[(L,_)],_,_,_,⟨rfl,by simp[AccX]⟩,hS,.none⟩
 ·refine rz (length_map ..) <| rz (sizeLine_eq ..) <| (ar [_] Aa Aq (.c 1 Aa A1 .z) 0 rfl h1)
theorem pop_ok(H2:KOk2 prog K)(x dx:Addr)(ps:List (Str × Str))(h1:ps.length≤100000) :
  Fn prog w K 3 61 (AccX x dx ps) [Rf x] (fun d B'=>d=partD (ps.getLastD ("",""))∧B'=AccX x dx ps.dropLast):=by
 refine law_fnA H2 (dv:=[]) (dd:=[]) ["self"] [("self",.local),("__class__",.free),("super",.globalImplicit)] (fun L=>[(L,.map [("self",some (Rf x))])]) (fd:=accM 3 "_Accumulator.pop" [("__class__",25)] .none 60 (.ref 54)) (gE 19 rfl) (Eg rfl) ?_ ?_ (fun V V=>.nil) ?_ ?_ ?_ ?_ ?_ ?_ ?_ ?_
 ·kernel_rfl!
 ·decide +kernel
 ·intro vs A s E Q hv hK hq;obtain⟨v0,rfl⟩:=len1 hv;have e:bindArgs (accM 3 "_Accumulator.pop" [("__class__",25)] .none 60 (.ref 54)) ⟨[v0],[]⟩=pure ([("self" : Str)].zip [v0]):=by kernel_rfl!
  exact wpAny_of_eq e hq
 ·decide +kernel
 ·rfl
 ·decide +kernel
 ·intro L;kernel_rfl!
 ·intro L;kernel_rfl!
 rotate_left
 ·intro d B' hp;obtain⟨_,rfl⟩:=hp;simp
 clear H2
 intro A c s L oA H2 hK hS hE;have H:=H2.toKOk;refine at_cons ?_
 change wpAny (model prog w) A (execs (Stmt.If _ _ _ _::_) _) _ _ _
 simp only[cons_append,nil_append] at hS;refine x_if ?_
 refine t_cmp ?_ (by with_unfolding_all rfl)
 refine m_call ?_ (by with_unfolding_all rfl) (by with_unfolding_all rfl) (by with_unfolding_all rfl)
 refine Ct hS hE (by repeat (first | exact .head _ | apply List.Mem.tail)) (by repeat (first | exact .head _ | apply List.Mem.tail)) (by repeat (first | exact .head _ | apply List.Mem.tail)) ?_ (by decide +kernel)
 refine Kon.raw ?_;clear hS;intro s hS;refine g_accm H hS (by repeat (first | exact .head _ | apply List.Mem.tail)) (by repeat (first | exact .head _ | apply List.Mem.tail)) (by repeat (first | exact .head _ | apply List.Mem.tail)) (by with_unfolding_all rfl) ?_
 refine c_first0 hS (H.keep (gE 21 rfl)) ?_;refine r_keep oA rfl (part_ok (w:=w) H2 x dx ps) hS ⟨[(L,_)],by(try simp only[cons_append,nil_append]);repeat first | exact List.Perm.refl _ | (refine perm_pull (by repeat first | exact Pull.here | apply Pull.there) ?_)⟩ (by repeat first | exact .nil | (apply Rps.cons;first | (apply St.rp hS;(repeat (first | exact .head _ | apply List.Mem.tail));done) | exact .int _ _ | exact .str _ _ | exact .raw _ | exact .none)) ?_
 refine Kon.int ?_;clear hS;intro t s hS;refine r_int hS ?_;clear hS;intro t s hS;refine r_eqint ?_;refine t_bool ?_;obtain rfl | ⟨r,p,rfl⟩:ps=[]∨∃ r p,ps=r++[p]:=by
  rcases ps.eq_nil_or_concat with h | ⟨r,p,h⟩
  ·exact .inl h
  ·exact .inr ⟨r,p,by refine rz (h ..) <| rz (List.concat_eq_append ..) rfl⟩
 ·refine rz (show(((([]:List (Str × Str)).length:Nat):Int) == 0)=true from rfl) <| if_t ?_
  refine E9 ?_;refine r_tuple (c:=c) ?_;refine C5 ?_ (by with_unfolding_all rfl)
  refine r_str hS ?_;clear hS;intro t s hS;refine C5 ?_ (by with_unfolding_all rfl)
  refine r_str hS ?_;clear hS;intro t s hS;refine i_nil ?_;refine seq_ok hS (by repeat first | exact .nil | (apply Rps.cons;first | (apply St.rp hS;(repeat (first | exact .head _ | apply List.Mem.tail));done) | exact .int _ _ | exact .str _ _ | exact .raw _ | exact .none)) (by with_unfolding_all rfl) ?_;clear hS;intro a s hS
  refine k_ret ?_;exact⟨[(L,_)],_,_,_,⟨rfl,rfl⟩,hS,hS.tmp _ (.head _)⟩
 ·refine rz (show((((r++[p]).length:Nat):Int) == 0)=false by simp;exact(fun q0=>(not_succ_le_zero 0 (not_succ_le_zero 0 (an [_] [] Ad Al (.i 1 (.a (.c Aa) Ah) Aj .z) 0 rfl (Int.le_of_eq q0))).elim))) <| if_f ?_
  refine x_nil ?_;refine k_next ?_;refine x_nil ?_;refine at_ret ?_;rw[show AccX x dx (r++[p])=[(x,.seq (.ref 101) (some dx) (r.map partD++[partD p])),(dx,.obj [("_initial_size",some (.int 0))])] by simp[AccX]] at hS
  refine sup_call supB_pop H2 hS (by repeat (first | exact .head _ | apply List.Mem.tail)) hE (by repeat (first | exact .head _ | apply List.Mem.tail)) (.head _) (.head _) (by repeat (first | exact .head _ | apply List.Mem.tail)) (by repeat (first | exact .head _ | apply List.Mem.tail)) (gE 19 rfl) rfl rfl rfl H2.cfile.2.1 (by kernel_rfl) (by decide +kernel) (by decide +kernel) (fun q s hS hb=>?_) (by intro _;rfl)
  refine b_pop H2 hS hb (by repeat first | exact Ups.here | apply Ups.there) (by simp at h1⊢;exact(ar [_] Aa A1 (.c 1 Aa (.n 99999) .z) 0 rfl h1)) ?_
  intro v s hS;exact⟨[(L,_)],_,_,_,⟨by simp,by simp⟩,hS,hS.tmp _ (.head _)⟩
theorem accinit_ok(H2:KOk2 prog K)(x dx:Addr) :
  Fn prog w K 3 38 [(x,.seq (.ref 101) (some dx) []),(dx,.obj [("_initial_size",none)])] [Rf x] (fun d B'=>d=.none∧B'=AccX x dx []):=by
 refine law_fnA H2 (dv:=[.int 0 210]) (dd:=[.int 0]) ["self","initial_size"] [("self",.local),("initial_size",.local),("__class__",.free),("super",.globalImplicit)] (fun L=>[(L,.map [("self",some (Rf x)),("initial_size",some (.int 0))])]) (fd:=accM 0 "_Accumulator.__init__" [("__class__",25)] (.ref 30) 37 (.ref 31)) (gE 17 rfl) (Eg rfl) ?_ ?_ (fun V V=>.cons (.int _ _) .nil) ?_ ?_ ?_ ?_ ?_ ?_ ?_ ?_
 ·kernel_rfl!
 ·decide +kernel
 ·intro vs A s E Q hv hK hq;obtain⟨v0,rfl⟩:=len1 hv;exact BindsTo.of_defaults (fd:=accM 0 "_Accumulator.__init__" [("__class__",25)] (.ref 30) 37 (.ref 31)) (args:=⟨[v0],[]⟩) (T:=30) rfl (hK _ _ H2.d30) rfl (by unfold bindArgs;rfl) (by kernel_rfl) _ _ _ _ hq
 ·decide +kernel
 ·rfl
 ·decide +kernel
 ·intro L;kernel_rfl!
 ·intro L;kernel_rfl!
 rotate_left
 ·intro d B' hp;obtain⟨_,rfl⟩:=hp;simp
 clear H2
 intro A c s L oA H2 hK hS hE;have H:=H2.toKOk;refine at_cons ?_
 change wpAny (model prog w) A (execs (Stmt.Assign _ _ _::_) _) _ _ _
 simp only[cons_append,nil_append] at hS;refine x_setattr ?_ (by with_unfolding_all rfl)
 refine Ct hS hE (by repeat (first | exact .head _ | apply List.Mem.tail)) (by repeat (first | exact .head _ | apply List.Mem.tail)) (by repeat (first | exact .head _ | apply List.Mem.tail)) ?_ (by decide +kernel)
 refine Kon.int ?_;clear hS;intro t s hS;refine Ct hS hE (by repeat (first | exact .head _ | apply List.Mem.tail)) (by repeat (first | exact .head _ | apply List.Mem.tail)) (by repeat (first | exact .head _ | apply List.Mem.tail)) ?_ (by decide +kernel)
 refine Kon.raw ?_;clear hS;intro s hS;refine s_acc H hS (by repeat (first | exact .head _ | apply List.Mem.tail)) (by first | (apply St.rp hS;(repeat (first | exact .head _ | apply List.Mem.tail));done) | exact .int _ _ | exact .str _ _ | exact .raw _ | exact .none) (by repeat first | exact Ups.here | apply Ups.there) (by repeat first | exact Put.here | apply Put.there) (by decide +kernel) ?_;clear hS;intro s hS
 refine x_nil ?_;refine at_expr ?_ (Gs hE) (by with_unfolding_all rfl)
 refine sup_call supB_init H2 hS (by repeat (first | exact .head _ | apply List.Mem.tail)) hE (by repeat (first | exact .head _ | apply List.Mem.tail)) (.head _) (.head _) (by repeat (first | exact .head _ | apply List.Mem.tail)) (by repeat (first | exact .head _ | apply List.Mem.tail)) (gE 17 rfl) rfl rfl rfl H2.cfile.1 (by kernel_rfl) (by decide +kernel) (by decide +kernel) (fun q s hS hb=>?_) (by intro _;rfl)
 refine b_init hS H2.subF hb (by repeat (first | exact .head _ | apply List.Mem.tail)) ?_
 intro v s hS;exact⟨[(L,_)],_,_,_,⟨rfl,rfl⟩,hS,.none⟩
variable{prog:Program}{w:World}{K:Frag}
theorem accstr_ok(H2:KOk2 prog K)(x dx:Addr)(ps:List (Str × Str))(h1:ps.length≤1000)(hl:∀ p∈ps,p.1.length+p.2.length≤1000) :
  Fn prog w K 2 75 (AccX x dx ps++[(70,TabK)]) [Rf x] (fun d B'=>d=.str (catsP ps)∧B'=AccX x dx ps++[(70,TabK)]):=by
 have H:=H2.toKOk;refine law_fn H ["self"] [("self",.local),("EMPTYSTRING",.globalImplicit)] (fun L=>[(L,.map [("self",some (Rf x))])]) (fun L=>[]) (fd:=accM 5 "_Accumulator.__str__" [] .none 74 .none) (gE 20 rfl) (Eg rfl) ?_ ?_ ?_ ?_ ?_ ?_ ?_ ?_ ?_
 ·kernel_rfl!
 ·decide +kernel
 ·intro vs hv;obtain⟨v0,rfl⟩:=len1 hv
  kernel_rfl!
 ·decide +kernel
 ·kernel_rfl!
 ·intro L;kernel_rfl!
 ·intro L;kernel_rfl!
 rotate_left
 ·intro d B' hp;obtain⟨_,hp⟩:=hp
  first | (subst hp;simp;done) | (obtain⟨_,rfl⟩:=hp;simp;done)
 clear H
 intro A c s L oA H hK hS hE
 replace H2:KOk2 prog c.K:=hK▸H2
 clear hK
 have hcode:(fnEnv (accM 5 "_Accumulator.__str__" [] .none 74 .none) L 75).code=.ref 74:=rfl;generalize fnEnv (accM 5 "_Accumulator.__str__" [] .none 74 .none) L 75=env at hE hcode⊢
 change wpAny (model prog w) A (execs (Stmt.Return _ _::_) _) _ _ _
 simp only[cons_append,nil_append] at hS;refine E9 ?_
 refine m_call ?_ (by with_unfolding_all rfl) (by with_unfolding_all rfl) (by with_unfolding_all rfl)
 refine r_glob hS hE (by repeat (first | exact .head _ | apply List.Mem.tail)) (H.glob (_,_) (by unfold E1;repeat (first | exact .head _ | apply List.Mem.tail))) ?_ (by decide +kernel)
 refine g_strm PySem.F.slot_str_join PySem.F.type_str_join ?_;refine c_meth ?_ (by with_unfolding_all rfl) (by with_unfolding_all rfl)
 refine C5 ?_ (by with_unfolding_all rfl)
 refine wpAny_mono (r_strgen (ps:=ps) H2 oA hS (by repeat (first | exact .head _ | apply List.Mem.tail)) (by repeat (first | exact .head _ | apply List.Mem.tail)) hE (by repeat (first | exact .head _ | apply List.Mem.tail)) (by repeat (first | exact .head _ | apply List.Mem.tail)) (by repeat (first | exact .head _ | apply List.Mem.tail)) hcode rfl rfl rfl hl h1 rfl ?_) (fun v s₁ h=>i_nil h) fun V V e=>e
 intro t s hS;exact⟨[(L,_)],_,_,_,⟨rfl,rfl⟩,hS,.str _ _⟩
section
variable{A:Around}{E:VP}{c:Cx}{X:Xs}{T:Ts}{s:Shared}{Q:VP}
theorem r_stracc{x dx:Addr}{ps:List (Str × Str)}(H2:KOk2 prog c.K)(oA:OkA 4 A)(S:St c X T s)(hp:∃ Y,X.Perm ((AccX x dx ps++[(70,TabK)])++Y))(h1:ps.length≤1000)(hl:∀ p∈ps,p.1.length+p.2.length≤1000)(k:Kon c X T (.str (catsP ps)) Q) :
  wpAny (model prog w) A (call (.type "str") [.ref x]) Q E s:=by
 obtain⟨Y,hp'⟩:=hp;have hi:(x,Knd.seq (.ref 101) (some dx) (ps.map partD))∈X:=hp'.mem_iff.mpr (.head _);have hd:(dx,Knd.obj [("_initial_size",some (.int 0))])∈X:=hp'.mem_iff.mpr (.tail _ (.head _));obtain⟨ox,od,m,I,_⟩:=S.inst (.inr ⟨_,hi⟩) hd;have hc:(101,"list.__getattribute__",_,_)∈clTab:=.head _;obtain⟨h1',h2'⟩:=(H2.clF hc).2.1 ("__str__",75) (.tail _ (.tail _ (.tail _ (.head _))));have o2:OkA 2 A.in1.in1:=oA.in1.in1;refine kso_call ?_ S.stat I h1' (by unfold isFn;refine rz (h2' ..) ?_;rfl) ?_
 ·obtain⟨_,_,u,_,_⟩:=o2;have h:(9000:Nat)<cLine:=by decide
  exact(ar [_,_] (.a Aa Ad) Ab (.c 1 (.a Aa (.m 100 (.n 2))) (.n 9000) (.c 1 (.a (.n 9000) Ad) Ab .z)) 0 rfl u h)
 ·refine r_keep o2 rfl (accstr_ok (w:=w) H2 x dx ps h1 hl) S ⟨Y,hp'⟩ (.cons (.raw _) .nil) ?_;refine Kon.str fun t s' S'=>?_
  exact k _ s' (S'.push (.str _ _))
theorem r_makeacc{n:Nat}(H2:KOk2 prog c.K)(oA:OkA 4 A)(S:St c X T s)(k:∀ x dx s',St c (AccX x dx []++X) T s'→Q (.ref x) s'):wpAny (model prog w) A (call (.ref 101) []) Q E s:=by
 have hc:(101,"list.__getattribute__",_,_)∈clTab:=.head _;obtain⟨hi,hf⟩:=(H2.clF hc).2.1 ("__init__",38) (.head _);obtain⟨hh,g,d,t,os⟩:=s;refine wpAny_call (make_L (madeL_of S.stat H2.mks.2.2) (looks_findIn S.stat hi) (fun self=>bind_fn S.stat self hf) ?_)
 have S1:St c ((hh.objs.size,.obj [("_initial_size",none)])::X) T ⟨hh.push emptyDict,g,d,t,os⟩:=S.own_push (o:=emptyDict) (k:=.obj [("_initial_size",none)]) ⟨by decide +kernel,by decide,fun V=>none,Heap.Ns1.of_empty (Heap.Ns.new hh (.type "dict")),fun x d h=>(by simp at h),fun V V=>rfl⟩
 have S2:=S1.own_push (o:=subL 101 hh.objs.size #[] 0) (k:=.seq (.ref 101) (some hh.objs.size) []) (t:=t) ⟨_,_,Heap.get?_push_size _ rfl,.nil⟩;rw[show({ heap:=hh.push emptyDict,gens:=g,drawn:=d,toks:=t,os:=os }:Shared).heap.objs.size=hh.objs.size+1 from Heap.size_push ..] at S2
 refine accinit_ok (w:=w) H2 (hh.objs.size+1) hh.objs.size _ c X T _ _ _ oA.made rfl S2 (.cons (.raw _) .nil) fun v d B' s' hp S'=>?_
 obtain⟨rfl,rfl⟩:=hp;have r:=S'.tmp _ (.head _);have e:v=.none:=by
  cases r with
  |none=>rfl
 exact⟨e,k _ hh.objs.size s' (S'.drop fun q hq=>.tail _ hq)⟩
end
variable{prog:Program}{w:World}{K:Frag}
noncomputable def colStep(size:Int)(col:Int)(n:Nat):Int:=if n=32 then col+1 else col-col.fmod size+size
noncomputable def colOf(size:Int)(l:List Nat):Int:=l.foldl (colStep size) 0
theorem column_ok(H:KOk K)(x:Str)(size:Int)(hs:size≠0):Pure prog w K 3 251 [.str x,.int size] (.int (colOf size x.cps.toList)):=by
 refine lawV H 4 rfl (by decide +kernel) (by intro vs hv;obtain⟨v0,v1,rfl⟩:=len2 hv;kernel_rfl!) fun g=>?_
 refine LFor.m (f:=fun n=>.str ⟨#[n]⟩) (fun i=>.put "column" (.int (colOf size (x.cps.toList.take i))) (.put "size" (.int size) .nil)) (.mk rfl rfl) (fun i n hn=>?_) ?_
 ·have e:colOf size (x.cps.toList.take (i+1))=colStep size (colOf size (x.cps.toList.take i)) n:=by
   unfold colOf;refine rz (Bl hn ..) <| rz (foldl_append ..) ?_;rfl
  refine rz (e ..) ?_;refine .mk (fun hb=>?_) (fun hb=>?_)
  ·rw[sp32] at hb;rw[colStep,if_pos (of_decide_eq_true hb)]
   exact .mk rfl rfl
  ·rw[sp32] at hb;rw[colStep,if_neg (of_decide_eq_false hb)]
   exact⟨hs,.mk rfl rfl⟩
 ·refine rz (take_length ..) <| .ok (.mk rfl)
variable{prog:Program}{w:World}{K:Frag}
noncomputable def C9(turned:List (Nat × Int))(tied:Lz):List Int:=tied.map fun so=>1+((turned.filter fun p=>decide (p.1∈so)).length:Int)
theorem visits_ok(H:KOk K)(turned:List (Nat × Int))(tied:Lz)(h1:turned.length≤1000)(h2:tied.length≤1000):Pure prog w K 3 297 [dT turned,dNN tied] (dI (C9 turned tied)):=by
 refine lawV H 12 rfl (by decide +kernel) (by intro vs hv;obtain⟨v0,v1,rfl⟩:=len2 hv;kernel_rfl!) fun g=>?_
 have h1':turned.length≤1000000:=le_trans h1 (by decide)
 refine LComp.m (f:=dN) (fun so=>.int (1+((turned.filter fun p=>decide (p.1∈so)).length:Int))) (le_trans h2 (by decide)) (fun i so hso=>⟨trivial,?_⟩) (.frz (.mk (by refine rz (map_ints ..) ?_;rfl)))
 refine LComp.t (f:=fun p:Nat × Int=>.tuple [.int (p.1:Nat),.int p.2]) (fun p=>.int (p.1:Nat)) (fun p=>decide (p.1∈so)) h1' (fun i p hp=>?_) (.frz ?_)
 ·exact LIn.n (.mk (fun e=>⟨e,.mk rfl rfl⟩) fun e=>⟨e,rfl⟩)
 ·have:=length_filter_le (fun p:Nat × Int=>decide (p.1∈so)) turned
  exact⟨by refine rz (length_map ..) <| (ar [_,_] (.a Ab Ad) Ax (.c 1 Aa Am (.c 1 Ab Aa .z)) 0 rfl h1 this),.mk (rz (length_map ..) rfl) rfl⟩
variable{prog:Program}{w:World}{K:Frag}
noncomputable def cutOf(turned:List (Nat × Int)):List Nat→Nat→List (List Int)
 |[],_=>[]
 |n::r,place=>isort (((turned.drop place).take n).map fun p=>((p.1:Nat):Int))::cutOf turned r (place+n)
theorem cutOf_append(turned:List (Nat × Int))(a b:List Nat)(p:Nat):cutOf turned (a++b) p=cutOf turned a p++cutOf turned b (p+a.sum):=by
 induction a generalizing p with
 |nil=>simp[cutOf]
 |cons n r ih=>simp[cutOf,ih,Nat.add_assoc]
theorem cut_ok(H:KOk K)(turned:List (Nat × Int))(sizes:List Nat)(h1:turned.length<64)(h2:sizes.sum≤turned.length)(h3:sizes.length≤1000):Pure prog w K 3 302 [dT turned,dN sizes] (.list ((cutOf turned sizes 0).map dI)):=by
 have cl:∀ (l:List Nat) (p:Nat),(cutOf turned l p).length=l.length:=by
  intro l
  induction l with
  |nil=>intro p;rfl
  |cons n r ih=>intro p;simp[cutOf,ih]
 have h1':turned.length≤1000000:=le_trans (le_of_lt h1) (by decide)
 refine lawV H 13 rfl (by decide +kernel) (by intro vs hv;obtain⟨v0,v1,rfl⟩:=len2 hv;kernel_rfl!) fun g=>?_
 refine .own fun b=>?_
 refine LFor.m (f:=fun n:Nat=>.int (n:Nat)) (fun i=>.obj b (.seq (.type "list") none ((cutOf turned (sizes.take i) 0).map dI)) (.put "place" (.int ((sizes.take i).sum:Nat)) (.put "pieces" (Rf b) (.put "turned" (dT turned) .nil)))) (.mk rfl rfl) (fun i n hn=>?_) ?_
 ·have htk:=Bl hn;have hsum:(sizes.take i).sum+n≤turned.length:=by
   have e:(sizes.take (i+1)).sum=(sizes.take i).sum+n:=by refine rz (htk ..) ?_;simp
   have h:=sum_append (l₁:=sizes.take (i+1)) (l₂:=sizes.drop (i+1));rw[take_append_drop] at h;exact(ar [_,_,_,_,_,_] (.a Ag An) Ab (.c 1 Aa Ab (.c 1 (.a Ag An) (.v 4) (.c 1 (.a (.v 4) (.v 5)) Aa .z))) 0 rfl h2 (le_of_eq e.symm) (le_of_eq h.symm))
  have e1:cutOf turned (sizes.take (i+1)) 0=cutOf turned (sizes.take i) 0++[isort (((turned.drop (sizes.take i).sum).take n).map fun p=>((p.1:Nat):Int))]:=by
   refine rz (htk ..) <| rz (cutOf_append ..) ?_;simp[cutOf]
  have e2:(((sizes.take (i+1)).sum:Nat):Int)=(((sizes.take i).sum:Nat):Int)+(n:Nat):=by refine rz (htk ..) ?_;simp
  refine rz (e1 ..) <| rz (e2 ..) ?_
  have hc:(cutOf turned (sizes.take i) 0).length≤1000000:=by refine rz (cl ..) <| rz (length_take ..) <| (ar [_,_] Ab Ap (.c 1 Aa Am (.c 1 Ab Aa .z)) 0 rfl h3 (min_le_right ..))
  generalize cutOf turned (sizes.take i) 0=cu at hc⊢
  generalize (sizes.take i).sum=pl at hsum⊢
  refine LObj.m 0 rfl ⟨⟨by decide,by refine rz (length_map ..) <| A4 h1'⟩,.frz ?_⟩
  refine rz (Cy ..) <| rz (pick_mid _ _ _ hsum ..) ?_
  have hl:((turned.drop pl).take n).length<64:=by simp;exact(ar [_,_,_] (.a Ab Ad) (.n 64) (.c 1 (.a Aa Ad) (.n 64) (.c 1 Ab Ag (.c 1 Ag Aa .z))) 0 rfl h1 (min_le_right ..) (sub_le ..))
  generalize (turned.drop pl).take n=tn at hl⊢
  refine LComp.m (f:=fun p:Nat × Int=>.tuple [.int (p.1:Nat),.int p.2]) (fun p=>.int (p.1:Nat)) (le_trans (le_of_lt hl) (by decide)) (fun i p hp=>⟨trivial,.mk rfl rfl⟩) (.frz (LInts.m _ ⟨by refine rz (length_map ..) <| hl,.frz ?_⟩))
  exact LApp.m (f:=dI) 0 rfl hc (.mk rfl rfl)
 ·refine rz (take_length ..) <| .ok (.frz b _ 0 rfl rfl rfl)
variable{prog:Program}{w:World}{K:Frag}
noncomputable def stepJ(k:Nat)(l:List Int)(j:Nat):List Int:=l.set j (l.getD j 0+l.getD k 0)
noncomputable def A9(tied:Lz)(l:List Int)(k:Nat):List Int:=((tied.getD k []).foldl (stepJ k) l).set k (-(((tied.getD k []).foldl (stepJ k) l).getD k 0))
theorem stepJ_len(k:Nat)(l:List Int)(j:Nat):(stepJ k l j).length=l.length:=by simp[stepJ]
theorem C7(k:Nat)(js:List Nat):∀ (l:List Int),(js.foldl (stepJ k) l).length=l.length:=by
 induction js with
 |nil=>intro l;rfl
 |cons j r ih=>intro l;refine rz (foldl_cons ..) <| rz (ih ..) <| rz (stepJ_len ..) rfl
theorem Cf(tied:Lz)(l:List Int)(k:Nat):(A9 tied l k).length=l.length:=by simp[A9,C7]
noncomputable def ledOf(tied:Lz)(turned:List (Nat × Int))(l:List Int):List Int:=turned.foldl (fun l p=>A9 tied l p.1) l
theorem ledOf_len(tied:Lz)(turned:List (Nat × Int)):∀ (l:List Int),(ledOf tied turned l).length=l.length:=by
 unfold ledOf
 induction turned with
 |nil=>intro l;rfl
 |cons p r ih=>intro l;refine rz (foldl_cons ..) <| rz (ih ..) <| rz (Cf ..) rfl
theorem led_ok(H:KOk K)(turned:List (Nat × Int))(tied:Lz)(numbers:List Int)(h1:turned.length≤1000)(h2:tied.length=numbers.length)(h3:numbers.length≤1000)(h4:∀ p∈turned,p.1<numbers.length)(h5:∀ js∈tied,(∀ j∈js,j<numbers.length)∧js.length≤1000) :
  Pure prog w K 3 309 [dT turned,dNN tied,dI numbers] (dI (ledOf tied turned numbers)):=by
 have h3':numbers.length≤1000000:=le_trans h3 (by decide)
 refine lawV H 14 rfl (by decide +kernel) (by intro vs hv;obtain⟨v0,v1,v2,rfl⟩:=len3 hv;kernel_rfl!) fun g=>?_
 refine⟨by refine rz (length_map ..) <| A4 h3',.own fun b=>?_⟩
 refine LFor.m (fun i=>.obj b (.seq (.type "list") none ((ledOf tied (turned.take i) numbers).map .int)) (.put "left" (Rf b) (.put "tied" (dNN tied) .nil))) (.mk rfl rfl) (fun i p hp=>?_) ?_
 ·have hk:=h4 p (List.mem_of_getElem? hp);have e1:ledOf tied (turned.take (i+1)) numbers=A9 tied (ledOf tied (turned.take i) numbers) p.1:=by refine rz (Bl hp ..) ?_;simp[ledOf]
  have hlen:=ledOf_len tied (turned.take i) numbers;refine rz (e1 ..) ?_;generalize ledOf tied (turned.take i) numbers=l at hlen⊢
  have hz:l.length≤1000000:=hlen▸h3';have hk':p.1<l.length:=hlen▸hk;obtain⟨hjs,hjl⟩:=h5 (tied.getD p.1 []) (List.mem_of_getElem? (Ef (h2▸hk)));refine LGet.m (Ef (h2▸hk)) (h2▸h3') ?_;unfold A9;generalize tied.getD p.1 []=js at hjs hjl
  refine LFor.m (fun i'=>.obj b (.seq (.type "list") none (((js.take i').foldl (stepJ p.1) l).map .int)) (.put "left" (Rf b) (.put "tied" (dNN tied) (.put "k" (.int (p.1:Nat)) .nil)))) (.mk rfl rfl) (fun i' j hj=>?_) (.ok ?_)
  ·have hjk:=hjs j (List.mem_of_getElem? hj);have e2:(js.take (i'+1)).foldl (stepJ p.1) l=stepJ p.1 ((js.take i').foldl (stepJ p.1) l) j:=by refine rz (Bl hj ..) ?_;simp
   have hl2:=C7 p.1 (js.take i') l;refine rz (e2 ..) ?_;generalize (js.take i').foldl (stepJ p.1) l=l' at hl2⊢
   have hz':l'.length≤1000000:=hl2▸hz;have hj':j<l'.length:=hl2▸hlen▸hjk;refine LObj.m 0 rfl (LGetP.m (getD_get hj') hz' (LObj.m 0 rfl (LGet.m (getD_get (hl2▸hk')) hz' ?_)));exact LSet.m (f:=.int) (x:=l'.getD j 0+l'.getD p.1 0) 0 rfl hj' hz' (.mk rfl rfl)
  ·have hl2:=C7 p.1 js l;refine rz (take_length ..) ?_;generalize js.foldl (stepJ p.1) l=l' at hl2⊢
   have hz':l'.length≤1000000:=hl2▸hz;refine LObj.m 0 rfl (LGet.m (getD_get (hl2▸hk')) hz' ?_);exact LSet.m (f:=.int) (x:=-l'.getD p.1 0) 0 rfl (hl2▸hk') hz' (.mk rfl rfl)
 ·refine rz (take_length ..) <| .ok (.frz b _ 0 rfl rfl rfl)
variable{prog:Program}{w:World}{K:Frag}
noncomputable abbrev Fd:=List Int × Int × Int
noncomputable abbrev eF(p:Fd):PyData:=.tuple [dI p.1,.int p.2.1,.int p.2.2]
noncomputable def Bo(tk:List Nat)(k:Nat):List Nat:=tk.filter fun j=>decide (j<k)
noncomputable def Dr(tk:List Nat):Nat:=if 1<tk.length then 3 else 2
noncomputable def sone(ah:List Nat)(number:Int)(p:Fd)(cc:Int):Fd:=(p.1++[cc],p.2.1+cc*cc-cc*(ah.map fun j=>p.1.getD j 0).sum,p.2.2+cc*number)
noncomputable def sstep(tied:Lz)(found:List Fd)(k:Nat)(number:Int):List Fd :=
 found.flatMap fun p=>(rng 0 (Dr (tied.getD k []))).map (sone (Bo (tied.getD k []) k) number p)
noncomputable def sfold(tied:Lz)(numbers:List (Int × Nat)):List Fd:=numbers.foldl (fun f p=>sstep tied f p.2 p.1) [([],0,0)]
noncomputable def sumsOf(tied:Lz)(numbers:List Int):List Int:=isort (((sfold tied numbers.zipIdx).filter fun p=>decide (p.2.1=1)).map fun p=>p.2.2)
theorem Ft{n:Nat}:∀ {l:List Nat},(∀ y∈l,y≤n)→l.sum≤n*l.length
 |[],_=>by simp
 |y::l,h=>by
  have h1:=Ft (n:=n) (l:=l) fun z hz=>h z (.tail _ hz)
  have h2:=h y (.head _);refine rz (sum_cons ..) <| rz (length_cons ..) <| rz (Nat.mul_add ..) <| (ar [_,_,_,_] (.a Ag Aa) (.a Ab (.r An 1)) (.c 1 Aa Ab (.c 1 Ag An .z)) 0 rfl h1 h2)
theorem Fy(tk:List Nat):Dr tk≤3:=by unfold Dr;split<;>(first | exact(le_refl _) | exact(ar [] (.n 2) (.n 3) .z 0 rfl))
theorem sstep_len(tied:Lz)(f:List Fd)(k:Nat)(n:Int):(sstep tied f k n).length≤3*f.length:=by
 unfold sstep;refine rz (length_flatMap ..) <| le_trans (Ft (n:=3) ?_) (rz (length_map ..) <| (le_refl _))
 intro y hy;obtain⟨p,_,rfl⟩:=List.mem_map.mp hy;refine rz (length_map ..) <| rz (Ew ..) <| Fy _
theorem sfold_len(tied:Lz)(l:List (Int × Nat)):(sfold tied l).length≤3^l.length:=by
 unfold sfold;have:∀ (l:List (Int × Nat)) (f:List Fd),(l.foldl (fun f p=>sstep tied f p.2 p.1) f).length≤3^l.length*f.length:=by
  intro l
  induction l with
  |nil=>intro f;simp
  |cons p r ih =>
   intro f;refine rz (foldl_cons ..) <| le_trans (ih _) ?_
   refine rz (length_cons ..) <| rz (Nat.pow_succ ..) <| rz (Nat.mul_assoc ..) <| mul_le_mul_left _ (sstep_len _ _ _ _)
 simpa using this l [([],0,0)]
theorem sfold_bd(tied:Lz)(n:Nat)(l:List (Int × Nat))(hl:l.length=n):∀ p∈sfold tied l,p.1.length=n∧∀ z∈p.1,0≤z∧z≤2:=by
 unfold sfold;have:∀ (l:List (Int × Nat)) (f:List Fd) (m:Nat),(∀ p∈f,p.1.length=m∧∀ z∈p.1,0≤z∧z≤2)→∀ p∈l.foldl (fun f p=>sstep tied f p.2 p.1) f,p.1.length=m+l.length∧∀ z∈p.1,0≤z∧z≤2:=by
  intro l
  induction l with
  |nil=>intro f m h p hp;exact h p hp
  |cons q r ih =>
   intro f m h p hp;rw[foldl_cons] at hp;have:=ih _ (m+1) (fun p hp=>by
    obtain⟨p',hp',hpp⟩:=List.mem_flatMap.mp hp;obtain⟨cc,hcc,rfl⟩:=List.mem_map.mp hpp;obtain⟨e1,e2⟩:=h p' hp';refine⟨by simp[sone,e1],fun z hz=>?_⟩
    rcases List.mem_append.mp hz with hz | hz
    ·exact e2 z hz
    ·rw[List.mem_singleton] at hz;subst hz
     obtain⟨j,hj,rfl⟩:=List.mem_map.mp hcc;have:=Fy (tied.getD q.2 []);rw[List.mem_range] at hj;exact⟨(ai [_] [] Aj (.a Aj (.c Aa)) .z 0 rfl),(ai [_,_] [] (.a Aj (.c Aa)) (.q 2) (.c 1 (.a Aa Ad) Ab (.c 1 Ab (.n 3) .z)) 0 rfl hj this)⟩) p hp
   refine rz (length_cons ..) <| ⟨by exact(le_antisymm (ar [_,_,_] Aa (.a Ab (.a Ag Ad)) (.c 1 Aa (.a (.a Ab Ad) Ag) .z) 0 rfl (le_of_eq this.1)) (ar [_,_,_] (.a Aa (.a Ab Ad)) Ag (.c 1 (.a (.a Aa Ad) Ab) Ag .z) 0 rfl (le_of_eq this.1.symm))),this.2⟩
 intro p hp;have:=this l [([],0,0)] 0 (fun p hp=>by rw[List.mem_singleton] at hp;subst hp;exact⟨rfl,fun z hz=>nomatch hz⟩) p hp
 exact⟨by exact(le_antisymm (ar [_,_,_] Ag Ab (.c 1 Aa Ab (.c 1 Ag (.a Al Aa) .z)) 0 rfl (le_of_eq hl) (le_of_eq this.1)) (ar [_,_,_] Aa Ag (.c 1 Aa Ab (.c 1 (.a Al Ab) Ag .z)) 0 rfl (le_of_eq hl.symm) (le_of_eq this.1.symm))),this.2⟩
theorem sum_bd:∀ {l:List Int},(∀ y∈l,0≤y∧y≤2)→0≤l.sum∧l.sum≤2*l.length
 |[],_=>by simp
 |y::l,h=>by
  have h1:=sum_bd (l:=l) fun z hz=>h z (.tail _ hz)
  have h2:=h y (.head _);refine rz (sum_cons ..) <| rz (length_cons ..) <| ⟨(ai [] [_,_] Aj (.a Ai Af) (.i 1 Aj Af (.i 1 Aj Ai .z)) 0 rfl h1.1 h2.1),(ai [_] [_,_] (.a Ai Af) (.m 2 (.c (.a Aa Ad))) (.i 1 Af (.m 2 (.c Aa)) (.i 1 Ai (.q 2) .z)) 0 rfl h1.2 h2.2)⟩
theorem sums_ok(H:KOk K)(tied:Lz)(numbers:List Int)(h1:numbers.length≤8)(h2:tied.length=numbers.length)(h3:∀ t∈tied,t.length≤1000)(hnb:∀ n∈numbers,n.natAbs<18446744073709551616)(h64:((sfold tied numbers.zipIdx).filter fun p=>decide (p.2.1=1)).length<64) :
  Pure prog w K 3 271 [dNN tied,dI numbers] (dI (sumsOf tied numbers)):=by
 have hnz:numbers.length≤1000000:=le_trans h1 (by decide)
 have htz:tied.length≤1000000:=h2▸hnz;refine lawV H 8 rfl (by decide +kernel) (by intro vs hv;obtain⟨v0,v1,rfl⟩:=len2 hv;kernel_rfl!) fun g=>?_
 refine .frz (.frz (LFor.e (f:=.int) (fun i=>.put "found" (.list ((sfold tied (numbers.zipIdx.take i)).map eF)) (.put "tied" (dNN tied) .nil)) (.mk rfl rfl) (fun i x hx=>?_) (.ok ?_)))
 ·have hi:i<numbers.length:=(List.getElem?_eq_some_iff.mp hx).1;have e1:sfold tied (numbers.zipIdx.take (i+1))=sstep tied (sfold tied (numbers.zipIdx.take i)) i x:=by
   unfold sfold;refine rz (Bl (show numbers.zipIdx[i]?=some (x,i) by simp[hx]) ..) ?_
   simp
  have hbd:=sfold_bd tied i (numbers.zipIdx.take i) (by refine rz (length_take ..) ?_;simp;omega)
  have hfl:=sfold_len tied (numbers.zipIdx.take i);rw[length_take,length_zipIdx,min_eq_left (le_of_lt hi)] at hfl;have hfl:(sfold tied (numbers.zipIdx.take i)).length≤2187:=le_trans hfl (pow_le_pow_right (n:=3) (by decide) (show i≤7 by exact(ar [_,_] Ab (.n 7) (.c 1 Aa (.n 8) (.c 1 (.a Ab Ad) Aa .z)) 0 rfl h1 hi)))
  generalize sfold tied (numbers.zipIdx.take i)=found at hbd hfl e1⊢
  have htk:tied[i]?=some (tied.getD i []):=Bc (h2▸hi);unfold sstep at e1;have htl:(tied.getD i []).length≤1000:=h3 _ (List.mem_of_getElem? htk)
  generalize tied.getD i []=tk at htk htl e1
  have htk':tk.length≤1000000:=le_trans htl (by decide)
  refine LGet.m (f:=dN) htk htz (LComp.t (f:=fun n:Nat=>.int (n:Nat)) (fun n=>.int (n:Nat)) (fun j=>decide (j<i)) htk' (fun V j hj=>.mk (fun e=>⟨lt_nat j i▸e,.mk rfl rfl⟩) (fun e=>⟨lt_nat j i▸e,rfl⟩)) (.frz ?_))
  change Br _ _ (dN (Bo tk i)) _ _
  have hal:(Bo tk i).length≤1000:=le_trans (length_filter_le _ _) htl;have hai:∀ j∈Bo tk i,j<i:=fun j hj=>of_decide_eq_true (List.mem_filter.mp hj).2
  generalize Bo tk i=ah at hal hai e1⊢
  refine LGet.m (f:=dN) htk htz ⟨by refine rz (length_map ..) <| len63 htk',LIfE.cut (.int (Dr tk:Nat)) (fun e=>?_) (fun e=>?_) ?_⟩
  ·rw[length_map] at e;exact⟨by rw[Dr,if_pos (by have:=of_decide_eq_true e;exact(an [_] [] (.a Ad Ad) Aa (.i 1 (.a Ah Ah) (.c Aa) .z) 0 rfl this))];rfl,rfl⟩
  ·rw[length_map] at e;exact⟨by rw[Dr,if_neg (by have:=of_decide_eq_false e;exact(Nat.not_lt_of_le (an [_] [] Aa Ad (.i 1 (.c Aa) Ah .z) 0 rfl (Int.not_lt.mp this))))];rfl,rfl⟩
  have hof:Dr tk≤3:=Fy tk;generalize Dr tk=of at hof e1⊢
  have h3l:∀ q:Nat,((found[q]?.map fun p=>(List.range of).map fun j:Nat=>eF (sone ah x p (j:Int))).getD []).length≤3:=fun q=>by
   cases found[q]? with
   |none=>exact zero_le _
   |some p=>refine rz (Option.map_some ..) <| rz (Option.getD_some ..) <| rz (length_map ..) <| rz (length_range ..) <| hof
  refine LComp2.mk (fun q:Nat=>(found[q]?.map fun p=>(List.range of).map fun j:Nat=>eF (sone ah x p (j:Int))).getD []) (rz (length_map ..) <| A4 (le_trans hfl (by decide))) (fun q=>?_) (fun q d hd=>?_) ?_
  ·by_cases hq:q<2188
   ·left
    have h1:((List.range q).flatMap fun q:Nat=>(found[q]?.map fun p=>(List.range of).map fun j:Nat=>eF (sone ah x p (j:Int))).getD []).length≤3*q:=by
     refine rz (length_flatMap ..) <| le_trans (Ft (n:=3) ?_) (rz (length_map ..) <| rz (length_range ..) <| le_refl _)
     intro y hy;obtain⟨p,_,rfl⟩:=List.mem_map.mp hy;exact h3l p
    have h2:=h3l q;exact A4 (ar [_,_,_] (.a Ab Ag) Ap (.c 3 (.a Aa Ad) (.n 2188) (.c 1 Ab (.m 3 Aa) (.c 1 Ag (.n 3) .z))) 0 rfl hq h1 h2)
   ·right;refine rz (length_map ..) <| (ar [_,_] Aa Ab (.c 1 Aa (.n 2187) (.c 1 (.n 2188) Ab .z)) 0 rfl hfl (le_of_not_lt hq))
  ·rw[List.getElem?_map,Option.map_eq_some_iff] at hd;obtain⟨⟨so,fo,to⟩,hp,rfl⟩:=hd
   obtain⟨hb1,hb2⟩:=hbd _ (List.mem_of_getElem? hp);refine⟨Dj (le_trans hof (by decide)),fun j=>eF (sone ah x (so,fo,to) (j:Int)),.put "total" (.int to) (.put "form" (.int fo) (.put "some" (dI so) (.own _ .nil))),?_,.mk rfl rfl,rfl,fun j e hj=>?_⟩
   ·refine rz (hp ..) <| rz (rng0 ..) <| rz (length_map ..) <| rz (length_range ..) ?_;rfl
   rw[rng0,List.getElem?_map,Option.map_eq_some_iff] at hj;obtain⟨j',hj,rfl⟩:=hj
   obtain⟨hj,rfl⟩:=Gx hj;have hso:so.length=i:=hb1;have hsb:=sum_bd (l:=ah.map fun j=>so.getD j 0) (fun y hy=>by
    obtain⟨n,hn,rfl⟩:=List.mem_map.mp hy;exact hb2 _ (List.mem_of_getElem? (Bc (hb1.symm▸hai n hn))))
   rw[length_map] at hsb;refine .frz ⟨by refine rz (length_map ..) <| A4 (by simp;exact(ar [_,_,_] Ag (.n 999999) (.c 1 Aa (.n 8) (.c 1 (.a Ab Ad) Aa (.c 1 Ag Ab .z))) 0 rfl h1 hi (le_of_eq hso))),.frz ⟨mulOk (ar [_,_] (.a Ab Ad) Ao (.c 1 Aa (.n 3) (.c 1 (.a Ab Ad) Aa .z)) 0 rfl hof hj) (ar [_,_] (.a Ab Ad) Ao (.c 1 Aa (.n 3) (.c 1 (.a Ab Ad) Aa .z)) 0 rfl hof hj),?_⟩⟩
   refine LComp.m (f:=fun n:Nat=>.int (n:Nat)) (fun n=>.int (so.getD n 0)) (le_trans hal (by decide)) (fun V n hn=>⟨trivial,LGet.m (f:=.int) (Bc (hb1.symm▸hai n (List.mem_of_getElem? hn))) (ar [_,_,_] Ag Ap (.c 1 Aa (.n 8) (.c 1 (.a Ab Ad) Aa (.c 1 Ag Ab .z))) 0 rfl h1 hi (le_of_eq hso)) (.mk rfl rfl)⟩) (.frz (LInts.m (fun n=>so.getD n 0) ⟨mulOk (ar [_,_] (.a Ab Ad) Ao (.c 1 Aa (.n 3) (.c 1 (.a Ab Ad) Aa .z)) 0 rfl hof hj) (abs_lt (ai [] [_] (.a Az Ah) Af (.i 1 Aj Af .z) 0 rfl hsb.1) (ai [_] [_] (.a Af Ah) A2 (.c 2 Aa Am (.i 1 Af (.m 2 (.c Aa)) .z)) 0 rfl hal hsb.2)),mulOk (ar [_,_] (.a Ab Ad) Ao (.c 1 Aa (.n 3) (.c 1 (.a Ab Ad) Aa .z)) 0 rfl hof hj) (hnb _ (List.mem_of_getElem? hx)),?_,.mk rfl rfl⟩))
   show PyData.tuple [.list (so.map PyData.int++[PyData.int (j':Int)]),_,_]=PyData.tuple [.list ((so++[(j':Int)]).map PyData.int),_,_]
   refine rz (map_append ..) ?_;rfl
  ·refine rz (length_map ..) <| .eq (ds':=(found.flatMap fun p=>(rng 0 of).map (sone ah x p)).map eF) ?_ (.frz (.mk (by refine rz (e1 ..) ?_;rfl) rfl))
   refine rz (range_flat ..) <| rz (List.map_flatMap ..) <| congrArg (fun h=>found.flatMap h) (funext fun p=>by refine rz (rng_map ..) <| rz (map_map ..) ?_;rfl)
 ·have e:numbers.zipIdx.take numbers.length=numbers.zipIdx:=take_of_length_le (rz (length_zipIdx ..) <| le_refl _)
  refine rz (e ..) ?_;have hfl:=le_trans (sfold_len tied numbers.zipIdx) (pow_le_pow_right (n:=3) (by decide) (show numbers.zipIdx.length≤8 by refine rz (length_zipIdx ..) <| h1))
  unfold sumsOf;generalize sfold tied numbers.zipIdx=found at h64 hfl⊢
  exact LComp.t (f:=eF) (fun p=>.int p.2.2) (fun p=>decide (p.2.1=1)) (le_trans hfl (by decide)) (fun V p hp=>.mk (fun e=>⟨e,.mk rfl rfl⟩) fun e=>⟨e,rfl⟩) (.frz (LInts.m (fun p:Fd=>p.2.2) ⟨by refine rz (length_map ..) <| h64,.frz (.mk rfl)⟩))
variable{prog:Program}{w:World}{K:Frag}
noncomputable abbrev eP(p:Nat × Int):PyData:=.tuple [.int (p.1:Nat),.int p.2]
noncomputable def tlst(tied:Lz)(l:List Int)(k:Nat):List Int:=if l.getD k 0<0 then A9 tied l k else l
noncomputable def ttur(l:List Int)(tu:List (Nat × Int))(k:Nat):List (Nat × Int):=if l.getD k 0<0 then tu++[(k,l.getD k 0)] else tu
noncomputable def tret(tied:Lz)(l:List Int)(k:Nat):List Nat:=if l.getD k 0<0 then tied.getD k [] else []
theorem turned_ok(H:KOk K)(k:Nat)(tied:Lz)(l:List Int)(tu:List (Nat × Int))(al bt:Addr)(h2:tied.length=l.length)(h3:l.length≤1000)(hk:k<l.length)(h5:∀ js∈tied,(∀ j∈js,j<l.length)∧js.length≤1000)(h6:tu.length≤1000) :
  Fn prog w K 3 278 [(al,.seq (.type "list") none (l.map .int)),(bt,.seq (.type "list") none (tu.map eP))] [.int (k:Nat),dNN tied,Rf al,Rf bt]
   (fun d B'=>d=dN (tret tied l k)∧B'=[(al,.seq (.type "list") none ((tlst tied l k).map .int)),(bt,.seq (.type "list") none ((ttur l tu k).map eP))]):=by
 have hz:l.length≤1000000:=le_trans h3 (by decide)
 have htk:tied[k]?=some (tied.getD k []):=Bc (h2▸hk);obtain⟨hjs,hjl⟩:=h5 _ (List.mem_of_getElem? htk);refine Er H 9 (.obj al (.seq (.type "list") none (l.map .int)) (.obj bt (.seq (.type "list") none (tu.map eP)) .nil)) rfl rfl rfl (by decide +kernel) (by intro vs hv;obtain⟨v0,v1,v2,v3,rfl⟩:=len4 hv;kernel_rfl!) (fun g=>?_) (fun d B' h=>by obtain⟨_,rfl⟩:=h;intro p hp;simp at hp⊢;rcases hp with rfl | rfl<;>simp)
 refine LObj.m 0 rfl (LGet.m (f:=.int) (x:=l.getD k 0) (Bc hk) hz (LIfS.d (fun hp=>.frz (.mk (.mk [] _ ⟨?_,rfl⟩ ?_))) fun hn=>?_))
 ·rw[tret,if_neg (Int.not_lt.mpr hp)];rfl
 ·rw[tlst,ttur,if_neg (Int.not_lt.mpr hp),if_neg (Int.not_lt.mpr hp)];exact .refl _
 have hneg:l.getD k 0<0:=Int.not_le.mp hn;have t1:tlst tied l k=A9 tied l k:=if_pos hneg;have t2:ttur l tu k=tu++[(k,l.getD k 0)]:=if_pos hneg;have t3:tret tied l k=tied.getD k []:=if_pos hneg;refine rz (t1 ..) <| rz (t2 ..) <| rz (t3 ..) ?_
 unfold A9;generalize tied.getD k []=js at htk hjs hjl
 refine LObj.m 1 rfl (LObj.m 0 rfl (LGet.m (f:=.int) (x:=l.getD k 0) (Bc hk) hz (LApp.m (f:=eP) (x:=(k,l.getD k 0)) 1 rfl (le_trans h6 (by decide)) ?_)))
 generalize l.getD k 0=x0;refine LGet.m (f:=dN) htk (le_trans (le_of_eq h2) hz) (LFor.m (f:=fun n:Nat=>.int (n:Nat)) (fun i=>.obj al (.seq (.type "list") none (((js.take i).foldl (stepJ k) l).map .int)) (.obj bt (.seq (.type "list") none ((tu++[(k,x0)]).map eP)) (.put "left" (Rf al) (.put "tied" (dNN tied) (.put "k" (.int (k:Nat)) .nil))))) (.mk rfl rfl) (fun i j hj=>?_) (.ok ?_))
 ·have hjk:=hjs j (List.mem_of_getElem? hj);have e2:(js.take (i+1)).foldl (stepJ k) l=stepJ k ((js.take i).foldl (stepJ k) l) j:=by refine rz (Bl hj ..) ?_;simp
  have hl2:=C7 k (js.take i) l;generalize (js.take i).foldl (stepJ k) l=l' at hl2 e2⊢
  have hz':l'.length≤1000000:=hl2▸hz;have hj':j<l'.length:=hl2▸hjk;exact LObj.m 0 rfl (LGetP.m (f:=.int) (x:=l'.getD j 0) (Bc hj') hz' (LObj.m 0 rfl (LGet.m (f:=.int) (x:=l'.getD k 0) (Bc (hl2▸hk)) hz' (LSet.m (f:=.int) (x:=l'.getD j 0+l'.getD k 0) 0 rfl hj' hz' (.mk rfl (by refine rz (e2 ..) ?_;rfl))))))
 ·have hl2:=C7 k js l;refine rz (take_length ..) ?_;generalize js.foldl (stepJ k) l=l' at hl2⊢
  have hz':l'.length≤1000000:=hl2▸hz;have hk':k<l'.length:=hl2▸hk;exact LObj.m 0 rfl (LGet.m (f:=.int) (x:=l'.getD k 0) (Bc hk') hz' (LSet.m (f:=.int) (x:=-l'.getD k 0) 0 rfl hk' hz' (LGet.m (f:=dN) htk (le_trans (le_of_eq h2) hz) (.mk (.mk [] _ ⟨rfl,rfl⟩ (.refl _))))))
variable{prog:Program}{w:World}{K:Frag}
noncomputable def tabOf(r:List Nat):List Int:=(rng 1 6).map fun sz=>colOf sz r.dropLast
noncomputable def ltAll(a b:List Int):Bool:=(a.zip b).all fun p=>decide (p.1<p.2)
noncomputable def belOf(rows:Lz):List (List Bool):=rows.map fun a=>rows.map fun b=>ltAll (tabOf a) (tabOf b)
noncomputable def B7(bel:List (List Bool))(k:Nat):List Nat:=(List.range k).filter fun j=>!decide (false∈(((bel.getD j []).drop (j+1)).take (k-j)))
noncomputable def Ch(rows:Lz):List Int:=(List.range rows.length).map fun k=>(((B7 (belOf rows) k).getLast?).map fun j=>((j:Nat):Int)).getD (-1)
noncomputable def dpiled(rows:Lz):Lz:=(List.range rows.length).map fun k=>((B7 (belOf rows) k).map fun j=>rows.getD j []).flatten++rows.getD k []
noncomputable abbrev eS(r:List Nat):PyData:=.str (tx r)
noncomputable abbrev dS(l:Lz):PyData:=.list (l.map eS)
noncomputable abbrev dB(l:List Bool):PyData:=.list (l.map .bool)
theorem tab_len(r:List Nat):(tabOf r).length=6:=by simp[tabOf,Ew]
theorem max_lt{a b:List Int}{m:Int}(h:IsMax m ((a.zip b).map fun p=>p.1-p.2)):decide (m<0)=ltAll a b:=by
 obtain⟨h1,h2⟩:=h;unfold ltAll;cases hb:(a.zip b).all fun p=>decide (p.1<p.2) with
 |true =>
  rw[all_eq_true] at hb;obtain⟨p,hp,rfl⟩:=List.mem_map.mp h1
  have:=hb p hp;simp at this⊢
  exact(ai [] [_,_] (.a (.s Af Ai) Ah) Aj (.i 1 (.a Af Ah) Ai .z) 0 rfl this)
 |false =>
  rw[decide_eq_false];intro hm;have:((a.zip b).all fun p=>decide (p.1<p.2))=true:=by
   rw[all_eq_true];intro p hp;have:=h2 _ (List.mem_map.mpr ⟨p,hp,rfl⟩);simp;exact(ai [] [_,_,_] (.a Ai Ah) Aw (.i 1 (.a Af Ah) Aj (.i 1 (.s Ai Aw) Af .z)) 0 rfl hm this)
  rw[this] at hb;cases hb
theorem due_ok(H:KOk K)(rows:Lz)(h1:rows.length≤100)(h2:∀ r∈rows,r≠[]∧r.length≤1000):Pure prog w K 5 256 [dS rows] (.tuple [dI (Ch rows),dS (dpiled rows)]):=by
 have h1':rows.length≤1000000:=le_trans h1 (by decide)
 refine lawV H 5 rfl (by decide +kernel) (by intro vs hv;obtain⟨v0,rfl⟩:=len1 hv;kernel_rfl!) fun g=>?_
 refine LComp.m (f:=eS) (fun r=>dI (tabOf r)) h1' (fun i r hr=>⟨trivial,?_⟩) (.frz ?_)
 ·obtain⟨hr0,hr1⟩:=h2 r (List.mem_of_getElem? hr);refine⟨Gk (by decide) (by decide) (by decide) (by decide),LComp.m (f:=.int) (fun sz=>.int (colOf sz r.dropLast)) (by refine rz (Ew ..) ?_;decide) (fun i sz hsz=>⟨trivial,?_⟩) (.frz (.mk (by refine rz (map_ints ..) ?_;rfl) rfl))⟩
  obtain⟨hi,rfl⟩:=rng_get' hsz;refine⟨by refine rz (A6 ..) <| (ar [_] Aa Ap (.c 1 Aa Am .z) 0 rfl hr1),.pure 3 rfl _ (column_ok g.H _ (1+(i:Int)) (fun q0=>(not_succ_le_zero 0 (not_succ_le_zero 0 (an [_] [] Ad Al (.i 1 (.a Ah (.c Aa)) Aj .z) 0 rfl (Int.le_of_eq q0))).elim))) (.mk ?_ rfl)⟩
  refine rz (C1 ..) <| rz (C1 ..) <| rz (Db ..) <| rz (Eq.symm (dropLast_eq_take ..)) rfl
 refine LComp.m (f:=fun r=>dI (tabOf r)) (fun a=>dB (rows.map fun b=>ltAll (tabOf a) (tabOf b))) h1' (fun i a ha=>⟨trivial,?_⟩) (.frz ?_)
 ·refine LComp.m (f:=fun r=>dI (tabOf r)) (fun b=>.bool (ltAll (tabOf a) (tabOf b))) h1' (fun i b hb=>⟨trivial,?_⟩) (.frz (.mk (rz (map_bools ..) rfl) rfl))
  refine LComp.z (f:=.int) (g:=.int) (fun p=>.int (p.1-p.2)) (by refine rz (tab_len ..) ?_;decide) (fun i p hp=>⟨trivial,.mk rfl rfl⟩) (.frz (LInts.m _ ⟨?_,fun m hm=>.mk (rz (max_lt hm ..) rfl) rfl⟩))
  intro h;have:=congrArg List.length h;rw[length_map,length_zip,tab_len,tab_len] at this;cases this
 refine rz (show List.map (fun a=>dB (rows.map fun b=>ltAll (tabOf a) (tabOf b))) rows=(belOf rows).map dB by unfold belOf;rw[map_map];rfl) ?_
 have hbl:(belOf rows).length=rows.length:=by rw[belOf,length_map]
 have hbi:∀ l∈belOf rows,l.length=rows.length:=by
  intro l hl;obtain⟨r,_,rfl⟩:=List.mem_map.mp hl;exact rz (length_map ..) rfl
 unfold Ch dpiled;refine rz (Eq.symm (Gj ..)) <| rz (Eq.symm (Gj ..)) ?_
 generalize belOf rows=bel at hbl hbi⊢
 refine .own fun hb=>.own fun pb=>?_
 refine⟨lt_of_le_of_lt (rz (length_map ..) <| h1) (by decide),Dj (rz (length_map ..) <| h1'),LFor.rg (fun k=>.obj pb (.seq (.type "list") none ((snocs (fun k=>((B7 bel k).map fun j=>rows.getD j []).flatten++rows.getD k []) k).map eS)) (.obj hb (.seq (.type "list") none ((snocs (fun k=>(((B7 bel k).getLast?).map fun j=>((j:Nat):Int)).getD (-1)) k).map .int)) (.put "piled" (Rf pb) (.put "heads" (Rf hb) (.put "below" (.list (bel.map dB)) (.put "rows" (dS rows) .nil)))))) (.mk rfl rfl) (fun k hk=>?_) ?_⟩
 ·rw[length_map] at hk;have hkz:k≤1000000:=le_trans (le_of_lt hk) h1'
  refine⟨Dj hkz,LComp.rt (fun j=>.int (j:Nat)) (fun j=>!decide (false∈(((bel.getD j []).drop (j+1)).take (k-j)))) hkz (fun j hj=>?_) (.frz ?_)⟩
  ·have hjr:j<bel.length:=hbl▸lt_trans hj hk;have hlb:(bel.getD j []).length=rows.length:=hbi _ (List.mem_of_getElem? (Bc hjr));refine LGet.m (x:=bel.getD j []) (Bc hjr) (hbl▸h1') ?_;refine⟨⟨by decide,by refine rz (length_map ..) <| rz (hlb ..) <| A4 h1'⟩,.eq (ds':=(((bel.getD j []).drop (j+1)).take (k-j)).map .bool) ?_ (.frz (LIn.b (.mk (fun e=>⟨e,.mk rfl rfl⟩) fun e=>⟨e,rfl⟩)))⟩
   have:=pick_run (bel.getD j []) (j+1) (k+1) (hlb▸hk) (succ_le_succ (le_of_lt hj));rw[Nat.add_sub_add_right] at this;refine rz (Cy ..) <| rz (Eq.symm (this ..)) ?_;rfl
  ·have hop:∀ j∈B7 bel k,j<k:=fun j hj=>List.mem_range.mp (List.mem_filter.mp hj).1
   have hlk:(B7 bel k).length≤k:=le_trans (length_filter_le _ _) (le_of_eq length_range);have hol:(B7 bel k).length≤1000000:=le_trans hlk hkz;refine LObj.m 1 rfl (LNeL.nil _ (.inl rfl) rfl ((Sh.nats (B7 bel k)).le (by decide)) (LIfE.cut (.int ((((B7 bel k).getLast?).map fun j=>((j:Nat):Int)).getD (-1))) (fun e=>?_) (fun e=>?_) (LApp.m (f:=.int) 1 rfl (rz (snocs_len ..) <| hkz) ?_)))
   ·have hne:B7 bel k≠[]:=ne_of e;have hg:=List.getLast?_eq_some_getLast hne;exact LGet.last (l:=B7 bel k) hg hol ⟨by refine rz (hg ..) ?_;rfl,rfl⟩
   ·have h0:B7 bel k=[]:=nil_of e;exact⟨by refine rz (h0 ..) ?_;rfl,rfl⟩
   refine LObj.m 0 rfl (LComp.m (f:=fun n:Nat=>.int (n:Nat)) (l:=B7 bel k) (fun j=>eS (rows.getD j [])) hol (fun i j hj=>⟨trivial,LGet.m (x:=rows.getD j []) (Bc (lt_trans (hop j (List.mem_of_getElem? hj)) hk)) h1' (.mk rfl rfl)⟩) (.frz ?_))
   refine LGet.m (Bc (d:=[]) hk) h1' (.frz ⟨?_,.frz (.eq (ds':=(((B7 bel k).map fun j=>rows.getD j [])++[rows.getD k []]).map fun l=>.str (tx l)) (by refine rz (map_append ..) <| rz (map_map ..) ?_;rfl) (LStrs.x ⟨?_,?_⟩))⟩)
   ·refine rz (length_map ..) <| A4 (le_trans (add_le_add_right (le_trans hlk (le_trans (le_of_lt hk) h1)) 1) (by decide))
   ·have hb:=txsum_le (m:=1000) (l:=((B7 bel k).map fun j=>rows.getD j [])++[rows.getD k []]) fun r hr=>by
     have hrl:∀ j,(rows.getD j []).length≤1000:=fun j=>by
      refine rz (List.getD_eq_getElem?_getD ..) ?_;cases e:rows[j]? with
      |none=>exact zero_le _
      |some u=>exact(h2 u (List.mem_of_getElem? e)).2
     rcases List.mem_append.mp hr with h | h
     ·obtain⟨j,_,rfl⟩:=List.mem_map.mp h;exact hrl j
     ·refine rz (List.mem_singleton.mp h ..) <| hrl k
    refine rz (Eh ..) <| rz (mul_zero ..) <| rz (add_zero ..) ?_
    rw[length_append,length_map,length_singleton] at hb;exact le_trans hb (le_trans (mul_le_mul_left _ (add_le_add_right (le_trans hlk (le_trans (le_of_lt hk) h1)) 1)) (by decide))
   have ej:Txt.join (Str.ofString "") ((((B7 bel k).map fun j=>rows.getD j [])++[rows.getD k []]).map tx)=tx (((B7 bel k).map fun j=>rows.getD j []).flatten++rows.getD k []):=by refine rz (Dl ..) <| rz (flatten_append ..) <| rz (flatten_cons ..) <| rz (flatten_nil ..) <| rz (append_nil ..) rfl
   refine rz (ej ..) <| LApp.m (f:=eS) 0 rfl (rz (snocs_len ..) <| hkz) (.mk rfl rfl)
 ·refine rz (length_map ..) <| .frz "heads" hb _ 1 rfl rfl (.frz "piled" pb _ 0 rfl rfl (.ok (.mk rfl)))
noncomputable def shV(tied:Lz)(db tb rb mb:Addr):Sg:=.put "mirror" (Rf mb) (.put "rounds" (Rf rb) (.put "tops" (Rf tb) (.put "depths" (Rf db) (.put "many" (.int (tied.length:Nat)) (.put "tied" (dNN tied) .nil)))))
noncomputable def shO(db tb rb mb:Addr)(ds ts:List Nat)(rr:List Int)(mm:List Nat)(σ:Sg):Sg:=.obj mb (.seq (.type "list") none (dNs mm)) (.obj rb (.seq (.type "list") none (rr.map .int)) (.obj tb (.seq (.type "list") none (dNs ts)) (.obj db (.seq (.type "list") none (dNs ds)) σ)))
noncomputable def shG(g fk:List Nat)(p:PyData)(σ:Sg):Sg:=.put "path" p (.put "forks" (dN fk) (.put "group" (dN g) σ))
noncomputable abbrev iN:Nat→PyData:=fun n=>.int (n:Nat)
variable{prog:Program}{w:World}{K:Frag}
noncomputable def depAt(ds:List Nat):List Nat→Nat | []=>0 | j::_=>ds.getD j 0+1
noncomputable def topAt(ts:List Nat)(k:Nat):List Nat→Nat | []=>k | j::_=>ts.getD j 0
noncomputable def topStep(tied:Lz)(p:List Nat × List Nat)(k:Nat):List Nat × List Nat :=
 (p.1++[depAt p.1 (Bo (tied.getD k []) k)],p.2++[topAt p.2 k (Bo (tied.getD k []) k)])
noncomputable def A8(tied:Lz)(i:Nat):List Nat × List Nat:=(List.range i).foldl (topStep tied) ([],[])
noncomputable def Bs(n:Nat)(ts:List Nat)(top:Nat):List Nat:=(List.range n).filter fun k=>decide (ts.getD k 0=top)
noncomputable def Dg(tied:Lz)(g:List Nat):List Nat:=g.filter fun k=>decide ((tied.getD k []).length=3)
noncomputable def Cw(tied:Lz)(p:List Nat):List Nat:=p++(tied.getD (p.getLast?.getD 0) []).filter fun j=>!decide (j∈p)
noncomputable def endOf(tied:Lz)(g:List Nat):List Nat:=(g.filter fun k=>decide ((tied.getD k []).length<2)).take 1
noncomputable def Dn(tied:Lz)(f:Nat):List Nat:=(tied.getD f []).filter fun k=>decide ((tied.getD k []).length=1)
noncomputable def F8(tied:Lz)(g:List Nat):List Nat→List Nat
 |[]=>(g.drop 1).foldl (fun p V=>Cw tied p) (endOf tied g)
 |f::_=>if (Dn tied f).length=2 then Dn tied f else []
noncomputable def pathOf(tied:Lz)(g:List Nat):List Nat:=F8 tied g (Dg tied g)
noncomputable def Ec(m:List Nat)(q:Nat × Nat):List Nat:=m.set q.1 q.2
noncomputable def rndAt(g:List Nat):List Nat→Int | []=>(g.length:Int)+1 | _::_=>2*(g.length:Int)-2
noncomputable def rndOf(tied:Lz)(g:List Nat):Int:=rndAt g (Dg tied g)
noncomputable def Dk(tied:Lz)(ts:List Nat)(p:List Int × List Nat)(top:Nat):List Int × List Nat :=
 ((Bs tied.length ts top).foldl (fun r k=>r.set k (rndOf tied (Bs tied.length ts top))) p.1,
 ((pathOf tied (Bs tied.length ts top)).zip (pathOf tied (Bs tied.length ts top)).reverse).foldl Ec p.2)
noncomputable def A7(tied:Lz)(i:Nat):List Int × List Nat :=
 (List.range i).foldl (Dk tied (A8 tied tied.length).2) (List.replicate tied.length 0,List.range tied.length)
theorem Fb(tied:Lz):∀ i,(A8 tied i).1.length=i∧(A8 tied i).2.length=i
 |0=>⟨rfl,rfl⟩
 |i+1=>by
  obtain⟨h1,h2⟩:=Fb tied i;unfold A8 at h1 h2⊢
  refine rz (range_succ ..) <| rz (foldl_append ..) ?_
  simp[topStep,h1,h2]
theorem topsOf_succ(tied:Lz)(i:Nat):A8 tied (i+1)=topStep tied (A8 tied i) i:=by
 unfold A8;refine rz (range_succ ..) <| rz (foldl_append ..) ?_;rfl
theorem shapeOf_succ(tied:Lz)(i:Nat):A7 tied (i+1)=Dk tied (A8 tied tied.length).2 (A7 tied i) i:=by
 unfold A7;refine rz (range_succ ..) <| rz (foldl_append ..) ?_;rfl
theorem Cr{α β:Type}(f:List α→β→List α)(hf:∀ l b,(f l b).length=l.length):∀ (bs:List β) (l:List α),(bs.foldl f l).length=l.length
 |[],_=>rfl
 |b::bs,l=>by refine rz (foldl_cons ..) <| rz (Cr f hf bs ..) <| rz (hf ..) rfl
theorem shape_len(tied:Lz):∀ i,(A7 tied i).1.length=tied.length∧(A7 tied i).2.length=tied.length
 |0=>by simp[A7]
 |i+1=>by
  obtain⟨h1,h2⟩:=shape_len tied i;refine rz (shapeOf_succ ..) ?_;unfold Dk;exact⟨by refine rz (Cr _ (fun l b=>by simp) ..) <| h1,by refine rz (Cr _ (fun l b=>by simp[Ec]) ..) <| h2⟩
theorem grow_bd(tied:Lz)(h3:∀ js∈tied,(∀ j∈js,j<tied.length)∧js.length≤100)(p:List Nat)(m:Nat)(hp:(∀ j∈p,j<tied.length)∧p.length≤m):(∀ j∈Cw tied p,j<tied.length)∧(Cw tied p).length≤m+100:=by
 have hg:∀ k,(∀ j∈tied.getD k [],j<tied.length)∧(tied.getD k []).length≤100:=fun k=>by
  refine rz (List.getD_eq_getElem?_getD ..) ?_;cases e:tied[k]? with
  |none=>simp
  |some u=>exact h3 u (List.mem_of_getElem? e)
 unfold Cw
 constructor
 ·intro j hj;rcases List.mem_append.mp hj with h | h
  ·exact hp.1 j h
  ·exact(hg _).1 j (List.mem_filter.mp h).1
 ·refine rz (length_append ..) ?_;have:=length_filter_le (fun j=>!decide (j∈p)) (tied.getD (p.getLast?.getD 0) [])
  have:=(hg (p.getLast?.getD 0)).2;exact(ar [_,_,_,_] (.a Aa Ag) (.a Ab Ar) (.c 1 Aa Ab (.c 1 Ag An (.c 1 An Ar .z))) 0 rfl hp.2 (by assumption) this)
theorem grows_bd(tied:Lz)(h3:∀ js∈tied,(∀ j∈js,j<tied.length)∧js.length≤100):∀ (l p:List Nat) (m:Nat),((∀ j∈p,j<tied.length)∧p.length≤m)→(∀ j∈l.foldl (fun p V=>Cw tied p) p,j<tied.length)∧(l.foldl (fun p V=>Cw tied p) p).length≤m+100*l.length
 |[],p,m,h=>⟨h.1,by simpa using h.2⟩
 |x::l,p,m,h=>by
  refine rz (foldl_cons ..) ?_;have:=grows_bd tied h3 l _ _ (grow_bd tied h3 p m h);exact⟨this.1,by have:=this.2;refine rz (length_cons ..) ?_;omega⟩
theorem grow_ne(tied:Lz)(p:List Nat)(h:p≠[]):Cw tied p≠[]:=by
 unfold Cw;intro e;exact h (List.append_eq_nil_iff.mp e).1
theorem grows_ne(tied:Lz):∀ (l p:List Nat),p≠[]→l.foldl (fun p V=>Cw tied p) p≠[]
 |[],_,h=>h
 |_::l,_,h=>by refine rz (foldl_cons ..) <| grows_ne tied l _ (grow_ne tied _ h)
theorem end_bd(tied:Lz)(g:List Nat)(hg:∀ j∈g,j<tied.length):(∀ j∈endOf tied g,j<tied.length)∧(endOf tied g).length≤1 :=
 ⟨fun j hj=>hg j (List.mem_filter.mp (List.mem_of_mem_take hj)).1,by unfold endOf;refine rz (length_take ..) <| (min_le_left ..)⟩
theorem path_bd(tied:Lz)(g fk:List Nat)(h1:tied.length≤8)(h3:∀ js∈tied,(∀ j∈js,j<tied.length)∧js.length≤100)(hg:∀ j∈g,j<tied.length)(hgl:g.length≤tied.length)(hf:∀ j∈fk,j<tied.length) :
  (∀ j∈F8 tied g fk,j<tied.length)∧(F8 tied g fk).length≤1000:=by
 cases fk with
 |nil =>
  have:=grows_bd tied h3 (g.drop 1) _ 1 (end_bd tied g hg);rw[length_drop] at this;exact⟨this.1,le_trans this.2 (ar [_,_,_] (.a Ad (.m 100 Ag)) Am (.c 100 Aa (.n 8) (.c 100 Ab Aa (.c 100 Ag Ab .z))) 0 rfl h1 hgl (sub_le ..))⟩
 |cons f r =>
  have hf:=hf f (.head _);have hm:tied.getD f []∈tied:=List.mem_of_getElem? (Ef hf);have ht:(Dn tied f).length≤100:=le_trans (length_filter_le _ _) (h3 _ hm).2
  show(∀ j∈(if (Dn tied f).length=2 then Dn tied f else []),j<tied.length)∧(if (Dn tied f).length=2 then Dn tied f else []).length≤1000
  split
  ·exact⟨fun j hj=>(h3 _ hm).1 j (List.mem_filter.mp hj).1,by exact(ar [_] Aa Am (.c 1 Aa Ar .z) 0 rfl ht)⟩
  ·simp
theorem shape_ok(H:KOk K)(tied:Lz)(h1:tied.length≤8)(h3:∀ js∈tied,(∀ j∈js,j<tied.length)∧js.length≤100)(h5:∀ top,top<tied.length→Dg tied (Bs tied.length (A8 tied tied.length).2 top)=[]→1<(Bs tied.length (A8 tied tied.length).2 top).length→endOf tied (Bs tied.length (A8 tied tied.length).2 top)≠[]) :
  Pure prog w K 5 266 [dNN tied] (.tuple [dN (A8 tied tied.length).1,dI (A7 tied tied.length).1,dN (A7 tied tied.length).2]):=by
 have hn:tied.length≤1000000:=le_trans h1 (by decide)
 have hnn:∀ {k},k<tied.length→tied[k]?=some (tied.getD k []):=Bc;have htl:∀ {k},k<tied.length→(tied.getD k []).length≤100:=fun h=>(h3 _ (List.mem_of_getElem? (hnn h))).2
 refine lawV H 7 rfl (by decide +kernel) (by intro vs hv;obtain⟨v0,rfl⟩:=len1 hv;kernel_rfl!) fun g=>?_
 refine⟨by refine rz (length_map ..) <| len63 hn,?_⟩
 refine rz (length_map ..) <| .own fun db=>.own fun tb=>.frz ⟨⟨natCast_nonneg _,by exact(ai [_] [] (.a (.c Aa) Ah) Ak (.c 1 Aa (.n 8) .z) 0 rfl h1),by refine rz (toNat_natCast ..) <| rz (length_singleton ..) <| (ar [_] (.m 1 Aa) Aq (.c 1 Aa (.n 8) .z) 0 rfl h1)⟩,.eq (ds':=(List.replicate tied.length (0:Int)).map .int) (by simp) (.own fun rb=>⟨⟨Dj hn,by exact(an [_,_] [] Ab Aq (.c 1 Aa (.n 8) (.i 1 (.c Ab) (.s (.c Aa) Aj) .z)) 0 rfl h1 (Int.le_of_eq (toNat_of_nonneg (ai [_] [] Aj (.s (.c Aa) Aj) .z 0 rfl))))⟩,.eq (ds':=dNs (List.range tied.length)) (rng0 _) (.own fun mb=>?_)⟩)⟩
 refine LFor.e (f:=dN) (fun i=>shO db tb rb mb (A8 tied i).1 (A8 tied i).2 (List.replicate tied.length 0) (List.range tied.length) (shV tied db tb rb mb)) (.mk rfl rfl) (fun i tk htk=>?_) (.ok ?_)
 ·have hi:i<tied.length:=(List.getElem?_eq_some_iff.mp htk).1;have etk:tied.getD i []=tk:=by simp[List.getD,htk]
  obtain⟨hjs,hjl⟩:=h3 tk (List.mem_of_getElem? htk);obtain⟨hl1,hl2⟩:=Fb tied i;have e1:A8 tied (i+1)=((A8 tied i).1++[depAt (A8 tied i).1 (Bo tk i)],(A8 tied i).2++[topAt (A8 tied i).2 i (Bo tk i)]):=by rw[topsOf_succ,topStep,etk]
  have hz1:(A8 tied i).1.length≤1000000:=le_trans (le_of_eq hl1) (le_trans (le_of_lt hi) hn);have hz2:(A8 tied i).2.length≤1000000:=le_trans (le_of_eq hl2) (le_trans (le_of_lt hi) hn);generalize (A8 tied i).1=ds at hl1 hz1 e1⊢
  generalize (A8 tied i).2=ts at hl2 hz2 e1⊢
  refine LComp.t (f:=iN) iN (fun j=>decide (j<i)) (le_trans hjl (by decide)) (fun V j hj=>.mk (fun e=>⟨lt_nat j i▸e,.mk rfl rfl⟩) (fun e=>⟨lt_nat j i▸e,rfl⟩)) (.frz ?_)
  have hal:(Bo tk i).length≤1000000:=le_trans (length_filter_le _ _) (le_trans hjl (by decide))
  have hai:∀ j∈Bo tk i,j<i:=fun j hj=>of_decide_eq_true (List.mem_filter.mp hj).2
  refine LObj.m 3 rfl (LNeL.nil _ (.inl rfl) rfl ((Sh.nats (Bo tk i)).le (by decide)) (LIfE.cut (iN (depAt ds (Bo tk i))) (fun e=>?_) (fun e=>?_) (LApp.m (f:=iN) 3 rfl hz1 (LObj.m 2 rfl (LNeL.nil _ (.inl rfl) rfl ((Sh.nats (Bo tk i)).le (by decide)) (LIfE.cut (iN (topAt ts i (Bo tk i))) (fun e=>?_) (fun e=>?_) (LApp.m (f:=iN) 2 rfl hz2 ?_)))))))
  ·obtain⟨j,r,har⟩:=exists_cons_of_ne_nil (ne_of (l:=Bo tk i) e);have hj:=hai j (har▸.head _);exact LGet.z (l:=Bo tk i) (by refine rz (har ..) ?_;rfl) (LObj.m 3 rfl (LGet.m (f:=iN) (x:=ds.getD j 0) (Bc (hl1▸hj)) hz1 ⟨by refine rz (har ..) ?_;rfl,rfl⟩))
  ·exact⟨by refine rz (nil_of (l:=Bo tk i) e ..) ?_;rfl,rfl⟩
  ·obtain⟨j,r,har⟩:=exists_cons_of_ne_nil (ne_of (l:=Bo tk i) e);have hj:=hai j (har▸.head _);exact LGet.z (l:=Bo tk i) (by refine rz (har ..) ?_;rfl) (LObj.m 2 rfl (LGet.m (f:=iN) (x:=ts.getD j 0) (Bc (hl2▸hj)) hz2 ⟨by refine rz (har ..) ?_;rfl,rfl⟩))
  ·exact⟨by refine rz (nil_of (l:=Bo tk i) e ..) ?_;rfl,rfl⟩
  ·exact .mk rfl (by refine rz (e1 ..) ?_;rfl)
 obtain⟨hl1,hl2⟩:=Fb tied tied.length;have hso:∀ i,A7 tied i=(List.range i).foldl (Dk tied (A8 tied tied.length).2) (List.replicate tied.length 0,List.range tied.length):=fun V=>rfl
 generalize (A8 tied tied.length).1=ds at hl1⊢
 have hsl:=shape_len tied;generalize (A8 tied tied.length).2=ts at hl2 hso h5⊢
 refine⟨Dj hn,LFor.rg (fun i=>shO db tb rb mb ds ts (A7 tied i).1 (A7 tied i).2 (shV tied db tb rb mb)) (.mk rfl rfl) (fun top htop=>?_) ?_⟩
 ·have h5:=h5 top htop;have e1:A7 tied (top+1)=Dk tied ts (A7 tied top) top:=by refine rz (hso ..) <| rz (hso ..) <| rz (range_succ ..) <| rz (foldl_append ..) ?_;rfl
  unfold Dk pathOf rndOf at e1;obtain⟨hr1,hr2⟩:=hsl top
  generalize (A7 tied top).1=rr at hr1 e1⊢
  generalize (A7 tied top).2=mm at hr2 e1⊢
  refine⟨Dj hn,LComp.rt iN (fun k=>decide (ts.getD k 0=top)) hn (fun k hk=>LObj.m 2 rfl (LGet.m (f:=iN) (x:=ts.getD k 0) (Bc (hl2.symm▸hk)) (le_trans (le_of_eq hl2) hn) (.mk (fun e=>⟨beq_nat _ _▸e,.mk rfl rfl⟩) fun e=>⟨beq_nat _ _▸e,rfl⟩))) (.frz ?_)⟩
  change Br _ _ (dN (Bs tied.length ts top)) _ _
  have hgl:(Bs tied.length ts top).length≤tied.length:=le_trans (length_filter_le _ _) (le_of_eq length_range);have hgi:∀ j∈Bs tied.length ts top,j<tied.length:=fun j hj=>List.mem_range.mp (List.mem_filter.mp hj).1
  generalize Bs tied.length ts top=gr at hgl hgi h5 e1⊢
  have hgz:gr.length≤1000000:=le_trans hgl hn;refine LComp.t (f:=iN) iN (fun k=>decide ((tied.getD k []).length=3)) hgz (fun V k hk=>?_) (.frz ?_)
  ·have hk:=hgi k (List.mem_of_getElem? hk);refine LGet.m (f:=dN) (hnn hk) hn ⟨by refine rz (length_map ..) <| len63 (le_trans (htl hk) (by decide)),?_⟩
   refine rz (length_map ..) <| .mk (fun e=>⟨beq_three _▸e,.mk rfl rfl⟩) fun e=>⟨beq_three _▸e,rfl⟩
  change Br _ _ (dN (Dg tied gr)) _ _
  have hfl:(Dg tied gr).length≤gr.length:=length_filter_le _ _;have hfi:∀ j∈Dg tied gr,j<tied.length:=fun j hj=>hgi j (List.mem_filter.mp hj).1
  generalize Dg tied gr=fk at hfl hfi h5 e1⊢
  have hpb:=path_bd tied gr fk h1 h3 hgi hgl hfi;have hfz:fk.length≤1000000:=le_trans hfl hgz;refine LEqL.nil _ (.inl rfl) rfl ((Sh.nats fk).le (by decide)) (LIfS.cut (shO db tb rb mb ds ts rr mm (shG gr fk (dN (F8 tied gr fk)) (shV tied db tb rb mb))) (fun e=>?_) (fun e=>?_) ?_)
  ·cases fk with
   |cons _ _=>cases e
   |nil =>
    have hq:((gr.filter fun k=>decide ((tied.getD k []).length<2)).map iN).length≤sizeLine:=by refine rz (length_map ..) <| A4 (le_trans (length_filter_le _ _) hgz)
    refine LComp.t (f:=iN) iN (fun k=>decide ((tied.getD k []).length<2)) hgz (fun V k hk=>?_) (.frz ⟨⟨by decide,hq⟩,.eq (ds':=dNs (endOf tied gr)) (by refine rz (Cy ..) <| rz (pick_one ..) ?_;rfl) (.own fun pa=>?_)⟩)
    ·have hk:=hgi k (List.mem_of_getElem? hk);refine LGet.m (f:=dN) (hnn hk) hn ⟨by refine rz (length_map ..) <| len63 (le_trans (htl hk) (by decide)),?_⟩
     refine rz (length_map ..) <| .mk (fun e=>⟨lt_nat _ 2▸e,.mk rfl rfl⟩) fun e=>⟨lt_nat _ 2▸e,rfl⟩
    refine⟨⟨by decide,by refine rz (length_map ..) <| A4 hgz⟩,.eq (ds':=dNs (gr.drop 1)) (rz (Cy ..) <| rz (pick_tail ..) rfl) (.frz ?_)⟩
    refine LFor.m (f:=iN) (fun i=>.obj pa (.seq (.type "list") none (dNs (((gr.drop 1).take i).foldl (fun p V=>Cw tied p) (endOf tied gr)))) (shO db tb rb mb ds ts rr mm (shG gr [] (Rf pa) (shV tied db tb rb mb)))) (.mk rfl rfl) (fun i stp hstp=>?_) ?_
    ·have hil:i<gr.length-1:=by
      have:=(List.getElem?_eq_some_iff.mp hstp).1
      rwa [length_drop] at this
     have hne:=grows_ne tied ((gr.drop 1).take i) _ (h5 rfl (ar [_,_,_] (.a Ad Ad) Ag (.c 1 (.a Aa Ad) Ab (.c 1 (.a Ab Ad) Ag .z)) 0 rfl hil (le_of_eq (sub_add_cancel (ar [_,_,_] Ad Ag (.c 1 (.a Aa Ad) Ab (.c 1 Ab Ag .z)) 0 rfl hil (sub_le ..))))));have hbd:=grows_bd tied h3 ((gr.drop 1).take i) _ 1 (end_bd tied gr hgi);rw[length_take] at hbd;have e2:((gr.drop 1).take (i+1)).foldl (fun p V=>Cw tied p) (endOf tied gr)=Cw tied (((gr.drop 1).take i).foldl (fun p V=>Cw tied p) (endOf tied gr)):=by
      refine rz (Bl hstp ..) <| rz (foldl_append ..) ?_;rfl
     generalize ((gr.drop 1).take i).foldl (fun p V=>Cw tied p) (endOf tied gr)=p at hne hbd e2⊢
     obtain⟨hb1,hb2⟩:=hbd;have hb2:p.length≤801:=le_trans hb2 (ar [_,_,_,_,_] (.a Ad (.m 100 (.v 4))) (.n 801) (.c 100 Aa (.n 8) (.c 100 Ab Aa (.c 100 (.a Ag Ad) An (.c 100 An Ab (.c 100 (.v 4) Ag .z))))) 0 rfl h1 hgl hil (sub_le ..) (min_le_left ..));have hla:=List.getLast?_eq_some_getLast hne;have hlan:=hb1 _ (List.getLast_mem hne);have e3:Cw tied p=p++(tied.getD (p.getLast hne) []).filter fun j=>!decide (j∈p):=by rw[Cw,hla,Option.getD_some]
     rw[e3] at e2;generalize p.getLast hne=la at hla hlan e2
     refine LObj.m 0 rfl (LGet.last (f:=iN) hla (le_trans hb2 (by decide)) (LGet.m (f:=dN) (hnn hlan) hn ?_))
     refine LComp.t (f:=iN) iN (fun j=>!decide (j∈p)) (le_trans (htl hlan) (by decide)) (fun V j hj=>LObj.m 0 rfl (LIn.n (.mk (fun e=>⟨e,.mk rfl rfl⟩) fun e=>⟨e,rfl⟩))) (.frz ?_)
     refine .mk pa _ _ 0 rfl rfl (.inl rfl) ?_ (.mk rfl (by rw[e2,show ∀ a b:List Nat,dNs (a++b)=dNs a++dNs b from fun a b=>map_append];rfl))
     refine rz (length_map ..) <| rz (length_map ..) <| le_trans (add_le_add hb2 (le_trans (length_filter_le _ _) (htl hlan))) (by decide)
    ·refine rz (take_length ..) <| .frz "path" pa _ 0 rfl rfl (.ok (.mk rfl rfl))
  ·cases fk with
   |nil=>cases e
   |cons f fr =>
    have hf:=hfi f (.head _);have htw:(Dn tied f).length≤1000000:=le_trans (length_filter_le _ _) (le_trans (htl hf) (by decide))
    refine LGet.z (f:=iN) (l:=f::fr) rfl (LGet.m (f:=dN) (hnn hf) hn ?_);refine LComp.t (f:=iN) iN (fun k=>decide ((tied.getD k []).length=1)) (le_trans (htl hf) (by decide)) (fun V k hk=>?_) (.frz ⟨by refine rz (length_map ..) <| len63 htw,?_⟩)
    ·have hk:=(h3 _ (List.mem_of_getElem? (hnn hf))).1 k (List.mem_of_getElem? hk);refine LGet.m (f:=dN) (hnn hk) hn ⟨by refine rz (length_map ..) <| len63 (le_trans (htl hk) (by decide)),?_⟩
     refine rz (length_map ..) <| .mk (fun e=>⟨beq_one _▸e,.mk rfl rfl⟩) fun e=>⟨beq_one _▸e,rfl⟩
    refine rz (length_map ..) ?_;refine LIfE.cut (dN (F8 tied gr (f::fr))) (fun e=>⟨?_,rfl⟩) (fun e=>.frz ⟨?_,rfl⟩) (.mk rfl rfl)
    ·rw[beq_two] at e;refine rz (show F8 tied gr (f::fr)=Dn tied f from if_pos (of_decide_eq_true e)) ?_;rfl
    ·rw[beq_two] at e;refine rz (show F8 tied gr (f::fr)=[] from if_neg (of_decide_eq_false e)) ?_;rfl
  generalize F8 tied gr fk=pth at hpb e1⊢
  obtain⟨hp1,hp2⟩:=hpb;have hpz:pth.length≤1000000:=le_trans hp2 (by decide)
  refine⟨⟨by decide,by refine rz (length_map ..) <| A4 hpz⟩,.eq (ds':=dNs pth.reverse) (rz (Cy ..) <| rz (pick_rev ..) rfl) (.frz ?_)⟩
  refine LFor.z (f:=iN) (g:=iN) (fun i=>shO db tb rb mb ds ts rr (((pth.zip pth.reverse).take i).foldl Ec mm) (shG gr fk (dN pth) (shV tied db tb rb mb))) (.mk rfl rfl) (fun i pr hpr=>?_) (.ok ?_)
  ·have e2:((pth.zip pth.reverse).take (i+1)).foldl Ec mm=(((pth.zip pth.reverse).take i).foldl Ec mm).set pr.1 pr.2:=by
    refine rz (Bl hpr ..) <| rz (foldl_append ..) ?_;rfl
   have hml:=(Cr Ec (fun l b=>by simp[Ec]) ((pth.zip pth.reverse).take i) mm).trans hr2
   have hk:=hp1 pr.1 (of_mem_zip (List.mem_of_getElem? hpr)).1;exact LSet.m (f:=iN) 0 rfl (hml.symm▸hk) (le_trans (le_of_eq hml) hn) (.mk rfl (by refine rz (e2 ..) ?_;rfl))
  refine rz (take_length ..) ?_;generalize (pth.zip pth.reverse).foldl Ec mm=mz at e1⊢
  refine LFor.m (f:=iN) (fun i=>shO db tb rb mb ds ts ((gr.take i).foldl (fun r k=>r.set k (rndAt gr fk)) rr) mz (shG gr fk (dN pth) (shV tied db tb rb mb))) (.mk rfl rfl) (fun i k hk=>?_) (.ok ?_)
  ·have e2:(gr.take (i+1)).foldl (fun r k=>r.set k (rndAt gr fk)) rr=((gr.take i).foldl (fun r k=>r.set k (rndAt gr fk)) rr).set k (rndAt gr fk):=by
    refine rz (Bl hk ..) <| rz (foldl_append ..) ?_;rfl
   have hml:=(Cr (fun(r:List Int) (k:Nat)=>r.set k (rndAt gr fk)) (fun l b=>by simp) (gr.take i) rr).trans hr1
   have hkn:=hgi k (List.mem_of_getElem? hk);refine LEqL.nil _ (.inl rfl) rfl ((Sh.nats fk).le (by decide)) (LIfE.cut (.int (rndAt gr fk)) (fun e=>⟨by refine rz (length_map ..) <| len63 hgz,?_,rfl⟩) (fun e=>⟨by refine rz (length_map ..) <| len63 hgz,mulOk (by decide) (rz (length_map ..) <| (ar [_,_] (.a Ab Ad) Ao (.c 1 Aa (.n 8) (.c 1 Ab Aa .z)) 0 rfl h1 hgl)),?_,rfl⟩) (LSet.m (f:=.int) 1 rfl (hml.symm▸hkn) (le_trans (le_of_eq hml) hn) (.mk rfl (by refine rz (e2 ..) ?_;rfl))))
   ·refine rz (nil_ofE (l:=fk) e ..) <| rz (length_map ..) ?_;rfl
   ·cases fk with
    |nil=>cases e
    |cons _ _=>refine rz (length_map ..) ?_;rfl
  ·exact .mk rfl (by refine rz (e1 ..) <| rz (take_length ..) ?_;rfl)
 ·exact .frz "depths" db _ 3 rfl rfl (.frz "rounds" rb _ 1 rfl rfl (.frz "mirror" mb _ 0 rfl rfl (.ok (.mk rfl))))
variable{prog:Program}{w:World}{K:Frag}
noncomputable def tstep(ts:Lz)(k:Nat)(h:Int):Lz :=
 if 0≤h∧(ts.getD h.toNat []).length<3 then (ts.set h.toNat (ts.getD h.toNat []++[k])).set k ((ts.set h.toNat (ts.getD h.toNat []++[k])).getD k []++[h.toNat]) else ts
noncomputable def D1(heads:List Int)(i:Nat):Lz:=(heads.zipIdx.take i).foldl (fun ts p=>tstep ts p.2 p.1) (List.replicate heads.length [])
noncomputable def B4(heads:List Int):Lz:=heads.zipIdx.foldl (fun ts p=>tstep ts p.2 p.1) (List.replicate heads.length [])
theorem tstep_len(ts:Lz)(k:Nat)(h:Int):(tstep ts k h).length=ts.length:=by unfold tstep;split<;>simp
theorem set_bd{us:Lz}{m j k:Nat}(hm:∀ t∈us,t.length≤m):∀ t∈us.set j (us.getD j []++[k]),t.length≤m+1:=by
 intro t ht;rcases List.mem_or_eq_of_mem_set ht with h | h
 ·exact le_succ_of_le (hm t h)
 ·refine rz (h ..) <| rz (length_append ..) <| succ_le_succ ?_
  refine rz (List.getD_eq_getElem?_getD ..) ?_;cases e:us[j]? with
  |none=>exact zero_le _
  |some u=>exact hm u (List.mem_of_getElem? e)
theorem tied_up(heads:List Int):∀ i,(D1 heads i).length=heads.length∧∀ t∈D1 heads i,t.length≤2*i
 |0=>⟨length_replicate,fun t ht=>by refine rz (List.eq_of_mem_replicate ht ..) <| zero_le _⟩
 |i+1=>by
  obtain⟨h1,h2⟩:=tied_up heads i;unfold D1 at h1 h2⊢
  refine rz (take_add_one ..) ?_;cases e:heads.zipIdx[i]? with
  |none=>refine rz (Option.toList_none ..) <| rz (append_nil ..) <| ⟨h1,fun t ht=>le_trans (h2 t ht) (mul_le_mul_left _ (le_succ _))⟩
  |some p =>
   refine rz (Option.toList_some ..) <| rz (foldl_append ..) <| ⟨(tstep_len ..).trans h1,?_⟩
   show ∀ t∈tstep _ _ _,_
   unfold tstep
   split
   ·exact set_bd (set_bd h2)
   ·exact fun t ht=>le_trans (h2 t ht) (mul_le_mul_left _ (le_succ _))
theorem tied_next{heads:List Int}{i:Nat}{x:Int}(hx:heads[i]?=some x):D1 heads (i+1)=tstep (D1 heads i) i x:=by
 unfold D1;refine rz (Bl (show heads.zipIdx[i]?=some (x,i) by rw[List.getElem?_zipIdx,hx,zero_add];rfl) ..) <| rz (foldl_append ..) ?_
 rfl
noncomputable def ownT(as:List Addr)(ts:Lz):Xs:=ownD as (ts.map fun t=>t.map fun n=>.int (n:Nat))
theorem ownT_at:∀ {as:List Addr}{ts:Lz}{j:Nat}{a:Addr}{t:List Nat},as[j]?=some a→ts[j]?=some t→(ownT as ts)[j]?=some (a,Lk (t.map fun n=>.int (n:Nat)))
 |_::_,_::_,0,_,_,ha,ht=>by cases ha;cases ht;rfl
 |_::as,_::ts,j+1,_,_,ha,ht=>ownT_at (as:=as) (ts:=ts) (j:=j) ha ht
theorem Gq{t:List Nat}:∀ {as:List Addr}{ts:Lz}{j:Nat},setK (Lk (t.map fun n=>.int (n:Nat))) j (ownT as ts)=ownT as (ts.set j t)
 |[],ts,j=>by cases ts<;>cases j<;>rfl
 |_::_,[],0=>rfl
 |_::_,[],_+1=>rfl
 |_::_,_::_,0=>rfl
 |a::as,u::ts,j+1=>congrArg ((a,Lk (u.map fun n=>.int (n:Nat)))::·) (Gq (as:=as) (ts:=ts) (j:=j))
theorem ownT_new:∀ as:List Addr,ownT as (List.replicate as.length [])=as.map fun a=>(a,Lk [])
 |[]=>rfl
 |a::as=>congrArg ((a,Lk [])::·) (ownT_new as)
theorem tied_ok(H:KOk K)(heads:List Int)(h1:heads.length≤1000)(h2:∀ (k:Nat) (h:Int),heads[k]?=some h→-1≤h∧h<k):Pure prog w K 3 261 [dI heads] (dNN (B4 heads)):=by
 have hz:heads.length≤1000000:=le_trans h1 (by decide)
 refine lawV H 6 rfl (by decide +kernel) (by intro vs hv;obtain⟨v0,rfl⟩:=len1 hv;kernel_rfl!) fun g=>?_
 refine .mk (fun i rs O=>∃ as:List Addr,as.length=i∧rs=as.map Rf∧O=as.reverse.map fun a=>(a,Lk [])) (rz (length_map ..) <| A4 hz) ⟨[],rfl,rfl,rfl⟩ ?_ ?_
 ·rintro i d rs O hd ⟨as,hl,rfl,rfl⟩;rw[List.getElem?_map,Option.map_eq_some_iff] at hd;obtain⟨x,hx,rfl⟩:=hd
  refine⟨True,fun d' σ3=>∃ a,d'=Rf a∧σ3.objs=(a,Lk [])::as.reverse.map fun a=>(a,Lk []),fun V=>False,?_,fun V h=>h.elim,trivial,.own fun a=>⟨a,rfl,rfl⟩⟩
  rintro _ _ σ3 ⟨a,rfl,e⟩;exact⟨as++[a],by refine rz (length_append ..) <| rz (hl ..) ?_;rfl,by refine rz (map_append ..) ?_;rfl,by refine rz (e ..) <| rz (reverse_append ..) ?_;rfl⟩
 rintro rs O ⟨as,hl,rfl,rfl⟩;rw[length_map] at hl;refine .inl (.own fun b=>LFor.e (f:=.int) (fun i=>.put "tied" (Rf b) (.put "heads" (dI heads) (.own ((b,Lk (as.map Rf))::ownT as (D1 heads i)) .nil))) (.drop [] rfl ?_) (fun i x hx=>?_) ?_)
 ·refine rz (show ownT as (D1 heads 0)=as.map fun a=>(a,Lk []) by rw[← ownT_new as,hl];rfl) <| ((reverse_perm as).map _).cons _
 ·have hi:i<heads.length:=(List.getElem?_eq_some_iff.mp hx).1;obtain⟨b1,b2⟩:=h2 i x hx;obtain⟨hl2,hb2⟩:=tied_up heads i;have hb2:∀ t∈D1 heads i,t.length≤2000:=fun t ht=>le_trans (hb2 t ht) (by omega)
  refine rz (tied_next hx ..) ?_;generalize D1 heads i=ts at hl2 hb2⊢
  have haz:as.length≤1000000:=le_trans (le_of_eq hl) hz;refine .d (fun hx0=>?_) fun hx0=>.mk (fun e=>nomatch e) fun V=>.mk rfl (by refine rz (show tstep ts i x=ts from if_neg fun h=>hx0 h.1) ?_;rfl)
  obtain⟨m,rfl⟩:=Int.eq_ofNat_of_zero_le hx0;have hm:m<i:=Int.ofNat_lt.mp b2;have at_:∀ {j},j<heads.length→∃ a,as[j]?=some a:=fun h=>⟨_,List.getElem?_eq_getElem (hl.symm▸h)⟩
  obtain⟨am,ham⟩:=at_ (lt_trans hm hi);obtain⟨ai,hai⟩:=at_ hi;have htm:=Ef (l:=ts) (k:=m) (hl2.symm▸lt_trans hm hi);have e3:tstep ts i (m:Int)=if 0≤(m:Int)∧(ts.getD m []).length<3 then (ts.set m (ts.getD m []++[i])).set i ((ts.set m (ts.getD m []++[i])).getD i []++[m]) else ts:=rfl
  refine rz (e3 ..) ?_;have hb3:=set_bd (j:=m) (k:=i) hb2;have hl3:(ts.set m (ts.getD m []++[i])).length=heads.length:=List.length_set.trans hl2;have htl:=hb2 _ (List.mem_of_getElem? htm);have hum:=Ef (l:=ts.set m (ts.getD m []++[i])) (k:=i) (hl3.symm▸hi);refine LObj.m 0 rfl (LGet.m (f:=Rf) ham haz (LObj.m (m+1) (ownT_at ham htm) ⟨by refine rz (length_map ..) <| len63 (le_trans htl (by decide)),?_⟩))
  refine rz (length_map ..) <| .d (fun h3=>?_) fun h3=>.mk rfl (by refine rz (if_neg fun h=>h3 (Int.ofNat_lt.mpr h.2) ..) ?_;rfl)
  refine rz (if_pos ⟨hx0,Int.ofNat_lt.mp h3⟩ ..) ?_;have hui:(setK (Lk ((ts.getD m []++[i]).map fun n=>.int (n:Nat))) m (ownT as ts))[i]?=some (ai,Lk (((ts.set m (ts.getD m []++[i])).getD i []).map fun n=>.int (n:Nat))):=by refine rz (Gq ..) <| ownT_at hai hum
  refine LObj.m 0 rfl (LGet.m (f:=Rf) ham haz (LObj.m (m+1) (ownT_at ham htm) (LApp.m (f:=fun n:Nat=>.int (n:Nat)) (m+1) (ownT_at ham htm) (le_trans htl (by decide)) ?_)))
  refine LObj.m 0 rfl (LGet.m (f:=Rf) hai haz (LObj.m (i+1) hui (LApp.m (f:=fun n:Nat=>.int (n:Nat)) (i+1) hui (le_trans (hb3 _ (List.mem_of_getElem? hum)) (by decide)) ?_)))
  exact .mk rfl (congrArg ((b,Lk (as.map Rf))::·) ((congrArg (setK _ i) Gq).trans Gq))
 ·have e:D1 heads heads.length=B4 heads:=by unfold D1 B4;exact rz (take_of_length_le (by rw[length_zipIdx];exact le_refl _) ..) rfl
  have hl2:=(tied_up heads heads.length).1;rw[e] at hl2⊢
  refine .deep b as ((B4 heads).map fun t=>t.map fun n=>.int (n:Nat)) [] (rz (length_map ..) <| rz (hl ..) <| rz (hl2 ..) rfl) (rz (append_nil ..) <| .refl _) (.frz "tied" b _ 0 rfl rfl (.ok (.mk ?_)))
  refine rz (map_map ..) ?_;rfl
variable{prog:Program}{w:World}{K:Frag}
noncomputable def D3(h:Nat):List Nat:=(List.range (h % 6)).map fun j=>if h / 6 / 2^j % 2=0 then 32 else 9
theorem lead_ok(H:KOk K)(h:Nat)(hb:h<2^40):Pure prog w K 3 230 [.int (h:Nat)] (.str (tx (D3 h))):=by
 refine lawV H 1 rfl (by decide +kernel) (by intro vs hv;obtain⟨v0,rfl⟩:=len1 hv;kernel_rfl!) fun g=>?_
 have h6:h % 6<6:=mod_lt _ (by decide)
 have ej:(List.range (h % 6)).map (fun j=>tx [if h / 6 / 2^j % 2=0 then 32 else 9])=((List.range (h % 6)).map fun j=>[if h / 6 / 2^j % 2=0 then 32 else 9]).map tx:=by refine rz (map_map ..) ?_;rfl
 have h6':h % 6≤1000000:=le_trans (le_of_lt h6) (by decide)
 refine .n (b:=6) (by decide) ⟨Dj h6',LComp.rg (n:=h % 6) (fun j=>.str (tx [if h / 6 / 2^j % 2=0 then 32 else 9])) h6' (fun i hi=>?_) (.frz (.m (fun j=>tx [if h / 6 / 2^j % 2=0 then 32 else 9]) ⟨?_,?_⟩))⟩
 ·have hi6:i<6:=lt_trans hi h6;refine⟨trivial,LDiv.n (b:=6) (by decide) (by decide) ⟨⟨natCast_nonneg _,?_⟩,LDiv.n (a:=h / 6) (b:=2^i) (Nat.pos_iff_ne_zero.mp (Nat.two_pow_pos _)) (lt_of_le_of_lt (pow_le_pow_right (by decide) (le_of_lt hi6)) (by decide)) (LMod.n (a:=h / 6 / 2^i) (b:=2) (by decide) (.mk (if h / 6 / 2^i % 2=0 then 32 else 9) ?_ ?_ ⟨rfl,rfl⟩)) rfl ?_⟩⟩
  ·have:Builtin.Int.intBits 2=2:=by decide +kernel
   refine rz (this ..) <| (ai [_,_] [] (.m 2 (.c Aa)) (.q 134217728) (.c 2 (.a Aa Ad) Ab (.c 2 (.a Ab Ad) (.n 6) .z)) 0 rfl hi (mod_lt _ (by decide)))
  ·rcases mod_two_eq_zero_or_one (h / 6 / 2^i) with e | e<;>refine rz (e ..) ?_<;>decide
  ·rcases mod_two_eq_zero_or_one (h / 6 / 2^i) with e | e<;>refine rz (e ..) ?_<;>decide +kernel
  ·refine rz (toNat_natCast ..) ?_;simp
 ·refine rz (Eh ..) <| rz (mul_zero ..) <| rz (add_zero ..) <| rz (ej ..) <| rz (sum_len ..) <| rz (flat_single ..) <| rz (length_map ..) <| rz (length_range ..) <| le_trans (le_of_lt h6) (by decide)
 ·refine rz (ej ..) <| rz (Dl ..) <| rz (flat_single ..) <| .mk rfl
variable{prog:Program}{w:World}{K:Frag}
noncomputable def Cn(wd:List Nat)(bare:Bool):List Nat:=if bare then (if wd.head? = some 34 then [34] else [])++[92,10,9,13,32] else [34,92]
noncomputable def escOf(r wd:List Nat):List Nat:=wd.flatMap fun n=>if n∈r then [92,n] else [n]
noncomputable def Bd(wd:List Nat)(bare:Bool)(b:Nat):List Nat:=if bare then escOf (Cn wd bare) wd++[b] else [b,34]++escOf (Cn wd bare) wd++[34]
theorem lit_q:(Str.ofString "\"")=tx [34]:=by decide +kernel
theorem lit_b:(Str.ofString "\\")=tx [92]:=by decide +kernel
theorem lit_r1:(Str.ofString "\\\n\t\r ")=tx [92,10,9,13,32]:=by decide +kernel
theorem lit_r2:(Str.ofString "\"\\")=tx [34,92]:=by decide +kernel
theorem esc_len(r wd:List Nat):(escOf r wd).length≤2*wd.length:=by
 unfold escOf
 induction wd with
 |nil=>simp
 |cons a l ih =>
  refine rz (flatMap_cons ..) <| rz (length_append ..) <| rz (length_cons ..) ?_
  have:(if a∈r then [92,a] else [a]).length≤2:=by split<;>simp
  exact(ar [_,_,_] (.a Ag Aa) (.m 2 (.a Ab Ad)) (.c 1 Aa (.m 2 Ab) (.c 1 Ag (.n 2) .z)) 0 rfl ih this)
theorem written_ok(H:KOk K)(wd:List Nat)(bare:Bool)(b:Nat)(h0:wd≠[])(hl:wd.length≤100000):Pure prog w K 3 225 [.str (tx wd),.bool bare,.str (tx [b])] (.str (tx (Bd wd bare b))):=by
 refine lawV H 0 rfl (by decide +kernel) (by intro vs hv;obtain⟨v0,v1,v2,rfl⟩:=len3 hv;kernel_rfl!) fun g=>?_
 refine LIfE.cut (.str (tx (Cn wd bare))) (fun e=>?_) (fun e=>?_) ?_
 ·subst e;obtain⟨n,wd,rfl⟩:=exists_cons_of_ne_nil h0;refine .mk n rfl ?_ ?_
  ·refine rz (show seqIndex? 0 (tx (n::wd)).length=some 0 by unfold seqIndex?;simp[A6]) ?_
   simp[tx]
  refine .eq (z':=decide ([n]=[34])) (rz (lit_q ..) <| rz (tx_sign ..) <| rz (tx_beq ..) rfl) (.d (fun e=>?_) (fun e=>?_))
  ·obtain rfl:n=34:=by simpa using e
   exact⟨by decide +kernel,by refine rz (lit_q ..) <| rz (lit_r1 ..) <| rz (Bh ..) ?_;rfl,rfl⟩
  ·have hn:n≠34:=by simpa using e
   exact⟨by decide +kernel,by refine rz (D0 ..) <| rz (lit_r1 ..) <| rz (Bh ..) ?_;simp[Cn,hn],rfl⟩
 ·subst e;exact⟨by refine rz (lit_r2 ..) ?_;rfl,rfl⟩
 generalize hr:Cn wd bare=r;have hz:wd.length≤1000000:=le_trans hl (by decide)
 have ef:(List.map (fun n=>if n∈r then [92,n] else [n]) wd).flatten=escOf r wd:=by rw[escOf,flatMap_def]
 have hel:=esc_len r wd;refine LComp.m (f:=fun n=>.str ⟨#[n]⟩) (l:=(tx wd).cps.toList) (fun n=>.str (tx (if n∈r then [92,n] else [n]))) (rz (C1 ..) <| hz) (fun i x hx=>?_) (.frz ?_)
 ·refine⟨trivial,.eq (z':=decide (x∈r)) (contains_tx r x) (.d (fun e=>?_) (fun e=>?_))⟩
  ·exact⟨by rw[lit_b,tx_sign,A6,A6];exact A4 (by simp),by refine rz (if_pos e ..) <| rz (lit_b ..) <| rz (tx_sign ..) <| rz (Bh ..) ?_;rfl,rfl⟩
  ·exact⟨by refine rz (if_neg e ..) ?_;rfl,rfl⟩
 refine rz (C1 ..) ?_;have ej:wd.map (fun n=>tx (if n∈r then [92,n] else [n]))=(wd.map fun n=>if n∈r then [92,n] else [n]).map tx:=by refine rz (map_map ..) ?_;rfl
 refine .m (fun n=>tx (if n∈r then [92,n] else [n])) ⟨?_,?_⟩
 ·refine rz (Eh ..) <| rz (mul_zero ..) <| rz (add_zero ..) <| rz (ej ..) <| rz (sum_len ..) <| rz (ef ..) <| (ar [_,_] Ab Aq (.c 2 Aa A1 (.c 1 Ab (.m 2 Aa) .z)) 0 rfl hl hel)
 refine rz (ej ..) <| rz (Dl ..) <| rz (ef ..) ?_
 have hl1:(escOf r wd).length≤500000:=le_trans hel (le_trans (mul_le_mul_left 2 hl) (by decide))
 have sl:∀ {a b:Str}{m n:Nat},a.length≤m→b.length≤n→m+n≤1000000→a.length+b.length≤sizeLine:=fun h1 h2 h3=>A4 (le_trans (add_le_add h1 h2) h3)
 refine .mk (fun e=>?_) fun e=>?_
 ·subst e;refine⟨sl (m:=500000) (n:=1) (rz (A6 ..) <| hl1) (rz (A6 ..) <| le_refl _) (by decide),.mk ?_⟩
  refine rz (Bh ..) <| rz (Eq.symm (hr ..)) ?_;rfl
 ·subst e;refine⟨sl (m:=1) (n:=1) (rz (A6 ..) <| le_refl _) (by decide +kernel) (by decide),sl (m:=2) (n:=500000) (rz (lit_q ..) <| rz (Bh ..) <| rz (A6 ..) <| le_refl _) (rz (A6 ..) <| hl1) (by decide),sl (m:=500002) (n:=1) ?_ (by decide +kernel) (by decide),.mk ?_⟩
  ·rw[lit_q,Bh,Bh,A6,length_append];exact le_trans (add_le_add_left hl1 _) (by simp)
  ·rw[lit_q,Bh,Bh,Bh,← hr];rfl
variable{prog:Program}{w:World}{K:Frag}
noncomputable def Eo:Nat→Nat→List Int→List Int
 |0,_,_=>[]
 |f+1,d,l=>match l[d % l.length]? with
  |none=>[]
  |some x=>x::Eo f (d / l.length) (l.eraseIdx (d % l.length))
noncomputable def Dp(d many:Nat):List Int:=Eo many d (rng 0 many)
theorem order_ok(H:KOk K)(d many:Nat)(hm:many≤1000):Pure prog w K 3 237 [.int (d:Nat),.int (many:Nat)] (.list ((Dp d many).map .int)):=by
 refine lawV H 2 rfl (by decide +kernel) (by intro vs hv;obtain⟨v0,v1,rfl⟩:=len2 hv;kernel_rfl!) fun g=>?_
 have hz:many≤1000000:=le_trans hm (by decide)
 refine .own fun a=>⟨⟨Dj hz,le_trans (le_of_eq (by rw[Int.sub_zero,toNat_natCast])) (le_trans hz (by decide))⟩,.own fun b=>?_⟩
 refine .mk { z:(Nat × List Int) × List Int // z.2++Eo z.1.2.length z.1.1 z.1.2=Dp d many∧z.2.length+z.1.2.length≤1000 } (fun z=>.own [(b,.seq (.type "list") none (z.1.1.2.map .int)),(a,.seq (.type "list") none (z.1.2.map .int))] (.put "left" (Rf b) (.put "order" (Rf a) (.put "many" (.int (many:Nat)) (.put "draw" (.int (z.1.1.1:Nat)) .nil))))) (fun z=>z.1.1.2.length) ⟨((d,rng 0 many),[]),by rw[Ew];rfl,by rw[Ew];simpa using hm⟩ (.mk rfl (by rw[Int.sub_zero,toNat_natCast];rfl)) ?_
 rintro⟨⟨⟨d',l⟩,os⟩,ho,hlen⟩;have ho:os++Eo l.length d' l=Dp d many:=ho;have hlen:os.length+l.length≤1000:=hlen;refine LNeL.nil _ (.inr ⟨b,0,rfl,rfl⟩) rfl ((Sh.ints l).le (by decide)) (.mk (fun e=>?_) (fun e=>?_))
 ·have hk0:0<l.length:=List.length_pos_iff.mpr (ne_of e);have hk:d' % l.length<l.length:=mod_lt _ hk0;have hy:=List.getElem?_eq_getElem hk;generalize l[d' % l.length]=y at hy;have hlz:l.length≤1000000:=le_trans (le_trans (Nat.le_add_left _ _) hlen) (by decide)
  have el:(l.eraseIdx (d' % l.length)).length+1=l.length:=by rw[length_eraseIdx_of_lt hk];exact sub_add_cancel hk0
  refine LObj.m 1 rfl (.popAt b _ 0 _ _ rfl rfl rfl rfl (LObj.m 0 rfl ⟨by rw[length_map];exact len63 hlz,LMod.n (b:=l.length) (Nat.pos_iff_ne_zero.mp hk0) (.mk _ (d' % l.length) (.int y) _ 0 rfl rfl (fits_nat (lt_of_lt_of_le hk (le_trans hlz (by decide)))) (by rw[length_map];exact F6 hk) (by rw[List.getElem?_map,hy];rfl) (by rw[length_map];exact A4 hlz) (.m (f:=.int) (l:=os) 1 rfl (le_trans (le_trans (le_add_right _ _) hlen) (by decide)) ?_)) rfl (by rw[length_map])⟩))
  refine LObj.m 0 rfl ⟨by rw[length_eraseIdx_of_lt (by rw[length_map];exact hk),length_map];exact lt_of_le_of_lt (sub_le _ _) (len63 hlz),LDiv.n (b:=l.length) (Nat.pos_iff_ne_zero.mp hk0) (lt_of_le_of_lt hlz (by decide)) ⟨⟨((d' / l.length,l.eraseIdx (d' % l.length)),os++[y]),?_,?_⟩,?_,.mk rfl ?_⟩ rfl ?_⟩
  ·show os++[y]++Eo (l.eraseIdx (d' % l.length)).length (d' / l.length) (l.eraseIdx (d' % l.length))=_
   rw[← ho,append_assoc]
   congr 1
   have e3:Eo l.length d' l=y::Eo (l.eraseIdx (d' % l.length)).length (d' / l.length) (l.eraseIdx (d' % l.length)):=by
    conv=>lhs;arg 1;rw[← el]
    show(match l[d' % l.length]? with | none=>[] | some x=>x::Eo (l.eraseIdx (d' % l.length)).length (d' / l.length) (l.eraseIdx (d' % l.length)))=_
    rw[hy]
   exact e3.symm
  ·show(os++[y]).length+(l.eraseIdx (d' % l.length)).length≤1000
   rw[length_append,length_singleton,Nat.add_assoc,Nat.add_comm 1,el];exact hlen
  ·exact Nat.lt_of_lt_of_eq (lt_succ_self _) el
  ·rw[Du];rfl
  ·rw[Du,length_map];exact congrArg (fun n:Nat=>(n:Int)) el
 ·have h0:l=[]:=nil_of e;subst h0;have ho:os++[]=Dp d many:=ho;rw[append_nil] at ho;subst ho
  exact .ok (.frz a _ 1 rfl rfl rfl)
variable{prog:Program}{w:World}{K:Frag}
structure WsS where
 n:Nat
 nt:Nat
 b:Nat
 cnt:List Nat
noncomputable def grown(cnt:List Nat)(b:Nat):List Nat:=if cnt.length≤b then cnt++List.replicate (b+1-cnt.length) 0 else cnt
noncomputable def bump(cnt:List Nat)(b:Nat):List Nat:=(grown cnt b).set b ((grown cnt b).getD b 0+1)
noncomputable def Cq(z:WsS)(ch:Nat):WsS:=if ch=32 then ⟨z.n+1,z.nt,z.b+1,z.cnt⟩ else ⟨z.n+1,z.nt+1,0,bump z.cnt z.b⟩
noncomputable def wsOf(l:List Nat):WsS:=l.foldl Cq ⟨0,0,0,[]⟩
noncomputable def Cb(r:List Nat):List Nat:=r.takeWhile fun ch=>ch == 32||ch == 9
noncomputable abbrev ws0:Od:=[("raw",none),("n",none),("nt",none),("norm",none),("is_simple",none)]
noncomputable abbrev wsD(r:List Nat)(z:WsS):Od:=[("raw",some (.str (tx r))),("n",some (.int z.n)),("nt",some (.int z.nt)),("norm",some (.tuple [.tuple (z.cnt.map fun n=>.int (n:Nat)),.int z.b])),("is_simple",some (.bool (decide (z.cnt.length≤1))))]
theorem tb9{n:Nat}:((⟨#[n]⟩:Str) == ("\t" : Str))=decide (n=9):=by
 have e:("\t" : Str)=⟨#[9]⟩:=by decide +kernel
 refine rz (e ..) ?_
 by_cases h:n=9
 ·subst h;simp
 ·refine rz (decide_eq_false h ..) <| beq_eq_false_iff_ne.mpr fun q=>h (by simpa using q)
theorem grown_len(cnt:List Nat)(b:Nat):b<(grown cnt b).length:=by
 unfold grown
 split
 ·refine rz (length_append ..) <| rz (length_replicate ..) <| (ar [_,_,_] (.a Aa Ad) (.a Ag Ab) (.c 1 (.a Aa Ad) (.a Ab Ag) .z) 0 rfl (le_sa ..))
 ·exact(Nat.lt_of_not_le (by assumption))
theorem grown_le(cnt:List Nat)(b:Nat):(grown cnt b).length≤max cnt.length (b+1):=by
 unfold grown
 split
 ·refine rz (length_append ..) <| rz (length_replicate ..) ?_;omega
 ·exact(Nat.le_max_left ..)
noncomputable def isB(ch:Nat):Bool:=ch == 32||ch == 9
theorem wsOf_snoc(l:List Nat)(n:Nat):wsOf (l++[n])=Cq (wsOf l) n:=by unfold wsOf;refine rz (foldl_append ..) ?_;rfl
theorem bump_len(cnt:List Nat)(b:Nat):(bump cnt b).length≤max cnt.length (b+1):=by
 unfold bump;refine rz (length_set ..) ?_;unfold grown
 split
 ·refine rz (length_append ..) <| rz (length_replicate ..) ?_;omega
 ·exact(Nat.le_max_left ..)
theorem wsOf_bd(l:List Nat):(wsOf l).b≤l.length∧(wsOf l).cnt.length≤l.length∧(wsOf l).b+(wsOf l).nt≤l.length:=by
 have key:∀ (l:List Nat) (z:WsS) (m:Nat),z.b≤m→z.cnt.length≤m→z.b+z.nt≤m→(l.foldl Cq z).b≤m+l.length∧(l.foldl Cq z).cnt.length≤m+l.length∧(l.foldl Cq z).b+(l.foldl Cq z).nt≤m+l.length:=by
  intro l
  induction l with
  |nil=>intro z m h1 h2 h3;exact⟨h1,h2,h3⟩
  |cons a l ih =>
   intro z m h1 h2 h3;refine rz (foldl_cons ..) <| rz (length_cons ..) ?_
   have:=ih (Cq z a) (m+1) (by unfold Cq;split<;>simp<;>exact h1) (by
    unfold Cq;split
    ·simp;exact(le_succ_of_le h2)
    ·have:=bump_len z.cnt z.b
     show(bump z.cnt z.b).length≤m+1
     omega) (by unfold Cq;split<;>simp<;>(first | exact(ar [_,_,_] (.a (.a Aa Ad) Ab) (.a Ag Ad) (.c 1 (.a Aa Ab) Ag .z) 0 rfl h3) | exact(ar [_,_,_] Ab Ag (.c 1 (.a Aa Ab) Ag .z) 0 rfl h3)))
   exact⟨(ar [_,_,_] Aa (.a Ab (.a Ag Ad)) (.c 1 Aa (.a (.a Ab Ad) Ag) .z) 0 rfl this.1),⟨(ar [_,_,_] Aa (.a Ab (.a Ag Ad)) (.c 1 Aa (.a (.a Ab Ad) Ag) .z) 0 rfl this.2.1),(ar [_,_,_,_] (.a Aa Ab) (.a Ag (.a An Ad)) (.c 1 (.a Aa Ab) (.a (.a Ag Ad) An) .z) 0 rfl this.2.2)⟩⟩
 have:=key l ⟨0,0,0,[]⟩ 0 (le_refl _) (le_refl _) (le_refl _);unfold wsOf;exact⟨(ar [_,_] Aa Ab (.c 1 Aa (.a Al Ab) .z) 0 rfl this.1),⟨(ar [_,_] Aa Ab (.c 1 Aa (.a Al Ab) .z) 0 rfl this.2.1),(ar [_,_,_] (.a Aa Ab) Ag (.c 1 (.a Aa Ab) (.a Al Ag) .z) 0 rfl this.2.2)⟩⟩
noncomputable abbrev wsA(r:List Nat):Od:=[("raw",some (.str (tx r))),("n",none),("nt",none),("norm",none),("is_simple",none)]
noncomputable abbrev wsF(r:List Nat)(x dx:Addr)(z:WsS)(ca:Addr):Sg:=.own [(ca,.seq (.type "list") none (dNs z.cnt)),(x,Ins 209 dx),(dx,.obj (wsA r))] (.put "nt" (.int (z.nt:Nat)) (.put "n" (.int (z.n:Nat)) (.put "b" (.int (z.b:Nat)) (.put "count" (Rf ca) (.put "T" (.str "\t") (.put "S" (.str " ") (.put "ws" (.str (tx r)) (.put "self" (Rf x) .nil))))))))
theorem le_one(zc:List Nat):decide (((dNs zc).length:Int)≤1)=decide (zc.length≤1):=by refine rz (length_map ..) <| decide_eq_decide.mpr ofNat_le
theorem wsinit_ok(H:KOk K)(r:List Nat)(x dx:Addr)(h1:r.length≤1000) :
  Fn prog w K 3 164 [(x,Ins 209 dx),(dx,.obj ws0)] [Rf x,.str (tx r)] (fun d B'=>d=.none∧B'=[(x,Ins 209 dx),(dx,.obj (wsD r (wsOf (Cb r))))]):=by
 refine Er H 26 (.own [(x,Ins 209 dx),(dx,.obj ws0)] .nil) rfl rfl rfl (by decide +kernel) (by intro vs hv;obtain⟨v0,v1,rfl⟩:=len2 hv;kernel_rfl!) (fun g=>?_) (fun d B' h=>by obtain⟨_,rfl⟩:=h;exact fun q hq=>(List.mem_map.mpr ⟨q,hq,rfl⟩:q.1∈[(x,Ins 209 dx),(dx,.obj ws0)].map (·.1)))
 have hbl:∀ i,(r.take i).length≤1000:=fun i=>le_trans (rz (length_take ..) <| min_le_right _ _) h1
 have hm:∀ {l:List Nat},l.length≤1000→(dNs l).length≤1000000:=fun h=>by refine rz (length_map ..) <| le_trans h (by decide)
 refine .ws x dx _ _ 0 1 rfl rfl rfl rfl rfl (.own fun a0=>.ws x dx _ 1 2 _ rfl rfl rfl rfl rfl (.ex Addr (fun i V=>∀ ch∈r.take i,isB ch=true) (fun i ca=>wsF r x dx (wsOf (r.take i)) ca) a0 (fun ch h=>nomatch h) (.mk rfl rfl) (fun i ca d hd hall=>?_) (fun ca hall=>.ok ?_)))
 ·obtain⟨n,hn,rfl⟩:∃ n,r[i]?=some n∧d=.str ⟨#[n]⟩:=by
   rw[C1,List.getElem?_map,Option.map_eq_some_iff] at hd;obtain⟨n,h1,h2⟩:=hd
   exact⟨n,h1,h2.symm⟩
  have etk:r.take (i+1)=r.take i++[n]:=by refine rz (take_add_one ..) <| rz (hn ..) ?_;rfl
  obtain⟨hb1,hb2,_⟩:=wsOf_bd (r.take i);have hb1:=le_trans hb1 (hbl i);have hb2:=le_trans hb2 (hbl i);have next:isB n=true→∀ ch∈r.take (i+1),isB ch=true:=fun h ch hch=>by
   rw[etk] at hch;rcases List.mem_append.mp hch with q | q
   ·exact hall ch q
   ·refine rz (List.mem_singleton.mp q ..) <| h
  refine LIfS.eq sp32 (.mk (fun e=>?_) (fun e=>LIfS.eq tb9 (.mk (fun e9=>?_) (fun e9=>?_))))
  ·refine⟨ca,next (by refine rz (of_decide_eq_true e ..) ?_;rfl),?_⟩
   show LSub _ (wsF r x dx (wsOf (r.take (i+1))) ca)
   rw[etk,wsOf_snoc,Cq,if_pos (of_decide_eq_true e)];exact .mk rfl rfl
  ·have hi:isB n=true:=by refine rz (of_decide_eq_true e9 ..) ?_;rfl
   have hs:wsOf (r.take (i+1))=⟨(wsOf (r.take i)).n+1,(wsOf (r.take i)).nt+1,0,bump (wsOf (r.take i)).cnt (wsOf (r.take i)).b⟩:=by rw[etk,wsOf_snoc,Cq,if_neg (of_decide_eq_false e)]
   generalize wsOf (r.take i)=z at hb1 hb2 hs⊢
   obtain⟨zn,znt,zb,zc⟩:=z;have hl:(dNs zc).length<2^63:=len63 (hm hb2);have hgl:=grown_len zc zb;have hgz:(grown zc zb).length≤1000000:=le_trans (grown_le zc zb) (Nat.max_le.mpr ⟨le_trans hb2 (by decide),le_trans (succ_le_succ hb1) (by decide)⟩)
   refine .mk ca _ 0 rfl rfl ⟨hl,LIfS.eq (z':=decide (zc.length≤zb)) (rz (length_map ..) <| decide_eq_decide.mpr ofNat_le) (.mk (fun q=>?_) (fun q=>?_))⟩
   ·have q:=of_decide_eq_true q;have eN:(((zb:Nat):Int)-((dNs zc).length:Nat)+1)=((zb+1-zc.length:Nat):Int):=by refine rz (length_map ..) <| (Int.le_antisymm (ai [_,_,_] [] (.a (.s (.c Aa) (.c Ag)) Ah) (.c Ab) (.c 1 (.a Aa Ad) (.a Ab Ag) .z) 0 rfl (le_sa ..)) (ai [_,_,_] [] (.c Aa) (.a (.s (.c Ag) (.c Ab)) Ah) (.c 1 (.a Aa Ab) (.a Ag Ad) .z) 0 rfl (le_of_eq (sub_add_cancel (le_succ_of_le q)))))
    have hs2:zc.length+(zb+1-zc.length)=zb+1:=Nat.add_sub_of_le (le_succ_of_le q);have hz1:zb+1≤1000000:=le_trans (succ_le_succ hb1) (by decide)
    refine .frz (.mk ca _ 0 rfl rfl ⟨hl,⟨by refine rz (eN ..) <| natCast_nonneg _,by refine rz (eN ..) <| Int.ofNat_lt.mpr (lt_of_le_of_lt (le_trans (sub_le _ _) hz1) (by decide)),by refine rz (eN ..) ?_;show 1*_≤_;refine rz (Nat.one_mul ..) <| le_trans (sub_le _ _) (le_trans hz1 (by decide))⟩,.frz (.mk ca _ 0 rfl rfl ⟨?_,.eq (ds':=dNs (grown zc zb)) ?_ (.own fun a1=>?_)⟩)⟩)
    ·refine rz (eN ..) <| rz (toNat_natCast ..) <| rz (flat_one ..) <| rz (length_map ..) <| rz (length_replicate ..) <| rz (hs2 ..) <| A4 hz1
    ·refine rz (eN ..) <| rz (toNat_natCast ..) <| rz (flat_one ..) <| rz (show grown zc zb=zc++List.replicate (zb+1-zc.length) 0 from if_pos q) <| ((map_append ..).trans (congrArg _ (List.map_replicate ..))).symm
    ·exact .m 0 rfl (.m (Gv hgl) hgz (.m (f:=fun n:Nat=>.int (n:Nat)) (x:=(grown zc zb).getD zb 0+1) 0 rfl hgl hgz ⟨a1,next hi,.ix [0,1,1] (by refine rz (hs ..) ?_;rfl) (by refine rz (hs ..) ?_;rfl)⟩))
   ·have eg:grown zc zb=zc:=if_neg (of_decide_eq_false q);rw[eg] at hgl hgz
    exact .m 0 rfl (.m (Gv hgl) hgz (.m (f:=fun n:Nat=>.int (n:Nat)) (x:=zc.getD zb 0+1) 0 rfl hgl hgz ⟨ca,next hi,.mk (by refine rz (hs ..) ?_;rfl) (by rw[hs,bump,eg];rfl)⟩))
  ·have eb:Cb r=r.take i:=tw_break (p:=isB) hall hn (by rw[isB,Bool.or_eq_false_iff];exact⟨beq_eq_false_iff_ne.mpr (of_decide_eq_false e),beq_eq_false_iff_ne.mpr (of_decide_eq_false e9)⟩)
   exact .ws x dx _ _ 1 2 rfl rfl rfl rfl rfl (.ws x dx _ _ 1 2 rfl rfl rfl rfl rfl (.mk ca _ 0 rfl rfl ⟨A4 (hm hb2),.ws x dx _ _ 1 2 rfl rfl rfl rfl rfl (.mk ca _ 0 rfl rfl ⟨len63 (hm hb2),.ws x dx _ _ 1 2 rfl rfl rfl rfl rfl (.det [1,1] ⟨rfl,by refine rz (le_one ..) <| rz (eb ..) rfl⟩ rfl)⟩)⟩))
 ·have hl:(List.map (fun n=>PyData.str ⟨#[n]⟩) (tx r).cps.toList).length=r.length:=by refine rz (C1 ..) <| rz (length_map ..) rfl
  rw[hl] at hall⊢
  obtain⟨_,hb2,_⟩:=wsOf_bd (r.take r.length);have hb2:=le_trans hb2 (hbl _);have eb:Cb r=r.take r.length:=by rw[take_length] at hall⊢;exact tw_all (p:=isB) hall
  exact .ws x dx _ _ 1 2 rfl rfl rfl rfl rfl (.ws x dx _ _ 1 2 rfl rfl rfl rfl rfl (.mk ca _ 0 rfl rfl ⟨A4 (hm hb2),.ws x dx _ _ 1 2 rfl rfl rfl rfl rfl (.mk ca _ 0 rfl rfl ⟨len63 (hm hb2),.ws x dx _ _ 1 2 rfl rfl rfl rfl rfl (.det [1,1] ⟨rfl,by refine rz (le_one ..) <| rz (eb ..) rfl⟩ rfl)⟩)⟩))
variable{prog:Program}{w:World}{K:Frag}
noncomputable abbrev wsX(r:List Nat)(z:WsS)(x dx:Addr):Xs:=[(x,Ins 209 dx),(dx,.obj (wsD r z))]
noncomputable def Gb(z:WsS):Int:=max ((z.cnt.length:Int)-1) z.b
theorem long_ok(H:KOk K)(r:List Nat)(z:WsS)(x dx:Addr)(h1:z.cnt.length≤1000) :
  Fn prog w K 3 171 [(x,Ins 209 dx),(dx,.obj (wsD r z))] [Rf x] (fun d B'=>d=.int (Gb z)∧B'=[(x,Ins 209 dx),(dx,.obj (wsD r z))]):=by
 refine Er H 27 (.own (wsX r z x dx) .nil) rfl rfl rfl (by decide +kernel) (by intro vs hv;obtain⟨v0,rfl⟩:=len1 hv;kernel_rfl!) (fun g=>?_) (fun d B' h=>by obtain⟨_,rfl⟩:=h;exact fun q hq=>(List.mem_map.mpr ⟨q,hq,rfl⟩:q.1∈(wsX r z x dx).map (·.1)))
 exact .ws x dx _ 0 1 _ rfl rfl rfl rfl rfl ⟨by refine rz (length_map ..) <| le_trans h1 (by decide),.mk (.det [0,0] ⟨by refine rz (length_map ..) ?_;rfl,rfl⟩ rfl)⟩
noncomputable def Cv(z:WsS)(ts:Nat)(il:Int)(i:Nat):Int:=il+((i:Int).fdiv (ts:Int))*(z.cnt.getD i 0:Nat)
noncomputable def indOf(z:WsS)(ts:Nat):Int:=z.b+ts*(((List.range (z.cnt.length-ts)).map fun i=>ts+i).foldl (Cv z ts) 0+z.nt)
theorem fdiv_nat(a b:Nat):((a:Int).fdiv (b:Int))=((a / b:Nat):Int):=by
 refine rz (Int.fdiv_eq_ediv_of_nonneg _ (natCast_nonneg b) ..) ?_;simp
theorem ind_bd(z:WsS)(ts:Nat)(h0:0<ts)(h1:z.cnt.length≤1000)(h3:∀ y∈z.cnt,y≤1000):0≤((List.range (z.cnt.length-ts)).map fun i=>ts+i).foldl (Cv z ts) 0∧((List.range (z.cnt.length-ts)).map fun i=>ts+i).foldl (Cv z ts) 0≤1000000000000:=by
 have hg:∀ i,z.cnt.getD i 0≤1000:=fun i=>by
  refine rz (List.getD_eq_getElem?_getD ..) ?_;cases e:z.cnt[i]? with
  |none=>simp
  |some u=>exact h3 u (List.mem_of_getElem? e)
 have key:∀ (l:List Nat) (a:Int),0≤a→(∀ i∈l,i≤1000)→0≤l.foldl (Cv z ts) a∧l.foldl (Cv z ts) a≤a+1000000*l.length:=by
  intro l
  induction l with
  |nil=>intro a h _;exact⟨h,by simp⟩
  |cons i l ih =>
   intro a h hl;refine rz (foldl_cons ..) <| rz (length_cons ..) ?_
   have e:Cv z ts a i=a+((i / ts*z.cnt.getD i 0:Nat):Int):=by unfold Cv;refine rz (fdiv_nat ..) ?_;simp
   have b1:i / ts≤1000:=le_trans (Nat.div_le_self _ _) (hl i (.head _));have b2:i / ts*z.cnt.getD i 0≤1000*1000:=Nat.mul_le_mul b1 (hg i);have:=ih (Cv z ts a i) (rz (e ..) <| (ai [_] [_] Aj (.a Af (.c Aa)) (.i 1 Aj Af .z) 0 rfl h)) fun j hj=>hl j (.tail _ hj)
   rw[e] at this⊢
   exact⟨this.1,(ai [_,_] [_,_] Af (.a Ai (.m 1000000 (.c (.a Ab Ad)))) (.c 1 Aa (.m 1000 Am) (.i 1 Af (.a (.a Ai (.c Aa)) (.m 1000000 (.c Ab))) .z)) 0 rfl b2 this.2)⟩
 have:=key ((List.range (z.cnt.length-ts)).map fun i=>ts+i) 0 (Int.le_refl _) (fun i hi=>by
  obtain⟨j,hj,rfl⟩:=List.mem_map.mp hi;rw[List.mem_range] at hj;omega)
 rw[length_map,length_range] at this;exact⟨this.1,(ai [_,_] [_] Af (.q 1000000000000) (.c 1000000 Aa Am (.i 1 Af (.a Aj (.m 1000000 (.c Ab))) (.c 1000000 Ab Aa .z))) 0 rfl h1 this.2 (sub_le ..))⟩
theorem take_fold{α β:Type}(f:β→α→β)(b:β){l:List α}{i:Nat}{x:α}(h:l[i]?=some x):(l.take (i+1)).foldl f b=f ((l.take i).foldl f b) x:=by refine rz (take_add_one ..) <| rz (h ..) <| rz (foldl_append ..) ?_;rfl
theorem indent_ok(H:KOk K)(r:List Nat)(z:WsS)(x dx:Addr)(ts:Nat)(h0:0<ts)(h1:z.cnt.length≤1000)(h2:ts≤2000)(h3:∀ y∈z.cnt,y≤1000)(h4:z.nt≤1000) :
  Fn prog w K 3 178 [(x,Ins 209 dx),(dx,.obj (wsD r z))] [Rf x,.int (ts:Nat)] (fun d B'=>d=.int (indOf z ts)∧B'=[(x,Ins 209 dx),(dx,.obj (wsD r z))]):=by
 refine Er H 28 (.own (wsX r z x dx) .nil) rfl rfl rfl (by decide +kernel) (by intro vs hv;obtain⟨v0,v1,rfl⟩:=len2 hv;kernel_rfl!) (fun g=>?_) (fun d B' h=>by obtain⟨_,rfl⟩:=h;exact fun q hq=>(List.mem_map.mpr ⟨q,hq,rfl⟩:q.1∈(wsX r z x dx).map (·.1)))
 refine .ws x dx _ 0 1 _ rfl rfl rfl rfl rfl ⟨by refine rz (length_map ..) <| le_trans h1 (by decide),?_⟩
 refine⟨by refine rz (length_map ..) <| Gk (ai [_] [] Au (.c Aa) .z 0 rfl) (ai [_] [] (.c Aa) Av (.c 1 Aa (.n 2000) .z) 0 rfl h2) (ai [_] [] Au (.c Aa) .z 0 rfl) (ai [_] [] (.c Aa) Av (.c 1 Aa Am .z) 0 rfl h1),?_⟩
 have eN:((((dNs z.cnt).length:Nat):Int)-(ts:Nat)).toNat=z.cnt.length-ts:=by refine rz (length_map ..) <| toNat_sub _ _
 refine rz (eN ..) ?_;refine .mk (fun i=>.own (wsX r z x dx) (.put "il" (.int ((((List.range (z.cnt.length-ts)).map fun i=>ts+i).take i).foldl (Cv z ts) 0)) (.put "trailing" (.int z.b) (.put "count" (.tuple (dNs z.cnt)) (.put "tabsize" (.int (ts:Nat)) (.put "self" (Rf x) .nil)))))) (.mk rfl rfl) (fun i d hd=>?_) (.ok ?_)
 ·obtain⟨hi,rfl⟩:=rng_get hd;have hx:((List.range (z.cnt.length-ts)).map fun i=>ts+i)[i]?=some (ts+i):=by simp[hi]
  refine rz (show(ts:Int)+(i:Int)=((ts+i:Nat):Int) from rfl) ?_
  have hk:ts+i<z.cnt.length:=Nat.add_lt_of_lt_sub' hi;generalize el:((List.range (z.cnt.length-ts)).map fun i=>ts+i)=l at hx
  have e1:=take_fold (Cv z ts) 0 hx;generalize ts+i=k at hk e1⊢
  have hg:z.cnt.getD k 0≤1000:=h3 _ (List.mem_of_getElem? (Gv hk));have hq:k / ts≤k:=Nat.div_le_self _ _;refine .n (a:=k) (b:=ts) (ne_of_gt h0) (lt_of_le_of_lt h2 (by decide)) (.mk k (.int (z.cnt.getD k 0:Nat)) rfl (by refine rz (List.getElem?_map ..) <| rz (Gv hk ..) ?_;rfl) (rz (length_map ..) <| le_trans h1 (by decide)) ⟨mulOk (lt_of_le_of_lt hq (lt_trans hk (lt_of_le_of_lt h1 (by decide)))) (lt_of_le_of_lt hg (by decide)),.mk ?_ rfl⟩)
  rw[e1,Cv,fdiv_nat]
  rfl
 ·refine rz (length_map ..) <| rz (Ew ..) <| rz (take_of_length_le (by simp) ..) ?_
  have hbd:=ind_bd z ts h0 h1 h3;unfold indOf;generalize ((List.range (z.cnt.length-ts)).map fun i=>ts+i).foldl (Cv z ts) 0=il at hbd⊢
  exact .ws x dx _ 0 1 _ rfl rfl rfl rfl rfl ⟨mulOk (ar [_] (.a Aa Ad) Ao (.c 1 Aa (.n 2000) .z) 0 rfl h2) (abs_lt (ai [_] [_] (.a Az Ah) (.a Af (.c Aa)) (.i 1 Aj Af .z) 0 rfl hbd.1) (ai [_] [_] (.a (.a Af (.c Aa)) Ah) A2 (.c 1 Aa Am (.i 1 Af (.q 1000000000000) .z)) 0 rfl h4 hbd.2)),.mk (.det [0,0] ⟨rfl,rfl⟩ rfl)⟩
noncomputable def C4(a b:WsS):Bool :=
 if b.n≤a.n then false
 else if a.cnt.length≤1∧b.cnt.length≤1 then decide (a.nt≤b.nt)
 else ((List.range (((max (Gb a) (Gb b)+1)+1-2).toNat)).map fun i=>2+i).all fun ts=>!decide (indOf b ts≤indOf a ts)
theorem long_bd(z:WsS)(h1:z.cnt.length≤1000)(h2:z.b≤1000):-1000≤Gb z∧Gb z≤1000:=by unfold Gb;omega
theorem less_ok(H:KOk K)(ra rb:List Nat)(z1 z2:WsS)(x dx y dy:Addr)(h1:z1.cnt.length≤1000)(h2:z2.cnt.length≤1000)(h3:∀ q∈z1.cnt,q≤1000)(h4:∀ q∈z2.cnt,q≤1000)(h5:z1.nt≤1000)(h6:z2.nt≤1000)(h7:z1.b≤1000)(h8:z2.b≤1000) :
  Fn prog w K 5 199 [(x,Ins 209 dx),(dx,.obj (wsD ra z1)),(y,Ins 209 dy),(dy,.obj (wsD rb z2))] [Rf x,Rf y] (fun d B'=>d=.bool (C4 z1 z2)∧B'=[(x,Ins 209 dx),(dx,.obj (wsD ra z1)),(y,Ins 209 dy),(dy,.obj (wsD rb z2))]):=by
 refine Er H 29 (.own (wsX ra z1 x dx++wsX rb z2 y dy) .nil) rfl rfl rfl (by decide +kernel) (by intro vs hv;obtain⟨v0,v1,rfl⟩:=len2 hv;kernel_rfl!) (fun g=>?_) (fun d B' h=>by obtain⟨_,rfl⟩:=h;exact fun q hq=>(List.mem_map.mpr ⟨q,hq,rfl⟩:q.1∈(wsX ra z1 x dx++wsX rb z2 y dy).map (·.1)))
 refine .ws x dx _ 0 1 _ rfl rfl rfl rfl rfl (.ws y dy _ 2 3 _ rfl rfl rfl rfl rfl (LIfS.eq (z':=decide (z2.n≤z1.n)) (decide_eq_decide.mpr ofNat_le) (.d (fun e=>?_) (fun e=>?_))))
 ·exact .mk (.det [0,0,0,0] ⟨by rw[C4,if_pos e],rfl⟩ rfl)
 refine(fun(go:¬(z1.cnt.length≤1∧z2.cnt.length≤1)→_)=>.ws x dx _ 0 1 _ rfl rfl rfl rfl rfl (.d (fun e1=>.ws y dy _ 2 3 _ rfl rfl rfl rfl rfl (.d (fun e2=>?qa) (fun e2=>go fun h=>e2 h.2))) (fun e1=>.mk (fun h=>nomatch h) fun V=>go fun h=>e1 h.1))) (fun e3=>?qb)
 case qa=>exact .ws x dx _ 0 1 _ rfl rfl rfl rfl rfl (.ws y dy _ 2 3 _ rfl rfl rfl rfl rfl (.mk (.det [0,0,0,0] ⟨by rw[C4,if_neg e,if_pos ⟨e1,e2⟩];exact congrArg _ (decide_eq_decide.mpr ofNat_le),rfl⟩ rfl)))
 rw[C4,if_neg e,if_neg e3];have b1:=long_bd z1 h1 h7;have b2:=long_bd z2 h2 h8;refine .fn0 x 171 rfl rfl (.ws dx _ 0 1 rfl rfl rfl rfl) (.det (m:=3) [0,0] rfl (long_ok g.H ra z1 x dx h1) rfl (.fn0 y 171 rfl rfl (.ws dy _ 2 3 rfl rfl rfl rfl) (.det (m:=3) [2,2] rfl (long_ok g.H rb z2 y dy h2) rfl ?_)));generalize Gb z1=la at b1⊢
 generalize Gb z2=lb at b2⊢
 have hmx:max la lb≤1000:=Int.max_le.mpr ⟨b1.2,b2.2⟩;refine⟨Gk (ai [] [] Au (.q 2) .z 0 rfl) (ai [] [] (.q 2) Av .z 0 rfl) (ai [] [_,_] Au (.a (.a Ai Ah) Ah) (.i 1 (.q (-1000)) Af (.i 1 Af Ai .z)) 0 rfl b1.1 (Int.le_max_left ..)) (Int.le_trans (Int.add_le_add_right (Int.add_le_add_right hmx 1) 1) (by decide)),?_⟩
 refine .ex Unit (fun i V=>∀ j<i,!decide (indOf z2 (2+j)≤indOf z1 (2+j))) (fun i V=>.own (wsX rb z2 y dy++wsX ra z1 x dx) (.put "n" (.int (max la lb+1)) (.put "other" (Rf y) (.put "self" (Rf x) .nil)))) () (fun j hj=>absurd hj (Nat.not_lt_zero _)) (.mk rfl rfl) (fun i V d hd hall=>?_) (fun V hall=>.ok ?_)
 ·obtain⟨hi,rfl⟩:=rng_get hd;have hi2:2+i≤2000:=le_trans (add_le_add_left (le_trans (le_of_lt hi) (Int.toNat_le.mpr (Int.le_trans (Int.sub_le_self _ (by decide)) (Int.add_le_add_right (Int.add_le_add_right hmx 1) 1)))) 2) (by decide)
  refine rz (show(2:Int)+(i:Int)=((2+i:Nat):Int) by simp) ?_
  refine .fn x 178 _ _ rfl rfl (.ws dx _ 2 3 rfl rfl rfl rfl) (.det (m:=3) [2,2] rfl (indent_ok g.H ra z1 x dx (2+i) (ar [_] (.a Al Ad) (.a (.n 2) Aa) .z 0 rfl) h1 hi2 h3 h5) rfl (.fn y 178 _ _ rfl rfl (.ws dy _ 2 3 rfl rfl rfl rfl) (.det (m:=3) [2,2] rfl (indent_ok g.H rb z2 y dy (2+i) (ar [_] (.a Al Ad) (.a (.n 2) Aa) .z 0 rfl) h2 hi2 h4 h6) rfl (.d (fun e5=>.mk (.det [2,2,0,0] ⟨?_,rfl⟩ rfl)) (fun e5=>⟨(),fun j hj=>?_,.mk rfl rfl⟩)))))
  ·exact rz (show(((List.range (max la lb+1+1-2).toNat).map fun i=>2+i).all fun ts=>!decide (indOf z2 ts≤indOf z1 ts))=false from List.all_eq_false.mpr ⟨2+i,List.mem_map.mpr ⟨i,List.mem_range.mpr hi,rfl⟩,by rw[decide_eq_true e5];exact Bool.false_ne_true⟩) rfl
  ·rcases Nat.lt_succ_iff_lt_or_eq.mp hj with q | rfl
   ·exact hall j q
   ·refine rz (decide_eq_false e5 ..) ?_;rfl
 ·rw[length_map,Ew] at hall;refine .mk (.det [2,2,0,0] ⟨?_,rfl⟩ rfl)
  rw[show(((List.range (max la lb+1+1-2).toNat).map fun i=>2+i).all fun ts=>!decide (indOf z2 ts≤indOf z1 ts))=true from List.all_eq_true.mpr fun ts hts=>by
   obtain⟨j,hj,rfl⟩:=List.mem_map.mp hts;exact hall j (List.mem_range.mp hj)]
variable{prog:Program}{w:World}{K:Frag}
theorem wsOf_n(l:List Nat):(wsOf l).n=l.length:=by
 have key:∀ (l:List Nat) (z:WsS),(l.foldl Cq z).n=z.n+l.length:=by
  intro l
  induction l with
  |nil=>intro z;rfl
  |cons a l ih =>
   intro z;refine rz (foldl_cons ..) <| rz (ih ..) <| rz (length_cons ..) ?_
   unfold Cq
   split<;>simp<;>exact(le_antisymm (ar [_,_] (.a (.a Aa Ad) Ab) (.a Aa (.a Ab Ad)) .z 0 rfl) (ar [_,_] (.a Aa (.a Ab Ad)) (.a (.a Aa Ad) Ab) .z 0 rfl))
 unfold wsOf;refine rz (key ..) ?_;simp
theorem bump_bd{cnt:List Nat}{b m:Nat}(h:∀ y∈cnt,y≤m):∀ y∈bump cnt b,y≤m+1:=by
 have hg:∀ y∈grown cnt b,y≤m:=by
  unfold grown
  split
  ·intro y hy;rcases List.mem_append.mp hy with q | q
   ·exact h y q
   ·refine rz ((List.mem_replicate.mp q).2 ..) <| zero_le _
  ·exact h
 intro y hy;unfold bump at hy;rcases List.mem_or_eq_of_mem_set hy with q | q
 ·exact le_succ_of_le (hg y q)
 ·refine rz (q ..) ?_;have:(grown cnt b).getD b 0≤m:=by
   refine rz (List.getD_eq_getElem?_getD ..) ?_;cases e:(grown cnt b)[b]? with
   |none=>exact zero_le _
   |some v=>exact hg v (List.mem_of_getElem? e)
  exact(succ_le_succ this)
theorem wsOf_cnt(l:List Nat):∀ y∈(wsOf l).cnt,y≤l.length:=by
 have key:∀ (l:List Nat) (z:WsS) (m:Nat),(∀ y∈z.cnt,y≤m)→∀ y∈(l.foldl Cq z).cnt,y≤m+l.length:=by
  intro l
  induction l with
  |nil=>intro z m h y hy;exact h y hy
  |cons a l ih =>
   intro z m h y hy;rw[foldl_cons] at hy;have:=ih (Cq z a) (m+1) (by
    unfold Cq
    split
    ·exact fun y hy=>le_succ_of_le (h y hy)
    ·exact bump_bd h) y hy
   refine rz (length_cons ..) <| (ar [_,_,_] Aa (.a Ab (.a Ag Ad)) (.c 1 Aa (.a (.a Ab Ad) Ag) .z) 0 rfl this)
 intro y hy;have:=key l ⟨0,0,0,[]⟩ 0 (fun V h=>nomatch h) y hy
 exact(ar [_,_] Aa Ab (.c 1 Aa (.a Al Ab) .z) 0 rfl this)
noncomputable abbrev LL:=List Nat × List Nat
noncomputable def rowW(r:List Nat):WsS:=wsOf (Cb r)
noncomputable def popR(z:WsS):List LL→LL × List LL
 |[]=>(([],[]),[])
 |p::r=>if p.2=[]∨C4 (rowW p.1) z=true then (p,r) else popR z r
noncomputable def accOf(R:List LL):List (Str × Str):=R.reverse.map fun p=>(tx p.1,tx p.2)
noncomputable def catL(R:List LL):List Nat:=(R.reverse.map fun p=>p.1++p.2).flatten
noncomputable def nestR(R:List LL)(r:List Nat):List LL :=
 (r.take (rowW r).n,r.drop (rowW r).n)::(if (popR (rowW r) R).1.2=[] then (popR (rowW r) R).2 else (popR (rowW r) R).1::(popR (rowW r) R).2)
noncomputable def Fh(R:List LL)(r:List Nat):List Nat:=(popR (rowW r) R).1.1++(popR (rowW r) R).1.2
structure Nst where
 pile:List LL
 heads:Lz
 piled:Lz
noncomputable def Cm(z:Nst)(r:List Nat):Nst:=⟨nestR z.pile r,z.heads++[Fh z.pile r],z.piled++[catL (nestR z.pile r)]⟩
noncomputable def B8(rs:Lz):Nst:=rs.foldl Cm ⟨[],[],[]⟩
theorem mkws(H:KOk K){r:List Nat}(h1:r.length≤1000):Cl prog w K 4 (.ref 209) [] [.str (tx r)] fun d B'=>∃ x dx,d=Rf x∧B'=[(x,Ins 209 dx),(dx,.obj (wsD r (rowW r)))]:=fun A c X T s vs E Q oA hK S hv q=>by
 obtain⟨v,us,rfl,a1,hr⟩:=hv.uncons;obtain rfl:=hr.unnil;obtain⟨t,rfl⟩:=B5 a1;have H':KOk c.K:=hK▸H;have hc:(209,"object.__getattribute__",_,_)∈clTab:=.tail _ (.tail _ (.head _));obtain⟨hi,hf⟩:=(H'.clF hc).2.1 ("__init__",164) (.head _);exact r_make (ρ:=ws0) oA rfl H'.mks.2.1 hi hf (by decide +kernel) (by decide +kernel) (by decide) (fun x dx=>wsinit_ok H' r x dx h1) S (.cons (.str _ _) .nil) fun x dx s' S'=>q _ _ _ s' ⟨x,dx,rfl,rfl⟩ (S'.push (.raw x))
theorem mkacc(H2:KOk2 prog K):Cl prog w K 4 (.ref 101) [] [] fun d B'=>∃ x dx,d=Rf x∧B'=AccX x dx []:=fun A c X T s vs E Q oA hK S hv q=>by
 obtain rfl:=hv.unnil;exact r_makeacc (n:=0) (hK▸H2) oA S fun x dx s' S'=>q _ _ _ s' ⟨x,dx,rfl,rfl⟩ (S'.push (.raw x))
theorem stracc(H2:KOk2 prog K)(x dx:Addr)(ps:List (Str × Str))(h1:ps.length≤1000)(hl:∀ p∈ps,p.1.length+p.2.length≤1000):Cl prog w K 4 (.type "str") (AccX x dx ps++[(70,TabK)]) [Rf x] fun d B'=>d=.str (catsP ps)∧B'=AccX x dx ps++[(70,TabK)]:=fun A c X T s vs E Q oA hK S hv q=>by
 obtain⟨v,us,rfl,a1,hr⟩:=hv.uncons;obtain rfl:=hr.unnil;obtain rfl:=By a1;exact r_stracc (hK▸H2) oA S ⟨X,.refl _⟩ h1 hl fun v s' S'=>q _ _ _ s' ⟨rfl,rfl⟩ S'
theorem accOf_last(R:List LL):(accOf R).getLastD ("","")=(tx (R.headD ([],[])).1,tx (R.headD ([],[])).2):=by
 cases R with
 |nil =>
  show((("" : Str),("" : Str)):Str × Str)=(tx [],tx [])
  exact rz (Eq.symm (D0 ..)) rfl
 |cons p R=>simp[accOf]
theorem accOf_init(R:List LL):(accOf R).dropLast=accOf R.tail:=by
 cases R with
 |nil=>rfl
 |cons p R=>simp[accOf]
theorem accOf_cons(p:LL)(R:List LL):accOf (p::R)=accOf R++[(tx p.1,tx p.2)]:=by simp[accOf]
theorem accOf_len(R:List LL):(accOf R).length=R.length:=by simp[accOf]
theorem catsP_acc(R:List LL):catsP (accOf R)=tx (catL R):=by
 have h1:∀ p:LL,catP (tx p.1,tx p.2)=tx (p.1++p.2):=fun p=>by
  show(⟨_⟩:Str)=_
  simp[tx,Str.empty,Str.append]
 unfold catsP accOf catL;refine rz (map_map ..) <| rz (show Str.empty=Str.ofString "" by decide +kernel) <| rz (Eq.symm (Dl ..)) <| rz (map_map ..) ?_
 congr 1
 exact map_congr_left fun p V=>h1 p
theorem popR_len(z:WsS):∀ R:List LL,(popR z R).2.length≤R.length-(if (popR z R).1.2=[] then 0 else 1)
 |[]=>by simp[popR]
 |p::R=>by
  unfold popR
  split
  ·simp only[length_cons];split<;>(first | exact(ar [_,_] Aa Ab (.c 1 (.a Aa Ad) (.a Ab Al) .z) 0 rfl (le_sa ..)) | exact(ar [_,_] Aa Ab (.c 1 (.a Aa Ad) (.a Ab Ad) .z) 0 rfl (le_sa ..)))
  ·have:=popR_len z R;simp only[length_cons]
   split at this<;>rename_i h<;>simp only[h,if_true,if_false]<;>(first | exact(ar [_,_,_,_] Aa An (.c 1 Aa Ab (.c 1 Ab Ag (.c 1 (.a Ag Ad) (.a An Al) .z))) 0 rfl this (sub_le ..) (le_sa ..)) | exact(ar [_,_,_,_] Aa An (.c 1 Aa Ab (.c 1 Ab Ag (.c 1 (.a Ag Ad) (.a An Ad) .z))) 0 rfl this (sub_le ..) (le_sa ..)))
theorem popR_mem(z:WsS):∀ R:List LL,((popR z R).1∈R∨(popR z R).1=([],[]))∧∀ q∈(popR z R).2,q∈R
 |[]=>⟨.inr rfl,fun V h=>h⟩
 |p::R=>by
  unfold popR
  split
  ·exact⟨.inl (.head _),fun q hq=>.tail _ hq⟩
  ·exact⟨(popR_mem z R).1.imp (.tail _) id,fun q hq=>.tail _ ((popR_mem z R).2 q hq)⟩
theorem popR_pop(z:WsS)(R:List LL):popR z R=popR z (R.headD ([],[])::R.tail):=by
 cases R with
 |nil=>simp[popR]
 |cons p R=>rfl
theorem popR_go{z:WsS}{p:LL}{R:List LL}(h1:p.2≠[])(h2:C4 (rowW p.1) z=false):popR z (p::R)=popR z R:=by
 conv=>lhs;unfold popR
 rw[if_neg];rintro(h | h)
 ·exact h1 h
 ·rw[h2] at h;cases h
theorem popR_stop{z:WsS}{p:LL}{R:List LL}(h:p.2=[]∨C4 (rowW p.1) z=true):popR z (p::R)=(p,R):=by
 conv=>lhs;unfold popR
 exact rz (if_pos h ..) rfl
theorem rowW_n(r:List Nat):(rowW r).n≤r.length:=by
 unfold rowW;refine rz (wsOf_n ..) <| (List.takeWhile_prefix _).length_le
theorem rowW_bd{r:List Nat}(h:r.length≤1000):(rowW r).cnt.length≤1000∧(∀ y∈(rowW r).cnt,y≤1000)∧(rowW r).nt≤1000∧(rowW r).b≤1000:=by
 have h0:(Cb r).length≤1000:=le_trans (List.takeWhile_prefix _).length_le h;obtain⟨a,b,d⟩:=wsOf_bd (Cb r);unfold rowW;exact⟨by exact(le_trans b h0),fun y hy=>le_trans (wsOf_cnt _ y hy) h0,by exact(ar [_,_,_] Ag Am (.c 1 Aa Am (.c 1 (.a Ab Ag) Aa .z)) 0 rfl h0 d),by exact(le_trans a h0)⟩
def okR(m:Nat)(R:List LL):Prop:=R.length≤m∧∀ q∈R,q.1.length+q.2.length≤100
theorem nestR_ok{m:Nat}{R:List LL}{r:List Nat}(h:okR m R)(hr:r.length≤100):okR (m+1) (nestR R r):=by
 have h1:=popR_len (rowW r) R;obtain⟨h2,h3⟩:=popR_mem (rowW r) R;have hn:=rowW_n r
 constructor
 ·unfold nestR;have:=h.1;refine rz (length_cons ..) ?_
  split
  ·rename_i e;simp only[e,if_true] at h1;exact(ar [_,_,_,_] (.a Ag Ad) (.a Ab Ad) (.c 1 Aa Ab (.c 1 Ag An (.c 1 An Aa .z))) 0 rfl this h1 (sub_le ..))
  ·rename_i e;simp only[e,if_false] at h1;refine rz (length_cons ..) ?_
   have:(popR (rowW r) R).2.length+1≤R.length∨R.length=0:=by omega
   rcases this with q | q
   ·exact(ar [_,_,_] (.a (.a Ag Ad) Ad) (.a Ab Ad) (.c 1 Aa Ab (.c 1 (.a Ag Ad) Aa .z)) 0 rfl this q)
   ·have:R=[]:=List.length_eq_zero_iff.mp q;subst this;exact absurd rfl e
 ·intro q hq;unfold nestR at hq;rcases List.mem_cons.mp hq with rfl | hq
  ·simp;omega
  ·split at hq
   ·exact h.2 q (h3 q hq)
   ·rcases List.mem_cons.mp hq with rfl | hq
    ·rcases h2 with q | q
     ·exact h.2 _ q
     ·refine rz (q ..) ?_;simp
    ·exact h.2 q (h3 q hq)
theorem nestOf_snoc(l:Lz)(r:List Nat):B8 (l++[r])=Cm (B8 l) r:=by unfold B8;refine rz (foldl_append ..) ?_;rfl
theorem nestOf_ok(l:Lz)(h:∀ r∈l,r.length≤100):okR l.length (B8 l).pile∧(B8 l).heads.length=l.length∧(B8 l).piled.length=l.length:=by
 have key:∀ (l:Lz) (z:Nst) (m:Nat),okR m z.pile→z.heads.length=m→z.piled.length=m→(∀ r∈l,r.length≤100)→okR (m+l.length) (l.foldl Cm z).pile∧(l.foldl Cm z).heads.length=m+l.length∧(l.foldl Cm z).piled.length=m+l.length:=by
  intro l
  induction l with
  |nil=>intro z m a b d _;exact⟨a,b,d⟩
  |cons r l ih =>
   intro z m a b d h;have:=ih (Cm z r) (m+1) (nestR_ok a (h r (.head _))) (by simp[Cm,b]) (by simp[Cm,d]) fun q hq=>h q (.tail _ hq)
   refine rz (foldl_cons ..) <| rz (length_cons ..) <| rz (show m+(l.length+1)=m+1+l.length by exact(le_antisymm (ar [_,_] (.a Aa (.a Ab Ad)) (.a (.a Aa Ad) Ab) .z 0 rfl) (ar [_,_] (.a (.a Aa Ad) Ab) (.a Aa (.a Ab Ad)) .z 0 rfl))) <| this
 have:=key l ⟨[],[],[]⟩ 0 ⟨le_refl _,fun V h=>nomatch h⟩ rfl rfl h
 simpa [B8] using this
theorem mapS(l:Lz):(l.map tx).map PyData.str=l.map fun r=>.str (tx r):=by refine rz (map_map ..) ?_;rfl
theorem popA(H2:KOk2 prog K)(x dx:Addr)(R:List LL)(h:R.length≤100000):Fn prog w K 3 61 (AccX x dx (accOf R)) [Rf x] fun d B'=>d=.tuple [.str (tx (R.headD ([],[])).1),.str (tx (R.headD ([],[])).2)]∧B'=AccX x dx (accOf R.tail):=by
 have:=pop_ok (w:=w) H2 x dx (accOf R) (rz (accOf_len ..) <| h)
 rw[accOf_last,accOf_init] at this;exact this
theorem pushA(H2:KOk2 prog K)(x dx:Addr)(R:List LL)(a b:List Nat)(h:R.length≤100000):Fn prog w K 2 45 (AccX x dx (accOf R)) [Rf x,.str (tx a),.str (tx b)] fun d B'=>d=.none∧B'=AccX x dx (accOf ((a,b)::R)):=by
 refine rz (accOf_cons ..) <| push_ok H2 x dx (accOf R) (tx a) (tx b) (rz (accOf_len ..) <| h)
theorem strA(H2:KOk2 prog K)(x dx:Addr)(R:List LL){m:Nat}(h:okR m R)(hm:m≤1000):Cl prog w K 4 (.type "str") (AccX x dx (accOf R)++[(70,TabK)]) [Rf x] fun d B'=>d=.str (tx (catL R))∧B'=AccX x dx (accOf R)++[(70,TabK)]:=by
 refine rz (Eq.symm (catsP_acc ..)) <| stracc H2 x dx (accOf R) (rz (accOf_len ..) <| le_trans h.1 hm) fun p hp=>?_
 obtain⟨q,hq,rfl⟩:=List.mem_map.mp hp;have:=h.2 q (List.mem_reverse.mp hq);simp only[A6];exact(ar [_,_] (.a Aa Ab) Am (.c 1 (.a Aa Ab) Ar .z) 0 rfl this)
noncomputable def nsV(x pa ha:Addr):Sg:=.put "piled" (Rf pa) (.put "heads" (Rf ha) (.put "pile" (Rf x) .nil))
noncomputable def nsO(x dx pa ha:Addr)(R:List LL)(M:Xs)(hd pd:Lz)(σ:Sg):Sg:=.own (AccX x dx (accOf R)++(M++[(pa,.seq (.type "list") none (pd.map fun r=>.str (tx r))),(ha,.seq (.type "list") none (hd.map fun r=>.str (tx r)))])) σ
noncomputable def nsW(x dx pa ha y dy:Addr)(r:List Nat)(z:Nst)(a:LL × List LL):Sg:=nsO x dx pa ha a.2 [(y,Ins 209 dy),(dy,.obj (wsD r (rowW r))),(70,TabK)] z.heads z.piled (.put "name" (.str (tx a.1.2)) (.put "lead" (.str (tx a.1.1)) (.put "mine" (Rf y) (.put "row" (.str (tx r)) (nsV x pa ha)))))
theorem El(a:List Nat):(!(tx a == Str.ofString ""))=!decide (a=[]):=by refine rz (D0 ..) <| rz (tx_beq ..) rfl
theorem nest_ok(H2:KOk2 prog K)(rs:Lz)(h1:rs.length≤100)(h2:∀ r∈rs,r.length≤100∧okT r) :
  Fn prog w K 6 244 [(70,TabK)] [.list ((rs.map tx).map .str)] (fun d B'=>d=.tuple [.list (((B8 rs).heads.map tx).map .str),.list (((B8 rs).piled.map tx).map .str)]∧B'=[(70,TabK)]):=by
 refine rz (mapS ..) <| rz (mapS ..) <| rz (mapS ..) <| lawFnV2 H2 3 (.obj 70 TabK .nil) rfl rfl rfl (by decide +kernel) (by intro vs hv;obtain⟨v0,rfl⟩:=len1 hv;kernel_rfl!) (fun g H2=>?_) (fun d B' h=>by obtain⟨_,rfl⟩:=h;exact fun p hp=>List.mem_map.mpr ⟨p,hp,rfl⟩)
 have H:=H2.toKOk;refine .new rfl (mkacc H2) fun x dx=>.own fun ha=>.own fun pa=>?_
 refine LFor.m (f:=fun r=>.str (tx r)) (fun i=>nsO x dx pa ha (B8 (rs.take i)).pile [(70,TabK)] (B8 (rs.take i)).heads (B8 (rs.take i)).piled (nsV x pa ha)) (.ix [2,2,2,0,0] rfl rfl) (fun i r hr=>?_) ?_
 ·obtain⟨hrl,hrt⟩:=h2 r (List.mem_of_getElem? hr);have hi:=(List.getElem?_eq_some_iff.mp hr).1;have hz:=nestOf_ok (rs.take i) fun q hq=>(h2 q (List.mem_of_mem_take hq)).1
  rw[length_take,min_eq_left (le_of_lt hi)] at hz;have e1:=nestOf_snoc (rs.take i) r
  rw[← Bl hr] at e1;generalize B8 (rs.take i)=z at hz e1⊢
  obtain⟨hbd,hz2,hz3⟩:=hz;have hi100:i≤100:=le_trans (le_of_lt hi) h1;have hrl':r.length≤1000:=le_trans hrl (by decide)
  refine .new rfl (mkws H hrl') fun y dy=>.fn0 x 61 rfl rfl (.acc dx _ _ 2 3 rfl rfl rfl rfl) (.det [2,2] rfl (popA H2 x dx z.pile (le_trans hbd.1 (le_trans hi100 (by decide)))) rfl ?_)
  obtain⟨d1,d2,d3,d4⟩:=rowW_bd hrl';have hl1:(z.pile.headD ([],[])).1.length+(z.pile.headD ([],[])).2.length≤100:=by
   cases hp:z.pile with
   |nil=>exact zero_le _
   |cons q R=>exact hbd.2 q (rz (hp ..) <| .head _)
  refine .cut { a:LL × List LL // popR (rowW r) z.pile=popR (rowW r) (a.1::a.2)∧okR i a.2∧a.1.1.length+a.1.2.length≤100 } { a:LL × List LL // popR (rowW r) z.pile=a∧okR i a.2∧a.1.1.length+a.1.2.length≤100 } (fun a=>nsW x dx pa ha y dy r z a.1) (fun a=>a.1.2.length+if a.1.1.2=[] then 0 else 1) (fun a=>nsW x dx pa ha y dy r z a.1)
   ⟨(z.pile.headD ([],[]),z.pile.tail),popR_pop _ _,⟨by refine rz (List.length_tail ..) <| le_trans (sub_le _ _) hbd.1,fun q hq=>hbd.2 q (List.mem_of_mem_tail hq)⟩,hl1⟩ (.mk rfl rfl) ?_ ?_
  ·rintro⟨⟨p,R⟩,hpop,hR,hpl⟩;refine .mk (fun e=>?_) (fun e=>.mk (fun e=>nomatch e) fun V=>⟨⟨(p,R),?_,hR,hpl⟩,.mk rfl rfl⟩)
   ·have hp:p.2≠[]:=fun h=>by rw[show(!(tx p.2 == Str.ofString ""))=!decide (p.2=[]) from El p.2,h] at e;cases e
    have hpl':p.1.length≤1000:=le_trans (le_trans (le_add_right _ _) hpl) (by decide)
    obtain⟨b1,b2,b3,b4⟩:=rowW_bd hpl';refine .new rfl (mkws H hpl') fun u du=>.fn u 199 _ _ rfl rfl (.ws du _ 0 1 rfl rfl rfl rfl) (.det (m:=5) [0,0,2,2] rfl (less_ok H p.1 r (rowW p.1) (rowW r) u du y dy b1 d1 b2 d2 b3 d3 b4 d4) rfl (.mk (fun e2=>?_) fun e2=>?_))
    ·have hls:C4 (rowW p.1) (rowW r)=false:=by
      cases h:C4 (rowW p.1) (rowW r) with
      |false=>rfl
      |true=>rw[h] at e2;cases e2
     refine .fn0 x 61 rfl rfl (.acc dx _ _ 4 5 rfl rfl rfl rfl) (.det [4,4] rfl (popA H2 x dx R (le_trans hR.1 (le_trans hi100 (by decide)))) rfl ⟨⟨(R.headD ([],[]),R.tail),by refine rz (hpop ..) <| rz (popR_go hp hls ..) <| popR_pop _ _,⟨by refine rz (List.length_tail ..) <| le_trans (sub_le _ _) hR.1,fun q hq=>hR.2 q (List.mem_of_mem_tail hq)⟩,?_⟩,?_,.ix [0,0,2,2,2,2,2] rfl rfl⟩)
     ·cases R with
      |nil=>exact zero_le _
      |cons q R=>exact hR.2 q (.head _)
     ·show R.tail.length+(if (R.headD ([],[])).2=[] then 0 else 1)<R.length+if p.2=[] then 0 else 1
      refine rz (if_neg hp ..) ?_;cases R with
      |nil=>exact Nat.zero_lt_one
      |cons q R=>simp only[List.tail_cons,length_cons];split<;>(first | exact(ar [_] (.a (.a Aa Al) Ad) (.a (.a Aa Ad) Ad) .z 0 rfl) | exact(le_refl _))
    ·have hls:C4 (rowW p.1) (rowW r)=true:=by
      cases h:C4 (rowW p.1) (rowW r) with
      |true=>rfl
      |false=>rw[h] at e2;cases e2
     exact⟨⟨(p,R),by refine rz (hpop ..) <| popR_stop (.inr hls),hR,hpl⟩,.ix [4,4,2,2,2,2,2] rfl rfl⟩
   ·have hp:p.2=[]:=by
     rw[show(!(tx p.2 == Str.ofString ""))=!decide (p.2=[]) from El p.2] at e
     cases h:decide (p.2=[]) with
     |true=>exact of_decide_eq_true h
     |false=>rw[h] at e;cases e
    refine rz (hpop ..) <| popR_stop (.inl hp)
  ·rintro⟨⟨p,R⟩,hpop,hR,hpl⟩;have hpop:popR (rowW r) z.pile=(p,R):=hpop;have hR:okR i R:=hR;have hpl:p.1.length+p.2.length≤100:=hpl;refine .ok (LObj.m 6 rfl ⟨by refine rz (A6 ..) <| rz (A6 ..) <| A4 (le_trans hpl (by decide)),LApp.e (f:=fun r=>.str (tx r)) (x:=p.1++p.2) 6 (rz (Bh ..) rfl) rfl (le_trans (le_of_eq hz2) (le_trans hi100 (by decide))) ?_⟩)
   have hz3':z.piled.length≤1000000:=le_trans (le_of_eq hz3) (le_trans hi100 (by decide))
   refine LIfS.cut (nsO x dx pa ha (if p.2=[] then R else p::R) [(y,Ins 209 dy),(dy,.obj (wsD r (rowW r))),(70,TabK)] (z.heads++[p.1++p.2]) z.piled (.put "mine" (Rf y) (.put "row" (.str (tx r)) (nsV x pa ha)))) (fun e=>?_) (fun e=>?_) ?_
   ·have hp:p.2≠[]:=fun h=>by rw[show(!(tx p.2 == Str.ofString ""))=!decide (p.2=[]) from El p.2,h] at e;cases e
    exact .fn x 45 _ _ rfl rfl (.acc dx _ _ 0 1 rfl rfl rfl rfl) (.det [0,0] rfl (pushA H2 x dx R p.1 p.2 (le_trans hR.1 (le_trans hi100 (by decide)))) rfl (.mk rfl (by refine rz (if_neg hp ..) ?_;rfl)))
   ·have hp:p.2=[]:=by
     rw[show(!(tx p.2 == Str.ofString ""))=!decide (p.2=[]) from El p.2] at e
     cases h:decide (p.2=[]) with
     |true=>exact of_decide_eq_true h
     |false=>rw[h] at e;cases e
    exact .mk rfl (by refine rz (if_pos hp ..) ?_;rfl)
   have e2:nestR z.pile r=(r.take (rowW r).n,r.drop (rowW r).n)::(if p.2=[] then R else p::R):=by unfold nestR;exact rz (hpop ..) rfl
   have hR2:=nestR_ok hbd hrl;have hR3:(if p.2=[] then R else p::R).length≤100000:=by
    have:=hR2.1;rw[e2,length_cons] at this;exact(ar [_,_,_] Ag A1 (.c 1 Aa Ar (.c 1 (.a Ab Ad) Aa (.c 1 (.a Ag Ad) (.a Ab Ad) .z))) 0 rfl h1 hi this)
   have e3:Fh z.pile r=p.1++p.2:=by unfold Fh;exact rz (hpop ..) rfl
   unfold Cm at e1;rw[e2] at hR2
   rw[e2,e3] at e1;generalize (if p.2=[] then R else p::R)=R2 at hR2 hR3 e1⊢
   refine .fn x 45 _ _ rfl rfl (.acc dx _ _ 0 1 rfl rfl rfl rfl) (.ws y dy _ 2 3 _ rfl rfl rfl rfl rfl ⟨by refine rz (A6 ..) <| le_trans hrl (by decide),.ws y dy _ 2 3 _ rfl rfl rfl rfl rfl ⟨by refine rz (A6 ..) <| le_trans hrl (by decide),.det [0,0] rfl (pushA H2 x dx R2 _ _ hR3) rfl ?_⟩⟩)
   have e5:(pick (tx r).cps.toList none (some ((rowW r).n:Int)) none,pick (tx r).cps.toList (some ((rowW r).n:Int)) none none)=(List.take (rowW r).n r,List.drop (rowW r).n r):=by refine rz (C1 ..) <| rz (pick_upto ..) <| rz (pick_from ..) rfl
   refine rz (e5 ..) ?_;generalize (List.take (rowW r).n r,List.drop (rowW r).n r)::R2=R3 at hR2 e1⊢
   refine LObj.m 5 rfl (.detC [0,0,2] rfl (strA H2 x dx R3 hR2 (le_trans (succ_le_succ hi100) (by decide))) rfl (LApp.m (f:=fun r=>.str (tx r)) 5 rfl hz3' (.ix [0,0,0,2,2] rfl (by refine rz (e1 ..) ?_;rfl))))
 ·refine rz (take_length ..) <| .frz "heads" ha _ 4 rfl rfl (.frz "piled" pa _ 3 rfl rfl (.ok (.mk (.det [2] ⟨rfl,rfl⟩ rfl))))
variable{prog:Program}{w:World}{K:Frag}
structure Gm where
 q:List Nat
 l:List Int
 tu:List (Nat × Int)
 met:List Nat
noncomputable def gStep(put:List Nat→List Nat→List Nat)(tied:Lz)(z:Gm)(k:Nat)(q:List Nat):Gm:=⟨put (tret tied z.l k) q,tlst tied z.l k,ttur z.l z.tu k,z.met++[k]⟩
noncomputable def gRun(put:List Nat→List Nat→List Nat)(tied:Lz):Nat→Gm→Option Gm
 |n,z=>match z.q with
  |[]=>some z
  |k::q=>match n with
   |0=>none
   |n+1=>gRun put tied n (gStep put tied z k q)
noncomputable def putQ(new q:List Nat):List Nat:=q++new
noncomputable def putS(new q:List Nat):List Nat:=new.reverse++q
theorem Dd{put:List Nat→List Nat→List Nat}{tied:Lz}{n:Nat}{z:Gm}(h:z.q=[]):gRun put tied n z=some z:=by
 cases n<;>(unfold gRun;exact rz (h ..) rfl)
theorem C6{put:List Nat→List Nat→List Nat}{tied:Lz}{n:Nat}{z z':Gm}{k:Nat}{q:List Nat}(h:z.q=k::q)(hr:gRun put tied n z=some z'):∃ m,n=m+1∧gRun put tied m (gStep put tied z k q)=some z':=by
 cases n with
 |zero=>unfold gRun at hr;rw[h] at hr;cases hr
 |succ m =>
  unfold gRun at hr;rw[h] at hr
  exact⟨m,rfl,hr⟩
theorem tlst_len(tied:Lz)(l:List Int)(k:Nat):(tlst tied l k).length=l.length:=by
 unfold tlst
 split
 ·unfold A9;refine rz (length_set ..) <| rz (C7 ..) rfl
 ·rfl
theorem ttur_len(l:List Int)(tu:List (Nat × Int))(k:Nat):(ttur l tu k).length≤tu.length+1:=by
 unfold ttur
 split
 ·simp
 ·exact(ar [_] Aa (.a Aa Ad) .z 0 rfl)
theorem tret_ok{tied:Lz}{l:List Int}{m:Nat}(h:∀ js∈tied,(∀ j∈js,j<m)∧js.length≤5)(k:Nat):(∀ j∈tret tied l k,j<m)∧(tret tied l k).length≤5:=by
 unfold tret
 split
 ·refine rz (List.getD_eq_getElem?_getD ..) ?_;cases e:tied[k]? with
  |none=>exact⟨(fun V h=>nomatch h),zero_le _⟩
  |some js=>exact h js (List.mem_of_getElem? e)
 ·exact⟨(fun V h=>nomatch h),zero_le _⟩
structure GmOk(m:Nat)(n:Nat)(z:Gm):Prop where
 ln:z.l.length=m
 q:∀ k∈z.q,k<m
 qn:z.q.length+5*n≤2000
 tn:z.tu.length+n≤300
 mn:z.met.length+n≤300
theorem GmOk.step{put:List Nat→List Nat→List Nat}(hp:∀ a b,(∀ k∈put a b,k∈a∨k∈b)∧(put a b).length=a.length+b.length){tied:Lz}{m n:Nat}{z:Gm}{k:Nat}{q:List Nat}(H:GmOk m (n+1) z)(h:∀ js∈tied,(∀ j∈js,j<m)∧js.length≤5)(hq:z.q=k::q):GmOk m n (gStep put tied z k q):=by
 obtain⟨h1,h2,h3,h4,h5⟩:=H;obtain⟨t1,t2⟩:=tret_ok (l:=z.l) h k;rw[hq] at h2 h3
 refine⟨by simp[gStep,tlst_len,h1],fun j hj=>?_,?_,?_,by simp[gStep];exact(ar [_,_] (.a (.a Aa Ad) Ab) A3 (.c 1 (.a Aa (.a Ab Ad)) A3 .z) 0 rfl h5)⟩
 ·rcases(hp _ _).1 j hj with e | e
  ·exact t1 j e
  ·exact h2 j (.tail _ e)
 ·show(put _ _).length+_≤_
  refine rz ((hp _ _).2 ..) ?_;rw[length_cons] at h3;exact(ar [_,_,_] (.a (.a Ag Aa) (.m 5 Ab)) (.n 2000) (.c 1 (.a (.a Aa Ad) (.m 5 (.a Ab Ad))) (.n 2000) (.c 1 Ag At .z)) 0 rfl h3 t2)
 ·have:=ttur_len z.l z.tu k
  show(ttur z.l z.tu k).length+_≤_
  exact(ar [_,_,_] (.a Ag Ab) A3 (.c 1 (.a Aa (.a Ab Ad)) A3 (.c 1 Ag (.a Aa Ad) .z)) 0 rfl h4 this)
theorem putQ_ok:∀ a b,(∀ k∈putQ a b,k∈a∨k∈b)∧(putQ a b).length=a.length+b.length:=fun a b=>⟨fun k hk=>(List.mem_append.mp hk).symm,by simp[putQ];exact(le_antisymm (ar [_,_] (.a Aa Ab) (.a Ab Aa) .z 0 rfl) (ar [_,_] (.a Aa Ab) (.a Ab Aa) .z 0 rfl))⟩
theorem putS_ok:∀ a b,(∀ k∈putS a b,k∈a∨k∈b)∧(putS a b).length=a.length+b.length:=fun a b=>⟨fun k hk=>(List.mem_append.mp hk).imp (fun h=>List.mem_reverse.mp h) id,by simp[putS]⟩
noncomputable def rowP(rows:Lz)(k:Nat):LL:=((rows.getD k []).dropLast,[(rows.getD k []).getLastD 0])
noncomputable def pilR(rows:Lz)(q:List Nat):List LL:=q.map (rowP rows)
theorem snoc_of{r:List Nat}(h:r≠[]):∃ l n,r=l++[n]:=by
 rcases r.eq_nil_or_concat with e | ⟨l,n,e⟩
 ·exact absurd e h
 ·exact⟨l,n,by refine rz (e ..) <| rz (List.concat_eq_append ..) rfl⟩
theorem last_at{r:List Nat}(h:r≠[]):(seqIndex? (-1) (tx r).length).bind ((tx r).cps[·]?)=some (r.getLastD 0):=by
 obtain⟨l,n,rfl⟩:=snoc_of h;refine rz (A6 ..) <| rz (seqIndex_neg (by simp) ..) <| rz (Option.bind_some ..) ?_
 show((l++[n]).toArray)[(l++[n]).length-1]?=_
 simp
noncomputable def rowT(rows:Lz)(q:List Nat):List Nat:=((pilR rows q).headD ([],[])).1++((pilR rows q).headD ([],[])).2
theorem rowT_cons{rows:Lz}{k:Nat}{q:List Nat}(h:rows.getD k []≠[]):rowT rows (k::q)=rows.getD k []:=by
 obtain⟨l,n,e⟩:=snoc_of h;unfold rowT pilR rowP;simp only[map_cons,List.headD_cons];refine rz (e ..) ?_;simp
theorem rowT_len{rows:Lz}(h:∀ r∈rows,r≠[]∧r.length≤100∧okT r)(q:List Nat):((pilR rows q).headD ([],[])).1.length+((pilR rows q).headD ([],[])).2.length≤101:=by
 cases q with
 |nil=>simp[pilR]
 |cons k q =>
  have:(rows.getD k []).length≤100:=by
   refine rz (List.getD_eq_getElem?_getD ..) ?_;cases e:rows[k]? with
   |none=>simp
   |some r=>exact(h r (List.mem_of_getElem? e)).2.1
  simp only[pilR,map_cons,List.headD_cons,rowP,length_dropLast,length_cons,length_nil];exact(ar [_,_] (.a Ab (.a Al Ad)) (.n 101) (.c 1 Aa Ar (.c 1 Ab Aa .z)) 0 rfl this (sub_le ..))
theorem rowT_join(rows:Lz)(q:List Nat):Txt.join (Str.ofString "") [tx ((pilR rows q).headD ([],[])).1,tx ((pilR rows q).headD ([],[])).2]=tx (rowT rows q):=by
 have:=Dl [((pilR rows q).headD ([],[])).1,((pilR rows q).headD ([],[])).2]
 simpa [rowT] using this
theorem pilR_tail(rows:Lz)(q:List Nat):(pilR rows q).tail=pilR rows q.tail:=by cases q<;>rfl
theorem Fu{rows:Lz}(hn:rows.Nodup){k:Nat}(hk:k<rows.length):∀ m,m<k→(rows.map tx)[m]?≠some (tx (rows.getD k [])):=by
 intro m hm e;rw[List.getElem?_map,List.getElem?_eq_getElem (by exact(ar [_,_,_] (.a Ag Ad) Ab (.c 1 (.a Aa Ad) Ab (.c 1 (.a Ag Ad) Aa .z)) 0 rfl hk hm)),Option.map_some] at e
 have e:=tx_inj (Option.some.inj e);rw[List.getD_eq_getElem?_getD,List.getElem?_eq_getElem hk,Option.getD_some] at e;have h1:=List.pairwise_iff_getElem.mp hn m k (ar [_,_,_] (.a Ag Ad) Ab (.c 1 (.a Aa Ad) Ab (.c 1 (.a Ag Ad) Aa .z)) 0 rfl hk hm) hk hm
 exact h1 e
theorem getD_rows{rows:Lz}{k:Nat}(h:k<rows.length):(rows.map tx)[k]?=some (tx (rows.getD k [])):=by
 refine rz (List.getElem?_map ..) <| rz (List.getElem?_eq_getElem h ..) <| rz (List.getD_eq_getElem?_getD ..) <| rz (List.getElem?_eq_getElem h ..) ?_
 rfl
theorem C0{rows:Lz}{k:Nat}(h:k<rows.length):rows.getD k []∈rows:=by
 refine rz (List.getD_eq_getElem?_getD ..) <| rz (List.getElem?_eq_getElem h ..) <| getElem_mem h
noncomputable abbrev eR(r:List Nat):PyData:=.str (tx r)
noncomputable abbrev eN(n:Nat):PyData:=.int (n:Nat)
theorem eqR{rows:Lz}:rows.map eR=(rows.map tx).map .str:=(mapS rows).symm
theorem rowP_of(rows:Lz)(k:Nat):(pick (tx (rows.getD k [])).cps.toList none (some (-1)) none,[(rows.getD k []).getLastD 0])=rowP rows k:=by
 refine rz (C1 ..) <| rz (Db ..) <| rz (Eq.symm (dropLast_eq_take ..)) ?_;rfl
noncomputable def plV(rows:Lz)(tied:Lz)(x lb tb mb:Addr):Sg:=.put "met" (Rf mb) (.put "turned" (Rf tb) (.put "left" (Rf lb) (.put "pile" (Rf x) (.put "tied" (dNN tied) (.put "rows" (.list (rows.map eR)) .nil)))))
noncomputable def plO(x dx lb tb mb:Addr)(R:List LL)(l:List Int)(tu:List (Nat × Int))(met:List Nat)(σ:Sg):Sg:=.own (AccX x dx (accOf R)++[(mb,.seq (.type "list") none (met.map eN)),(tb,.seq (.type "list") none (tu.map eP)),(lb,.seq (.type "list") none (l.map .int))]) σ
theorem Gp(rows:Lz)(q:List Nat):(pilR rows q).length=q.length:=length_map _
theorem row_len{rows:Lz}(h2:∀ r∈rows,r≠[]∧r.length≤100∧okT r){k:Nat}(hk:k<rows.length):(tx (rows.getD k [])).length≤1000000:=by
 refine rz (A6 ..) <| le_trans (h2 _ (C0 hk)).2.1 (by decide)
theorem gm_go{tied:Lz}{m n:Nat}{z z':Gm}{put:List Nat→List Nat→List Nat}(hz:gRun put tied n z=some z')(hok:GmOk m n z)(hq:z.q≠[]):∃ k q n',z.q=k::q∧n=n'+1∧gRun put tied n' (gStep put tied z k q)=some z'∧k<m:=by
 obtain⟨k,q,e⟩:=exists_cons_of_ne_nil hq;obtain⟨n',h1,h2⟩:=C6 e hz;exact⟨k,q,n',e,h1,h2,hok.q k (rz (e ..) <| .head _)⟩
theorem pile_ok(H2:KOk2 prog K)(rows:Lz)(order:List Nat)(tied:Lz)(numbers:List Int)(N:Nat)(z':Gm)(h1:rows.length=numbers.length)(h2:∀ r∈rows,r≠[]∧r.length≤100∧okT r)(h3:rows.Nodup)(h4:order.length≤100)(h5:∀ k∈order,k<numbers.length)
  (h6:tied.length=numbers.length)(h7:numbers.length≤100)(h8:∀ js∈tied,(∀ j∈js,j<numbers.length)∧js.length≤5)(hN:N≤200)(hrun:gRun putS tied N ⟨order.reverse,numbers,[],[]⟩=some z') :
  Fn prog w K 6 292 [] [.list ((rows.map tx).map .str),dN order,dNN tied,dI numbers] (fun d B'=>d=.tuple [dI z'.l,.list (z'.tu.map eP),dN z'.met]∧B'=[]):=by
 refine rz (Eq.symm (eqR ..)) ?_;have hnz:numbers.length≤1000000:=le_trans h7 (by decide)
 have hrz:rows.length≤1000000:=h1▸hnz;have joined:∀ q,(([tx ((pilR rows q).headD ([],[])).1,tx ((pilR rows q).headD ([],[])).2]:List Str).map (·.length)).sum+([tx ((pilR rows q).headD ([],[])).1,tx ((pilR rows q).headD ([],[])).2]:List Str).length*(Str.ofString "").length≤16777216:=fun q=>by
  have:=rowT_len h2 q;refine rz (Eh ..) <| rz (mul_zero ..) <| rz (add_zero ..) ?_
  simp only[map_cons,map_nil,sum_cons,List.sum_nil,A6];exact(ar [_,_] (.a Aa (.a Ab Al)) Aq (.c 1 (.a Aa Ab) (.n 101) .z) 0 rfl this)
 refine lawFnV2 H2 11 .nil rfl rfl rfl (by decide +kernel) (by intro vs hv;obtain⟨v0,v1,v2,v3,rfl⟩:=len4 hv;kernel_rfl!) (fun g H2=>?_) (fun d B' h p hp=>nomatch hp)
 refine .new rfl (mkacc H2) fun x dx=>⟨by refine rz (length_map ..) <| A4 hnz,.own fun lb=>.own fun tb=>.own fun mb=>?_⟩
 refine LFor.m (f:=eN) (fun i=>plO x dx lb tb mb (pilR rows (order.take i).reverse) numbers [] [] (plV rows tied x lb tb mb)) (.ix [3,3,0,0,0] rfl rfl) (fun i k hk=>?_) (.ok ?_)
 ·have hkl:=h1.symm▸h5 k (List.mem_of_getElem? hk);have e1:pilR rows (order.take (i+1)).reverse=rowP rows k::pilR rows (order.take i).reverse:=by refine rz (Bl hk ..) <| rz (reverse_append ..) ?_;rfl
  have hR:(pilR rows (order.take i).reverse).length≤100000:=by refine rz (Gp ..) <| rz (length_reverse ..) <| rz (length_take ..) <| (ar [_,_] Ab A1 (.c 1 Aa Ar (.c 1 Ab Aa .z)) 0 rfl h4 (min_le_right ..))
  refine .fn x 45 _ _ rfl rfl (.acc dx _ _ 0 1 rfl rfl rfl rfl) (LGet.m (f:=eR) (x:=rows.getD k []) (Bc hkl) hrz ⟨row_len h2 hkl,LGet.m (f:=eR) (x:=rows.getD k []) (Bc hkl) hrz (.mk ((rows.getD k []).getLastD 0) rfl (last_at (h2 _ (C0 hkl)).1) (.det [0,0] rfl (pushA H2 x dx _ _ [(rows.getD k []).getLastD 0] hR) rfl (.mk rfl ?_)))⟩);refine rz (rowP_of ..) <| rz (Eq.symm (e1 ..)) ?_;rfl
 refine rz (take_length ..) <| .fn0 x 61 rfl rfl (.acc dx _ _ 0 1 rfl rfl rfl rfl) (.det [0,0] rfl (popA H2 x dx (pilR rows order.reverse) (rz (Gp ..) <| rz (length_reverse ..) <| le_trans h4 (by decide))) rfl ⟨[tx ((pilR rows order.reverse).headD ([],[])).1,tx ((pilR rows order.reverse).headD ([],[])).2],rfl,joined order.reverse,?_⟩)
 refine rz (rowT_join ..) <| .mk { a:Gm × Nat // gRun putS tied a.2 a.1=some z'∧GmOk numbers.length a.2 a.1 } (fun a=>plO x dx lb tb mb (pilR rows a.1.1.q.tail) a.1.1.l a.1.1.tu a.1.1.met (.put "row" (.str (tx (rowT rows a.1.1.q))) (plV rows tied x lb tb mb))) (fun a=>a.1.2) ⟨(⟨order.reverse,numbers,[],[]⟩,N),hrun,rfl,fun k hk=>h5 k (List.mem_reverse.mp hk),by simp;exact(ar [_,_] (.a Aa (.m 5 Ab)) (.n 2000) (.c 1 Aa Ar (.c 5 Ab (.n 200) .z)) 0 rfl h4 hN),by simp;exact(ar [_] Aa A3 (.c 1 Aa (.n 200) .z) 0 rfl hN),by simp;exact(ar [_] Aa A3 (.c 1 Aa (.n 200) .z) 0 rfl hN)⟩ (.mk rfl (by refine rz (pilR_tail ..) ?_;rfl)) ?_
 rintro⟨⟨z,n⟩,hz,hok⟩;have hz:gRun putS tied n z=some z':=hz;have hok:GmOk numbers.length n z:=hok;refine .mk (fun e=>?_) (fun e=>?_)
 ·have hq:z.q≠[]:=fun h=>by rw[show(!(tx (rowT rows z.q) == Str.ofString ""))=!decide (rowT rows z.q=[]) from El _,h] at e;cases e
  obtain⟨k,q,n',e0,rfl,hr,hk⟩:=gm_go hz hok hq;have hst:=hok.step putS_ok h8 e0;have hkl:k<rows.length:=h1.symm▸hk;have hrow:rowT rows z.q=rows.getD k []:=by refine rz (e0 ..) <| rz (rowT_cons (h2 _ (C0 hkl)).1 ..) rfl
  obtain⟨hl,_,_,htn,hmn⟩:=hok;refine LObj.m 2 rfl (.mk (rows.map tx) _ k eqR rfl (rz (hrow ..) <| getD_rows hkl) (rz (hrow ..) <| Fu h3 hkl) (rz (length_map ..) <| A4 hrz) (LApp.m (f:=eN) (l:=z.met) 2 rfl (ar [_,_] Aa Ap (.c 1 (.a Aa (.a Ab Ad)) A3 .z) 0 rfl hmn) ?_))
  refine LObj.m 2 rfl (LGet.last (f:=eN) (l:=z.met++[k]) (x:=k) (by simp) (rz (length_append ..) <| rz (length_singleton ..) <| (ar [_,_] (.a Aa Ad) Ap (.c 1 (.a Aa (.a Ab Ad)) A3 .z) 0 rfl hmn)) ?_)
  refine .det (m:=3) [4,3] rfl (turned_ok g.H k tied z.l z.tu lb tb (rz (h6 ..) <| rz (hl ..) rfl) (ar [_,_] Ab Am (.c 1 Aa Ar (.c 1 Ab Aa .z)) 0 rfl h7 (le_of_eq hl)) (hl.symm▸hk) (fun js hj=>by refine rz (hl ..) <| ⟨(h8 js hj).1,le_trans (h8 js hj).2 (by decide)⟩) (ar [_,_] Aa Am (.c 1 (.a Aa (.a Ab Ad)) A3 .z) 0 rfl htn)) rfl ?_
  refine LFor.m (f:=eN) (fun i=>plO x dx lb tb mb (pilR rows (((tret tied z.l k).take i).reverse++q)) (tlst tied z.l k) (ttur z.l z.tu k) (z.met++[k]) (plV rows tied x lb tb mb)) (.ix [2,2,2,1,0] rfl (by refine rz (e0 ..) ?_;rfl)) (fun i j hj=>?_) (.ok ?_)
  ·have hjl:j<rows.length:=h1.symm▸(tret_ok h8 k).1 j (List.mem_of_getElem? hj);have e1:pilR rows (((tret tied z.l k).take (i+1)).reverse++q)=rowP rows j::pilR rows (((tret tied z.l k).take i).reverse++q):=by refine rz (Bl hj ..) <| rz (reverse_append ..) ?_;rfl
   have hR:(pilR rows (((tret tied z.l k).take i).reverse++q)).length≤100000:=by
    have:=(tret_ok (l:=z.l) h8 k).2;have:=hst.qn;refine rz (Gp ..) <| rz (length_append ..) <| rz (length_reverse ..) <| rz (length_take ..) ?_
    have e2:(gStep putS tied z k q).q.length=(tret tied z.l k).length+q.length:=(putS_ok _ _).2;rw[e2] at this;exact(ar [_,_,_,_] (.a An Ab) A1 (.c 1 (.a (.a Aa Ab) (.m 5 Ag)) (.n 2000) (.c 1 An Aa .z)) 0 rfl this (min_le_right ..))
   refine .fn x 45 _ _ rfl rfl (.acc dx _ _ 0 1 rfl rfl rfl rfl) (LGet.m (f:=eR) (x:=rows.getD j []) (Bc hjl) hrz ⟨row_len h2 hjl,LGet.m (f:=eR) (x:=rows.getD j []) (Bc hjl) hrz (.mk ((rows.getD j []).getLastD 0) rfl (last_at (h2 _ (C0 hjl)).1) (.det [0,0] rfl (pushA H2 x dx _ _ [(rows.getD j []).getLastD 0] hR) rfl (.mk rfl ?_)))⟩);refine rz (rowP_of ..) <| rz (Eq.symm (e1 ..)) ?_;rfl
  ·refine rz (take_length ..) ?_;refine .fn0 x 61 rfl rfl (.acc dx _ _ 0 1 rfl rfl rfl rfl) (.det [0,0] rfl (popA H2 x dx (pilR rows ((tret tied z.l k).reverse++q)) ?_) rfl ⟨[tx ((pilR rows ((tret tied z.l k).reverse++q)).headD ([],[])).1,tx ((pilR rows ((tret tied z.l k).reverse++q)).headD ([],[])).2],rfl,joined _,?_⟩)
   ·have:=hst.qn;have e2:(gStep putS tied z k q).q=(tret tied z.l k).reverse++q:=rfl;rw[e2] at this;refine rz (Gp ..) <| (ar [_,_] Aa A1 (.c 1 (.a Aa (.m 5 Ab)) (.n 2000) .z) 0 rfl this)
   refine rz (rowT_join ..) <| ⟨⟨(gStep putS tied z k q,n'),hr,hst⟩,lt_succ_self _,.mk rfl (by refine rz (pilR_tail ..) ?_;rfl)⟩
 ·have hq:z.q=[]:=by
   cases hq:z.q with
   |nil=>rfl
   |cons k q =>
    have hk:=hok.q k (rz (hq ..) <| .head _)
    have hkl:k<rows.length:=h1.symm▸hk;rw[show(!(tx (rowT rows z.q) == Str.ofString ""))=!decide (rowT rows z.q=[]) from El _,hq,rowT_cons (h2 _ (C0 hkl)).1,decide_eq_false (h2 _ (C0 hkl)).1] at e
    cases e
  obtain rfl:z=z':=Option.some.inj ((Dd hq).symm.trans hz);exact .frz "left" lb _ 4 rfl rfl (.frz "turned" tb _ 3 rfl rfl (.frz "met" mb _ 2 rfl rfl (.ok (.mk (.det [] ⟨rfl,rfl⟩ rfl)))))
variable{prog:Program}{w:World}{K:Frag}
theorem C2(H:KOk K)(p:LxP)(n:Int)(ps:Lp)(cs:List Nat)(h1:cs.length≤100000)(hok:okT cs) :
  Fn prog w K 4 126 (LxX p n ps cs) [Rf p.x] (fun d B'=>d=.str ⟨(cs.take 1).toArray⟩∧B'=LxX p (lnOf n cs) ps (cs.drop 1)):=by
 refine Er H 23 (.own (LxX p n ps cs) .nil) rfl rfl rfl (by decide +kernel) (by intro vs hv;obtain⟨v0,rfl⟩:=len1 hv;kernel_rfl!) (fun g=>?_) (fun d B' h=>by obtain⟨_,rfl⟩:=h;exact fun q hq=>(List.mem_map.mpr ⟨q,hq,rfl⟩:q.1∈(LxX p n ps cs).map (·.1)))
 refine .net p.x p.dx _ 0 1 _ rfl rfl rfl rfl rfl (.fattr p.st p.D p.rd _ _ _ 3 4 5 _ _ rfl rfl rfl rfl rfl rfl rfl ⟨rfl,.det (m:=2) [5,5,5,5] rfl (reader_ok g.H p.rd p.c1 p.cell p.lf p.ctv p.doc p.pm cs h1 hok) rfl ?_⟩);refine LIfS.eq (nl10 (l:=cs)) (.cut (.own (LxX p (lnOf n cs) ps (cs.drop 1)) (.put "self" (Rf p.x) (.put "ch" (.str ⟨(cs.take 1).toArray⟩) .nil))) (fun e=>?_) (fun e=>?_) (.mk (.det [0,0,0,0,0,0,0,0,0] ⟨rfl,rfl⟩ rfl)))
 ·exact .net p.x p.dx _ 4 5 _ rfl rfl rfl rfl rfl (.net p.x p.dx _ _ 4 5 rfl rfl rfl rfl rfl (.ix [4,4,4,4,4,0,0,0,0] rfl (by rw[lnOf,if_pos (of_decide_eq_true e)];rfl)))
 ·exact .ix [4,4,4,4,4,0,0,0,0] rfl (by rw[lnOf,if_neg (of_decide_eq_false e)];rfl)
variable{prog:Program}{w:World}{K:Frag}
noncomputable def stepN(n:Int)(c:Nat):Int:=if c=10 then n+1 else n
noncomputable def isW(c:Nat):Bool:=decide (c∈[10,9,13,32])
noncomputable def lexQ:List Nat→Int→List Nat→List Nat × List Nat × Int
 |acc,n,[]=>(acc,[],n)
 |acc,n,[c]=>if c=34 then (acc,[],stepN n c) else if c=92 then (acc,[],stepN n c) else (acc++[c],[],stepN n c)
 |acc,n,c::d::r=>if c=34 then (acc,d::r,stepN n c) else if c=92 then lexQ (acc++[d]) (stepN (stepN n c) d) r else lexQ (acc++[c]) (stepN n c) (d::r)
noncomputable def lexB:List Nat→Int→List Nat→List Nat × List Nat × Int
 |acc,n,[]=>(acc,[],n)
 |acc,n,[c]=>if isW c then (acc,[],stepN n c) else if c=92 then (acc,[],stepN n c) else (acc++[c],[],stepN n c)
 |acc,n,c::d::r=>if isW c then (acc,d::r,stepN n c) else if c=92 then lexB (acc++[d]) (stepN (stepN n c) d) r else lexB (acc++[c]) (stepN n c) (d::r)
noncomputable def Bb:Int→List Nat→List Nat × List Nat × Int
 |n,[]=>([],[],n)
 |n,c::r=>if isW c then Bb (stepN n c) r else if c=34 then lexQ [] (stepN n c) r else if c=92 then lexB (r.take 1) (lnOf (stepN n c) r) (r.drop 1) else lexB [c] (stepN n c) r
theorem ch34{n:Nat}:((⟨#[n]⟩:Str) == ("\"" : Str))=decide (n=34):=by
 have e:("\"" : Str)=⟨#[34]⟩:=by decide +kernel
 refine rz (e ..) ?_
 by_cases h:n=34
 ·subst h;simp
 ·refine rz (decide_eq_false h ..) <| beq_eq_false_iff_ne.mpr fun q=>h (by simpa using q)
theorem ch92{n:Nat}:((⟨#[n]⟩:Str) == ("\\" : Str))=decide (n=92):=by
 have e:("\\" : Str)=⟨#[92]⟩:=by decide +kernel
 refine rz (e ..) ?_
 by_cases h:n=92
 ·subst h;simp
 ·refine rz (decide_eq_false h ..) <| beq_eq_false_iff_ne.mpr fun q=>h (by simpa using q)
theorem inW{n:Nat}:Txt.contains ("\n\t\r " : Str) ⟨#[n]⟩=isW n:=by
 have e:("\n\t\r " : Str)=tx [10,9,13,32]:=by decide +kernel
 refine rz (e ..) <| contains_tx [10,9,13,32] n
theorem lnOf_cons(n:Int)(c:Nat)(r:List Nat):lnOf n (c::r)=stepN n c:=by unfold lnOf stepN;simp
theorem okT.tail{c:Nat}{r:List Nat}(h:okT (c::r)):okT r:=fun n hn=>h n (.tail _ hn)
theorem lexQ_34(tok:List Nat)(n:Int)(r:List Nat):lexQ tok n (34::r)=(tok,r,stepN n 34):=by cases r<;>simp[lexQ]
theorem lexQ_92(tok:List Nat)(n:Int)(r:List Nat):lexQ tok n (92::r)=lexQ (tok++r.take 1) (lnOf (stepN n 92) r) (r.drop 1):=by
 cases r with
 |nil=>simp[lexQ,lnOf]
 |cons d r=>simp[lexQ,lnOf_cons]
theorem lexQ_else(tok:List Nat)(n:Int)(ch:Nat)(r:List Nat)(h1:ch≠34)(h2:ch≠92):lexQ tok n (ch::r)=lexQ (tok++[ch]) (stepN n ch) r:=by cases r<;>simp[lexQ,h1,h2]
theorem lexB_w(tok:List Nat)(n:Int)(ch:Nat)(r:List Nat)(h:isW ch=true):lexB tok n (ch::r)=(tok,r,stepN n ch):=by cases r<;>simp[lexB,h]
theorem isW92:isW 92=false:=by decide
theorem lexB_92(tok:List Nat)(n:Int)(r:List Nat):lexB tok n (92::r)=lexB (tok++r.take 1) (lnOf (stepN n 92) r) (r.drop 1):=by
 cases r with
 |nil=>simp[lexB,lnOf,isW92]
 |cons d r=>simp[lexB,lnOf_cons,isW92]
theorem lexB_else(tok:List Nat)(n:Int)(ch:Nat)(r:List Nat)(h1:¬ isW ch=true)(h2:ch≠92):lexB tok n (ch::r)=lexB (tok++[ch]) (stepN n ch) r:=by cases r<;>simp[lexB,h1,h2]
noncomputable abbrev cik(q:Addr)(b:Bool):Knd:=match b with | true=>CiK q | false=>CiE
noncomputable abbrev gX(p:LxP)(it q:Addr)(n:Int)(cs:List Nat)(b:Bool):Xs:=LxX p n [] cs++[(it,cik q b),(q,MethK 126 p.x)]
noncomputable def gS(p:LxP)(it q:Addr)(n:Int)(cs:List Nat)(b:Bool)(tok:List Nat):Sg:=.own (gX p it q n cs b) (.put "fiter" (Rf it) (.put "token" (.str (tx tok)) (.put "self" (Rf p.x) .nil)))
noncomputable abbrev LexI:=Bool→Int→List Nat→List Nat→Prop
def ciN(I:LexI)(p:LxP)(it q:Addr)(m:Nat)(σ:Sg):Prop:=∃ b n cs tok,cs.length+b.toNat<m∧I b n cs tok∧LSub σ (gS p it q n cs b tok)
def ciJ(I:LexI)(p:LxP)(it q:Addr)(m:Nat)(J:Fl→Sg→Prop)(f:Fl)(σ:Sg):Prop:=match f with
 |.next=>ciN I p it q m σ | .cont=>ciN I p it q m σ | .brk=>False | .ret d=>J (.ret d) σ
section
variable{g:Pg}{N:Sn}{fr:Fr}{p:LxP}{it q:Addr}
theorem ci_perm(sc:Sc g N fr)(n:Int)(cs:List Nat)(b:Bool)(tok:List Nat)(Z:Xs):∃ Y,∀ n cs b,(full sc (gS p it q n cs b tok)++Z).Perm (LxX p n [] cs++(it,cik q b)::(q,MethK 126 p.x)::Y):=by
 refine⟨((sc.L,.map (Be N.own (gS p it q 0 [] true tok).vars))::(Bm sc.L N.own (gS p it q 0 [] true tok).vars++([]++sc.out)))++Z,fun n cs b=>?_⟩
 have h:=(Do (sc:=sc) (σ:=gS p it q n cs b tok) (B:=gX p it q n cs b) (Y:=[]) (.of_eq (append_nil _).symm)).append_right Z;rw[append_assoc,append_assoc] at h;exact h
inductive CiS(sc:Sc g N fr)(I:LexI)(p:LxP)(it q:Addr)(Z:Xs)(T:Ts)(k:Nat)(s:Shared):Prop
 |mk(b:Bool)(n:Int)(cs tok:List Nat)(e:k=cs.length+b.toNat)(hi:I b n cs tok)(iv:Inv N (gS p it q n cs b tok))(S:St sc.c (full sc (gS p it q n cs b tok)++Z) T s)
theorem forCi{body rest:List Stmt}{σ:Sg}{J:Fl→Sg→Prop}{tp fp q0:Pos}(lv:6≤N.lvl)(hch:ownB "ch" N.own=true)(m:Nat)(I:LexI)(hI:∀ {b n cs tok},I b n cs tok→cs.length≤100000∧okT cs∧(b=false→cs=[]))
  {n0:Int}{cs0 tok0:List Nat}(i0:I true n0 cs0 tok0)(hs:LSub σ (gS p it q n0 cs0 true tok0))
  (turn:∀ n c r tok,I true n (c::r) tok→(R g m N fr).S body (.put "ch" (.str ⟨#[c]⟩) (gS p it q (stepN n c) r true tok)) (ciJ I p it q (r.length+2) J))
  (done:∀ b n tok,I b n [] tok→(R g m N fr).S rest (gS p it q n [] false tok) J):rawS g N fr (.For (.Name "ch" tp) (.Name "fiter" fp) body [] q0::rest) σ J:=fun sc iv Z T s E Q S q1 q2 q3 q4=>by
 obtain⟨l0,v0⟩:=LSub.ok (sc:=sc) iv hs;have oA:=sc.oA.le lv;have fin:∀ {b n tok s},I b n [] tok→Inv N (gS p it q n [] false tok)→St sc.c (full sc (gS p it q n [] false tok)++Z) T s→Kont g.prog g.w sc.A E sc.env rest Q .next s:=fun hi iv S=>k_next ((R_ok g m sc).S (done _ _ _ hi) iv Z T _ E Q S q1 q2 q3 q4)
 refine x_for ((R_ok g 1000 sc).E (e:=.Name "fiter" fp) (σ:=gS p it q n0 cs0 true tok0) (K:=fun d σ=>d=Rf it∧σ=gS p it q n0 cs0 true tok0) ⟨rfl,rfl⟩ v0 Z T s E _ (l0 Z T s S) ?_) (fun V=>rfl)
 rintro d X v s1 ⟨_,rfl,_,rfl,rfl⟩ S1;have r:=S1.rp (.head _);obtain rfl:v=.ref it:=By r;refine r_ci_self (k:=.cell none) S1 (ci_own (q:=q) S1 (mem_append_left _ (Bq (j:=9) rfl))) ?_;refine for_gen (CiS sc I p it q Z T) (cs0.length+1) ⟨true,n0,cs0,tok0,rfl,i0,v0,S1.drop fun y hy=>.tail _ hy⟩ ?_
 rintro k s2 E' ⟨b,n,cs,tok,rfl,hi,iv,S2⟩;obtain⟨h1,h2,h3⟩:=hI hi;obtain⟨Y,hp⟩:=ci_perm sc (p:=p) (it:=it) (q:=q) n cs b tok Z;cases b with
 |false =>
  obtain rfl:=h3 rfl;exact ci_ended sc.oA.h S2 (mem_append_left _ (Bq (j:=9) rfl)) fun s' S3=>fin hi iv S3
 |true =>
  cases cs with
  |nil =>
   have F:=C2 (prog:=g.prog) (w:=g.w) g.H p n [] [] h1 h2;rw[show(⟨(List.take 1 ([]:List Nat)).toArray⟩:Str) = "" from D0.symm,show lnOf n []=n from rfl,show List.drop 1 ([]:List Nat)=[] from rfl] at F
   refine ci_end (n:=4) (sc.hK▸g.H) oA sc.hK F (S2.perm (hp ..)) .here (.tail _ (.head _)) fun s' S3=>?_
   exact fin hi iv (S3.perm (hp n [] false).symm)
  |cons c r =>
   have F:=C2 (prog:=g.prog) (w:=g.w) g.H p n [] (c::r) h1 h2;rw[lnOf_cons] at F;refine ci_item (n:=4) (y:=⟨#[c]⟩) (sc.hK▸g.H) oA sc.hK F (S2.perm (hp ..)) (.head _) (.tail _ (.head _)) (by refine rz (D0 ..) ?_;intro e;simpa using tx_inj (a:=[c]) (b:=[]) e) fun t s3 S3=>?_
   have S3:=S3.perm (hp (stepN n c) r true).symm;obtain⟨oi,hoi,hoc⟩:=ci_own (q:=q) S3 (mem_append_left _ (Bq (j:=9) rfl));refine Fj hoi hoc (by decide +kernel) ?_
   refine(R_ok g 1000 sc).A (tg:=.Name "ch" tp) (σ:=gS p it q (stepN n c) r true tok) (K:=fun σ=>σ=.put "ch" (.str ⟨#[c]⟩) (gS p it q (stepN n c) r true tok)) (show Br N "ch" _ _ _ by unfold Br;exact rz (hch ..) rfl) iv _ Z T s3 E' _ (S3.push (.str _ t)) ?_
   rintro X s4 ⟨_,rfl,i4,rfl⟩ S4;have nx:∀ {X s'},liftU sc (ciN I p it q (r.length+2)) X→St sc.c (X++Z) T s'→∃ k,k<r.length+2∧CiS sc I p it q Z T k s':=by
    rintro X s' ⟨_,rfl,i5,b,n,cs,tok,hm,hi,h⟩ S5;obtain⟨l6,i6⟩:=LSub.ok i5 h;exact⟨_,hm,b,n,cs,tok,rfl,hi,i6,l6 _ _ _ S5⟩
   refine(R_ok g m sc).S (turn n c r tok hi) i4 Z T s4 E' _ S4 ?_ ?_ ?_ ?_
   ·exact fun X s' h S5=>nx h S5
   ·rintro X s' ⟨_,_,_,h⟩;exact h.elim
   ·exact fun X s' h S5=>nx h S5
   ·exact fun d X v s' h S5=>k_ret (q4 _ _ _ _ h S5)
theorem iter_raw{σ:Sg}{K:KV}{x dx:Addr}{ρ:Od}{i j:Nat}{k:Nat}{p0 p1 p2 p3 pos:Pos}(hs:look "self" σ=some (Rf x))(hi:σ.objs[i]?=some (x,Ins 143 dx))(hd:σ.objs[j]?=some (dx,.obj ρ))(hk:ρ.map (·.1)=Ck)(hg:gloB "iter" N.own=true)
  (h:∀ q it,K (Rf it) (.obj it (CiK q) (.obj q (MethK 126 x) σ))):rawE g N fr (.Call (.Name "iter" p0) [.Attribute (.Name "self" p1) "_read_char" p2,.Constant (.str "") k p3] [] pos) σ K:=fun sc iv=>by
 have H:KOk sc.c.K:=sc.hK▸g.H;obtain⟨hn,hdb⟩:=Fz (sc:=sc) hg;refine w_callblt sc.hE hn (H.blt ("iter",.builtin "iter") (by decide +kernel)) (wl_cons (fun Z T s E Q S q=>Attribute_name ((R_ok g 1000 sc).E (e:=.Name "self" p1) (σ:=σ) (K:=fun d σ'=>d=Rf x∧σ=σ') ?_ iv Z T s E _ S ?_)) rfl) rfl rfl hdb
 ·show vName fr "self" σ (fun d σ'=>d=Rf x∧σ=σ')
  unfold vName;refine rz (hs ..) <| ⟨rfl,rfl⟩
 rintro a X v s1 ⟨_,rfl,_,rfl,rfl⟩ S1;obtain rfl:=By (S1.rp (.head _));refine g_bound H S1 (mem_append_left _ (Bq hi)) (mem_append_left _ (Bq hd)) hk fun q1 s2 S2=>q (Rf q1) (full sc (.obj q1 (MethK 126 x) σ)) _ s2 (wl_cons (w_str (wl_nil ?_)) rfl) (((S2.perm (obj_perm.append_right Z)).drop fun y hy=>.tail _ hy).push (.raw _))
 intro vs Z T s E Q hl S q;obtain⟨v1,v2,rfl⟩:=len2 hl;obtain rfl:=By (S.rp (.head _));obtain⟨t,rfl⟩:=B5 (S.rp (.tail _ (.head _)));exact r_iter2 S (mem_append_left _ (Bq (σ:=.obj q1 (MethK 126 x) σ) (j:=0) rfl)) fun it s3 S3=>q _ _ _ _ (goal (σ:=.obj it (CiK q1) (.obj q1 (MethK 126 x) σ)) iv (h q1 it)) (((S3.perm (obj_perm.append_right Z)).drop fun y hy=>mem_append_right _ hy).push (.raw _))
theorem gS.sub{σ:Sg}{b:Bool}{n:Int}{cs tok:List Nat}(ht:look "token" σ=some (.str (tx tok)))(ho:σ.objs=gX p it q n cs b)(hs:look "self" σ=some (Rf p.x):=by rfl)(hf:look "fiter" σ=some (Rf it):=by rfl):LSub σ (gS p it q n cs b tok) :=
 .mk (by show [look "fiter" σ,look "token" σ,look "self" σ]=_;refine rz (hs ..) <| rz (hf ..) <| rz (ht ..) ?_;rfl) ho
theorem ciN.ok{I:LexI}{m:Nat}{σ:Sg}(b:Bool)(n:Int)(cs tok:List Nat)(hm:cs.length+b.toNat<m)(hi:I b n cs tok)(ht:look "token" σ=some (.str (tx tok)))(ho:σ.objs=gX p it q n cs b)(hs:look "self" σ=some (Rf p.x):=by rfl)(hf:look "fiter" σ=some (Rf it):=by rfl):ciN I p it q m σ :=
 ⟨b,n,cs,tok,hm,hi,gS.sub ht ho hs hf⟩
noncomputable abbrev TokR:=List Nat × List Nat × Int
def tokP(p:LxP)(R:TokR)(d:PyData)(B':Xs):Prop:=d=.str (tx R.1)∧B'=LxX p R.2.2 [] R.2.1
theorem ci_ret{R:TokR}{σ:Sg}{n:Int}{cs tok:List Nat}{b:Bool}(e:(tok,cs,n)=R)(ho:σ.objs=gX p it q n cs b):LPost (tokP p R) (.str (tx tok)) σ:=by subst e;exact .det [0,0,0,0,0,0,0,0,0] ⟨rfl,rfl⟩ (by refine rz (ho ..) ?_;rfl)
noncomputable def IW(L:List Nat→Int→List Nat→TokR)(R:TokR):LexI:=fun b n cs tok=>b=true∧cs.length≤100000∧okT cs∧tok.length+cs.length≤200000∧L tok n cs=R
noncomputable def IO(R:TokR):LexI:=fun b n cs tok=>cs.length≤100000∧okT cs∧match b with | true=>tok=[]∧Bb n cs=R | false=>cs=[]∧(tok,[],n)=R
end
theorem okT_nil:okT []:=fun n hn=>nomatch hn
theorem okT.drop{r:List Nat}(h:okT r):okT (r.drop 1):=fun n hn=>h n (List.mem_of_mem_drop hn)
theorem drop_lt(r:List Nat):(r.drop 1).length+1<r.length+2:=Nat.succ_lt_succ (Nat.lt_succ_of_le (rz (length_drop ..) <| sub_le _ _))
theorem tk_le{tok r:List Nat}{c:Nat}(h:tok.length+(c::r).length≤200000):(tx tok).length+(tx (r.take 1)).length≤sizeLine∧(tx tok).length+(tx [c]).length≤sizeLine∧(tok++r.take 1).length+(r.drop 1).length≤200000∧(tok++[c]).length+r.length≤200000:=by
 simp only[length_cons,A6,length_append,length_take,length_drop,length_nil,sizeLine_eq] at h⊢
 exact⟨(ar [_,_,_] (.a Aa Ag) Aq (.c 1 (.a Aa (.a Ab Ad)) (.n 200000) (.c 1 Ag Ab .z)) 0 rfl h (min_le_right ..)),⟨(ar [_,_] (.a Aa (.a Al Ad)) Aq (.c 1 (.a Aa (.a Ab Ad)) (.n 200000) .z) 0 rfl h),⟨(ar [_,_,_,_] (.a (.a Aa Ag) An) (.n 200000) (.c 1 (.a Aa (.a Ab Ad)) (.n 200000) (.c 1 Ag Ad (.c 1 An Ab .z))) 0 rfl h (min_le_left ..) (sub_le ..)),(ar [_,_] (.a (.a Aa (.a Al Ad)) Ab) (.n 200000) (.c 1 (.a Aa (.a Ab Ad)) (.n 200000) .z) 0 rfl h)⟩⟩⟩
theorem E3(H:KOk K)(p:LxP)(n:Int)(cs:List Nat)(h1:cs.length≤100000)(hok:okT cs) :
  Fn prog w K 8 133 (LxX p n [] cs) [Rf p.x] (fun d B'=>d=.str (tx (Bb n cs).1)∧B'=LxX p (Bb n cs).2.2 [] (Bb n cs).2.1):=by
 refine Er (post:=tokP p (Bb n cs)) H 24 (.own (LxX p n [] cs) .nil) rfl rfl rfl (by decide +kernel) (by intro vs hv;obtain⟨v0,rfl⟩:=len1 hv;kernel_rfl!) (fun g=>?_) (fun d B' h=>by obtain⟨_,rfl⟩:=h;exact fun q hq=>(List.mem_map.mpr ⟨q,hq,rfl⟩:q.1∈(LxX p n [] cs).map (·.1)))
 refine .net p.x p.dx _ 0 1 _ rfl rfl rfl rfl rfl (LObj.m 2 rfl ⟨by decide,.mk (fun e=>nomatch e) fun V=>?_⟩)
 refine iter_raw (x:=p.x) (dx:=p.dx) (i:=0) (j:=1) rfl rfl rfl rfl rfl fun q it=>?_
 refine forCi (p:=p) (it:=it) (q:=q) (n0:=n) (cs0:=cs) (tok0:=[]) (by decide) rfl 900 (IO (Bb n cs)) ?_ ⟨h1,hok,rfl,rfl⟩ ?_ ?_ ?_
 ·intro b n cs tok h;exact⟨h.1,h.2.1,fun e=>by subst e;exact h.2.2.1⟩
 ·exact .ix [2,2,2,2,2,2,2,2,2,0,0] (by show [some (Rf it),some (.str (Str.ofString "")),some (Rf p.x)]=_;refine rz (D0 ..) ?_;rfl) rfl
 ·generalize Bb n cs=R
  clear h1 hok
  clear n cs
  rintro n c r tok ⟨h0,ho0,rfl,rfl⟩;have h1:r.length≤100000:=le_of_succ_le h0;have hok:=ho0.tail
  clear h0 ho0
  refine .net p.x p.dx _ 0 1 _ rfl rfl rfl rfl rfl (LIfS.eq inW (.mk (fun e=>?_) (fun e=>LIfS.eq ch34 (.d (fun e34=>?_) (fun e34=>?_)))))
  ·exact .ok true (stepN n c) r [] (lt_succ_self _) ⟨h1,hok,rfl,by rw[Bb,if_pos e]⟩ (by refine rz (Eq.symm (D0 ..)) ?_;rfl) rfl
  ·subst e34;refine forCi (p:=p) (it:=it) (q:=q) (n0:=stepN n 34) (cs0:=r) (tok0:=[]) (by decide) rfl 900 (IW lexQ (Bb n (34::r))) (fun h=>⟨h.2.1,h.2.2.1,fun e=>nomatch h.1.symm.trans e⟩) ⟨rfl,h1,hok,by refine rz (length_nil ..) <| rz (zero_add ..) <| le_trans h1 (by decide),by rw[Bb,if_neg (Bool.eq_false_iff.mp e),if_pos rfl]⟩ (.mk rfl rfl) ?_ fun b n tok h=>.ok false n [] tok (zero_lt_succ _) ⟨zero_le _,okT_nil,rfl,h.2.2.2.2⟩ rfl rfl
   rintro n c r tok ⟨_,h1,hok,h2,e⟩
   replace h1:=le_of_succ_le h1
   replace hok:=hok.tail
   obtain⟨z1,z2,z3,z4⟩:=tk_le h2;refine LIfS.eq ch34 (.d (fun q=>.mk (ci_ret (rz (Eq.symm (e ..)) <| rz (q ..) <| rz (lexQ_34 ..) rfl) rfl)) (fun q=>LIfS.eq ch92 (.d (fun q2=>.fn0 p.x 126 rfl rfl (.net p.dx _ 0 1 rfl rfl rfl rfl) (.det (m:=4) [0,0,0,0,0,0,0,0,0] rfl (C2 g.H p (stepN n c) [] r h1 hok) rfl ⟨z1,.ok true (lnOf (stepN n c) r) (r.drop 1) (tok++r.take 1) (drop_lt r) ⟨rfl,le_trans (rz (length_drop ..) <| sub_le _ _) h1,hok.drop,z3,by refine rz (Eq.symm (e ..)) <| rz (q2 ..) <| rz (lexQ_92 ..) rfl⟩ (by refine rz (Eq.symm (Bh ..)) ?_;rfl) rfl⟩)) (fun q2=>⟨z2,.ok true (stepN n c) r (tok++[c]) (lt_succ_self _) ⟨rfl,h1,hok,z4,by refine rz (Eq.symm (e ..)) <| rz (lexQ_else _ _ _ _ q q2 ..) rfl⟩ (by refine rz (Eq.symm (Bh ..)) ?_;rfl) rfl⟩))))
  ·have el:Bb n (c::r)=if c=92 then lexB (r.take 1) (lnOf (stepN n c) r) (r.drop 1) else lexB [c] (stepN n c) r:=by rw[Bb,if_neg (Bool.eq_false_iff.mp e),if_neg e34]
   refine rz (el ..) ?_;obtain⟨z1,z2,z3,z4⟩:=tk_le (tok:=[]) (c:=c) (r:=r) (rz (length_nil ..) <| rz (zero_add ..) <| le_trans (succ_le_succ h1) (by decide))
   refine And.elim (fun turn hI=>LIfS.eq ch92 (.d (fun q2=>.fn0 p.x 126 rfl rfl (.net p.dx _ 0 1 rfl rfl rfl rfl) (.det (m:=4) [0,0,0,0,0,0,0,0,0] rfl (C2 g.H p (stepN n c) [] r h1 hok) rfl ⟨z1,forCi (p:=p) (it:=it) (q:=q) (n0:=lnOf (stepN n c) r) (cs0:=r.drop 1) (tok0:=r.take 1) (by decide) rfl 900 (IW lexB (if c=92 then lexB (r.take 1) (lnOf (stepN n c) r) (r.drop 1) else lexB [c] (stepN n c) r)) hI ⟨rfl,le_trans (rz (length_drop ..) <| sub_le _ _) h1,hok.drop,z3,(if_pos q2).symm⟩ (gS.sub (by refine rz (Eq.symm (nil_append (r.take 1) ..)) <| rz (Eq.symm (Bh ..)) ?_;rfl) rfl) turn (fun b n tok h=>.ok false n [] tok (zero_lt_succ _) ⟨zero_le _,okT_nil,rfl,h.2.2.2.2⟩ rfl rfl)⟩))
    (fun q2=>⟨z2,forCi (p:=p) (it:=it) (q:=q) (n0:=stepN n c) (cs0:=r) (tok0:=[c]) (by decide) rfl 900 (IW lexB (if c=92 then lexB (r.take 1) (lnOf (stepN n c) r) (r.drop 1) else lexB [c] (stepN n c) r)) hI ⟨rfl,h1,hok,z4,(if_neg q2).symm⟩ (gS.sub (by refine rz (Eq.symm (nil_append [c] ..)) <| rz (Eq.symm (Bh ..)) ?_;rfl) rfl) turn (fun b n tok h=>.ok false n [] tok (zero_lt_succ _) ⟨zero_le _,okT_nil,rfl,h.2.2.2.2⟩ rfl rfl)⟩))) (And.intro ?qt ?qh)
   case qh=>exact fun h=>⟨h.2.1,h.2.2.1,fun e=>nomatch h.1.symm.trans e⟩
   generalize (if c=92 then lexB (r.take 1) (lnOf (stepN n c) r) (r.drop 1) else lexB [c] (stepN n c) r)=R
   rintro n c r tok ⟨_,h1,hok,h2,e⟩
   replace h1:=le_of_succ_le h1
   replace hok:=hok.tail
   obtain⟨z1,z2,z3,z4⟩:=tk_le h2;refine .net p.x p.dx _ 0 1 _ rfl rfl rfl rfl rfl (LIfS.eq inW (.mk (fun q=>.mk (ci_ret (rz (Eq.symm (e ..)) <| rz (lexB_w _ _ _ _ q ..) rfl) rfl)) (fun q=>LIfS.eq ch92 (.d (fun q2=>.fn0 p.x 126 rfl rfl (.net p.dx _ 0 1 rfl rfl rfl rfl) (.det (m:=4) [0,0,0,0,0,0,0,0,0] rfl (C2 g.H p (stepN n c) [] r h1 hok) rfl ⟨z1,.ok true (lnOf (stepN n c) r) (r.drop 1) (tok++r.take 1) (drop_lt r) ⟨rfl,le_trans (rz (length_drop ..) <| sub_le _ _) h1,hok.drop,z3,by refine rz (Eq.symm (e ..)) <| rz (q2 ..) <| rz (lexB_92 ..) rfl⟩ (by refine rz (Eq.symm (Bh ..)) ?_;rfl) rfl⟩)) (fun q2=>⟨z2,.ok true (stepN n c) r (tok++[c]) (lt_succ_self _) ⟨rfl,h1,hok,z4,by refine rz (Eq.symm (e ..)) <| rz (lexB_else _ _ _ _ (Bool.eq_false_iff.mp q) q2 ..) rfl⟩ (by refine rz (Eq.symm (Bh ..)) ?_;rfl) rfl⟩)))))
 ·rintro b n tok ⟨_,_,h⟩;refine .mk (ci_ret ?_ rfl);cases b with
  |true=>obtain⟨rfl,h⟩:=h;exact h
  |false=>exact h.2
variable{prog:Program}{w:World}{K:Frag}
noncomputable abbrev net0:Od:=[("lineno",none),("instream",none),("whitespace",none),("pushback",none)]
theorem netinit_ok(H:KOk K)(st x dx:Addr) :
  Fn prog w K 3 119 [(x,Ins 143 dx),(dx,.obj net0)] [Rf x,Rf st] (fun d B'=>d=.none∧∃ pb,B'=[(x,Ins 143 dx),(dx,.obj [("lineno",some (.int 1)),("instream",some (Rf st)),("whitespace",some (.str "\n\t\r ")),("pushback",some (Rf pb))]),(pb,.seq (.type "list") none [])]):=by
 refine Er H 22 (.own [(x,Ins 143 dx),(dx,.obj net0)] .nil) rfl rfl rfl (by decide +kernel) (by intro vs hv;obtain⟨v0,v1,rfl⟩:=len2 hv;kernel_rfl!) (fun g=>?_) (fun d B' h=>by obtain⟨_,pb,rfl⟩:=h;exact fun q hq=>(List.mem_cons.mp hq).elim (fun e=>e▸.head _) fun hq=>List.mem_singleton.mp hq▸.tail _ (.head _))
 exact .net x dx _ _ 0 1 rfl rfl rfl rfl rfl (.net x dx _ _ 0 1 rfl rfl rfl rfl rfl (.net x dx _ _ 0 1 rfl rfl rfl rfl rfl (.own fun pb=>.net x dx _ _ 1 2 rfl rfl rfl rfl rfl (.det [1,1,0] ⟨rfl,pb,rfl⟩ rfl))))
theorem pushtoken_ok(H:KOk K)(p:LxP)(n:Int)(ps:Lp)(cs:List Nat)(y:Str)(h1:ps.length≤100000) :
  Fn prog w K 3 140 (LxX p n ps cs) [Rf p.x,.str y] (fun d B'=>d=.none∧B'=LxX p n (ps++[.str y]) cs):=by
 refine Er H 25 (.own (LxX p n ps cs) .nil) rfl rfl rfl (by decide +kernel) (by intro vs hv;obtain⟨v0,v1,rfl⟩:=len2 hv;kernel_rfl!) (fun g=>?_) (fun d B' h=>by obtain⟨_,rfl⟩:=h;exact fun q hq=>(List.mem_map.mpr ⟨q,hq,rfl⟩:q.1∈(LxX p n ps cs).map (·.1)))
 exact .net p.x p.dx _ 0 1 _ rfl rfl rfl rfl rfl (LObj.m 2 rfl (.mk p.pb ps 2 rfl rfl (A4 (le_trans h1 (by decide))) (.det [0,0,0,0,0,0,0,0,0] ⟨rfl,rfl⟩ rfl)))
theorem getback_ok(H:KOk K)(p:LxP)(n:Int)(y:Str)(ps:Lp)(cs:List Nat)(h1:ps.length≤100000) :
  Fn prog w K 3 133 (LxX p n (.str y::ps) cs) [Rf p.x] (fun d B'=>d=.str y∧B'=LxX p n ps cs):=by
 refine Er H 24 (.own (LxX p n (.str y::ps) cs) .nil) rfl rfl rfl (by decide +kernel) (by intro vs hv;obtain⟨v0,rfl⟩:=len1 hv;kernel_rfl!) (fun g=>?_) (fun d B' h=>by obtain⟨_,rfl⟩:=h;exact fun q hq=>(List.mem_map.mpr ⟨q,hq,rfl⟩:q.1∈(LxX p n (.str y::ps) cs).map (·.1)))
 exact .net p.x p.dx _ 0 1 _ rfl rfl rfl rfl rfl (LObj.m 2 rfl ⟨len63 (le_trans (succ_le_succ h1) (by decide)),.mk (fun V=>.net p.x p.dx _ 0 1 _ rfl rfl rfl rfl rfl (.popAt p.pb _ 2 _ _ rfl rfl rfl rfl (.mk 0 0 (.str y) _ 2 rfl rfl (by decide) (by simp[seqIndex?]) rfl (A4 (le_trans (succ_le_succ h1) (by decide))) (.mk (.det [0,0,0,0,0,0,0,0,0] ⟨rfl,rfl⟩ rfl))))) fun e=>nomatch e⟩)
variable{prog:Program}{w:World}{K:Frag}
noncomputable def backP(rows:Lz)(q:List Nat):Lp:=q.map fun k=>.str (tx (rows.getD k []))
noncomputable def lxQ(p:LxP)(n:Int)(cs:List Nat)(rows:Lz):List Nat→Xs
 |[]=>LxX p (Bb n cs).2.2 [] (Bb n cs).2.1
 |_::q=>LxX p n (backP rows q) cs
noncomputable def wdQ(n:Int)(cs:List Nat)(rows:Lz):List Nat→List Nat
 |[]=>(Bb n cs).1
 |k::_=>rows.getD k []
theorem Fn.le{n m:Nat}{f:Addr}{B:Xs}{ds:Lp}{post:PyData→Xs→Prop}(h:Fn prog w K m f B ds post)(hm:m≤n):Fn prog w K n f B ds post:=fun A c X T s vs R oA=>h A c X T s vs R (oA.le hm)
theorem getA(H:KOk K){p:LxP}{n:Int}{cs:List Nat}{rows:Lz}(q:List Nat)(h1:q.length≤100000)(h2:cs.length≤100000)(h3:okT cs):Fn prog w K 8 133 (LxX p n (backP rows q) cs) [Rf p.x] fun d B'=>d=.str (tx (wdQ n cs rows q))∧B'=lxQ p n cs rows q:=by
 cases q with
 |nil=>exact E3 H p n cs h2 h3
 |cons j q=>exact(getback_ok H p n (tx (rows.getD j [])) (backP rows q) cs (by rw[backP,length_map];exact le_of_succ_le h1)).le (by decide)
theorem pushA'(H:KOk K){p:LxP}{n:Int}{cs:List Nat}{rows:Lz}(q:List Nat)(k:Nat)(h1:q.length≤100000):Fn prog w K 3 140 (LxX p n (backP rows q) cs) [Rf p.x,.str (tx (rows.getD k []))] fun d B'=>d=.none∧B'=LxX p n (backP rows (q++[k])) cs:=by
 have:=pushtoken_ok (prog:=prog) (w:=w) H p n (backP rows q) cs (tx (rows.getD k [])) (by rw[backP,length_map];exact h1)
 rw[show backP rows q++[.str (tx (rows.getD k []))]=backP rows (q++[k]) by unfold backP;refine rz (map_append ..) ?_;rfl] at this
 exact this
noncomputable def lnV(p:LxP)(rows tied:Lz)(lb tb mb:Addr):Sg:=.put "met" (Rf mb) (.put "turned" (Rf tb) (.put "left" (Rf lb) (.put "tied" (dNN tied) (.put "rows" (.list (rows.map eR)) (.put "lexer" (Rf p.x) .nil)))))
noncomputable def lnO(X:Xs)(lb tb mb:Addr)(l:List Int)(tu:List (Nat × Int))(met:List Nat)(σ:Sg):Sg:=.own (X++[(mb,.seq (.type "list") none (met.map eN)),(tb,.seq (.type "list") none (tu.map eP)),(lb,.seq (.type "list") none (l.map .int))]) σ
theorem line_ok(H2:KOk2 prog K)(p:LxP)(n:Int)(cs:List Nat)(rows:Lz)(order:List Nat)(tied:Lz)(numbers:List Int)(N:Nat)(z':Gm)(g1:cs.length≤100000)(g2:okT cs)(g3:(Bb n cs).1∉rows)(g4:okT (Bb n cs).1)(h1:rows.length=numbers.length)(h2:∀ r∈rows,r≠[]∧r.length≤100∧okT r)(h3:rows.Nodup)(h4:order.length≤100)(h5:∀ k∈order,k<numbers.length)
  (h6:tied.length=numbers.length)(h7:numbers.length≤100)(h8:∀ js∈tied,(∀ j∈js,j<numbers.length)∧js.length≤5)(hN:N≤200)(hrun:gRun putQ tied N ⟨order,numbers,[],[]⟩=some z') :
  Fn prog w K 9 285 (LxX p n [] cs) [Rf p.x,.list ((rows.map tx).map .str),dN order,dNN tied,dI numbers] (fun d B'=>d=.tuple [dI z'.l,.list (z'.tu.map eP),dN z'.met,.str (tx (Bb n cs).1)]∧B'=LxX p (Bb n cs).2.2 [] (Bb n cs).2.1):=by
 refine rz (Eq.symm (eqR ..)) ?_;have hnz:numbers.length≤1000000:=le_trans h7 (by decide)
 have hrz:rows.length≤1000000:=h1▸hnz;refine lawFnV2 H2 10 (.own (LxX p n [] cs) .nil) rfl rfl rfl (by decide +kernel) (by intro vs hv;obtain⟨v0,v1,v2,v3,v4,rfl⟩:=len5 hv;kernel_rfl!) (fun g H2=>?_) (fun d B' h=>by obtain⟨_,rfl⟩:=h;exact fun q hq=>(List.mem_map.mpr ⟨q,hq,rfl⟩:q.1∈(LxX p n [] cs).map (·.1)))
 refine⟨by refine rz (length_map ..) <| A4 hnz,.own fun lb=>.own fun tb=>.own fun mb=>?_⟩
 refine LFor.m (f:=eN) (fun i=>lnO (LxX p n (backP rows (order.take i)) cs) lb tb mb numbers [] [] (lnV p rows tied lb tb mb)) (.ix [3,3,3,3,3,3,3,3,3,0,0,0] rfl rfl) (fun i k hk=>?_) (.ok ?_)
 ·have hkl:=h1.symm▸h5 k (List.mem_of_getElem? hk);refine .fn p.x 140 _ _ rfl rfl (.net p.dx _ 0 1 rfl rfl rfl rfl) (LGet.m (f:=eR) (x:=rows.getD k []) (Bc hkl) hrz (.det [0,0,0,0,0,0,0,0,0] rfl (pushA' g.H (order.take i) k (rz (length_take ..) <| le_trans (min_le_right _ _) (le_trans h4 (by decide)))) rfl (.mk rfl (by refine rz (Bl hk ..) ?_;rfl))))
 refine rz (take_length ..) <| .fn0 p.x 133 rfl rfl (.net p.dx _ 0 1 rfl rfl rfl rfl) (.det [0,0,0,0,0,0,0,0,0] rfl (getA g.H order (le_trans h4 (by decide)) g1 g2) rfl ?_)
 refine .mk { a:Gm × Nat // gRun putQ tied a.2 a.1=some z'∧GmOk numbers.length a.2 a.1 } (fun a=>lnO (lxQ p n cs rows a.1.1.q) lb tb mb a.1.1.l a.1.1.tu a.1.1.met (.put "word" (.str (tx (wdQ n cs rows a.1.1.q))) (lnV p rows tied lb tb mb))) (fun a=>a.1.2) ⟨(⟨order,numbers,[],[]⟩,N),hrun,rfl,fun k hk=>h5 k hk,by simp;exact(ar [_,_] (.a Aa (.m 5 Ab)) (.n 2000) (.c 1 Aa Ar (.c 5 Ab (.n 200) .z)) 0 rfl h4 hN),by simp;exact(ar [_] Aa A3 (.c 1 Aa (.n 200) .z) 0 rfl hN),by simp;exact(ar [_] Aa A3 (.c 1 Aa (.n 200) .z) 0 rfl hN)⟩ (.mk rfl rfl) ?_
 rintro⟨⟨⟨q,l,tu,met⟩,n'⟩,hz,hok⟩;have hz:gRun putQ tied n' ⟨q,l,tu,met⟩=some z':=hz;have hok:GmOk numbers.length n' ⟨q,l,tu,met⟩:=hok;cases q with
 |nil =>
  refine LIn.x (fun x hx=>(h2 x hx).2.2) g4 (.mk (fun e=>absurd (of_decide_eq_true e) g3) fun V=>?_)
  obtain rfl:=Option.some.inj ((Dd rfl).symm.trans hz);exact .frz "left" lb _ 11 rfl rfl (.frz "turned" tb _ 10 rfl rfl (.frz "met" mb _ 9 rfl rfl (.ok (.mk (.det [0,0,0,0,0,0,0,0,0] ⟨rfl,rfl⟩ rfl)))))
 |cons k q =>
  obtain⟨m,rfl,hr⟩:=C6 rfl hz;have hk:k<numbers.length:=hok.q k (.head _);have hkl:k<rows.length:=h1.symm▸hk;have hst:=hok.step putQ_ok h8 rfl;refine LIn.x (fun x hx=>(h2 x hx).2.2) (h2 _ (C0 hkl)).2.2 (.mk (fun V=>?_) fun e=>absurd (C0 hkl) (of_decide_eq_false e))
  obtain⟨hl,_,hqn,htn,hmn⟩:=hok;have hl:l.length=numbers.length:=hl;have hqn:(k::q).length+5*(m+1)≤2000:=hqn;have htn:tu.length+(m+1)≤300:=htn;have hmn:met.length+(m+1)≤300:=hmn;refine LObj.m 9 rfl (.mk (rows.map tx) _ k eqR rfl (getD_rows hkl) (Fu h3 hkl) (rz (length_map ..) <| A4 hrz) (LApp.m (f:=eN) (l:=met) 9 rfl (ar [_,_] Aa Ap (.c 1 (.a Aa (.a Ab Ad)) A3 .z) 0 rfl hmn) ?_))
  refine LObj.m 9 rfl (LGet.last (f:=eN) (l:=met++[k]) (x:=k) (by simp) (rz (length_append ..) <| rz (length_singleton ..) <| (ar [_,_] (.a Aa Ad) Ap (.c 1 (.a Aa (.a Ab Ad)) A3 .z) 0 rfl hmn)) ?_)
  refine .det (m:=3) [11,10] rfl (turned_ok g.H k tied l tu lb tb (rz (h6 ..) <| rz (hl ..) rfl) (ar [_,_] Ab Am (.c 1 Aa Ar (.c 1 Ab Aa .z)) 0 rfl h7 (le_of_eq hl)) (hl.symm▸hk) (fun js hj=>by refine rz (hl ..) <| ⟨(h8 js hj).1,le_trans (h8 js hj).2 (by decide)⟩) (ar [_,_] Aa Am (.c 1 (.a Aa (.a Ab Ad)) A3 .z) 0 rfl htn)) rfl ?_
  have hq2:q.length+(tret tied l k).length≤100000:=by
   have:=hst.qn;have e2:(gStep putQ tied ⟨k::q,l,tu,met⟩ k q).q.length=(tret tied l k).length+q.length:=(putQ_ok _ _).2;rw[e2] at this;exact(ar [_,_,_] (.a Ab Aa) A1 (.c 1 (.a (.a Aa Ab) (.m 5 Ag)) (.n 2000) .z) 0 rfl this)
  refine LFor.m (f:=eN) (fun i=>lnO (LxX p n (backP rows (q++(tret tied l k).take i)) cs) lb tb mb (tlst tied l k) (ttur l tu k) (met++[k]) (lnV p rows tied lb tb mb)) (.ix [2,2,2,2,2,2,2,2,2,2,1,0] rfl (by refine rz (List.take_zero ..) <| rz (append_nil ..) ?_;rfl)) (fun i j hj=>?_) (.ok ?_)
  ·have hjl:j<rows.length:=h1.symm▸(tret_ok h8 k).1 j (List.mem_of_getElem? hj);refine .fn p.x 140 _ _ rfl rfl (.net p.dx _ 0 1 rfl rfl rfl rfl) (LGet.m (f:=eR) (x:=rows.getD j []) (Bc hjl) hrz (.det [0,0,0,0,0,0,0,0,0] rfl (pushA' g.H (q++(tret tied l k).take i) j (rz (length_append ..) <| rz (length_take ..) <| le_trans (add_le_add_left (min_le_right _ _) _) hq2)) rfl (.mk rfl ?_)))
   rw[Bl hj,← append_assoc];rfl
  ·refine rz (take_length ..) <| .fn0 p.x 133 rfl rfl (.net p.dx _ 0 1 rfl rfl rfl rfl) (.det [0,0,0,0,0,0,0,0,0] rfl (getA g.H (q++tret tied l k) (rz (length_append ..) <| hq2) g1 g2) rfl ?_)
   exact⟨⟨(gStep putQ tied ⟨k::q,l,tu,met⟩ k q,m),hr,hst⟩,lt_succ_self _,.mk rfl rfl⟩
variable{prog:Program}{w:World}{K:Frag}
noncomputable def lawB:List Stmt:=sBody (topS 25)
noncomputable def lawN:Sn:=⟨(lawFd 25 313).scope.names,14⟩
theorem pick_le{α:Type}(ds:List α)(lo hi st:Option Int):(pick ds lo hi st).length≤ds.length:=by
 have h1:=slicePick_size_le ((ds.map fun V=>Value.none).toArray) lo hi st
 have h2:slicePick ((ds.map fun V=>Value.none).toArray) lo hi st=(pick (ds.map fun V=>Value.none) lo hi st).toArray:=by
  unfold slicePick pick;simp
 rw[h2,Cy] at h1
 simpa using h1
noncomputable def startsN:List Nat:=[0,14,1,15,0,28,2,40,3,41,134]
noncomputable def heapSum(script:List Int)(k:Nat):Int:=((pick script (some (k:Int)) none (some 11)).map fun x=>x.fmod 1000000).sum
noncomputable def E0(script:List Int):List Int:=startsN.zipIdx.map fun p=>(p.1:Int)+heapSum script p.2
noncomputable def numT(a:Int):List Nat:=(Str.ofString (toString a)).cps.toList
noncomputable def Eb(k:Nat):Nat:=[97,34,10,92,99].getD k 0
noncomputable def Ba(hs:List Nat)(many:Nat):Lz:=(List.range many).map fun k=>D3 (hs.getD (2*k+1) 0)++[Eb k]
noncomputable def Bv(hs:List Nat)(many:Nat):Lz:=(List.range many).flatMap fun k=>[(Ba hs many).getD k [],numT (-1-(hs.getD (2*k) 0:Nat))]
noncomputable def textOf(n:Nat)(words:Lz):Lz:=(words++[[46]]).zipIdx.map fun(p:List Nat × Nat)=>Bd p.1 (decide ((n+p.2+p.2 / 2) % 2=1)) (([10,9,13,32]:List Nat).getD ((n+p.2) % 4) 0)
theorem name_at:∀ k:Nat,k<5→(seqIndex? (k:Int) (Str.ofString "a\"\n\\c").length).bind ((Str.ofString "a\"\n\\c").cps[·]?)=some (Eb k):=by decide +kernel
theorem white_at:∀ k:Nat,k<4→(seqIndex? (k:Int) (Str.ofString "\n\t\r ").length).bind ((Str.ofString "\n\t\r ").cps[·]?)=some ([10,9,13,32].getD k 0):=by decide +kernel
noncomputable def Ep(script:List Int):Nat:=if script.length % 3=2 then 5 else 4
theorem one{F:Sg}{τ:Sg}(h:LSub τ F):segJ (fun V:Unit=>F) .next τ:=⟨(),.ok h⟩
theorem seg0(g:Pg)(script:List Int)(hl:script.length≤100000)(O:Xs):(R g 1000 lawN []).S ((lawB.drop 0).take 2) (.put "script" (dI script) (.own O .nil)) (segJ fun V:Unit=>.own O (.put "heaps" (dI (E0 script)) (.put "script" (dI script) .nil))):=by
 refine .frz ?_;refine LComp.e (l:=startsN) (f:=fun n:Nat=>.int n) (fun p=>.int ((p.2:Int)+heapSum script p.1)) (by decide) (fun k st hk=>⟨trivial,?_⟩) (.frz (one (.mk rfl rfl)))
 refine⟨⟨by decide,by refine rz (length_map ..) <| A4 (le_trans hl (by decide))⟩,.eq (ds':=(pick script (some (k:Int)) none (some 11)).map .int) (Cy _ _ _ _ _) (.frz ?_)⟩
 have hpl:(pick script (some (k:Int)) none (some 11)).length≤1000000:=le_trans (pick_le script _ _ _) (le_trans hl (by decide))
 exact LComp.m (f:=.int) (fun x=>.int (x.fmod 1000000)) hpl (fun i x hx=>⟨trivial,⟨by decide,by decide +kernel⟩,.mk (by decide) (.mk rfl rfl)⟩) (.frz (.m (fun x:Int=>x.fmod 1000000) (.mk rfl rfl)))
theorem seg1(g:Pg)(script:List Int)(hl:script.length≤100000)(hs:List Nat)(h1:hs.length=11)(h2:∀ h∈hs,h<2^40)(m:Nat)(hm:m=Ep script)(O:Xs):(R g 1000 lawN []).S ((lawB.drop 2).take 2) (.own O (.put "heaps" (dN hs) (.put "script" (dI script) .nil))) (segJ fun V:Unit=>.own O (.put "rows" (dS (Ba hs m)) (.put "many" (.int (m:Nat)) (.put "heaps" (dN hs) (.put "script" (dI script) .nil))))):=by
 have hm5:m≤5:=by refine rz (hm ..) ?_;unfold Ep;split<;>decide
 have hlz:script.length≤1000000:=le_trans hl (by decide)
 refine⟨by refine rz (length_map ..) <| len63 hlz,LMod.n (a:=script.length) (b:=3) (by decide) ?_ (rz (length_map ..) rfl)⟩
 refine LIfE.cut (.int (m:Nat)) (fun e=>?_) (fun e=>?_) ?_
 ·have e:script.length % 3=2:=Int.ofNat.inj (eq_of_beq e);exact⟨by rw[hm,Ep,if_pos e];rfl,rfl⟩
 ·have e:¬script.length % 3=2:=fun h=>by rw[h] at e;cases e
  exact⟨by rw[hm,Ep,if_neg e];rfl,rfl⟩
 refine⟨Dj (le_trans hm5 (by decide)),LComp.rg (n:=m) (fun k=>eS (D3 (hs.getD (2*k+1) 0)++[Eb k])) (le_trans hm5 (by decide)) (fun k hk=>⟨trivial,?_⟩) (.frz (one (.mk ?_ rfl)))⟩
 ·have hk5:k<5:=lt_of_lt_of_le hk hm5;have hk11:2*k+1<hs.length:=by exact(ar [_,_,_] (.a (.a (.m 2 Ag) Ad) Ad) Aa (.c 1 (.n 11) Aa (.c 2 Ab At (.c 2 (.a Ag Ad) Ab .z))) 0 rfl (le_of_eq h1.symm) hm5 hk)
  refine⟨mulOk (by decide) (ar [_,_] (.a Ab Ad) Ao (.c 1 Aa At (.c 1 (.a Ab Ad) Aa .z)) 0 rfl hm5 hk),LGet.m (f:=fun n:Nat=>.int n) (k:=2*k+1) (Bc (d:=0) hk11) (ar [_] Aa Ap (.c 1 Aa (.n 11) .z) 0 rfl (le_of_eq h1)) (.pure 3 rfl _ (lead_ok g.H (hs.getD (2*k+1) 0) (h2 _ (List.mem_of_getElem? (Bc hk11)))) (.mk (Eb k) (by refine rz (decide_eq_false (Int.not_lt.mpr (ai [_] [] A0 (.c Aa) .z 0 rfl)) ..) <| rz (decide_eq_false (Int.not_le.mpr (ai [_,_] [] (.a (.c Ab) Ah) Ak (.c 1 Aa At (.c 1 (.a Ab Ad) Aa .z)) 0 rfl hm5 hk)) ..) ?_;rfl) (name_at k hk5) ⟨?_,?_,rfl⟩))⟩
  ·refine rz (tx_sign ..) <| rz (A6 ..) <| rz (A6 ..) ?_
   have:(D3 (hs.getD (2*k+1) 0)).length≤6:=by unfold D3;refine rz (length_map ..) <| rz (length_range ..) <| le_of_lt (mod_lt _ (by decide))
   exact A4 (le_trans (add_le_add_right this _) (by simp))
  ·refine rz (tx_sign ..) <| rz (Bh ..) rfl
 ·show [_,_,_,_]=[_,_,_,_]
  refine rz (show dS (Ba hs m)=.list ((List.range m).map fun k=>eS (D3 (hs.getD (2*k+1) 0)++[Eb k])) by unfold dS Ba;rw[map_map];rfl) ?_
  rfl
theorem numT_eta(a:Int):Str.ofString (toString a)=tx (numT a):=(tx_eta _).symm
theorem log_ok{n:Nat}(h:n<2^64):n.log2<1920:=by
 by_cases h0:n=0
 ·subst h0;decide
 ·exact lt_of_lt_of_le ((Nat.log2_lt h0).mpr h) (by decide)
theorem words_len(hs:List Nat)(m:Nat):∀ n,((List.range n).flatMap fun k=>[(Ba hs m).getD k [],numT (-1-(hs.getD (2*k) 0:Nat))]).length=2*n:=by
 intro n;refine rz (length_flatMap ..) ?_
 induction n with
 |zero=>rfl
 |succ n ih=>refine rz (range_succ ..) <| rz (map_append ..) <| rz (sum_append ..) <| rz (ih ..) ?_;simp;exact(le_antisymm (ar [_] (.a (.m 2 Aa) (.n 2)) (.m 2 (.a Aa Ad)) .z 0 rfl) (ar [_] (.m 2 (.a Aa Ad)) (.a (.m 2 Aa) (.n 2)) .z 0 rfl))
theorem seg2(g:Pg)(script:List Int)(hs:List Nat)(h1:hs.length=11)(h2:∀ h∈hs,h<2^40)(m:Nat)(hm5:m≤5)(O:Xs):(R g 1000 lawN []).S ((lawB.drop 4).take 2) (.own O (.put "rows" (dS (Ba hs m)) (.put "many" (.int (m:Nat)) (.put "heaps" (dN hs) (.put "script" (dI script) .nil))))) (segJ fun al:Addr=>.own ((al,.seq (.type "list") none ((Bv hs m).map eS))::O) (.put "words" (Rf al) (.put "rows" (dS (Ba hs m)) (.put "many" (.int (m:Nat)) (.put "heaps" (dN hs) (.put "script" (dI script) .nil)))))):=by
 refine .own fun al=>⟨Dj (le_trans hm5 (by decide)),LFor.rg (n:=m) (fun i=>.own ((al,.seq (.type "list") none (((List.range i).flatMap fun k=>[(Ba hs m).getD k [],numT (-1-(hs.getD (2*k) 0:Nat))]).map eS))::O) (.put "words" (Rf al) (.put "rows" (dS (Ba hs m)) (.put "many" (.int (m:Nat)) (.put "heaps" (dN hs) (.put "script" (dI script) .nil)))))) (.mk rfl rfl) (fun k hk=>?_) (.ok ⟨al,.ok (.mk rfl rfl)⟩)⟩
 have hk11:2*k<hs.length:=by exact(ar [_,_,_] (.a (.m 2 Ag) Ad) Aa (.c 1 (.n 11) Aa (.c 2 Ab At (.c 2 (.a Ag Ad) Ab .z))) 0 rfl (le_of_eq h1.symm) hm5 hk)
 have hkr:k<(Ba hs m).length:=by rw[Ba,length_map,length_range];exact hk
 refine LGet.m (f:=eS) (Bc (d:=[]) hkr) (by rw[Ba,length_map,length_range];exact(ar [_] Aa Ap (.c 1 Aa At .z) 0 rfl hm5)) ⟨mulOk (by decide) (ar [_,_] (.a Ab Ad) Ao (.c 1 Aa At (.c 1 (.a Ab Ad) Aa .z)) 0 rfl hm5 hk),LGet.m (f:=fun n:Nat=>.int n) (k:=2*k) (Bc (d:=0) hk11) (ar [_] Aa Ap (.c 1 Aa (.n 11) .z) 0 rfl (le_of_eq h1)) ⟨?_,.frz (.mk al _ _ 0 rfl rfl (.inl rfl) ?_ (.mk rfl ?_))⟩⟩
 ·have:=h2 _ (List.mem_of_getElem? (Bc (d:=0) hk11));exact log_ok (abs_lt (ai [_] [] (.a Az Ah) (.s As (.c Aa)) (.c 1 (.a Aa Ad) (.n 1099511627776) .z) 0 rfl this) (ai [_] [] (.a (.s As (.c Aa)) Ah) A2 .z 0 rfl))
 ·refine rz (length_map ..) <| rz (words_len ..) ?_;simp;exact(ar [_,_] (.m 2 Ab) (.n 4094) (.c 2 Aa At (.c 2 (.a Ab Ad) Aa .z)) 0 rfl hm5 hk)
 ·refine rz (range_succ ..) <| rz (List.flatMap_append ..) <| rz (map_append ..) <| rz (numT_eta ..) ?_;rfl
theorem seg3(g:Pg)(script:List Int)(hl:script.length≤100000)(dh dm dr:PyData)(words:Lz)(h1:words.length≤20)(h2:∀ r∈words,r≠[]∧r.length≤100)(al:Addr)(O:Xs):(R g 1000 lawN []).S ((lawB.drop 6).take 2) (.own ((al,.seq (.type "list") none (words.map eS))::O) (.put "words" (Rf al) (.put "rows" (dr) (.put "many" (dm) (.put "heaps" (dh) (.put "script" (dI script) .nil)))))) (segJ fun V:Unit=>.own O (.put "text" (.str (tx (textOf script.length words).flatten.dropLast)) (.put "words" (dS words) (.put "rows" (dr) (.put "many" (dm) (.put "heaps" (dh) .nil)))))):=by
 have hlz:(script.map PyData.int).length<2^63:=by refine rz (length_map ..) <| len63 (le_trans hl (by decide))
 refine .frz (LObj.m 0 rfl ⟨by refine rz (length_map ..) <| A4 (le_trans (succ_le_succ h1) (by decide)),.eq (ds':=(words++[[46]]).map eS) (by refine rz (map_append ..) <| rz (show(Str.ofString ".")=tx [46] by decide +kernel) ?_;rfl) (.frz ?_)⟩)
 have h2':∀ r∈words++[[46]],r≠[]∧r.length≤100:=fun r hr=>by
  rcases List.mem_append.mp hr with h | h
  ·exact h2 r h
  ·refine rz (List.mem_singleton.mp h ..) <| ⟨by simp,by decide⟩
 have h1':(words++[[46]]).length≤21:=by refine rz (length_append ..) <| succ_le_succ h1
 unfold textOf;generalize words++[[46]]=ws at h2' h1' ⊢
 have hl21:ws.zipIdx.length≤21:=by refine rz (length_zipIdx ..) <| h1'
 refine LComp.e (l:=ws) (f:=eS) (fun p=>eS (Bd p.2 (decide ((script.length+p.1+p.1 / 2) % 2=1)) (([10,9,13,32]:List Nat).getD ((script.length+p.1) % 4) 0))) (le_trans h1' (by decide)) (fun k wd hk=>⟨trivial,?_⟩) (.frz ?_)
 ·obtain⟨hw0,hw1⟩:=h2' wd (List.mem_of_getElem? hk);refine⟨hlz,LDiv.n (a:=k) (b:=2) (by decide) (by decide) (LMod.n (a:=script.length+k+k / 2) (b:=2) (by decide) ⟨hlz,LMod.n (a:=script.length+k) (b:=4) (by decide) (.mk (([10,9,13,32]:List Nat).getD ((script.length+k) % 4) 0) ?_ (white_at _ (mod_lt _ (by decide))) (.pure 3 rfl _ (written_ok g.H wd _ _ hw0 (le_trans hw1 (by decide))) (.mk ?_ rfl))) (by refine rz (length_map ..) ?_;rfl)⟩ (by refine rz (length_map ..) ?_;rfl))⟩
  ·have:(script.length+k) % 4<4:=mod_lt _ (by decide)
   refine rz (decide_eq_false (Int.not_lt.mpr (ai [_] [] A0 (.c Aa) .z 0 rfl)) ..) <| rz (decide_eq_false (Int.not_le.mpr (ai [_] [] (.a (.c Aa) Ah) Ak (.c 1 (.a Aa Ad) (.n 4) .z) 0 rfl (mod_lt _ (by decide)))) ..) ?_;rfl
  ·rw[show((((script.length+k+k / 2) % 2:Nat):Int) == 1)=decide ((script.length+k+k / 2) % 2=1) from by
    rcases mod_two_eq_zero_or_one (script.length+k+k / 2) with e | e<;>refine rz (e ..) ?_<;>rfl]
 have hb:∀ x∈ws.zipIdx.map (fun(p:List Nat × Nat)=>Bd p.1 (decide ((script.length+p.2+p.2 / 2) % 2=1)) (([10,9,13,32]:List Nat).getD ((script.length+p.2) % 4) 0)),x.length≤1000:=by
  intro x hx;obtain⟨p,hp,rfl⟩:=List.mem_map.mp hx;have h3:=(h2' p.1 (by have:=mem_zipIdx hp;refine rz (this.2.2 ..) <| getElem_mem _)).2
  unfold Bd;have h4:=esc_len (Cn p.1 (decide ((script.length+p.2+p.2 / 2) % 2=1))) p.1
  split<;>simp only[length_append,length_cons,length_nil]<;>(first | exact(ar [_,_] (.a Ab (.a Al Ad)) Am (.c 2 Aa Ar (.c 1 Ab (.m 2 Aa) .z)) 0 rfl h3 h4) | exact(ar [_,_] (.a (.a (.a (.a Al Ad) Ad) Ab) (.a Al Ad)) Am (.c 2 Aa Ar (.c 1 Ab (.m 2 Aa) .z)) 0 rfl h3 h4))
 have e2:ws.zipIdx.map (fun p=>eS (Bd p.1 (decide ((script.length+p.2+p.2 / 2) % 2=1)) (([10,9,13,32]:List Nat).getD ((script.length+p.2) % 4) 0)))=((ws.zipIdx.map fun(p:List Nat × Nat)=>Bd p.1 (decide ((script.length+p.2+p.2 / 2) % 2=1)) (([10,9,13,32]:List Nat).getD ((script.length+p.2) % 4) 0))).map eS:=by refine rz (map_map ..) ?_;rfl
 refine LStrs.eq e2 (LStrs.x ?_);have hts:(ws.zipIdx.map fun(p:List Nat × Nat)=>Bd p.1 (decide ((script.length+p.2+p.2 / 2) % 2=1)) (([10,9,13,32]:List Nat).getD ((script.length+p.2) % 4) 0)).length≤21:=by refine rz (length_map ..) <| hl21
 clear e2
 generalize (ws.zipIdx.map fun(p:List Nat × Nat)=>Bd p.1 (decide ((script.length+p.2+p.2 / 2) % 2=1)) (([10,9,13,32]:List Nat).getD ((script.length+p.2) % 4) 0))=ts at hb hts⊢
 have ht:=le_trans (txsum_le hb) (mul_le_mul_left 1000 hts);have ht2:=ht;rw[sum_len] at ht2;refine rz (Dl ..) <| ⟨by refine rz (Eh ..) <| rz (mul_zero ..) <| le_trans ht (by decide),by refine rz (A6 ..) <| le_trans ht2 (by decide),?_⟩
 refine rz (C1 ..) <| rz (Db ..) <| rz (Eq.symm (dropLast_eq_take ..)) <| ⟨(),.frz "words" al _ 0 rfl rfl (.ok (.mk rfl rfl))⟩
theorem mklex{prog:Program}{w:World}{K:Frag}(H:KOk K)(st:Addr):Cl prog w K 4 (.ref 143) [] [Rf st] fun d B'=>∃ x dx pb,d=Rf x∧B'=[(x,Ins 143 dx),(dx,.obj [("lineno",some (.int 1)),("instream",some (Rf st)),("whitespace",some (.str "\n\t\r ")),("pushback",some (Rf pb))]),(pb,.seq (.type "list") none [])]:=fun A c X T s vs E Q oA hK S hv q=>by
 obtain⟨v,us,rfl,a1,hr⟩:=hv.uncons;obtain rfl:=hr.unnil;obtain rfl:=By a1;have H':KOk c.K:=hK▸H;have hc:(143,"object.__getattribute__",_,_)∈clTab:=.tail _ (.head _);obtain⟨hi,hf⟩:=(H'.clF hc).2.1 ("__init__",119) (.head _);refine r_makeP (ρ:=net0) oA rfl H'.mks.1 hi hf (by decide +kernel) (by decide +kernel) (by decide) (fun x dx=>netinit_ok H' st x dx) S (.cons (.raw _) .nil) fun x dx B' s' hB S'=>?_
 obtain⟨pb,rfl⟩:=hB;exact q _ _ _ s' ⟨x,dx,pb,rfl,rfl⟩ (S'.push (.raw x))
theorem seg4(g:Pg)(dh dm drows dw:PyData)(cs:List Nat)(h1:cs.length≤100000)(O:Xs):(R g 1000 lawN []).S ((lawB.drop 8).take 1) (.own ((215,Tab #[])::O) (.put "text" (.str (tx cs)) (.put "words" (dw) (.put "rows" (drows) (.put "many" (dm) (.put "heaps" (dh) .nil)))))) (segJ fun q:LxP × Array Value=>.own (LxX q.1 1 [] cs++((215,Tab q.2)::O)) (.put "lexer" (Rf q.1.x) (.put "text" (.str (tx cs)) (.put "words" (dw) (.put "rows" (drows) (.put "many" (dm) (.put "heaps" (dh) .nil))))))):=by
 refine⟨by refine rz (Eq.symm (Array.length_toList ..)) <| rz (C1 ..) <| A4 (le_trans h1 (by decide)),.eq (ds':=cs.map chS) (rz (C1 ..) rfl) (.own fun lf=>?_)⟩
 refine .fn 3 rfl [(lf,.seq (.type "list") none (cs.map chS)),(215,Tab #[])] O _ (stream_ok g.H lf (cs.map chS)) (Cc (is:=[0,0]) rfl) ?_;rintro d B' ⟨st,Z,r,⟨D,rd,c1,cell,ctv,doc,pm,c2,ctv2,pm2,rfl⟩,rfl,rfl⟩;refine .cl 4 rfl [] _ _ (mklex g.H st) (.refl _) ?_;rintro d B' ⟨x,dx,pb,rfl,rfl⟩;exact⟨(⟨x,dx,pb,st,D,rd,c1,cell,lf,ctv,doc,pm,lamFd c2 ctv2 pm2⟩,r),.ok (.fr [0,0,0,0,0,0,0,0,0,0] rfl rfl rfl)⟩
noncomputable def lexAt(n:Int)(cs:List Nat):Nat→Int × List Nat
 |0=>(n,cs)
 |i+1=>((Bb (lexAt n cs i).1 (lexAt n cs i).2).2.2,(Bb (lexAt n cs i).1 (lexAt n cs i).2).2.1)
theorem Sh.txs{l:Lz}(h:∀ r∈l,okT r):Sh 2 (dS l):=Sh.list fun d hd=>by
 obtain⟨r,hr,rfl⟩:=List.mem_map.mp hd;exact Sh.str (h r hr)
theorem LNeL.same{a b:PyData}{σ:Sg}{K:KV}(ds:Lp)(ha:IsL σ a ds)(hb:IsL σ b ds)(hs:Sh 60 (.list ds))(h:K (.bool false) σ):LNeL a b σ K :=
 .gen ds ds ha hb hs hs (rz (PySem.SeqAt.eqv_refl _ hs.1 ..) <| h)
theorem LComp.o{α:Type}{f:α→PyData}{l:List α}{σ:Sg}{K:KV}{r:VR}{elt tg:Expr}(e:α→PyData)(O:Nat→Xs)(hz:l.length≤1000000)(h0:σ.objs=O 0)(turn:∀ (i:Nat) x,l[i]?=some x→r.A tg (f x) (.own (O i) .nil) fun σ1=>True∧r.E elt σ1 (IsE (e x) (O (i+1))))(done:LOwn (l.map e) (.own (O l.length) σ) K):LComp r elt tg [] (l.map f) σ K:=by
 refine .mk (fun i rs X=>rs=(l.take i).map e∧X=O i) (rz (length_map ..) <| A4 hz) ⟨rfl,h0⟩ ?_ ?_
 ·rintro i d rs X hd ⟨rfl,rfl⟩;rw[List.getElem?_map,Option.map_eq_some_iff] at hd;obtain⟨x,h1,rfl⟩:=hd
  refine⟨True,IsE (e x) (O (i+1)),fun V=>False,fun _ d' σ3 ⟨h2,h3⟩=>⟨?_,h3⟩,fun V h=>h.elim,turn i x h1⟩
  refine rz (Bl h1 ..) <| rz (map_append ..) <| rz (h2 ..) ?_;rfl
 ·rintro rs X ⟨rfl,rfl⟩;refine rz (length_map ..) <| rz (take_length ..) <| .inl done
theorem seg5(g:Pg)(dh dm dr:PyData)(p:LxP)(words:Lz)(cs:List Nat)(h1:words.length≤20)(h2:∀ r∈words,okT r)
  (h3:∀ i,(lexAt 1 cs i).2.length≤100000∧okT (lexAt 1 cs i).2)(h4:∀ i wd,words[i]?=some wd→(Bb (lexAt 1 cs i).1 (lexAt 1 cs i).2).1=wd)(O:Xs) :
  (R g 1000 lawN []).S ((lawB.drop 9).take 2) (.own (LxX p 1 [] cs++O) (.put "lexer" (Rf p.x) (.put "text" (.str (tx cs)) (.put "words" (dS words) (.put "rows" (dr) (.put "many" (dm) (.put "heaps" (dh) .nil))))))) (segJ fun V:Unit=>.own (LxX p (lexAt 1 cs words.length).1 [] (lexAt 1 cs words.length).2++O) (.put "read" (dS words) (.put "lexer" (Rf p.x) (.put "text" (.str (tx cs)) (.put "rows" (dr) (.put "many" (dm) (.put "heaps" (dh) .nil))))))):=by
 refine LComp.o (f:=eS) eS (fun i=>LxX p (lexAt 1 cs i).1 [] (lexAt 1 cs i).2++O) (le_trans h1 (by decide)) rfl (fun i wd hw=>⟨trivial,?_⟩) (.frz ?_)
 ·refine .fn0 p.x 133 rfl rfl (.net p.dx _ 0 1 rfl rfl rfl rfl) (.det [0,0,0,0,0,0,0,0,0] rfl (E3 g.H p _ _ (h3 i).1 (h3 i).2) rfl ⟨by exact rz (h4 i wd hw ..) rfl,rfl⟩)
 ·exact .same _ (.inl rfl) (.inl rfl) ((Sh.txs h2).le (by decide)) (.mk (fun e=>nomatch e) fun V=>one (.mk rfl rfl))
theorem seg6(g:Pg)(H2:KOk2 g.prog g.K)(dh dm dl dt:PyData)(rows words:Lz)(h1:rows.length≤100)(h2:∀ r∈rows,r≠[]∧r.length≤100∧okT r)(h3:words.length≤100)
  (e0:pick words none none (some 2)=rows)(e1:(B8 rows).heads=(Ch rows).map fun h=>([]::rows).getD (h+1).toNat [])(e2:(B8 rows).piled=dpiled rows)(e3:∀ h∈Ch rows,-1≤h∧h<rows.length)(e4:∀ r∈dpiled rows,okT r)(O:Xs) :
  (R g 1000 lawN []).S ((lawB.drop 11).take 3) (.own ((70,TabK)::O) (.put "read" (dS words) (.put "lexer" (dl) (.put "text" (dt) (.put "rows" (dS rows) (.put "many" (dm) (.put "heaps" (dh) .nil))))))) (segJ fun V:Unit=>.own ((70,TabK)::O) (.put "told" (.list ((Ch rows).map fun h=>eS ((([]:List Nat)::rows).getD (h+1).toNat []))) (.put "heads" (dI (Ch rows)) (.put "read" (dS words) (.put "lexer" (dl) (.put "text" (dt) (.put "rows" (dS rows) (.put "many" (dm) (.put "heaps" (dh) .nil))))))))):=by
 have N:=nest_ok (w:=g.w) H2 rows h1 fun r hr=>(h2 r hr).2
 simp only[mapS] at N;have hz:rows.length≤1000000:=le_trans h1 (by decide)
 refine .pure 5 rfl _ (due_ok g.H rows h1 fun r hr=>⟨(h2 r hr).1,le_trans (h2 r hr).2.1 (by decide)⟩) ⟨⟨by decide,by refine rz (length_map ..) <| A4 (le_trans h3 (by decide))⟩,.eq (ds':=rows.map eS) (rz (Cy ..) <| congrArg (List.map eS) e0) (.frz (.det [0] rfl N rfl ?_))⟩
 have hdl:(Ch rows).length≤1000000:=by unfold Ch;refine rz (length_map ..) <| rz (length_range ..) <| hz
 refine LComp.m (f:=.int) (fun h=>eS ((([]:List Nat)::rows).getD (h+1).toNat [])) hdl (fun i h hh=>⟨trivial,.frz ⟨?_,.eq (ds':=(([]:List Nat)::rows).map eS) (by refine rz (D0 ..) ?_;rfl) (.frz ?_)⟩⟩) (.frz ?_)
 ·refine rz (length_map ..) <| A4 (le_trans (add_le_add_left h1 _) (by decide))
 ·obtain⟨g1,g2⟩:=e3 h (List.mem_of_getElem? hh);refine .mk (eS ((([]:List Nat)::rows).getD (h+1).toNat [])) (ai [] [_] Aj (.a Af Ah) (.i 1 As Af .z) 0 rfl g1) (ai [_] [_] (.a (.a Af Ah) Ah) Ak (.c 1 Aa Ar (.i 1 (.a Af Ah) (.c Aa) .z)) 0 rfl h1 g2) ?_ ⟨rfl,rfl⟩;refine rz (List.getElem?_map ..) <| rz (Bc (d:=[]) (by rw[length_cons];omega) ..) ?_;rfl
 have ok:∀ r∈(B8 rows).heads,okT r:=fun r hr=>by
  rw[e1] at hr;obtain⟨h,_,rfl⟩:=List.mem_map.mp hr
  refine rz (List.getD_eq_getElem?_getD ..) ?_;cases e:(([]:List Nat)::rows)[(h+1).toNat]? with
  |none=>exact fun V h=>nomatch h
  |some u =>
   rcases List.mem_cons.mp (List.mem_of_getElem? e) with rfl | hu
   ·exact fun V h=>nomatch h
   ·exact(h2 u hu).2.2
 refine .same _ (.inl rfl) (.inl (by rw[e1,map_map];rfl)) ((Sh.txs ok).le (by decide)) (.mk (fun e=>nomatch e) fun V=>?_)
 exact .same _ (.inl rfl) (.inl (rz (e2 ..) rfl)) ((Sh.txs (e2▸e4)).le (by decide)) (.mk (fun e=>nomatch e) fun V=>one (.mk (by refine rz (show(B8 rows).heads.map eS=(Ch rows).map fun h=>eS ((([]:List Nat)::rows).getD (h+1).toNat []) by rw[e1,map_map];rfl) ?_;rfl) rfl))
noncomputable def Dc(rows:Lz)(ts:Nat):List Int:=rows.map fun r=>indOf (rowW r) ts
theorem Fn.free{prog:Program}{w:World}{K:Frag}{n:Nat}{f:Addr}{B B0:Xs}{ds:Lp}{d0:PyData}(h:Fn prog w K n f B ds fun d B'=>d=d0∧B'=B0):Fn prog w K n f B ds fun d B'=>d=d0∧B'=[]:=fun A c X T s vs R oA hK S hv q=>h A c X T s vs R oA hK S hv fun v d B' s' hp S'=>q v d [] s' ⟨hp.1,rfl⟩ (S'.freeL B')
theorem seg7(g:Pg)(dm dl dt dr dh dn:PyData)(hs:List Nat)(rows:Lz)(h1:rows.length≤100)(h2:∀ r∈rows,r≠[]∧r.length≤100∧okT r)(h3:hs.length=11)
  (size:Nat)(hsz:size=hs.getD 10 0 / 120 % 4+1)(e1:∀ ts:Nat,1≤ts→ts≤5→Dc rows ts=rows.map fun r=>colOf ts r.dropLast)(O:Xs) :
  (R g 1000 lawN []).S ((lawB.drop 14).take 3) (.own O (.put "told" (dn) (.put "heads" (dh) (.put "read" (dr) (.put "lexer" (dl) (.put "text" (dt) (.put "rows" (dS rows) (.put "many" (dm) (.put "heaps" (dN hs) .nil))))))))) (segJ fun V:Unit=>.own O (.put "others" (dI (Dc rows (size+1))) (.put "columns" (dI (Dc rows size)) (.put "told" (dn) (.put "heads" (dh) (.put "read" (dr) (.put "lexer" (dl) (.put "text" (dt) (.put "rows" (dS rows) (.put "many" (dm) (.put "heaps" (dN hs) .nil))))))))))):=by
 have hz:rows.length≤1000000:=le_trans h1 (by decide)
 have hs1:1≤size:=hsz▸succ_le_succ (zero_le _);have hs4:size≤4:=hsz▸mod_lt _ (by decide)
 have hts:∀ {i ts:Nat},[size,size+1][i]?=some ts→1≤ts∧ts≤5:=fun h=>by
  rcases List.mem_cons.mp (List.mem_of_getElem? h) with rfl | h
  ·exact⟨hs1,le_succ_of_le hs4⟩
  ·refine rz (List.mem_singleton.mp h ..) <| ⟨le_succ_of_le hs1,succ_le_succ hs4⟩
 refine LGet.m (f:=fun n:Nat=>.int n) (l:=hs) (k:=10) (Bc (d:=0) (by refine rz (h3 ..) ?_;decide)) (by refine rz (h3 ..) ?_;decide) (LDiv.n (b:=120) (by decide) (by decide) (LMod.n (b:=4) (by decide) (.eq (ds':=[size,size+1].map fun n:Nat=>.int n) (by refine rz (hsz ..) ?_;rfl) (.frz ?_))))
 refine LComp.m (f:=fun n:Nat=>.int n) (l:=[size,size+1]) (fun ts=>dI (Dc rows ts)) (le_of_ble_eq_true rfl) (fun i ts hi=>⟨trivial,?_⟩) (.frz ?_)
 ·obtain⟨t1,t2⟩:=hts hi;refine LComp.m (f:=eS) (l:=rows) (fun r=>.int (indOf (rowW r) ts)) hz (fun j r hr=>⟨trivial,?_⟩) (.frz ⟨by unfold Dc dI;refine rz (map_map ..) ?_;rfl,rfl⟩)
  have hl:r.length≤1000:=le_trans (h2 r (List.mem_of_getElem? hr)).2.1 (by decide)
  obtain⟨b1,b2,b3,b4⟩:=rowW_bd hl;exact .new rfl (mkws g.H hl) fun y dy=>.fn y 178 _ _ rfl rfl (.ws dy _ 0 1 rfl rfl rfl rfl) (.det [0,0] rfl (indent_ok g.H r (rowW r) y dy ts t1 b1 (le_trans t2 (by decide)) b2 b3).free rfl ⟨rfl,rfl⟩)
 refine .frz (.eq (ds':=[size,size+1].map fun n:Nat=>.int n) (by refine rz (hsz ..) ?_;rfl) (.frz ?_))
 refine LComp.m (f:=fun n:Nat=>.int n) (l:=[size,size+1]) (fun ts:Nat=>dI (rows.map fun r=>colOf ts r.dropLast)) (le_of_ble_eq_true rfl) (fun i ts hi=>⟨trivial,?_⟩) (.frz ?_)
 ·obtain⟨t1,t2⟩:=hts hi;refine LComp.m (f:=eS) (l:=rows) (fun r=>.int (colOf ts r.dropLast)) hz (fun j r hr=>⟨trivial,by refine rz (A6 ..) <| le_trans (h2 r (List.mem_of_getElem? hr)).2.1 (by decide),.pure 3 rfl _ (column_ok g.H _ ts (fun e=>by cases Int.ofNat.inj e;cases t1)) ⟨?_,rfl⟩⟩) (.frz ⟨by unfold dI;refine rz (map_map ..) ?_;rfl,rfl⟩)
  refine rz (C1 ..) <| rz (C1 ..) <| rz (Db ..) <| rz (Eq.symm (dropLast_eq_take ..)) rfl
 refine .same [dI (Dc rows size),dI (Dc rows (size+1))] (.inl rfl) (.inl (by refine rz (e1 size hs1 (le_succ_of_le hs4) ..) <| rz (e1 (size+1) (le_succ_of_le hs1) (succ_le_succ hs4) ..) ?_;rfl)) ((Sh.list (n:=2) fun d hd=>?_).le (by decide)) (.mk (fun e=>nomatch e) fun V=>one (.mk rfl rfl))
 rcases List.mem_cons.mp hd with rfl | hd
 ·exact Sh.ints _
 ·refine rz (List.mem_singleton.mp hd ..) <| Sh.ints _
theorem seg8(g:Pg)(dm dr dl dt dh dn dc doth:PyData)(words:Lz)(cols:List Int)(nums:List Int)(h4:words.length≤100)(h5:cols.length≤100)
  (e1:pick words (some 1) none (some 2)=nums.map numT)(e2:nums.length=cols.length)(e3:∀ n∈nums,(numT n).length≤640∧PySem.intText? (tx (numT n))=some n)(O:Xs) :
  (R g 1000 lawN []).S ((lawB.drop 17).take 1) (.own O (.put "others" (doth) (.put "columns" (dI cols) (.put "told" (dn) (.put "heads" (dh) (.put "read" (dS words) (.put "lexer" (dl) (.put "text" (dt) (.put "rows" (dr) (.put "many" (dm) (.put "heaps" (dc) .nil))))))))))) (segJ fun V:Unit=>.own O (.put "numbers" (dI ((nums.zip cols).map fun p=>p.1-p.2)) (.put "others" (doth) (.put "told" (dn) (.put "heads" (dh) (.put "lexer" (dl) (.put "text" (dt) (.put "rows" (dr) (.put "many" (dm) (.put "heaps" (dc) .nil)))))))))):=by
 have hz:nums.length≤1000000:=e2▸le_trans h5 (by decide)
 refine⟨⟨by decide,by refine rz (length_map ..) <| A4 (le_trans h4 (by decide))⟩,.eq (ds':=nums.map fun n=>eS (numT n)) (by refine rz (Cy ..) <| rz (e1 ..) <| rz (map_map ..) ?_;rfl) (.frz ?_)⟩
 refine LComp.z (l:=nums) (b:=cols) (f:=fun n=>eS (numT n)) (g:=.int) (fun p=>.int (p.1-p.2)) hz (fun i p hp=>⟨trivial,?_⟩) (.frz (one (.mk ?_ rfl)))
 ·obtain⟨g1,g2⟩:=e3 p.1 (of_mem_zip (List.mem_of_getElem? hp)).1;exact⟨p.1,⟨g2,by refine rz (A6 ..) <| g1⟩,rfl,rfl⟩
 ·unfold dI;refine rz (map_map ..) ?_;rfl
theorem seg9(g:Pg)(dl dt doth dnums:PyData)(m:Nat)(hs:List Nat)(rows:Lz)(heads:List Int)(h1:rows.length≤100)(h2:∀ r∈rows,r≠[]∧r.length≤100∧okT r)(h3:hs.length=11)(hm:m≤5)(hn:rows.Nodup)
  (e2:heads.length≤100)(e3:∀ (k:Nat) (h:Int),heads[k]?=some h→-1≤h∧h<k)(e4:∀ h∈heads,h<rows.length)(ord:List Nat)(eo:Dp (hs.getD 10 0) m=ord.map fun n:Nat=>(n:Int))(O:Xs) :
  (R g 1000 lawN []).S ((lawB.drop 18).take 2) (.own O (.put "numbers" (dnums) (.put "others" (doth) (.put "told" (.list (heads.map fun h=>eS ((([]:List Nat)::rows).getD (h+1).toNat []))) (.put "heads" (dI heads) (.put "lexer" (dl) (.put "text" (dt) (.put "rows" (dS rows) (.put "many" (.int (m:Nat)) (.put "heaps" (dN hs) .nil)))))))))) (segJ fun V:Unit=>.own O (.put "tied" (dNN (B4 heads)) (.put "order" (dN ord) (.put "numbers" (dnums) (.put "others" (doth) (.put "heads" (dI heads) (.put "lexer" (dl) (.put "text" (dt) (.put "rows" (dS rows) (.put "many" (.int (m:Nat)) .nil)))))))))):=by
 refine LGet.m (f:=fun n:Nat=>.int n) (l:=hs) (k:=10) (Bc (d:=0) (by refine rz (h3 ..) ?_;decide)) (by refine rz (h3 ..) ?_;decide) (.pure 3 rfl (dN ord) (by have F:=order_ok (prog:=g.prog) (w:=g.w) g.H (hs.getD 10 0) m (le_trans hm (by decide));rw[eo,map_map] at F;exact F) ?_)
 refine LComp.m (f:=fun h=>eS ((([]:List Nat)::rows).getD (h+1).toNat [])) (l:=heads) PyData.int (le_trans e2 (by decide)) ?_ (LOwn.frz ?_)
 rotate_left
 ·exact .pure 3 rfl _ (tied_ok g.H heads (le_trans e2 (by decide)) e3) (one (.mk rfl rfl))
 refine fun i h hh=>⟨trivial,?_⟩
 obtain⟨g1,g2⟩:=e3 i h hh;have g4:=e4 h (List.mem_of_getElem? hh);refine LIfE.eq (rz (D0 ..) <| rz (tx_beq ..) rfl) ?_
 by_cases h0:h=-1
 ·subst h0;exact .mk (fun e=>nomatch e) fun V=>⟨rfl,rfl⟩
 ·obtain⟨j,rfl⟩:∃ j:Nat,h=j:=⟨h.toNat,(toNat_of_nonneg (Int.add_one_le_of_lt (Int.lt_iff_le_and_ne.mpr ⟨g1,Ne.symm h0⟩))).symm⟩;have ej:(([]:List Nat)::rows).getD ((j:Int)+1).toNat []=rows.getD j []:=by
   refine rz (show((j:Int)+1).toNat=j+1 by exact(le_antisymm (an [_,_] [] Aa (.a Ab Ad) (.i 1 (.c Aa) (.a (.c Ab) Ah) .z) 0 rfl (Int.le_of_eq (toNat_of_nonneg (ai [_] [] Aj (.a (.c Aa) Ah) .z 0 rfl)))) (an [_,_] [] (.a Aa Ad) Ab (.i 1 (.a (.c Aa) Ah) (.c Ab) .z) 0 rfl (self_le_toNat _)))) ?_;rfl
  have hj:j<rows.length:=by exact(an [_,_] [] (.a Aa Ad) Ab (.i 1 (.a (.c Aa) Ah) (.c Ab) .z) 0 rfl g4)
  refine rz (ej ..) <| .mk (fun V=>.mk (rows.map tx) _ j (mapS rows).symm rfl (getD_rows hj) (Fu hn hj) (rz (length_map ..) <| A4 (le_trans h1 (by decide))) ⟨rfl,rfl⟩) fun e=>?_
  rw[decide_eq_false (h2 _ (C0 hj)).1] at e;cases e
theorem seg10(g:Pg)(dl dt dr dnums doth dtied:PyData)(m:Nat)(heads:List Int)(e2:heads.length≤8)(e3:∀ (k:Nat) (h:Int),heads[k]?=some h→-1≤h∧h<k)
  (tied:Lz)(et:tied=B4 heads)(h1:tied.length≤8)(h3:∀ js∈tied,(∀ j∈js,j<tied.length)∧js.length≤100)(h5:∀ top,top<tied.length→Dg tied (Bs tied.length (A8 tied tied.length).2 top)=[]→1<(Bs tied.length (A8 tied tied.length).2 top).length→endOf tied (Bs tied.length (A8 tied tied.length).2 top)≠[])
  (ord:List Nat)(h6:∀ k∈ord,k<tied.length)(h7:ord.length≤100)(O:Xs) :
  (R g 1000 lawN []).S ((lawB.drop 20).take 2) (.own O (.put "tied" (dtied) (.put "order" (dN ord) (.put "numbers" (dnums) (.put "others" (doth) (.put "heads" (dI heads) (.put "lexer" (dl) (.put "text" (dt) (.put "rows" (dr) (.put "many" (.int (m:Nat)) .nil)))))))))) (segJ fun V:Unit=>.own O (.put "start" (dN (ord.filter (fun k=>decide ((A8 tied tied.length).1.getD k 0 % 2=0))++ord.filter (fun k=>decide ((A8 tied tied.length).1.getD k 0 % 2=1)))) (.put "mirror" (dN (A7 tied tied.length).2) (.put "rounds" (dI (A7 tied tied.length).1) (.put "depths" (dN (A8 tied tied.length).1) (.put "tied" (dtied) (.put "order" (dN ord) (.put "numbers" (dnums) (.put "others" (doth) (.put "heads" (dI heads) (.put "lexer" (dl) (.put "text" (dt) (.put "rows" (dr) (.put "many" (.int (m:Nat)) .nil)))))))))))))):=by
 have tl:=(Fb tied tied.length).1;refine .pure 3 rfl (dNN tied) (et▸tied_ok g.H heads (le_trans e2 (by decide)) e3) (.pure 5 rfl _ (shape_ok g.H tied h1 h3 h5) ?_)
 generalize (A8 tied tied.length).1=dep at tl⊢
 generalize (A7 tied tied.length).1=rou;generalize (A7 tied tied.length).2=mir;have hz:ord.length≤1000000:=le_trans h7 (by decide)
 have hd:∀ {i j:Nat},ord[i]?=some j→dep[j]?=some (dep.getD j 0):=fun h=>Bc (rz (tl ..) <| h6 _ (List.mem_of_getElem? h))
 have hdz:dep.length≤1000000:=tl▸le_trans h1 (by decide)
 have eb:∀ (n:Nat) (b:Nat),((((n % 2:Nat):Int)) == ((b:Nat):Int))=decide (n % 2=b):=fun n b=>by
  refine rz (Bool.beq_eq_decide_eq ..) <| decide_eq_decide.mpr ofNat_inj
 refine LComp.t (f:=fun n:Nat=>.int n) (l:=ord) (fun n:Nat=>.int n) (fun k=>decide (dep.getD k 0 % 2=0)) hz (fun i j hj=>.m (f:=fun n:Nat=>.int n) (hd hj) hdz (LMod.n (b:=2) (by decide) (.eq (eb _ 0) (.mk (fun e=>⟨e,rfl,rfl⟩) fun e=>⟨e,rfl⟩)))) (.frz ?_)
 refine LComp.t (f:=fun n:Nat=>.int n) (l:=ord) (fun n:Nat=>.int n) (fun k=>decide (dep.getD k 0 % 2=1)) hz (fun i j hj=>.m (f:=fun n:Nat=>.int n) (hd hj) hdz (LMod.n (b:=2) (by decide) (.eq (eb _ 1) (.mk (fun e=>⟨e,rfl,rfl⟩) fun e=>⟨e,rfl⟩)))) (.frz ⟨?_,.eq List.map_append.symm (.frz (one (.mk rfl rfl)))⟩)
 refine rz (length_map ..) <| rz (length_map ..) <| A4 (le_trans (add_le_add (length_filter_le _ _) (length_filter_le _ _)) (le_trans (add_le_add h7 h7) (by decide)))
theorem seg11(g:Pg)(H2:KOk2 g.prog g.K)(dt dh doth dd dr dmi:PyData)(m:Nat)(p:LxP)(n:Int)(cs:List Nat)(rows:Lz)(ord start:List Nat)(tied:Lz)(nums:List Int)(zl zp:Gm)(Nl Np:Nat)
  (g1:cs.length≤100000)(g2:okT cs)(g3:(Bb n cs).1∉rows)(g4:okT (Bb n cs).1)(h1:rows.length=nums.length)(h2:∀ r∈rows,r≠[]∧r.length≤100∧okT r)(h3:rows.Nodup)(h4:start.length≤100)(h5:∀ k∈start,k<nums.length)(h4':ord.length≤100)(h5':∀ k∈ord,k<nums.length)
  (h6:tied.length=nums.length)(h7:nums.length≤100)(h8:∀ js∈tied,(∀ j∈js,j<nums.length)∧js.length≤5)(hN:Nl≤200)(hN':Np≤200)(hrl:gRun putQ tied Nl ⟨start,nums,[],[]⟩=some zl)(hrp:gRun putS tied Np ⟨ord.reverse,nums,[],[]⟩=some zp)(O:Xs) :
  (R g 1000 lawN []).S ((lawB.drop 22).take 2) (.own (LxX p n [] cs++O) (.put "start" (dN start) (.put "mirror" (dmi) (.put "rounds" (dr) (.put "depths" (dd) (.put "tied" (dNN tied) (.put "order" (dN ord) (.put "numbers" (dI nums) (.put "others" (doth) (.put "heads" (dh) (.put "lexer" (Rf p.x) (.put "text" (dt) (.put "rows" (dS rows) (.put "many" (.int (m:Nat)) .nil)))))))))))))) (segJ fun V:Unit=>.own (LxX p (Bb n cs).2.2 [] (Bb n cs).2.1++O) (.put "off_pile" (dN zp.met) (.put "by_pile" (.list (zp.tu.map eP)) (.put "pile" (dI zp.l) (.put "last" (.str (tx (Bb n cs).1)) (.put "off_line" (dN zl.met) (.put "by_line" (.list (zl.tu.map eP)) (.put "line" (dI zl.l) (.put "mirror" (dmi) (.put "rounds" (dr) (.put "depths" (dd) (.put "tied" (dNN tied) (.put "numbers" (dI nums) (.put "others" (doth) (.put "heads" (dh) (.put "lexer" (Rf p.x) (.put "text" (dt) (.put "many" (.int (m:Nat)) .nil)))))))))))))))))):=by
 have F:=line_ok (w:=g.w) H2 p n cs rows start tied nums Nl zl g1 g2 g3 g4 h1 h2 h3 h4 h5 h6 h7 h8 hN hrl;have F':=pile_ok (w:=g.w) H2 rows ord tied nums Np zp h1 h2 h3 h4' h5' h6 h7 h8 hN' hrp;rw[mapS] at F F'
 exact .det (m:=9) [0,0,0,0,0,0,0,0,0] rfl F rfl (.pure 6 rfl _ F' (one (.mk rfl rfl)))
theorem count_cast(l:List Nat)(k:Nat):(l.map fun n=>((n:Nat):Int)).count (k:Int)=l.count k:=by
 induction l with
 |nil=>rfl
 |cons a l ih =>
  refine rz (map_cons ..) <| rz (count_cons ..) <| rz (count_cons ..) <| rz (ih ..) ?_
  congr 1
  by_cases h:a=k
  ·subst h;simp
  ·have:¬ (a:Int)=(k:Int):=by omega
   simp[h,this]
theorem seg12(g:Pg)(dt dl dh doth dnums dd dr dmi dp dpl dlast:PyData)(m:Nat)(tied:Lz)(zl zp:Gm)
  (h1:m≤5)(h2:zl.tu.length≤1000)(h2':zp.tu.length≤1000)(h3:tied.length≤1000)
  (e1:((List.range m).map fun k=>((zl.met.count k:Nat):Int))=C9 zl.tu tied)(e2:((List.range m).map fun k=>((zp.met.count k:Nat):Int))=C9 zp.tu tied)(O:Xs) :
  (R g 1000 lawN []).S ((lawB.drop 24).take 2) (.own O (.put "off_pile" (dN zp.met) (.put "by_pile" (.list (zp.tu.map eP)) (.put "pile" (dpl) (.put "last" (dlast) (.put "off_line" (dN zl.met) (.put "by_line" (.list (zl.tu.map eP)) (.put "line" (dp) (.put "mirror" (dmi) (.put "rounds" (dr) (.put "depths" (dd) (.put "tied" (dNN tied) (.put "numbers" (dnums) (.put "others" (doth) (.put "heads" (dh) (.put "lexer" (dl) (.put "text" (dt) (.put "many" (.int (m:Nat)) .nil)))))))))))))))))) (segJ fun V:Unit=>.own O (.put "by_pile" (.list (zp.tu.map eP)) (.put "pile" (dpl) (.put "last" (dlast) (.put "by_line" (.list (zl.tu.map eP)) (.put "line" (dp) (.put "mirror" (dmi) (.put "rounds" (dr) (.put "depths" (dd) (.put "tied" (dNN tied) (.put "numbers" (dnums) (.put "others" (doth) (.put "heads" (dh) (.put "lexer" (dl) (.put "text" (dt) (.put "many" (.int (m:Nat)) .nil)))))))))))))))):=by
 have hm:m≤1000000:=le_trans h1 (by decide)
 refine .frz (LComp.m (f:=dN) (l:=[zl.met,zp.met]) (fun l=>dI ((List.range m).map fun k=>((l.count k:Nat):Int))) (le_of_ble_eq_true rfl) ?_ (.frz ?_))
 ·refine fun i l hl=>⟨trivial,Dj hm,LComp.rg (n:=m) (fun k=>.int ((l.count k:Nat):Int)) hm (fun k hk=>⟨trivial,.n ⟨by exact rz (count_cast ..) rfl,rfl⟩⟩) (.frz ⟨by unfold dI;refine rz (map_map ..) ?_;rfl,rfl⟩)⟩
 refine .frz (LComp.m (f:=dT) (l:=[zl.tu,zp.tu]) (fun tu=>dI (C9 tu tied)) (le_of_ble_eq_true rfl) ?_ (.frz ?_))
 ·refine fun i tu hi=>⟨trivial,.pure 3 rfl _ (visits_ok g.H tu tied ?_ h3) ⟨rfl,rfl⟩⟩
  rcases List.mem_cons.mp (List.mem_of_getElem? hi) with rfl | h
  ·exact h2
  ·refine rz (List.mem_singleton.mp h ..) <| h2'
 refine .same [dI (C9 zl.tu tied),dI (C9 zp.tu tied)] (.inl (by refine rz (Eq.symm (e1 ..)) <| rz (Eq.symm (e2 ..)) ?_;rfl)) (.inl rfl) ((Sh.list (n:=2) fun d hd=>?_).le (by decide)) (.mk (fun e=>nomatch e) fun V=>one (.mk rfl rfl))
 rcases List.mem_cons.mp hd with rfl | hd
 ·exact Sh.ints _
 ·refine rz (List.mem_singleton.mp hd ..) <| Sh.ints _
noncomputable def dueOf(dep:List Nat)(rounds:List Int)(m R:Nat):Lz:=(List.range R).map fun r=>(List.range m).filter fun k=>decide (dep.getD k 0 % 2=r % 2)&&decide ((r:Int)<rounds.getD k 0)
theorem cast_sum(due:Lz):(due.map fun l=>((l.length:Nat):Int)).sum=(((due.map List.length).sum:Nat):Int):=by
 induction due with
 |nil=>rfl
 |cons l d ih=>simp only[map_cons,sum_cons,ih];simp
theorem seg13(g:Pg)(dt dh dl doth dmi dnums dtied dp dpl dlast bp:PyData)(m:Nat)(dep:List Nat)(rounds:List Int)(tu:List (Nat × Int))(R0:Nat)
  (h1:m≤5)(h2:dep.length=m)(h3:rounds.length=m)(h4:m≠0)(h5:IsMax (R0:Int) rounds)(hR:R0≤100)(h6:tu.length<64)(e1:((dueOf dep rounds m R0).map List.length).sum=tu.length)(e2:cutOf tu ((dueOf dep rounds m R0).map List.length) 0=(dueOf dep rounds m R0).map fun l=>l.map fun n=>((n:Nat):Int))(O:Xs) :
  (R g 1000 lawN []).S ((lawB.drop 26).take 2) (.own O (.put "by_pile" (bp) (.put "pile" (dpl) (.put "last" (dlast) (.put "by_line" (.list (tu.map eP)) (.put "line" (dp) (.put "mirror" (dmi) (.put "rounds" (dI rounds) (.put "depths" (dN dep) (.put "tied" (dtied) (.put "numbers" (dnums) (.put "others" (doth) (.put "heads" (dh) (.put "lexer" (dl) (.put "text" (dt) (.put "many" (.int (m:Nat)) .nil)))))))))))))))) (segJ fun V:Unit=>.own O (.put "by_pile" (bp) (.put "pile" (dpl) (.put "last" (dlast) (.put "by_line" (.list (tu.map eP)) (.put "line" (dp) (.put "mirror" (dmi) (.put "tied" (dtied) (.put "numbers" (dnums) (.put "others" (doth) (.put "heads" (dh) (.put "lexer" (dl) (.put "text" (dt) (.put "many" (.int (m:Nat)) .nil)))))))))))))):=by
 have hm:m≤1000000:=le_trans h1 (by decide)
 have hRz:R0≤1000000:=le_trans hR (by decide)
 have eb:∀ a b:Nat,((((a % 2:Nat):Int)) == ((b % 2:Nat):Int))=decide (a % 2=b % 2):=fun a b=>by
  refine rz (Bool.beq_eq_decide_eq ..) <| decide_eq_decide.mpr ofNat_inj
 refine .i ⟨fun q=>h4 (by refine rz (Eq.symm (h3 ..)) <| rz (q ..) ?_;rfl),fun mx hx=>?_⟩
 obtain rfl:mx=R0:=Int.le_antisymm (h5.2 _ hx.1) (hx.2 _ h5.1);refine⟨Dj hRz,LComp.rg (n:=R0) (fun r=>dN ((List.range m).filter fun k=>decide (dep.getD k 0 % 2=r % 2)&&decide ((r:Int)<rounds.getD k 0))) hRz (fun r hr=>⟨trivial,Dj hm,LComp.rt (n:=m) (fun n:Nat=>.int n) (fun k=>decide (dep.getD k 0 % 2=r % 2)&&decide ((r:Int)<rounds.getD k 0)) hm (fun k hk=>?_) (.frz ⟨rfl,rfl⟩)⟩) (.frz ?_)⟩
 ·refine LGet.m (f:=fun n:Nat=>.int n) (Bc (d:=0) (h2.symm▸hk)) (h2.symm▸hm) (LMod.n (b:=2) (by decide) (LMod.n (b:=2) (by decide) (.eq (eb _ _) (.d (fun e=>?_) fun e=>.mk (fun e=>nomatch e) fun V=>⟨by refine rz (decide_eq_false e ..) ?_;rfl,rfl⟩))))
  exact LGet.m (f:=.int) (Bc (d:=0) (h3.symm▸hk)) (h3.symm▸hm) (.mk (fun e2=>⟨by refine rz (decide_eq_true e ..) <| e2,rfl,rfl⟩) fun e2=>⟨by refine rz (decide_eq_true e ..) <| e2,rfl⟩)
 have hdl:(dueOf dep rounds m R0).length=R0:=by unfold dueOf;refine rz (length_map ..) <| rz (length_range ..) rfl
 have hdb:∀ l∈dueOf dep rounds m R0,l.length≤1000000:=by
  intro l hl;obtain⟨r,_,rfl⟩:=List.mem_map.mp hl;have:=length_filter_le (fun k=>decide (dep.getD k 0 % 2=r % 2)&&decide ((r:Int)<rounds.getD k 0)) (List.range m)
  rw[length_range] at this;exact le_trans this hm
 refine rz (show List.map (fun r=>dN ((List.range m).filter fun k=>decide (dep.getD k 0 % 2=r % 2)&&decide ((r:Int)<rounds.getD k 0))) (List.range R0)=(dueOf dep rounds m R0).map dN by unfold dueOf;rw[map_map];rfl) ?_
 generalize dueOf dep rounds m R0=due at e1 e2 hdl hdb
 have hdz:due.length≤1000000:=hdl▸hRz;refine LComp.m (f:=dN) (l:=due) (fun l=>.int (l.length:Nat)) hdz (fun i l hl=>⟨trivial,by refine rz (length_map ..) <| len63 (hdb l (List.mem_of_getElem? hl)),by exact rz (length_map ..) rfl,rfl⟩) (.frz ?_)
 have F:=cut_ok (prog:=g.prog) (w:=g.w) g.H tu (due.map List.length) h6 (le_of_eq e1) (rz (length_map ..) <| rz (hdl ..) <| le_trans hR (by decide))
 unfold dN at F;rw[map_map] at F
 refine .pure 3 rfl _ F ?_;refine .same (due.map dN) (.inl (rz (e2 ..) <| rz (map_map ..) <| congrArg _ (map_congr_left fun l V=>by simp[dI,dN,map_map,Function.comp_def]))) (.inl rfl) ((Sh.list (n:=2) fun d hd=>?_).le (by decide)) (.mk (fun e=>nomatch e) fun V=>⟨by refine rz (length_map ..) <| len63 (le_trans (le_of_lt h6) (by decide)),?_⟩)
 ·obtain⟨l,_,rfl⟩:=List.mem_map.mp hd;refine rz (show dN l=dI (l.map fun n:Nat=>(n:Int)) by unfold dN dI;rw[map_map];rfl) <| Sh.ints _
 refine LComp.m (f:=dN) (l:=due) (fun l=>.int (l.length:Nat)) hdz (fun i l hl=>⟨trivial,by refine rz (length_map ..) <| len63 (hdb l (List.mem_of_getElem? hl)),by exact rz (length_map ..) rfl,rfl⟩) (.frz (.m (fun l:List Nat=>((l.length:Nat):Int)) (LIfS.eq (z':=false) ?_ (.mk (fun e=>nomatch e) fun V=>one (.mk rfl rfl)))))
 refine rz (cast_sum ..) <| rz (e1 ..) <| rz (length_map ..) <| bne_self_eq_false _
theorem Sh.two{a b:List Int}:Sh 60 (.list [dI a,dI b]):=(Sh.list (n:=2) fun d hd=>by
 rcases List.mem_cons.mp hd with rfl | hd
 ·exact Sh.ints _
 ·refine rz (List.mem_singleton.mp hd ..) <| Sh.ints _).le (by decide)
theorem seg14(g:Pg)(dt dh dl doth dtied dlast bl bp:PyData)(m:Nat)(nums line pile:List Int)(mir:List Nat)
  (h1:m≤5)(h2:nums.length=m)(h3:mir.length=m)(h4:∀ k∈mir,k<m)(e1:line=mir.map fun k=>- nums.getD k 0)(e2:pile=mir.map fun k=>- nums.getD k 0)(O:Xs) :
  (R g 1000 lawN []).S ((lawB.drop 28).take 1) (.own O (.put "by_pile" (bp) (.put "pile" (dI pile) (.put "last" (dlast) (.put "by_line" (bl) (.put "line" (dI line) (.put "mirror" (dN mir) (.put "tied" (dtied) (.put "numbers" (dI nums) (.put "others" (doth) (.put "heads" (dh) (.put "lexer" (dl) (.put "text" (dt) (.put "many" (.int (m:Nat)) .nil)))))))))))))) (segJ fun V:Unit=>.own O (.put "by_pile" (bp) (.put "last" (dlast) (.put "by_line" (bl) (.put "mirror" (dN mir) (.put "tied" (dtied) (.put "numbers" (dI nums) (.put "others" (doth) (.put "heads" (dh) (.put "lexer" (dl) (.put "text" (dt) (.put "many" (.int (m:Nat)) .nil)))))))))))):=by
 have hm:m≤1000000:=le_trans h1 (by decide)
 refine .frz (LComp.m (f:=fun n:Nat=>.int n) (l:=mir) (fun k=>.int (- nums.getD k 0)) (h3.symm▸hm) ?_ (.frz (.frz ⟨⟨by decide,by decide,le_of_ble_eq_true rfl⟩,.frz ?_⟩)))
 ·exact fun i k hk=>⟨trivial,LGet.m (f:=.int) (Bc (d:=0) (h2.symm▸h4 k (List.mem_of_getElem? hk))) (h2.symm▸hm) ⟨rfl,rfl⟩⟩
 ·exact .same [dI line,dI pile] (.inl rfl) (.inl (by refine rz (e1 ..) <| rz (e2 ..) ?_;unfold dI;refine rz (map_map ..) ?_;rfl)) Sh.two (.mk (fun e=>nomatch e) fun V=>one (.mk rfl rfl))
theorem seg15(g:Pg)(dt dl doth dtied dlast dmi:PyData)(m:Nat)(heads nums sums:List Int)(tl tp:List (Nat × Int))(tied:Lz)(et:tied=B4 heads)(hh1:heads.length≤8)(hh2:∀ (k:Nat) (h:Int),heads[k]?=some h→-1≤h∧h<k)
  (h1:nums.length≤8)(h2:tied.length=nums.length)(h3:∀ t∈tied,t.length≤1000)(hnb:∀ n∈nums,n.natAbs<18446744073709551616)(h64:((sfold tied nums.zipIdx).filter fun p=>decide (p.2.1=1)).length<64)(es:sums=sumsOf tied nums)
  (h4:tl.length<64)(h5:tp.length<64)(e1:isort (tl.map (·.2))=sums)(e2:isort (tp.map (·.2))=sums)(O:Xs) :
  (R g 1000 lawN []).S ((lawB.drop 29).take 2) (.own O (.put "by_pile" (.list (tp.map eP)) (.put "last" (dlast) (.put "by_line" (.list (tl.map eP)) (.put "mirror" (dmi) (.put "tied" (dtied) (.put "numbers" (dI nums) (.put "others" (doth) (.put "heads" (dI heads) (.put "lexer" (dl) (.put "text" (dt) (.put "many" (.int (m:Nat)) .nil)))))))))))) (segJ fun V:Unit=>.own O (.put "by_pile" (.list (tp.map eP)) (.put "last" (dlast) (.put "mirror" (dmi) (.put "tied" (dtied) (.put "others" (doth) (.put "lexer" (dl) (.put "text" (dt) (.put "many" (.int (m:Nat)) .nil))))))))):=by
 refine .pure 3 rfl (dNN tied) (et▸tied_ok g.H heads (le_trans hh1 (by decide)) hh2) (.pure 3 rfl (dI sums) (es▸sums_ok g.H tied nums h1 h2 h3 hnb h64) (.frz (LComp.m (f:=dT) (l:=[tl,tp]) (fun tu=>dI (isort (tu.map (·.2)))) (le_of_ble_eq_true rfl) ?_ (.frz (.frz ?_)))))
 ·intro i tu hi;have htu:tu.length<64:=by
   rcases List.mem_cons.mp (List.mem_of_getElem? hi) with rfl | h
   ·exact h4
   ·refine rz (List.mem_singleton.mp h ..) <| h5
  exact⟨trivial,LComp.m (f:=eP) (l:=tu) (fun p=>.int p.2) (le_trans (le_of_lt htu) (by decide)) (fun i p hp=>⟨trivial,rfl,rfl⟩) (.frz (.m (fun p:Nat × Int=>p.2) ⟨by refine rz (length_map ..) <| htu,.frz ⟨rfl,rfl⟩⟩))⟩
 ·exact .same [dI sums,dI sums] (.inl (by show PyData.list [dI (isort (tl.map (·.2))),dI (isort (tp.map (·.2)))]=_;refine rz (e1 ..) <| rz (e2 ..) rfl)) (.inl rfl) Sh.two (.mk (fun e=>nomatch e) fun V=>one (.mk rfl rfl))
theorem seg16(g:Pg)(dt dl dlast:PyData)(m:Nat)(oths:List Int)(tp:List (Nat × Int))(tied:Lz)(mir:List Nat)
  (h1:tp.length≤1000)(h2:tied.length=oths.length)(h3:oths.length≤1000)(h4:∀ p∈tp,p.1<oths.length)(h5:∀ js∈tied,(∀ j∈js,j<oths.length)∧js.length≤1000)(h6:∀ k∈mir,k<oths.length)(h7:mir.length≤100)(e1:ledOf tied tp oths=mir.map fun k=>- oths.getD k 0)(O:Xs) :
  (R g 1000 lawN []).S ((lawB.drop 31).take 1) (.own O (.put "by_pile" (.list (tp.map eP)) (.put "last" (dlast) (.put "mirror" (dN mir) (.put "tied" (dNN tied) (.put "others" (dI oths) (.put "lexer" (dl) (.put "text" (dt) (.put "many" (.int (m:Nat)) .nil))))))))) (segJ fun V:Unit=>.own O (.put "last" (dlast) (.put "lexer" (dl) (.put "text" (dt) .nil)))):=by
 refine .pure 3 rfl _ (led_ok g.H tp tied oths h1 h2 h3 h4 h5) (LComp.m (f:=fun n:Nat=>.int n) (l:=mir) (fun k=>.int (- oths.getD k 0)) (le_trans h7 (by decide)) ?_ (.frz ?_))
 ·exact fun i k hk=>⟨trivial,LGet.m (f:=.int) (Bc (d:=0) (h6 k (List.mem_of_getElem? hk))) (le_trans h3 (by decide)) ⟨rfl,rfl⟩⟩
 ·exact .same ((ledOf tied tp oths).map .int) (.inl rfl) (.inl (by refine rz (e1 ..) <| rz (map_map ..) ?_;rfl)) ((Sh.ints _).le (by decide)) (.mk (fun e=>nomatch e) fun V=>one (.mk rfl rfl))
theorem seg17(g:Pg)(p:LxP)(n:Int)(txt:List Nat)(r:Array Value)(e1:n=1+(Txt.count (tx txt) (Str.ofString "\n"))) :
  (R g 1000 lawN []).S (lawB.drop 32) (.own (LxX p n [] []++[(215,Tab r),(70,TabK)]) (.put "last" (.str (tx [46])) (.put "lexer" (Rf p.x) (.put "text" (.str (tx txt)) .nil)))) (fnJ fun d B'=>d=.bool true∧∃ r,B'=[(70,TabK),(215,Tab r)]):=by
 refine .eq (z':=true) (by decide +kernel) (.mk (fun V=>?_) fun e=>nomatch e)
 refine .fn0 p.x 133 rfl rfl (.net p.dx _ 0 1 rfl rfl rfl rfl) (.det [0,0,0,0,0,0,0,0,0] rfl (E3 g.H p n [] (zero_le _) (fun V h=>nomatch h)) rfl (.eq (z':=true) (by refine rz (D0 ..) <| rz (tx_beq ..) ?_;rfl) (.mk (fun V=>?_) fun e=>nomatch e)))
 refine .net p.x p.dx _ 0 1 _ rfl rfl rfl rfl rfl (.mk (.det [10,9] ⟨?_,r,rfl⟩ rfl));refine rz (e1 ..) <| congrArg _ (beq_self_eq_true _)
structure Ties(tied:Lz)(m:Nat):Prop where
 len:tied.length=m
 nd:∀ k,(tied.getD k []).Nodup
 lt:∀ k,∀ j∈tied.getD k [],j<m
 irr:∀ k,k∉tied.getD k []
 sym:∀ j k,j∈tied.getD k []→k∈tied.getD j []
theorem getD_ge{l:List Int}{i:Nat}(h:l.length≤i):l.getD i 0=0:=by
 refine rz (List.getD_eq_getElem?_getD ..) <| rz (List.getElem?_eq_none h ..) ?_;rfl
theorem getD_set{l:List Int}{i j:Nat}{v:Int}(h:j<l.length):(l.set j v).getD i 0=if i=j then v else l.getD i 0:=by
 refine rz (List.getD_eq_getElem?_getD ..) <| rz (List.getElem?_set ..) ?_
 by_cases e:i=j
 ·subst e;simp[h]
 ·refine rz (if_neg (fun q=>e q.symm) ..) <| rz (if_neg e ..) <| rz (List.getD_eq_getElem?_getD ..) rfl
theorem foldJ_get(k:Nat):∀ (js:List Nat) (l:List Int),js.Nodup→(∀ j∈js,j<l.length)→k∉js→∀ i,(js.foldl (stepJ k) l).getD i 0=if i∈js then l.getD i 0+l.getD k 0 else l.getD i 0:=by
 intro js
 induction js with
 |nil=>intro l _ _ _ i;simp
 |cons j js ih =>
  intro l hn hl hk i;rw[nodup_cons] at hn;have hj:=hl j (.head _)
  have hkj:k≠j:=fun e=>hk (e▸.head _)
  refine rz (foldl_cons ..) <| rz (ih _ hn.2 (fun x hx=>by rw[stepJ_len];exact hl x (.tail _ hx)) (fun q=>hk (.tail _ q)) i ..) ?_
  have hi:(stepJ k l j).getD i 0=if i=j then l.getD j 0+l.getD k 0 else l.getD i 0:=getD_set hj
  have hk':(stepJ k l j).getD k 0=l.getD k 0:=by
   unfold stepJ;refine rz (getD_set hj ..) <| rz (if_neg hkj ..) rfl
  refine rz (hi ..) <| rz (hk' ..) ?_
  by_cases e:i=j
  ·subst e;simp[hn.1]
  ·simp[e]
theorem Bk{tied:Lz}{m:Nat}(G:Ties tied m){l:List Int}(hl:l.length=m){k:Nat}(hk:k<m)(i:Nat) :
  (A9 tied l k).getD i 0=if i=k then-l.getD k 0 else if i∈tied.getD k [] then l.getD i 0+l.getD k 0 else l.getD i 0:=by
 have hf:=foldJ_get k (tied.getD k []) l (G.nd k) (fun j hj=>by refine rz (hl ..) <| G.lt k j hj) (G.irr k)
 unfold A9;refine rz (getD_set (by rw[C7];exact(le_trans hk (le_of_eq hl.symm))) ..) <| rz (hf k ..) <| rz (if_neg (G.irr k) ..) <| rz (hf i ..) rfl
theorem list_ext{a b:List Int}(hl:a.length=b.length)(h:∀ i,a.getD i 0=b.getD i 0):a=b:=by
 refine List.ext_getElem hl fun i h1 h2=>?_
 have:=h i;rw[List.getD_eq_getElem?_getD,List.getD_eq_getElem?_getD,List.getElem?_eq_getElem h1,List.getElem?_eq_getElem h2] at this;exact this
theorem turn_comm{tied:Lz}{m:Nat}(G:Ties tied m){l:List Int}(hl:l.length=m){j k:Nat}(hj:j<m)(hk:k<m)(ne:j≠k)(na:j∉tied.getD k []) :
  A9 tied (A9 tied l j) k=A9 tied (A9 tied l k) j:=by
 have na':k∉tied.getD j []:=fun h=>na (G.sym _ _ h)
 refine list_ext (by simp only[Cf]) fun i=>?_
 simp only[Bk G (rz (Cf ..) <| hl:(A9 tied l j).length=m) hk,Bk G (rz (Cf ..) <| hl:(A9 tied l k).length=m) hj,Bk G hl hj,Bk G hl hk,if_neg ne,if_neg ne.symm,if_neg na,if_neg na']
 by_cases e1:i=k
 ·subst e1;simp only[if_true,if_false,ne.symm,na']
 ·by_cases e2:i=j
  ·subst e2;simp only[if_true,if_false,ne,na,e1]
  ·by_cases e3:i∈tied.getD k []<;>by_cases e4:i∈tied.getD j []<;>simp only[e1,e2,e3,e4,if_true,if_false]<;>exact(Int.le_antisymm (ai [] [_,_,_] (.a (.a Af Ai) Aw) (.a (.a Af Aw) Ai) .z 0 rfl) (ai [] [_,_,_] (.a (.a Af Ai) Aw) (.a (.a Af Aw) Ai) .z 0 rfl))
set_option tactic.hygienic true in
theorem turn_braid{tied:Lz}{m:Nat}(G:Ties tied m){l:List Int}(hl:l.length=m){j k:Nat}(hj:j<m)(hk:k<m)(ne:j≠k)(ad:j∈tied.getD k []) :
  A9 tied (A9 tied (A9 tied l j) k) j=A9 tied (A9 tied (A9 tied l k) j) k:=by
 have ad':k∈tied.getD j []:=G.sym _ _ ad;have L:∀ (x:List Int) (y:Nat),x.length=m→(A9 tied x y).length=m:=fun x y h=>by refine rz (Cf ..) <| h
 refine list_ext (by simp only[Cf]) fun i=>?_
 refine rz (Bk G (L _ k (L _ j hl)) hj ..) <| rz (Bk G (L _ j (L _ k hl)) hk ..) ?_
 simp only[Bk G (L _ j hl) hk,Bk G (L _ k hl) hj,Bk G hl hj,Bk G hl hk,if_neg ne,if_neg ne.symm,if_pos ad,if_pos ad']
 by_cases e1:i=k
 ·subst e1;simp only[if_true,if_false,ne.symm,ad'];try exact(Int.le_antisymm (ai [] [_,_] (.a (.g (.a Af Ai)) (.a (.g Ai) (.a Af Ai))) (.g (.a (.g Af) (.a Ai Af))) .z 0 rfl) (ai [] [_,_] (.g (.a (.g Af) (.a Ai Af))) (.a (.g (.a Af Ai)) (.a (.g Ai) (.a Af Ai))) .z 0 rfl))
 ·by_cases e2:i=j
  ·subst e2;simp only[if_true,if_false,ne,ad,e1];try exact(Int.le_antisymm (ai [] [_,_] (.g (.a (.g Af) (.a Ai Af))) (.a (.g (.a Af Ai)) (.a (.g Ai) (.a Af Ai))) .z 0 rfl) (ai [] [_,_] (.a (.g (.a Af Ai)) (.a (.g Ai) (.a Af Ai))) (.g (.a (.g Af) (.a Ai Af))) .z 0 rfl))
  ·by_cases e3:i∈tied.getD k []<;>by_cases e4:i∈tied.getD j []<;>simp only[e1,e2,e3,e4,if_true,if_false]<;>(first | exact(Int.le_antisymm (ai [] [_,_,_] (.a (.a (.a Af Ai) (.a Aw Ai)) (.a (.g Ai) (.a Aw Ai))) (.a (.a (.a Af Aw) (.a Ai Aw)) (.a (.g Aw) (.a Ai Aw))) .z 0 rfl) (ai [] [_,_,_] (.a (.a (.a Af Ai) (.a Aw Ai)) (.a (.g Ai) (.a Aw Ai))) (.a (.a (.a Af Aw) (.a Ai Aw)) (.a (.g Aw) (.a Ai Aw))) .z 0 rfl)) | exact(Int.le_antisymm (ai [] [_,_,_] (.a Af (.a Ai Aw)) (.a (.a Af Ai) (.a (.g Ai) (.a Aw Ai))) .z 0 rfl) (ai [] [_,_,_] (.a (.a Af Ai) (.a (.g Ai) (.a Aw Ai))) (.a Af (.a Ai Aw)) .z 0 rfl)) | exact(Int.le_antisymm (ai [] [_,_,_] (.a (.a Af Ai) (.a (.g Ai) (.a Aw Ai))) (.a Af (.a Ai Aw)) .z 0 rfl) (ai [] [_,_,_] (.a Af (.a Ai Aw)) (.a (.a Af Ai) (.a (.g Ai) (.a Aw Ai))) .z 0 rfl)))
inductive Play(tied:Lz)(m:Nat):List Int→List Int→List Int→List Int→List Int→Prop
 |done {l o}:(∀ k,k<m→0≤l.getD k 0)→Play tied m l o l o []
 |turn {l o l' o' M} (k:Nat):k<m→l.getD k 0<0→Play tied m (A9 tied l k) (A9 tied o k) l' o' M→Play tied m l o l' o' (l.getD k 0::M)
set_option tactic.hygienic true in
theorem play_any{tied:Lz}{m:Nat}(G:Ties tied m):∀ (n:Nat) {l o l' o' M:List Int},M.length=n→l.length=m→o.length=m→Play tied m l o l' o' M→∀ k,k<m→l.getD k 0<0→∃ M',Play tied m (A9 tied l k) (A9 tied o k) l' o' M'∧(l.getD k 0::M').Perm M:=by
 intro n
 induction n using Nat.strongRecOn with
 |ind n ih =>
  intro l o l' o' M hM hl ho P k hk hneg;have L:∀ (x:List Int) (y:Nat),x.length=m→(A9 tied x y).length=m:=fun x y h=>by refine rz (Cf ..) <| h
  cases P with
  |done h=>have:=h k hk;exact(not_succ_le_zero 0 (not_succ_le_zero 0 (an [] [_] Ad Al (.i 1 (.a Af Ah) Aj (.i 1 Aj Af .z)) 0 rfl hneg this)).elim).elim
  |turn j hj hjn R =>
   rename_i M1
   rw[length_cons] at hM
   by_cases e:j=k
   ·subst e;exact⟨M1,R,.refl _⟩
   ·by_cases ad:j∈tied.getD k []
    ·have ad':k∈tied.getD j []:=G.sym _ _ ad;have hv1:(A9 tied l j).getD k 0=l.getD k 0+l.getD j 0:=by refine rz (Bk G hl hj ..) <| rz (if_neg (fun q=>e q.symm) ..) <| rz (if_pos ad' ..) rfl
     obtain⟨M2,R2,p2⟩:=ih M1.length (le_of_eq hM) rfl (L _ j hl) (L _ j ho) R k hk (rz (hv1 ..) <| (ai [] [_,_] (.a (.a Af Ai) Ah) Aj (.i 1 (.a Af Ah) Aj (.i 1 (.a Ai Ah) Aj .z)) 0 rfl hneg hjn))
     have hl2:=p2.length_eq;rw[length_cons] at hl2;have hv2:(A9 tied (A9 tied l j) k).getD j 0=l.getD k 0:=by
      refine rz (Bk G (L _ j hl) hk ..) <| rz (if_neg e ..) <| rz (if_pos ad ..) <| rz (hv1 ..) <| rz (Bk G hl hj ..) <| rz (if_pos rfl ..) <| (Int.le_antisymm (ai [] [_,_] (.a (.g Af) (.a Ai Af)) Ai .z 0 rfl) (ai [] [_,_] Af (.a (.g Ai) (.a Af Ai)) .z 0 rfl))
     obtain⟨M3,R3,p3⟩:=ih M2.length (ar [_,_,_] (.a Ag Ad) Ab (.c 1 (.a Aa Ad) Ab (.c 1 (.a Ag Ad) Aa .z)) 0 rfl (le_of_eq hM) (le_of_eq hl2)) rfl (L _ k (L _ j hl)) (L _ k (L _ j ho)) R2 j hj (rz (hv2 ..) <| hneg)
     rw[turn_braid G hl hj hk e ad,turn_braid G ho hj hk e ad] at R3;have hw1:(A9 tied l k).getD j 0=l.getD j 0+l.getD k 0:=by refine rz (Bk G hl hk ..) <| rz (if_neg e ..) <| rz (if_pos ad ..) rfl
     have hw2:(A9 tied (A9 tied l k) j).getD k 0=l.getD j 0:=by
      refine rz (Bk G (L _ k hl) hj ..) <| rz (if_neg (fun q=>e q.symm) ..) <| rz (if_pos ad' ..) <| rz (hw1 ..) <| rz (Bk G hl hk ..) <| rz (if_pos rfl ..) <| (Int.le_antisymm (ai [] [_,_] (.a (.g Af) (.a Ai Af)) Ai .z 0 rfl) (ai [] [_,_] Af (.a (.g Ai) (.a Af Ai)) .z 0 rfl))
     have Q2:=Play.turn (l:=A9 tied (A9 tied l k) j) k hk (rz (hw2 ..) <| hjn) R3
     have Q1:=Play.turn (l:=A9 tied l k) j hj (rz (hw1 ..) <| (ai [] [_,_] (.a (.a Ai Af) Ah) Aj (.i 1 (.a Af Ah) Aj (.i 1 (.a Ai Ah) Aj .z)) 0 rfl hneg hjn)) Q2
     rw[hw1,hw2] at Q1;refine⟨_,Q1,?_⟩
     rw[hv1] at p2;rw[hv2] at p3
     have q1:(l.getD j 0::(l.getD k 0+l.getD j 0)::l.getD k 0::M3).Perm (l.getD j 0::M1):=(((p3.cons _).trans p2).cons _);refine List.Perm.trans ?_ q1;refine rz (add_comm (l.getD j 0) (l.getD k 0) ..) <| (List.Perm.swap _ _ _).trans (((List.Perm.swap _ _ _).cons _).trans (List.Perm.swap _ _ _))
    ·have na':k∉tied.getD j []:=fun h=>ad (G.sym _ _ h)
     have hv1:(A9 tied l j).getD k 0=l.getD k 0:=by refine rz (Bk G hl hj ..) <| rz (if_neg (fun q=>e q.symm) ..) <| rz (if_neg na' ..) rfl
     obtain⟨M2,R2,p2⟩:=ih M1.length (le_of_eq hM) rfl (L _ j hl) (L _ j ho) R k hk (rz (hv1 ..) <| hneg)
     rw[turn_comm G hl hj hk e ad,turn_comm G ho hj hk e ad] at R2;have hw1:(A9 tied l k).getD j 0=l.getD j 0:=by refine rz (Bk G hl hk ..) <| rz (if_neg e ..) <| rz (if_neg ad ..) rfl
     have Q1:=Play.turn (l:=A9 tied l k) j hj (rz (hw1 ..) <| hjn) R2
     rw[hw1] at Q1;rw[hv1] at p2
     exact⟨_,Q1,(List.Perm.swap _ _ _).trans (p2.cons _)⟩
theorem Di{tied:Lz}{m:Nat}{l:List Int}(h:l.length=m)(k:Nat):(A9 tied l k).length=m:=by refine rz (Cf ..) <| h
theorem count_nd{a:Nat}:∀ {l:List Nat},l.Nodup→l.count a=if a∈l then 1 else 0:=by
 intro l h
 by_cases q:a∈l
 ·refine rz (if_pos q ..) <| le_antisymm (List.nodup_iff_count.mp h a) (List.count_pos_iff.mpr q)
 ·refine rz (if_neg q ..) <| List.count_eq_zero_of_not_mem q
theorem run_play{put:List Nat→List Nat→List Nat}(hp:∀ a b,(put a b).Perm (a++b)){tied:Lz}{m:Nat}(G:Ties tied m)(h5:∀ k,(tied.getD k []).length≤5) :
  ∀ (N:Nat) {q:List Nat}{l:List Int}(tu:List (Nat × Int)) (met:List Nat) {o l' o' M:List Int},l.length=m→o.length=m→(∀ k∈q,k<m)→(∀ k,k<m→l.getD k 0<0→k∈q)→Play tied m l o l' o' M→q.length+5*M.length≤N →
  ∃ z' tu1 met1,gRun put tied N ⟨q,l,tu,met⟩=some z'∧z'.l=l'∧z'.tu=tu++tu1∧z'.met=met++met1∧(tu1.map (·.2)).Perm M∧ledOf tied tu1 o=o'∧(∀ p∈tu1,p.1<m)∧∀ i,met1.count i=q.count i+(tu1.filter fun p=>decide (i∈tied.getD p.1 [])).length:=by
 intro N
 induction N with
 |zero =>
  intro q l tu met o l' o' M hl ho hq hn P hN;obtain rfl:q=[]:=List.length_eq_zero_iff.mp (le_antisymm (ar [_,_] Aa Al (.c 1 (.a Aa (.m 5 Ab)) Al .z) 0 rfl hN) (zero_le _));cases P with
  |done h=>exact⟨_,[],[],Dd rfl,rfl,by simp,by simp,.refl _,rfl,by simp,by simp⟩
  |turn k hk hkn R=>exact nomatch hn k hk hkn
 |succ N ih =>
  intro q l tu met o l' o' M hl ho hq hn P hN;cases q with
  |nil =>
   cases P with
   |done h=>exact⟨_,[],[],Dd rfl,rfl,by simp,by simp,.refl _,rfl,by simp,by simp⟩
   |turn k hk hkn R=>exact nomatch hn k hk hkn
  |cons k q =>
   rw[length_cons] at hN;have hk:=hq k (.head _)
   have hrun:gRun put tied (N+1) ⟨k::q,l,tu,met⟩=gRun put tied N (gStep put tied ⟨k::q,l,tu,met⟩ k q):=by
    conv=>lhs;unfold gRun
   refine rz (hrun ..) ?_;unfold gStep;dsimp only
   by_cases hneg:l.getD k 0<0
   ·obtain⟨M',R,pm⟩:=play_any G M.length rfl hl ho P k hk hneg;have hlen:=pm.length_eq;rw[length_cons] at hlen;have e1:tret tied l k=tied.getD k []:=if_pos hneg
    have e2:tlst tied l k=A9 tied l k:=if_pos hneg;have e3:ttur l tu k=tu++[(k,l.getD k 0)]:=if_pos hneg;refine rz (e1 ..) <| rz (e2 ..) <| rz (e3 ..) ?_
    have hpm:=hp (tied.getD k []) q;obtain⟨z',tu1,met1,r1,r2,r3,r4,r5,r6,r7,r8⟩:=ih (q:=put (tied.getD k []) q) (tu++[(k,l.getD k 0)]) (met++[k]) (Di hl k) (Di ho k)
     (fun j hj=>by
      rcases List.mem_append.mp (hpm.mem_iff.mp hj) with h | h
      ·exact G.lt _ _ h
      ·exact hq j (.tail _ h))
     (fun j hj hjn=>by
      refine hpm.mem_iff.mpr (List.mem_append.mpr ?_);rw[Bk G hl hk] at hjn
      by_cases a:j=k
      ·rw[if_pos a] at hjn;exact(not_succ_le_zero 0 (not_succ_le_zero 0 (an [] [_] Ad Al (.i 1 (.a Af Ah) Aj (.i 1 (.a (.g Af) Ah) Aj .z)) 0 rfl hneg hjn)).elim).elim
      ·rw[if_neg a] at hjn
       by_cases b:j∈tied.getD k []
       ·exact .inl b
       ·rw[if_neg b] at hjn;rcases List.mem_cons.mp (hn j hj hjn) with c | c
        ·exact absurd c a
        ·exact .inr c)
     R (by have:=hpm.length_eq;have:=h5 k;rw[length_append] at *;exact(ar [_,_,_,_,_,_] (.a (.v 4) (.m 5 An)) Ag (.c 1 (.a (.a Aa Ad) (.m 5 Ab)) (.a Ag Ad) (.c 5 (.a An Ad) Ab (.c 1 (.v 4) (.a (.v 5) Aa) (.c 1 (.v 5) At .z)))) 0 rfl hN (le_of_eq hlen) (le_of_eq (by assumption)) this))
    refine⟨z',(k,l.getD k 0)::tu1,k::met1,r1,r2,by refine rz (r3 ..) ?_;simp,by refine rz (r4 ..) ?_;simp,?_,?_,?_,?_⟩
    ·refine rz (map_cons ..) <| (r5.cons _).trans pm
    ·exact r6
    ·intro p hp';rcases List.mem_cons.mp hp' with rfl | h
     ·exact hk
     ·exact r7 p h
    ·intro i;refine rz (count_cons ..) <| rz (r8 i ..) <| rz (hpm.count_eq ..) <| rz (count_append ..) <| rz (count_nd (G.nd k) ..) <| rz (count_cons ..) <| rz (filter_cons ..) ?_
     by_cases b:i∈tied.getD k []
     ·simp only[b,if_true,decide_true,length_cons];exact(le_antisymm (ar [_,_,_] (.a (.a (.a Ad Aa) Ab) Ag) (.a (.a Aa Ag) (.a Ab Ad)) .z 0 rfl) (ar [_,_,_] (.a (.a Aa Ab) (.a Ag Ad)) (.a (.a (.a Ad Aa) Ag) Ab) .z 0 rfl))
     ·simp only[b,if_false,decide_false,Bool.false_eq_true];exact(le_antisymm (ar [_,_,_] (.a (.a (.a Al Aa) Ab) Ag) (.a (.a Aa Ag) Ab) .z 0 rfl) (ar [_,_,_] (.a (.a Aa Ab) Ag) (.a (.a (.a Al Aa) Ag) Ab) .z 0 rfl))
   ·have e1:tret tied l k=[]:=if_neg hneg;have e2:tlst tied l k=l:=if_neg hneg;have e3:ttur l tu k=tu:=if_neg hneg;refine rz (e1 ..) <| rz (e2 ..) <| rz (e3 ..) ?_
    have hpm:=hp [] q;obtain⟨z',tu1,met1,r1,r2,r3,r4,r5,r6,r7,r8⟩:=ih (q:=put [] q) tu (met++[k]) hl ho
     (fun j hj=>hq j (.tail _ (hpm.mem_iff.mp hj)))
     (fun j hj hjn=>by
      refine hpm.mem_iff.mpr ?_;rcases List.mem_cons.mp (hn j hj hjn) with c | c
      ·exact absurd (c▸hjn) hneg
      ·exact c)
     P (by have:=hpm.length_eq;rw[nil_append] at this;exact(ar [_,_,_,_] (.a An (.m 5 Ab)) Ag (.c 1 (.a (.a Aa Ad) (.m 5 Ab)) (.a Ag Ad) (.c 1 An Aa .z)) 0 rfl hN (le_of_eq this)))
    refine⟨z',tu1,k::met1,r1,r2,r3,by refine rz (r4 ..) ?_;simp,r5,r6,r7,?_⟩
    intro i;refine rz (count_cons ..) <| rz (r8 i ..) <| rz (hpm.count_eq ..) <| rz (nil_append ..) <| rz (count_cons ..) <| (le_antisymm (ar [_,_,_] (.a (.a Aa Ab) Ag) (.a (.a Aa Ag) Ab) .z 0 rfl) (ar [_,_,_] (.a (.a Aa Ab) Ag) (.a (.a Aa Ag) Ab) .z 0 rfl))
theorem perm_fold{tied:Lz}{m:Nat}(G:Ties tied m){a b:List Nat}(p:a.Perm b):∀ {l:List Int},l.length=m→(∀ j∈a,j<m)→(∀ j∈a,∀ k∈a,j∉tied.getD k [])→a.foldl (A9 tied) l=b.foldl (A9 tied) l:=by
 induction p with
 |nil=>intros;rfl
 |cons x p ih =>
  intro l hl h1 h2;exact ih (Di hl x) (fun j h=>h1 j (.tail _ h)) (fun j h k g=>h2 j (.tail _ h) k (.tail _ g))
 |swap x y l0 =>
  intro l hl h1 h2
  show l0.foldl _ (A9 tied (A9 tied l y) x)=l0.foldl _ (A9 tied (A9 tied l x) y)
  by_cases e:x=y
  ·exact rz (e ..) rfl
  ·exact rz (turn_comm G hl (h1 y (.head _)) (h1 x (.tail _ (.head _))) (fun q=>e q.symm) (h2 y (.head _) x (.tail _ (.head _))) ..) rfl
 |trans p q ih1 ih2 =>
  intro l hl h1 h2;refine rz (ih1 hl h1 h2 ..) <| ih2 hl (fun j h=>h1 j (p.mem_iff.mpr h)) (fun j h k g=>h2 j (p.mem_iff.mpr h) k (p.mem_iff.mpr g))
theorem round_run{tied:Lz}{m:Nat}(G:Ties tied m):∀ (A:List Nat) {N:Nat}{B:List Nat}{l:List Int}{tu:List (Nat × Int)}{met:List Nat}{z':Gm},l.length=m→(∀ j∈A,j<m)→(∀ j∈A,∀ k∈A,j∉tied.getD k [])→(∀ k,k<m→l.getD k 0<0→k∈A++B)→gRun putQ tied N ⟨A++B,l,tu,met⟩=some z' →
  ∃ N' S t met',gRun putQ tied N' ⟨B++S.flatMap (fun k=>tied.getD k []),S.foldl (A9 tied) l,tu++t,met'⟩=some z'∧t.map (·.1)=S∧S.Nodup∧(∀ k,k∈S↔k∈A∧l.getD k 0<0)∧∀ k,k<m→(S.foldl (A9 tied) l).getD k 0<0→k∈B++S.flatMap (fun k=>tied.getD k []):=by
 intro A
 induction A with
 |nil=>intro N B l tu met z' hl _ _ hc hr;exact⟨N,[],[],met,by simpa using hr,rfl,.nil,by simp,by simpa using hc⟩
 |cons k A ih =>
  intro N B l tu met z' hl h1 h2 hc hr;have hk:=h1 k (.head _);obtain⟨n,_,hr⟩:=C6 (k:=k) (q:=A++B) rfl hr;have h1':∀ j∈A,j<m:=fun j h=>h1 j (.tail _ h)
  have h2':∀ j∈A,∀ k∈A,j∉tied.getD k []:=fun j h k g=>h2 j (.tail _ h) k (.tail _ g)
  unfold gStep putQ at hr;dsimp only at hr
  by_cases hneg:l.getD k 0<0
  ·have e1:tret tied l k=tied.getD k []:=if_pos hneg;have e2:tlst tied l k=A9 tied l k:=if_pos hneg;have e3:ttur l tu k=tu++[(k,l.getD k 0)]:=if_pos hneg;rw[e1,e2,e3,append_assoc] at hr;obtain⟨N',S,t,met',q1,q2,q3,q4,q5⟩:=ih (Di hl k) h1' h2' (fun j hj hjn=>by
    rw[Bk G hl hk] at hjn;rw[← append_assoc,List.mem_append]
    by_cases a:j=k
    ·rw[if_pos a] at hjn;exact(not_succ_le_zero 0 (not_succ_le_zero 0 (an [] [_] Ad Al (.i 1 (.a Af Ah) Aj (.i 1 (.a (.g Af) Ah) Aj .z)) 0 rfl hneg hjn)).elim).elim
    ·rw[if_neg a] at hjn
     by_cases b:j∈tied.getD k []
     ·exact .inr b
     ·rw[if_neg b] at hjn;rcases List.mem_cons.mp (hc j hj hjn) with c | c
      ·exact absurd c a
      ·exact .inl c) hr
   have hv:∀ j∈A,(A9 tied l k).getD j 0=if j=k then-l.getD k 0 else l.getD j 0:=fun j hj=>by
    refine rz (Bk G hl hk ..) <| rz (if_neg (h2 j (.tail _ hj) k (.head _)) ..) rfl
   refine⟨N',k::S,(k,l.getD k 0)::t,met',?_,by simp[q2],List.nodup_cons.mpr ⟨?_,q3⟩,?_,?_⟩
   ·simpa [append_assoc] using q1
   ·intro h;obtain⟨g1,g2⟩:=(q4 k).mp h;rw[hv k g1,if_pos rfl] at g2;exact(not_succ_le_zero 0 (not_succ_le_zero 0 (an [] [_] Ad Al (.i 1 (.a Af Ah) Aj (.i 1 (.a (.g Af) Ah) Aj .z)) 0 rfl hneg g2)).elim)
   ·intro j;rw[mem_cons,q4,mem_cons]
    constructor
    ·rintro(rfl | ⟨g1,g2⟩)
     ·exact⟨.inl rfl,hneg⟩
     ·rw[hv j g1] at g2
      by_cases e:j=k
      ·exact⟨.inl e,e▸hneg⟩
      ·rw[if_neg e] at g2;exact⟨.inr g1,g2⟩
    ·rintro⟨g1,g2⟩
     by_cases e:j=k
     ·exact .inl e
     ·rcases g1 with g1 | g1
      ·exact absurd g1 e
      ·exact .inr ⟨g1,by refine rz (hv j g1 ..) <| rz (if_neg e ..) <| g2⟩
   ·simpa [append_assoc] using q5
  ·have e1:tret tied l k=[]:=if_neg hneg;have e2:tlst tied l k=l:=if_neg hneg;have e3:ttur l tu k=tu:=if_neg hneg;rw[e1,e2,e3,append_nil] at hr;obtain⟨N',S,t,met',q1,q2,q3,q4,q5⟩:=ih hl h1' h2' (fun j hj hjn=>by
    rcases List.mem_cons.mp (hc j hj hjn) with c | c
    ·exact absurd (c▸hjn) hneg
    ·exact c) hr
   refine⟨N',S,t,met',q1,q2,q3,fun j=>?_,q5⟩
   rw[q4,mem_cons]
   constructor
   ·rintro⟨g1,g2⟩;exact⟨.inr g1,g2⟩
   ·rintro⟨rfl | g1,g2⟩
    ·exact absurd g2 hneg
    ·exact⟨g1,g2⟩
noncomputable def rndOk(tied:Lz)(kind:List Nat)(m:Nat):Nat→Lz→List Int→Prop
 |_,[],l=>∀ k,k<m→0≤l.getD k 0
 |r,D::Ds,l=>(∀ k,k∈D↔k<m∧kind.getD k 0 % 2=r % 2∧l.getD k 0<0)∧D.Nodup∧rndOk tied kind m (r+1) Ds (D.foldl (A9 tied) l)
noncomputable def pcs:List (List (Nat × Int))→Lz→Prop
 |[],[]=>True
 |t::ts,D::Ds=>(t.map (·.1)).Perm D∧pcs ts Ds
 |_,_=>False
theorem line_rounds{tied:Lz}{m:Nat}(G:Ties tied m){kind:List Nat}(hkind:∀ j k,j∈tied.getD k []→(kind.getD j 0+kind.getD k 0) % 2=1):∀ (Ds:Lz) {r N:Nat}{A B:List Nat}{l:List Int}{tu:List (Nat × Int)}{met:List Nat}{z':Gm},l.length=m →
  (∀ k∈A,k<m∧kind.getD k 0 % 2=r % 2)→(∀ k∈B,k<m∧kind.getD k 0 % 2=(r+1) % 2)→(∀ k,k<m→l.getD k 0<0→k∈A++B)→rndOk tied kind m r Ds l→gRun putQ tied N ⟨A++B,l,tu,met⟩=some z' →
  ∃ ts:List (List (Nat × Int)),z'.tu=tu++ts.flatten∧pcs ts Ds:=by
 intro Ds
 induction Ds with
 |nil =>
  intro r N A B l tu met z' hl hA hB hneg hd hr;refine⟨[],?_,trivial⟩;have key:∀ (N:Nat) (q:List Nat) (met:List Nat),(∀ k∈q,k<m)→gRun putQ tied N ⟨q,l,tu,met⟩=some z'→z'.tu=tu:=by
   intro N
   induction N with
   |zero =>
    intro q met hq hr;cases q with
    |nil=>rw[Dd rfl] at hr;cases hr;rfl
    |cons k q=>obtain⟨n,h,_⟩:=C6 (k:=k) (q:=q) rfl hr;omega
   |succ N ih =>
    intro q met hq hr;cases q with
    |nil=>rw[Dd rfl] at hr;cases hr;rfl
    |cons k q =>
     obtain⟨n,h,hr⟩:=C6 (k:=k) (q:=q) rfl hr;obtain rfl:N=n:=by exact(le_antisymm (ar [_,_] Aa Ab (.c 1 (.a Aa Ad) (.a Ab Ad) .z) 0 rfl (le_of_eq h)) (ar [_,_] Aa Ab (.c 1 (.a Aa Ad) (.a Ab Ad) .z) 0 rfl (le_of_eq h.symm)))
     have hn:¬ l.getD k 0<0:=by have:=hd k (hq k (.head _));exact(Int.not_lt.mpr this)
     have e1:tret tied l k=[]:=if_neg hn;have e2:tlst tied l k=l:=if_neg hn;have e3:ttur l tu k=tu:=if_neg hn;unfold gStep putQ at hr;dsimp only at hr
     rw[e1,e2,e3,append_nil] at hr;exact ih q _ (fun j h=>hq j (.tail _ h)) hr
  refine rz (flatten_nil ..) <| rz (append_nil ..) <| key N (A++B) met (fun k hk=>?_) hr
  rcases List.mem_append.mp hk with h | h
  ·exact(hA k h).1
  ·exact(hB k h).1
 |cons D Ds ih =>
  intro r N A B l tu met z' hl hA hB hneg hd hr;obtain⟨d1,d2,d3⟩:=hd;have hnt:∀ j∈A,∀ k∈A,j∉tied.getD k []:=fun j hj k hk h=>by
   have:=hkind j k h;have h1:=(hA j hj).2;have h2:=(hA k hk).2
   omega
  obtain⟨N',S,t,met',q1,q2,q3,q4,q5⟩:=round_run G A hl (fun j h=>(hA j h).1) hnt hneg hr
  have hSD:S.Perm D:=(List.perm_ext_iff_of_nodup q3 d2).mpr fun k=>by
   rw[q4,d1]
   constructor
   ·rintro⟨g1,g2⟩;exact⟨(hA k g1).1,(hA k g1).2,g2⟩
   ·rintro⟨g1,g2,g3⟩;refine⟨?_,g3⟩;rcases List.mem_append.mp (hneg k g1 g3) with h | h
    ·exact h
    ·have:=(hB k h).2;omega
  have hSA:∀ j∈S,j∈A:=fun j h=>((q4 j).mp h).1
  have hfold:=perm_fold G hSD hl (fun j h=>(hA j (hSA j h)).1) (fun j h k g=>hnt j (hSA j h) k (hSA k g))
  have hlen:∀ (D:List Nat) (l:List Int),l.length=m→(D.foldl (A9 tied) l).length=m:=by
   intro D
   induction D with
   |nil=>intro l h;exact h
   |cons k D ihd=>intro l h;exact ihd _ (Di h k)
  rw[hfold] at q1 q5
  rw[← append_nil (B++_)] at q1;obtain⟨ts,e1,e2⟩:=ih (r:=r+1) (hlen D l hl) (fun k hk=>by
   rcases List.mem_append.mp hk with h | h
   ·exact hB k h
   ·obtain⟨j,hj,hkj⟩:=List.mem_flatMap.mp h;have:=hkind k j hkj;have:=(hA j (hSA j hj)).2;exact⟨G.lt _ _ hkj,by omega⟩) (fun k hk=>(not_mem_nil hk).elim) (fun k hk hkn=>by refine rz (append_nil ..) <| q5 k hk hkn) d3 q1
  exact⟨t::ts,by refine rz (e1 ..) ?_;simp,by refine rz (q2 ..) <| hSD,e2⟩
noncomputable def dotV:List Int→List Int→Int
 |a::v,n::ns=>a*n+dotV v ns
 |_,_=>0
noncomputable def addV:List Int→List Int→List Int
 |a::v,b::u=>(a+b)::addV v u
 |_,_=>[]
noncomputable def negV(v:List Int):List Int:=v.map fun a=>-a
noncomputable def posV(v:List Int):Bool:=(v.all fun a=>decide (0≤a))&&v.any fun a=>decide (0<a)
noncomputable def npV(v:List Int):Bool:=v.all fun a=>decide (a≤0)
noncomputable def unitV(m k:Nat):List Int:=(List.range m).map fun i=>if i=k then 1 else 0
noncomputable def stepC(k:Nat)(C:List (List Int))(j:Nat):List (List Int):=C.set j (addV (C.getD j []) (C.getD k []))
noncomputable def turnC(tied:Lz)(C:List (List Int))(k:Nat):List (List Int):=((tied.getD k []).foldl (stepC k) C).set k (negV (((tied.getD k []).foldl (stepC k) C).getD k []))
noncomputable def ev(C:List (List Int))(ns:List Int):List Int:=C.map fun v=>dotV v ns
def wid(m:Nat)(C:List (List Int)):Prop:=C.length=m∧∀ k,k<m→(C.getD k []).length=m
noncomputable def chkP(tied:Lz)(m:Nat):List Nat→List (List Int)→Bool
 |[],C=>(List.range m).all fun k=>npV (C.getD k [])
 |k::ks,C=>decide (k<m)&&posV (C.getD k [])&&chkP tied m ks (turnC tied C k)
noncomputable def logC(tied:Lz):List Nat→List (List Int)→List (List Int)
 |[],_=>[]
 |k::ks,C=>C.getD k []::logC tied ks (turnC tied C k)
noncomputable def endC(tied:Lz)(ks:List Nat)(C:List (List Int)):List (List Int):=ks.foldl (turnC tied) C
noncomputable def chkR(tied:Lz)(kind:List Nat)(m:Nat):Nat→Lz→List (List Int)→Bool
 |_,[],C=>(List.range m).all fun k=>npV (C.getD k [])
 |r,D::Ds,C=>((List.range m).all fun k=>if k∈D then decide (kind.getD k 0 % 2=r % 2)&&posV (C.getD k []) else !decide (kind.getD k 0 % 2=r % 2)||npV (C.getD k []))&&(D.all fun k=>decide (k<m))&&decide D.Nodup&&chkR tied kind m (r+1) Ds (endC tied D C)
noncomputable def cstep(tied:Lz)(f:List (List Int × Int))(k:Nat):List (List Int × Int) :=
 f.flatMap fun p=>(rng 0 (Dr (tied.getD k []))).map fun c=>(p.1++[c],p.2+c*c-c*((Bo (tied.getD k []) k).map fun j=>p.1.getD j 0).sum)
noncomputable def cfold(tied:Lz)(m:Nat):List (List Int × Int):=(List.range m).foldl (cstep tied) [([],0)]
noncomputable def rootsC(tied:Lz)(m:Nat):List (List Int):=((cfold tied m).filter fun p=>decide (p.2=1)).map (·.1)
noncomputable def maxR(l:List Int):Nat:=(l.foldl max 0).toNat
noncomputable def dueT(tied:Lz):Lz:=dueOf (A8 tied tied.length).1 (A7 tied tied.length).1 tied.length (maxR (A7 tied tied.length).1)
noncomputable def unitC(m:Nat):List (List Int):=(List.range m).map (unitV m)
noncomputable def goodA(tied:Lz):Bool:=tied.all fun js=>decide js.Nodup&&decide (js.length≤3)&&js.all fun j=>decide (j<tied.length)
noncomputable def goodB(tied:Lz):Bool:=(List.range tied.length).all fun k=>(tied.getD k []).all fun j=>decide (k∈tied.getD j [])&&decide (j≠k)&&decide (((A8 tied tied.length).1.getD j 0+(A8 tied tied.length).1.getD k 0) % 2=1)
noncomputable def goodC(tied:Lz):Bool:=(List.range tied.length).all fun top=>decide (Dg tied (Bs tied.length (A8 tied tied.length).2 top)=[]→1<(Bs tied.length (A8 tied tied.length).2 top).length→endOf tied (Bs tied.length (A8 tied tied.length).2 top)≠[])
noncomputable def goodD(tied:Lz):Bool:=decide ((A7 tied tied.length).2.length=tied.length)&&decide ((A7 tied tied.length).1.length=tied.length)&&((A7 tied tied.length).2.all fun k=>decide (k<tied.length))&&decide (((maxR (A7 tied tied.length).1:Nat):Int)∈(A7 tied tied.length).1)&&((A7 tied tied.length).1.all fun x=>decide (x≤(maxR (A7 tied tied.length).1:Nat)))&&decide (maxR (A7 tied tied.length).1≤100)
noncomputable def goodE(tied:Lz):Bool:=chkR tied (A8 tied tied.length).1 tied.length 0 (dueT tied) (unitC tied.length)
noncomputable def goodF(tied:Lz):Bool:=chkP tied tied.length (dueT tied).flatten (unitC tied.length)&&decide (endC tied (dueT tied).flatten (unitC tied.length)=(A7 tied tied.length).2.map fun k=>negV (unitV tied.length k))
noncomputable def goodG(tied:Lz):Bool:=(logC tied (dueT tied).flatten (unitC tied.length)).isPerm (rootsC tied tied.length)&&decide ((dueT tied).flatten.length≤20)
noncomputable def good(tied:Lz):Bool:=goodA tied&&goodB tied&&goodC tied&&goodD tied&&goodE tied&&goodF tied&&goodG tied
noncomputable def Co:Nat→List (List Int)
 |0=>[[]]
 |k+1=>(Co k).flatMap fun h=>(rng (-1) (k+1)).map fun x=>h++[x]
theorem good4:((Co 4).map B4).all good=true:=by decide +kernel
theorem good5_0:((((Co 5).drop 0).take 15).map B4).all good=true:=by decide +kernel
theorem good5_1:((((Co 5).drop 15).take 15).map B4).all good=true:=by decide +kernel
theorem good5_2:((((Co 5).drop 30).take 15).map B4).all good=true:=by decide +kernel
theorem good5_3:((((Co 5).drop 45).take 15).map B4).all good=true:=by decide +kernel
theorem good5_4:((((Co 5).drop 60).take 15).map B4).all good=true:=by decide +kernel
theorem good5_5:((((Co 5).drop 75).take 15).map B4).all good=true:=by decide +kernel
theorem good5_6:((((Co 5).drop 90).take 15).map B4).all good=true:=by decide +kernel
theorem good5_7:((((Co 5).drop 105).take 15).map B4).all good=true:=by decide +kernel
theorem fm_congr{α β:Type}{l:List α}{f g:α→List β}(h:∀ a∈l,f a=g a):l.flatMap f=l.flatMap g:=by
 refine rz (flatMap_def ..) <| rz (flatMap_def ..) <| rz (map_congr_left h ..) rfl
theorem addV_len:∀ {a b:List Int},a.length=b.length→(addV a b).length=a.length
 |[],[],_=>rfl
 |a::v,b::u,h=>by simp only[addV,length_cons];exact rz (addV_len (by simpa using h) ..) rfl
theorem dot_add:∀ {a b:List Int}(ns:List Int),a.length=b.length→dotV (addV a b) ns=dotV a ns+dotV b ns
 |[],[],ns,_=>by simp[addV,dotV]
 |a::v,b::u,[],h=>by simp[addV,dotV]
 |a::v,b::u,n::ns,h=>by
  simp only[addV,dotV];refine rz (dot_add ns (by simpa using h) ..) <| rz (Int.add_mul ..) <| (Int.le_antisymm (ai [] [_,_,_,_] (.a (.a Af Ai) (.a Aw (.z 3))) (.a (.a Af Aw) (.a Ai (.z 3))) .z 0 rfl) (ai [] [_,_,_,_] (.a (.a Af Ai) (.a Aw (.z 3))) (.a (.a Af Aw) (.a Ai (.z 3))) .z 0 rfl))
theorem dot_neg:∀ (v ns:List Int),dotV (negV v) ns=- dotV v ns
 |[],ns=>by simp[negV,dotV]
 |a::v,[]=>by simp[negV,dotV]
 |a::v,n::ns=>by
  have:=dot_neg v ns;simp only[negV,map_cons,dotV] at this⊢
  refine rz (this ..) <| rz (Int.neg_mul ..) <| (Int.le_antisymm (ai [] [_,_] (.a (.g Af) (.g Ai)) (.g (.a Af Ai)) .z 0 rfl) (ai [] [_,_] (.g (.a Af Ai)) (.a (.g Af) (.g Ai)) .z 0 rfl))
theorem dot_np:∀ {v ns:List Int},npV v=true→(∀ n∈ns,n<0)→0≤dotV v ns
 |[],ns,_,_=>by simp[dotV]
 |a::v,[],_,_=>by simp[dotV]
 |a::v,n::ns,h,hn=>by
  simp only[npV,all_cons,Bool.and_eq_true,decide_eq_true_eq] at h;have:=dot_np (v:=v) (ns:=ns) h.2 fun x hx=>hn x (.tail _ hx)
  have:=hn n (.head _);have:=mul_nonneg (a:=-a) (b:=-n) (ai [] [_] Aj (.g Af) (.i 1 Af Aj .z) 0 rfl h.1) (ai [] [_] Aj (.g Af) (.i 1 (.a Af Ah) Aj .z) 0 rfl this);rw[Int.neg_mul_neg] at this;simp only[dotV];exact(ai [] [_,_] Aj (.a Ai Af) (.i 1 Aj Af (.i 1 Aj Ai .z)) 0 rfl (by assumption) this)
theorem dot_pos:∀ {v ns:List Int},posV v=true→v.length=ns.length→(∀ n∈ns,n<0)→dotV v ns<0
 |[],_,h,_,_=>by simp[posV] at h
 |a::v,[],_,h,_=>by simp at h
 |a::v,n::ns,h,hl,hn=>by
  simp only[posV,all_cons,any_cons,Bool.and_eq_true,Bool.or_eq_true,decide_eq_true_eq] at h;obtain⟨⟨h1,h2⟩,h3⟩:=h
  have hn0:=hn n (.head _);have hns:∀ x∈ns,x<0:=fun x hx=>hn x (.tail _ hx)
  have e0:dotV v ns≤0:=by
   have:=dot_np (v:=negV v) (ns:=ns) (by
    unfold npV negV;rw[List.all_map,all_eq_true];intro x hx;have:=List.all_eq_true.mp h2 x hx;simp only[decide_eq_true_eq,Function.comp] at this⊢
    exact(ai [] [_] (.g Af) Aj (.i 1 Aj Af .z) 0 rfl this)) hns
   rw[dot_neg] at this;exact(ai [] [_] Af Aj (.i 1 Aj (.g Af) .z) 0 rfl this)
  have e1:a*n≤0:=by
   have:=mul_nonneg (a:=a) (b:=-n) h1 (ai [] [_] Aj (.g Af) (.i 1 (.a Af Ah) Aj .z) 0 rfl hn0);rw[Int.mul_neg] at this;exact(ai [] [_] Af Aj (.i 1 Aj (.g Af) .z) 0 rfl this)
  simp only[dotV];rcases h3 with h3 | h3
  ·have:=Int.mul_pos (a:=a) (b:=-n) h3 (ai [] [_] (.a Aj Ah) (.g Af) (.i 1 (.a Af Ah) Aj .z) 0 rfl hn0);rw[Int.mul_neg] at this;exact(ai [] [_,_] (.a (.a Ai Af) Ah) Aj (.i 1 Af Aj (.i 1 (.a Aj Ah) (.g Ai) .z)) 0 rfl e0 this)
  ·have:=dot_pos (v:=v) (ns:=ns) (by simp only[posV,Bool.and_eq_true];exact⟨h2,h3⟩) (by simpa using hl) hns
   exact(ai [] [_,_] (.a (.a Af Ai) Ah) Aj (.i 1 Af Aj (.i 1 (.a Ai Ah) Aj .z)) 0 rfl e1 this)
theorem Dt(C:List (List Int))(ns:List Int)(k:Nat):(ev C ns).getD k 0=dotV (C.getD k []) ns:=by
 unfold ev;refine rz (List.getD_eq_getElem?_getD ..) <| rz (List.getD_eq_getElem?_getD ..) <| rz (List.getElem?_map ..) ?_
 cases C[k]? with
 |none=>simp[dotV]
 |some v=>rfl
theorem ev_len(C:List (List Int))(ns:List Int):(ev C ns).length=C.length:=by simp[ev]
theorem getD_setC{C:List (List Int)}{i j:Nat}{v:List Int}(h:j<C.length):(C.set j v).getD i []=if i=j then v else C.getD i []:=by
 refine rz (List.getD_eq_getElem?_getD ..) <| rz (List.getElem?_set ..) ?_
 by_cases e:i=j
 ·subst e;simp[h]
 ·refine rz (if_neg (fun q=>e q.symm) ..) <| rz (if_neg e ..) <| rz (List.getD_eq_getElem?_getD ..) rfl
theorem ev_set(C:List (List Int))(ns:List Int)(j:Nat)(v:List Int):ev (C.set j v) ns=(ev C ns).set j (dotV v ns):=by
 unfold ev;exact rz (List.map_set ..) rfl
theorem wid_set{m:Nat}{C:List (List Int)}(h:wid m C){j:Nat}{v:List Int}(hj:j<m)(hv:v.length=m):wid m (C.set j v):=by
 refine⟨by refine rz (length_set ..) <| h.1,fun k hk=>?_⟩
 refine rz (getD_setC (by rw[h.1];exact hj) ..) ?_
 split
 ·exact hv
 ·exact h.2 k hk
theorem ev_step{m:Nat}{C:List (List Int)}(h:wid m C)(ns:List Int){k j:Nat}(hj:j<m)(hk:k<m):wid m (stepC k C j)∧ev (stepC k C j) ns=stepJ k (ev C ns) j:=by
 unfold stepC stepJ;have e:(C.getD j []).length=(C.getD k []).length:=by refine rz (h.2 j hj ..) <| rz (h.2 k hk ..) rfl
 exact⟨wid_set h hj (rz (addV_len e ..) <| rz (h.2 j hj ..) rfl),by refine rz (ev_set ..) <| rz (dot_add ns e ..) <| rz (Dt ..) <| rz (Dt ..) rfl⟩
theorem ev_fold{m:Nat}(ns:List Int){k:Nat}(hk:k<m):∀ {js:List Nat}{C:List (List Int)},wid m C→(∀ j∈js,j<m)→wid m (js.foldl (stepC k) C)∧ev (js.foldl (stepC k) C) ns=js.foldl (stepJ k) (ev C ns)
 |[],C,h,_=>⟨h,rfl⟩
 |j::js,C,h,hj=>by
  obtain⟨a,b⟩:=ev_step h ns (hj j (.head _)) hk;rw[foldl_cons,foldl_cons,← b];exact ev_fold ns hk a fun i hi=>hj i (.tail _ hi)
theorem ev_turn{tied:Lz}{m:Nat}(G:Ties tied m){C:List (List Int)}(h:wid m C)(ns:List Int){k:Nat}(hk:k<m):wid m (turnC tied C k)∧ev (turnC tied C k) ns=A9 tied (ev C ns) k:=by
 obtain⟨a,b⟩:=ev_fold ns hk h (G.lt k);unfold turnC A9;refine⟨wid_set a hk (by unfold negV;refine rz (length_map ..) <| a.2 k hk),?_⟩
 refine rz (ev_set ..) <| rz (b ..) <| rz (dot_neg ..) <| rz (Eq.symm (b ..)) <| rz (Dt ..) rfl
theorem play_of{tied:Lz}{m:Nat}(G:Ties tied m){ns:List Int}(hn:ns.length=m)(hneg:∀ n∈ns,n<0)(os:List Int):∀ (ks:List Nat) {C:List (List Int)},wid m C→chkP tied m ks C=true→Play tied m (ev C ns) (ev C os) (ev (endC tied ks C) ns) (ev (endC tied ks C) os) ((logC tied ks C).map fun v=>dotV v ns)
 |[],C,h,hc=>.done fun k hk=>by
  refine rz (Dt ..) <| dot_np (List.all_eq_true.mp hc k (List.mem_range.mpr hk)) hneg
 |k::ks,C,h,hc=>by
  simp only[chkP,Bool.and_eq_true,decide_eq_true_eq] at hc;obtain⟨⟨h1,h2⟩,h3⟩:=hc
  have R:=play_of G hn hneg os ks (ev_turn G h ns h1).1 h3;rw[(ev_turn G h ns h1).2,(ev_turn G h os h1).2] at R;have:=Play.turn k h1 (rz (Dt ..) <| dot_pos h2 (rz (h.2 k h1 ..) <| rz (hn ..) rfl) hneg) R
  rw[Dt] at this;exact this
theorem ev_turns{tied:Lz}{m:Nat}(G:Ties tied m)(ns:List Int):∀ {D:List Nat}{C:List (List Int)},wid m C→(∀ j∈D,j<m)→wid m (endC tied D C)∧ev (endC tied D C) ns=D.foldl (A9 tied) (ev C ns)
 |[],C,h,_=>⟨h,rfl⟩
 |j::D,C,h,hj=>by
  obtain⟨a,b⟩:=ev_turn G h ns (hj j (.head _));have:=ev_turns G ns (D:=D) a fun i hi=>hj i (.tail _ hi)
  refine rz (foldl_cons ..) <| rz (Eq.symm (b ..)) <| this
theorem rnd_of{tied:Lz}{kind:List Nat}{m:Nat}(G:Ties tied m){ns:List Int}(hn:ns.length=m)(hneg:∀ n∈ns,n<0):∀ (Ds:Lz) {r:Nat}{C:List (List Int)},wid m C→chkR tied kind m r Ds C=true→rndOk tied kind m r Ds (ev C ns)
 |[],r,C,h,hc=>fun k hk=>by
  refine rz (Dt ..) <| dot_np (List.all_eq_true.mp hc k (List.mem_range.mpr hk)) hneg
 |D::Ds,r,C,h,hc=>by
  simp only[chkR,Bool.and_eq_true,decide_eq_true_eq] at hc;obtain⟨⟨⟨h1,h2⟩,h3⟩,h4⟩:=hc
  have hD:∀ j∈D,j<m:=fun j hj=>of_decide_eq_true (List.all_eq_true.mp h2 j hj)
  obtain⟨a,b⟩:=ev_turns G ns h hD;have R:=rnd_of G hn hneg Ds a h4;rw[b] at R;refine⟨fun k=>?_,h3,R⟩
  refine rz (Dt ..) ?_
  constructor
  ·intro hk;have:=List.all_eq_true.mp h1 k (List.mem_range.mpr (hD k hk));rw[if_pos hk,Bool.and_eq_true,decide_eq_true_eq] at this;exact⟨hD k hk,this.1,dot_pos this.2 (rz (h.2 k (hD k hk) ..) <| rz (hn ..) rfl) hneg⟩
  ·rintro⟨q1,q2,q3⟩;have:=List.all_eq_true.mp h1 k (List.mem_range.mpr q1)
   by_cases hk:k∈D
   ·exact hk
   ·rw[if_neg hk,decide_eq_true q2] at this;have:=dot_np (ns:=ns) this hneg
    exact(not_succ_le_zero 0 (not_succ_le_zero 0 (an [] [_] Ad Al (.i 1 (.a Af Ah) Aj (.i 1 Aj Af .z)) 0 rfl q3 this)).elim).elim
theorem dot_snoc:∀ (v:List Int) (c:Int) (ns:List Int) (n:Int),ns[v.length]?=some n→dotV (v++[c]) ns=dotV v ns+c*n
 |[],c,[],n,h=>by simp at h
 |[],c,x::ns,n,h=>by simp at h;subst h;simp[dotV]
 |a::v,c,[],n,h=>by simp at h
 |a::v,c,x::ns,n,h=>by
  have:=dot_snoc v c ns n (by simpa using h)
  simp only[cons_append,dotV,this];exact(Int.le_antisymm (ai [] [_,_,_] (.a Af (.a Ai Aw)) (.a (.a Af Ai) Aw) .z 0 rfl) (ai [] [_,_,_] (.a (.a Af Ai) Aw) (.a Af (.a Ai Aw)) .z 0 rfl))
theorem zip_range(ns:List Int):∀ i,i≤ns.length→ns.zipIdx.take i=(List.range i).map fun k=>(ns.getD k 0,k)
 |0,_=>rfl
 |i+1,h=>by
  refine rz (take_add_one ..) <| rz (zip_range ns i (le_of_lt h) ..) <| rz (range_succ ..) <| rz (map_append ..) <| rz (List.getElem?_zipIdx ..) <| rz (List.getElem?_eq_getElem (h) ..) ?_
  simp[List.getD_eq_getElem?_getD,List.getElem?_eq_getElem (show i<ns.length by exact h)]
theorem cfold_ok(tied:Lz)(ns:List Int):∀ i,i≤ns.length→(∀ p∈cfold tied i,p.1.length=i)∧sfold tied (ns.zipIdx.take i)=(cfold tied i).map fun p=>(p.1,p.2,dotV p.1 ns)
 |0,_=>by simp[cfold,sfold,dotV]
 |i+1,h=>by
  obtain⟨a,b⟩:=cfold_ok tied ns i (le_of_lt h);have hi:ns[i]?=some (ns.getD i 0):=by refine rz (List.getD_eq_getElem?_getD ..) <| rz (List.getElem?_eq_getElem (h) ..) ?_;rfl
  have e:cfold tied (i+1)=cstep tied (cfold tied i) i:=by unfold cfold;refine rz (range_succ ..) <| rz (foldl_append ..) ?_;rfl
  have e':sfold tied (ns.zipIdx.take (i+1))=sstep tied (sfold tied (ns.zipIdx.take i)) i (ns.getD i 0):=by
   refine rz (zip_range ns _ h ..) <| rz (zip_range ns i (le_of_lt h) ..) <| rz (range_succ ..) <| rz (map_append ..) ?_;unfold sfold;refine rz (foldl_append ..) ?_;rfl
  refine rz (e ..) <| rz (e' ..) <| rz (b ..) ?_
  unfold cstep sstep
  constructor
  ·intro p hp;obtain⟨q,hq,hp⟩:=List.mem_flatMap.mp hp;obtain⟨c,_,rfl⟩:=List.mem_map.mp hp;simp[a q hq]
  ·refine rz (List.flatMap_map ..) <| rz (List.map_flatMap ..) <| fm_congr fun q hq=>?_
   rw[map_map];refine map_congr_left fun c V=>?_
   unfold sone;simp only[Function.comp];exact rz (dot_snoc q.1 c ns (ns.getD i 0) (by rw[a q hq];exact hi) ..) rfl
theorem sums_eq(tied:Lz)(ns:List Int)(m:Nat)(h:ns.length=m):sfold tied ns.zipIdx=(cfold tied m).map (fun p=>(p.1,p.2,dotV p.1 ns))∧sumsOf tied ns=isort ((rootsC tied m).map fun v=>dotV v ns):=by
 have e:sfold tied ns.zipIdx=(cfold tied m).map (fun p=>(p.1,p.2,dotV p.1 ns)):=by
  have:=(cfold_ok tied ns m (le_of_eq h.symm)).2
  rwa [take_of_length_le (rz (length_zipIdx ..) <| (le_of_eq h))] at this
 refine⟨e,?_⟩;unfold sumsOf rootsC;refine rz (e ..) <| rz (List.filter_map ..) <| rz (map_map ..) <| rz (map_map ..) ?_
 rfl
theorem dot_unit:∀ (m:Nat) (k:Nat) (ns:List Int) ,ns.length=m→dotV (unitV m k) ns=ns.getD k 0:=by
 have key:∀ (ns:List Int) (s k:Nat),dotV ((List.range' s ns.length).map fun i=>if i=k then 1 else 0) ns=if s≤k then ns.getD (k-s) 0 else 0:=by
  intro ns
  induction ns with
  |nil=>intro s k;simp[dotV]
  |cons n ns ih =>
   intro s k;rw[length_cons,List.range'_succ,map_cons,dotV,ih]
   by_cases h:s=k
   ·subst h;simp;omega
   ·refine rz (if_neg h ..) ?_
    by_cases q:s≤k
    ·refine rz (if_pos q ..) <| rz (if_pos (by omega) ..) <| rz (show k-s=(k-(s+1))+1 by omega) <| rz (List.getD_cons_succ ..) <| (Int.le_antisymm (ai [] [_,_] (.a (.m 0 Af) Ai) Ai .z 0 rfl) (ai [] [_,_] Af (.a (.m 0 Ai) Af) .z 0 rfl))
    ·refine rz (if_neg q ..) <| rz (if_neg (Nat.not_le_of_lt (le_succ_of_le (Nat.lt_of_not_le q))) ..) <| (Int.le_antisymm (ai [] [_] (.a (.m 0 Af) Aj) Aj .z 0 rfl) (ai [] [_] Aj (.a (.m 0 Af) Aj) .z 0 rfl))
 intro m k ns h;have:=key ns 0 k;rw[h] at this;unfold unitV
 refine rz (List.range_eq_range' ..) <| rz (this ..) <| rz (if_pos (zero_le _) ..) <| rz (sub_zero ..) rfl
theorem Gf(m:Nat):wid m (unitC m):=by
 unfold unitC;refine⟨by simp,fun k hk=>?_⟩
 refine rz (List.getD_eq_getElem?_getD ..) <| rz (List.getElem?_map ..) <| rz (List.getElem?_range hk ..) ?_
 simp[unitV]
theorem ev_unit(m:Nat)(ns:List Int)(h:ns.length=m):ev (unitC m) ns=ns:=by
 refine list_ext (rz (ev_len ..) <| rz ((Gf m).1 ..) <| rz (h ..) rfl) fun i=>?_
 refine rz (Dt ..) ?_
 by_cases hi:i<m
 ·unfold unitC;refine rz (List.getD_eq_getElem?_getD (l:=(List.range m).map _) ..) <| rz (List.getElem?_map ..) <| rz (List.getElem?_range hi ..) <| dot_unit m i ns h
 ·refine rz (getD_ge (le_trans (le_of_eq h) (le_of_not_lt hi)) ..) <| rz (List.getD_eq_getElem?_getD ..) <| rz (List.getElem?_eq_none (by rw[(Gf m).1];exact(le_of_not_lt hi)) ..) ?_
  simp[dotV]
theorem ev_mir(m:Nat)(ns:List Int)(h:ns.length=m)(mir:List Nat):ev (mir.map fun k=>negV (unitV m k)) ns=mir.map fun k=>- ns.getD k 0:=by
 unfold ev;refine rz (map_map ..) <| map_congr_left fun k V=>?_
 show dotV (negV _) ns=_
 refine rz (dot_neg ..) <| rz (dot_unit m k ns h ..) rfl
theorem isort_perm{a b:List Int}(p:a.Perm b):isort a=isort b:=by
 have h1:(isort a).Pairwise (fun a b=>(decide (a≤b))=true):=List.pairwise_mergeSort (le:=fun a b=>decide (a≤b)) (by intro a b c;simp;omega) (by intro a b;simp;omega) a
 exact Ee ((List.mergeSort_perm a _).trans p) (h1.imp fun h=>of_decide_eq_true h)
theorem pcs_cut:∀ (ts:List (List (Nat × Int))) (Ds:Lz) (pre:List (Nat × Int)),pcs ts Ds→(∀ D∈Ds,D.Pairwise (·≤·))→cutOf (pre++ts.flatten) (Ds.map List.length) pre.length=Ds.map fun l=>l.map fun n=>((n:Nat):Int)
 |[],[],pre,_,_=>rfl
 |[],D::Ds,pre,h,_=>nomatch h
 |t::ts,[],pre,h,_=>nomatch h
 |t::ts,D::Ds,pre,⟨h1,h2⟩,hs=>by
  have hl:t.length=D.length:=by have:=h1.length_eq;rwa [length_map] at this
  have R:=pcs_cut ts Ds (pre++t) h2 fun D hD=>hs D (.tail _ hD)
  rw[length_append,append_assoc,hl] at R;rw[map_cons,map_cons,cutOf,flatten_cons,R,List.drop_left,← hl,take_left]
  congr 1
  refine(Ee ?_ ?_).symm
  ·have:=h1.symm.map (fun n:Nat=>(n:Int))
   rwa [map_map] at this
  ·exact List.pairwise_map.mpr ((hs D (.head _)).imp fun h=>Int.ofNat_le.mpr h)
theorem pcs_len:∀ (ts:List (List (Nat × Int))) (Ds:Lz),pcs ts Ds→ts.flatten.length=(Ds.map List.length).sum
 |[],[],_=>rfl
 |[],D::Ds,h=>nomatch h
 |t::ts,[],h=>nomatch h
 |t::ts,D::Ds,⟨h1,h2⟩=>by
  have hl:t.length=D.length:=by have:=h1.length_eq;rwa [length_map] at this
  refine rz (flatten_cons ..) <| rz (length_append ..) <| rz (pcs_len ts Ds h2 ..) <| rz (map_cons ..) <| rz (sum_cons ..) <| rz (hl ..) rfl
theorem due_sorted(dep:List Nat)(rounds:List Int)(m R:Nat):∀ D∈dueOf dep rounds m R,D.Pairwise (·≤·):=by
 intro D hD;obtain⟨r,_,rfl⟩:=List.mem_map.mp hD;exact((List.pairwise_lt_range (n:=m)).imp fun h=>le_of_lt h).filter _
structure GoodT(tied:Lz)(m:Nat):Prop where
 ties:Ties tied m
 len3:∀ js∈tied,(∀ j∈js,j<m)∧js.length≤3
 bip:∀ j k,j∈tied.getD k []→((A8 tied m).1.getD j 0+(A8 tied m).1.getD k 0) % 2=1
 fork:∀ top,top<m→Dg tied (Bs m (A8 tied m).2 top)=[]→1<(Bs m (A8 tied m).2 top).length→endOf tied (Bs m (A8 tied m).2 top)≠[]
 mlen:(A7 tied m).2.length=m
 rlen:(A7 tied m).1.length=m
 mlt:∀ k∈(A7 tied m).2,k<m
 max:((maxR (A7 tied m).1:Nat):Int)∈(A7 tied m).1∧(∀ x∈(A7 tied m).1,x≤(maxR (A7 tied m).1:Nat))∧maxR (A7 tied m).1≤100
 rnd:chkR tied (A8 tied m).1 m 0 (dueT tied) (unitC m)=true
 ply:chkP tied m (dueT tied).flatten (unitC m)=true
 fin:endC tied (dueT tied).flatten (unitC m)=(A7 tied m).2.map fun k=>negV (unitV m k)
 rts:(logC tied (dueT tied).flatten (unitC m)).Perm (rootsC tied m)
 few:(dueT tied).flatten.length≤20
theorem mem_getD{tied:Lz}{j k:Nat}(h:j∈tied.getD k []):k<tied.length∧tied.getD k []∈tied:=by
 rw[List.getD_eq_getElem?_getD] at h⊢
 cases e:tied[k]? with
 |none=>rw[e] at h;exact nomatch h
 |some js=>exact⟨(List.getElem?_eq_some_iff.mp e).1,List.mem_of_getElem? e⟩
theorem good_spec{tied:Lz}(h:good tied=true):GoodT tied tied.length:=by
 unfold good at h;simp only[Bool.and_eq_true] at h
 obtain⟨⟨⟨⟨⟨⟨hA,hB⟩,hC⟩,hD⟩,hE⟩,hF⟩,hG⟩:=h;have A:∀ js∈tied,js.Nodup∧js.length≤3∧∀ j∈js,j<tied.length:=fun js hj=>by
  have:=List.all_eq_true.mp hA js hj;simp only[Bool.and_eq_true,decide_eq_true_eq] at this;exact⟨this.1.1,this.1.2,fun j hj=>of_decide_eq_true (List.all_eq_true.mp this.2 j hj)⟩
 have B:∀ j k,j∈tied.getD k []→k∈tied.getD j []∧j≠k∧((A8 tied tied.length).1.getD j 0+(A8 tied tied.length).1.getD k 0) % 2=1:=fun j k hj=>by
  have:=List.all_eq_true.mp (List.all_eq_true.mp hB k (List.mem_range.mpr (mem_getD hj).1)) j hj;simp only[Bool.and_eq_true,decide_eq_true_eq] at this;exact⟨this.1.1,this.1.2,this.2⟩
 unfold goodD at hD;unfold goodF at hF
 unfold goodG at hG;simp only[Bool.and_eq_true,decide_eq_true_eq] at hD hF hG
 obtain⟨⟨⟨⟨⟨d1,d2⟩,d3⟩,d4⟩,d5⟩,d6⟩:=hD;refine⟨⟨rfl,fun k=>?_,fun k j hj=>(A _ (mem_getD hj).2).2.2 j hj,fun k hk=>(B k k hk).2.1 rfl,fun j k hj=>(B j k hj).1⟩,fun js hj=>⟨(A js hj).2.2,(A js hj).2.1⟩,fun j k hj=>(B j k hj).2.2,fun top ht=>of_decide_eq_true (List.all_eq_true.mp hC top (List.mem_range.mpr ht)),d1,d2,fun k hk=>of_decide_eq_true (List.all_eq_true.mp d3 k hk),⟨d4,fun x hx=>of_decide_eq_true (List.all_eq_true.mp d5 x hx),d6⟩,hE,hF.1,hF.2,List.isPerm_iff.mp hG.1,hG.2⟩
 refine rz (List.getD_eq_getElem?_getD ..) ?_;cases e:tied[k]? with
 |none=>exact .nil
 |some js=>exact(A js (List.mem_of_getElem? e)).1
theorem Ea{ord:List Nat}{m:Nat}(ho:ord.Perm (List.range m))(f:Nat→Nat):(ord.filter (fun k=>decide (f k % 2=0))++ord.filter (fun k=>decide (f k % 2=1))).Perm (List.range m):=by
 refine List.Perm.trans ?_ ho;have:(fun k=>decide (f k % 2=1))=fun k=>!decide (f k % 2=0):=by
  funext k
  rcases mod_two_eq_zero_or_one (f k) with h | h<;>simp[h]
 refine rz (this ..) <| List.filter_append_perm _ _
structure GameOk(tied:Lz)(m:Nat)(ns os:List Int)(z:Gm):Prop where
 fin:z.l=(A7 tied m).2.map fun k=>- ns.getD k 0
 vis:((List.range m).map fun k=>((z.met.count k:Nat):Int))=C9 z.tu tied
 len:z.tu.length=(dueT tied).flatten.length
 sum:isort (z.tu.map (·.2))=sumsOf tied ns
 led:ledOf tied z.tu os=(A7 tied m).2.map fun k=>- os.getD k 0
 lt:∀ p∈z.tu,p.1<m
 met:z.met.length≤1000
theorem game_ok{put:List Nat→List Nat→List Nat}(hp:∀ a b,(put a b).Perm (a++b)){tied:Lz}{m:Nat}(g:GoodT tied m){ns os:List Int}(hn:ns.length=m)(hneg:∀ n∈ns,n<0)(ho:os.length=m){q:List Nat}(hq:q.Perm (List.range m))(hm:m≤5) :
  ∃ z,gRun put tied 105 ⟨q,ns,[],[]⟩=some z∧GameOk tied m ns os z:=by
 have P:=play_of g.ties hn hneg os _ (Gf m) g.ply;rw[ev_unit m ns hn,ev_unit m os ho,g.fin,ev_mir m ns hn,ev_mir m os ho] at P;have hlog:∀ (ks:List Nat) (C:List (List Int)),(logC tied ks C).length=ks.length:=by
  intro ks
  induction ks with
  |nil=>intro C;rfl
  |cons k ks ih=>intro C;simp[logC,ih]
 have hM:((logC tied (dueT tied).flatten (unitC m)).map fun v=>dotV v ns).length=(dueT tied).flatten.length:=by refine rz (length_map ..) <| rz (hlog ..) rfl
 have hql:q.length=m:=by refine rz (hq.length_eq ..) <| rz (length_range ..) rfl
 obtain⟨z,tu1,met1,r1,r2,r3,r4,r5,r6,r7,r8⟩:=run_play hp g.ties (fun k=>by
   refine rz (List.getD_eq_getElem?_getD ..) ?_;cases e:tied[k]? with
   |none=>simp
   |some js=>have:=(g.len3 js (List.mem_of_getElem? e)).2;simp;exact(ar [_] Aa At (.c 1 Aa (.n 3) .z) 0 rfl this)) 105 [] [] hn ho (fun k hk=>List.mem_range.mp (hq.mem_iff.mp hk)) (fun k hk V=>hq.mem_iff.mpr (List.mem_range.mpr hk)) P (by refine rz (hM ..) <| rz (hql ..) ?_;have:=g.few;exact(ar [_,_] (.a Aa (.m 5 Ab)) (.n 105) (.c 1 Aa At (.c 5 Ab (.n 20) .z)) 0 rfl hm this))
 rw[nil_append] at r3 r4
 have hcount:∀ i,i<m→q.count i=1:=fun i hi=>by
  refine rz (hq.count_eq ..) <| rz (count_nd List.nodup_range ..) <| rz (if_pos (List.mem_range.mpr hi) ..) rfl
 have hlen:tu1.length=(dueT tied).flatten.length:=by
  refine rz (Eq.symm (hM ..)) <| rz (Eq.symm (r5.length_eq ..)) <| rz (length_map ..) rfl
 refine⟨z,r1,r2,?_,by refine rz (r3 ..) <| hlen,?_,by refine rz (r3 ..) <| r6,by refine rz (r3 ..) <| r7,?_⟩
 ·refine rz (r3 ..) <| rz (r4 ..) ?_
  unfold C9;refine List.ext_getElem (by simp[g.ties.len]) fun i h1 h2=>?_
  simp only[length_map,length_range] at h1;refine rz (getElem_map ..) <| rz (getElem_map ..) <| rz (List.getElem_range ..) <| rz (r8 i ..) <| rz (hcount i h1 ..) ?_
  have:tied[i]'(rz (g.ties.len ..) <| h1)=tied.getD i []:=by refine rz (List.getD_eq_getElem?_getD ..) <| rz (List.getElem?_eq_getElem (by rw[g.ties.len];exact h1) ..) ?_;rfl
  refine rz (this ..) ?_;have e:(fun p:Nat × Int=>decide (i∈tied.getD p.1 []))=fun p=>decide (p.1∈tied.getD i []):=by
   funext p
   exact decide_eq_decide.mpr ⟨fun h=>g.ties.sym _ _ h,fun h=>g.ties.sym _ _ h⟩
  refine rz (e ..) <| (Int.le_antisymm (ai [_] [] (.c (.a Ad Aa)) (.a Ah (.c Aa)) .z 0 rfl) (ai [_] [] (.a Ah (.c Aa)) (.c (.a Ad Aa)) .z 0 rfl))
 ·refine rz (r3 ..) <| rz ((sums_eq tied ns m hn).2 ..) <| isort_perm (r5.trans (g.rts.map _))
 ·have:∀ (N:Nat) (y y':Gm),gRun put tied N y=some y'→y'.met.length≤y.met.length+N:=by
   intro N
   induction N with
   |zero =>
    intro y y' h;cases e:y.q with
    |nil=>rw[Dd e] at h;cases h;exact(ar [_] Aa (.a Aa Al) .z 0 rfl)
    |cons k q=>obtain⟨n,h,_⟩:=C6 e h;exact(not_succ_le_zero 0 (ar [_] Ad Al (.c 1 (.a Aa Ad) Al .z) 0 rfl (le_of_eq h.symm))).elim
   |succ N ih =>
    intro y y' h;cases e:y.q with
    |nil=>rw[Dd e] at h;cases h;exact(ar [_,_] Aa (.a Aa (.a Ab Ad)) .z 0 rfl)
    |cons k q =>
     obtain⟨n,h1,h⟩:=C6 e h;obtain rfl:N=n:=by exact(le_antisymm (ar [_,_] Aa Ab (.c 1 (.a Aa Ad) (.a Ab Ad) .z) 0 rfl (le_of_eq h1)) (ar [_,_] Aa Ab (.c 1 (.a Aa Ad) (.a Ab Ad) .z) 0 rfl (le_of_eq h1.symm)))
     have:=ih _ _ h;simp[gStep] at this;exact(ar [_,_,_] Aa (.a Ab (.a Ag Ad)) (.c 1 Aa (.a (.a Ab Ad) Ag) .z) 0 rfl this)
  have:=this 105 _ _ r1;simp at this;exact(ar [_] Aa Am (.c 1 Aa (.n 105) .z) 0 rfl this)
theorem line_cut{tied:Lz}{m:Nat}(g:GoodT tied m){ns:List Int}(hn:ns.length=m)(hneg:∀ n∈ns,n<0){ord:List Nat}(ho:ord.Perm (List.range m)){N:Nat}{z:Gm}
  (hr:gRun putQ tied N ⟨ord.filter (fun k=>decide ((A8 tied m).1.getD k 0 % 2=0))++ord.filter (fun k=>decide ((A8 tied m).1.getD k 0 % 2=1)),ns,[],[]⟩=some z) :
  ((dueT tied).map List.length).sum=z.tu.length∧cutOf z.tu ((dueT tied).map List.length) 0=(dueT tied).map fun l=>l.map fun n=>((n:Nat):Int):=by
 have R:=rnd_of g.ties hn hneg _ (Gf m) g.rnd;rw[ev_unit m ns hn] at R;have hlt:∀ k∈ord,k<m:=fun k hk=>List.mem_range.mp (ho.mem_iff.mp hk)
 obtain⟨ts,e1,e2⟩:=line_rounds g.ties g.bip _ hn (fun k hk=>by
   obtain⟨a,b⟩:=List.mem_filter.mp hk;exact⟨hlt k a,of_decide_eq_true b⟩) (fun k hk=>by
   obtain⟨a,b⟩:=List.mem_filter.mp hk;exact⟨hlt k a,of_decide_eq_true b⟩) (fun k hk V=>((Ea ho _).mem_iff.mpr (List.mem_range.mpr hk))) R hr
 rw[nil_append] at e1;refine rz (e1 ..) <| ⟨(pcs_len ts _ e2).symm,?_⟩
 exact pcs_cut ts _ [] e2 (due_sorted _ _ _ _)
theorem Bp(n:Int)(c:Nat)(l:List Nat):stepN n c+(l.count 10:Nat)=n+((c::l).count 10:Nat):=by
 unfold stepN;refine rz (count_cons ..) ?_
 by_cases h:c=10
 ·subst h;simp;exact(Int.le_antisymm (ai [_] [_] (.a (.a Af Ah) (.c Aa)) (.a Af (.a (.c Aa) Ah)) .z 0 rfl) (ai [_] [_] (.a Af (.a (.c Aa) Ah)) (.a (.a Af Ah) (.c Aa)) .z 0 rfl))
 ·refine rz (if_neg h ..) <| rz (if_neg (by simpa using h) ..) ?_;simp
theorem Gw(r:List Nat)(w:Nat)(wd:List Nat):escOf r (w::wd)=(if w∈r then [92,w] else [w])++escOf r wd:=rfl
theorem lexQ_word:∀ (wd acc:List Nat) (n:Int) (rest:List Nat),lexQ acc n (escOf [34,92] wd++34::rest)=(acc++wd,rest,n+((escOf [34,92] wd++[34]).count 10:Nat))
 |[],acc,n,rest=>by cases rest<;>simp[escOf,lexQ,stepN]
 |w::wd,acc,n,rest=>by
  have ih:=fun acc n=>lexQ_word wd acc n rest
  refine rz (Gw ..) ?_
  by_cases h:w∈[34,92]
  ·refine rz (if_pos h ..) ?_
   show lexQ acc n (92::w::(escOf [34,92] wd++34::rest))=_
   rw[lexQ,if_neg (by decide),if_pos rfl,ih]
   refine rz (Bp ..) <| rz (append_assoc ..) <| rz (show stepN n 92=n from rfl) ?_
   simp[count_cons]
  ·refine rz (if_neg h ..) ?_
   show lexQ acc n (w::(escOf [34,92] wd++34::rest))=_
   simp at h;obtain⟨d,r,e⟩:∃ d r,escOf [34,92] wd++34::rest=d::r:=by
    cases hh:escOf [34,92] wd++34::rest with
    |nil=>simp at hh
    |cons d r=>exact⟨d,r,rfl⟩
   rw[e,lexQ,if_neg h.1,if_neg h.2,← e,ih,Bp];simp
theorem lexB_word{r:List Nat}(hr:∀ c,c∈[92,10,9,13,32]→c∈r){b:Nat}(hb:isW b=true):∀ (wd acc:List Nat) (n:Int) (rest:List Nat),lexB acc n (escOf r wd++b::rest)=(acc++wd,rest,n+((escOf r wd++[b]).count 10:Nat))
 |[],acc,n,rest=>by
  show lexB acc n (b::rest)=_
  have:=Bp n b [];simp only[List.count_nil] at this;cases rest with
  |nil=>rw[lexB,if_pos hb];simp[escOf] at this⊢;exact(Int.le_antisymm (Int.le_of_eq this) (Int.le_of_eq this.symm))
  |cons d q=>rw[lexB,if_pos hb];simp[escOf] at this⊢;exact(Int.le_antisymm (Int.le_of_eq this) (Int.le_of_eq this.symm))
 |w::wd,acc,n,rest=>by
  have ih:=fun acc n=>lexB_word hr hb wd acc n rest
  refine rz (Gw ..) ?_
  by_cases h:w∈r
  ·refine rz (if_pos h ..) ?_
   show lexB acc n (92::w::(escOf r wd++b::rest))=_
   rw[lexB,if_neg (by decide),if_pos rfl,ih]
   refine rz (Bp ..) <| rz (append_assoc ..) <| rz (show stepN n 92=n from rfl) ?_
   simp[count_cons]
  ·refine rz (if_neg h ..) ?_
   show lexB acc n (w::(escOf r wd++b::rest))=_
   obtain⟨d,q,e⟩:∃ d q,escOf r wd++b::rest=d::q:=by
    cases hh:escOf r wd++b::rest with
    |nil=>simp at hh
    |cons d q=>exact⟨d,q,rfl⟩
   have h1:¬ isW w=true:=fun q=>h (hr w ((show ∀ x∈[10,9,13,32],x∈[92,10,9,13,32] by decide) w (of_decide_eq_true q)))
   have h2:w≠92:=fun q=>h (hr w (by simp[q]))
   rw[e,lexB,if_neg h1,if_neg h2,← e,ih,Bp];simp
theorem lexTok_word{wd:List Nat}(h0:wd≠[])(bare:Bool){b:Nat}(hb:isW b=true)(n:Int)(rest:List Nat):Bb n (Bd wd bare b++rest)=(wd,rest,n+((Bd wd bare b).count 10:Nat)):=by
 unfold Bd;cases bare with
 |false =>
  refine rz (if_neg (by decide) ..) ?_
  show Bb n (b::34::((escOf [34,92] wd++[34])++rest))=_
  rw[Bb,if_pos hb,Bb,if_neg (by decide),if_pos rfl,append_assoc]
  show lexQ [] _ (escOf [34,92] wd++34::rest)=_
  refine rz (lexQ_word ..) <| rz (Bp ..) <| rz (Bp ..) ?_
  rfl
 |true =>
  refine rz (if_pos rfl ..) ?_;have hr:∀ c,c∈[92,10,9,13,32]→c∈Cn wd true:=fun c hc=>by unfold Cn;refine rz (if_pos rfl ..) <| mem_append_right _ hc
  cases wd with
  |nil=>exact absurd rfl h0
  |cons w wd =>
   have h34:w=34→w∈Cn (w::wd) true:=fun e=>by subst e;simp[Cn]
   generalize Cn (w::wd) true=r at hr h34
   refine rz (Gw ..) <| rz (append_assoc ..) <| rz (append_assoc ..) <| rz (append_assoc ..) ?_
   show Bb n (_++(escOf r wd++b::rest))=_
   by_cases h:w∈r
   ·refine rz (if_pos h ..) ?_
    show Bb n (92::w::(escOf r wd++b::rest))=_
    rw[Bb,if_neg (by decide),if_neg (by decide),if_pos rfl]
    show lexB [w] (stepN (stepN n 92) w+0 |> fun V=>lnOf (stepN n 92) (w::(escOf r wd++b::rest))) (escOf r wd++b::rest)=_
    have e:lnOf (stepN n 92) (w::(escOf r wd++b::rest))=stepN n w:=by unfold lnOf stepN;simp
    show lexB [w] (lnOf (stepN n 92) (w::(escOf r wd++b::rest))) (escOf r wd++b::rest)=_
    refine rz (e ..) <| rz (lexB_word hr hb ..) <| rz (Bp ..) ?_
    simp[count_cons]
   ·refine rz (if_neg h ..) ?_
    show Bb n (w::(escOf r wd++b::rest))=_
    have h1:¬ isW w=true:=fun q=>h (hr w ((show ∀ x∈[10,9,13,32],x∈[92,10,9,13,32] by decide) w (of_decide_eq_true q)))
    have h2:w≠92:=fun q=>h (hr w (by simp[q]))
    have h3:w≠34:=fun q=>h (h34 q)
    rw[Bb,if_neg h1,if_neg h3,if_neg h2,lexB_word hr hb,Bp];simp
theorem lexTok_last(bare:Bool){b:Nat}(hb:isW b=true)(n:Int):Bb n (Bd [46] bare b).dropLast=([46],[],n+((Bd [46] bare b).dropLast.count 10:Nat)):=by
 unfold Bd;cases bare with
 |false =>
  refine rz (if_neg (by decide) ..) ?_
  show Bb n [b,34,46]=_
  rw[Bb,if_pos hb,Bb,if_neg (by decide),if_pos rfl,lexQ,if_neg (by decide),if_neg (by decide)]
  show([46],[],stepN (stepN (stepN n b) 34) 46)=_
  have:=Bp n b [34,46];rw[show(([34,46]:List Nat).count 10:Nat)=0 from rfl] at this
  refine rz (show stepN (stepN (stepN n b) 34) 46=stepN n b from rfl) ?_
  have e:([b,34]++escOf (Cn [46] false) [46]++[34]).dropLast=[b,34,46]:=rfl;refine rz (e ..) <| rz (Eq.symm (this ..)) ?_
  simp
 |true =>
  refine rz (if_pos rfl ..) ?_
  show Bb n [46]=([46],[],n+(([46]:List Nat).count 10:Nat))
  refine rz (show(([46]:List Nat).count 10:Nat)=0 from rfl) ?_
  show([46],[],n)=_
  simp
theorem lexQ_suf:∀ (cs:List Nat) (acc:List Nat) (n:Int),(lexQ acc n cs).2.1 <:+ cs:=by
 intro cs
 induction h:cs.length using Nat.strongRecOn generalizing cs with
 |ind k ih =>
  intro acc n
  match cs,h with
  |[],_=>exact suffix_refl _
  |[c],_=>unfold lexQ;split;exact nil_suffix;split<;>exact nil_suffix
  |c::d::r,h =>
   unfold lexQ
   split
   ·exact suffix_cons _ _
   ·split
    ·exact(ih r.length (by simp at h;exact(le_of_lt (le_of_eq h))) r rfl _ _).trans ((suffix_cons _ _).trans (suffix_cons _ _))
    ·exact(ih (d::r).length (by simp at h⊢;exact(le_of_eq h)) (d::r) rfl _ _).trans (suffix_cons _ _)
theorem lexB_suf:∀ (cs:List Nat) (acc:List Nat) (n:Int),(lexB acc n cs).2.1 <:+ cs:=by
 intro cs
 induction h:cs.length using Nat.strongRecOn generalizing cs with
 |ind k ih =>
  intro acc n
  match cs,h with
  |[],_=>exact suffix_refl _
  |[c],_=>unfold lexB;split;exact nil_suffix;split<;>exact nil_suffix
  |c::d::r,h =>
   unfold lexB
   split
   ·exact suffix_cons _ _
   ·split
    ·exact(ih r.length (by simp at h;exact(le_of_lt (le_of_eq h))) r rfl _ _).trans ((suffix_cons _ _).trans (suffix_cons _ _))
    ·exact(ih (d::r).length (by simp at h⊢;exact(le_of_eq h)) (d::r) rfl _ _).trans (suffix_cons _ _)
theorem lexTok_suf:∀ (cs:List Nat) (n:Int),(Bb n cs).2.1 <:+ cs
 |[],n=>suffix_refl _
 |c::r,n=>by
  unfold Bb
  split
  ·exact(lexTok_suf r _).trans (suffix_cons _ _)
  ·split
   ·exact(lexQ_suf _ _ _).trans (suffix_cons _ _)
   ·split
    ·exact(lexB_suf _ _ _).trans ((List.drop_suffix 1 r).trans (suffix_cons _ _))
    ·exact(lexB_suf _ _ _).trans (suffix_cons _ _)
theorem lexAt_suf(n:Int)(cs:List Nat):∀ i,(lexAt n cs i).2 <:+ cs
 |0=>suffix_refl _
 |i+1=>(lexTok_suf _ _).trans (lexAt_suf n cs i)
theorem lexAt_words(last:List Nat):∀ (ps:List (List Nat × List Nat)) (n:Int),(∀ p∈ps,∀ n rest,Bb n (p.2++rest)=(p.1,rest,n+(p.2.count 10:Nat)))→∀ i,i≤ps.length →
  lexAt n ((ps.map (·.2)).flatten++last) i=(n+(((ps.map (·.2)).take i).flatten.count 10:Nat),((ps.map (·.2)).drop i).flatten++last):=by
 intro ps n hp i
 induction i with
 |zero=>intro _;simp[lexAt]
 |succ i ih =>
  intro hi;have e:=List.getElem?_eq_getElem (show i<ps.length by exact hi)
  have ed:(ps.map (·.2)).drop i=ps[i].2::(ps.map (·.2)).drop (i+1):=by
   refine rz (drop_eq_getElem_cons (by rw[length_map];exact hi) ..) <| rz (getElem_map ..) rfl
  have et:(ps.map (·.2)).take (i+1)=(ps.map (·.2)).take i++[ps[i].2]:=by
   refine rz (take_add_one ..) <| rz (List.getElem?_map ..) <| rz (e ..) ?_;rfl
  rw[lexAt,ih (le_of_lt hi)];dsimp only;refine rz (ed ..) <| rz (flatten_cons ..) <| rz (append_assoc ..) <| rz (hp _ (getElem_mem _) ..) <| rz (et ..) ?_
  simp[count_append];exact(Int.le_antisymm (ai [_,_] [_] (.a (.a Af (.c Aa)) (.c Ab)) (.a Af (.a (.c Aa) (.c Ab))) .z 0 rfl) (ai [_,_] [_] (.a Af (.a (.c Aa) (.c Ab))) (.a (.a Af (.c Aa)) (.c Ab)) .z 0 rfl))
noncomputable def Ed:Nat→Lz
 |0=>[[]]
 |n+1=>[]::(Ed n).flatMap fun l=>[32::l,9::l]
theorem mem_leads:∀ (n:Nat) (l:List Nat),l.length≤n→(∀ c∈l,c=32∨c=9)→l∈Ed n
 |0,[],_,_=>List.mem_singleton.mpr rfl
 |n+1,[],_,_=>.head _
 |n+1,c::l,h,hc=>by
  refine .tail _ (List.mem_flatMap.mpr ⟨l,mem_leads n l (by simpa using h) fun x hx=>hc x (.tail _ hx),?_⟩)
  rcases hc c (.head _) with rfl | rfl<;>simp
theorem lead_in(h:Nat):D3 h∈Ed 5:=by
 refine mem_leads 5 _ ?_ ?_
 ·unfold D3;refine rz (length_map ..) <| rz (length_range ..) <| (ar [_] Aa At (.c 1 (.a Aa Ad) (.n 6) .z) 0 rfl (mod_lt _ (by decide)))
 ·intro c hc;obtain⟨j,_,rfl⟩:=List.mem_map.mp hc
  split
  ·exact .inl rfl
  ·exact .inr rfl
noncomputable def tabL(a:List Nat):List Int:=(rng 1 6).map fun sz=>colOf sz a
noncomputable def leadA(a:List Nat):Bool:=decide (Cb a=a)&&decide ((wsOf a).n=a.length)&&((List.range 5).all fun ts=>decide (indOf (wsOf a) (ts+1)=colOf ((ts+1:Nat):Int) a))&&(List.range 6).all fun ts=>decide (0≤colOf ((ts:Nat):Int) a∧colOf ((ts:Nat):Int) a≤100)
theorem leads_a:(Ed 5).all leadA=true:=by decide +kernel
theorem leads_b:((Ed 5).all fun a=>(Ed 5).all fun b=>C4 (wsOf a) (wsOf b) == ltAll (tabL a) (tabL b))=true:=by decide +kernel
theorem ltAll_trans:∀ {a b c:List Int},a.length=b.length→b.length=c.length→ltAll a b=true→ltAll b c=true→ltAll a c=true
 |[],_,_,_,_,_,_=>by simp[ltAll]
 |x::a,[],_,h,_,_,_=>by simp at h
 |x::a,y::b,[],_,h,_,_=>by simp at h
 |x::a,y::b,z::c,h1,h2,h3,h4=>by
  simp only[ltAll,zip_cons_cons,all_cons,Bool.and_eq_true,decide_eq_true_eq] at h3 h4⊢
  exact⟨by exact(ai [] [_,_,_] (.a Af Ah) Aw (.i 1 (.a Af Ah) Ai (.i 1 (.a Ai Ah) Aw .z)) 0 rfl h3.1 h4.1),ltAll_trans (by simpa using h1) (by simpa using h2) h3.2 h4.2⟩
theorem Gi(a:List Nat):(tabL a).length=6:=by simp[tabL,rng]
section
variable(rows:Lz)
noncomputable def ldR(k:Nat):List Nat:=(rows.getD k []).dropLast
noncomputable def itR(k:Nat):LL:=(ldR rows k,[(rows.getD k []).getLastD 0])
noncomputable def ltR(j k:Nat):Bool:=ltAll (tabL (ldR rows j)) (tabL (ldR rows k))
noncomputable def stR:Nat→List Nat
 |0=>[]
 |k+1=>k::(stR k).filter fun j=>ltR rows j k
theorem ltR_trans{a b c:Nat}(h1:ltR rows a b=true)(h2:ltR rows b c=true):ltR rows a c=true:=ltAll_trans (by rw[Gi,Gi]) (by rw[Gi,Gi]) h1 h2
theorem stR_pair:∀ k,(stR rows k).Pairwise fun a b=>ltR rows b a=true
 |0=>.nil
 |k+1=>List.pairwise_cons.mpr ⟨fun b hb=>(List.mem_filter.mp hb).2,(stR_pair k).filter _⟩
theorem stR_eq:∀ k,stR rows k=((List.range k).filter fun j=>decide (∀ i,i<k→j<i→ltR rows j i=true)).reverse
 |0=>rfl
 |k+1=>by
  rw[stR,stR_eq k,range_succ,List.filter_append,reverse_append,List.filter_reverse,List.filter_filter];have:[k].filter (fun j=>decide (∀ i,i<k+1→j<i→ltR rows j i=true))=[k]:=by
   rw[List.filter_cons_of_pos,List.filter_nil];exact decide_eq_true fun i h1 h2=>by omega
  refine rz (this ..) ?_
  show _=k::_
  congr 2
  refine List.filter_congr fun j hj=>?_
  have hj:=List.mem_range.mp hj;rw[Bool.eq_iff_iff,Bool.and_eq_true,decide_eq_true_eq,decide_eq_true_eq]
  constructor
  ·rintro⟨h1,h2⟩ i hi hji
   by_cases e:i=k
   ·subst e;exact h1
   ·exact h2 i (by omega) hji
  ·intro h;exact⟨h k (le_refl _) hj,fun i hi hji=>h i (le_succ_of_le hi) hji⟩
noncomputable def upR(k:Nat):List Nat:=(stR rows k).filter fun j=>ltR rows j k
theorem popl_ok{z:WsS}{k:Nat}:∀ (S:List Nat),S.Pairwise (fun a b=>ltR rows b a=true)→(∀ j∈S,C4 (rowW (ldR rows j)) z=ltR rows j k) →
  popR z (S.map (itR rows))=match S.filter fun j=>ltR rows j k with | []=>(([],[]),[]) | j::r=>(itR rows j,r.map (itR rows))
 |[],_,_=>rfl
 |j::S,hp,hl=>by
  rw[List.pairwise_cons] at hp;have ih:=popl_ok S hp.2 fun i hi=>hl i (.tail _ hi)
  have hj:=hl j (.head _);rw[map_cons,popR]
  by_cases h:ltR rows j k=true
  ·refine rz (if_pos (.inr (by show C4 (rowW (ldR rows j)) z=true;rw[hj];exact h)) ..) <| rz (List.filter_cons_of_pos (p:=fun j=>ltR rows j k) h ..) ?_
   have:S.filter (fun j=>ltR rows j k)=S:=List.filter_eq_self.mpr fun i hi=>ltR_trans rows (hp.1 i hi) h
   exact rz (this ..) rfl
  ·rw[if_neg,List.filter_cons_of_neg (p:=fun j=>ltR rows j k) h]
   ·exact ih
   ·rintro(e | e)
    ·exact nomatch e
    ·exact h (rz (Eq.symm (hj ..)) <| e)
variable(hr:∀ r∈rows,r≠[]∧r.dropLast∈Ed 5∧isB (r.getLastD 0)=false)
include hr
theorem row_at{k:Nat}(hk:k<rows.length):rows.getD k []=ldR rows k++[(rows.getD k []).getLastD 0]∧ldR rows k∈Ed 5∧isB ((rows.getD k []).getLastD 0)=false:=by
 have hm:rows.getD k []∈rows:=by
  refine rz (List.getD_eq_getElem?_getD ..) <| rz (List.getElem?_eq_getElem hk ..) <| getElem_mem hk
 obtain⟨h1,h2,h3⟩:=hr _ hm;refine⟨?_,h2,h3⟩;unfold ldR;refine rz (List.getLastD_eq_getLast? ..) <| rz (List.getLast?_eq_some_getLast h1 ..) <| (dropLast_concat_getLast h1).symm
omit hr in
theorem Ez{a:List Nat}(h:a∈Ed 5):Cb a=a∧(wsOf a).n=a.length∧(∀ ts:Nat,1≤ts→ts≤5→indOf (wsOf a) ts=colOf (ts:Int) a)∧∀ ts:Nat,ts≤5→0≤colOf (ts:Int) a∧colOf (ts:Int) a≤100:=by
 have:=List.all_eq_true.mp leads_a a h;unfold leadA at this;simp only[Bool.and_eq_true,decide_eq_true_eq] at this
 obtain⟨⟨⟨h1,h2⟩,h3⟩,h4⟩:=this;refine⟨h1,h2,fun ts a1 a2=>?_,fun ts a2=>of_decide_eq_true (List.all_eq_true.mp h4 ts (List.mem_range.mpr (ar [_] (.a Aa Ad) (.n 6) (.c 1 Aa At .z) 0 rfl a2)))⟩
 have:=of_decide_eq_true (List.all_eq_true.mp h3 (ts-1) (List.mem_range.mpr (by omega)))
 rwa [show ts-1+1=ts by exact(le_antisymm (le_of_eq (sub_add_cancel a1)) (le_sa ..))] at this
omit hr in
theorem rowW_app{a:List Nat}(h:a∈Ed 5){c:Nat}(hc:isB c=false):rowW (a++[c])=wsOf a∧rowW a=wsOf a:=by
 have e:=(Ez h).1;unfold rowW;refine rz (e ..) <| ⟨?_,rfl⟩
 have:Cb (a++[c])=a:=by
  unfold Cb at e⊢
  rw[List.takeWhile_append_of_pos]
  ·rw[List.takeWhile_cons_of_neg,append_nil];unfold isB at hc;refine rz (hc ..) ?_;decide
  ·intro x hx;have:=List.all_takeWhile (p:=fun ch:Nat=>ch == 32||ch == 9) (l:=a)
   rw[e] at this;exact List.all_eq_true.mp this x hx
 exact rz (this ..) rfl
theorem rowW_at{k:Nat}(hk:k<rows.length):rowW (rows.getD k [])=wsOf (ldR rows k)∧rowW (ldR rows k)=wsOf (ldR rows k)∧(wsOf (ldR rows k)).n=(ldR rows k).length:=by
 obtain⟨h1,h2,h3⟩:=row_at rows hr hk;refine⟨?_,(rowW_app h2 h3).2,(Ez h2).2.1⟩;refine rz (h1 ..) <| (rowW_app h2 h3).1
theorem less_at{j k:Nat}(hj:j<rows.length)(hk:k<rows.length):C4 (rowW (ldR rows j)) (rowW (rows.getD k []))=ltR rows j k:=by
 refine rz ((rowW_at rows hr hj).2.1 ..) <| rz ((rowW_at rows hr hk).1 ..) ?_
 have:=List.all_eq_true.mp (List.all_eq_true.mp leads_b _ (row_at rows hr hj).2.1) _ (row_at rows hr hk).2.1;exact eq_of_beq this
omit hr in
theorem stR_lt:∀ k,∀ j∈stR rows k,j<k
 |k,j,h=>by
  rw[stR_eq] at h;exact List.mem_range.mp (List.mem_filter.mp (List.mem_reverse.mp h)).1
noncomputable def hdR(k:Nat):List Nat:=match upR rows k with | []=>[] | j::_=>rows.getD j []
noncomputable def plR(k:Nat):List Nat:=((upR rows k).reverse.map fun j=>rows.getD j []).flatten++rows.getD k []
theorem it_cat{k:Nat}(hk:k<rows.length):(itR rows k).1++(itR rows k).2=rows.getD k []:=(row_at rows hr hk).1.symm
theorem nest_step{k:Nat}(hk:k<rows.length):nestR ((stR rows k).map (itR rows)) (rows.getD k [])=(stR rows (k+1)).map (itR rows)∧Fh ((stR rows k).map (itR rows)) (rows.getD k [])=hdR rows k:=by
 have P:=popl_ok rows (z:=rowW (rows.getD k [])) (k:=k) (stR rows k) (stR_pair rows k) fun j hj=>less_at rows hr (by have:=stR_lt rows k j hj;exact(ar [_,_,_] (.a Ag Ad) Ab (.c 1 (.a Aa Ad) Ab (.c 1 (.a Ag Ad) Aa .z)) 0 rfl hk this)) hk
 obtain⟨w1,w2,w3⟩:=rowW_at rows hr hk;have e1:=(row_at rows hr hk).1;have ht:((rows.getD k []).take (rowW (rows.getD k [])).n,(rows.getD k []).drop (rowW (rows.getD k [])).n)=itR rows k:=by
  refine rz (w1 ..) <| rz (w3 ..) ?_
  unfold itR;generalize (rows.getD k []).getLastD 0=c at e1;refine rz (e1 ..) <| rz (take_left ..) <| rz (List.drop_left ..) rfl
 unfold nestR Fh hdR;rw[ht,P,stR,map_cons];unfold upR;cases e:(stR rows k).filter fun j=>ltR rows j k with
 |nil=>simp
 |cons j r =>
  dsimp only;refine rz (if_neg (by unfold itR;simp) ..) ?_
  have hj:j<k:=stR_lt rows k j (List.mem_filter.mp (e▸mem_cons_self)).1;exact⟨rfl,it_cat rows hr (ar [_,_,_] (.a Ag Ad) Ab (.c 1 (.a Aa Ad) Ab (.c 1 (.a Ag Ad) Aa .z)) 0 rfl hk hj)⟩
theorem nest_run:∀ k,k≤rows.length→B8 (rows.take k)=⟨(stR rows k).map (itR rows),(List.range k).map (hdR rows),(List.range k).map (plR rows)⟩
 |0,_=>rfl
 |k+1,h=>by
  have ih:=nest_run k (le_of_lt h);unfold B8 at ih⊢
  have e:rows[k]?=some (rows.getD k []):=by refine rz (List.getD_eq_getElem?_getD ..) <| rz (List.getElem?_eq_getElem (h) ..) ?_;rfl
  obtain⟨n1,n2⟩:=nest_step rows hr (show k<rows.length by exact h)
  refine rz (take_add_one ..) <| rz (e ..) <| rz (foldl_append ..) <| rz (ih ..) <| rz (range_succ ..) <| rz (map_append ..) <| rz (map_append ..) ?_
  show Cm _ _=_
  unfold Cm;dsimp only;refine rz (n1 ..) <| rz (n2 ..) ?_
  congr 1
  show _++[_]=_++[_]
  congr 2
  unfold catL plR;rw[stR,map_cons,reverse_cons,map_append,flatten_append,← List.map_reverse,map_map]
  congr 1
  ·congr 1
   refine map_congr_left fun j hj=>?_
   have hj:=(List.mem_filter.mp (List.mem_reverse.mp hj)).1;exact it_cat rows hr (by have:=stR_lt rows k j hj;exact(ar [_,_,_] (.a Ag Ad) Ab (.c 1 (.a Aa Ad) Ab (.c 1 (.a Ag Ad) Aa .z)) 0 rfl h this))
  ·simp only[map_cons,map_nil,flatten_cons,flatten_nil,append_nil];exact it_cat rows hr (h)
omit hr in
theorem open_eq{k:Nat}(hk:k<rows.length):B7 (belOf rows) k=(upR rows k).reverse:=by
 unfold B7 upR;refine rz (Eq.symm (List.filter_reverse ..)) <| rz (stR_eq ..) <| rz (List.reverse_reverse ..) <| rz (List.filter_filter ..) <| List.filter_congr fun j hj=>?_
 have hj:=List.mem_range.mp hj;have hb:(belOf rows).getD j []=rows.map fun b=>ltAll (tabOf (rows.getD j [])) (tabOf b):=by
  unfold belOf;refine rz (List.getD_eq_getElem?_getD ..) <| rz (List.getElem?_map ..) <| rz (List.getD_eq_getElem?_getD ..) <| rz (List.getElem?_eq_getElem (show j<rows.length by exact(ar [_,_,_] (.a Ag Ad) Ab (.c 1 (.a Aa Ad) Ab (.c 1 (.a Ag Ad) Aa .z)) 0 rfl hk hj)) ..) ?_
  rfl
 rw[hb,Bool.eq_iff_iff,Bool.not_eq_true',decide_eq_false_iff_not,Bool.and_eq_true,decide_eq_true_eq];have key:∀ i,i<rows.length→(rows.map fun b=>ltAll (tabOf (rows.getD j [])) (tabOf b))[i]?=some (ltR rows j i):=fun i hi=>by
  refine rz (List.getElem?_map ..) <| rz (List.getElem?_eq_getElem hi ..) ?_
  show some _=some _
  congr 1
  unfold ltR ldR tabL tabOf;refine rz (List.getD_eq_getElem?_getD (i:=i) ..) <| rz (List.getElem?_eq_getElem hi ..) ?_
  rfl
 constructor
 ·intro h;have h':∀ i,j<i→i≤k→ltR rows j i=true:=fun i h1 h2=>by
   refine Classical.byContradiction fun q=>h ?_
   have q:ltR rows j i=false:=by simpa using q
   refine List.mem_of_getElem? (i:=i-(j+1)) ?_;refine rz (List.getElem?_take ..) <| rz (if_pos (by omega) ..) <| rz (List.getElem?_drop ..) <| rz (show j+1+(i-(j+1))=i by exact(le_antisymm (ar [_,_,_] (.a (.a Ab Ad) Aa) Ag (.c 1 (.a Aa (.a Ab Ad)) Ag .z) 0 rfl (le_of_eq (sub_add_cancel h1))) (ar [_,_,_] Aa (.a (.a Ag Ad) Ab) (.c 1 Aa (.a Ab (.a Ag Ad)) .z) 0 rfl (le_sa ..)))) <| rz (key i (by exact(ar [_,_,_] (.a Ag Ad) Ab (.c 1 (.a Aa Ad) Ab (.c 1 Ag Aa .z)) 0 rfl hk h2)) ..) <| rz (q ..) rfl
  exact⟨h' k hj (le_refl _),fun i h1 h2=>h' i h2 (by exact(le_of_lt h1))⟩
 ·rintro⟨h1,h2⟩ hm;obtain⟨x,hx⟩:=List.mem_iff_getElem?.mp hm;rw[List.getElem?_take] at hx
  split at hx
  ·rw[List.getElem?_drop,key _ (by omega)] at hx
   have hx:ltR rows j (j+1+x)=false:=Option.some.inj hx
   by_cases e:j+1+x=k
   ·rw[e,h1] at hx;exact nomatch hx
   ·rw[h2 _ (by omega) (by exact(ar [_,_] (.a Aa Ad) (.a (.a Aa Ad) Ab) .z 0 rfl))] at hx;exact nomatch hx
  ·exact nomatch hx
theorem nest_due:(B8 rows).heads=(Ch rows).map (fun h=>([]::rows).getD (h+1).toNat [])∧(B8 rows).piled=dpiled rows:=by
 have N:=nest_run rows hr rows.length (le_refl _);rw[take_length] at N;refine rz (N ..) ?_
 unfold Ch dpiled
 constructor
 ·refine rz (map_map ..) <| map_congr_left fun k hk=>?_
  have hk:=List.mem_range.mp hk
  show hdR rows k=([]::rows).getD (((((B7 (belOf rows) k).getLast?).map fun j=>((j:Nat):Int)).getD (-1))+1).toNat []
  refine rz (open_eq rows hk ..) <| rz (List.getLast?_reverse ..) ?_
  unfold hdR;cases upR rows k with
  |nil=>rfl
  |cons j r=>show _=([]::rows).getD (((j:Nat):Int)+1).toNat [];refine rz (show(((j:Nat):Int)+1).toNat=j+1 by exact(le_antisymm (an [_,_] [] Aa (.a Ab Ad) (.i 1 (.c Aa) (.a (.c Ab) Ah) .z) 0 rfl (Int.le_of_eq (toNat_of_nonneg (ai [_] [] Aj (.a (.c Aa) Ah) .z 0 rfl)))) (an [_,_] [] (.a Aa Ad) Ab (.i 1 (.a (.c Aa) Ah) (.c Ab) .z) 0 rfl (self_le_toNat _)))) ?_;rfl
 ·refine map_congr_left fun k hk=>?_
  have hk:=List.mem_range.mp hk;unfold plR;exact rz (open_eq rows hk ..) rfl
omit hr in
theorem dheads_ok:(Ch rows).length=rows.length∧∀ (k:Nat) (h:Int),(Ch rows)[k]?=some h→-1≤h∧h<k:=by
 unfold Ch;refine⟨by simp,fun k h hk=>?_⟩
 rw[List.getElem?_map] at hk;obtain⟨i,hi,rfl⟩:=Option.map_eq_some_iff.mp hk
 obtain⟨hi1,rfl⟩:=List.getElem?_eq_some_iff.mp hi;rw[List.getElem_range] at *
 simp only[length_range] at hi1;cases e:(B7 (belOf rows) k).getLast? with
 |none=>simp;exact(ai [_] [] (.a As Ah) (.c Aa) .z 0 rfl)
 |some j =>
  have hj:=List.mem_of_getLast? e;have:=List.mem_range.mp (List.mem_filter.mp hj).1;simp;exact this
end
theorem occ_count(l:List Nat)(c:Nat):∀ (k i:Nat) (st:Array Nat × Nat),i+k=l.length+1→st.fst.size≤i→st.snd≤i →
  (forIn (List.range' i k) st (StrLaws.occBody (tx l) ⟨#[c]⟩ l.length (l.length+1))).run.fst.size=st.fst.size+(l.drop i).count c
 |0,i,st,h,_,_=>by
  refine rz (drop_of_length_le (ar [_,_] Aa Ab (.c 1 (.a Aa Ad) (.a Ab Al) .z) 0 rfl (le_of_eq h.symm)) ..) ?_;rfl
 |k+1,i,st,h,h1,h2=>by
  refine rz (List.range'_succ ..) <| rz (forIn_cons ..) ?_
  have hs:=StrLaws.subAt_one (tx l) c i;have e:(tx l).cps.toList=l:=by simp[tx]
  have el:(tx l).length=l.length:=by unfold tx;simp[Str.length]
  rw[e,el] at hs;unfold StrLaws.occBody
  by_cases hc:l[i]?=some c
  ·obtain⟨a,b⟩:=hs.mpr hc;have hi:i<l.length:=(List.getElem?_eq_some_iff.mp hc).1;refine rz (if_pos ⟨⟨⟨by exact(ar [_,_,_,_] (.a An Ad) (.a Ag Ad) (.c 1 (.a Aa (.a Ab Ad)) (.a Ag Ad) (.c 1 An Aa .z)) 0 rfl (le_of_eq h) h1),h2⟩,a⟩,b⟩ ..) ?_
   have:=occ_count l c k (i+1) (st.fst.push i,i+1) (le_antisymm (ar [_,_,_] (.a (.a Aa Ad) Ab) (.a Ag Ad) (.c 1 (.a Aa (.a Ab Ad)) (.a Ag Ad) .z) 0 rfl (le_of_eq h)) (ar [_,_,_] (.a Aa Ad) (.a (.a Ab Ad) Ag) (.c 1 (.a Aa Ad) (.a Ab (.a Ag Ad)) .z) 0 rfl (le_of_eq h.symm))) (by simp;exact h1) (le_refl _)
   refine Eq.trans this ?_;refine rz (drop_eq_getElem_cons hi ..) <| rz ((List.getElem?_eq_some_iff.mp hc).2 ..) <| rz (List.count_cons_self ..) ?_
   simp;exact(le_antisymm (ar [_,_] (.a (.a Aa Ad) Ab) (.a Aa (.a Ab Ad)) .z 0 rfl) (ar [_,_] (.a Aa (.a Ab Ad)) (.a (.a Aa Ad) Ab) .z 0 rfl))
  ·refine rz (if_neg (fun q=>hc (hs.mp ⟨q.1.2,q.2⟩)) ..) <| Eq.trans (occ_count l c k (i+1) (st.fst,st.snd) (le_antisymm (ar [_,_,_] (.a (.a Aa Ad) Ab) (.a Ag Ad) (.c 1 (.a Aa (.a Ab Ad)) (.a Ag Ad) .z) 0 rfl (le_of_eq h)) (ar [_,_,_] (.a Aa Ad) (.a (.a Ab Ad) Ag) (.c 1 (.a Aa Ad) (.a Ab (.a Ag Ad)) .z) 0 rfl (le_of_eq h.symm))) (by show st.fst.size≤_;exact(le_succ_of_le h1)) (by show st.snd≤_;exact(le_succ_of_le h2))) ?_
   by_cases hi:i<l.length
   ·rw[drop_eq_getElem_cons hi,count_cons,if_neg]
    ·rfl
    ·intro q;exact hc (by refine rz (List.getElem?_eq_getElem hi ..) <| rz (eq_of_beq q ..) rfl)
   ·refine rz (drop_of_length_le (le_succ_of_le (le_of_not_lt hi)) ..) <| rz (drop_of_length_le (le_of_not_lt hi) ..) rfl
theorem count_tx(l:List Nat)(c:Nat):Txt.count (tx l) ⟨#[c]⟩=(l.count c:Nat):=by
 unfold Txt.count;refine rz (StrLaws.occ_eq ..) ?_;have el:(tx l).length=l.length:=by unfold tx;simp[Str.length]
 refine rz (el ..) <| rz (Array.length_toList ..) ?_
 have:=occ_count l c (l.length+1-0) 0 (#[],0) (le_antisymm (ar [_,_] (.a Al Aa) (.a Ab Ad) (.c 1 Aa (.a Ab Ad) .z) 0 rfl (sub_le ..)) (ar [_,_] (.a Aa Ad) (.a Al Ab) (.c 1 (.a Aa Ad) (.a Ab Al) .z) 0 rfl (le_sa ..))) (le_refl _) (le_refl _);refine rz (this ..) ?_;simp
theorem pick_at{α:Type}(l:List α)(lo hi st:Option Int)(n:Nat)(is:List Nat)(hn:l.length=n)(h:sliceRange (sliceBounds lo hi st n).1 (sliceBounds lo hi st n).2.1 (sliceBounds lo hi st n).2.2=is):pick l lo hi st=is.filterMap (l[·]?):=by
 unfold pick;refine rz (hn ..) <| rz (h ..) rfl
theorem pick_even4{α:Type}(a b c d e f g h:α):pick [a,b,c,d,e,f,g,h] none none (some 2)=[a,c,e,g]:=pick_at _ _ _ _ 8 [0,2,4,6] rfl (by decide +kernel)
theorem pick_odd4{α:Type}(a b c d e f g h:α):pick [a,b,c,d,e,f,g,h] (some 1) none (some 2)=[b,d,f,h]:=pick_at _ _ _ _ 8 [1,3,5,7] rfl (by decide +kernel)
theorem pick_even5{α:Type}(a b c d e f g h i j:α):pick [a,b,c,d,e,f,g,h,i,j] none none (some 2)=[a,c,e,g,i]:=pick_at _ _ _ _ 10 [0,2,4,6,8] rfl (by decide +kernel)
theorem pick_odd5{α:Type}(a b c d e f g h i j:α):pick [a,b,c,d,e,f,g,h,i,j] (some 1) none (some 2)=[b,d,f,h,j]:=pick_at _ _ _ _ 10 [1,3,5,7,9] rfl (by decide +kernel)
theorem sum_bound:∀ (l:List Int),0≤(l.map fun x=>x.fmod 1000000).sum∧(l.map fun x=>x.fmod 1000000).sum≤1000000*l.length
 |[]=>by simp
 |x::l=>by
  have:=sum_bound l;have h1:=Int.fmod_nonneg_of_pos x (b:=1000000) (by decide)
  have h2:=Int.fmod_lt_of_pos x (b:=1000000) (by decide)
  simp only[map_cons,sum_cons,length_cons];exact⟨(ai [] [_,_] Aj (.a Ai Af) (.i 1 Aj Af (.i 1 Aj Ai .z)) 0 rfl this.1 h1),(ai [_] [_,_] (.a Ai Af) (.m 1000000 (.c (.a Aa Ad))) (.i 1 Af (.m 1000000 (.c Aa)) (.i 1 (.a Ai Ah) (.q 1000000) .z)) 0 rfl this.2 h2)⟩
noncomputable def hsOf(script:List Int):List Nat:=(E0 script).map Int.toNat
theorem hs_ok(script:List Int)(h:script.length≤1000):E0 script=(hsOf script).map (fun n=>((n:Nat):Int))∧(hsOf script).length=11∧∀ x∈hsOf script,x<2^40:=by
 have key:∀ y∈E0 script,0≤y∧y<2^40:=by
  intro y hy;obtain⟨p,hp,rfl⟩:=List.mem_map.mp hy;have hb:=sum_bound (pick script (some (p.2:Int)) none (some 11));have hl:=pick_le script (some (p.2:Int)) none (some 11);have h1:p.1≤134:=by
   have hall:∀ x∈startsN,x≤134:=by decide
   exact hall p.1 (mem_zipIdx hp |>.2.2▸getElem_mem _)
  unfold heapSum;generalize (List.map (fun x:Int=>x.fmod 1000000) (pick script (some (p.2:Int)) none (some 11))).sum=S at hb
  exact⟨(ai [_] [_] Aj (.a (.c Aa) Af) (.i 1 Aj Af .z) 0 rfl hb.1),(ai [_,_,_] [_] (.a (.a (.c Ag) Af) Ah) Av (.c 1000000 Aa Am (.c 1000000 Ab Aa (.c 1 Ag (.n 134) (.i 1 Af (.m 1000000 (.c Ab)) .z)))) 0 rfl h hl h1 hb.2)⟩
 refine⟨?_,?_,?_⟩
 ·unfold hsOf;rw[map_map]
  conv=>lhs;rw[← map_id (E0 script)]
  refine map_congr_left fun y hy=>?_
  have:=key y hy;simp only[Function.comp,id];exact(Int.le_antisymm (self_le_toNat _) (Int.le_of_eq (toNat_of_nonneg this.1)))
 ·simp[hsOf,E0,startsN]
 ·intro x hx;obtain⟨y,hy,rfl⟩:=List.mem_map.mp hx;have:=key y hy;exact(an [_] [_] (.a Aa Ad) (.n 1099511627776) (.i 1 (.a Af Ah) Av (.i 1 (.c Aa) Af .z)) 0 rfl this.2 (Int.le_of_eq (toNat_of_nonneg this.1)))
theorem cons_erase:∀ (l:List Int) (i:Nat) (h:i<l.length),(l[i]::l.eraseIdx i).Perm l
 |x::l,0,_=>.refl _
 |x::l,i+1,h=>(List.Perm.swap x (l[i]'(by simpa using h)) (l.eraseIdx i)).trans ((cons_erase l i (by simpa using h)).cons x)
theorem orderN_perm:∀ (f d:Nat) (l:List Int),l.length=f→(Eo f d l).Perm l
 |0,d,l,h=>by refine rz (List.length_eq_zero_iff.mp h ..) <| .nil
 |f+1,d,l,h=>by
  have hi:d % l.length<l.length:=mod_lt _ (ar [_,_] (.a Al Ad) Ab (.c 1 (.a Aa Ad) Ab .z) 0 rfl (le_of_eq h.symm));rw[Eo,List.getElem?_eq_getElem hi];have ih:=orderN_perm f (d / l.length) (l.eraseIdx (d % l.length)) (rz (length_eraseIdx_of_lt hi ..) <| (le_antisymm (ar [_,_,_] Ag Ab (.c 1 Aa (.a Ab Ad) (.c 1 (.a Ag Ad) Aa .z)) 0 rfl (le_of_eq h) (le_of_eq (sub_add_cancel (ar [_,_] Ad Ab (.c 1 (.a Aa Ad) Ab .z) 0 rfl (le_of_eq h.symm))))) (ar [_,_,_] Aa Ag (.c 1 (.a Aa Ad) Ab (.c 1 Ab (.a Ag Ad) .z)) 0 rfl (le_of_eq h.symm) (le_sa ..))))
  exact(ih.cons _).trans (cons_erase l _ hi)
theorem order_perm(d m:Nat):∃ ord:List Nat,Dp d m=ord.map (fun n=>((n:Nat):Int))∧ord.Perm (List.range m):=by
 have h:=orderN_perm m d (rng 0 m) (by simp[rng])
 have e:rng 0 m=(List.range m).map fun n=>((n:Nat):Int):=by
  unfold rng;exact map_congr_left fun i V=>by exact(Int.le_antisymm (ai [_] [] (.a Aj (.c Aa)) (.c Aa) .z 0 rfl) (ai [_] [] (.c Aa) (.a Aj (.c Aa)) .z 0 rfl))
 refine⟨(Dp d m).map Int.toNat,?_,?_⟩
 ·rw[map_map]
  conv=>lhs;rw[← map_id (Dp d m)]
  refine map_congr_left fun y hy=>?_
  have hy':y∈rng 0 m:=h.mem_iff.mp hy;rw[e] at hy'
  obtain⟨i,_,rfl⟩:=List.mem_map.mp hy';simp
 ·have:=h.map Int.toNat;rw[e,map_map] at this;unfold Dp
  rw[e];refine this.trans ?_;rw[show(Int.toNat ∘ fun n:Nat=>((n:Nat):Int))=id from funext fun n=>by simp,map_id]
theorem numT_eq(h:Nat):numT (-1-(h:Int))=45::(Nat.toDigits 10 (h+1)).map Char.toNat:=by
 unfold numT;refine rz (show(-1-(h:Int))=Int.negSucc h by omega) <| rz (signs_ofString ..) ?_
 show("-" ++ Nat.repr (h+1)).toList.map Char.toNat=_
 refine rz (String.toList_append ..) <| rz (map_append ..) <| rz (Nat.toList_repr ..) ?_
 rfl
theorem num_digits(h:Nat):NumText.AllDigits ((Nat.toDigits 10 (h+1)).map Char.toNat):=by
 intro c hc;obtain⟨ch,hch,e⟩:=List.mem_map.mp hc;have r:=digit_range (Nat.isDigit_of_mem_toDigits (by decide) (by decide) hch)
 refine rz (Eq.symm (e ..)) <| r
theorem numT_ok{h:Nat}(hb:h<2^40):(numT (-1-(h:Int))).length≤20∧numT (-1-(h:Int))≠[]∧okT (numT (-1-(h:Int)))∧PySem.intText? (tx (numT (-1-(h:Int))))=some (-1-(h:Int)):=by
 have hd:=num_digits h;have hl:(Nat.toDigits 10 (h+1)).length≤13:=toDigits_len_pow (by decide) (by decide) (ar [_] (.a (.a Aa Ad) Ad) (.n 10000000000000) (.c 1 (.a Aa Ad) (.n 1099511627776) .z) 0 rfl hb)
 have hg:=toDigits_len_ge 10 (h+1);refine rz (numT_eq ..) ?_;refine⟨by simp;exact(ar [_] Aa (.n 19) (.c 1 Aa (.n 13) .z) 0 rfl hl),by simp,?_,?_⟩
 ·intro c hc;rcases List.mem_cons.mp hc with rfl | hc
  ·decide
  ·have:=hd c hc;exact(ar [_] (.a Aa Ad) (.n 1114112) (.c 1 Aa (.n 57) .z) 0 rfl this.2)
 ·have:=intText_neg (x:=tx (45::(Nat.toDigits 10 (h+1)).map Char.toNat)) (cs:=(Nat.toDigits 10 (h+1)).map Char.toNat) (by simp[tx]) hd (by intro e;rw[List.map_eq_nil_iff] at e;rw[e] at hg;simp at hg) (by refine rz (A6 ..) ?_;simp;exact(ar [_] Aa (.n 4299) (.c 1 Aa (.n 13) .z) 0 rfl hl))
  refine rz (this ..) <| rz (KIN.val_back ..) ?_
  congr 1
  exact(Int.le_antisymm (ai [_] [] (.g (.c (.a Aa Ad))) (.s As (.c Aa)) .z 0 rfl) (ai [_] [] (.s As (.c Aa)) (.g (.c (.a Aa Ad))) .z 0 rfl))
theorem rows_len(hs:List Nat)(m:Nat):(Ba hs m).length=m:=by simp[Ba]
theorem name_ok:∀ k,k<5→isB (Eb k)=false∧Eb k<0x110000∧Eb k≠46:=by decide
theorem rows_ok(hs:List Nat){m:Nat}(hm:m≤5):∀ r∈Ba hs m,r≠[]∧r.length≤6∧okT r∧r.dropLast∈Ed 5∧isB (r.getLastD 0)=false∧r≠[46]:=by
 intro r hr;obtain⟨k,hk,rfl⟩:=List.mem_map.mp hr;have hk:=List.mem_range.mp hk;obtain⟨n1,n2,n3⟩:=name_ok k (le_trans hk hm);have hl:=lead_in (hs.getD (2*k+1) 0);have hlen:(D3 (hs.getD (2*k+1) 0)).length≤5:=by unfold D3;refine rz (length_map ..) <| rz (length_range ..) <| (ar [_] Aa At (.c 1 (.a Aa Ad) (.n 6) .z) 0 rfl (mod_lt _ (by decide)))
 have hok:okT (D3 (hs.getD (2*k+1) 0)):=by
  intro c hc;obtain⟨j,_,rfl⟩:=List.mem_map.mp hc
  split<;>decide
 generalize D3 (hs.getD (2*k+1) 0)=a at hl hlen hok
 refine⟨by simp,by simp;exact hlen,?_,by simpa using hl,by simpa [List.getLastD_eq_getLast?] using n1,?_⟩
 ·intro c hc;rcases List.mem_append.mp hc with h | h
  ·exact hok c h
  ·refine rz (List.mem_singleton.mp h ..) <| n2
 ·intro e;have:=congrArg List.getLast? e;simp at this;exact n3 this
theorem rows_nd(hs:List Nat){m:Nat}(hm:m≤5):(Ba hs m).Nodup:=by
 have e:(Ba hs m).map (fun r=>r.getLastD 0)=(List.range m).map Eb:=by
  unfold Ba;refine rz (map_map ..) <| map_congr_left fun k V=>by simp[Function.comp,List.getLastD_eq_getLast?]
 have hn:((List.range m).map Eb).Nodup:=by
  have:∀ m,m<6→((List.range m).map Eb).Nodup:=by decide
  exact this m (ar [_] (.a Aa Ad) (.n 6) (.c 1 Aa At .z) 0 rfl hm)
 rw[← e] at hn;exact List.Pairwise.of_map _ (fun a b h q=>h (rz (q ..) rfl)) hn
theorem words_ok(hs:List Nat)(hb:∀ x∈hs,x<2^40){m:Nat}(hm:m≤5):(Bv hs m).length=2*m∧∀ w∈Bv hs m,w≠[]∧w.length≤20∧okT w:=by
 constructor
 ·unfold Bv;refine rz (length_flatMap ..) ?_;have:∀ m,m<6→((List.range m).map fun V=>2).sum=2*m:=by decide
  exact this m (ar [_] (.a Aa Ad) (.n 6) (.c 1 Aa At .z) 0 rfl hm)
 ·intro w hw;obtain⟨k,hk,hw⟩:=List.mem_flatMap.mp hw;have hk:=List.mem_range.mp hk;rcases List.mem_cons.mp hw with rfl | hw
  ·have hm:(Ba hs m).getD k []∈Ba hs m:=by
    refine rz (List.getD_eq_getElem?_getD ..) <| rz (List.getElem?_eq_getElem (by rw[rows_len];exact hk) ..) <| getElem_mem _
   obtain⟨a,b,c,_⟩:=rows_ok hs (by assumption) _ hm
   exact⟨a,by exact(ar [_] Aa (.n 20) (.c 1 Aa (.n 6) .z) 0 rfl b),c⟩
  ·refine rz (List.mem_singleton.mp hw ..) ?_;have hh:hs.getD (2*k) 0<2^40:=by
    refine rz (List.getD_eq_getElem?_getD ..) ?_;cases e:hs[2*k]? with
    |none=>decide
    |some x=>exact hb x (List.mem_of_getElem? e)
   obtain⟨a,b,c,_⟩:=numT_ok hh;exact⟨b,a,c⟩
noncomputable def nums0(hs:List Nat)(m:Nat):List Int:=(List.range m).map fun k=>-1-((hs.getD (2*k) 0:Nat):Int)
theorem pick_words(hs:List Nat){m:Nat}(hm:m=4∨m=5):pick (Bv hs m) none none (some 2)=Ba hs m∧pick (Bv hs m) (some 1) none (some 2)=(nums0 hs m).map numT:=by
 rcases hm with rfl | rfl
 ·have e:Bv hs 4=[(Ba hs 4).getD 0 [],numT (-1-(hs.getD 0 0:Nat)),(Ba hs 4).getD 1 [],numT (-1-(hs.getD 2 0:Nat)),(Ba hs 4).getD 2 [],numT (-1-(hs.getD 4 0:Nat)),(Ba hs 4).getD 3 [],numT (-1-(hs.getD 6 0:Nat))]:=rfl;refine rz (e ..) <| ⟨pick_even4 _ _ _ _ _ _ _ _,pick_odd4 _ _ _ _ _ _ _ _⟩
 ·have e:Bv hs 5=[(Ba hs 5).getD 0 [],numT (-1-(hs.getD 0 0:Nat)),(Ba hs 5).getD 1 [],numT (-1-(hs.getD 2 0:Nat)),(Ba hs 5).getD 2 [],numT (-1-(hs.getD 4 0:Nat)),(Ba hs 5).getD 3 [],numT (-1-(hs.getD 6 0:Nat)),(Ba hs 5).getD 4 [],numT (-1-(hs.getD 8 0:Nat))]:=rfl;refine rz (e ..) <| ⟨pick_even5 _ _ _ _ _ _ _ _ _ _,pick_odd5 _ _ _ _ _ _ _ _ _ _⟩
theorem nums0_ok(hs:List Nat)(hb:∀ x∈hs,x<2^40)(m:Nat):(nums0 hs m).length=m∧∀ n∈nums0 hs m,n≤-1∧-2^41≤n∧(numT n).length≤640∧PySem.intText? (tx (numT n))=some n:=by
 refine⟨by simp[nums0],fun n hn=>?_⟩
 obtain⟨k,_,rfl⟩:=List.mem_map.mp hn;have hh:hs.getD (2*k) 0<2^40:=by
  refine rz (List.getD_eq_getElem?_getD ..) ?_;cases e:hs[2*k]? with
  |none=>decide
  |some x=>exact hb x (List.mem_of_getElem? e)
 obtain⟨a,_,_,d⟩:=numT_ok hh;exact⟨by exact(ai [_] [] (.s As (.c Aa)) As .z 0 rfl),by exact(ai [_] [] (.q (-2199023255552)) (.s As (.c Aa)) (.c 1 (.a Aa Ad) (.n 1099511627776) .z) 0 rfl hh),by exact(ar [_] Aa (.n 640) (.c 1 Aa (.n 20) .z) 0 rfl a),d⟩
theorem flat_len{α:Type}{b:Nat}:∀ (l:List (List α)),(∀ x∈l,x.length≤b)→l.flatten.length≤l.length*b
 |[],_=>by simp
 |x::l,h=>by
  have h1:=h x (.head _);have h2:=flat_len l fun y hy=>h y (.tail _ hy)
  refine rz (flatten_cons ..) <| rz (length_append ..) <| rz (length_cons ..) <| rz (Nat.succ_mul ..) <| (ar [_,_,_,_] (.a Aa Ag) (.a An Ab) (.c 1 Aa Ab (.c 1 Ag An .z)) 0 rfl h1 h2)
theorem Fp(i:Nat):isW (([10,9,13,32]:List Nat).getD (i % 4) 0)=true∧([10,9,13,32]:List Nat).getD (i % 4) 0<0x110000:=by
 have:∀ j,j<4→isW (([10,9,13,32]:List Nat).getD j 0)=true∧([10,9,13,32]:List Nat).getD j 0<0x110000:=by decide
 exact this _ (mod_lt _ (by decide))
theorem esc_ok(r:List Nat):∀ (wd:List Nat),(escOf r wd).length≤2*wd.length∧(okT wd→okT (escOf r wd))
 |[]=>⟨by simp[escOf],fun V c h=>nomatch h⟩
 |w::wd=>by
  obtain⟨a,b⟩:=esc_ok r wd;refine rz (Gw ..) ?_;refine⟨?_,fun h c hc=>?_⟩
  ·refine rz (length_append ..) <| rz (length_cons ..) ?_
   split<;>simp<;>(first | exact(ar [_,_] (.a (.n 2) Aa) (.m 2 (.a Ab Ad)) (.c 1 Aa (.m 2 Ab) .z) 0 rfl a) | exact(ar [_,_] (.a Ad Aa) (.m 2 (.a Ab Ad)) (.c 1 Aa (.m 2 Ab) .z) 0 rfl a))
  ·rcases List.mem_append.mp hc with hc | hc
   ·have hw:=h w (.head _)
    split at hc
    ·rcases List.mem_cons.mp hc with rfl | hc
     ·decide
     ·refine rz (List.mem_singleton.mp hc ..) <| hw
    ·refine rz (List.mem_singleton.mp hc ..) <| hw
   ·exact b (fun x hx=>h x (.tail _ hx)) c hc
theorem Eu(wd:List Nat)(bare:Bool){b:Nat}(hb:b<0x110000):(Bd wd bare b).length≤2*wd.length+3∧(okT wd→okT (Bd wd bare b))∧Bd wd bare b≠[]:=by
 obtain⟨a,e⟩:=esc_ok (Cn wd bare) wd;unfold Bd;cases bare with
 |true =>
  refine rz (if_pos rfl ..) <| ⟨by simp;exact(ar [_,_] Aa (.a (.m 2 Ab) (.n 2)) (.c 1 Aa (.m 2 Ab) .z) 0 rfl a),fun h c hc=>?_,by simp⟩
  rcases List.mem_append.mp hc with hc | hc
  ·exact e h c hc
  ·refine rz (List.mem_singleton.mp hc ..) <| hb
 |false =>
  refine rz (if_neg (by decide) ..) <| ⟨by simp;exact a,fun h c hc=>?_,by simp⟩
  rcases List.mem_append.mp hc with hc | hc
  ·rcases List.mem_append.mp hc with hc | hc
   ·rcases List.mem_cons.mp hc with rfl | hc
    ·exact hb
    ·refine rz (List.mem_singleton.mp hc ..) ?_;decide
   ·exact e h c hc
  ·refine rz (List.mem_singleton.mp hc ..) ?_;decide
theorem text_ok(n:Nat)(words:Lz)(h1:words.length≤20)(h:∀ w∈words,w≠[]∧w.length≤20∧okT w):∀ cs,cs=(textOf n words).flatten.dropLast →
  (cs.length≤100000∧okT cs)∧(∀ i wd,words[i]?=some wd→(Bb (lexAt 1 cs i).1 (lexAt 1 cs i).2).1=wd)∧Bb (lexAt 1 cs words.length).1 (lexAt 1 cs words.length).2=([46],[],(1:Int)+((cs.count 10:Nat):Int)):=by
 intro cs hcs;generalize hps:words.zipIdx.map (fun p:List Nat × Nat=>(p.1,Bd p.1 (decide ((n+p.2+p.2 / 2) % 2=1)) (([10,9,13,32]:List Nat).getD ((n+p.2) % 4) 0)))=ps
 generalize hW:Bd [46] (decide ((n+words.length+words.length / 2) % 2=1)) (([10,9,13,32]:List Nat).getD ((n+words.length) % 4) 0)=W;have hW0:W≠[]:=by refine rz (Eq.symm (hW ..)) <| (Eu _ _ (Fp _).2).2.2
 have hWl:W.length≤43∧okT W:=by
  refine rz (Eq.symm (hW ..)) ?_;have:=Eu [46] (decide ((n+words.length+words.length / 2) % 2=1)) (Fp (n+words.length)).2;exact⟨by have:=this.1;simp only[length_cons,length_nil] at this;exact(ar [_] Aa (.n 43) (.c 1 Aa (.a (.m 2 (.a Al Ad)) (.n 3)) .z) 0 rfl this),this.2.1 (by intro c hc;refine rz (List.mem_singleton.mp hc ..) ?_;decide)⟩
 have et:textOf n words=ps.map (·.2)++[W]:=by
  unfold textOf;refine rz (List.zipIdx_append ..) <| rz (map_append ..) <| rz (Eq.symm (hps ..)) <| rz (map_map ..) <| rz (Eq.symm (hW ..)) ?_
  simp[Function.comp_def]
 have ec:cs=(ps.map (·.2)).flatten++W.dropLast:=by
  refine rz (hcs ..) <| rz (et ..) <| rz (flatten_append ..) ?_
  simp only[flatten_cons,flatten_nil,append_nil];exact rz (List.dropLast_append_of_ne_nil hW0 ..) rfl
 have hpl:ps.length=words.length:=by refine rz (Eq.symm (hps ..)) ?_;simp
 have hmem:∀ p∈ps,p.1∈words∧∃ bare i,p.2=Bd p.1 bare (([10,9,13,32]:List Nat).getD (i % 4) 0):=by
  intro p hp;rw[← hps] at hp;obtain⟨q,hq,rfl⟩:=List.mem_map.mp hp
  exact⟨(mem_zipIdx hq).2.2▸getElem_mem _,_,_,rfl⟩
 have hlex:∀ p∈ps,∀ n rest,Bb n (p.2++rest)=(p.1,rest,n+(p.2.count 10:Nat)):=by
  intro p hp n rest;obtain⟨a,bare,i,e⟩:=hmem p hp;refine rz (e ..) <| lexTok_word (h _ a).1 bare (Fp i).1 n rest
 have hat:=lexAt_words W.dropLast ps 1 hlex;refine⟨?_,?_,?_⟩
 ·have hpiece:∀ x∈ps.map (·.2),x.length≤43∧okT x:=by
   intro x hx;obtain⟨p,hp,rfl⟩:=List.mem_map.mp hx;obtain⟨a,bare,i,e⟩:=hmem p hp;obtain⟨b1,b2,b3⟩:=h _ a;have:=Eu p.1 bare (Fp i).2;refine rz (e ..) <| ⟨by exact(ar [_,_] Ab (.n 43) (.c 2 Aa (.n 20) (.c 1 Ab (.a (.m 2 Aa) (.n 3)) .z)) 0 rfl b2 this.1),this.2.1 b3⟩
  have:=flat_len _ fun x hx=>(hpiece x hx).1
  rw[length_map,hpl] at this;refine rz (ec ..) ?_
  constructor
  ·refine rz (length_append ..) <| rz (length_dropLast ..) <| (ar [_,_,_,_] (.a Ag An) A1 (.c 43 Aa (.n 20) (.c 1 Ab (.n 43) (.c 1 Ag (.r Aa 43) (.c 1 An Ab .z)))) 0 rfl h1 hWl.1 this (sub_le ..))
  ·intro c hc;rcases List.mem_append.mp hc with hc | hc
   ·obtain⟨x,hx,hc⟩:=List.mem_flatten.mp hc;exact(hpiece x hx).2 c hc
   ·exact hWl.2 c (List.dropLast_subset _ hc)
 ·intro i wd hi;have hil:=(List.getElem?_eq_some_iff.mp hi).1;refine rz (ec ..) <| rz (hat i (ar [_,_,_] Ag Ab (.c 1 Aa Ab (.c 1 (.a Ag Ad) Aa .z)) 0 rfl (le_of_eq hpl.symm) hil) ..) ?_
  dsimp only;have ed:(ps.map (·.2)).drop i=(ps[i]'(le_trans hil (le_of_eq hpl.symm))).2::(ps.map (·.2)).drop (i+1):=by
   refine rz (drop_eq_getElem_cons (by rw[length_map];exact(le_trans hil (le_of_eq hpl.symm))) ..) <| rz (getElem_map ..) rfl
  refine rz (ed ..) <| rz (flatten_cons ..) <| rz (append_assoc ..) <| rz (hlex _ (getElem_mem _) ..) ?_
  dsimp only;have:ps[i]?=some (wd,Bd wd (decide ((n+i+i / 2) % 2=1)) (([10,9,13,32]:List Nat).getD ((n+i) % 4) 0)):=by
   refine rz (Eq.symm (hps ..)) <| rz (List.getElem?_map ..) <| rz (List.getElem?_zipIdx ..) <| rz (hi ..) ?_
   simp
  rw[List.getElem?_eq_getElem (le_trans hil (le_of_eq hpl.symm))] at this;exact rz (Option.some.inj this ..) rfl
 ·refine rz (ec ..) <| rz (hat words.length (le_of_eq hpl.symm) ..) ?_
  dsimp only;refine rz (Eq.symm (hpl ..)) <| rz (drop_of_length_le (by rw[length_map];exact le_refl _) ..) <| rz (take_of_length_le (by rw[length_map];exact le_refl _) ..) <| rz (flatten_nil ..) <| rz (nil_append ..) <| rz (Eq.symm (hW ..)) <| rz (lexTok_last _ (Fp _).1 ..) <| rz (count_append ..) ?_
  congr 2
  exact(Int.le_antisymm (ai [_,_] [] (.a (.a Ah (.c Aa)) (.c Ab)) (.a Ah (.c (.a Aa Ab))) .z 0 rfl) (ai [_,_] [] (.a Ah (.c (.a Aa Ab))) (.a (.a Ah (.c Aa)) (.c Ab)) .z 0 rfl))
theorem valid_mem:∀ (n:Nat) (h:List Int),h.length=n→(∀ (k:Nat) (x:Int),h[k]?=some x→-1≤x∧x<k)→h∈Co n
 |0,h,hl,_=>by refine rz (List.length_eq_zero_iff.mp hl ..) <| .head _
 |n+1,h,hl,hv=>by
  have hne:h≠[]:=by intro e;rw[e] at hl;simp at hl
  have e:=(dropLast_concat_getLast hne).symm;have hd:h.dropLast.length=n:=by refine rz (length_dropLast ..) <| rz (hl ..) ?_;rfl
  generalize h.getLast hne=x at e;generalize h.dropLast=g at e hd
  subst e;have hx:=hv n x (by refine rz (List.getElem?_append_right (le_of_eq hd) ..) <| rz (hd ..) ?_;simp)
  have hg:=valid_mem n g hd fun k y hy=>hv k y (by refine rz (List.getElem?_append_left (List.getElem?_eq_some_iff.mp hy).1 ..) <| hy)
  refine List.mem_flatMap.mpr ⟨g,hg,List.mem_map.mpr ⟨x,?_,rfl⟩⟩;unfold rng;exact List.mem_map.mpr ⟨(x+1).toNat,List.mem_range.mpr (an [_,_] [_] (.a Ab Ad) (.a Aa Ad) (.i 1 (.a Af Ah) (.c Aa) (.i 1 (.c Ab) (.a Af Ah) .z)) 0 rfl hx.2 (Int.le_of_eq (toNat_of_nonneg (ai [] [_] Aj (.a Af Ah) (.i 1 As Af .z) 0 rfl hx.1)))),by exact(Int.le_antisymm (ai [_] [_] (.a As (.c Aa)) Af (.i 1 (.c Aa) (.a Af Ah) .z) 0 rfl (Int.le_of_eq (toNat_of_nonneg (ai [] [_] Aj (.a Af Ah) (.i 1 As Af .z) 0 rfl hx.1)))) (ai [_] [_] Af (.a As (.c Aa)) (.i 1 (.a Af Ah) (.c Aa) .z) 0 rfl (self_le_toNat _)))⟩
theorem good_all{m:Nat}(hm:m=4∨m=5){h:List Int}(hl:h.length=m)(hv:∀ (k:Nat) (x:Int),h[k]?=some x→-1≤x∧x<k):good (B4 h)=true:=by
 have hmem:=valid_mem m h hl hv;rcases hm with rfl | rfl
 ·exact List.all_eq_true.mp good4 _ (List.mem_map.mpr ⟨h,hmem,rfl⟩)
 ·have split:∀ (n:Nat) (l:List (List Int)),l.length≤15*n→h∈l→∃ i,i<n∧h∈(l.drop (15*i)).take 15:=by
   intro n
   induction n with
   |zero=>intro l h1 h2;have e:l=[]:=List.length_eq_zero_iff.mp (le_antisymm (ar [_] Aa Al (.c 1 Aa (.m 15 Al) .z) 0 rfl h1) (zero_le _));rw[e] at h2;exact nomatch h2
   |succ n ih =>
    intro l h1 h2;rw[← take_append_drop 15 l] at h2;rcases List.mem_append.mp h2 with h2 | h2
    ·exact⟨0,by exact(ar [_] (.a Al Ad) (.a Aa Ad) .z 0 rfl),by simpa using h2⟩
    ·obtain⟨i,hi,hh⟩:=ih (l.drop 15) (by refine rz (length_drop ..) ?_;omega) h2
     refine⟨i+1,by exact(succ_le_succ hi),?_⟩
     rw[List.drop_drop] at hh;refine rz (show 15*(i+1)=15+15*i by exact(le_antisymm (ar [_] (.m 15 (.a Aa Ad)) (.a (.n 15) (.m 15 Aa)) .z 0 rfl) (ar [_] (.a (.n 15) (.m 15 Aa)) (.m 15 (.a Aa Ad)) .z 0 rfl))) ?_;assumption
  obtain⟨i,hi,hh⟩:=split 8 (Co 5) (by decide +kernel) hmem
  have hall:∀ i,i<8→((((Co 5).drop (15*i)).take 15).map B4).all good=true:=by
   intro i hi
   match i,hi with
   |0,_=>exact good5_0
   |1,_=>exact good5_1
   |2,_=>exact good5_2
   |3,_=>exact good5_3
   |4,_=>exact good5_4
   |5,_=>exact good5_5
   |6,_=>exact good5_6
   |7,_=>exact good5_7
  exact List.all_eq_true.mp (hall i hi) _ (List.mem_map.mpr ⟨h,hh,rfl⟩)
theorem tied_len(h:List Int):(B4 h).length=h.length:=by
 unfold B4;have:∀ (ps:List (Int × Nat)) (ts:Lz),(ps.foldl (fun ts p=>tstep ts p.2 p.1) ts).length=ts.length:=by
  intro ps
  induction ps with
  |nil=>intro ts;rfl
  |cons p ps ih=>intro ts;refine rz (foldl_cons ..) <| rz (ih ..) <| rz (tstep_len ..) rfl
 refine rz (this ..) <| rz (length_replicate ..) rfl
theorem inds_ok(hs:List Nat){m:Nat}(hm:m≤5):∀ ts:Nat,1≤ts→ts≤5→Dc (Ba hs m) ts=(Ba hs m).map (fun r=>colOf (ts:Int) r.dropLast)∧∀ x∈Dc (Ba hs m) ts,0≤x∧x≤100:=by
 intro ts h1 h2;have key:∀ r∈Ba hs m,indOf (rowW r) ts=colOf (ts:Int) r.dropLast∧0≤colOf (ts:Int) r.dropLast∧colOf (ts:Int) r.dropLast≤100:=by
  intro r hr;obtain⟨a,_,_,d,e,_⟩:=rows_ok hs hm r hr;have er:r=r.dropLast++[r.getLastD 0]:=by
   refine rz (List.getLastD_eq_getLast? ..) <| rz (List.getLast?_eq_some_getLast a ..) <| (dropLast_concat_getLast a).symm
  have f:=Ez d;have w:rowW r=wsOf r.dropLast:=by
   generalize r.getLastD 0=cc at er e
   generalize r.dropLast=aa at er d
   subst er;exact(rowW_app d e).1
  refine rz (w ..) <| ⟨f.2.2.1 ts h1 h2,f.2.2.2 ts h2⟩
 constructor
 ·exact map_congr_left fun r hr=>(key r hr).1
 ·intro x hx;obtain⟨r,hr,rfl⟩:=List.mem_map.mp hx;refine rz ((key r hr).1 ..) <| (key r hr).2
theorem dpiled_ok{rows:Lz}(h:∀ r∈rows,okT r):∀ r∈dpiled rows,okT r:=by
 have hg:∀ k,okT (rows.getD k []):=fun k=>by
  refine rz (List.getD_eq_getElem?_getD ..) ?_;cases e:rows[k]? with
  |none=>intro c hc;exact nomatch hc
  |some r=>exact h r (List.mem_of_getElem? e)
 intro r hr;obtain⟨k,_,rfl⟩:=List.mem_map.mp hr;intro c hc;rcases List.mem_append.mp hc with hc | hc
 ·obtain⟨x,hx,hc⟩:=List.mem_flatten.mp hc;obtain⟨j,_,rfl⟩:=List.mem_map.mp hx;exact hg j c hc
 ·exact hg k c hc
theorem roots_len{tied:Lz}{m:Nat}(G:GoodT tied m)(ns:List Int)(h:ns.length=m):((sfold tied ns.zipIdx).filter fun p=>decide (p.2.1=1)).length=(dueT tied).flatten.length:=by
 have hlog:∀ (ks:List Nat) (C:List (List Int)),(logC tied ks C).length=ks.length:=by
  intro ks
  induction ks with
  |nil=>intro C;rfl
  |cons k ks ih=>intro C;simp[logC,ih]
 rw[(sums_eq tied ns m h).1,List.filter_map,length_map,← hlog _ (unitC m),G.rts.length_eq,rootsC,length_map]
 rfl
theorem nums_ok(hs:List Nat)(hb:∀ x∈hs,x<2^40)(m:Nat)(cols:List Int)(h:cols.length=m)(hc:∀ x∈cols,0≤x∧x≤100):(((nums0 hs m).zip cols).map fun p=>p.1-p.2).length=m∧∀ n∈((nums0 hs m).zip cols).map (fun p=>p.1-p.2),n<0∧n.natAbs<18446744073709551616:=by
 obtain⟨a,b⟩:=nums0_ok hs hb m;refine⟨by refine rz (length_map ..) <| rz (length_zip ..) <| rz (a ..) <| rz (h ..) <| rz (Nat.min_self ..) rfl,fun n hn=>?_⟩
 obtain⟨p,hp,rfl⟩:=List.mem_map.mp hn;have h1:=b p.1 (of_mem_zip hp).1;have h2:=hc p.2 (of_mem_zip hp).2;have:(2:Int)^41=2199023255552:=by decide
 exact⟨(ai [] [_,_] (.a (.s Af Ai) Ah) Aj (.i 1 Af As (.i 1 Aj Ai .z)) 0 rfl h1.1 h2.1),(abs_lt (ai [] [_,_] (.a Az Ah) (.s Af Ai) (.i 1 (.q (-2199023255552)) Af (.i 1 Ai (.q 100) .z)) 0 rfl h1.2.1 h2.2) (ai [] [_,_] (.a (.s Af Ai) Ah) A2 (.i 1 Af As (.i 1 Aj Ai .z)) 0 rfl h1.1 h2.1))⟩
theorem putQ_perm(a b:List Nat):(putQ a b).Perm (a++b):=perm_append_comm
theorem putS_perm(a b:List Nat):(putS a b).Perm (a++b):=(reverse_perm a).append_right b
theorem law_body:Et (lawFd 25 313)=lawB.drop 0:=by kernel_rfl!
theorem law_ini(d:PyData)(O:Sg):ini (B6 (lawFd 25 313)) [d] O=.put "script" d O:=by kernel_rfl!
theorem law_ok{prog:Program}{w:World}{K:Frag}(H2:KOk2 prog K)(script:List Int)(hl:script.length≤1000):Fn prog w K 15 314 [(70,TabK),(215,Tab #[])] [dI script] (fun d B'=>d=.bool true∧∃ r,B'=[(70,TabK),(215,Tab r)]):=by
 refine lawFnT H2 (fd:=lawFd 25 313) 15 (.own [(70,TabK),(215,Tab #[])] .nil) rfl rfl (by kernel_rfl!) (by decide +kernel) (by intro vs hv;obtain⟨v0,rfl⟩:=len1 hv;kernel_rfl!) lawN (lawB.drop 0) (.put "script" (dI script) (.own [(70,TabK),(215,Tab #[])] .nil)) (by kernel_rfl!) law_body (law_ini _ _) (fun g H2 sc=>?_) (fun d B' h=>by obtain⟨_,r,rfl⟩:=h;exact fun q hq=>(List.mem_map.mpr ⟨q,hq,rfl⟩:q.1∈[(70,TabK),(215,Tab #[])].map (·.1)))
 have hm45:Ep script=4∨Ep script=5:=by unfold Ep;split<;>simp
 have m5:4≤Ep script∧Ep script≤5:=by rcases hm45 with h | h<;>refine rz (h ..) ?_<;>decide
 have hl5:script.length≤100000:=le_trans hl (by decide)
 refine SV.sub (σ':=.put "script" (dI script) (.own [(215,Tab #[]),(70,TabK)] .nil)) (.ix [1,0] rfl rfl) ?_;refine SV.seg 0 2 2 rfl (seg0 g script hl5 _) fun V=>?_
 obtain⟨he,hh1,hh2⟩:=hs_ok script hl;have he2:dI (E0 script)=dN (hsOf script):=by refine rz (he ..) ?_;unfold dI dN;refine rz (map_map ..) ?_;rfl
 try dsimp only
 refine rz (he2 ..) ?_
 clear he he2
 generalize hsOf script=hs at hh1 hh2⊢
 refine SV.seg 2 2 4 rfl (seg1 g script hl5 hs hh1 hh2 _ rfl _) fun V=>?_
 generalize Ep script=m at hm45 m5⊢
 have hm5:m≤5:=by exact m5.2
 refine SV.seg 4 2 6 rfl (seg2 g script hs hh1 hh2 m hm5 _) fun al=>?_
 obtain⟨hw1,hw2⟩:=words_ok hs hh2 hm5;refine SV.seg 6 2 8 rfl (seg3 g script hl5 _ _ _ _ (ar [_,_] Ab (.n 20) (.c 2 Aa At (.c 1 Ab (.m 2 Aa) .z)) 0 rfl m5.2 (le_of_eq hw1)) (fun r hr=>⟨(hw2 r hr).1,le_trans (hw2 r hr).2.1 (by decide)⟩) al _) fun V=>?_
 obtain⟨⟨hc1,hc2⟩,hc3,hc4⟩:=text_ok script.length (Bv hs m) (ar [_,_] Ab (.n 20) (.c 2 Aa At (.c 1 Ab (.m 2 Aa) .z)) 0 rfl m5.2 (le_of_eq hw1)) hw2 _ rfl
 try dsimp only
 generalize (textOf script.length (Bv hs m)).flatten.dropLast=cs at hc1 hc2 hc3 hc4⊢
 refine SV.seg 8 1 9 rfl (seg4 g _ _ _ _ cs hc1 _) ?_;rintro⟨p,r⟩;have hsuf:∀ i,(lexAt 1 cs i).2.length≤100000∧okT (lexAt 1 cs i).2:=fun i=>by
  have:=lexAt_suf 1 cs i;exact⟨le_trans this.length_le hc1,fun c hc=>hc2 c (this.subset hc)⟩
 refine SV.seg 9 2 11 rfl (seg5 g _ _ _ p (Bv hs m) cs (ar [_,_] Ab (.n 20) (.c 2 Aa At (.c 1 Ab (.m 2 Aa) .z)) 0 rfl m5.2 (le_of_eq hw1)) (fun r hr=>(hw2 r hr).2.2) hsuf hc3 _) fun V=>?_
 have hro:=rows_ok hs hm5;have hrl:=rows_len hs m;have hr3:∀ r∈Ba hs m,r≠[]∧r.length≤100∧okT r:=fun r hr=>⟨(hro r hr).1,le_trans (hro r hr).2.1 (by decide),(hro r hr).2.2.1⟩
 obtain⟨hn1,hn2⟩:=nest_due (Ba hs m) fun r hr=>⟨(hro r hr).1,(hro r hr).2.2.2.1,(hro r hr).2.2.2.2.1⟩
 obtain⟨hd1,hd2⟩:=dheads_ok (Ba hs m);have hd3:∀ h∈Ch (Ba hs m),-1≤h∧h<(Ba hs m).length:=fun h hh=>by
  obtain⟨k,hk⟩:=List.mem_iff_getElem?.mp hh;have:=hd2 k h hk;have:=(List.getElem?_eq_some_iff.mp hk).1
  omega
 obtain⟨hp1,hp2⟩:=pick_words hs hm45;generalize hcs2:(lexAt 1 cs (Bv hs m).length).2=cs2 at hc4;generalize hn2':(lexAt 1 cs (Bv hs m).length).1=n2 at hc4
 obtain⟨hx1,hx2⟩:=hsuf (Bv hs m).length;rw[hcs2] at hx1 hx2
 refine SV.sub (σ':=.own ((70,TabK)::(LxX p n2 [] cs2++[(215,Tab r)])) (.put "read" (dS (Bv hs m)) (.put "lexer" (Rf p.x) (.put "text" (.str (tx cs)) (.put "rows" (dS (Ba hs m)) (.put "many" (.int (m:Nat)) (.put "heaps" (dN hs) .nil))))))) (.ix [10,0,0,0,0,0,0,0,0,0,0] rfl rfl) ?_;refine SV.seg 11 3 14 rfl (seg6 g H2 _ _ _ _ (Ba hs m) (Bv hs m) (ar [_,_] Ab Ar (.c 1 Aa At (.c 1 Ab Aa .z)) 0 rfl m5.2 (le_of_eq hrl)) hr3 (ar [_,_] Ab Ar (.c 2 Aa At (.c 1 Ab (.m 2 Aa) .z)) 0 rfl m5.2 (le_of_eq hw1)) hp1 hn1 hn2 hd3 (dpiled_ok fun r hr=>(hr3 r hr).2.2) _) fun V=>?_
 obtain⟨size,hsz⟩:∃ size,size=hs.getD 10 0 / 120 % 4+1:=⟨_,rfl⟩;have hin:=inds_ok hs hm5;refine SV.seg 14 3 17 rfl (seg7 g _ _ _ _ _ _ hs (Ba hs m) (ar [_,_] Ab Ar (.c 1 Aa At (.c 1 Ab Aa .z)) 0 rfl m5.2 (le_of_eq hrl)) hr3 hh1 size hsz (fun ts a1 a2=>(hin ts a1 a2).1) _) fun V=>?_
 have hcl:∀ ts,(Dc (Ba hs m) ts).length=m:=fun ts=>by unfold Dc;refine rz (length_map ..) <| rz (hrl ..) rfl
 obtain⟨hz1,hz2⟩:=nums0_ok hs hh2 m;refine SV.seg 17 1 18 rfl (seg8 g _ _ _ _ _ _ _ _ (Bv hs m) _ (nums0 hs m) (ar [_,_] Ab Ar (.c 2 Aa At (.c 1 Ab (.m 2 Aa) .z)) 0 rfl m5.2 (le_of_eq hw1)) (rz (hcl ..) <| (ar [_] Aa Ar (.c 1 Aa At .z) 0 rfl m5.2)) hp2 (rz (hz1 ..) <| rz (hcl ..) rfl) (fun n hn=>(hz2 n hn).2.2) _) fun V=>?_
 obtain⟨hu1,hu2⟩:=nums_ok hs hh2 m (Dc (Ba hs m) size) (hcl _) (hin size (ar [_,_] Ad Ab (.c 1 (.a Aa Ad) Ab .z) 0 rfl (le_of_eq hsz.symm)) (ar [_,_] Aa At (.c 1 Aa (.a Ab Ad) (.c 1 (.a Ab Ad) (.n 4) .z)) 0 rfl (le_of_eq hsz) (mod_lt _ (by decide)))).2
 have ho1:=hcl (size+1)
 try dsimp only
 generalize ((nums0 hs m).zip (Dc (Ba hs m) size)).map (fun p=>p.1-p.2)=nums at hu1 hu2⊢
 generalize Dc (Ba hs m) (size+1)=oths at ho1⊢
 obtain⟨ord,ho2,ho3⟩:=order_perm (hs.getD 10 0) m;refine SV.seg 18 2 20 rfl (seg9 g _ _ _ _ m hs (Ba hs m) (Ch (Ba hs m)) (ar [_,_] Ab Ar (.c 1 Aa At (.c 1 Ab Aa .z)) 0 rfl m5.2 (le_of_eq hrl)) hr3 hh1 hm5 (rows_nd hs hm5) (ar [_,_,_] Ag Ar (.c 1 Aa At (.c 1 Ab Aa (.c 1 Ag Ab .z))) 0 rfl m5.2 (le_of_eq hrl) (le_of_eq hd1)) hd2 (fun h hh=>(hd3 h hh).2) ord ho2 _) fun V=>?_
 rw[hrl] at hd1;have hT:=tied_len (Ch (Ba hs m))
 rw[hd1] at hT;have G:=good_spec (good_all hm45 hd1 hd2)
 try dsimp only
 generalize htt:B4 (Ch (Ba hs m))=tied at hT G⊢
 have hord:∀ k∈ord,k<m:=fun k hk=>List.mem_range.mp (ho3.mem_iff.mp hk)
 have hol:ord.length=m:=by refine rz (ho3.length_eq ..) <| rz (length_range ..) rfl
 refine SV.seg 20 2 22 rfl (seg10 g _ _ _ _ _ _ m _ (ar [_,_] Ab (.n 8) (.c 1 Aa At (.c 1 Ab Aa .z)) 0 rfl m5.2 (le_of_eq hd1)) hd2 tied htt.symm (ar [_,_] Ab (.n 8) (.c 1 Aa At (.c 1 Ab Aa .z)) 0 rfl m5.2 (le_of_eq hT)) (fun js hj=>⟨(G.len3 js hj).1,by have:=(G.len3 js hj).2;exact(ar [_] Aa Ar (.c 1 Aa (.n 3) .z) 0 rfl this)⟩) G.fork ord (rz (hT ..) <| hord) (ar [_,_] Ab Ar (.c 1 Aa At (.c 1 Ab Aa .z)) 0 rfl m5.2 (le_of_eq hol)) _) fun V=>?_
 have hD:dueT tied=dueOf (A8 tied m).1 (A7 tied m).1 m (maxR (A7 tied m).1):=by unfold dueT;exact rz (hT ..) rfl
 try dsimp only
 rw[hT] at G⊢
 have hdl:(A8 tied m).1.length=m:=(Fb tied m).1;have hneg:∀ n∈nums,n<0:=fun n hn=>(hu2 n hn).1
 have hst:=Ea ho3 fun k=>(A8 tied m).1.getD k 0
 obtain⟨zl,hzl,gl⟩:=game_ok putQ_perm G hu1 hneg ho1 hst hm5;obtain⟨zp,hzp,gp⟩:=game_ok putS_perm G hu1 hneg ho1 ((reverse_perm ord).trans ho3) hm5;obtain⟨hc5,hc6⟩:=line_cut G hu1 hneg ho3 hzl;have hsl:∀ k∈ord.filter (fun k=>decide ((A8 tied m).1.getD k 0 % 2=0))++ord.filter (fun k=>decide ((A8 tied m).1.getD k 0 % 2=1)),k<m:=fun k hk=>List.mem_range.mp (hst.mem_iff.mp hk)
 have hsn:(ord.filter (fun k=>decide ((A8 tied m).1.getD k 0 % 2=0))++ord.filter (fun k=>decide ((A8 tied m).1.getD k 0 % 2=1))).length=m:=by refine rz (hst.length_eq ..) <| rz (length_range ..) rfl
 generalize ord.filter (fun k=>decide ((A8 tied m).1.getD k 0 % 2=0))++ord.filter (fun k=>decide ((A8 tied m).1.getD k 0 % 2=1))=start at hzl hsl hsn⊢
 have hfew:=G.few;refine SV.sub (σ':=.own (LxX p n2 [] cs2++[(215,Tab r),(70,TabK)]) (.put "start" (dN start) (.put "mirror" (dN (A7 tied m).2) (.put "rounds" (dI (A7 tied m).1) (.put "depths" (dN (A8 tied m).1) (.put "tied" (dNN tied) (.put "order" (dN ord) (.put "numbers" (dI nums) (.put "others" (dI oths) (.put "heads" (dI (Ch (Ba hs m))) (.put "lexer" (Rf p.x) (.put "text" (.str (tx cs)) (.put "rows" (dS (Ba hs m)) (.put "many" (.int (m:Nat)) .nil)))))))))))))) (.ix [1,1,1,1,1,1,1,1,1,1,0] rfl rfl) ?_;refine SV.seg 22 2 24 rfl (seg11 g H2 _ _ _ _ _ _ m p n2 cs2 (Ba hs m) ord start tied nums zl zp 105 105 hx1 hx2 (rz (hc4 ..) <| fun h=>(hro _ h).2.2.2.2.2 rfl) (by refine rz (hc4 ..) ?_;intro c hc;refine rz (List.mem_singleton.mp hc ..) ?_;decide) (rz (hrl ..) <| rz (hu1 ..) rfl) hr3 (rows_nd hs hm5) (ar [_,_] Ab Ar (.c 1 Aa At (.c 1 Ab Aa .z)) 0 rfl m5.2 (le_of_eq hsn)) (rz (hu1 ..) <| hsl) (ar [_,_] Ab Ar (.c 1 Aa At (.c 1 Ab Aa .z)) 0 rfl m5.2 (le_of_eq hol)) (rz (hu1 ..) <| hord) (rz (hT ..) <| rz (hu1 ..) rfl) (ar [_,_] Ab Ar (.c 1 Aa At (.c 1 Ab Aa .z)) 0 rfl m5.2 (le_of_eq hu1)) (fun js hj=>by refine rz (hu1 ..) <| ⟨(G.len3 js hj).1,by have:=(G.len3 js hj).2;exact(ar [_] Aa At (.c 1 Aa (.n 3) .z) 0 rfl this)⟩) (by decide) (by decide) hzl hzp _) fun V=>?_
 try dsimp only
 refine rz (hc4 ..) <| SV.seg 24 2 26 rfl (seg12 g _ _ _ _ _ _ _ _ _ _ _ m tied zl zp hm5 (rz (gl.len ..) <| (ar [_] Aa Am (.c 1 Aa (.n 20) .z) 0 rfl hfew)) (rz (gp.len ..) <| (ar [_] Aa Am (.c 1 Aa (.n 20) .z) 0 rfl hfew)) (ar [_,_] Ab Am (.c 1 Aa At (.c 1 Ab Aa .z)) 0 rfl m5.2 (le_of_eq hT)) gl.vis gp.vis _) fun V=>?_
 refine SV.seg 26 2 28 rfl (seg13 g _ _ _ _ _ _ _ _ _ _ _ m _ _ zl.tu (maxR (A7 tied m).1) hm5 hdl G.rlen (fun q0=>(not_succ_le_zero 0 (not_succ_le_zero 0 (ar [_] Ad Al (.c 1 (.n 4) Aa (.c 1 Aa Al .z)) 0 rfl m5.1 (le_of_eq q0))).elim)) ⟨G.max.1,G.max.2.1⟩ G.max.2.2 (rz (gl.len ..) <| (ar [_] (.a Aa Ad) (.n 64) (.c 1 Aa (.n 20) .z) 0 rfl hfew)) (rz (Eq.symm (hD ..)) <| hc5) (rz (Eq.symm (hD ..)) <| hc6) _) fun V=>?_
 refine SV.seg 28 1 29 rfl (seg14 g _ _ _ _ _ _ _ _ m nums _ _ _ hm5 hu1 G.mlen G.mlt gl.fin gp.fin _) fun V=>?_
 refine SV.seg 29 2 31 rfl (seg15 g _ _ _ _ _ _ m (Ch (Ba hs m)) nums _ zl.tu zp.tu tied htt.symm (ar [_,_] Ab (.n 8) (.c 1 Aa At (.c 1 Ab Aa .z)) 0 rfl m5.2 (le_of_eq hd1)) hd2 (ar [_,_] Ab (.n 8) (.c 1 Aa At (.c 1 Ab Aa .z)) 0 rfl m5.2 (le_of_eq hu1)) (rz (hT ..) <| rz (hu1 ..) rfl) (fun t ht=>by have:=(G.len3 t ht).2;exact(ar [_] Aa Am (.c 1 Aa (.n 3) .z) 0 rfl this)) (fun n hn=>(hu2 n hn).2) (rz (roots_len G nums hu1 ..) <| (ar [_] (.a Aa Ad) (.n 64) (.c 1 Aa (.n 20) .z) 0 rfl hfew)) rfl (rz (gl.len ..) <| (ar [_] (.a Aa Ad) (.n 64) (.c 1 Aa (.n 20) .z) 0 rfl hfew)) (rz (gp.len ..) <| (ar [_] (.a Aa Ad) (.n 64) (.c 1 Aa (.n 20) .z) 0 rfl hfew)) gl.sum gp.sum _) fun V=>?_
 refine SV.seg 31 1 32 rfl (seg16 g _ _ _ m oths zp.tu tied _ (rz (gp.len ..) <| (ar [_] Aa Am (.c 1 Aa (.n 20) .z) 0 rfl hfew)) (rz (hT ..) <| rz (ho1 ..) rfl) (ar [_,_] Ab Am (.c 1 Aa At (.c 1 Ab Aa .z)) 0 rfl m5.2 (le_of_eq ho1)) (rz (ho1 ..) <| gp.lt) (fun js hj=>by refine rz (ho1 ..) <| ⟨(G.len3 js hj).1,by have:=(G.len3 js hj).2;exact(ar [_] Aa Am (.c 1 Aa (.n 3) .z) 0 rfl this)⟩) (rz (ho1 ..) <| G.mlt) (rz (G.mlen ..) <| (ar [_] Aa Ar (.c 1 Aa At .z) 0 rfl m5.2)) gp.led _) fun V=>?_
 exact⟨(R_ok g 1000 sc).S (seg17 g p _ cs r (rz (show Str.ofString "\n" = ⟨#[10]⟩ from rfl) <| rz (count_tx ..) rfl))⟩
end Mine
section
open PySem.W.X
namespace Mine
noncomputable def lawP:Program:=PySem.Challenge.pw_sh0032_01
noncomputable def lawQ:Program:={ lawP with main:={ lawP.main with body:=[topS 25] } }
noncomputable def lawLo:List Str:=["_wall","EMPTYSTRING","_Accumulator","_netrclex","Whitespace","_law_stream","_law_written","_law_lead","_law_order","_law_nest","_law_column","_law_due","_law_tied","_law_shape","_law_sums","_law_turned","_law_line","_law_pile","_law_visits","_law_cut","_law_led"]
noncomputable def adrs:List Addr:=(List.range 315).filter fun a=>a != 70&&a != 215
noncomputable def K0(h:Heap)(o:Obj):Frag:=(adrs.filterMap fun a=>(h.get? a).map fun x=>(a,x))++[(315,o)]
noncomputable def kobs(K:Frag):=((nsStr K mainGlobals,nsStr K cStatics,nsIn K cStatics "sys.recursionlimit",bmOk K 215,bmOk K 70,codeHdIn K 219 215,codeHdIn K 74 70),Bz.map (fun p=>(K.lookup p.1,codeIn K p.2.code p.2.qualname)),E1.map (fun p=>nsIn K mainGlobals p.1),Fo.map (fun p=>(nsIn K mainGlobals p.1,nsIn K builtinsNs p.1)),clTab.map (fun p=>clOk K p.1 p.2.1 p.2.2.1 p.2.2.2),
 (makesIn K 143,makesIn K 209,makesL K 101),((clsIn K 101).map (·.mro),(clsIn K 143).map (·.mro),(clsIn K 209).map (·.mro)),(keepIn K (.ref 101),keepIn K (.ref 143),keepIn K (.ref 209)),(readsIn K 209 (.type "type"),strAt K 209 "S" " ",strAt K 209 "T" "\t"),
 (nsIn K cStatics "thirdparty.any",K.lookup 30,K.lookup 25,Dv lawP K 37,Dv lawP K 60,Dv lawP K 97),((clsIn K 101).map (·.qualname),typeIn K (.ref 101),findIn K (.ref 101) "append",findIn K (.ref 101) "__iter__",nsIn K mainGlobals "law"))
noncomputable def kexp:type_of% (kobs []):=((true,true,some none,true,true,true,true),Bz.map (fun p=>(some (fnObj p.2),true)),E1.map (fun p=>some (some p.2)),Fo.map (fun p=>(some none,some (some p.2))),clTab.map (fun V=>true),
 (true,true,true),(some [.ref 101,.type "list",.type "object"],some [.ref 143,.type "object"],some [.ref 209,.type "object"]),(true,true,true),(true,true,true),
 (some none,some ⟨.type "tuple",none,.seq #[.int 0 210] 0,#[]⟩,some ⟨.type "cell",none,.cell (some (.ref 101)),#[]⟩,true,true,true),(some "_Accumulator",some (.type "type"),some (some (.builtin "list.append")),some (some (.builtin "list.__iter__")),some (some (.ref 314))))
noncomputable def obs(s:Shared):(Obj→type_of% (kobs [])) × Option Obj × Option Obj × Nat:=(fun o=>kobs (K0 s.heap o),s.heap.get? 70,s.heap.get? 215,s.heap.objs.size)
noncomputable def exq:(Obj→type_of% (kobs [])) × Option Obj × Option Obj × Nat:=(fun V=>kexp,some (tabObj #[]),some (tabObj #[]),315)
noncomputable def Xt0(s:Shared):Bool:=xlAt lawQ [] s
theorem map_at{α β:Type}{f g:α→β}:∀ {l:List α},l.map f=l.map g→∀ a∈l,f a=g a
 |[],_,_,h=>nomatch h
 |b::l,e,a,h=>by
  rw[map_cons,map_cons,List.cons.injEq] at e;rcases List.mem_cons.mp h with rfl | h
  ·exact e.1
  ·exact map_at e.2 a h
theorem kok_of_obs{K:Frag}(e:kobs K=kexp):KOk2 lawP K∧nsIn K mainGlobals "law" = some (some (.ref 314)):=by
 have q {α:Type}(f:type_of% (kobs [])→α):f (kobs K)=f kexp:=congrArg f e;exact⟨⟨⟨q (·.1.1),⟨q (·.1.2.1),q (·.1.2.2.1)⟩,⟨q (·.1.2.2.2.1),q (·.1.2.2.2.2.1)⟩,⟨q (·.1.2.2.2.2.2.1),q (·.1.2.2.2.2.2.2)⟩,fun p hp=>have z:=map_at (show Bz.map (fun p=>(K.lookup p.1,codeIn K p.2.code p.2.qualname))=Bz.map (fun p=>(some (fnObj p.2),true)) from q (·.2.1)) p hp;⟨congrArg (·.1) z,congrArg (·.2) z⟩,fun p hp=>map_at (show E1.map (fun p=>nsIn K mainGlobals p.1)=E1.map (fun p=>some (some p.2)) from q (·.2.2.1)) p hp,fun p hp=>have z:=map_at (show Fo.map (fun p=>(nsIn K mainGlobals p.1,nsIn K builtinsNs p.1))=Fo.map (fun p=>(some none,some (some p.2))) from q (·.2.2.2.1)) p hp;⟨congrArg (·.1) z,congrArg (·.2) z⟩,fun p hp=>map_at (show clTab.map (fun p=>clOk K p.1 p.2.1 p.2.2.1 p.2.2.2)=clTab.map (fun V=>true) from q (·.2.2.2.2.1)) p hp,
  ⟨q (·.2.2.2.2.2.1.1),q (·.2.2.2.2.2.1.2.1),q (·.2.2.2.2.2.1.2.2)⟩,⟨q (·.2.2.2.2.2.2.1.1),q (·.2.2.2.2.2.2.1.2.1),q (·.2.2.2.2.2.2.1.2.2)⟩,⟨q (·.2.2.2.2.2.2.2.1.1),q (·.2.2.2.2.2.2.2.1.2.1),q (·.2.2.2.2.2.2.2.1.2.2)⟩,⟨q (·.2.2.2.2.2.2.2.2.1.1),q (·.2.2.2.2.2.2.2.2.1.2.1),q (·.2.2.2.2.2.2.2.2.1.2.2)⟩⟩,
  q (·.2.2.2.2.2.2.2.2.2.1.1),q (·.2.2.2.2.2.2.2.2.2.1.2.1),q (·.2.2.2.2.2.2.2.2.2.1.2.2.1),⟨q (·.2.2.2.2.2.2.2.2.2.1.2.2.2.1),q (·.2.2.2.2.2.2.2.2.2.1.2.2.2.2.1),q (·.2.2.2.2.2.2.2.2.2.1.2.2.2.2.2)⟩,by kernel_rfl,q (·.2.2.2.2.2.2.2.2.2.2.1),q (·.2.2.2.2.2.2.2.2.2.2.2.1),q (·.2.2.2.2.2.2.2.2.2.2.2.2.1),q (·.2.2.2.2.2.2.2.2.2.2.2.2.2.1)⟩,q (·.2.2.2.2.2.2.2.2.2.2.2.2.2.2)⟩
theorem K0_some{h:Heap}{o x:Obj}{a:Addr}(e:(K0 h o).lookup a=some x):(a∈adrs∧h.get? a=some x)∨(a=315∧x=o):=by
 have key:∀ l:List Addr,((l.filterMap fun a=>(h.get? a).map fun x=>(a,x))++[((315:Addr),o)]).lookup a=some x→(a∈l∧h.get? a=some x)∨(a=315∧x=o):=by
  intro l
  induction l with
  |nil =>
   intro e;simp only[List.filterMap_nil,nil_append,lookup_cons,List.lookup_nil] at e
   by_cases q:a=315
   ·subst q;simp at e;exact .inr ⟨rfl,e.symm⟩
   ·rw[beq_eq_false_iff_ne.mpr q] at e;exact nomatch e
  |cons b l ih =>
   intro e;cases hb:h.get? b with
   |none =>
    rw[List.filterMap_cons_none (by rw[hb];rfl)] at e
    rcases ih e with ⟨h1,h2⟩ | h1
    ·exact .inl ⟨.tail _ h1,h2⟩
    ·exact .inr h1
   |some y =>
    rw[List.filterMap_cons_some (b:=(b,y)) (by rw[hb];rfl),cons_append,lookup_cons] at e
    by_cases q:a=b
    ·subst q;rw[beq_self_eq_true] at e;have e:y=x:=Option.some.inj e
     exact .inl ⟨.head _,by rw[hb,e]⟩
    ·rw[beq_eq_false_iff_ne.mpr q] at e;rcases ih e with ⟨h1,h2⟩ | h1
     ·exact .inl ⟨.tail _ h1,h2⟩
     ·exact .inr h1
 exact key adrs e
theorem adrs_no:(70:Addr)∉adrs∧(215:Addr)∉adrs∧(315:Addr)∉adrs:=by decide +kernel
theorem K0_in{h₀ h:Heap}{o:Obj}(hk:∀ b x,h₀.get? b=some x→h.get? b=some x)(ho:h.get? 315=some o):(K0 h₀ o).In h:=fun a x e=>by
 rcases K0_some e with ⟨_,h1⟩ | ⟨rfl,rfl⟩
 ·exact hk _ _ h1
 ·exact ho
theorem K0_none{h:Heap}{o:Obj}{a:Addr}(ha:a=70∨a=215):(K0 h o).lookup a=none:=by
 cases e:(K0 h o).lookup a with
 |none=>rfl
 |some x =>
  rcases K0_some e with ⟨h1,_⟩ | ⟨h1,_⟩
  ·rcases ha with rfl | rfl
   ·exact absurd h1 adrs_no.1
   ·exact absurd h1 adrs_no.2.1
  ·rcases ha with rfl | rfl<;>exact absurd h1 (by decide)
theorem K0_315{h:Heap}{o:Obj}:(K0 h o).lookup 315=some o:=by
 cases e:(K0 h o).lookup 315 with
 |none =>
  exfalso
  have:∀ (l:Frag),(l++[((315:Addr),o)]).lookup 315≠none:=by
   intro l
   induction l with
   |nil=>simp
   |cons p l ih =>
    rw[cons_append,lookup_cons]
    split
    ·simp
    ·exact ih
  exact this _ e
 |some y =>
  rcases K0_some e with ⟨h1,_⟩ | ⟨_,h1⟩
  ·exact absurd h1 adrs_no.2.2
  ·rw[h1]
theorem fin_law0{prog:Program}{w:World}(LW:∀ {K:Frag},KOk2 prog K→∀ (script:List Int),script.length≤1000→Fn prog w K 15 314 [(70,TabK),(215,Tab #[])] [dI script] (fun d B'=>d=.bool true∧∃ r,B'=[(70,TabK),(215,Tab r)]))
  {s₀ s₁:Shared}{l:List Int}{vs:List Value}{cw:ClaimW}{cl:Str→Option Addr}{mean:ExcName→Option Value}{args:List WData}
  (H:KOk2 prog (K0 s₀.heap { cls:=.type "list",data:=.seq vs.toArray }))(hk:∀ b o,s₀.heap.get? b=some o→s₁.heap.get? b=some o)(hb1:∀ b o,s₁.heap.get? b=some o→b=315∨s₀.heap.get? b=some o)(hg:s₁.gens=#[])(N:s₀.heap.objs.size=315)
  (t70:s₀.heap.get? 70=some (tabObj #[]))(t215:s₀.heap.get? 215=some (tabObj #[]))(hL:s₁.heap.get? 315=some { cls:=.type "list",data:=.seq vs.toArray })(hI:IntsAre vs l)(hl:l.length≤1000)
  (hr:∀ cls,cw.raises args cls=false)(hp:cw.post args (.bool true) args=true) :
  wpAny (model prog w) callerA (call (.ref 314) [.ref 315]) (fun v s'=>GoodWG cw cl mean args s₁ (.ok (.ret v)) s') (fun e s'=>GoodWG cw cl mean args s₁ (.error e) s') s₁:=by
 have hin:=K0_in hk hL;have S:St ⟨K0 s₀.heap { cls:=.type "list",data:=.seq vs.toArray },s₀.heap,fun a=>a=70∨a=215,fun V=>False,s₁.os,315⟩ ([(70,TabK),(215,Tab #[])]++[]) [] s₁:=by
  refine⟨fun p hp=>?_,fun p hp=>?_,by decide,fun q h=>(nomatch h),fun b o h V=>hk b o h,hin,fun p hp=>?_,fun a h=>h.elim,hg▸.empty,rfl,⟨by rw[N];exact le_refl _,_,hL⟩,fun p hp h=>h⟩
  ·rcases List.mem_cons.mp hp with rfl | hp
   ·exact⟨_,hk _ _ t70,#[],rfl,trivial⟩
   ·rw[List.mem_singleton.mp hp];exact⟨_,hk _ _ t215,rfl⟩
  ·rcases List.mem_cons.mp hp with rfl | hp
   ·exact .inr (.inl rfl)
   ·rw[List.mem_singleton.mp hp];exact .inr (.inr rfl)
  ·rcases List.mem_cons.mp hp with rfl | hp
   ·exact K0_none (.inl rfl)
   ·rw[List.mem_singleton.mp hp];exact K0_none (.inr rfl)
 have oA:OkA 15 callerA:=⟨rfl,by decide,by decide,⟨_,rfl⟩,⟨_,rfl⟩⟩
 refine r_fn (c:=⟨K0 s₀.heap { cls:=.type "list",data:=.seq vs.toArray },s₀.heap,fun a=>a=70∨a=215,fun V=>False,s₁.os,315⟩) oA rfl (LW H l hl) S (.cons (.list ?_ hL ?_) .nil) fun d B' hp'=>?_
 ·rintro(h | h)
  ·exact h
  ·simp at h
 ·exact Rps.of_ints hI
 obtain⟨rfl,r,rfl⟩:=hp';intro v s' S';have hv:=S'.tmp _ (.head _);cases hv with
 |bool b =>
  obtain⟨o70,g70,r70,e70,_⟩:=S'.own (70,TabK) (.head _);obtain⟨o215,g215,e215⟩:=S'.own (215,Tab r) (.tail _ (.head _));have g315:=S'.stat _ _ K0_315;have c70:=tab_of H.cd.2 hin (hk _ _ t70);have c215:=tab_of H.cd.1 hin (hk _ _ t215);have hold:∀ b o,s₁.heap.get? b=some o→b≠70→b≠215→s'.heap.get? b=some o:=fun b o hb h1 h2=>by
   rcases hb1 b o hb with rfl | hb1
   ·rw[hL] at hb;rw[g315,hb]
   ·exact S'.keep b o hb1 fun q=>q.elim h1 h2
  refine⟨.inl ⟨_,_,[],rfl,hr,ReadsW.bool true,hp,fun V=>⟨nodup_nil,fun V hm=>nomatch hm⟩⟩,⟨fun b o hb=>?_,fun b o hb=>?_⟩,S'.os,S'.gens⟩
  ·by_cases h1:b=70
   ·subst h1;rw[hk _ _ t70] at hb;cases hb
    exact .inr (.inl ⟨c70,rfl,#[],r70,rfl,by rw[g70,e70];simp⟩)
   ·by_cases h2:b=215
    ·subst h2;rw[hk _ _ t215] at hb;cases hb
     exact .inr (.inl ⟨c215,rfl,#[],r,rfl,by rw[g215,e215];simp⟩)
    ·exact .inl (hold b o hb h1 h2)
  ·by_cases h1:b=70
   ·subst h1;exact⟨_,g70⟩
   ·by_cases h2:b=215
    ·subst h2;exact⟨_,g215⟩
    ·exact⟨o,hold b o hb h1 h2⟩
end Mine
theorem Mine.left1:∀ w:World,(openEnds treeTable Mine.lawP (w.withFollow "special-get-raises" false) 3934).map (fun s=>(openSeen Mine.lawQ Mine.lawLo (importedModules Mine.lawP.main.body) Mine.Xt0 true s,Mine.obs s))=some (openGood Mine.lawQ Mine.lawLo,Mine.exq):=by
 intro w
 kernel_rfl
theorem Mine.left2:∀ w:World,(openEnds treeTable Mine.lawP (w.withFollow "special-get-raises" true) 3934).map (fun s=>(openSeen Mine.lawQ Mine.lawLo (importedModules Mine.lawP.main.body) Mine.Xt0 true s,Mine.obs s))=some (openGood Mine.lawQ Mine.lawLo,Mine.exq):=by
 intro w
 kernel_rfl
theorem Mine.said:OpenLaw.wellSaid PySem.Challenge.rw_sh0032_01=true:=by kernel_rfl
theorem Mine.left0:LeftO Mine.lawP Mine.lawQ Mine.lawLo Mine.Xt0 Mine.obs (fun V=>Mine.exq) 3934:=fun w=>byRow2 (P:=fun w=>(openEnds treeTable Mine.lawP w 3934).map (fun s=>(openSeen Mine.lawQ Mine.lawLo (importedModules Mine.lawP.main.body) Mine.Xt0 true s,Mine.obs s))=some (openGood Mine.lawQ Mine.lawLo,Mine.exq)) "special-get-raises" Mine.left1 Mine.left2 w
set_option maxRecDepth 100000 in
set_option maxHeartbeats 0 in

theorem PySem.Challenge.cw_sh0032_01_holds : PySem.Challenge.rw_sh0032_01.Holds := by
 w_on
 refine holds_law Mine.said fun said => ?_
 refine holds_openX (q := Mine.lawQ) (loose := Mine.lawLo) (Xt := Mine.Xt0) (XP := XL Mine.lawQ []) (Yf := Mine.obs) (Ya := fun V => Mine.exq) (N := 3934) Mine.left0 (fun s e => xl_of s e) XL.keeps (by rfl) (by rfl) (by rfl) (fun s V => recFacts_nil rfl) (by rfl) (by first | assumption | decide +kernel) (by decide +kernel) ⟨rfl, rfl, rfl, rfl, rfl, by decide +kernel⟩ ?hw ?hc
 case hw => w_witness2
 intro w s₀ s₁ mg mb G y fa o pm cd doc dV kV ho hd hcd hD hmg hg args vals as L hpre hlay hrd hwl hlo;have y1 : (fun o => Mine.kobs (Mine.K0 s₀.heap o)) = fun V => Mine.kexp := congrArg Prod.fst y
 have t70 : s₀.heap.get? 70 = some (tabObj #[]) := congrArg (fun z => z.2.1) y
 have t215 : s₀.heap.get? 215 = some (tabObj #[]) := congrArg (fun z => z.2.2.1) y
 have ZN : s₀.heap.objs.size = 315 := congrArg (fun z => z.2.2.2) y
 refine Ground.open G ?_;intro T B D TE TW
 wrow_args hpre hlay hrd hwl hlo
 obtain ⟨hat, hsz⟩ := script_at L;rw [ZN] at hat hsz
 subst hat
 rename IntsAre _ _ => hI
 rename Heap.IsList _ _ _ => hL
 obtain ⟨HK, hlaw⟩ := Mine.kok_of_obs (congrFun y1 { cls := .type "list", data := .seq (List.toArray _) });have e := (mg_of (Mine.K0_in L.keeps (script_obj L hL)) T.g hlaw).symm.trans hmg;obtain rfl : fa = 314 := by cases e; rfl
 refine Mine.fin_law0 (fun H => Mine.law_ok H) HK L.keeps (fun b o hb => by have := Mine.script_heap L b o hb; rwa [ZN] at this) (by assumption) ZN t70 t215 (script_obj L hL) hI (by omega) (fun V => rfl) ?_
 first | rfl | wrow_post
end
