import PyProof.Rows.All
import Wide.All
import OpenK.AllK
import Wide.FinOn
import KE.KEqDict
import KE.KIntText
import KE.KLam
import KE.KSetInts
import KE.KSliceW
import KE.KSortAsk
import Lean
import PySem.Challenge.RW_ti0078_01
set_option Elab.async false
set_option maxRecDepth 100000
set_option linter.all false
open PySem PySem.W PyProof.Rows PySem.Calls
local macro_rules | `(⋯) => `(by kernel_rfl)
local macro_rules | `(tactic| rfl') => `(tactic| kernel_rfl)
namespace Y
abbrev VP:=Value->Shared->Prop
@[elab_as_elim] theorem aK {α:Type u}{P:Option α->Prop}(o:Option α)(none:P none)(some:∀a,P (some a)):P o:=Option.casesOn o none some
@[elab_as_elim] theorem fu {P:Bool->Prop}(b:Bool)(false:P false)(true:P true):P b:=Bool.casesOn b false true
@[elab_as_elim] theorem gY {α:Type u}{P:List α->Prop}(l:List α)(nil:P [])(cons:∀a l,P (a::l)):P l:=List.casesOn l nil cons
abbrev au:=@List.mem_cons
abbrev aC:=@Or.elim
abbrev eO:=@Nat.ne_of_gt
abbrev bM:=@dif_neg
abbrev aH:=@Option.some.inj
abbrev ao:=@if_pos
abbrev aq:=@if_neg
abbrev bD:=@congrArg
abbrev cQ:=@List.getElem?_eq_some_iff
abbrev aR:=@List.getElem?_eq_getElem
abbrev cX:=@Array.length_toList
abbrev aP:=@Heap.get?_push_of_some
abbrev bc:=@Nat.not_lt
abbrev aZ:=@Heap.lt_size
abbrev eY:=@Nat.lt_irrefl
abbrev fc:=@Bool.or_eq_false_iff
abbrev aj:=@wpAny_bind
abbrev aB:=@wpAny_pure
abbrev bN:=@Nat.eq_of_beq_eq_true
abbrev aL:=@Heap.get?_push_size
abbrev bL:=@Nat.le_of_ble_eq_true
abbrev cU:=@Nat.lt_of_le_of_lt
abbrev aA:=@Nat.le_trans
abbrev bx:=@List.length_cons
abbrev dF:=@beq_self_eq_true
abbrev aY:=@List.mem_of_getElem?
abbrev cI:=@List.zip_cons_cons
abbrev cD:=@Nat.le_of_lt
abbrev dm:=@spliced_none
abbrev cP:=@spliced_more
abbrev dw:=@wpAny_truthy_bool
abbrev bC:=@wpAny_mono
abbrev dM:=@Array.getElem?_eq_none
abbrev bG:=@Nat.le_refl
abbrev ak:=@List.length_map
abbrev dK:=@List.take_of_length_le
abbrev cO:=@List.length_eq_zero_iff
abbrev cJ:=@Bool.false_eq_true
abbrev bF:=@wpAny_holding
abbrev cG:=@List.drop_eq_getElem_cons
abbrev bY:=@Nat.ne_of_lt
abbrev dj:=@List.mem_singleton
abbrev az:=@Bool.and_eq_true_iff
abbrev bR:=@wpAny_standAt
abbrev di:=@assignInOrder_cons
abbrev bz:=@Option.isSome_iff_exists
abbrev aX:=@List.map_cons
abbrev aV:=@List.map_map
abbrev cj:=@List.map_congr_left
abbrev bj:=@List.mem_append
abbrev b7:=@Nat.zero_le
abbrev bK:=@List.mem_append_left
abbrev aD:=@List.mem_append_right
abbrev cZ:=@List.nodup_append
abbrev eF:=@Nat.lt_succ_self
abbrev cR:=@List.append_assoc
abbrev dq:=@Option.map_eq_some_iff
abbrev fD:=@List.flatMap_cons
abbrev aU:=@List.all_eq_true
abbrev bJ:=@Bool.and_eq_true
abbrev dW:=@Heap.size_push
abbrev aG:=@List.mem_map
abbrev dR:=@Nat.le_of_succ_le
abbrev bV:=@List.mem_filter
abbrev eH:=@List.mem_flatMap
abbrev cC:=@Nat.le_succ
abbrev aW:=@List.length_append
abbrev bu:=@List.map_append
abbrev bw:=@of_decide_eq_true
abbrev dH:=@List.countP_cons
abbrev b8:=@Bool.not_eq_true'
abbrev d9:=@Nat.lt_of_lt_of_le
abbrev dz:=@beq_iff_eq
abbrev fC:=@Nat.le_succ_of_le
abbrev cz:=@Nat.succ_le_succ
abbrev dC:=@List.contains_iff_mem
abbrev dU:=@List.filter_congr
abbrev cV:=@PyProof.Rows.assign_Name
abbrev dX:=@wpAny_execs_nil
abbrev bZ:=@wpAny_execs_cons
abbrev bW:=@decide_eq_true
abbrev bU:=@decide_eq_false
abbrev cg:=@List.length_filter_le
abbrev bf:=@List.mem_range
abbrev bh:=@List.not_mem_nil
abbrev cA:=@or_false
abbrev dY:=@List.filter_map
abbrev bQ:=@List.getElem?_map
abbrev bI:=@decide_eq_decide
abbrev cT:=@Nat.le_of_succ_le_succ
@[elab_as_elim] theorem rwE {α:Sort u}{a b:α}{P:α->Prop}(h:a=b)(k:P b):P a:=h▸k
section
universe u1 u2 u3 u4 u5 u6 u7 u8
variable {G:Prop}{α:Sort u1}{β:Sort u2}{γ:Sort u3}{δ:Sort u4}{ε:Sort u5}{ζ:Sort u6}{η:Sort u7}{θ:Sort u8}
theorem yA {a l:Prop}(k:a->l->G):a/\l->G:=λh=>k h.1 h.2
theorem yE {l:α->Prop}(k:∀x,l x->G):(∃x,l x)->G:=Exists.rec k
theorem uA {a b l:Prop}(k:a->b->l->G):(a/\b/\l)->G:=yA λx=>yA (k x)
theorem yAE {a:Prop}{l:α->Prop}(k:a->∀x,l x->G):(a/\∃x,l x)->G:=yA λx=>yE (k x)
theorem cW {b l:α->Prop}(k:∀x,b x->l x->G):(∃x,b x/\l x)->G:=yE λx=>yA (k x)
theorem Az {l:α->β->Prop}(k:∀x y,l x y->G):(∃x y,l x y)->G:=yE λx=>yE (k x)
theorem sY {a b c l:Prop}(k:a->b->c->l->G):(a/\b/\c/\l)->G:=yA λx=>uA (k x)
theorem yAAE {a b:Prop}{l:α->Prop}(k:a->b->∀x,l x->G):(a/\b/\∃x,l x)->G:=yA λx=>yAE (k x)
theorem nG {a:Prop}{c l:α->Prop}(k:a->∀x,c x->l x->G):(a/\∃x,c x/\l x)->G:=yA λx=>cW (k x)
theorem nF {b c l:α->Prop}(k:∀x,b x->c x->l x->G):(∃x,b x/\c x/\l x)->G:=yE λx=>uA (k x)
theorem mG {c l:α->β->Prop}(k:∀x y,c x y->l x y->G):(∃x y,c x y/\l x y)->G:=yE λx=>cW (k x)
theorem ZG {l:α->β->γ->Prop}(k:∀x y z,l x y z->G):(∃x y z,l x y z)->G:=yE λx=>Az (k x)
theorem qM {a b c d l:Prop}(k:a->b->c->d->l->G):(a/\b/\c/\d/\l)->G:=yA λx=>sY (k x)
theorem Dh {a b:Prop}{d l:α->Prop}(k:a->b->∀x,d x->l x->G):(a/\b/\∃x,d x/\l x)->G:=yA λx=>nG (k x)
theorem XX {a:Prop}{c d l:α->Prop}(k:a->∀x,c x->d x->l x->G):(a/\∃x,c x/\d x/\l x)->G:=yA λx=>nF (k x)
theorem yAEEA {a:Prop}{d l:α->β->Prop}(k:a->∀x y,d x y->l x y->G):(a/\∃x y,d x y/\l x y)->G:=yA λx=>mG (k x)
theorem xN {b c d l:α->Prop}(k:∀x,b x->c x->d x->l x->G):(∃x,b x/\c x/\d x/\l x)->G:=yE λx=>sY (k x)
theorem I4 {b c:α->Prop}{l:α->β->Prop}(k:∀x,b x->c x->∀y,l x y->G):(∃x,b x/\c x/\∃y,l x y)->G:=yE λx=>yAAE (k x)
theorem yEAEA {b:α->Prop}{d l:α->β->Prop}(k:∀x,b x->∀y,d x y->l x y->G):(∃x,b x/\∃y,d x y/\l x y)->G:=yE λx=>nG (k x)
theorem fW {c d l:α->β->Prop}(k:∀x y,c x y->d x y->l x y->G):(∃x y,c x y/\d x y/\l x y)->G:=yE λx=>nF (k x)
theorem qK {d l:α->β->γ->Prop}(k:∀x y z,d x y z->l x y z->G):(∃x y z,d x y z/\l x y z)->G:=yE λx=>mG (k x)
theorem xM {l:α->β->γ->δ->Prop}(k:∀x y z u,l x y z u->G):(∃x y z u,l x y z u)->G:=yE λx=>ZG (k x)
theorem xP {a b c d e l:Prop}(k:a->b->c->d->e->l->G):(a/\b/\c/\d/\e/\l)->G:=yA λx=>qM (k x)
theorem ZP {a b:Prop}{d e l:α->Prop}(k:a->b->∀x,d x->e x->l x->G):(a/\b/\∃x,d x/\e x/\l x)->G:=yA λx=>XX (k x)
theorem ZM {a b:Prop}{e l:α->β->Prop}(k:a->b->∀x y,e x y->l x y->G):(a/\b/\∃x y,e x y/\l x y)->G:=yA λx=>yAEEA (k x)
theorem xO {a:Prop}{c:α->Prop}{e l:α->β->Prop}(k:a->∀x,c x->∀y,e x y->l x y->G):(a/\∃x,c x/\∃y,e x y/\l x y)->G:=yA λx=>yEAEA (k x)
theorem ZL {a:Prop}{d e l:α->β->Prop}(k:a->∀x y,d x y->e x y->l x y->G):(a/\∃x y,d x y/\e x y/\l x y)->G:=yA λx=>fW (k x)
theorem ZK {a:Prop}{e l:α->β->γ->Prop}(k:a->∀x y z,e x y z->l x y z->G):(a/\∃x y z,e x y z/\l x y z)->G:=yA λx=>qK (k x)
theorem ZJ {b c d e l:α->Prop}(k:∀x,b x->c x->d x->e x->l x->G):(∃x,b x/\c x/\d x/\e x/\l x)->G:=yE λx=>qM (k x)
theorem Ng {b:α->Prop}{d e l:α->β->Prop}(k:∀x,b x->∀y,d x y->e x y->l x y->G):(∃x,b x/\∃y,d x y/\e x y/\l x y)->G:=yE λx=>XX (k x)
theorem kh {c d e l:α->β->Prop}(k:∀x y,c x y->d x y->e x y->l x y->G):(∃x y,c x y/\d x y/\e x y/\l x y)->G:=yE λx=>xN (k x)
theorem iQ {d e l:α->β->γ->Prop}(k:∀x y z,d x y z->e x y z->l x y z->G):(∃x y z,d x y z/\e x y z/\l x y z)->G:=yE λx=>fW (k x)
theorem qJ {e l:α->β->γ->δ->Prop}(k:∀x y z u,e x y z u->l x y z u->G):(∃x y z u,e x y z u/\l x y z u)->G:=yE λx=>qK (k x)
theorem uz {a b c d e f l:Prop}(k:a->b->c->d->e->f->l->G):(a/\b/\c/\d/\e/\f/\l)->G:=yA λx=>xP (k x)
theorem rQ {a b:Prop}{e f l:α->β->Prop}(k:a->b->∀x y,e x y->f x y->l x y->G):(a/\b/\∃x y,e x y/\f x y/\l x y)->G:=yA λx=>ZL (k x)
theorem I5 {b c d e f l:α->Prop}(k:∀x,b x->c x->d x->e x->f x->l x->G):(∃x,b x/\c x/\d x/\e x/\f x/\l x)->G:=yE λx=>xP (k x)
theorem rP {b c:α->Prop}{e f l:α->β->Prop}(k:∀x,b x->c x->∀y,e x y->f x y->l x y->G):(∃x,b x/\c x/\∃y,e x y/\f x y/\l x y)->G:=yE λx=>ZP (k x)
theorem gW {c d e f l:α->β->Prop}(k:∀x y,c x y->d x y->e x y->f x y->l x y->G):(∃x y,c x y/\d x y/\e x y/\f x y/\l x y)->G:=yE λx=>ZJ (k x)
theorem rM {d e f l:α->β->γ->Prop}(k:∀x y z,d x y z->e x y z->f x y z->l x y z->G):(∃x y z,d x y z/\e x y z/\f x y z/\l x y z)->G:=yE λx=>kh (k x)
theorem IW {e f l:α->β->γ->δ->Prop}(k:∀x y z u,e x y z u->f x y z u->l x y z u->G):(∃x y z u,e x y z u/\f x y z u/\l x y z u)->G:=yE λx=>iQ (k x)
theorem IV {f l:α->β->γ->δ->ε->Prop}(k:∀x y z u v,f x y z u v->l x y z u v->G):(∃x y z u v,f x y z u v/\l x y z u v)->G:=yE λx=>qJ (k x)
theorem Nh {a b c d e f g l:Prop}(k:a->b->c->d->e->f->g->l->G):(a/\b/\c/\d/\e/\f/\g/\l)->G:=yA λx=>uz (k x)
theorem Dg {a:Prop}{c d e f g l:α->Prop}(k:a->∀x,c x->d x->e x->f x->g x->l x->G):(a/\∃x,c x/\d x/\e x/\f x/\g x/\l x)->G:=yA λx=>I5 (k x)
theorem Df {a:Prop}{d e f g l:α->β->Prop}(k:a->∀x y,d x y->e x y->f x y->g x y->l x y->G):(a/\∃x y,d x y/\e x y/\f x y/\g x y/\l x y)->G:=yA λx=>gW (k x)
theorem uy {c d e f g l:α->β->Prop}(k:∀x y,c x y->d x y->e x y->f x y->g x y->l x y->G):(∃x y,c x y/\d x y/\e x y/\f x y/\g x y/\l x y)->G:=yE λx=>I5 (k x)
theorem ux {d e f g l:α->β->γ->Prop}(k:∀x y z,d x y z->e x y z->f x y z->g x y z->l x y z->G):(∃x y z,d x y z/\e x y z/\f x y z/\g x y z/\l x y z)->G:=yE λx=>gW (k x)
theorem uw {e f g l:α->β->γ->δ->Prop}(k:∀x y z u,e x y z u->f x y z u->g x y z u->l x y z u->G):(∃x y z u,e x y z u/\f x y z u/\g x y z u/\l x y z u)->G:=yE λx=>rM (k x)
theorem Nf {f g l:α->β->γ->δ->ε->Prop}(k:∀x y z u v,f x y z u v->g x y z u v->l x y z u v->G):(∃x y z u v,f x y z u v/\g x y z u v/\l x y z u v)->G:=yE λx=>IW (k x)
theorem J8 {a b:Prop}{d e f g h l:α->Prop}(k:a->b->∀x,d x->e x->f x->g x->h x->l x->G):(a/\b/\∃x,d x/\e x/\f x/\g x/\h x/\l x)->G:=yA λx=>Dg (k x)
theorem J7 {b c d e f g h l:α->Prop}(k:∀x,b x->c x->d x->e x->f x->g x->h x->l x->G):(∃x,b x/\c x/\d x/\e x/\f x/\g x/\h x/\l x)->G:=yE λx=>Nh (k x)
theorem oZ {d e f g h l:α->β->γ->Prop}(k:∀x y z,d x y z->e x y z->f x y z->g x y z->h x y z->l x y z->G):(∃x y z,d x y z/\e x y z/\f x y z/\g x y z/\h x y z/\l x y z)->G:=yE λx=>uy (k x)
theorem rK {e f g h l:α->β->γ->δ->Prop}(k:∀x y z u,e x y z u->f x y z u->g x y z u->h x y z u->l x y z u->G):(∃x y z u,e x y z u/\f x y z u/\g x y z u/\h x y z u/\l x y z u)->G:=yE λx=>ux (k x)
theorem zY {f g h l:α->β->γ->δ->ε->Prop}(k:∀x y z u v,f x y z u v->g x y z u v->h x y z u v->l x y z u v->G):(∃x y z u v,f x y z u v/\g x y z u v/\h x y z u v/\l x y z u v)->G:=yE λx=>uw (k x)
theorem Gw {b c:α->Prop}{e f g h i l:α->β->Prop}(k:∀x,b x->c x->∀y,e x y->f x y->g x y->h x y->i x y->l x y->G):(∃x,b x/\c x/\∃y,e x y/\f x y/\g x y/\h x y/\i x y/\l x y)->G:=yE λx=>J8 (k x)
theorem Gv {c d e f g h i l:α->β->Prop}(k:∀x y,c x y->d x y->e x y->f x y->g x y->h x y->i x y->l x y->G):(∃x y,c x y/\d x y/\e x y/\f x y/\g x y/\h x y/\i x y/\l x y)->G:=yE λx=>J7 (k x)
theorem o9 {a:Prop}{f g h l:α->β->γ->δ->Prop}(k:a->∀x y z u,f x y z u->g x y z u->h x y z u->l x y z u->G):(a/\∃x y z u,f x y z u/\g x y z u/\h x y z u/\l x y z u)->G:=yA λx=>uw (k x)
theorem tU {a b c d f l:α->β->γ->δ->Prop}(k:∀x y z u,a x y z u->b x y z u->c x y z u->d x y z u->f x y z u->l x y z u->G):(∃x y z u,a x y z u/\b x y z u/\c x y z u/\d x y z u/\f x y z u/\l x y z u)->G:=yE λx=>oZ (k x)
theorem yO {a b:Prop}(f:a->G)(g:b->G):a\/b->G:=Or.rec f g
end
noncomputable def XQ (P:Nat->Prop)(n:Nat):Prop:=@Nat.rec (λZ=>Prop) True (λn a=>a/\P n) n
theorem rD {P:Nat->Prop}{n:Nat}(a:XQ P n)(h:P n):XQ P (n+1):=⟨a,h⟩
theorem vp {P:Nat->Prop}{q n:Nat}:XQ P n->q<n->P q:=by
 induction n with
 |zero=>intro Z h;nomatch h
 |succ n b=>intro a h;exact if e:q=n then e▸a.2 else b a.1 (Nat.lt_of_le_of_ne (Nat.le_of_lt_succ h) e)
noncomputable def Ip {α:Type u}(P:α->Prop)(l:List α):Prop:=@List.rec α (λZ=>Prop) True (λx Z a=>P x/\a) l
theorem fV {α:Type u}{P:α->Prop}{x:α}{r:List α}(h:P x)(a:Ip P r):Ip P (x::r):=⟨h,a⟩
theorem xH {α:Type u}{P:α->Prop}{x:α}{l:List α}:Ip P l->x∈l->P x:=by
 induction l with
 |nil=>intro Z h;nomatch h
 |cons y r b=>intro a h;exact(au.mp h).elim (λe=>e▸a.1) (b a.2)
@[elab_as_elim] theorem wH {α:Type u}{P:α->Prop}{s a b:α}(h:s=a\/s=b)(c:P a)(hb:P b):P s:=aC h (λe=>e▸c) λe=>e▸hb
@[elab_as_elim] theorem or3 {α:Type u}{P:α->Prop}{s a b c:α}(h:s=a\/s=b\/s=c)(f:P a)(hb:P b)(d:P c):P s:=aC h (λe=>e▸f) λh=>wH h hb d
@[elab_as_elim] theorem nY {α:Type u}{P:α->Prop}{s a b c d:α}(h:s=a\/s=b\/s=c\/s=d)(g:P a)(hb:P b)(f:P c)(hd:P d):P s:=aC h (λe=>e▸g) λh=>or3 h hb f hd
@[elab_as_elim] theorem or5 {α:Type u}{P:α->Prop}{s a b c d i:α}(h:s=a\/s=b\/s=c\/s=d\/s=i)(g:P a)(hb:P b)(f:P c)(hd:P d)(hi:P i):P s:=aC h (λe=>e▸g) λh=>nY h hb f hd hi
@[elab_as_elim] theorem Bp {α:Type u}{P:α->Prop}{s a b c d i j:α}(h:s=a\/s=b\/s=c\/s=d\/s=i\/s=j)(k:P a)(hb:P b)(g:P c)(hd:P d)(hi:P i)(f:P j):P s:=aC h (λe=>e▸k) λh=>or5 h hb g hd hi f
@[elab_as_elim] theorem or7 {α:Type u}{P:α->Prop}{s a b c d i j k:α}(h:s=a\/s=b\/s=c\/s=d\/s=i\/s=j\/s=k)(l:P a)(hb:P b)(g:P c)(hd:P d)(hi:P i)(f:P j)(hk:P k):P s:=aC h (λe=>e▸l) λh=>Bp h hb g hd hi f hk
@[elab_as_elim] theorem or8 {α:Type u}{P:α->Prop}{s a b c d i j k l:α}(h:s=a\/s=b\/s=c\/s=d\/s=i\/s=j\/s=k\/s=l)(m:P a)(hb:P b)(g:P c)(hd:P d)(hi:P i)(f:P j)(hk:P k)(hl:P l):P s:=aC h (λe=>e▸m) λh=>or7 h hb g hd hi f hk hl
theorem in2 {a:Nat}(h:a<2):a=0\/a=1:=(by decide:∀a,a<2->a=0\/a=1) a h
theorem Jv {a:Nat}(h:a<3):a=0\/a=1\/a=2:=(by decide:∀a,a<3->a=0\/a=1\/a=2) a h
theorem in4 {a:Nat}(h:a<4):a=0\/a=1\/a=2\/a=3:=(by decide:∀a,a<4->a=0\/a=1\/a=2\/a=3) a h
theorem in5 {a:Nat}(h:a<5):a=0\/a=1\/a=2\/a=3\/a=4:=(by decide:∀a,a<5->a=0\/a=1\/a=2\/a=3\/a=4) a h
theorem M6 {a:Nat}(h:a<6):a=0\/a=1\/a=2\/a=3\/a=4\/a=5:=(by decide:∀a,a<6->a=0\/a=1\/a=2\/a=3\/a=4\/a=5) a h
theorem in7 {a:Nat}(h:a<7):a=0\/a=1\/a=2\/a=3\/a=4\/a=5\/a=6:=(by decide:∀a,a<7->a=0\/a=1\/a=2\/a=3\/a=4\/a=5\/a=6) a h
theorem in8 {a:Nat}(h:a<8):a=0\/a=1\/a=2\/a=3\/a=4\/a=5\/a=6\/a=7:=(by decide:∀a,a<8->a=0\/a=1\/a=2\/a=3\/a=4\/a=5\/a=6\/a=7) a h
theorem qT {x:Int}{m:Nat}(h:0<m):(x % (m:Int)).toNat<m:=(Int.toNat_lt (Int.emod_nonneg _ (Int.natCast_ne_zero.mpr (eO h)))).mpr (Int.emod_lt_of_pos _ (Int.natCast_pos.mpr h))
theorem zN {x m:Int}(h:m≠0):x % m=((x % m).toNat:Int):=(Int.toNat_of_nonneg (Int.emod_nonneg x h)).symm
theorem VH {l h n:Nat}(a:l<h)(b:h<=n):(l+h) / 2<n:=by lia
theorem YJ {n:Int}:n % 5=0\/n % 5=1\/n % 5=2\/n % 5=3\/n % 5=4:=by lia
noncomputable abbrev zs (s:PySem.Shared)(h:PySem.Heap)(t:Nat):PySem.Shared:={s with heap:=h,toks:=t}
noncomputable abbrev El:Program:=PySem.Challenge.rw_ti0078_01.prog
theorem sd1:namesResolve El=true:=(congrFun PySem.W.Fast.te8377067652309620493 _).trans ⋯
theorem sd2:noRoadLSs {strict:=!(importedModules El.main.body).all cThrough.contains,foot:=none,bare:=(["vars","dir","locals"]:List Str).filter (readsOut El El.main.body)} El.main.body=true:=(congrFun (congrFun PySem.W.Fast.te8326940854005059898 _) _).trans ⋯
theorem sd3:(namesMeet El El.main.body λ_ n=>attrL n)=true:=⋯
theorem sd0:looksOpen El=true:=look_both (look_both (look_both (look_both ⋯ sd1) ⋯) sd2) sd3
theorem said:PySem.Challenge.rw_ti0078_01.wellSaid=true:=by
 iterate 33 refine look_both ?_ ⋯
 exact sd0
end Y
open Y
local macro_rules | `(tactic| rw [$rs,*]) => do
  let ts <- rs.getElems.mapM λr => match r with
    | `(Lean.Parser.Tactic.rwRule| <- $h:term) => `(tactic| first | refine rwE (Eq.symm $h) ?_ | rewrite [<- $h:term])
    | `(Lean.Parser.Tactic.rwRule| $h:term) => `(tactic| first | refine rwE $h ?_ | rewrite [$h:term])
    | _ => Lean.Macro.throwUnsupported
  `(tactic| ($[$ts]*; try (with_reducible rfl)))
namespace Mine
theorem nn {α:Type}{b:α}{P:Prop}(h:none=some b):P:=nomatch h
noncomputable def Tb:List Addr:=[386,391]
inductive D where
 |none
 |bool (b:Bool)
 |int (i:Int)
 |str (x:Str)
 |list (xs:List D)
 |tuple (xs:List D)
 |sdict (ks:List Str)(ds:List D)
 |idict (ks:List Int)(ds:List D)
 |rng (lo hi:Int)
 |iset (xs:List Int)
 |inst (hs:List D)
 |lam (x:Str)(body:Expr)(sc:Scope)
 |glob
theorem cH {α:Type}{b:α}:none≠some b:=λh=>nn h
theorem nb:false≠true:=nofun
section
variable {β:Type}{z y:β}
noncomputable def Mi (z:β)(x:Expr)(f:Expr->Operator->Expr->Pos->β):β:=if h:x.ctorIdx=2 then Expr.BinOp.elim (motive_1:=λZ=>β) x h f else z
@[elab_as_elim] theorem eBin_i {P:Expr->Prop}{x:Expr}{f:Expr->Operator->Expr->Pos->β}(hz:z≠y)(h:Mi z x f=y)(k:∀a b c d,f a b c d=y->P (.BinOp a b c d)):P x:=
 if q:x.ctorIdx=2 then Expr.BinOp.elim (motive_1:=λx=>Mi z x f=y->P x) x q k h else absurd ((bM q).symm.trans h) hz
noncomputable def eUn (z:β)(x:Expr)(f:UnaryOp->Expr->Pos->β):β:=if h:x.ctorIdx=3 then Expr.UnaryOp.elim (motive_1:=λZ=>β) x h f else z
@[elab_as_elim] theorem eUn_i {P:Expr->Prop}{x:Expr}{f:UnaryOp->Expr->Pos->β}(hz:z≠y)(h:eUn z x f=y)(k:∀a b c,f a b c=y->P (.UnaryOp a b c)):P x:=
 if q:x.ctorIdx=3 then Expr.UnaryOp.elim (motive_1:=λx=>eUn z x f=y->P x) x q k h else absurd ((bM q).symm.trans h) hz
noncomputable def eBo (z:β)(x:Expr)(f:BoolOp->List Expr->Pos->β):β:=if h:x.ctorIdx=0 then Expr.BoolOp.elim (motive_1:=λZ=>β) x h f else z
@[elab_as_elim] theorem Y4 {P:Expr->Prop}{x:Expr}{f:BoolOp->List Expr->Pos->β}(hz:z≠y)(h:eBo z x f=y)(k:∀a b c,f a b c=y->P (.BoolOp a b c)):P x:=
 if q:x.ctorIdx=0 then Expr.BoolOp.elim (motive_1:=λx=>eBo z x f=y->P x) x q k h else absurd ((bM q).symm.trans h) hz
noncomputable def Mf (z:β)(x:Expr)(f:Arguments->Expr->Scope->Pos->β):β:=if h:x.ctorIdx=4 then Expr.Lambda.elim (motive_1:=λZ=>β) x h f else z
@[elab_as_elim] theorem eLam_i {P:Expr->Prop}{x:Expr}{f:Arguments->Expr->Scope->Pos->β}(hz:z≠y)(h:Mf z x f=y)(k:∀a b c d,f a b c d=y->P (.Lambda a b c d)):P x:=
 if q:x.ctorIdx=4 then Expr.Lambda.elim (motive_1:=λx=>Mf z x f=y->P x) x q k h else absurd ((bM q).symm.trans h) hz
noncomputable def eIf (z:β)(x:Expr)(f:Expr->Expr->Expr->Pos->β):β:=if h:x.ctorIdx=5 then Expr.IfExp.elim (motive_1:=λZ=>β) x h f else z
@[elab_as_elim] theorem YX {P:Expr->Prop}{x:Expr}{f:Expr->Expr->Expr->Pos->β}(hz:z≠y)(h:eIf z x f=y)(k:∀a b c d,f a b c d=y->P (.IfExp a b c d)):P x:=
 if q:x.ctorIdx=5 then Expr.IfExp.elim (motive_1:=λx=>eIf z x f=y->P x) x q k h else absurd ((bM q).symm.trans h) hz
noncomputable def R5 (z:β)(x:Expr)(f:List (Option Expr)->List Expr->Pos->β):β:=if h:x.ctorIdx=6 then Expr.Dict.elim (motive_1:=λZ=>β) x h f else z
noncomputable def eLC (z:β)(x:Expr)(f:Expr->List Comprehension->Scope->Pos->β):β:=if h:x.ctorIdx=8 then Expr.ListComp.elim (motive_1:=λZ=>β) x h f else z
@[elab_as_elim] theorem YW {P:Expr->Prop}{x:Expr}{f:Expr->List Comprehension->Scope->Pos->β}(hz:z≠y)(h:eLC z x f=y)(k:∀a b c d,f a b c d=y->P (.ListComp a b c d)):P x:=
 if q:x.ctorIdx=8 then Expr.ListComp.elim (motive_1:=λx=>eLC z x f=y->P x) x q k h else absurd ((bM q).symm.trans h) hz
noncomputable def H8 (z:β)(x:Expr)(f:Expr->List CmpOp->List Expr->Pos->β):β:=if h:x.ctorIdx=15 then Expr.Compare.elim (motive_1:=λZ=>β) x h f else z
@[elab_as_elim] theorem R7 {P:Expr->Prop}{x:Expr}{f:Expr->List CmpOp->List Expr->Pos->β}(hz:z≠y)(h:H8 z x f=y)(k:∀a b c d,f a b c d=y->P (.Compare a b c d)):P x:=
 if q:x.ctorIdx=15 then Expr.Compare.elim (motive_1:=λx=>H8 z x f=y->P x) x q k h else absurd ((bM q).symm.trans h) hz
noncomputable def jj (z:β)(x:Expr)(f:Expr->List Expr->List Keyword->Pos->β):β:=if h:x.ctorIdx=16 then Expr.Call.elim (motive_1:=λZ=>β) x h f else z
@[elab_as_elim] theorem jY {P:Expr->Prop}{x:Expr}{f:Expr->List Expr->List Keyword->Pos->β}(hz:z≠y)(h:jj z x f=y)(k:∀a b c d,f a b c d=y->P (.Call a b c d)):P x:=
 if q:x.ctorIdx=16 then Expr.Call.elim (motive_1:=λx=>jj z x f=y->P x) x q k h else absurd ((bM q).symm.trans h) hz
noncomputable def Mh (z:β)(x:Expr)(f:Const->Nat->Pos->β):β:=if h:x.ctorIdx=19 then Expr.Constant.elim (motive_1:=λZ=>β) x h f else z
@[elab_as_elim] theorem R6 {P:Expr->Prop}{x:Expr}{f:Const->Nat->Pos->β}(hz:z≠y)(h:Mh z x f=y)(k:∀a b c,f a b c=y->P (.Constant a b c)):P x:=
 if q:x.ctorIdx=19 then Expr.Constant.elim (motive_1:=λx=>Mh z x f=y->P x) x q k h else absurd ((bM q).symm.trans h) hz
noncomputable def Xb (z:β)(x:Expr)(f:Expr->Str->Pos->β):β:=if h:x.ctorIdx=20 then Expr.Attribute.elim (motive_1:=λZ=>β) x h f else z
@[elab_as_elim] theorem Ft {P:Expr->Prop}{x:Expr}{f:Expr->Str->Pos->β}(hz:z≠y)(h:Xb z x f=y)(k:∀a b c,f a b c=y->P (.Attribute a b c)):P x:=
 if q:x.ctorIdx=20 then Expr.Attribute.elim (motive_1:=λx=>Xb z x f=y->P x) x q k h else absurd ((bM q).symm.trans h) hz
noncomputable def Cv (z:β)(x:Expr)(f:Expr->Expr->Pos->β):β:=if h:x.ctorIdx=21 then Expr.Subscript.elim (motive_1:=λZ=>β) x h f else z
@[elab_as_elim] theorem H7 {P:Expr->Prop}{x:Expr}{f:Expr->Expr->Pos->β}(hz:z≠y)(h:Cv z x f=y)(k:∀a b c,f a b c=y->P (.Subscript a b c)):P x:=
 if q:x.ctorIdx=21 then Expr.Subscript.elim (motive_1:=λx=>Cv z x f=y->P x) x q k h else absurd ((bM q).symm.trans h) hz
noncomputable def rm (z:β)(x:Expr)(f:Str->Pos->β):β:=if h:x.ctorIdx=23 then Expr.Name.elim (motive_1:=λZ=>β) x h f else z
@[elab_as_elim] theorem jw {P:Expr->Prop}{x:Expr}{f:Str->Pos->β}(hz:z≠y)(h:rm z x f=y)(k:∀a b,f a b=y->P (.Name a b)):P x:=
 if q:x.ctorIdx=23 then Expr.Name.elim (motive_1:=λx=>rm z x f=y->P x) x q k h else absurd ((bM q).symm.trans h) hz
noncomputable def eLi (z:β)(x:Expr)(f:List Expr->Pos->β):β:=if h:x.ctorIdx=24 then Expr.List.elim (motive_1:=λZ=>β) x h f else z
@[elab_as_elim] theorem eLi_i {P:Expr->Prop}{x:Expr}{f:List Expr->Pos->β}(hz:z≠y)(h:eLi z x f=y)(k:∀a b,f a b=y->P (.List a b)):P x:=
 if q:x.ctorIdx=24 then Expr.List.elim (motive_1:=λx=>eLi z x f=y->P x) x q k h else absurd ((bM q).symm.trans h) hz
noncomputable def R3 (z:β)(x:Expr)(f:List Expr->Nat->Pos->β):β:=if h:x.ctorIdx=25 then Expr.Tuple.elim (motive_1:=λZ=>β) x h f else z
@[elab_as_elim] theorem yX {P:Expr->Prop}{x:Expr}{f:List Expr->Nat->Pos->β}(hz:z≠y)(h:R3 z x f=y)(k:∀a b c,f a b c=y->P (.Tuple a b c)):P x:=
 if q:x.ctorIdx=25 then Expr.Tuple.elim (motive_1:=λx=>R3 z x f=y->P x) x q k h else absurd ((bM q).symm.trans h) hz
noncomputable def eSl (z:β)(x:Expr)(f:Option Expr->Option Expr->Option Expr->Pos->β):β:=if h:x.ctorIdx=26 then Expr.Slice.elim (motive_1:=λZ=>β) x h f else z
@[elab_as_elim] theorem YT {P:Expr->Prop}{x:Expr}{f:Option Expr->Option Expr->Option Expr->Pos->β}(hz:z≠y)(h:eSl z x f=y)(k:∀a b c d,f a b c d=y->P (.Slice a b c d)):P x:=
 if q:x.ctorIdx=26 then Expr.Slice.elim (motive_1:=λx=>eSl z x f=y->P x) x q k h else absurd ((bM q).symm.trans h) hz
noncomputable def eDC (z:β)(x:Expr)(f:Expr->Expr->List Comprehension->Scope->Pos->β):β:=if h:x.ctorIdx=10 then Expr.DictComp.elim (motive_1:=λZ=>β) x h f else z
@[elab_as_elim] theorem eDC_i {P:Expr->Prop}{x:Expr}{f:Expr->Expr->List Comprehension->Scope->Pos->β}(hz:z≠y)(h:eDC z x f=y)(k:∀a b c d e,f a b c d e=y->P (.DictComp a b c d e)):P x:=
 if q:x.ctorIdx=10 then Expr.DictComp.elim (motive_1:=λx=>eDC z x f=y->P x) x q k h else absurd ((bM q).symm.trans h) hz
noncomputable def Oj (z:β)(x:Stmt)(f:Option Expr->Pos->β):β:=if h:x.ctorIdx=3 then Stmt.Return.elim (motive_2:=λZ=>β) x h f else z
@[elab_as_elim] theorem Oi {P:Stmt->Prop}{x:Stmt}{f:Option Expr->Pos->β}(hz:z≠y)(h:Oj z x f=y)(k:∀a b,f a b=y->P (.Return a b)):P x:=
 if q:x.ctorIdx=3 then Stmt.Return.elim (motive_2:=λx=>Oj z x f=y->P x) x q k h else absurd ((bM q).symm.trans h) hz
noncomputable def G8 (z:β)(x:Stmt)(f:List Expr->Expr->Pos->β):β:=if h:x.ctorIdx=5 then Stmt.Assign.elim (motive_2:=λZ=>β) x h f else z
@[elab_as_elim] theorem Oo {P:Stmt->Prop}{x:Stmt}{f:List Expr->Expr->Pos->β}(hz:z≠y)(h:G8 z x f=y)(k:∀a b c,f a b c=y->P (.Assign a b c)):P x:=
 if q:x.ctorIdx=5 then Stmt.Assign.elim (motive_2:=λx=>G8 z x f=y->P x) x q k h else absurd ((bM q).symm.trans h) hz
noncomputable def G7 (z:β)(x:Stmt)(f:Expr->Expr->List Stmt->List Stmt->Pos->β):β:=if h:x.ctorIdx=9 then Stmt.For.elim (motive_2:=λZ=>β) x h f else z
@[elab_as_elim] theorem Om {P:Stmt->Prop}{x:Stmt}{f:Expr->Expr->List Stmt->List Stmt->Pos->β}(hz:z≠y)(h:G7 z x f=y)(k:∀a b c d e,f a b c d e=y->P (.For a b c d e)):P x:=
 if q:x.ctorIdx=9 then Stmt.For.elim (motive_2:=λx=>G7 z x f=y->P x) x q k h else absurd ((bM q).symm.trans h) hz
noncomputable def sWh (z:β)(x:Stmt)(f:Expr->List Stmt->List Stmt->Pos->β):β:=if h:x.ctorIdx=11 then Stmt.While.elim (motive_2:=λZ=>β) x h f else z
@[elab_as_elim] theorem Yc {P:Stmt->Prop}{x:Stmt}{f:Expr->List Stmt->List Stmt->Pos->β}(hz:z≠y)(h:sWh z x f=y)(k:∀a b c d,f a b c d=y->P (.While a b c d)):P x:=
 if q:x.ctorIdx=11 then Stmt.While.elim (motive_2:=λx=>sWh z x f=y->P x) x q k h else absurd ((bM q).symm.trans h) hz
noncomputable def G6 (z:β)(x:Stmt)(f:Expr->List Stmt->List Stmt->Pos->β):β:=if h:x.ctorIdx=12 then Stmt.If.elim (motive_2:=λZ=>β) x h f else z
@[elab_as_elim] theorem Ol {P:Stmt->Prop}{x:Stmt}{f:Expr->List Stmt->List Stmt->Pos->β}(hz:z≠y)(h:G6 z x f=y)(k:∀a b c d,f a b c d=y->P (.If a b c d)):P x:=
 if q:x.ctorIdx=12 then Stmt.If.elim (motive_2:=λx=>G6 z x f=y->P x) x q k h else absurd ((bM q).symm.trans h) hz
noncomputable def sEx (z:β)(x:Stmt)(f:Expr->Pos->β):β:=if h:x.ctorIdx=24 then Stmt.Expr.elim (motive_2:=λZ=>β) x h f else z
@[elab_as_elim] theorem I9 {P:Stmt->Prop}{x:Stmt}{f:Expr->Pos->β}(hz:z≠y)(h:sEx z x f=y)(k:∀a b,f a b=y->P (.Expr a b)):P x:=
 if q:x.ctorIdx=24 then Stmt.Expr.elim (motive_2:=λx=>sEx z x f=y->P x) x q k h else absurd ((bM q).symm.trans h) hz
noncomputable def dB (z:β)(x:D)(f:Bool->β):β:=if h:x.ctorIdx=1 then D.bool.elim (motive_1:=λZ=>β) x h f else z
@[elab_as_elim] theorem Ia {P:D->Prop}{x:D}{f:Bool->β}(hz:z≠y)(h:dB z x f=y)(k:∀a,f a=y->P (.bool a)):P x:=
 if q:x.ctorIdx=1 then D.bool.elim (motive_1:=λx=>dB z x f=y->P x) x q k h else absurd ((bM q).symm.trans h) hz
noncomputable def dI (z:β)(x:D)(f:Int->β):β:=if h:x.ctorIdx=2 then D.int.elim (motive_1:=λZ=>β) x h f else z
@[elab_as_elim] theorem jx {P:D->Prop}{x:D}{f:Int->β}(hz:z≠y)(h:dI z x f=y)(k:∀a,f a=y->P (.int a)):P x:=
 if q:x.ctorIdx=2 then D.int.elim (motive_1:=λx=>dI z x f=y->P x) x q k h else absurd ((bM q).symm.trans h) hz
noncomputable def dS (z:β)(x:D)(f:Str->β):β:=if h:x.ctorIdx=3 then D.str.elim (motive_1:=λZ=>β) x h f else z
@[elab_as_elim] theorem rz {P:D->Prop}{x:D}{f:Str->β}(hz:z≠y)(h:dS z x f=y)(k:∀a,f a=y->P (.str a)):P x:=
 if q:x.ctorIdx=3 then D.str.elim (motive_1:=λx=>dS z x f=y->P x) x q k h else absurd ((bM q).symm.trans h) hz
noncomputable def dL (z:β)(x:D)(f:List D->β):β:=if h:x.ctorIdx=4 then D.list.elim (motive_1:=λZ=>β) x h f else z
@[elab_as_elim] theorem lz {P:D->Prop}{x:D}{f:List D->β}(hz:z≠y)(h:dL z x f=y)(k:∀a,f a=y->P (.list a)):P x:=
 if q:x.ctorIdx=4 then D.list.elim (motive_1:=λx=>dL z x f=y->P x) x q k h else absurd ((bM q).symm.trans h) hz
noncomputable def dT (z:β)(x:D)(f:List D->β):β:=if h:x.ctorIdx=5 then D.tuple.elim (motive_1:=λZ=>β) x h f else z
@[elab_as_elim] theorem Mm {P:D->Prop}{x:D}{f:List D->β}(hz:z≠y)(h:dT z x f=y)(k:∀a,f a=y->P (.tuple a)):P x:=
 if q:x.ctorIdx=5 then D.tuple.elim (motive_1:=λx=>dT z x f=y->P x) x q k h else absurd ((bM q).symm.trans h) hz
noncomputable def dSd (z:β)(x:D)(f:List Str->List D->β):β:=if h:x.ctorIdx=6 then D.sdict.elim (motive_1:=λZ=>β) x h f else z
@[elab_as_elim] theorem R9 {P:D->Prop}{x:D}{f:List Str->List D->β}(hz:z≠y)(h:dSd z x f=y)(k:∀a b,f a b=y->P (.sdict a b)):P x:=
 if q:x.ctorIdx=6 then D.sdict.elim (motive_1:=λx=>dSd z x f=y->P x) x q k h else absurd ((bM q).symm.trans h) hz
noncomputable def dRg (z:β)(x:D)(f:Int->Int->β):β:=if h:x.ctorIdx=8 then D.rng.elim (motive_1:=λZ=>β) x h f else z
@[elab_as_elim] theorem Y7 {P:D->Prop}{x:D}{f:Int->Int->β}(hz:z≠y)(h:dRg z x f=y)(k:∀a b,f a b=y->P (.rng a b)):P x:=
 if q:x.ctorIdx=8 then D.rng.elim (motive_1:=λx=>dRg z x f=y->P x) x q k h else absurd ((bM q).symm.trans h) hz
noncomputable def dIs (z:β)(x:D)(f:List Int->β):β:=if h:x.ctorIdx=9 then D.iset.elim (motive_1:=λZ=>β) x h f else z
@[elab_as_elim] theorem dIs_i {P:D->Prop}{x:D}{f:List Int->β}(hz:z≠y)(h:dIs z x f=y)(k:∀a,f a=y->P (.iset a)):P x:=
 if q:x.ctorIdx=9 then D.iset.elim (motive_1:=λx=>dIs z x f=y->P x) x q k h else absurd ((bM q).symm.trans h) hz
noncomputable def dIn (z:β)(x:D)(f:List D->β):β:=if h:x.ctorIdx=10 then D.inst.elim (motive_1:=λZ=>β) x h f else z
@[elab_as_elim] theorem Fx {P:D->Prop}{x:D}{f:List D->β}(hz:z≠y)(h:dIn z x f=y)(k:∀a,f a=y->P (.inst a)):P x:=
 if q:x.ctorIdx=10 then D.inst.elim (motive_1:=λx=>dIn z x f=y->P x) x q k h else absurd ((bM q).symm.trans h) hz
noncomputable def Y9 (z:β)(x:D)(f:Str->Expr->Scope->β):β:=if h:x.ctorIdx=11 then D.lam.elim (motive_1:=λZ=>β) x h f else z
@[elab_as_elim] theorem Sd {P:D->Prop}{x:D}{f:Str->Expr->Scope->β}(hz:z≠y)(h:Y9 z x f=y)(k:∀a b c,f a b c=y->P (.lam a b c)):P x:=
 if q:x.ctorIdx=11 then D.lam.elim (motive_1:=λx=>Y9 z x f=y->P x) x q k h else absurd ((bM q).symm.trans h) hz
noncomputable def vI (z:β)(x:Value)(f:Int->Tok->β):β:=if h:x.ctorIdx=4 then Value.int.elim (motive:=λZ=>β) x h f else z
@[elab_as_elim] theorem Gy {P:Value->Prop}{x:Value}{f:Int->Tok->β}(hz:z≠y)(h:vI z x f=y)(k:∀a b,f a b=y->P (.int a b)):P x:=
 if q:x.ctorIdx=4 then Value.int.elim (motive:=λx=>vI z x f=y->P x) x q k h else absurd ((bM q).symm.trans h) hz
noncomputable def vB (z:β)(x:Value)(f:Bool->β):β:=if h:x.ctorIdx=3 then Value.bool.elim (motive:=λZ=>β) x h f else z
@[elab_as_elim] theorem vB_i {P:Value->Prop}{x:Value}{f:Bool->β}(hz:z≠y)(h:vB z x f=y)(k:∀a,f a=y->P (.bool a)):P x:=
 if q:x.ctorIdx=3 then Value.bool.elim (motive:=λx=>vB z x f=y->P x) x q k h else absurd ((bM q).symm.trans h) hz
noncomputable def vS (z:β)(x:Value)(f:Str->Tok->β):β:=if h:x.ctorIdx=6 then Value.str.elim (motive:=λZ=>β) x h f else z
@[elab_as_elim] theorem vS_i {P:Value->Prop}{x:Value}{f:Str->Tok->β}(hz:z≠y)(h:vS z x f=y)(k:∀a b,f a b=y->P (.str a b)):P x:=
 if q:x.ctorIdx=6 then Value.str.elim (motive:=λx=>vS z x f=y->P x) x q k h else absurd ((bM q).symm.trans h) hz
noncomputable def vT (z:β)(x:Value)(f:String->β):β:=if h:x.ctorIdx=8 then Value.type.elim (motive:=λZ=>β) x h f else z
@[elab_as_elim] theorem Nk {P:Value->Prop}{x:Value}{f:String->β}(hz:z≠y)(h:vT z x f=y)(k:∀a,f a=y->P (.type a)):P x:=
 if q:x.ctorIdx=8 then Value.type.elim (motive:=λx=>vT z x f=y->P x) x q k h else absurd ((bM q).symm.trans h) hz
noncomputable def vR (z:β)(x:Value)(f:Addr->β):β:=if h:x.ctorIdx=10 then Value.ref.elim (motive:=λZ=>β) x h f else z
@[elab_as_elim] theorem ZS {P:Value->Prop}{x:Value}{f:Addr->β}(hz:z≠y)(h:vR z x f=y)(k:∀a,f a=y->P (.ref a)):P x:=
 if q:x.ctorIdx=10 then Value.ref.elim (motive:=λx=>vR z x f=y->P x) x q k h else absurd ((bM q).symm.trans h) hz
noncomputable def aQ (z:β)(x:Data)(f:Array Value->Nat->β):β:=if h:x.ctorIdx=2 then Data.seq.elim (motive:=λZ=>β) x h f else z
@[elab_as_elim] theorem aQ_i {P:Data->Prop}{x:Data}{f:Array Value->Nat->β}(hz:z≠y)(h:aQ z x f=y)(k:∀a b,f a b=y->P (.seq a b)):P x:=
 if q:x.ctorIdx=2 then Data.seq.elim (motive:=λx=>aQ z x f=y->P x) x q k h else absurd ((bM q).symm.trans h) hz
noncomputable def aS (z:β)(x:Data)(f:Array (Int×Value)->Nat->SetTable->β):β:=if h:x.ctorIdx=4 then Data.set.elim (motive:=λZ=>β) x h f else z
@[elab_as_elim] theorem aS_i {P:Data->Prop}{x:Data}{f:Array (Int×Value)->Nat->SetTable->β}(hz:z≠y)(h:aS z x f=y)(k:∀a b c,f a b c=y->P (.set a b c)):P x:=
 if q:x.ctorIdx=4 then Data.set.elim (motive:=λx=>aS z x f=y->P x) x q k h else absurd ((bM q).symm.trans h) hz
noncomputable def aF (z:β)(x:Data)(f:Array Value->β):β:=if h:x.ctorIdx=9 then Data.fields.elim (motive:=λZ=>β) x h f else z
@[elab_as_elim] theorem aF_i {P:Data->Prop}{x:Data}{f:Array Value->β}(hz:z≠y)(h:aF z x f=y)(k:∀a,f a=y->P (.fields a)):P x:=
 if q:x.ctorIdx=9 then Data.fields.elim (motive:=λx=>aF z x f=y->P x) x q k h else absurd ((bM q).symm.trans h) hz
noncomputable def qI (z:β)(x:Const)(f:Int->β):β:=if h:x.ctorIdx=2 then Const.int.elim (motive:=λZ=>β) x h f else z
@[elab_as_elim] theorem qI_i {P:Const->Prop}{x:Const}{f:Int->β}(hz:z≠y)(h:qI z x f=y)(k:∀a,f a=y->P (.int a)):P x:=
 if q:x.ctorIdx=2 then Const.int.elim (motive:=λx=>qI z x f=y->P x) x q k h else absurd ((bM q).symm.trans h) hz
noncomputable def qS (z:β)(x:Const)(f:Str->β):β:=if h:x.ctorIdx=5 then Const.str.elim (motive:=λZ=>β) x h f else z
@[elab_as_elim] theorem qS_i {P:Const->Prop}{x:Const}{f:Str->β}(hz:z≠y)(h:qS z x f=y)(k:∀a,f a=y->P (.str a)):P x:=
 if q:x.ctorIdx=5 then Const.str.elim (motive:=λx=>qS z x f=y->P x) x q k h else absurd ((bM q).symm.trans h) hz
noncomputable def cB (z:β)(x:Code)(f:String->Args->β):β:=if h:x.ctorIdx=1 then Code.builtin.elim (motive:=λZ=>β) x h f else z
@[elab_as_elim] theorem cB_i {P:Code->Prop}{x:Code}{f:String->Args->β}(hz:z≠y)(h:cB z x f=y)(k:∀a b,f a b=y->P (.builtin a b)):P x:=
 if q:x.ctorIdx=1 then Code.builtin.elim (motive:=λx=>cB z x f=y->P x) x q k h else absurd ((bM q).symm.trans h) hz
noncomputable def oS {α:Type}(z:β)(o:Option α)(f:α->β):β:=Option.casesOn o z f
@[elab_as_elim] theorem someE {α:Type}{P:α->Prop}{a b:α}(h:some a=some b)(k:P a):P b:=aH h▸k
theorem j9 {α:Type}{c:Prop} [Decidable c] {x:Option α}{d:α}{Q:Prop}(h:(if c then x else none)=some d)(k:c->x=some d->Q):Q:=
 if q:c then k q ((ao q).symm.trans h)else nn ((aq q).symm.trans h)
@[elab_as_elim] theorem wO {α κ:Type} [DecidableEq κ] {P:κ->Prop}{x q:κ}{a b:Option α}{d:α}(h:(if x=q then a else b)=some d)(t:a=some d->P q)(f:b=some d->P x):P x:=
 if e:x=q then e▸t ((ao e).symm.trans h)else f ((aq e).symm.trans h)
@[elab_as_elim] theorem eqZ {α κ:Type} [DecidableEq κ] {P:κ->Prop}{x q:κ}{a:Option α}{d:α}(h:(if x=q then a else none)=some d)(t:a=some d->P q):P x:=
 j9 h λe h=>e▸t h
theorem sW {β:Type}{c:Bool}{a b y:β}{Q:Prop}(h:cond c a b=y)(t:a=y->Q)(f:b=y->Q):Q:=by
 induction c using fu with
 |false=>exact f h
 |true=>exact t h
theorem cdT {β:Type}{c:Bool}{a b y:β}{Q:Prop}(h:cond c a b=y)(t:c=true->a=y->Q)(f:b=y->Q):Q:=by
 induction c using fu with
 |false=>exact f h
 |true=>exact t rfl h
theorem cdB {β:Type}{c:Bool}{a b y:β}{Q:Prop}(h:cond c a b=y)(t:c=true->a=y->Q)(f:c=false->b=y->Q):Q:=by
 induction c using fu with
 |false=>exact f rfl h
 |true=>exact t rfl h
noncomputable def orC {α:Type}(o p:Option α):Option α:=Option.casesOn o p some
theorem Pr {α:Type}{o p:Option α}{d:α}{Q:Prop}(h:orC o p=some d)(l:o=some d->Q)(r:p=some d->Q):Q:=by
 induction o using aK with
 |none=>exact r h
 |some a=>exact l h
@[elab_as_elim] theorem nH {α β:Type}{P:β->Prop}{o:Option α}{f:α->β}{d:β}(h:o.map f=some d)(k:∀a,o=some a->P (f a)):P d:=by
 induction o using aK with
 |none=>exact nn h
 |some a=>exact someE h (k a rfl)
theorem Tp {α β:Type}{o:Option α}{f:α->Option β}{d:β}{Q:Prop}(h:o.bind f=some d)(k:∀a,o=some a->f a=some d->Q):Q:=by
 induction o using aK with
 |none=>exact nn h
 |some a=>exact k a rfl h
theorem gQ {α β:Type}{o:Option α}{f:α->Option β}{d:β}{Q:Prop}(h:oS none o f=some d)(k:∀a,o=some a->f a=some d->Q):Q:=by
 induction o using aK with
 |none=>exact nn h
 |some a=>exact k a rfl h
noncomputable def ib (z:β)(c:Bool)(f:β):β:=cond c f z
theorem qF {c:Bool}{f:β}(hz:z≠y)(h:ib z c f=y):c=true/\f=y:=by
 induction c using fu with
 |false=>exact absurd h hz
 |true=>exact⟨rfl,h⟩
noncomputable def l0 {α:Type}(z:β)(l:List α)(f:β):β:=List.casesOn l f λZ Z=>z
noncomputable def lc {α:Type}(z:β)(l:List α)(f:α->List α->β):β:=List.casesOn l z f
noncomputable def l1 {α:Type}(z:β)(l:List α)(f:α->β):β:=lc z l λa t=>l0 z t (f a)
noncomputable def l2 {α:Type}(z:β)(l:List α)(f:α->α->β):β:=lc z l λa t=>l1 z t (f a)
@[elab_as_elim] theorem lV {α:Type}{P:List α->Prop}{l:List α}{f:β}(hz:z≠y)(h:l0 z l f=y)(k:f=y->P []):P l:=by
 induction l using gY with
 |nil=>exact k h
 |cons a t=>exact absurd h hz
@[elab_as_elim] theorem nJ {α:Type}{P:List α->Prop}{l:List α}{f:α->List α->β}(hz:z≠y)(h:lc z l f=y)(k:∀a t,f a t=y->P (a::t)):P l:=by
 induction l using gY with
 |nil=>exact absurd h hz
 |cons a t=>exact k a t h
@[elab_as_elim] theorem jo {α:Type}{P:List α->Prop}{l:List α}{f:α->β}(hz:z≠y)(h:l1 z l f=y)(k:∀a,f a=y->P [a]):P l:=
 nJ hz h λa Z h=>lV (P:=λt=>P (a::t)) hz h (k a)
@[elab_as_elim] theorem pH {α:Type}{P:List α->Prop}{l:List α}{f:α->α->β}(hz:z≠y)(h:l2 z l f=y)(k:∀a b,f a b=y->P [a,b]):P l:=
 nJ hz h λa Z h=>jo (P:=λt=>P (a::t)) hz h (k a)
@[elab_as_elim] theorem Br {α:Type}{P:Option α->Prop}{o:Option α}{f:α->β}(hz:z≠y)(h:oS z o f=y)(k:∀a,f a=y->P (some a)):P o:=by
 induction o using aK with
 |none=>exact absurd h hz
 |some a=>exact k a h
end
theorem Eb {α β:Type}{z y:β}{o:Option α}{f:α->β}(hz:z≠y)(h:oS z o f=y):∃a,o=some a/\f a=y:=by
 induction o using aK with
 |none=>exact absurd h hz
 |some a=>exact⟨a,rfl,h⟩
noncomputable def gO:List Str:=["get_all","items","add_header","_convert_string_type"]
noncomputable def InstAt (bad:List Addr)(h:Heap)(a l:Addr):Prop:=
 a∉bad/\∃d od,d∉bad/\h.get? a=some (instObj 182 d)/\h.get? d=some od/\lookIn (Str.ofString "_headers") od=some (some (.ref l))/\∀x∈gO,lookIn x od=some none
structure LamF (fd:FuncData)(c:Addr)(x:Str)(body:Expr)(sc:Scope):Prop where
 pr:∃p,fd.params=⟨[],[⟨x,none,p⟩],none,[],[],none,[]⟩
 bd:fd.body=.expr body
 sc:fd.scope=sc
 gl:fd.globals=mainGlobals
 cl:fd.closure=[]
 bt:fd.builtins=builtinsNs
 co:fd.code=.ref c
 df:fd.defaults=.none
 kw:fd.kwdefaults=.none
noncomputable def LamC (a:Obj)(fd:FuncData):Prop:=∃vs t,a.data=.fields vs/\vs[1]? =some (.str fd.qualname t)
noncomputable def vz (bad:List Addr)(h:Heap)(a:Addr)(x:Str)(body:Expr)(sc:Scope):Prop:=
 a∉bad/\∃o fd c b,h.get? a=some o/\c∉bad/\h.get? c=some b/\o.data=.func fd/\LamF fd c x body sc/\LamC b fd
section
variable (prog:Program)(w:World)
mutual
inductive RD (bad:List Addr)(h:Heap):Value->D->Prop
 |none:RD bad h .none .none
 |bool (b:Bool):RD bad h (.bool b) (.bool b)
 |int (i:Int)(t:Tok):RD bad h (.int i t) (.int i)
 |str (x:Str)(t:Tok):RD bad h (.str x t) (.str x)
 |list {a:Addr}{items:Array Value}{ds:List D}:a∉bad->h.PlainList a items->fB bad h items.toList ds->RD bad h (.ref a) (.list ds)
 |tuple {a:Addr}{items:Array Value}{ds:List D}:a∉bad->h.IsTuple a items->fB bad h items.toList ds->RD bad h (.ref a) (.tuple ds)
 |sdict {a:Addr}{ks:List Str}{vs:List Value}{ds:List D}:a∉bad->(a==sysModules)=false->ks.length=vs.length->h.DictOf (strKind prog w) a (ks.zip vs)->fB bad h vs ds->RD bad h (.ref a) (.sdict ks ds)
 |idict {a:Addr}{ks:List Int}{vs:List Value}{ds:List D}:a∉bad->(a==sysModules)=false->ks.length=vs.length->h.DictOf (intKind prog w) a (ks.zip vs)->fB bad h vs ds->RD bad h (.ref a) (.idict ks ds)
 |rng {a:Addr}{lo hi:Int}{t u v:Tok}:a∉bad->IsRange h a lo hi 1 t u v->RD bad h (.ref a) (.rng lo hi)
 |iset {a:Addr}{o:Obj}{S:Int->Bool}{n:Nat}{xs:List Int}:a∉bad->h.get? a=some o->o.SetObjOf (intKind prog w) S n->n<scanBound->(∀k,S k=decide (k∈xs))->RD bad h (.ref a) (.iset xs)
 |inst {a l:Addr}{items:Array Value}{hs:List D}:InstAt bad h a l->l∉bad->h.PlainList l items->fB bad h items.toList hs->RD bad h (.ref a) (.inst hs)
 |lam {a:Addr}{x:Str}{body:Expr}{sc:Scope}:vz bad h a x body sc->RD bad h (.ref a) (.lam x body sc)
inductive fB (bad:List Addr)(h:Heap):List Value->List D->Prop
 |nil:fB bad h [] []
 |cons {v:Value}{d:D}{vs:List Value}{ds:List D}:RD bad h v d->fB bad h vs ds->fB bad h (v::vs) (d::ds)
end
end
theorem IsRange.at {h h':Heap}{r:Addr}{a b c:Int}{t u v:Tok}(x:IsRange h r a b c t u v)(k:∀o,h.get? r=some o->h'.get? r=some o):IsRange h' r a b c t u v:=by exact k _ x
theorem IsTuple.at {h h':Heap}{a:Addr}{its:Array Value}(x:h.IsTuple a its)(k:∀o,h.get? a=some o->h'.get? a=some o):h'.IsTuple a its:=by revert x;refine cW λo b q=>?_;exact⟨o,k o b,q⟩
section
variable {prog:Program}{w:World}{bad bad':List Addr}{h h':Heap}
theorem InstAt.mono {a l:Addr}(k:∀b o,b∉bad->h.get? b=some o->h'.get? b=some o)(x:InstAt bad h a l):InstAt bad h' a l:=
 let ⟨e,d,f,c,i,g,r⟩:=x
 ⟨e,d,f,c,k _ _ e i,k _ _ c g,r⟩
theorem vz.mono {a:Addr}{x:Str}{body:Expr}{sc:Scope}(k:∀b o,b∉bad->h.get? b=some o->h'.get? b=some o)(q:vz bad h a x body sc):vz bad h' a x body sc:=by revert q;exact o9 λd o i c g l f j e=>⟨d,o,i,c,g,k _ _ d l,f,k _ _ f j,e⟩
theorem Ad (k:∀b o,b∉bad->h.get? b=some o->h'.get? b=some o):(∀{v:Value}{d:D},RD prog w bad h v d->RD prog w bad h' v d)/\∀{vs:List Value}{ds:List D},fB prog w bad h vs ds->fB prog w bad h' vs ds:=by
 have x:=@RD.rec prog w bad h (λv d Z=>RD prog w bad h' v d) (λvs ds Z=>fB prog w bad h' vs ds) .none .bool .int .str (λc hl Z r=>.list c (hl.at λo=>k _ o c) r)
  (λc hl Z r=>.tuple c (IsTuple.at hl λo=>k _ o c) r) (λc f e g Z r=>.sdict c f e (g.at λo=>k _ o c) r) (λc f e g Z r=>.idict c f e (g.at λo=>k _ o c) r)
  (λc j=>.rng c (IsRange.at j λo=>k _ o c)) (λc m t p i=>.iset c (k _ _ c m) t p i) (λs hl l Z r=>.inst (s.mono k) hl (l.at λo=>k _ o hl) r) (λq=>.lam (q.mono k)) .nil (λZ Z a r=>.cons a r)
 have u:=@fB.rec prog w bad h (λv d Z=>RD prog w bad h' v d) (λvs ds Z=>fB prog w bad h' vs ds) .none .bool .int .str (λc hl Z r=>.list c (hl.at λo=>k _ o c) r)
  (λc hl Z r=>.tuple c (IsTuple.at hl λo=>k _ o c) r) (λc f e g Z r=>.sdict c f e (g.at λo=>k _ o c) r) (λc f e g Z r=>.idict c f e (g.at λo=>k _ o c) r)
  (λc j=>.rng c (IsRange.at j λo=>k _ o c)) (λc m t p i=>.iset c (k _ _ c m) t p i) (λs hl l Z r=>.inst (s.mono k) hl (l.at λo=>k _ o hl) r) (λq=>.lam (q.mono k)) .nil (λZ Z a r=>.cons a r)
 exact⟨λR=>x R,λR=>u R⟩
theorem RD.mono (k:∀b o,b∉bad->h.get? b=some o->h'.get? b=some o){v:Value}{d:D}(R:RD prog w bad h v d):RD prog w bad h' v d:=(Ad k).1 R
theorem fB.mono (k:∀b o,b∉bad->h.get? b=some o->h'.get? b=some o){vs:List Value}{ds:List D}(R:fB prog w bad h vs ds):fB prog w bad h' vs ds:=(Ad k).2 R
theorem ir (k:∀b,b∈bad'->b∈bad\/h.get? b=none){b:Addr}{o:Obj}(hb:b∉bad)(e:h.get? b=some o):b∉bad':=λq=>(k b q).elim hb λa=>nn (a.symm.trans e)
theorem InstAt.less {a l:Addr}(k:∀b,b∈bad'->b∈bad\/h.get? b=none)(x:InstAt bad h a l):InstAt bad' h a l:=
 let ⟨i,d,f,g,e,c,r⟩:=x
 ⟨ir k i e,d,f,ir k g c,e,c,r⟩
theorem vz.less {a:Addr}{x:Str}{body:Expr}{sc:Scope}(k:∀b,b∈bad'->b∈bad\/h.get? b=none)(q:vz bad h a x body sc):vz bad' h a x body sc:=by revert q;exact o9 λi o j c g f l d e=>⟨ir k i f,o,j,c,g,f,ir k l d,d,e⟩
theorem Ag (k:∀b,b∈bad'->b∈bad\/h.get? b=none):(∀{v:Value}{d:D},RD prog w bad h v d->RD prog w bad' h v d)/\∀{vs:List Value}{ds:List D},fB prog w bad h vs ds->fB prog w bad' h vs ds:=by
 have e:∀{K:Type} [DecidableEq K] {p:KeyKind prog w K}{a:Addr}{l:List (K×Value)},a∉bad->h.DictOf p a l->a∉bad':=λc g=>let ⟨_,_,_,f,_⟩:=g;ir k c f;have z:=@RD.rec prog w bad h (λv d Z=>RD prog w bad' h v d) (λvs ds Z=>fB prog w bad' h vs ds) .none .bool .int .str (λc hl Z r=>.list (let ⟨_,f⟩:=hl;ir k c f) hl r)
  (λc hl Z r=>.tuple (let ⟨_,f,_⟩:=hl;ir k c f) hl r) (λc j i g Z r=>.sdict (e c g) j i g r) (λc j i g Z r=>.idict (e c g) j i g r)
  (λc m=>.rng (ir k c m) m) (λc f x t s=>.iset (ir k c f) f x t s) (λu hl o Z r=>.inst (u.less k) (let ⟨_,f⟩:=o;ir k hl f) o r) (λq=>.lam (q.less k)) .nil (λZ Z a r=>.cons a r)
 have y:=@fB.rec prog w bad h (λv d Z=>RD prog w bad' h v d) (λvs ds Z=>fB prog w bad' h vs ds) .none .bool .int .str (λc hl Z r=>.list (let ⟨_,f⟩:=hl;ir k c f) hl r)
  (λc hl Z r=>.tuple (let ⟨_,f,_⟩:=hl;ir k c f) hl r) (λc j i g Z r=>.sdict (e c g) j i g r) (λc j i g Z r=>.idict (e c g) j i g r)
  (λc m=>.rng (ir k c m) m) (λc f x t s=>.iset (ir k c f) f x t s) (λu hl o Z r=>.inst (u.less k) (let ⟨_,f⟩:=o;ir k hl f) o r) (λq=>.lam (q.less k)) .nil (λZ Z a r=>.cons a r)
 exact⟨λR=>z R,λR=>y R⟩
theorem RD.less (k:∀b,b∈bad'->b∈bad\/h.get? b=Option.none){v:Value}{d:D}(R:RD prog w bad h v d):RD prog w bad' h v d:=(Ag k).1 R
theorem fB.less (k:∀b,b∈bad'->b∈bad\/h.get? b=none){vs:List Value}{ds:List D}(R:fB prog w bad h vs ds):fB prog w bad' h vs ds:=(Ag k).2 R
noncomputable def RDK (P:Value->Prop)(d:D):Prop:=D.casesOn (motive_1:=λZ=>Prop) d (P .none) (λb=>P (.bool b)) (λi=>∀t,P (.int i t)) (λx=>∀t,P (.str x t)) (λds=>∀a items,a∉bad->h.PlainList a items->fB prog w bad h items.toList ds->P (.ref a)) (λds=>∀a items,a∉bad->h.IsTuple a items->fB prog w bad h items.toList ds->P (.ref a))
 (λks ds=>∀a vs,a∉bad->(a==sysModules)=false->ks.length=vs.length->h.DictOf (strKind prog w) a (ks.zip vs)->fB prog w bad h vs ds->P (.ref a)) (λks ds=>∀a vs,a∉bad->(a==sysModules)=false->ks.length=vs.length->h.DictOf (intKind prog w) a (ks.zip vs)->fB prog w bad h vs ds->P (.ref a))
 (λlo hi=>∀a t u v,a∉bad->IsRange h a lo hi 1 t u v->P (.ref a)) (λxs=>∀a o S n,a∉bad->h.get? a=some o->o.SetObjOf (intKind prog w) S n->n<scanBound->(∀k,S k=decide (k∈xs))->P (.ref a)) (λhs=>∀a l items,InstAt bad h a l->l∉bad->h.PlainList l items->fB prog w bad h items.toList hs->P (.ref a)) (λx b sc=>∀a,vz bad h a x b sc->P (.ref a)) True
@[elab_as_elim] theorem RD.E {P:Value->Prop}{v:Value}{d:D}(R:RD prog w bad h v d):RDK (prog:=prog) (w:=w) (bad:=bad) (h:=h) P d->P v:=
 @RD.casesOn prog w bad h (λv d Z=>RDK (prog:=prog) (w:=w) (bad:=bad) (h:=h) P d->P v) v d R (λk=>k) (λZ k=>k) (λZ t k=>k t) (λZ t k=>k t) (λa b c k=>k _ _ a b c) (λa b c k=>k _ _ a b c) (λa b c d e k=>k _ _ a b c d e) (λa b c d e k=>k _ _ a b c d e) (λa b k=>k _ _ _ _ a b) (λa b c d e k=>k _ _ _ _ a b c d e) (λa b c d k=>k _ _ _ a b c d) (λa k=>k _ a)
@[elab_as_elim] theorem fB.yf {P:List Value->Prop}{vs:List Value}(R:fB prog w bad h vs [])(k:P []):P vs:=
 @fB.casesOn prog w bad h (λvs a Z=>List.casesOn (motive:=λZ=>Prop) a (P []) (λZ Z=>P vs)->P vs) vs [] R (λk=>k) (λZ Z k=>k) k
@[elab_as_elim] theorem fB.nA {P:List Value->Prop}{vs:List Value}{d:D}{ds:List D}(R:fB prog w bad h vs (d::ds))(k:∀v us,RD prog w bad h v d->fB prog w bad h us ds->P (v::us)):P vs:=
 @fB.casesOn prog w bad h (λvs ds Z=>List.casesOn (motive:=λZ=>Prop) ds (P vs) (λd ds=>∀v us,RD prog w bad h v d->fB prog w bad h us ds->P (v::us))->P vs) vs _ R (λk=>k) (λa b k=>k _ _ a b) k
theorem fB.nilN {Q:Prop}{d:D}{ds:List D}(r:fB prog w bad h [] (d::ds)):Q:=
 r.nA (P:=λl=>List.casesOn (motive:=λZ=>Prop) l Q λZ Z=>True) λZ Z Z Z=>trivial
theorem fB.Za {Q:Prop}{v:Value}{vs:List Value}(r:fB prog w bad h (v::vs) []):Q:=
 r.yf (P:=λl=>List.casesOn (motive:=λZ=>Prop) l True λZ Z=>Q) trivial
theorem RD.Hj {Q:Prop}{v:Value}(R:RD prog w bad h v .glob):Q:=R.E (P:=λZ=>Q) trivial
theorem fB.both {v:Value}{d:D}{vs:List Value}{ds:List D}(r:fB prog w bad h (v::vs) (d::ds)):RD prog w bad h v d/\fB prog w bad h vs ds:=
 r.nA (P:=λl=>List.casesOn (motive:=λZ=>Prop) l True λv vs=>RD prog w bad h v d/\fB prog w bad h vs ds) λv c a b=>⟨a,b⟩
theorem fB.head {v:Value}{d:D}{vs:List Value}{ds:List D}(r:fB prog w bad h (v::vs) (d::ds)):RD prog w bad h v d:=r.both.1
theorem fB.tail {v:Value}{d:D}{vs:List Value}{ds:List D}(r:fB prog w bad h (v::vs) (d::ds)):fB prog w bad h vs ds:=r.both.2
@[elab_as_elim] theorem fB.qD {P:List Value->Prop}{vs:List Value}{d:D}(R:fB prog w bad h vs [d])(k:∀v,RD prog w bad h v d->P [v]):P vs:=
 R.nA λv b a r=>r.yf (k v a)
@[elab_as_elim] theorem fB.Kc {P:List Value->Prop}{vs:List Value}{d e:D}(R:fB prog w bad h vs [d,e])(k:∀v u,RD prog w bad h v d->RD prog w bad h u e->P [v,u]):P vs:=
 R.nA λv c a r=>r.qD λu b=>k v u a b
theorem fB.length {vs:List Value}{ds:List D}(R:fB prog w bad h vs ds):vs.length=ds.length:=by
 induction ds generalizing vs with
 |nil=>exact R.yf rfl
 |cons d ds a=>exact R.nA λv b Z r=>bD (· +1) (a r)
theorem fB.get {vs:List Value}{ds:List D}(R:fB prog w bad h vs ds){i:Nat}{d:D}(e:ds[i]? =some d):∃v,vs[i]? =some v/\RD prog w bad h v d:=by
 induction ds generalizing vs i with
 |nil=>exact nn e
 |cons c ds g=>
  refine R.nA λv f a r=>?_
  induction i using Nat.casesAuxOn with
  |zero=>exact someE (P:=λd=>∃b,(v::f)[0]? =some b/\RD prog w bad h b d) e ⟨v,rfl,a⟩
  |succ i=>exact g r e
theorem fB.getV {vs:List Value}{ds:List D}(R:fB prog w bad h vs ds){i:Nat}{v:Value}(e:vs[i]? =some v):∃d,ds[i]? =some d/\RD prog w bad h v d:=by have a:i<ds.length:=R.length▸(cQ.mp e).1;refine cW (λc b r=>?_) (R.get (aR a));exact⟨_,aR a,aH (b.symm.trans e)▸r⟩
theorem fB.append {vs us:List Value}{ds es:List D}(R:fB prog w bad h vs ds)(r:fB prog w bad h us es):fB prog w bad h (vs++us) (ds++es):=by
 induction ds generalizing vs with
 |nil=>exact R.yf r
 |cons d ds b=>exact R.nA λv us a q=>.cons a (b q)
theorem fB.take {vs:List Value}{ds:List D}(n:Nat)(R:fB prog w bad h vs ds):fB prog w bad h (vs.take n) (ds.take n):=by
 induction ds generalizing vs n with
 |nil=>exact R.yf (by rw[List.take_nil,List.take_nil];exact .nil)
 |cons d ds b=>
  induction n using Nat.casesAuxOn with
  |zero=>exact .nil
  |succ n=>exact R.nA λv c a q=>.cons a (b n q)
theorem fB.drop {vs:List Value}{ds:List D}(n:Nat)(R:fB prog w bad h vs ds):fB prog w bad h (vs.drop n) (ds.drop n):=by
 induction ds generalizing vs n with
 |nil=>exact R.yf (by rw[List.drop_nil,List.drop_nil];exact .nil)
 |cons d ds b=>
  induction n using Nat.casesAuxOn with
  |zero=>exact R
  |succ n=>exact R.nA λv c a q=>b n q
@[elab_as_elim] theorem RD.jg {P:Value->Prop}{v:Value}{i:Int}(R:RD prog w bad h v (.int i))(k:∀t,P (.int i t)):P v:=R.E k
@[elab_as_elim] theorem RD.pA {P:Value->Prop}{v:Value}{i:Str}(R:RD prog w bad h v (.str i))(k:∀t,P (.str i t)):P v:=R.E k
@[elab_as_elim] theorem RD.zq {P:Value->Prop}{v:Value}{b:Bool}(R:RD prog w bad h v (.bool b))(k:P (.bool b)):P v:=R.E k
@[elab_as_elim] theorem RD.noneE {P:Value->Prop}{v:Value}(R:RD prog w bad h v .none)(k:P .none):P v:=R.E k
@[elab_as_elim] theorem RD.yq {P:Value->Prop}{v:Value}{ds:List D}(R:RD prog w bad h v (.list ds))(k:∀a items,a∉bad->h.PlainList a items->fB prog w bad h items.toList ds->items.size=ds.length->P (.ref a)):P v:=
 R.E λa i c hl b=>k a i c hl b (by rw[<-b.length,cX])
@[elab_as_elim] theorem RD.listE {P:Value->Prop}{v:Value}{ds:List D}(R:RD prog w bad h v (.list ds))(k:∀a items,a∉bad->h.IsList a items->fB prog w bad h items.toList ds->items.size=ds.length->P (.ref a)):P v:=
 R.yq λa items d hl b c=>k a items d hl.isList b c
@[elab_as_elim] theorem RD.vL {P:Value->Prop}{v:Value}{ds:List D}(R:RD prog w bad h v (.tuple ds))(k:∀a items,a∉bad->h.IsTuple a items->fB prog w bad h items.toList ds->items.size=ds.length->P (.ref a)):P v:=
 R.E λa i c hl b=>k a i c hl b (by rw[<-b.length,cX])
@[elab_as_elim] theorem RD.G5 {P:Value->Prop}{v:Value}{ks:List Str}{ds:List D}(R:RD prog w bad h v (.sdict ks ds))(k:∀a vs,a∉bad->(a==sysModules)=false->ks.length=vs.length->h.DictOf (strKind prog w) a (ks.zip vs)->fB prog w bad h vs ds->P (.ref a)):P v:=R.E k
@[elab_as_elim] theorem RD.Q4 {P:Value->Prop}{v:Value}{ks:List Int}{ds:List D}(R:RD prog w bad h v (.idict ks ds))(k:∀a vs,a∉bad->(a==sysModules)=false->ks.length=vs.length->h.DictOf (intKind prog w) a (ks.zip vs)->fB prog w bad h vs ds->P (.ref a)):P v:=R.E k
@[elab_as_elim] theorem RD.lamE {P:Value->Prop}{v:Value}{x:Str}{b:Expr}{sc:Scope}(R:RD prog w bad h v (.lam x b sc))(k:∀a,vz bad h a x b sc->P (.ref a)):P v:=R.E k
@[elab_as_elim] theorem RD.YH {P:Value->Prop}{v:Value}{hs:List D}(R:RD prog w bad h v (.inst hs))(k:∀a l items,InstAt bad h a l->l∉bad->h.PlainList l items->fB prog w bad h items.toList hs->P (.ref a)):P v:=R.E k
theorem RD.BW {v:Value}{i:Int}(R:RD prog w bad h v (.int i)):∃t,v=.int i t:=R.jg λt=>⟨t,rfl⟩
theorem RD.xT {v:Value}{i:Str}(R:RD prog w bad h v (.str i)):∃t,v=.str i t:=R.pA λt=>⟨t,rfl⟩
theorem RD.mJ {v:Value}{ds:List D}(R:RD prog w bad h v (.list ds)):∃a items,v=.ref a/\a∉bad/\h.IsList a items/\fB prog w bad h items.toList ds/\items.size=ds.length:=
 R.listE λa items d hl b c=>⟨a,items,rfl,d,hl,b,c⟩
theorem RD.Ei {v:Value}{ds:List D}(R:RD prog w bad h v (.list ds)):∃a items,v=.ref a/\a∉bad/\h.PlainList a items/\fB prog w bad h items.toList ds/\items.size=ds.length:=
 R.yq λa items d hl b c=>⟨a,items,rfl,d,hl,b,c⟩
theorem RD.Dm {v:Value}{ds:List D}(R:RD prog w bad h v (.tuple ds)):∃a items,v=.ref a/\a∉bad/\h.IsTuple a items/\fB prog w bad h items.toList ds/\items.size=ds.length:=
 R.vL λa items d hl b c=>⟨a,items,rfl,d,hl,b,c⟩
theorem RD.xF {v:Value}{b:Bool}(R:RD prog w bad h v (.bool b)):v=.bool b:=R.zq rfl
theorem RD.Vy {v:Value}(R:RD prog w bad h v .none):v=.none:=R.noneE rfl
end
noncomputable def Ext (h h':Heap):Prop:=∀b o,b∉Tb->h.get? b=some o->h'.get? b=some o
theorem Ext.refl (h:Heap):Ext h h:=λZ Z Z e=>e
theorem Ext.trans {h h' h'':Heap}(x:Ext h h')(y:Ext h' h''):Ext h h'':=λb o q e=>y b o q (x b o q e)
theorem Ext.push {h h':Heap}(x:Ext h h')(o:Obj):Ext h (h'.push o):=λb a q e=>aP o (x b a q e)
theorem Ext.iT {h h':Heap}(k:∀b o,h.get? b=some o->h'.get? b=some o):Ext h h':=λb o Z e=>k b o e
structure Sg where
 vars:List (Str×D)
 names:List (Str×NameKind)
noncomputable def Sg.lookup (σ:Sg)(x:Str):Option D:=σ.vars.lookup x
noncomputable def Vf (x:Str)(d:D)(l:List (Str×D)):Option (List (Str×D)):=@List.rec (Str×D) (λZ=>Option (List (Str×D))) none (λp r a=>if p.1=x then some ((x,d)::r)else oS none a λl=>some (p::l)) l
noncomputable def Sg.add (σ:Sg)(x:Str)(d:D):Sg:=⟨oS ((x,d)::σ.vars) (Vf x d σ.vars) id,σ.names⟩
noncomputable def Sg.holds (σ:Sg)(x:Str):Bool:=oS false (σ.names.lookup x) λk=>Nat.ble k.ctorIdx 1
structure Fn where
 addr:Addr
 fd:FuncData
 body:List Stmt
 shapes:List (Nat×List Str)
 dflts:List D
 kwd:List (Str×D)
 turned:List Str
inductive Fl where
 |next
 |ret (d:D)
structure Out where
 sg:Sg
 own:List Str
 fl:Fl
structure Rec where
 ev:Sg->Expr->Option D
 tst:Sg->Expr->Option Bool
 exs:List Str->Sg->List Str->List Stmt->Option Out
 callF:Str->List D->List (Str×D)->Option D
 callO:Str->List D->List (Str×D)->Option D
noncomputable def bot:Rec:=⟨λZ Z=>none,λZ Z=>none,λZ Z Z Z=>none,λZ Z Z=>none,λZ Z Z=>none⟩
noncomputable def H3 (f:D->D->Option Bool)(xs ys:List D):Option Bool:=@List.rec D (λZ=>List D->Option Bool) (λys=>l0 none ys (some true)) (λa Z c ys=>lc none ys λb bs=>oS none (f a b) λx=>oS none (c bs) λy=>some (x&&y)) xs ys
noncomputable def Cp:Nat->D->D->Option Bool
 |0=>λZ Z=>none
 |n+1=>λx y=>cond (Nat.beq x.ctorIdx 2) (dI none x λa=>dI none y λb=>some (a==b))<|cond (Nat.beq x.ctorIdx 3) (dS none x λa=>dS none y λb=>some (a==b))<|
  cond (Nat.beq x.ctorIdx 1) (dB none x λa=>dB none y λb=>some (a==b))<|cond (Nat.beq x.ctorIdx 4) (dL none x λa=>dL none y λb=>if a.length=b.length then H3 (Cp n) a b else some false)<|
  dT none x λa=>dT none y λb=>if a.length=b.length then H3 (Cp n) a b else none
noncomputable def W7 (x y:D):Option Bool:=Cp 20 x y
noncomputable def W5 (x y:List D):Option Bool:=H3 (Cp 20) x y
noncomputable def eqF (x y:D):Option Bool:=cond (Nat.beq x.ctorIdx 1) (dB none x λa=>dB none y λb=>some (a==b))<|dI none x λa=>dI none y λb=>some (a==b)
noncomputable def small (n:Nat):Bool:=Nat.ble n 1000000
noncomputable def mF (xs:List D):Option (List Int):=@List.rec D (λZ=>Option (List Int)) (some []) (λd Z a=>dI none d λi=>oS none a λns=>some (i::ns)) xs
noncomputable def z8 (xs:List D):Option (List Str):=@List.rec D (λZ=>Option (List Str)) (some []) (λd Z a=>dS none d λi=>oS none a λns=>some (i::ns)) xs
noncomputable def Ik (c:Operator)(x y:D):Option D:=match c with
 |.Add=>cond (Nat.beq x.ctorIdx 2) (dI none x λa=>dI none y λb=>some (.int (a+b)))<|cond (Nat.beq x.ctorIdx 3) (dS none x λa=>dS none y λb=>if small (a.length+b.length)then some (.str (a++b))else none)<|
  dL none x λa=>dL none y λb=>if small (a.length+b.length)then some (.list (a++b))else none
 |.Sub=>dI none x λa=>dI none y λb=>some (.int (a - b))
 |.Mult=>cond (Nat.beq x.ctorIdx 2) (dI none x λa=>dI none y λb=>if a.natAbs<2 ^ 50/\b.natAbs<2 ^ 50 then some (.int (a * b))else none)<|
  dL none x λa=>dI none y λb=>if b=2/\small a.length then some (.list (a++a))else none
 |.Mod=>dI none x λa=>dI none y λb=>if 0<b then some (.int (a % b))else none
 |.FloorDiv=>dI none x λa=>dI none y λb=>if 0<b/\b<2 ^ 50 then some (.int (a / b))else none
 |.BitAnd=>dI none x λa=>dI none y λb=>if 0<=a/\b=65535 then some (.int (a % 65536))else none
 |_=>none
noncomputable def isNone (x:D):Bool:=Nat.beq x.ctorIdx 0
noncomputable def rC (x:D)(l:List D):Option Bool:=@List.rec D (λZ=>Option Bool) (some false) (λy Z a=>oS none (eqF y x) λb=>cond b (a.map λZ=>true) a) l
noncomputable def K6 (x y:Str):Bool:=decide (x.cps.toList<y.cps.toList)
noncomputable def eqS2 (x y:D):Option Bool:=dSd none x λks ds=>dSd none y λa ds'=>if ks=a/\ds.length=ds'.length/\ks.length=ds.length then W5 ds ds' else none
noncomputable def ints2 (x y:D)(f:Int->Int->Bool):Option Bool:=dI none x λa=>dI none y λb=>some (f a b)
noncomputable def NZ (x y:D)(f:Str->Str->Bool):Option Bool:=dS none x λa=>dS none y λb=>some (f a b)
noncomputable def jh (c:CmpOp)(x y:D):Option Bool:=match c with
 |.Eq=>cond (Nat.beq x.ctorIdx 6&&Nat.beq y.ctorIdx 6) (eqS2 x y) (W7 x y)
 |.NotEq=>cond (Nat.beq x.ctorIdx 6) ((eqS2 x y).map not)<|cond (Nat.beq x.ctorIdx 2) (ints2 x y λa b=>a !=b)<|dL none x λa=>dL none y λb=>(W7 (.list a) (.list b)).map not
 |.Lt=>cond (Nat.beq x.ctorIdx 2) (ints2 x y λa b=>decide (a<b)) (NZ x y K6)
 |.LtE=>cond (Nat.beq x.ctorIdx 2) (ints2 x y λa b=>decide (a<=b)) (NZ x y λa b=>!K6 b a)
 |.Gt=>ints2 x y λa b=>decide (b<a)
 |.In=>cond (Nat.beq y.ctorIdx 9) (dI none x λa=>dIs none y λxs=>some (decide (a∈xs)))<|cond (Nat.beq y.ctorIdx 4) (dL none y (rC x)) (dT none y (rC x))
 |.Is=>ib none (isNone y) (some (isNone x))
 |.IsNot=>ib none (isNone y) (some (!isNone x))
 |_=>none
noncomputable def idx (xs:List D)(i:Int):Option D:=if 0<=i/\i<2 ^ 60 then xs[i.toNat]? else none
noncomputable def Yr (ks:List Str)(ds:List D)(x:Str):Option D:=@List.rec Str (λZ=>List D->Option D) (λZ=>none) (λk Z a ds=>lc none ds λd ds=>if k=x then some d else a ds) ks ds
noncomputable def Ae (ks:List Int)(ds:List D)(x:Int):Option D:=@List.rec Int (λZ=>List D->Option D) (λZ=>none) (λk Z a ds=>lc none ds λd ds=>if k=x then some d else a ds) ks ds
noncomputable def mD (x y:D):Option D:=cond (Nat.beq x.ctorIdx 4) (dL none x λxs=>dI none y (idx xs))<|cond (Nat.beq x.ctorIdx 5) (dT none x λxs=>dI none y (idx xs))<|
 cond (Nat.beq x.ctorIdx 3) (dS none x λx=>dI none y λi=>if 0<=i/\i<2 ^ 60 then(x.cps[i.toNat]?).map λc=>.str ⟨#[c]⟩else none)<|dSd none x λks ds=>dS none y (Yr ks ds)
noncomputable def place (n:Nat)(dflt:Nat):Option Int->Nat
 |none=>dflt
 |some i=>if i<0 then(n+i).toNat else min i.toNat n
noncomputable def jm {α:Type}(xs:List α)(l u:Option Int):List α:=
 let a:=place xs.length 0 l
 let b:=place xs.length xs.length u
 (xs.take b).drop a
noncomputable def gC (i:Int):Bool:=decide (-2 ^ 60<i/\i<2 ^ 60)
noncomputable def lZ (x:D)(l u:Option Int):Option D:=cond (Nat.beq x.ctorIdx 4) (dL none x λxs=>if l.all gC/\u.all gC/\small xs.length then some (.list (jm xs l u))else none)<|
 dS none x λx=>if l.all gC/\u.all gC/\small x.length then some (.str ⟨(jm x.cps.toList l u).toArray⟩)else none
noncomputable def uQ (a:Int)(l:List Int):Int:=@List.rec Int (λZ=>Int->Int) (λa=>a) (λb Z c a=>c (if b > a then b else a)) l a
noncomputable def zO (a:Int)(l:List Int):Int:=@List.rec Int (λZ=>Int->Int) (λa=>a) (λb Z c a=>c (if b<a then b else a)) l a
noncomputable def QT (x:Str)(l:List Str):List Str:=@List.rec Str (λZ=>List Str) [x] (λy ys a=>if K6 x y then x::y::ys else y::a) l
noncomputable def Dv (l:List Str):List Str:=l.foldr QT []
noncomputable def textOf (i:Int):Option Str:=if 0<=i/\i<=9 then some ⟨#[48+i.toNat]⟩else none
noncomputable def numOf (x:Str):Option Int:=l1 none x.cps.toList λc=>if 48<=c/\c<=57 then some (Int.ofNat (c - 48))else none
noncomputable def Zj (ds:List D):Option D:=l1 none ds λa=>dL none a λxs=>if small xs.length then some (.int xs.length)else none
noncomputable def Zm (ds:List D):Option D:=l1 none ds λa=>dI none a λi=>if 0<=i/\i<=1114111 then some (.str ⟨#[i.toNat]⟩)else none
noncomputable def Zh (ds:List D):Option D:=l1 none ds λa=>dS none a λx=>l1 none x.cps.toList λc=>some (.int c)
noncomputable def Zg (ds:List D):Option D:=l1 none ds λa=>dI none a λi=>(textOf i).map .str
noncomputable def Zk (ds:List D):Option D:=l1 none ds λa=>dS none a λx=>(numOf x).map .int
noncomputable def bi1 (f:Int->List Int->Int)(xs:List D):Option D:=oS none (mF xs) λns=>lc none ns λa r=>some (.int (f a r))
noncomputable def Zi (ds:List D):Option D:=lc none ds λa t=>cond t.isEmpty (dL none a (bi1 uQ)) (dI none a λa=>l1 none t λb=>dI none b λb=>some (.int (if b > a then b else a)))
noncomputable def JV (ds:List D):Option D:=l1 none ds λa=>dL none a (bi1 zO)
noncomputable def Zf (ds:List D):Option D:=l1 none ds λa=>dL none a λxs=>oS none (mF xs) λns=>if ns.all gC/\small ns.length then some (.int ns.sum)else none
noncomputable def Gg (ds:List D):Option D:=l1 none ds λa=>dL none a λxs=>oS none (z8 xs) λns=>if ns.length<60 then some (.list ((Dv ns).map .str))else none
noncomputable def xG (ds:List D):Option D:=lc none ds λa t=>dI none a λa=>cond t.isEmpty (if gC a then some (.rng 0 a)else none) (l1 none t λb=>dI none b λb=>if gC a/\gC b then some (.rng a b)else none)
noncomputable def Tw (ds:List D):Option D:=l1 none ds λa=>dRg none a λa b=>if (b - a).toNat<1000/\gC a=true/\gC b=true then some (.list ((List.range (b - a).toNat).map λ(i:Nat)=>.int (a+i)))else none
noncomputable def biD (x:Str)(ds:List D):Option D:=
 if x=Str.ofString "len" then Zj ds
 else if x=Str.ofString "chr" then Zm ds
 else if x=Str.ofString "ord" then Zh ds
 else if x=Str.ofString "str" then Zg ds
 else if x=Str.ofString "int" then Zk ds
 else if x=Str.ofString "max" then Zi ds
 else if x=Str.ofString "min" then JV ds
 else if x=Str.ofString "sum" then Zf ds
 else if x=Str.ofString "sorted" then Gg ds
 else if x=Str.ofString "range" then xG ds
 else if x=Str.ofString "list" then Tw ds
 else none
noncomputable def vh:List Str:=["len","chr","ord","str","int","max","min","sum","sorted","range","list"].map Str.ofString
noncomputable def idxOf (x:D)(l:List D):Nat->Option Nat:=@List.rec D (λZ=>Nat->Option Nat) (λZ=>none) (λy Z a n=>oS none (eqF y x) λb=>cond b (some n) (a (n+1))) l
noncomputable def Sy (x:D)(l:List D):Option Nat:=@List.rec D (λZ=>Option Nat) (some 0) (λy Z a=>oS none (eqF y x) λb=>oS none a λn=>some (cond b (n+1) n)) l
noncomputable def Qe (x:Str)(ds:List D):Option D:=l0 none ds<|if small x.length then some (.str (Txt.upper x))else none
noncomputable def Hl (x:Str)(ds:List D):Option D:=l0 none ds<|if small x.length then some (.str (Txt.lower x))else none
noncomputable def Qg (x:Str)(ds:List D):Option D:=l1 none ds λa=>dL none a λxs=>oS none (z8 xs) λts=>if ts.length<=1000/\ts.all (λt=>Nat.ble t.length 100)=true/\x.length<=2 then some (.str (Str.join x ts))else none
noncomputable def Qh (xs ds:List D):Option D:=l1 none ds λd=>if small xs.length=true/\(Sy d xs).isSome=true then(idxOf d xs 0).map λ(n:Nat)=>D.int (n:Int)else none
noncomputable def Qi (xs ds:List D):Option D:=l1 none ds λd=>if small xs.length then(Sy d xs).map λ(n:Nat)=>D.int (n:Int)else none
noncomputable def mGet (ks:List Int)(vs ds:List D):Option D:=lc none ds λa t=>dI none a λk=>cond t.isEmpty (some ((Ae ks vs k).getD .none)) (l1 none t λd=>some ((Ae ks vs k).getD d))
noncomputable def Ef (m:Str)(o:D)(ds:List D):Option D:=D.casesOn (motive_1:=λZ=>Option D) o none (λZ=>none) (λZ=>none)
 (λx=>if m=Str.ofString "upper" then Qe x ds else if m=Str.ofString "lower" then Hl x ds else if m=Str.ofString "join" then Qg x ds else none)
 (λxs=>if m=Str.ofString "index" then Qh xs ds else if m=Str.ofString "count" then Qi xs ds else none) (λZ=>none) (λZ Z=>none)
 (λks vs=>if m=Str.ofString "get" then mGet ks vs ds else none) (λZ Z=>none) (λZ=>none) (λZ=>none) (λZ Z Z=>none) none
noncomputable def gG (x:Str):Bool:=x==Str.ofString "__debug__" ||x==Str.ofString "__classdict__"
noncomputable def Ss (c:Const):Option D:=Const.casesOn c (some .none) (λb=>some (.bool b)) (λi=>some (.int i)) (λZ=>none) (λZ Z=>none) (λx=>some (.str x)) (λZ=>none) none
noncomputable def pR (d:D):Option (List D):=cond (Nat.beq d.ctorIdx 4) (dL none d some)<|cond (Nat.beq d.ctorIdx 8) (dRg none d λa b=>if gC a/\gC b then some ((List.range (b - a).toNat).map λ(i:Nat)=>.int (a+i))else none)<|dS none d λx=>some (x.cps.toList.map λc=>.str ⟨#[c]⟩)
theorem vY (a b:Int):pR (.rng a b)=if gC a/\gC b then some ((List.range (b - a).toNat).map λ(i:Nat)=>.int (a+i))else none:=rfl
noncomputable def Nb (d d':D):Option (List D):=dL none d λxs=>dL none d' λys=>some ((xs.zip ys).map λp=>.tuple [p.1,p.2])
noncomputable def Y8 {β:Type}(z:β)(d:D)(f:D->D->β):β:=cond (Nat.beq d.ctorIdx 4) (dL z d λl=>l2 z l f) (dT z d λl=>l2 z l f)
noncomputable def gq (t:Expr)(d:D)(σ:Sg):Option Sg:=cond (Nat.beq t.ctorIdx 23) (rm none t λx Z=>if σ.holds x then some (σ.add x d)else none)<|
 R3 none t λes Z Z=>l2 none es λu v=>rm none u λx Z=>rm none v λy Z=>Y8 none d λa b=>if σ.holds x&&σ.holds y then some ((σ.add x a).add y b)else none
noncomputable def vZ (o:Option D):Bool:=oS false o λd=>Nat.beq d.ctorIdx 12
noncomputable def Bt (e:Expr)(n:String)(σ:Sg):Bool:=rm false e λx Z=>x==Str.ofString n&&vZ (σ.lookup x)
noncomputable def uU (e:Expr):Bool:=jj false e λf as ks Z=>rm false f λx Z=>l2 false as λZ Z=>l0 false ks (x==Str.ofString "zip")
noncomputable def xf (e:Expr)(σ:Sg):Bool:=jj false e λf as ks Z=>l2 false as λZ Z=>l0 false ks (Bt f "zip" σ)
noncomputable def gH (r:Rec)(σ:Sg)(e:Expr):Option (List D):=cond (xf e σ) (jj none e λZ as Z Z=>l2 none as λa b=>oS none (r.ev σ a) λx=>oS none (r.ev σ b) λy=>Nb x y) ((r.ev σ e).bind pR)
noncomputable def iB (r:Rec)(σ:Sg)(es:List Expr):Option Bool:=@List.rec Expr (λZ=>Option Bool) (some true) (λe Z a=>oS none (r.tst σ e) λb=>cond b a (some false)) es
noncomputable def jB {β:Type}(r:Rec)(a:Sg->Option (List β))(g:Comprehension)(σ:Sg)(l:List D):Option (List β):=
 @List.rec D (λZ=>Option (List β)) (some []) (λd Z o=>oS none (gq g.target d σ) λσ'=>oS none (iB r σ' g.ifs) λb=>oS none (if b then a σ' else some []) λxs=>oS none o λys=>some (xs++ys)) l
noncomputable def wQ {β:Type}(r:Rec)(a:Sg->Option β)(l:List Comprehension)(σ:Sg):Option (List β):=@List.rec Comprehension (λZ=>Sg->Option (List β)) (λσ=>(a σ).map λx=>[x]) (λg Z b σ=>oS none (gH r σ g.iter) λds=>jB r b g σ ds) l σ
noncomputable def ig (sc:Scope):List (Str×D):=sc.names.filterMap λp=>if p.2== .globalImplicit then some (p.1,.glob)else none
noncomputable def iZ (sc:Scope)(σ:Sg):List (Str×NameKind):=sc.names.map λp=>if p.2== .free&&σ.names.lookup p.1==some .cell then(p.1,.cell)else p
noncomputable def under (sc:Scope)(σ:Sg):Sg:=⟨(σ.vars.filter λp=>sc.names.lookup p.1==some .free)++ig sc,iZ sc σ⟩
noncomputable def targetsOf (t:Expr):List Str:=cond (Nat.beq t.ctorIdx 23) (rm [] t λx Z=>[x])<|R3 [] t λes Z Z=>l2 [] es λu v=>rm [] u λx Z=>rm [] v λy Z=>[x,y]
noncomputable def uniq (l:List (Str×NameKind)):Bool:=@List.rec (Str×NameKind) (λZ=>Bool) true (λp a b=>a.all (λq=>q.1 !=p.1)&&b) l
noncomputable def wC (l:List Str):Bool:=@List.rec Str (λZ=>Bool) true (λx xs a=>xs.all (λy=>y !=x)&&a) l
noncomputable def Hs (σ:Sg)(p:Str×NameKind):Bool:=NameKind.casesOn p.2 true true (oS false (σ.names.lookup p.1) λk=>k== .cell||k== .free) false true
noncomputable def Ed (names:List (Str×NameKind)):Bool:=(names.lookup (Str.ofString "row")).isSome
noncomputable def qC (sc:Scope)(a:List Comprehension)(σ:Sg):Bool:=sc.kind== .function&&uniq sc.names&&sc.names.all (Hs σ)&&(a.all λg=>g.is_async==0&&(!uU g.iter||(targetsOf g.target).length==2)&&(targetsOf g.target).all λx=>sc.names.lookup x==some .local||sc.names.lookup x==some .cell)&&wC (a.flatMap λg=>targetsOf g.target)&&(!Ed sc.names||Ed σ.names)
noncomputable def iz {β:Type}(r:Rec)(b:Sg->Option β)(a:List Comprehension)(sc:Scope)(σ:Sg):Option (List β):=lc none a λg gs=>if qC sc (g::gs) σ then oS none (gH r σ g.iter) λds=>jB r (wQ r b gs) g (under sc σ) ds else none
noncomputable def eX (r:Rec)(σ:Sg)(es:List Expr):Option (List D):=@List.rec Expr (λZ=>Option (List D)) (some []) (λe Z a=>oS none (r.ev σ e) λd=>a.map λds=>d::ds) es
noncomputable def jF (x:Str)(sc:Scope):Bool:=sc.kind== .function&&sc.isGenerator==false&&sc.isCoroutine==false&&sc.names.lookup x==some .local&&uniq sc.names&&(sc.names.all λp=>p.2== .local)&& !Ed sc.names
noncomputable def lamD (e:Expr):Option D:=Mf none e λa body sc Z=>l1 none a.args λg=>ib none (a.posonlyargs.isEmpty&&(a.vararg.isNone&&(a.kwonlyargs.isEmpty&&(a.kw_defaults.isEmpty&&(a.kwarg.isNone&&(a.defaults.isEmpty&&g.annotation.isNone))))))<|
 if jF g.arg sc then some (.lam g.arg body sc)else none
noncomputable def kwD (r:Rec)(σ:Sg)(e:Expr):Option D:=cond (Nat.beq e.ctorIdx 4) (ib none (Ed σ.names) (lamD e)) (r.ev σ e)
noncomputable def jU (r:Rec)(σ:Sg)(ks:List Keyword):Option (List (Str×D)):=@List.rec Keyword (λZ=>Option (List (Str×D))) (some []) (λk Z a=>oS none k.arg λn=>oS none (kwD r σ k.value) λd=>a.map λds=>(n,d)::ds) ks
noncomputable def isSlice (e:Expr):Bool:=Nat.beq e.ctorIdx 26
noncomputable def n8 (r:Rec)(σ:Sg)(e:Option Expr):Option (Option Int):=Option.casesOn e (some none) λe=>oS none (r.ev σ e) λd=>dI none d λi=>some (some i)
noncomputable def CP (r:Rec)(σ:Sg)(es:List Expr):Option D:=@List.rec Expr (λZ=>Option D) none (λe es a=>cond es.isEmpty (r.ev σ e)<|oS none (r.ev σ e) λd=>dB none d λb=>cond b a (some (.bool false))) es
noncomputable def rR (r:Rec)(σ:Sg)(es:List Expr):Option Bool:=@List.rec Expr (λZ=>Option Bool) (some false) (λe Z a=>oS none (r.tst σ e) λb=>cond b (some true) a) es
noncomputable def Hv (d:D)(t:Str):Option Bool:=ib none (Nat.beq d.ctorIdx 1||Nat.beq d.ctorIdx 2||Nat.beq d.ctorIdx 3)<|if t=Str.ofString "bool" then some (Nat.beq d.ctorIdx 1)else if t=Str.ofString "str" then some (Nat.beq d.ctorIdx 3)else none
noncomputable def uM (e:Expr):Bool:=jj false e λf as ks Z=>cond (Nat.beq f.ctorIdx 23) (l0 false as (l0 false ks true)) false
noncomputable def dJ (o:Expr)(a p:Pos)(k:Nat):Bool:=!uM o&&a.endLine==p.line&&Nat.ble k 20
noncomputable def gN (x:Str):Bool:=!x.cps.toList.contains 46&& !gG x
noncomputable def ltI (l m:List Int):Bool:=@List.rec Int (λZ=>List Int->Bool) (λm=>!m.isEmpty) (λa Z c m=>lc false m λb bs=>if a=b then c bs else decide (a<b)) l m
noncomputable def zu (l:List (List Int)):Bool:=@List.rec (List Int) (λZ=>Bool) true (λa t c=>lc true t λb Z=>!ltI b a&&a.length==b.length&&c) l
noncomputable def tG (r:Rec)(y:Str)(body:Expr)(sc:Scope)(l:List D):Option (List (List Int)):=@List.rec D (λZ=>Option (List (List Int))) (some []) (λd Z a=>oS none (r.ev ⟨[(y,d)],sc.names⟩ body) λv=>dL none v λes=>oS none (mF es) λns=>oS none a λks=>some (ns::ks)) l
section
variable (qH:Str->Option Fn)(gD:Str->Option D)
noncomputable def Fj (r:Rec)(ds:List D)(kds:List (Str×D)):Option D:=l1 none ds λa=>dL none a λxs=>l1 none kds λp=>Y9 none p.2 λy body sc=>
 if p.1=Str.ofString "key"/\xs.length<60/\jF y sc=true then oS none (tG r y body sc xs) λks=>if zu ks then some (.list xs)else none else none
noncomputable def evIsi (r:Rec)(σ:Sg)(args:List Expr)(kws:List Keyword):Option D:=l2 none args λa t=>l0 none kws<|rm none t λt Z=>if vZ (σ.lookup t)then(r.ev σ a).bind λd=>(Hv d t).map .bool else none
noncomputable def HY (r:Rec)(σ:Sg)(x:Str)(args:List Expr)(kws:List Keyword):Option D:=if x=Str.ofString "isinstance" then evIsi r σ args kws else oS none (eX r σ args) λds=>
 cond kws.isEmpty (if vh.contains x then biD x ds else if gN x then r.callF x ds []else none)<|oS none (jU r σ kws) λkds=>if x=Str.ofString "sorted" then Fj r ds kds else if gN x=true/\x≠Str.ofString "Headers" then r.callF x ds kds else none
noncomputable def Fo (r:Rec)(σ:Sg)(x:Str)(args:List Expr)(kws:List Keyword)(y:Str)(body:Expr)(sc:Scope):Option D:=l1 none args λa=>l0 none kws<|if jF y sc=true/\gG x=false then(r.ev σ a).bind λd=>r.ev ⟨[(y,d)],sc.names⟩ body else none
noncomputable def evMe (r:Rec)(σ:Sg)(m:Str)(args:List Expr)(kws:List Keyword)(d:D):Option D:=cond (Nat.beq d.ctorIdx 10) (dIn none d λhs=>oS none (eX r σ args) λds=>oS none (jU r σ kws) λkds=>if gO.contains m then r.callF (Str.ofString "Headers."++m) (.inst hs::ds) kds else none)<|
 l0 none kws<|(eX r σ args).bind λds=>Ef m d ds
noncomputable def RT (r:Rec)(σ:Sg)(f:Expr)(args:List Expr)(kws:List Keyword)(p:Pos):Option D:=cond (Nat.beq f.ctorIdx 23) (rm none f λx Z=>oS none (σ.lookup x) λd=>cond (Nat.beq d.ctorIdx 12) (HY r σ x args kws) (Y9 none d (Fo r σ x args kws)))<|
 Xb none f λo m a=>ib none (dJ o a p (args.length+kws.length))<|oS none (r.ev σ o) (evMe r σ m args kws)
noncomputable def RQ (r:Rec)(σ:Sg)(f e d:Expr)(vs:List Expr):Option D:=oS none (r.ev σ f) λa=>dI none a λa=>oS none (r.ev σ e) λb=>dI none b λb=>oS none (r.ev σ d) λc=>dI none c λc=>
 oS none (eX r σ vs) λvs=>if a≠b/\a≠c/\b≠c then some (.idict [a,b,c] vs)else none
noncomputable def pairD (r:Rec)(k v:Expr)(σ:Sg):Option (Str×D):=oS none (r.ev σ k) λa=>dS none a λx=>oS none (r.ev σ v) λd=>some (x,d)
noncomputable def evS (r:Rec)(σ:Sg)(e:Expr):Option D:=Expr.casesOn (motive_1:=λZ=>Option D) e
 (λh es Z=>ib none (Nat.beq h.ctorIdx 0)<|CP r σ es) (λZ Z Z=>none)
 (λl h rr Z=>oS none (r.ev σ l) λa=>oS none (r.ev σ rr) λb=>Ik h a b)
 (λh e Z=>ib none (Nat.beq h.ctorIdx 3)<|oS none (r.ev σ e) λd=>dI none d λi=>some (.int (-i))) (λZ Z Z Z=>none)
 (λt b o Z=>oS none (r.tst σ t) λc=>cond c (r.ev σ b) (r.ev σ o))
 (λks vs Z=>lc none ks λA ks=>l2 none ks λz y=>oS none A λA=>oS none z λz=>oS none y λy=>lc none vs λE vs=>l2 none vs λC B=>RQ r σ A z y [E,C,B]) (λZ Z Z=>none)
 (λs g sc Z=>oS none (iz r (λσ=>r.ev σ s) g sc σ) λys=>if small ys.length then some (.list ys)else none) (λZ Z Z Z=>none)
 (λk v g sc Z=>oS none (iz r (pairD r k v) g sc σ) λkvs=>if wC (kvs.map (·.1))=true/\small kvs.length then some (.sdict (kvs.map (·.1)) (kvs.map (·.2)))else none) (λZ Z Z Z=>none) (λZ Z=>none) (λZ Z=>none) (λZ Z=>none)
 (λl q F Z=>l1 none q λh=>l1 none F λrr=>oS none (r.ev σ l) λa=>oS none (r.ev σ rr) λb=>(jh h a b).map .bool)
 (λf args kws p=>RT r σ f args kws p) (λZ Z Z Z=>none) (λZ Z=>none)
 (λc Z Z=>Ss c)
 (λv m Z=>if m=Str.ofString "_headers"/\uM v=false then oS none (r.ev σ v) λd=>dIn none d λhs=>some (.list hs)else none)
 (λv i Z=>cond (isSlice i) (eSl none i λl u t Z=>ib none t.isNone<|oS none (r.ev σ v) λd=>oS none (n8 r σ l) λa=>oS none (n8 r σ u) λb=>lZ d a b)<|
  oS none (r.ev σ v) λd=>oS none (r.ev σ i) λj=>mD d j) (λZ Z=>none)
 (λx Z=>if gG x then none else oS none (σ.lookup x) λd=>cond (Nat.beq d.ctorIdx 12) (gD x) (some d))
 (λes Z=>if es.length<=100 then(eX r σ es).map .list else none)
 (λes Z Z=>if es.length<=100 then(eX r σ es).map .tuple else none) (λZ Z Z Z=>none)
noncomputable def tstS (r:Rec)(σ:Sg)(e:Expr):Option Bool:=
 cond (Nat.beq e.ctorIdx 3) (eUn none e λc y p=>cond (Nat.beq c.ctorIdx 1) ((r.tst σ y).map not)<|oS none (r.ev σ e) λd=>dB none d λb=>some b)<|
 cond (Nat.beq e.ctorIdx 0) (eBo none e λc es p=>cond (Nat.beq c.ctorIdx 0) (iB r σ es) (rR r σ es))<|cond (Nat.beq e.ctorIdx 5) none<|
 cond (Nat.beq e.ctorIdx 15) (H8 none e λl f g p=>l1 none f λc=>l1 none g λrr=>oS none (r.ev σ l) λa=>oS none (r.ev σ rr) λb=>jh c a b)<|oS none (r.ev σ e) λd=>dB none d λb=>some b
noncomputable def Hw (e:Expr):Bool:=Nat.beq e.ctorIdx 8||Nat.beq e.ctorIdx 10
noncomputable def gP (e:Expr):Bool:=cond (Nat.beq e.ctorIdx 24) true<|cond (Nat.beq e.ctorIdx 8) true<|cond (Nat.beq e.ctorIdx 5) (eIf false e λZ b o Z=>Nat.beq b.ctorIdx 24&&Nat.beq o.ctorIdx 24)<|jj false e λf as ks Z=>l0 false as<|l0 false ks<|rm false f λx Z=>x==Str.ofString "Headers"
noncomputable def scalar (d:D):Bool:=Nat.ble d.ctorIdx 3
noncomputable def without (own:List Str)(σ:Sg):Sg:=⟨σ.vars.filter λp=>!own.contains p.1,σ.names⟩
noncomputable def vG (r:Rec)(σ:Sg)(own keep:List Str)(e:Expr):Option (D×List Str):=Option.casesOn (r.ev (without own σ) e) (oS none (r.ev (without keep σ) e) λd=>cond (scalar d) (some (d,own)) (some (d,own.filter keep.contains))) λd=>some (d,own)
noncomputable def Uj (o:Option Out)(f:Sg->List Str->Option Out):Option Out:=oS none o λout=>Fl.casesOn out.fl (f out.sg out.own) λZ=>some out
theorem onNE {o:Option Out}{f:Sg->List Str->Option Out}{out:Out}{Q:Prop}(h:Uj o f=some out)(k:∀σ own,o=some ⟨σ,own,.next⟩->f σ own=some out->Q)(r:∀d,o=some out->out.fl=.ret d->Q):Q:=by
 refine gQ h λa b e=>?_;obtain⟨σ,own,c⟩:=a
 induction c using Fl.casesOn with
 |next=>exact k σ own b e
 |ret d=>exact r d (b.trans e) (bD Out.fl (aH e)).symm
noncomputable def mK (r:Rec)(a:List Str)(b:Expr)(body:List Stmt)(l:List D):Sg->List Str->Option Out:=@List.rec D (λZ=>Sg->List Str->Option Out) (λσ own=>some ⟨σ,own,.next⟩) (λd Z c σ own=>oS none (gq b d σ) λσ'=>Uj (r.exs a σ' own body) c) l
noncomputable def oA (r:Rec)(a:List Str)(t:Expr)(b:List Stmt)(k:Nat):Sg->List Str->Option Out:=@Nat.rec (λZ=>Sg->List Str->Option Out) (λZ Z=>none) (λZ d σ own=>oS none (r.tst σ t) λc=>cond c (Uj (r.exs a σ own b) d) (some ⟨σ,own,.next⟩)) k
noncomputable def pairE (v:Expr):Bool:=R3 false v λl Z Z=>l2 false l λZ Z=>true
section
variable (r:Rec)(turned:List Str)(σ:Sg)(own:List Str)
noncomputable def exT2 (x y:Str)(v:Expr):Option Out:=R3 none v λl Z Z=>l2 none l λd c=>if x=y|| !σ.holds x|| !σ.holds y||(constantsAlone 8 d&&constantsAlone 8 c)then none else oS none (r.ev (without own σ) d) λa=>oS none (r.ev (without own σ) c) λb=>
 some ⟨(σ.add x a).add y b,(if turned.contains x&&gP d then[x]else[])++(if turned.contains y&&gP c then[y]else[])++own.filter (λz=>z !=x&&z !=y),.next⟩
noncomputable def exT1 (x:Str)(px:Pos)(y:Str)(py:Pos)(k:Nat)(p:Pos)(v:Expr):Option Out:=if x=y then none else oS none (r.ev (without own σ) v) λd=>(gq (.Tuple [.Name x px,.Name y py] k p) d σ).map λσ'=>⟨σ',own.filter (λz=>z !=x&&z !=y),.next⟩
noncomputable def exA (v t:Expr):Option Out:=cond (Nat.beq t.ctorIdx 23) (rm none t λx Z=>if !σ.holds x then none else oS none (vG r σ own [] v) λq=>some ⟨σ.add x q.1,if turned.contains x&&gP v then x::q.2.filter (· !=x)else q.2.filter (· !=x),.next⟩)<|
 R3 none t λl k p=>l2 none l λa b=>rm none a λx px=>rm none b λy py=>cond (pairE v) (exT2 r turned σ own x y v) (exT1 r σ own x px y py k p v)
noncomputable def exAp (x:Str)(px:Pos)(m:Str)(a p:Pos)(e:Expr):Option Out:=if m=Str.ofString "append"/\own.contains x=true/\gG x=false/\dJ (.Name x px) a p 1=true then oS none (σ.lookup x) λl=>dL none l λxs=>oS none (vG r σ own [x] e) λq=>
 if q.2.contains x/\small xs.length then some ⟨σ.add x (.list (xs++[q.1])),q.2,.next⟩else none else none
noncomputable def exM2 (x:Str)(px:Pos)(m:Str)(f p:Pos)(e c:Expr):Option Out:=if own.contains x=true/\gG x=false/\dJ (.Name x px) f p 2=true then oS none (σ.lookup x) λl=>oS none (r.ev (without own σ) e) λa=>oS none (r.ev (without own σ) c) λb=>
 if m=Str.ofString "insert" then dL none l λxs=>dI none a λi=>if 0<=i/\i<=xs.length/\small xs.length then some ⟨σ.add x (.list (xs.take i.toNat++b::xs.drop i.toNat)),own,.next⟩else none
 else dIn none l λhs=>if gO.contains m then oS none (r.callO (Str.ofString "Headers."++m) [.inst hs,a,b] []) λd=>some ⟨σ.add x d,own,.next⟩else none else none
noncomputable def exC (f x:Str)(args:List Expr)(kws:List Keyword):Option Out:=if own.contains x=true/\vZ (σ.lookup f)=true/\gN f=true/\f≠Str.ofString "Headers"/\gG x=false/\own.contains f=false then oS none (σ.lookup x) λa=>oS none (eX r (without own σ) args) λds=>
 oS none (jU r (without own σ) kws) λkds=>oS none (r.callO f (a::ds) kds) λd=>some ⟨σ.add x d,own,.next⟩else none
noncomputable def ni (st:Stmt):Option Out:=cond (Nat.beq st.ctorIdx 5) (G8 none st λts v Z=>l1 none ts (exA r turned σ own v))<|
 cond (Nat.beq st.ctorIdx 12) (G6 none st λt b o Z=>oS none (r.tst σ t) λc=>cond c (r.exs turned σ own b) (r.exs turned σ own o))<|
 cond (Nat.beq st.ctorIdx 11) (sWh none st λt b o Z=>l0 none o (oA r turned t b 64 σ own))<|
 cond (Nat.beq st.ctorIdx 9) (G7 none st λg d b o Z=>l0 none o<|oS none (gH r (without own σ) d) λds=>if ((targetsOf g).all λx=>!own.contains x&& !turned.contains x)&&(!uU d||(targetsOf g).length==2)then mK r turned g b ds σ own else none)<|
 cond (Nat.beq st.ctorIdx 3) (Oj none st λe Z=>oS none e λe=>oS none (vG r σ own [] e) λq=>some ⟨σ,q.2,.ret q.1⟩)<|
 sEx none st λc Z=>jj none c λf as ks p=>cond (Nat.beq f.ctorIdx 20) (Xb none f λo m h=>rm none o λx px=>l0 none ks<|lc none as λa t=>cond t.isEmpty (exAp r σ own x px m h p a) (l1 none t λb=>exM2 r σ own x px m h p a b))<|
  rm none f λg Z=>lc none as λa as=>rm none a λx Z=>exC r σ own g x as ks
end
noncomputable def fO (r:Rec)(a:List Str)(σ:Sg)(own:List Str)(l:List Stmt):Option Out:=@List.rec Stmt (λZ=>Sg->List Str->Option Out) (λσ own=>some ⟨σ,own,.next⟩) (λs Z b σ own=>Uj (ni r a σ own s) b) l σ own
noncomputable def rE (σ:Sg)(l:List (Str×D)):Sg:=l.foldl (λσ p=>σ.add p.1 p.2) σ
noncomputable def argNames (a:Arguments):List Str:=a.args.map (·.arg)
noncomputable def BK (a:Arguments):List Str:=a.kwonlyargs.map (·.arg)
noncomputable def bindL (f:Fn)(ds:List D)(kds:List (Str×D)):Option (List (Str×D)):=
 let e:=argNames f.fd.params
 let pos:=e.zip ds
 let c:=e.drop ds.length
 let h:=e.length - f.dflts.length
 let g:=(e.drop h).zip f.dflts
 oS none (c.mapM λp=>(g.lookup p).map λd=>(p,d)) λa=>oS none ((BK f.fd.params).mapM λp=>((kds.lookup p).or (f.kwd.lookup p)).map λd=>(p,d)) λb=>some (pos++a++b)
noncomputable def Tn (f:Fn)(ds:List D)(kds:List (Str×D)):Option Sg:=(bindL f ds kds).map (rE ⟨ig f.fd.scope,f.fd.scope.names⟩)
noncomputable def flD (f:Fl):D:=Fl.casesOn f .none λd=>d
noncomputable def SN (r:Rec)(x:Str)(ds:List D)(kds:List (Str×D)):Option D:=oS none (qH x) λf=>if f.shapes.contains (ds.length,kds.map (·.1))then oS none (Tn f ds kds) λσ=>oS none (r.exs f.turned σ [] f.body) λout=>some (flD out.fl)else none
noncomputable def Ih (r:Rec)(x:Str)(ds:List D)(kds:List (Str×D)):Option D:=oS none (qH x) λf=>lc none ds λa Z=>dL none a λZ=>if f.shapes.contains (ds.length,kds.map (·.1))then oS none (bindL f ds kds) λL=>lc none L λp L=>
 if (L.map (·.1)).contains p.1||f.turned.contains p.1 then none else oS none (r.exs f.turned (rE ⟨ig f.fd.scope,f.fd.scope.names⟩ (p::L)) [p.1] f.body) λout=>Fl.casesOn out.fl (if out.own.contains p.1 then oS none (out.sg.lookup p.1) λd=>dL none d λys=>some (.list ys)else none) λZ=>none
 else none
structure zB where
 callF:Str->List D->List (Str×D)->Option D
 callO:Str->List D->List (Str×D)->Option D
noncomputable def N6 (P:zB)(r:Rec):Rec where
 ev:=evS gD r
 tst:=tstS r
 exs:=fO r
 callF x ds kds:=orC (P.callF x ds kds) (SN qH r x ds kds)
 callO x ds kds:=orC (P.callO x ds kds) (Ih qH r x ds kds)
noncomputable def run (P:zB):Nat->Rec
 |0=>bot
 |n+1=>N6 qH gD P (run P n)
end
theorem kj:∀b∈Tb,b<412:=by decide
noncomputable def Ue (o:Obj):Prop:=o.cls=.type "code"/\∃vs,o.data=.fields vs
noncomputable def jd (h:Heap)(b:Addr):Prop:=∃o,h.get? b=some o/\¬Ue o
theorem jd.alive {h:Heap}{b:Addr}(x:jd h b):(h.get? b).isSome=true:=by revert x;refine cW λo a Z=>?_;rw[a];rfl
theorem jd.keep {h h':Heap}{b:Addr}(x:jd h b)(k:∀o,h.get? b=some o->h'.get? b=some o):jd h' b:=let ⟨o,a,q⟩:=x;⟨o,k o a,q⟩
theorem uP {o:Obj}(h:o.cls≠.type "code"):¬Ue o:=λ⟨e,_⟩=>h e
theorem gF {o:Obj}(h:∀vs,o.data≠.fields vs):¬Ue o:=λ⟨_,vs,e⟩=>h vs e
noncomputable def xK (h:Heap)(b:Value)(q:Str):Prop:=∃c a vs t,b=.ref c/\h.get? c=some a/\a.cls=.type "code"/\a.data=.fields vs/\vs[1]? =some (.str q t)
noncomputable def UW (P:Addr):Str:=if P=386 then "_law_shelved.<locals>.<lambda>" else "_law_halved.<locals>.<lambda>"
noncomputable def TabAt (h:Heap)(P:Addr)(a:Array Value):Prop:=h.get? P=some (tabObj a)/\TriplesOk a.toList/\∀pos b,codeAmong pos a.toList=some b->xK h b (UW P)
structure Wd (prog:Program)(w:World)(gD:Str->Option D) where
 S:Heap->Prop
 low:∀{h h':Heap},S h->(∀b o,(b<412\/Ue o)->h.get? b=some o->h'.get? b=some o)->S h'
 size:∀{h:Heap},S h->412<=h.objs.size
 nolim:∀{h:Heap},S h->h.NoLimit
 tab:∀{h:Heap},S h->∀P∈Tb,∃ps,TabAt h P ps
 grow:∀{h h':Heap}{P:Addr}{ps:Array Value},S h->P∈Tb->(∀b o,b≠P->h.get? b=some o->h'.get? b=some o)->TabAt h' P ps->S h'
 mg:Str->Option Value
 mb:Str->Option Value
 g:∀{h:Heap},S h->h.Ns mainGlobals mg
 b:∀{h:Heap},S h->h.Ns builtinsNs mb
 bat:∀{h:Heap}{P:Addr},S h->P∈Tb->h.BuiltinsAt mg P
 stat:∀{x d},gD x=some d->∃v,mg x=some v/\∀{h:Heap}{bad:List Addr},S h->(∀b∈bad,b∈Tb\/412<=b)->RD prog w bad h v d
noncomputable def Bound (h:Heap)(ε:Env)(x:Str)(v:Value):Prop:=
 (ε.kindOf x=some .local/\∃m,h.Ns ε.locals m/\m x=some v)\/((ε.kindOf x=some .cell\/ε.kindOf x=some .free)/\∃a,ε.cells.lookup x=some a/\h.IsCell a (some v))
section
variable {prog:Program}{w:World}{gD:Str->Option D}(W:Wd prog w gD)
theorem Wd.UL {h:Heap}(hS:W.S h):∀b∈Tb,jd h b:=λb c=>let ⟨_,a,_⟩:=W.tab hS b c;⟨_,a,uP (λq=>by nomatch q)⟩
noncomputable def Ay (prog:Program)(w:World)(A:Around)(E:VP)(Q:VP)(acc:Value)(L:Addr)(s':Shared):Option (Value->Sem Unit)->Prop
 |none=>∃m,s'.heap.Ns L m/\∀h',Heap.SameBut L s'.heap h'->Q acc {s' with heap:=h'}
 |some u=>wpAny (model prog w) A (u acc) (λZ a=>∃m,a.heap.Ns L m/\∀h',Heap.SameBut L a.heap h'->Q .none {a with heap:=h'}) E s'
noncomputable def Ub (ε:Env):Prop:=∃c P,ε.code=.ref c/\P∈Tb/\ε.qual++"<lambda>"=UW P/\∀h,W.S h->CodeHd h c P
structure s7 (ε:Env)(bad:List Addr)(h:Heap):Prop where
 S:W.S h
 kind:ε.scope.kind=.function
 glob:ε.globals=mainGlobals
 blt:ε.builtins=builtinsNs
 ns:∃m,h.Ns ε.locals m
 hi:412<=ε.locals
 lin:ε.locals∈bad
 cells:∀x,ε.kindOf x=some .cell\/ε.kindOf x=some .free->∃a v,ε.cells.lookup x=some a/\h.IsCell a v/\a∈bad/\a≠ε.locals/\412<=a
 inj:∀x y a,ε.cells.lookup x=some a->ε.cells.lookup y=some a->x=y
 cin:∀x a,ε.cells.lookup x=some a->a∈bad/\a≠ε.locals/\412<=a
 tb:∀b∈Tb,b∈bad
 old:∀b∈bad,jd h b/\(b∈Tb\/412<=b)
 mkl:Ed ε.scope.names=true->Ub W ε
structure gw (ε:Env)(bad:List Addr)(σ:Sg)(h:Heap):Prop extends s7 W ε bad h where
 names:ε.scope.names=σ.names
 env:∀x d,σ.lookup x=some d->(d=.glob/\ε.kindOf x=some .globalImplicit)\/∃v,Bound h ε x v/\RD prog w bad h v d
variable {W}
theorem Bound.ext {h h':Heap}{ε:Env}{x:Str}{v:Value}(B:Bound h ε x v)(hi:412<=ε.locals)(d:∀a,(ε.kindOf x=some .cell\/ε.kindOf x=some .free)->ε.cells.lookup x=some a->412<=a)
 (X:Ext h h'):Bound h' ε x v:=by
 revert B;refine yO (nG λk m c e=>qK (λo f g b q=>?_) c) (xO λk a e o b q=>?_)
 ·exact .inl ⟨k,m,⟨o,f,g,X _ _ (λt=>absurd (kj _ t) (bc.mpr hi)) b,q⟩,e⟩
 ·exact .inr ⟨k,a,e,o,X _ _ (λt=>absurd (kj _ t) (bc.mpr (d a k e))) b,q⟩
theorem s7.q8 {ε:Env}{bad:List Addr}{h:Heap}(F:s7 W ε bad h){x:Str}{a:Addr}(k:ε.kindOf x=some .cell\/ε.kindOf x=some .free)(e:ε.cells.lookup x=some a):412<=a:=by refine gW (λb v d Z Z Z q=>?_) (F.cells x k);have c:=aH (e.symm.trans d);subst c;exact q
theorem fY {bad:List Addr}{h h':Heap}(tb:∀b∈Tb,b∈bad)(X:Ext h h'):∀b o,b∉bad->h.get? b=some o->h'.get? b=some o:=
 λb o q e=>X b o (λt=>q (tb b t)) e
theorem s7.ext {ε:Env}{bad:List Addr}{h h':Heap}(F:s7 W ε bad h)(X:Ext h h')(hS:W.S h'):s7 W ε bad h' where
 S:=hS
 kind:=F.kind
 glob:=F.glob
 blt:=F.blt
 ns:=by refine qJ (λm o j l c q=>?_) F.ns;exact⟨m,o,j,l,X _ _ (λt=>absurd (kj _ t) (bc.mpr F.hi)) c,q⟩
 hi:=F.hi
 lin:=F.lin
 cells:=λx k=>by refine gW (λa v e g r1 r2 d=>cW (λo c i=>?_) g) (F.cells x k);exact⟨a,v,e,⟨o,X _ _ (λt=>absurd (kj _ t) (bc.mpr d)) c,i⟩,r1,r2,d⟩
 inj:=F.inj
 cin:=F.cin
 tb:=F.tb
 old:=λb f=>by
  refine⟨?_,(F.old b f).2⟩;by_cases t:b∈Tb
  ·exact W.UL hS b t
  ·exact(F.old b f).1.keep λo c=>X b o t c
 mkl:=F.mkl
theorem gw.ext {ε:Env}{bad:List Addr}{σ:Sg}{h h':Heap}(F:gw W ε bad σ h)(X:Ext h h')(hS:W.S h'):gw W ε bad σ h' where
 tos7:=F.tos7.ext X hS
 names:=F.names
 env:=λx d e=>by
  refine aC (F.env x d e) (λq=>?_) (cW λv B R=>?_)
  ·exact .inl q
  ·exact .inr ⟨v,B.ext F.hi (λa k e=>F.q8 k e) X,R.mono (fY F.tb X)⟩
theorem Wd.pZ {h h':Heap}(hS:W.S h)(k:∀b o,h.get? b=some o->h'.get? b=some o):W.S h':=W.low hS λb o Z e=>k b o e
theorem Wd.j0 {h h':Heap}(hS:W.S h){a:Addr}(j:412<=a){d:Obj}(c:h.get? a=some d)(g:¬Ue d)(k:∀b o,b≠a->h.get? b=some o->h'.get? b=some o):W.S h':=
 W.low hS λb o i e=>k b o (λq=>by subst q;have f:=aH (c.symm.trans e);subst f;exact i.elim (λq=>absurd q (bc.mpr j)) g) e
theorem Wd.pushS {h:Heap}(hS:W.S h)(o:Obj):W.S (h.push o):=W.pZ hS λZ Z e=>aP o e
theorem Wd.jT {h:Heap}:h.get? h.objs.size=none:=by
 induction e:h.get? h.objs.size using aK with
 |none=>rfl
 |some o=>exact absurd (aZ e) (eY _)
variable (W)
noncomputable def Gives (bad:List Addr)(s:Shared)(d:D)(Q:VP):Prop:=
 ∀v h' tk,RD prog w bad h' v d->Ext s.heap h'->W.S h'->Q v (zs s h' tk)
noncomputable def my (s:Shared)(b:Bool)(Q:Bool->Shared->Prop):Prop:=
 ∀h' tk,Ext s.heap h'->W.S h'->Q b (zs s h' tk)
noncomputable def Ud (bad:List Addr)(s:Shared)(ds:List D)(Q:List Value->Shared->Prop):Prop:=
 ∀vs h' tk,fB prog w bad h' vs ds->Ext s.heap h'->W.S h'->Q vs (zs s h' tk)
structure fj (n:Nat)(A:Around):Prop where
 hd:A.handled=none
 depth:A.depth+n+1<recursionLimit
 units:A.units+16 * n+100<cLine
variable {W}
theorem fj.less {n m:Nat}{A:Around}(R:fj n A)(h:m<=n):fj m A:=⟨R.hd,by have:=R.depth;lia,by have:=R.units;lia⟩
noncomputable def jK (bad:List Addr)(h:Heap)(v:Value)(d:D)(l:Addr):Prop:=
 l∈bad/\l∉Tb/\∃items ds,h.PlainList l items/\fB prog w bad h items.toList ds/\((d=.list ds/\v=.ref l)\/(d=.inst ds/\∃a,v=.ref a/\InstAt bad h a l))
end
section
variable {prog:Program}{w:World}{gD:Str->Option D}(W:Wd prog w gD)
noncomputable def oX (ε:Env)(own:List Str)(ol:Str->Addr)(b:Addr):Prop:=
 b∈Tb\/b=ε.locals\/(∃x,ε.cells.lookup x=some b)\/∃x,own.contains x=true/\b=ol x
structure dD (ε:Env)(bad:List Addr)(σ:Sg)(own:List Str)(ol:Str->Addr)(h:Heap):Prop extends s7 W ε bad h where
 names:ε.scope.names=σ.names
 env:∀x d,σ.lookup x=some d->own.contains x=false->(d=.glob/\ε.kindOf x=some .globalImplicit)\/∃v,Bound h ε x v/\RD prog w bad h v d
 ow:∀x,own.contains x=true->∃d v,σ.lookup x=some d/\Bound h ε x v/\jK (prog:=prog) (w:=w) bad h v d (ol x)
 oinj:∀x y,own.contains x=true->own.contains y=true->ol x=ol y->x=y
 off:∀x,own.contains x=true->412<=ol x/\ol x≠ε.locals/\∀y,ε.cells.lookup y≠some (ol x)
structure Tr (t:List Str)(ε:Env)(own:List Str)(ol:Str->Addr)(bad:List Addr)(h:Heap)(own':List Str)(ol':Str->Addr)(bad':List Addr)(h':Heap):Prop where
 keep:∀b o,¬oX ε own ol b->h.get? b=some o->h'.get? b=some o
 new:∀b∈bad',b∈bad\/h.get? b=none
 left:∀b∈bad,b∈bad'\/∃x,own.contains x=true/\b=ol x
 src:∀x,own'.contains x=true->(∃y,own.contains y=true/\ol' x=ol y)\/h.get? (ol' x)=none
 fix:∀x,own'.contains x=true->t.contains x=false->own.contains x=true/\ol' x=ol x
 alive:∀b,(h.get? b).isSome=true->(h'.get? b).isSome=true
theorem Tr.refl {t:List Str}{ε:Env}{own:List Str}{ol:Str->Addr}{bad:List Addr}{h:Heap}:Tr t ε own ol bad h own ol bad h:=
 ⟨λZ Z Z e=>e,λZ q=>.inl q,λZ q=>.inl q,λx q=>.inl ⟨x,q,rfl⟩,λZ q Z=>⟨q,rfl⟩,λZ q=>q⟩
theorem Tr.trans {t:List Str}{ε:Env}{own own' c:List Str}{ol j f:Str->Addr}{bad bad' d:List Addr}{h h' h'':Heap}
 (x:Tr t ε own ol bad h own' j bad' h')(y:Tr t ε own' j bad' h' c f d h'')
 (old:∀b∈bad,(h.get? b).isSome=true):Tr t ε own ol bad h c f d h'' where
 keep b o q e:=by
  have l:=x.keep b o q e;refine y.keep b o ?_ l
  rintro (m|m|m|⟨z,hz,rfl⟩)
  ·exact q (.inl m)
  ·exact q (.inr (.inl m))
  ·exact q (.inr (.inr (.inl m)))
  ·refine aC (x.src z hz) (cW λu k i=>?_) (λg=>?_)
   ·exact q (.inr (.inr (.inr ⟨u,k,i⟩)))
   ·rw[g]at e;exact nn e
 new b hb:=by
  refine aC (y.new b hb) (λq=>?_) (λq=>?_)
  ·exact x.new b q
  ·induction e:h.get? b using aK with
   |none=>exact .inr rfl
   |some o=>
    have:=x.alive b (by rw[e];rfl);rw[q]at this;nomatch this
 left b hb:=by
  refine aC (x.left b hb) (λq=>?_) (λq=>?_)
  ·rcases y.left b q with q|⟨z,hz,rfl⟩
   ·exact .inl q
   ·refine aC (x.src z hz) (cW λu k i=>?_) (λg=>?_)
    ·exact .inr ⟨u,k,i⟩
    ·have:=old _ hb
     rw[g]at this;nomatch this
  ·exact .inr q
 src z hz:=by
  refine aC (y.src z hz) (cW λu k i=>?_) (λg=>?_)
  ·refine aC (x.src u k) (cW λv p ev=>?_) (λg=>?_)
   ·exact .inl ⟨v,p,i.trans ev⟩
   ·exact .inr (by rw[i];exact g)
  ·induction e:h.get? (f z)using aK with
   |none=>exact .inr rfl
   |some o=>
    have:=x.alive _ (by rw[e];rfl);rw[g]at this;nomatch this
 fix z hz ht:=by refine yA (λa e=>?_) (y.fix z hz ht);refine yA (λb l=>?_) (x.fix z a ht);exact⟨b,e.trans l⟩
 alive b hb:=y.alive b (x.alive b hb)
noncomputable def Iw (bad:List Addr)(h:Heap)(f:Fl)(fl:Flow):Prop:=Fl.casesOn f (fl=.next) λd=>∃v,fl=.ret v/\RD prog w bad h v d
structure gV (bad:List Addr)(h:Heap):Prop where
 tb:∀b∈Tb,b∈bad
 old:∀b∈bad,jd h b/\(b∈Tb\/412<=b)
variable (fA:Str->Option Addr)
noncomputable def qp (bad:List Addr)(s:Shared)(d:D)(Q:VP):Prop:=
 ∀v l h' tk,s.heap.get? l=none->412<=l->jK (prog:=prog) (w:=w) (l::bad) h' v d l->Ext s.heap h'->W.S h'->Q v (zs s h' tk)
noncomputable def EvOK (n:Nat)(f:Sg->Expr->Option D):Prop:=∀{σ:Sg}{e:Expr}{d:D}{A:Around}{ε:Env}{bad:List Addr}{s:Shared}{Q:VP}{E:VP},
 f σ e=some d->fj n A->gw W ε bad σ s.heap->Gives W bad s d Q->wpAny (model prog w) A (eval e ε) Q E s
noncomputable def FrOK (n:Nat)(f:Sg->Expr->Option D):Prop:=∀{σ:Sg}{e:Expr}{d:D}{A:Around}{ε:Env}{bad:List Addr}{s:Shared}{Q:VP}{E:VP},
 f σ e=some d->gP e=true->fj n A->gw W ε bad σ s.heap->
 qp W bad s d Q->wpAny (model prog w) A (eval e ε) Q E s
noncomputable def UsOK (n:Nat)(f:Sg->Expr->Option D):Prop:=∀{σ:Sg}{e:Expr}{d:D}{A:Around}{ε:Env}{bad:List Addr}{s:Shared}{u:Value->Sem Unit}{Q:Shared->Prop}{E:VP},
 f σ e=some d->Hw e=true->fj n A->gw W ε bad σ s.heap->
 (∀v L h' tk m,scalar d=false->L∉bad->412<=L->s.heap.get? L=none->RD prog w (L::bad) h' v d->(gP e=true->∃l,s.heap.get? l=none/\412<=l/\l≠L/\jK (prog:=prog) (w:=w) (L::l::bad) h' v d l)->Ext s.heap h'->W.S h'->h'.Ns L m->
  Ay prog w A E (λZ=>Q) v L (zs s h' tk) (some u))->wpAny (model prog w) A (evalThenUse e ε u) (λZ=>Q) E s
noncomputable def TstOK (n:Nat)(f:Sg->Expr->Option Bool):Prop:=∀{σ:Sg}{e:Expr}{b:Bool}{A:Around}{ε:Env}{bad:List Addr}{s:Shared}{Q:Bool->Shared->Prop}{E:VP},
 f σ e=some b->fj n A->gw W ε bad σ s.heap->my W s b Q->wpAny (model prog w) A (isTrue e ε (eval e ε)) Q E s
noncomputable def ExsOK (n:Nat)(f:List Str->Sg->List Str->List Stmt->Option Out):Prop:=∀{t:List Str}{σ:Sg}{own:List Str}{body:List Stmt}{out:Out}{A:Around}{ε:Env}{bad:List Addr}{ol:Str->Addr}{s:Shared}{Q:Flow->Shared->Prop}{E:VP},
 f t σ own body=some out->fj n A->dD W ε bad σ own ol s.heap->
 (∀fl h' tk bad' a,Tr t ε own ol bad s.heap out.own a bad' h'->dD W ε bad' out.sg out.own a h'->Iw (prog:=prog) (w:=w) bad' h' out.fl fl->Q fl (zs s h' tk))->
 wpAny (model prog w) A (execs body ε) Q E s
noncomputable def CfOK (n:Nat)(f:Str->List D->List (Str×D)->Option D):Prop:=∀{x:Str}{ds:List D}{kds:List (Str×D)}{d:D}{a:Addr}{A:Around}{bad:List Addr}{vs kvs:List Value}{s:Shared}{Q:VP}{E:VP},
 f x ds kds=some d->fA x=some a->fj n A->W.S s.heap->gV bad s.heap->fB prog w bad s.heap vs ds->fB prog w bad s.heap kvs (kds.map (·.2))->Gives W bad s d Q->
 wpAny (model prog w) A (call (.ref a) vs ((kds.map (·.1)).zip kvs)) Q E s
noncomputable def HdOK (n:Nat)(f:Str->List D->List (Str×D)->Option D):Prop:=∀{d:D}{a:Addr}{A:Around}{bad:List Addr}{s:Shared}{Q:VP}{E:VP},f (Str.ofString "Headers") [] []=some d->fA (Str.ofString "Headers")=some a->fj n A->W.S s.heap->gV bad s.heap->
 qp W bad s d Q->wpAny (model prog w) A (call (.ref a) [] []) Q E s
noncomputable def CoOK (n:Nat)(f:Str->List D->List (Str×D)->Option D):Prop:=∀{x:Str}{d₀:D}{ds:List D}{kds:List (Str×D)}{d:D}{a l:Addr}{A:Around}{bad:List Addr}{c:Value}{vs kvs:List Value}{s:Shared}{Q:VP}{E:VP},
 f x (d₀::ds) kds=some d->fA x=some a->fj n A->W.S s.heap->gV bad s.heap->jK (prog:=prog) (w:=w) bad s.heap c d₀ l->fB prog w bad s.heap vs ds->fB prog w bad s.heap kvs (kds.map (·.2))->
 (∀h' tk,jK (prog:=prog) (w:=w) bad h' c d l->(∀b o,b∉Tb->b≠l->s.heap.get? b=some o->h'.get? b=some o)->W.S h'->Q .none (zs s h' tk))->
 wpAny (model prog w) A (call (.ref a) (c::vs) ((kds.map (·.1)).zip kvs)) Q E s
structure cL (n:Nat)(r:Rec):Prop where
 star:∀σ e p,r.ev σ (.Starred e p)=none
 domF:∀x ds kds d,r.callF x ds kds=some d->∃a,fA x=some a
 domO:∀x ds kds d,r.callO x ds kds=some d->∃a,fA x=some a
 noset:∀σ e k p,r.ev σ (.Set e k p)=none
 nosc:∀σ a b c p,r.ev σ (.SetComp a b c p)=none
 ev:EvOK W n r.ev
 fr:FrOK W n r.ev
 us:UsOK W n r.ev
 tst:TstOK W n r.tst
 exs:ExsOK W n r.exs
 callF:CfOK W fA n r.callF
 hd:HdOK W fA n r.callF
 callO:CoOK W fA n r.callO
end
noncomputable def ie:List (Str×Value):=[("len",.builtin "len"),("chr",.builtin "chr"),("ord",.builtin "ord"),("max",.builtin "max"),("min",.builtin "min"),("sum",.builtin "sum"),("sorted",.builtin "sorted"),("isinstance",.builtin "isinstance"),
 ("str",.type "str"),("int",.type "int"),("bool",.type "bool"),("range",.type "range"),("list",.type "list"),("zip",.type "zip")].map λp=>(Str.ofString p.1,p.2)
section
variable {prog:Program}{w:World}{gD:Str->Option D}(W:Wd prog w gD)(fA:Str->Option Addr)
noncomputable def AttrOK:Prop:=∀{A:Around}{bad:List Addr}{s:Shared}{a l:Addr}{Q:VP}{E:VP}{b:Bool},W.S s.heap->InstAt bad s.heap a l->(∀t,Q (.ref l) {s with toks:=t})->wpAny (model prog w) A (getAttr (.ref a) (Str.ofString "_headers") b) Q E s
noncomputable def MthOK:Prop:=∀{m:Str}{fa:Addr}{A:Around}{bad:List Addr}{s:Shared}{a l:Addr}{Q:Value×List Value->Shared->Prop}{E:VP}{b:Sem Bool},m∈gO->fA (Str.ofString "Headers."++m)=some fa->W.S s.heap->InstAt bad s.heap a l->
 Q (.ref fa,[.ref a]) s->wpAny (model prog w) A (getMethod (.ref a) m b) Q E s
structure Hk:Prop where
 bi:∀p∈ie,W.mg p.1=none/\W.mb p.1=some p.2
 fn:∀x a,fA x=some a->gN x=true->W.mg x=some (.ref a)
 attr:AttrOK W
 meth:MthOK W fA
 kp:∀a,fA (Str.ofString "Headers")=some a->∀(M:Model) h,W.S h->Looks M h (keeperOf (.ref a)) .machine
 fo:∀x a,fA x=some a->x≠Str.ofString "Headers"->∃o fd,o.data=.func fd/\∀h,W.S h->h.get? a=some o
end
section
variable {prog:Program}{w:World}{gD:Str->Option D}(W:Wd prog w gD)
noncomputable def jq (f:Fn):Prop:=∀{ds:List D}{kds L:List (Str×D)}{A:Around}{vs kvs:List Value}{s:Shared}{Q:List (Str×Value)->Shared->Prop}{E:VP},f.shapes.contains (ds.length,kds.map (·.1))=true->bindL f ds kds=some L->
 W.S s.heap->vs.length=ds.length->kvs.length=kds.length->(∀rest restD,L.map (·.2)=ds++restD->(∀bad,gV bad s.heap->fB prog w bad s.heap kvs (kds.map (·.2))->fB prog w bad s.heap rest restD)->Q ((L.map (·.1)).zip (vs++rest)) s)->wpAny (model prog w) A (bindArgs f.fd ⟨vs,(kds.map (·.1)).zip kvs⟩) Q E s
noncomputable def HoldOK (f:Fn):Prop:=∀ds kds L,f.shapes.contains (ds.length,kds.map (·.1))=true->bindL f ds kds=some L->∀x∈L.map (·.1),Sg.holds ⟨ig f.fd.scope,f.fd.scope.names⟩ x=true
structure Iv (f:Fn):Prop where
 obj:∃o,o.data=.func f.fd/\∀h,W.S h->h.get? f.addr=some o
 body:f.fd.body=.stmts f.body
 clo:f.fd.closure=[]
 glob:f.fd.globals=mainGlobals
 blt:f.fd.builtins=builtinsNs
 co:f.fd.scope.isCoroutine=false
 gen:f.fd.scope.isGenerator=false
 kind:f.fd.scope.kind=.function
 uq:uniq f.fd.scope.names=true
 free:∀x,(x,NameKind.free)∉f.fd.scope.names
 code:∀h,W.S h->h.CodeRec f.fd.code f.fd.qualname
 mkl:Ed f.fd.scope.names=true->∀ε:Env,ε.code=f.fd.code->ε.qual=f.fd.qualname++".<locals>."->Ub W ε
 holds:HoldOK f
 bind:jq W f
end
section
variable {prog:Program}{w:World}{gD:Str->Option D}{W:Wd prog w gD}{fA:Str->Option Addr}{qH:Str->Option Fn}{n:Nat}{r:Rec}
structure xJ (W:Wd prog w gD)(fA:Str->Option Addr)(P:zB):Prop where
 domF:∀x ds kds d,P.callF x ds kds=some d->∃a,fA x=some a
 domO:∀x ds kds d,P.callO x ds kds=some d->∃a,fA x=some a
 callF:CfOK W fA 4 P.callF
 hd:HdOK W fA 4 P.callF
 callO:CoOK W fA 4 P.callO
theorem bot_ok:cL W fA n bot where
 star _ _ _:=rfl
 domF _ _ _ _ e:=by exact nn e
 domO _ _ _ _ e:=by exact nn e
 noset _ _ _ _:=rfl
 nosc _ _ _ _ _:=rfl
 ev e:=by exact nn e
 fr e:=by exact nn e
 us e:=by exact nn e
 tst e:=by exact nn e
 exs e:=by exact nn e
 callF e:=by exact nn e
 hd e:=by exact nn e
 callO e:=by exact nn e
end
structure Cx where
 prog:Program
 w:World
 gD:Str->Option D
 W:Wd prog w gD
 fA:Str->Option Addr
 qH:Str->Option Fn
 PP:zB
 n:Nat
 r:Rec
noncomputable def Cx.Good (X:Cx):Prop:=Hk X.W X.fA->(∀x f,X.qH x=some f->Iv X.W f/\X.fA x=some f.addr)->xJ X.W X.fA X.PP->X.qH (Str.ofString "Headers")=none->4<=X.n->cL X.W X.fA X.n X.r->cL X.W X.fA (X.n+1) (N6 X.qH X.gD X.PP X.r)
theorem Oa:Nonempty Cx:=⟨⟨PySem.Challenge.pw_ti0078_01,aWorld 0,λZ=>none,⟨λZ=>False,λh Z=>h,λh=>h.elim,λh=>h.elim,λh=>h.elim,λh=>h.elim,λZ=>none,λZ=>none,λh=>h.elim,λh=>h.elim,λh=>h.elim,λe=>nn e⟩,λZ=>none,λZ=>none,⟨λZ Z Z=>none,λZ Z Z=>none⟩,0,bot⟩⟩
@[irreducible] noncomputable def X0:Cx:=@Classical.epsilon Cx Oa λX=>¬X.Good
theorem allCx (h:X0.Good)(X:Cx):X.Good:=Classical.byContradiction λq=>by unfold X0 at h;exact @Classical.epsilon_spec_aux Cx Oa (λX=>¬X.Good) ⟨X,q⟩ h
namespace C
noncomputable def prog:Program:=X0.prog
noncomputable def w:World:=X0.w
noncomputable def gD:Str->Option D:=X0.gD
noncomputable def W:Wd prog w gD:=X0.W
noncomputable def fA:Str->Option Addr:=X0.fA
noncomputable def qH:Str->Option Fn:=X0.qH
noncomputable def PP:zB:=X0.PP
noncomputable def n:Nat:=X0.n
noncomputable def r:Rec:=X0.r
end C
section
open C
section
variable {A:Around}{ε:Env}{bad:List Addr}{s:Shared}{σ:Sg}{E:VP}
theorem s7.lX {h:Heap}(F:s7 W ε bad h):gV bad h:=⟨F.tb,F.old⟩
theorem gV.fresh {h:Heap}(B:gV bad h):h.objs.size∉bad:=λq=>by have:=(B.old _ q).1.alive;rw[Wd.jT]at this;nomatch this
theorem gV.ext {h h':Heap}(B:gV bad h)(X:Ext h h')(hS:W.S h'):gV bad h':=⟨B.tb,λb a=>by
 refine⟨?_,(B.old b a).2⟩;by_cases t:b∈Tb
 ·exact W.UL hS b t
 ·exact(B.old b a).1.keep λo c=>X b o t c⟩
theorem Gives.flat {d:D}{Q:VP}(G:Gives W bad s d Q)(hS:W.S s.heap){v:Value}(R:RD prog w bad s.heap v d)(tk:Nat):Q v {s with toks:=tk}:=G v s.heap tk R (Ext.refl _) hS
theorem RN {c:Const}{k:Nat}{p:Pos}{d:D}{Q:VP}(e:Ss c=some d)(F:gw W ε bad σ s.heap)(G:Gives W bad s d Q):
 wpAny (model prog w) A (eval (.Constant c k p) ε) Q E s:=by
 revert G
 induction c using Const.casesOn with
 |none=>exact someE e λG=>wpAny_Constant_none (G.flat F.S .none _)
 |bool b=>exact someE e λG=>Constant_bool (G.flat F.S (.bool _) _)
 |int i=>exact someE e λG=>wpAny_Constant_int (G.flat F.S (.int _ _) _)
 |str x=>exact someE e λG=>Calls.Constant_str (G.flat F.S (.str _ _) _)
 |_=>exact nn e
theorem JK {x:Str}{p:Pos}{d:D}{Q:VP}(h:gG x=false)
 (e:(oS none (σ.lookup x) λd=>cond (Nat.beq d.ctorIdx 12) (gD x) (some d))=some d)(F:gw W ε bad σ s.heap)(G:Gives W bad s d Q):
 wpAny (model prog w) A (eval (.Name x p) ε) Q E s:=by
 have f:=(fc.mp h).2;refine wpAny_Name ?_ (fc.mp h).1;refine gQ e λc hl e=>?_;have q:=F.env x c hl;clear hl;revert G;refine q.elim (yA λl hk G=>?_) (cW λv B R=>?_)
 ·subst l
  refine cW (λv g o=>?_) (W.stat e);rw[loadName_read F.kind hk];unfold loadGlobal;rw[F.glob];refine aj (wpAny_nsGet (W.g F.S) ?_);rw[g];exact aB (G.flat F.S (o F.S λb u=>(F.old b u).2) _)
 ·refine cdB e (λq Z=>D.glob.elim (motive_1:=λc=>RD prog w bad s.heap v c->_) c (bN q) (λR=>R.Hj) R) λZ e=>someE e λG=>?_
  revert B;refine yO (nG λk m t g=>?_) (nG λk a j i=>?_)
  ·exact wpAny_loadName_local F.kind k t g (G.flat F.S R _)
  ·revert k;refine yO (λk=>?_) (λk=>?_)
   ·exact wpAny_loadName_cell F.kind k j i (G.flat F.S R _)
   ·exact wpAny_loadName_free F.kind k j i (G.flat F.S R _) f
theorem cL.two (H:cL W fA n r){l rr:Expr}{a b:D}(o:r.ev σ l=some a)(m:r.ev σ rr=some b)(R:fj n A)(F:gw W ε bad σ s.heap){K:Value->VP}
 (k:∀d vb h' tk,RD prog w bad h' d a->RD prog w bad h' vb b->Ext s.heap h'->W.S h'->gV bad h'->K d vb (zs s h' tk)):
 wpAny (model prog w) A (eval l ε) (λx s₁=>wpAny (model prog w) A (eval rr ε) (λy s2=>K x y s2) E s₁) E s:=by
 refine H.ev o R F λd h g q f c=>?_;refine H.ev m R (F.ext f c) λvb j i p e S2=>?_;exact k d vb j i (q.mono (fY F.tb e)) p (f.trans e) S2 ((F.ext f c).ext e S2).lX
theorem BR (h:Heap)(items:Array Value):(h.push {cls:=.type "tuple",data:=.seq items}).IsTuple h.objs.size items:=⟨_,aL _ rfl,rfl,0,rfl⟩
theorem Gives.newList {ds:List D}{Q:VP}(G:Gives W bad s (.list ds) Q)(hS:W.S s.heap)(B:gV bad s.heap){items:Array Value}{tk:Nat}(R:fB prog w bad s.heap items.toList ds):
 Q (.ref s.heap.objs.size) {s with heap:=s.heap.push {cls:=.type "list",data:=.seq items},toks:=tk}:=
 G _ _ _ (.list B.fresh ⟨0,aL _ rfl⟩ (fB.mono (λb o Z e=>aP _ e) R)) ((Ext.refl _).push _) (W.pushS hS _)
theorem Gives.newTuple {ds:List D}{Q:VP}(G:Gives W bad s (.tuple ds) Q)(hS:W.S s.heap)(B:gV bad s.heap){items:Array Value}{tk:Nat}(R:fB prog w bad s.heap items.toList ds):
 Q (.ref s.heap.objs.size) {s with heap:=s.heap.push {cls:=.type "tuple",data:=.seq items},toks:=tk}:=
 G _ _ _ (.tuple B.fresh (BR _ _) (fB.mono (λb o Z e=>aP _ e) R)) ((Ext.refl _).push _) (W.pushS hS _)
theorem Gives.after {d:D}{Q:VP}(G:Gives W bad s d Q){h₁:Heap}{t₁:Nat}(X:Ext s.heap h₁):Gives W bad (zs s h₁ t₁) d Q:=
 λv a tk R b c=>G v a tk R (X.trans b) c
theorem my.after {b:Bool}{Q:Bool->Shared->Prop}(G:my W s b Q){h₁:Heap}{t₁:Nat}(X:Ext s.heap h₁):my W (zs s h₁ t₁) b Q:=
 λa tk c d=>G a tk (X.trans c) d
theorem gR {k:Nat}(h:small k=true):k<=1000000:=bL h
theorem Ir {l b:Addr}{items a:Array Value}{Q:VP}(hl:s.heap.IsList l items)(hb:s.heap.IsList b a)(hsz:items.size+a.size<=sizeLine)
 (h:Q (.ref s.heap.objs.size) {s with heap:=s.heap.push {cls:=.type "list",data:=.seq (items++a)}}):
 wpAny (model prog w) A (binaryOp .Add (.ref l) (.ref b)) Q E s:=by
 obtain⟨⟨cls,q,data,o⟩,j,m,n,k⟩:=id hl;obtain⟨⟨i,g,data2,f⟩,c,e,p,d⟩:=id hb;simp only at m k e d;subst m k e d;exact concat_meets ⟨_,j,rfl⟩ ⟨_,c,rfl⟩ noFill_list_add seq_list_add F.slot_list_add F.entry_list_add (F.args_list_add_2 _ _) (list_addW l b items a n p q g o f hsz) ⟨j,c,h⟩
theorem mul_two {l:Addr}{items:Array Value}{u:Tok}{Q:VP}(hl:s.heap.IsList l items)(hsz:items.size<=1000000)
 (h:Q (.ref s.heap.objs.size) {s with heap:=s.heap.push {cls:=.type "list",data:=.seq (items++items)}}):
 wpAny (model prog w) A (binaryOp .Mult (.ref l) (.int 2 u)) Q E s:=by
 obtain⟨⟨cls,d,data,f⟩,b,a,k,g⟩:=id hl;simp only at a g;subst a g;refine wpAny_binaryOp_repeat_ref (T:="list") (U:="int") (by decide) ⟨_,b,rfl⟩ (λm=>typeIs_int m 2 u) noFill_list_mul F.fills_int_mul F.slot_int_rmul repeat_list F.slot_int_index.lookup
  (call_meets F.slot_int_rmul (typeIs_int s 2 u) F.entry_int_rmul (F.args_int_rmul_2 _ _) (lm_int_rmul_list_any 2 u l items k d f)
   ⟨b,rfl,⟨_,b,rfl⟩,call_meets F.slot_list_mul ⟨_,b,rfl⟩ F.entry_list_mul (F.args_list_mul_2 _ _)
    (lm_list_mul_any l items k d f 2 u (by decide) (by rw[show(2:Int).toNat=2 from rfl];lia) (by rw[show(2:Int).toNat=2 from rfl];simp[Builtin.List.listTooLong,sizeLine];lia))
    ⟨b,?_⟩⟩)
 have e:List.foldl (λj i=>j++i) #[] (List.replicate (if items.isEmpty=true then 0 else(2:Int).toNat) items)=items++items:=by
  by_cases c:items.isEmpty=true
  ·rw[ao c]
   have:items=#[]:=by simpa using c
   subst this;rfl
  ·rw[aq c]
   show #[]++items++items=_;simp
 rw[e];exact h
theorem Ii {a:Int}(c:0<=a):Builtin.bitAnd a 65535=a % 65536:=by refine yE (λk b=>?_) (Int.eq_ofNat_of_zero_le c);subst b;show((k&&& 65535:Nat):Int)=_;rw[show(65535:Nat)=2 ^ 16 - 1 from rfl,Nat.and_two_pow_sub_one_eq_mod];rfl
theorem ifk {α:Type}{c:Prop} [Decidable c] {o:Option α}{b:α}{P:Prop}(h:(if c then o else none)=some b)(k:c->o=some b->P):P:=by
 by_cases q:c
 ·rw[ao q]at h;exact k q h
 ·rw[aq q]at h;exact nn h
theorem ifs {α:Type}{c:Prop} [Decidable c] {x b:α}{P:Prop}(h:(if c then some x else none)=some b)(k:c->x=b->P):P:=ifk h λq e=>k q (aH e)
theorem ifn {α:Type}{c:Prop} [Decidable c] {o:Option α}{b:α}{P:Prop}(h:(if c then none else o)=some b)(k:¬c->o=some b->P):P:=by
 by_cases q:c
 ·rw[ao q]at h;exact nn h
 ·rw[aq q]at h;exact k q h
theorem V2 {b:Int}(a:0<b)(h:b<2 ^ 50):b.natAbs.log2<9000:=by refine cU (m:=50) ?_ (by decide);rw[<-Nat.lt_succ_iff,Nat.log2_lt (by lia)];omega
theorem bin_ok {k:Operator}{a b d:D}{p vb:Value}{Q:VP}(e:Ik k a b=some d)(f:RD prog w bad s.heap p a)(c:RD prog w bad s.heap vb b)
 (hS:W.S s.heap)(B:gV bad s.heap)(G:Gives W bad s d Q):wpAny (model prog w) A (binaryOp k p vb) Q E s:=by
 revert f c G
 induction k using Operator.casesOn with
 |Add=>
  exact sW e (λe=>jx cH e λa e=>jx cH e λb e=>someE e λf c G=>f.jg λt=>c.jg λu=>add_int (G.flat hS (.int _ _) _)) λe=>
   sW e (λe=>rz cH e λa e=>rz cH e λb e=>j9 e λg e=>someE e λf c G=>f.pA λt=>c.pA λu=>add_str (λy tk=>G.flat hS (.str _ _) tk) (aA (gR g) (by decide))) λe=>
   lz cH e λa e=>lz cH e λb e=>j9 e λg e=>someE e λf c G=>f.listE λl i x hl h m=>c.listE λl2 o z j q v=>
    Ir hl j (by rw[m,v];exact aA (gR g) (by decide)) (G.newList hS B (by rw[Array.toList_append];exact h.append q))
 |Sub=>
  exact jx cH e λa e=>jx cH e λb e=>someE e λf c G=>f.jg λt=>c.jg λu=>sub_int (G.flat hS (.int _ _) _)
 |Mult=>
  exact sW e (λe=>jx cH e λa e=>jx cH e λb e=>j9 e λg e=>someE e λf c G=>f.jg λt=>c.jg λu=>mul_int (G.flat hS (.int _ _) _) (IntMulOk.of_left (intBits_le_64 (by omega) (by omega)))) λe=>
   lz cH e λa e=>jx cH e λb e=>j9 e λg e=>someE e λf c G=>f.listE λl i x hl h m=>c.jg λt=>g.1▸mul_two hl (by rw[m];exact gR g.2) (G.newList hS B (by rw[Array.toList_append];exact h.append h))
 |Mod=>
  exact jx cH e λa e=>jx cH e λb e=>j9 e λg e=>someE e λf c G=>f.jg λt=>c.jg λu=>mod_int' (by lia) (by rw[Int.fmod_eq_emod_of_nonneg _ (by exact Int.le_of_lt ‹_›)];exact G.flat hS (.int _ _) _)
 |FloorDiv=>
  exact jx cH e λa e=>jx cH e λb e=>j9 e λg e=>someE e λf c G=>f.jg λt=>c.jg λu=>floordiv_int (by lia) (by rw[Int.fdiv_eq_ediv_of_nonneg _ (by lia)];exact G.flat hS (.int _ _) _) (.inl (PyProof.noPylong_of_log2 (V2 g.1 g.2)))
 |BitAnd=>
  exact jx cH e λa e=>jx cH e λb e=>j9 e λg e=>someE e λf c G=>f.jg λt=>c.jg λu=>g.2▸and_int (by rw[Ii g.1];exact G.flat hS (.int _ _) _)
 |_=>exact nn e
theorem yV {f:D->D->Option Bool}{a c:D}{as bs:List D}{b:Bool}(h:H3 f (a::as) (c::bs)=some b):∃x y,f a c=some x/\H3 f as bs=some y/\(x&&y)=b:=
 gQ h λx e h=>gQ h λy d h=>⟨x,y,e,d,aH h⟩
theorem yU {f:D->D->Option Bool}:∀{as bs:List D}{b:Bool},H3 f as bs=some b->
 ∃e:Nat->Bool,(∀j x y,as[j]? =some x->bs[j]? =some y->f x y=some (e j))/\(List.range as.length).all e=b/\as.length=bs.length:=by
 intro as
 induction as with
 |nil=>
  intro bs b h;rcases bs with _|⟨c,bs⟩
  ·exact⟨λZ=>true,λj x y d Z=>nn d,aH h,rfl⟩
  ·exact nn h
 |cons a as k=>
  intro bs b h;rcases bs with _|⟨c,bs⟩
  ·exact nn h
  ·refine fW (λx y d l h=>?_) (yV h)
   refine nF (λe p o m=>?_) (k l);refine⟨λj=>match j with|0=>x|j+1=>e j,?_,?_,bD (· +1) m⟩
   ·intro j u v i g
    rcases j with _|j
    ·exact aH i▸aH g▸d
    ·exact p j u v i g
   ·rw[bx,List.range_succ_eq_map,List.all_cons,List.all_map,<-h,<-o];rfl
theorem La {h:Heap}{a:Addr}{x y:Array Value}(p:h.IsList a x)(q:h.IsList a y):x=y:=by revert p;refine I4 λo e Z n f=>?_;revert q;refine I4 λg b Z i c=>?_;have d:=aH (e.symm.trans b);subst d;exact(Data.seq.inj (f.symm.trans c)).1
theorem GC {h:Heap}{a:Addr}{x y:Array Value}(p:h.IsTuple a x)(q:h.IsTuple a y):x=y:=by revert p;refine I4 λo e Z n f=>?_;revert q;refine I4 λg b Z i c=>?_;have d:=aH (e.symm.trans b);subst d;exact(Data.seq.inj (f.symm.trans c)).1
theorem JM {k:Nat}{P:D->D->Bool->Prop}(g:∀a b:Bool,P (.bool a) (.bool b) (a==b))(h2:∀a b:Int,P (.int a) (.int b) (a==b))(h3:∀a b:Str,P (.str a) (.str b) (a==b))
 (f:∀a b c,(if a.length=b.length then H3 (Cp k) a b else some false)=some c->P (.list a) (.list b) c)(h5:∀a b c,a.length=b.length->H3 (Cp k) a b=some c->P (.tuple a) (.tuple b) c):∀{d d':D}{b:Bool},Cp (k+1) d d'=some b->P d d' b:=by
 intro d d' b e;exact sW e (λe=>jx cH e λa e=>jx cH e λb e=>someE e (h2 a b)) λe=>sW e (λe=>rz cH e λa e=>rz cH e λb e=>someE e (h3 a b)) λe=>sW e (λe=>Ia cH e λa e=>Ia cH e λb e=>someE e (g a b)) λe=>
  sW e (λe=>lz cH e λa e=>lz cH e λb e=>f a b _ e) λe=>Mm cH e λa e=>Mm cH e λb e=>j9 e λq e=>h5 a b _ q e
theorem Fq {h:Heap}{f:D->D->Option Bool}(k:∀v d d' b,RD prog w bad h v d->RD prog w bad h v d'->f d d'=some b->b=true):∀{ds ds':List D}{vs:List Value}{b:Bool},fB prog w bad h vs ds->fB prog w bad h vs ds'->H3 f ds ds'=some b->b=true:=by
 intro ds
 induction ds with
 |nil=>
  intro ds' vs b Z Z e;rcases ds' with _|⟨d,ds'⟩
  ·exact(aH e).symm
  ·exact nn e
 |cons d ds g=>
  intro ds' vs b r a e;rcases ds' with _|⟨d',ds'⟩
  ·exact nn e
  ·refine fW (λx y j i c=>?_) (yV e);subst c
   rcases vs with _|⟨v,vs⟩
   ·exact absurd r.length nofun
   ·rw[k v d d' x r.head a.head j,g r.tail a.tail i];rfl
theorem Fp {h:Heap}:∀{k:Nat}{v:Value}{d d':D}{b:Bool},RD prog w bad h v d->RD prog w bad h v d'->Cp k d d'=some b->b=true:=by
 intro k
 induction k with
 |zero=>exact λZ Z e=>nn e
 |succ k y=>
  intro v d d' b r g e;refine JM (P:=λd d' b=>RD prog w bad h v d->RD prog w bad h v d'->b=true) ?_ ?_ ?_ ?_ ?_ e r g<;>clear e r g
  ·intro a b r g
   rw[Value.bool.inj (r.xF.symm.trans g.xF)];exact dF _
  ·intro a b r g
   refine yE (λt q=>?_) r.BW;refine yE (λu p=>?_) g.BW;rw[(Value.int.inj (q.symm.trans p)).1];exact dF _
  ·intro a b r g
   refine yE (λt q=>?_) r.xT;refine yE (λu p=>?_) g.xT;rw[(Value.str.inj (q.symm.trans p)).1];exact dF _
  ·intro z bs c e r g
   refine gW (λa o x Z hl m Z=>?_) r.mJ;refine gW (λB l j Z i f Z=>?_) g.mJ;rw[<-Value.ref.inj (x.symm.trans j)]at i;rw[<-La hl i]at f;rw[ao (m.length.symm.trans f.length)]at e;exact Fq (λZ Z Z Z=>y) m f e
  ·intro z bs c Z e r g
   refine gW (λa o x Z hl m Z=>?_) r.Dm;refine gW (λB l j Z i f Z=>?_) g.Dm;rw[<-Value.ref.inj (x.symm.trans j)]at i;rw[<-GC hl i]at f;exact Fq (λZ Z Z Z=>y) m f e
theorem fB.at {h:Heap}{items:Array Value}{ds:List D}(a:fB prog w bad h items.toList ds){j:Nat}(b:j<items.size):∃d,ds[j]? =some d/\RD prog w bad h items[j] d:=
 a.getV (by simp[b])
theorem RW (k:Nat):∀{A:Around}{v o:Value}{d d':D}{b:Bool},Cp k d d'=some b->RD prog w bad s.heap v d->RD prog w bad s.heap o d'->A.units+k<cLine->
 SeqAt.EqAt A s v o b/\(∀(E:VP)(Q:VP),Q (.bool b) s->wpAny (model prog w) A (compareOp .Eq v o) Q E s):=by
 induction k with
 |zero=>exact λe=>nn e
 |succ k ih=>
  intro A v o d d' b e R i J;have C:A.in1.units+k<cLine:=by
   show A.units+1+k<cLine
   lia
  refine JM (P:=λd d' b=>Cp (k+1) d d'=some b->RD prog w bad s.heap v d->RD prog w bad s.heap o d'->SeqAt.EqAt A s v o b/\(∀(E:VP)(Q:VP),Q (.bool b) s->wpAny (model prog w) A (compareOp .Eq v o) Q E s)) ?_ ?_ ?_ ?_ ?_ e e R i<;>clear e R i
  ·intro a b Z r F
   rw[r.xF,F.xF];exact⟨SeqAt.EqAt.bool_bool _ _,λE Q h=>eq_bool h⟩
  ·intro a b Z r F
   refine yE (λt T=>?_) r.BW;refine yE (λu J=>?_) F.BW;rw[T,J];exact⟨SeqAt.EqAt.int_int _ _ _ _,λE Q h=>eq_int h⟩
  ·intro a b Z r F
   refine yE (λt T=>?_) r.xT;refine yE (λu J=>?_) F.xT;rw[T,J];exact⟨SeqAt.EqAt.str_str _ _ _ _,λE Q h=>eq_str h⟩
  ·intro as bs b e H R i
   have p:=λ(q:o=v)=>Fp (k:=k+1) R (q▸i) H;revert p;refine R.listE λa K Z hl N G=>i.listE λI B Z m z l p=>?_;have key:SeqAt.RcAt A s (.ref a) (.ref I) b:=by
    clear p H R i;by_cases c:as.length=bs.length
    ·rw[ao c]at e
     refine nF (λf V U h3=>?_) (yU e);have:=SeqAt.RcAt.lists (A:=A) (e:=f) hl m (by rw[G,l,c]) (by lia) (λj Y X=>by refine cW (λx S M=>?_) (N.at Y);refine cW (λy O L=>?_) (z.at X);exact(ih (V j x y S O) M L C).1)
     rw[G,U]at this;exact this
    ·rw[aq c]at e
     rw[<-aH e];exact SeqAt.RcAt.lists_lengths hl m (by rw[G,l];simpa using c) (by lia)
   refine⟨?_,λE Q h=>key prog w E Q h⟩;by_cases g:a=I
   ·rw[p (by rw[g]),g]
    exact SeqAt.EqAt.same _
   ·exact SeqAt.EqAt.of_refs g key
  ·intro as bs b c e H R i
   have p:=λ(q:o=v)=>Fp (k:=k+1) R (q▸i) H;revert p;refine R.vL λa K Z hl N G=>i.vL λI B Z m z l p=>?_;have key:SeqAt.RcAt A s (.ref a) (.ref I) b:=by
    clear p H R i;refine nF (λf V U h3=>?_) (yU e);have:=SeqAt.RcAt.tuples (A:=A) (e:=f) hl m (by lia) (λj Y X=>by refine cW (λx S M=>?_) (N.at Y);refine cW (λy O L=>?_) (z.at X);exact(ih (V j x y S O) M L C).1)
    rw[G,l,<-c,Nat.min_self,U]at this;simpa using this
   refine⟨?_,λE Q h=>key prog w E Q h⟩;by_cases g:a=I
   ·rw[p (by rw[g]),g]
    exact SeqAt.EqAt.same _
   ·exact SeqAt.EqAt.of_refs g key
noncomputable def RX (x:D)(v:Value):Bool:=cond (Nat.beq v.ctorIdx 3) (vB false v λa=>dB false x λb=>a==b) (vI false v λa Z=>dI false x λb=>a==b)
theorem H5 {v f:Value}{d x:D}{b:Bool}(e:eqF d x=some b)(R:RD prog w bad s.heap v d)(g:RD prog w bad s.heap f x):(∀A:Around,SeqAt.EqAt A s v f (RX x v))/\RX x v=b:=by
 revert R g;exact sW e (λe=>Ia cH e λa e=>Ia cH e λb e=>someE e λr c=>r.zq (c.zq ⟨λA=>SeqAt.EqAt.bool_bool _ _,rfl⟩)) λe=>
  jx cH e λa e=>jx cH e λb e=>someE e λr c=>r.jg λt=>c.jg λu=>⟨λA=>SeqAt.EqAt.int_int _ _ _ _,rfl⟩
theorem Io {x d:D}{ds:List D}{b:Bool}(e:rC x (d::ds)=some b):∃c b',eqF d x=some c/\rC x ds=some b'/\(c||b')=b:=by
 refine gQ e λc a e=>?_
 induction c using fu with
 |false=>exact⟨false,b,a,e,rfl⟩
 |true=>exact nH e λb' h=>⟨true,b',a,h,rfl⟩
theorem Gj {a:Value}{x:D}(o:RD prog w bad s.heap a x):∀{ds:List D}{vs:List Value}{b:Bool},rC x ds=some b->fB prog w bad s.heap vs ds->
 (∀(A:Around) y,y∈vs->SeqAt.EqAt A s y a (RX x y))/\vs.any (RX x)=b:=by
 intro ds
 induction ds with
 |nil=>
  intro vs b e r;rcases vs with _|⟨v,vs⟩
  ·exact⟨λZ Z q=>(nomatch q),aH e⟩
  ·exact absurd r.length nofun
 |cons d ds g=>
  intro vs b e r;rcases vs with _|⟨v,vs⟩
  ·exact absurd r.length nofun
  ·refine fW (λc p i h f=>?_) (Io e);subst f
   refine yA (λm l=>?_) (g h r.tail);refine yA (λk j=>?_) (H5 i r.head o);refine⟨λA y hy=>?_,by rw[List.any_cons,j,l]⟩;rcases au.mp hy with rfl|hy
   ·exact k A
   ·exact m A y hy
theorem wB {K:Type} [DecidableEq K]:∀{ks:List K}{us:List Value}{j:Nat}{k:K}{u:Value},ks.Nodup->ks[j]? =some k->us[j]? =some u->valueAt (ks.zip us) k=some u
 |[],_,_,_,_,_,h,_=>by simp at h
 |_::_,[],_,_,_,_,_,h=>by simp at h
 |k::ks,u::us,0,_,_,_,h,a=>by simp at h a;subst h a;simp[valueAt]
 |k::ks,u::us,j+1,k',d,c,h,a=>by
  have b:k≠k':=by
   rintro rfl
   have:ks[j]? =some k:=by simpa using h
   exact(List.nodup_cons.mp c).1 (aY this)
  have:=wB (List.nodup_cons.mp c).2 (by simpa using h) (by simpa using a) (ks:=ks) (us:=us);unfold valueAt at this⊢;rw[cI,List.find?_cons_of_neg (by simpa using b)];exact this
theorem Wv {K:Type} [DecidableEq K] {A:Around}(o:A.units+20<cLine){a:List (K×Value)}:∀{ks:List K}{vs us:List Value}{ds es:List D}{b:Bool},fB prog w bad s.heap vs ds->fB prog w bad s.heap us es->
 H3 (Cp 20) ds es=some b->ks.length=us.length->(∀(j:Nat)(k:K)(u:Value),ks[j]? =some k->us[j]? =some u->valueAt a k=some u)->KeqHits A s a (ks.zip vs) b:=by
 intro ks
 induction ks with
 |nil=>
  intro vs us ds es b r1 r2 e hl Z;rcases us with _|⟨u,us⟩
  ·rcases es with _|⟨x,es⟩
   ·rcases ds with _|⟨d,ds⟩
    ·exact aH e▸.nil
    ·exact nn e
   ·exact absurd r2.length nofun
  ·exact absurd hl nofun
 |cons k ks i=>
  intro vs us ds es b r1 r2 e hl f;rcases us with _|⟨u,us⟩
  ·exact absurd hl nofun
  ·rcases es with _|⟨x,es⟩
   ·exact absurd r2.length nofun
   ·rcases ds with _|⟨d,ds⟩
    ·exact nn e
    ·rcases vs with _|⟨v,vs⟩
     ·exact absurd r1.length nofun
     ·refine fW (λc y m l g=>?_) (yV e);subst g
      exact .hit (f 0 _ _ rfl rfl) (RW 20 m r1.head r2.head o).1 (i r1.tail r2.tail l (Nat.succ.inj hl) λj h u q p=>f (j+1) h u q p)
theorem PJ {k:Nat}{A:Around}{v o:Value}{ds ds':List D}{b:Bool}{Q:VP}(e:Cp (k+1) (.list ds) (.list ds')=some b)(R:RD prog w bad s.heap v (.list ds))(J:RD prog w bad s.heap o (.list ds'))
 (K:A.units+(k+1)<cLine)(q:Q (.bool (!b)) s):wpAny (model prog w) A (compareOp .NotEq v o) Q E s:=by
 have i:A.in1.units+k<cLine:=by
  show A.units+1+k<cLine
  lia
 refine R.listE λa p Z hl z l=>?_;refine J.listE λM m Z g h d=>?_;have e:(if ds.length=ds'.length then H3 (Cp k) ds ds' else some false)=some b:=e;by_cases c:ds.length=ds'.length
 ·rw[ao c]at e
  refine nF (λf G F L=>?_) (yU e);have:=SeqAt.RcNeAt.lists (A:=A) (e:=f) hl g (by rw[l,d,c]) (by lia) (λj I H=>by refine cW (λx C u=>?_) (z.at I);refine cW (λy B t=>?_) (h.at H);exact(RW k (G j x y C B) u t i).1)
  rw[l,F]at this;exact this prog w E Q q
 ·rw[aq c]at e
  exact SeqAt.RcNeAt.lists_lengths hl g (by rw[l,d];simpa using c) (by lia) prog w E Q (by rw[<-aH e]at q;exact q)
theorem DictOf.nodup {K:Type} [DecidableEq K] {knd:KeyKind prog w K}{h:Heap}{a:Addr}{ks:List K}{vs:List Value}(x:h.DictOf knd a (ks.zip vs))(hl:ks.length=vs.length):ks.Nodup:=by
 revert x;refine oZ λZ Z Z Z Z Z Z Z b=>?_
 rwa [List.map_fst_zip (Nat.le_of_eq hl)]at b
theorem RD.isNone {h:Heap}{v:Value}{a:D}(R:RD prog w bad h v a):(v==Value.none)=Mine.isNone a:=by induction R using RD.casesOn<;>rfl
theorem RD.none_of {h:Heap}{v:Value}{a:D}(R:RD prog w bad h v a)(q:Mine.isNone a=true):v=.none:=
 D.none.elim (motive_1:=λa=>RD prog w bad h v a->v=.none) a (bN q) (λR=>R.Vy) R
section
variable {x y:D}{va vb:Value}{c:Bool}
@[elab_as_elim] theorem Y5 {P:Value->Value->Prop}(v:A.in1.units+20<cLine)(e:eqS2 x y=some c)(i:RD prog w bad s.heap va x)(h:RD prog w bad s.heap vb y)
 (k:∀a b la lb,(a==sysModules)=false->(b==sysModules)=false->s.heap.DictOf (strKind prog w) a la->s.heap.DictOf (strKind prog w) b lb->(la.length==lb.length)=true->KeqHits A.in1 s lb la c->P (.ref a) (.ref b)):P va vb:=by
 revert i h;refine R9 cH e λH I e=>R9 cH e λm o e=>j9 e λl e i h=>i.G5 λx F Z t hl z p=>h.G5 λy G Z q d f g=>?_;refine k _ _ _ _ t q z f (by rw[List.length_zip,List.length_zip,<-hl,<-d,l.1];exact dF _) ?_;rw[l.1];exact Wv v p g e d λj k u C B=>wB (DictOf.nodup f d) C B
@[elab_as_elim] theorem BV {P:Value->Value->Bool->Prop}{f:Int->Int->Bool}(e:ints2 x y f=some c)(g:RD prog w bad s.heap va x)(d:RD prog w bad s.heap vb y)(k:∀a b t u,P (.int a t) (.int b u) (f a b)):P va vb c:=by revert g d;exact jx cH e λa e=>jx cH e λb e=>someE e λg d=>g.jg λt=>d.jg λu=>k a b t u
@[elab_as_elim] theorem NT {P:Value->Value->Bool->Prop}{f:Str->Str->Bool}(e:NZ x y f=some c)(g:RD prog w bad s.heap va x)(d:RD prog w bad s.heap vb y)(k:∀a b t u,P (.str a t) (.str b u) (f a b)):P va vb c:=by revert g d;exact rz cH e λa e=>rz cH e λb e=>someE e λg d=>g.pA λt=>d.pA λu=>k a b t u
end
theorem SJ {m:CmpOp}{a b:D}{G vb:Value}{c:Bool}{Q:VP}(e:jh m a b=some c)(f:RD prog w bad s.heap G a)(d:RD prog w bad s.heap vb b)(O:A.units+50<cLine)
 (q:∀tk,Q (.bool c) {s with toks:=tk}):wpAny (model prog w) A (compareOp m G vb) Q E s:=by
 have g:A.in1.units+20<cLine:=by
  show A.units+1+20<cLine
  lia
 revert q
 induction m using CmpOp.casesOn with
 |Eq=>exact sW e (λe=>Y5 g e f d λa b J I i z C B hl v q=>keq_eq i z C B (by lia) (λZ=>v) (by rw[hl,Bool.true_and];exact q s.toks)) λe q=>(RW 20 e f d (by exact cD ‹_›)).2 E Q (q s.toks)
 |NotEq=>
  refine sW e (λe=>nH e λc e=>Y5 g e f d λa b J I i z C B hl v q=>keq_ne i z C B (by lia) (λZ=>v) (by rw[hl,Bool.true_and];exact q s.toks)) λe=>sW e (λe=>BV e f d λa b t u q=>PyProof.Rows.ne_int (q s.toks)) λe=>?_;revert f d;exact lz cH e λa e=>lz cH e λb e=>nH e λc e f d q=>PJ (k:=19) e f d (by exact cD ‹_›) (q s.toks)
 |Lt=>exact sW e (λe=>BV e f d λa b t u q=>lt_int (q s.toks)) λe=>NT e f d λa b t u q=>lt_str (q s.toks)
 |LtE=>exact sW e (λe=>BV e f d λa b t u q=>le_int (q s.toks)) λe=>NT e f d λa b t u q=>PySem.P.le_str (by simpa[K6]using q s.toks)
 |Gt=>exact BV e f d λa b t u q=>gt_int (q s.toks)
 |In=>
  revert f d;refine sW e (λe=>jx cH e λa e=>dIs_i cH e λF e=>someE e λf d=>f.jg λt q=>d.E λa o S n i L N M K=>wpAny_inSet_of (intKind_is _ _ _ _) rfl (N.setOf L M) (by
   rw[K];exact q _)) λe=>sW e (λe=>lz cH e λF e f d q=>d.listE λx j Z hl l H=>by
   have h:=Gj f e l;refine SeqAt.in_listAt _ hl (λy p=>h.1 _ y p.val) ?_;rw[<-Array.any_toList,h.2];exact q s.toks) λe=>Mm cH e λF e f d q=>d.vL λx j Z hl l H=>by
   have h:=Gj f e l;refine SeqAt.in_tupleAt _ hl (λy p=>h.1 _ y p.val) ?_;rw[<-Array.any_toList,h.2];exact q s.toks
 |Is=>
  have h:=qF cH e;rw[d.none_of h.1];refine someE h.2 λq=>is_none_gen ?_;rw[f.isNone];exact q s.toks
 |IsNot=>
  have h:=qF cH e;rw[d.none_of h.1];refine someE h.2 λq=>isnot_none_gen ?_;rw[f.isNone];exact q s.toks
 |_=>exact nn e
theorem cL.notStar (H:cL W fA n r){e:Expr}{d:D}(h:r.ev σ e=some d)(rest:List Expr):starEach (e::rest) ε=(false,eval e ε)::starEach rest ε:=by
 induction e using Expr.casesOn with
 |Starred x p=>rw[H.star]at h;exact nn h
 |_=>rfl
theorem cL.unmarked (H:cL W fA n r){e:Expr}{d:D}(h:r.ev σ e=some d)(a:CmpOp):behindInMarks a e=false:=by
 induction e using Expr.casesOn with
 |Set x k p=>rw[H.noset]at h;exact nn h
 |_=>rfl
theorem iK {e:Expr}{es:List Expr}{ds:List D}(h:eX r σ (e::es)=some ds):∃d ds',r.ev σ e=some d/\eX r σ es=some ds'/\ds=d::ds':=
 gQ h λd a h=>nH h λds' b=>⟨d,ds',a,b,rfl⟩
theorem nj {r:Rec}{e:Expr}{es:List Expr}{d:D}{ds:List D}(h:r.ev σ e=some d)(h':eX r σ es=some ds):eX r σ (e::es)=some (d::ds):=by show oS none (r.ev σ e) (λd=>(eX r σ es).map λds=>d::ds)=_;rw[h,h'];rfl
theorem cL.all (H:cL W fA n r){pos:Pos}(R:fj n A){es:List Expr}{ds:List D}{s:Shared}{Q:List Value->Shared->Prop}(e:eX r σ es=some ds)(F:gw W ε bad σ s.heap)(G:Ud W bad s ds Q):
 wpAny (model prog w) A (spliced (backTo pos (starEach es ε))) Q E s:=by
 induction es generalizing ds s Q with
 |nil=>
  revert G;exact someE e λG=>dm (G _ s.heap s.toks .nil (Ext.refl _) F.S)
 |cons x es k=>
  revert G;refine gQ e λd g e=>nH e λj b G=>?_;refine cP (H.ev g R F λv f c m i a=>?_) (H.notStar g es);exact k b (F.ext i a) λo q p l h S2=>G _ _ _ (.cons (m.mono (fY F.tb h)) l) (i.trans h) S2
section
variable (H:cL W fA n r)(R:fj n A)(F:gw W ε bad σ s.heap){l rr:Expr}{p:Pos}{d:D}{Q:VP}
include H R F
theorem ev_bin {c:Operator}(e:(oS none (r.ev σ l) λa=>oS none (r.ev σ rr) λb=>Ik c a b)=some d)(G:Gives W bad s d Q):wpAny (model prog w) A (eval (.BinOp l c rr p) ε) Q E s:=
 gQ e λa g e=>gQ e λb f e=>
  wpAny_BinOp (H.two g f R F λm k h tk j i X S B=>bin_ok (s:=(zs s h tk)) e j i S B (G.after X))
theorem ev_neg (e:(oS none (r.ev σ l) λd=>dI none d λi=>some (D.int (-i)))=some d)(G:Gives W bad s d Q):wpAny (model prog w) A (eval (.UnaryOp .USub l p) ε) Q E s:=by revert G;exact gQ e λa c e=>jx (P:=λa=>r.ev σ l=some a->_) cH e (λi e c=>someE e λG=>wpAny_UnaryOp (H.ev c R F λv g f j h b=>j.jg λt=>neg_int (G _ _ _ (.int _ _) h b))) c
theorem ev_cmp {f:CmpOp}(e:(oS none (r.ev σ l) λa=>oS none (r.ev σ rr) λb=>(jh f a b).map D.bool)=some d)(G:Gives W bad s d Q):wpAny (model prog w) A (eval (.Compare l [f] [rr] p) ε) Q E s:=by revert G;refine gQ e λa i e=>gQ e λb g e=>nH e λc h G=>?_;exact wpAny_Compare1 (H.two i g R F λq o j tk m k X S B=>SJ (s:=(zs s j tk)) h m k (by have:=R.units;lia) λtk=>G _ _ _ (.bool _) X S) (H.unmarked g f)
theorem Uw {f:CmpOp}{c:Bool}{Q:Bool->Shared->Prop}{whole:Sem Value}
 (e:(oS none (r.ev σ l) λa=>oS none (r.ev σ rr) λb=>jh f a b)=some c)(G:my W s c Q):wpAny (model prog w) A (isTrue (.Compare l [f] [rr] p) ε whole) Q E s:=
 gQ e λa h e=>gQ e λb g e=>
  wpAny_isTrue_Compare1 (H.two h g R F λo m i tk k j X S B=>SJ (s:=(zs s i tk)) e k j (by have:=R.units;lia) λtk=>dw (G _ _ X S)) (H.unmarked g f)
theorem ev_if {b o:Expr}(e:(oS none (r.tst σ l) λc=>cond c (r.ev σ b) (r.ev σ o))=some d)(G:Gives W bad s d Q):wpAny (model prog w) A (eval (.IfExp l b o p) ε) Q E s:=
 gQ e λc i e=>IfExp_ (H.tst i R F λh g f a=>by
  induction c using fu with
  |true=>exact H.ev e R (F.ext f a) (G.after f)
  |false=>exact H.ev e R (F.ext f a) (G.after f))
end
theorem ev_and (H:cL W fA n r)(R:fj n A){p:Pos}{Q:VP}{es:List Expr}{d:D}{s:Shared}(e:CP r σ es=some d)(F:gw W ε bad σ s.heap)(G:Gives W bad s d Q):wpAny (model prog w) A (eval (.BoolOp .And es p) ε) Q E s:=by
 induction es generalizing s with
 |nil=>exact nn e
 |cons x es j=>
  induction es using gY with
  |nil=>exact BoolOp_one (H.ev e R F G)
  |cons y es=>
   revert G;refine gQ e λa f e=>Ia (P:=λa=>r.ev σ x=some a->_) cH e (λb e f G=>BoolOp_and (H.ev f R F λv i h k g c=>k.zq (dw ?_))) f
   induction b using fu with
   |true=>exact j e (F.ext g c) (G.after g)
   |false=>
    revert G;exact someE e λG=>G _ _ _ (.bool _) g c
theorem qg {es:List Expr}{ds:List D}(h:eX r σ es=some ds):ds.length=es.length:=by
 induction es generalizing ds with
 |nil=>exact aH h▸rfl
 |cons x es b=>exact gQ h λd e h=>nH h λa c=>bD (· +1) (b c)
theorem WW (H:cL W fA n r)(R:fj n A)(F:gw W ε bad σ s.heap){es:List Expr}{p:Pos}{d:D}{Q:VP}
 (e:(if es.length<=100 then(eX r σ es).map D.list else none)=some d)(G:Gives W bad s d Q):wpAny (model prog w) A (eval (.List es p) ε) Q E s:=by
 revert G;refine j9 e λhl e=>nH e λi c G=>List_ (H.all R c F λh b t₁ g f a=>?_);refine wpAny_newList ?_ (by rw[g.length,qg c];exact aA hl (by decide));exact(G.after f (t₁:=t₁)).newList (s:=(zs s b t₁)) a (F.ext f a).lX g
theorem RJ (H:cL W fA n r)(R:fj n A)(F:gw W ε bad σ s.heap){es:List Expr}{k:Nat}{p:Pos}{d:D}{Q:VP}
 (e:(if es.length<=100 then(eX r σ es).map D.tuple else none)=some d)(G:Gives W bad s d Q):wpAny (model prog w) A (eval (.Tuple es k p) ε) Q E s:=by
 revert G;refine j9 e λhl e=>nH e λi c G=>Tuple_ (H.all R c F λh b t₁ g f a=>?_);refine wpAny_newTuple ?_ (by rw[g.length,qg c];exact aA hl (by decide));exact(G.after f (t₁:=t₁)).newTuple (s:=(zs s b t₁)) a (F.ext f a).lX g
section
variable (H:cL W fA n r)(R:fj n A){x:Expr}{es:List Expr}{p:Pos}{c:Bool}{Q:Bool->Shared->Prop}{whole:Sem Value}
include H R
theorem Uv (F:gw W ε bad σ s.heap)(e:(r.tst σ x).map not=some c)(G:my W s c Q):wpAny (model prog w) A (isTrue (.UnaryOp .Not x p) ε whole) Q E s:=by revert G;exact nH e λh f G=>isTrue_not (H.tst f R F λd b g a=>G _ _ g a)
theorem Uy {s:Shared}(e:iB r σ es=some c)(F:gw W ε bad σ s.heap)(G:my W s c Q):wpAny (model prog w) A (isTrue (.BoolOp .And es p) ε whole) Q E s:=by
 induction es generalizing s with
 |nil=>
  revert G;exact someE e λG=>isTrue_and_nil (G s.heap s.toks (Ext.refl _) F.S)
 |cons x es h=>exact gQ e λb i e=>isTrue_and (H.tst i R F λg f d a=>by
  induction b using fu with
  |true=>exact h e (F.ext d a) (G.after d)
  |false=>
   revert G;exact someE e λG=>G _ _ d a)
theorem Ux {s:Shared}(e:rR r σ es=some c)(F:gw W ε bad σ s.heap)(G:my W s c Q):wpAny (model prog w) A (isTrue (.BoolOp .Or es p) ε whole) Q E s:=by
 induction es generalizing s with
 |nil=>
  revert G;exact someE e λG=>isTrue_or_nil (G s.heap s.toks (Ext.refl _) F.S)
 |cons x es h=>exact gQ e λb i e=>isTrue_or (H.tst i R F λg f d a=>by
  induction b using fu with
  |true=>
   revert G;exact someE e λG=>G _ _ d a
  |false=>exact h e (F.ext d a) (G.after d))
end
theorem Kd {x:Expr}{c:Bool}{Q:Bool->Shared->Prop}(b:isTrue x ε (eval x ε)=(do let v<-eval x ε;standAt x.pos;holding [v] (truthy v)))
 (h:∀a:VP,Gives W bad s (.bool c) a->wpAny (model prog w) A (eval x ε) a E s)(G:my W s c Q):wpAny (model prog w) A (isTrue x ε (eval x ε)) Q E s:=
 isTrue_plain (h _ λv d tk R X S=>by exact R.zq (dw (G _ _ X S))) b
theorem pq {b a:Expr}{o i:Value}{T id:String}{d:List Value}{Q:VP}(f:s.TypeIs o T)
 (hl:typeLookup (.type T) "__getitem__"=pure (some (.builtin id)))(h:wpAny (model prog w) A (getItem o i) Q E s)
 (hs:subscripted a false o i=operate d (getItem o i)):
 wpAny (model prog w) A (subscriptTail b a o i) Q E s:=by
 unfold subscriptTail;refine aj ?_;rw[getitemInPython_of_ne f.not_modules];refine aj (wpAny_specialOf f hl ?_);have c:wpAny (model prog w) A (subscripted a false o i) (λr e=>wpAny (model prog w) A (letTemporaryGo b o r >>= λZ=>pure r) Q E e) E s:=by rw[hs];exact wpAny_operating (bC h (λr e g=>aj (wpAny_letTemporaryGo (aB g))) λZ Z x=>x)
 first
  |exact aB (aj c)
  |exact aj (aB (aj c))
  |exact aj c
theorem seqIndex_at {α:Type}{xs:Array α}{i:Int}{v:α}(b:0<=i)(h:xs[i.toNat]? =some v):seqIndex? i xs.size=some i.toNat:=by
 have a:i.toNat<xs.size:=by
  refine aC (Nat.lt_or_ge i.toNat xs.size) (λq=>?_) (λq=>?_)
  ·exact q
  ·rw[dM q]at h;exact nn h
 have e:(if i<0 then i+(xs.size:Int)else i)=i:=aq (by simp_all);unfold seqIndex?;simp only[e];rw[ao (by simp;simp_all)]
theorem jE {a:Expr}(h:isSlice a=false)(o i:Value):subscripted a false o i=operate [o,i] (getItem o i):=by
 induction a using Expr.casesOn<;>first|rfl|exact nomatch h
theorem uE {K:Type} [DecidableEq K] {k x:K}{v:Value}{l:List (K×Value)}(h:k=x):valueAt ((k,v)::l) x=some v:=by unfold valueAt;rw[List.find?_cons_of_pos (by simpa using h)];rfl
theorem uD {K:Type} [DecidableEq K] {k x:K}{v:Value}{l:List (K×Value)}(h:¬k=x):valueAt ((k,v)::l) x=valueAt l x:=by unfold valueAt;rw[List.find?_cons_of_neg (by simpa using h)]
theorem Qk {h:Heap}{ks:List Str}{ds:List D}{vs:List Value}{x:Str}{d:D}(e:Yr ks ds x=some d)(hl:ks.length=vs.length)(R:fB prog w bad h vs ds):∃v,valueAt (ks.zip vs) x=some v/\RD prog w bad h v d:=by
 induction ks generalizing ds vs with
 |nil=>exact nn e
 |cons k ks b=>
  revert R;refine nJ cH e λf ds e R=>?_;revert hl;refine R.nA λv c r a hl=>?_;rw[cI];by_cases hk:k=x
  ·exact⟨v,uE hk,aH ((ao hk).symm.trans e)▸r⟩
  ·rw[uD hk]
   exact b ((aq hk).symm.trans e) (Nat.succ.inj hl) a
theorem Qj {h:Heap}{ks:List Int}{ds:List D}{vs:List Value}{x:Int}(hl:ks.length=vs.length)(R:fB prog w bad h vs ds):
 (Ae ks ds x=none/\valueAt (ks.zip vs) x=none)\/∃d v,Ae ks ds x=some d/\valueAt (ks.zip vs) x=some v/\RD prog w bad h v d:=by
 induction ks generalizing ds vs with
 |nil=>exact .inl ⟨rfl,rfl⟩
 |cons k ks b=>
  induction ds using gY with
  |nil=>exact absurd (hl.trans R.length) nofun
  |cons d ds=>
   revert hl;refine R.nA λv f r a hl=>?_;rw[cI];show((if k=x then some d else Ae ks ds x)=none/\_)\/∃c e,(if k=x then some d else Ae ks ds x)=some c/\_;by_cases hk:k=x
   ·rw[ao hk]
    exact .inr ⟨d,v,rfl,uE hk,r⟩
   ·rw[aq hk,uD hk]
    exact b (Nat.succ.inj hl) a
theorem QX {h:Heap}{items:Array Value}{ds:List D}{i:Int}{d:D}(e:idx ds i=some d)(b:fB prog w bad h items.toList ds):0<=i/\i<2 ^ 60/\∃v,items[i.toNat]? =some v/\RD prog w bad h v d:=
 j9 e λa e=>⟨a.1,a.2,(b.get e).imp λv h=>⟨Array.getElem?_toList.symm.trans h.1,h.2⟩⟩
theorem WX (H:cL W fA n r)(R:fj n A)(F:gw W ε bad σ s.heap){v i:Expr}{p:Pos}{d:D}{Q:VP}
 (f:isSlice i=false)(e:(oS none (r.ev σ v) λd=>oS none (r.ev σ i) λj=>mD d j)=some d)(G:Gives W bad s d Q):wpAny (model prog w) A (eval (.Subscript v i p) ε) Q E s:=by
 refine gQ e λa O e=>gQ e λb N e=>Subscript_ (H.two O N R F λY V y tk h g X S B=>?_);have G:=G.after X (t₁:=tk);revert h g;refine sW e (λe=>lz cH e λJ e=>jx cH e λi e h g=>g.jg λt=>h.listE λa z Z hl l K=>?_) λe=>sW e (λe=>Mm cH e λJ e=>jx cH e λi e h g=>g.jg λt=>h.vL λa z Z hl l K=>?_) λe=>
  sW e (λe=>rz cH e λx e=>jx cH e λi e=>j9 e λM e h g=>g.jg λt=>h.pA λt'=>?_) λe=>R9 cH e λks ds e=>rz cH e λx e h g=>g.pA λt=>h.G5 λa U Z hs hl I l=>?_
 ·refine Dh (λC P u k m=>?_) (QX e l)
  exact pq (Heap.IsList.typeIs (s:=(zs s y tk)) hl) slot_list_getitem.lookup (wpAny_getItem_list hl C (by exact Int.lt_of_lt_of_le ‹_› (by decide)) k (G.flat S m tk)) (jE f _ _)
 ·refine Dh (λC P u k m=>?_) (QX e l)
  refine nF (λo L q Z=>?_) (id hl);exact pq (s:=(zs s y tk)) (T:="tuple") ⟨o,L,q⟩ PySem.F.slot_tuple_getitem.lookup (PyProof.Rows.getItem_tuple (j:=Int.toNat _) hl (by lia) (by exact Int.lt_of_lt_of_le ‹_› (by decide)) (seqIndex_at C k) k (G.flat S m tk)) (jE f _ _)
 ·revert G
  refine nH e λc q G=>pq (s:=(zs s y tk)) (T:="str") (typeIs_str _ _ _) PySem.F.slot_str_getitem.lookup ?_ (jE f _ _);refine PySem.P.getItem_str (c:=c) (by simp;lia) ?_ (G.flat S (.str _ _) _);show((seqIndex? _ (Str.cps _).size).bind _)=_;rw[seqIndex_at M.1 q];exact q
 ·refine cW (λu k m=>?_) (Qk e hl l)
  exact pq (s:=(zs s y tk)) (T:="dict") I.typeIs PySem.F.slot_dict_getitem.lookup (wpAny_getItem_of (strKind_is _ _ _ _) I.mapOf k (G.flat S m _)) (jE f _ _)
theorem fB.slice {h:Heap}{items:Array Value}{ds:List D}(a:fB prog w bad h items.toList ds)(l u:Option Int):fB prog w bad h (slicePick items l u none).toList (jm ds l u):=by
 rw[kms_pick_eq];show fB prog w bad h (kms_pick items.toList l u) _;unfold kms_pick jm;have b:=a.length;have d:kms_lo l items.toList.length=place ds.length 0 l:=by
  rw[b]
  induction l using aK with
  |none=>rfl
  |some i=>
   unfold kms_lo place;dsimp only;split<;>lia
 have c:kms_hi u items.toList.length=place ds.length ds.length u:=by
  rw[b]
  induction u using aK with
  |none=>rfl
  |some i=>
   unfold kms_hi place;dsimp only;split<;>lia
 rw[d,c];show fB prog w bad h _ (List.drop _ (List.take _ ds));rw[List.drop_take];exact(a.drop _).take _
theorem Pg (k:Nat)(u:Option Int):place k k u<=k:=by
 induction u using aK with
 |none=>exact bG _
 |some i=>
  unfold place;dsimp only;split<;>lia
theorem I7 (n:Nat)(l u:Option Int):Builtin.Str.strSliceIndices l u 1 n=(List.range (place n n u - place n 0 l)).map (place n 0 l+·):=by
 have c:Builtin.Str.strSliceIndices l u 1 n=sliceRange (sliceBounds l u none n).1 (sliceBounds l u none n).2.1 1:=by
  induction l using aK<;>induction u using aK<;>rfl
 rw[c,kms_bounds];dsimp only;rw[sliceRange_one];have b:kms_lo l n=place n 0 l:=by
  induction l using aK with
  |none=>rfl
  |some i=>
   unfold kms_lo place;dsimp only;split<;>lia
 have a:kms_hi u n=place n n u:=by
  induction u using aK with
  |none=>rfl
  |some i=>
   unfold kms_hi place;dsimp only;split<;>lia
 rw[b,a]
theorem U6 (x:Str)(l u:Option Int):(Builtin.Str.strSliceIndices l u 1 x.length).filterMap (x.cps[·]?)=jm x.cps.toList l u:=by
 rw[I7,pick_run];unfold jm;have a:x.cps.toList.length=x.length:=by simp[Str.length]
 rw[a];show _=List.drop _ (List.take _ _);rw[List.drop_take]
theorem Dw (x:Str)(l u:Option Int)(h:(Builtin.Str.strSliceIndices l u 1 x.length).length=x.length):jm x.cps.toList l u=x.cps.toList:=by
 rw[I7,ak,List.length_range]at h;have a:x.cps.toList.length=x.length:=by simp[Str.length]
 have d:=Pg x.length u;unfold jm;rw[a];show List.drop _ (List.take _ _)=_;have c:x.length<=place x.length x.length u:=by lia
 rw[dK (by rw[a];exact c)];refine aC (Nat.eq_zero_or_pos x.length) (λb=>?_) (λb=>?_)
 ·have:x.cps.toList=[]:=cO.mp (a.trans b)
  rw[this,List.drop_nil]
 ·have:place x.length 0 l=0:=by lia
  rw[this,List.drop_zero]
theorem RM (H:cL W fA n r)(R:fj n A)(F:gw W ε bad σ s.heap){e:Option Expr}{x:Option Int}(b:n8 r σ e=some x){Q:VP}
 (k:∀v h' tk,IsPart v x->(∃l:Option (Int×Tok),v=partValue l/\l.map (·.1)=x)->Ext s.heap h'->W.S h'->Q v (zs s h' tk)):wpAny (model prog w) A (evalPart e ε) Q E s:=by
 revert k
 induction e using aK with
 |none=>
  rw[evalPart_none];exact someE b λk=>aB (k .none s.heap s.toks .none ⟨none,rfl,rfl⟩ (Ext.refl _) F.S)
 |some e=>
  rw[evalPart_some];revert b;exact λb=>gQ b λa d b=>jx (P:=λa=>r.ev σ e=some a->_) cH b (λi b d=>someE b λk=>H.ev d R F λv g f j h c=>j.jg λt=>k _ _ _ (.int _ _) ⟨some (i,t),rfl,rfl⟩ h c) d
theorem RK (H:cL W fA n r)(R:fj n A)(F:gw W ε bad σ s.heap){v:Expr}{l u:Option Expr}{p p':Pos}{d:D}{Q:VP}
 (e:(oS none (r.ev σ v) λd=>oS none (n8 r σ l) λa=>oS none (n8 r σ u) λb=>lZ d a b)=some d)(G:Gives W bad s d Q):
 wpAny (model prog w) A (eval (.Subscript v (.Slice l u none p) p') ε) Q E s:=by
 refine gQ e λC I e=>gQ e λa hl e=>gQ e λb J e=>Subscript_ (H.ev I R F λov B t₁ K m f=>?_);refine wpAny_Slice (RM H R (F.ext m f) hl λy h2 N V S k S2=>?_);refine RM (s:=(zs s h2 N)) H R ((F.ext m f).ext k S2) J λt h g U P X3 S3=>?_;rw[evalPart_none];refine aB ?_;have L:=((F.ext m f).ext k S2).ext X3 S3;have B':gV bad (h.push {cls:=.type "slice",data:=.fields #[y,t,.none]}):=L.lX.ext ((Ext.refl _).push _) (W.pushS S3 _);have G:Gives W bad (zs s h g) d Q:=G.after (m.trans (k.trans X3));have R3:=K.mono (fY F.tb (k.trans X3));clear K L F m k X3 I hl J;revert R3 G;refine sW e (λe=>lz cH e λxs e=>j9 e λz e=>someE e λG R3=>R3.listE λq M hq hl O ls=>?_) λe=>rz cH e λx e=>j9 e λz e=>someE e λG R3=>R3.pA λq=>?_
 ·refine pq (s:={s with heap:=h.push {cls:=.type "slice",data:=.fields #[y,t,.none]},toks:=g}) (Heap.IsList.typeIs (s:=(zs s (h.push _) g)) (hl.push _)) slot_list_getitem.lookup
   (wpAny_getItem_list_slice (hl.push _) (Heap.IsSliceOf.new ..) V U .none nofun ?_ (by rw[ls];exact aA (gR z.2.2) (by decide))) rfl
  exact(G.after (t₁:=g) ((Ext.refl _).push _)).newList (s:={s with heap:=h.push {cls:=.type "slice",data:=.fields #[y,t,.none]},toks:=g}) (W.pushS S3 _) B' (fB.slice (O.mono λb o Z e=>aP _ e) _ _)
 ·revert S;refine cW λj el Y=>?_
  revert P;refine cW λi eu X=>?_;rw[el,eu];refine pq (s:=(zs s (h.push _) g)) (T:="str") (typeIs_str _ _ _) PySem.F.slot_str_getitem.lookup
   (wpAny_getItem_str_slice (l:=j) (u:=i) (st:=none) ⟨_,aL _ rfl,rfl,rfl⟩ rfl ?_) rfl
  have hm:=U6 x a b;have hk:(slicePicked x j i none)=Builtin.Str.strSliceIndices a b 1 x.length:=by unfold slicePicked;rw[Y,X];rfl
  unfold sliceMade;show Made.post (if ((slicePicked x j i none).length==x.length)=true then _ else _) Q _;by_cases c:((slicePicked x j i none).length==x.length)=true
  ·rw[ao c]
   rw[hk]at c;refine(G.after (t₁:=g) ((Ext.refl h).push {cls:=.type "slice",data:=.fields #[partValue j,partValue i,.none]})) _ _ g ?_ (Ext.refl _) (W.pushS S3 _);rw[Dw x a b (eq_of_beq c)];exact .str x q
  ·rw[aq c,hk,hm]
   refine⟨?_,G _ _ _ (.str _ _) ((Ext.refl _).push _) (W.pushS S3 _)⟩;show(jm _ _ _).toArray.size<=_;have:(jm x.cps.toList a b).length<=x.length:=by
    unfold jm;simp[Str.length]
    lia
   simp only[List.size_toArray];exact aA this (aA (gR z.2.2) (by decide))
theorem Wd.hi {h:Heap}(hS:W.S h):412<=h.objs.size:=W.size hS
theorem Wd.notModules {h:Heap}(hS:W.S h):(h.objs.size==sysModules)=false:=by have:=Wd.hi hS;exact beq_eq_false_iff_ne.mpr λq=>by rw[q]at this;exact absurd this (by decide)
theorem mX {ds:List D}(h:eX r σ []=some ds):ds=[]:=by exact(aH h).symm
theorem Qn {h:Heap}:∀b,b∈h.objs.size::bad->b∈bad\/h.get? b=none:=λb hb=>by
 rcases au.mp hb with rfl|hb
 ·exact .inr Wd.jT
 ·exact .inl hb
theorem s7.open {h:Heap}(F:s7 W ε bad h){o:Obj}(j:(h.push o).get? h.objs.size=some o)(u:¬Ue o):s7 W ε (h.objs.size::bad) (h.push o) where
 S:=W.pushS F.S o
 kind:=F.kind
 glob:=F.glob
 blt:=F.blt
 ns:=by refine yE (λm l=>?_) F.ns;exact⟨m,l.push o⟩
 hi:=F.hi
 lin:=.tail _ F.lin
 cells:=λx k=>by refine gW (λa v e f r1 r2 g=>cW (λd c t=>?_) f) (F.cells x k);exact⟨a,v,e,⟨d,aP o c,t⟩,.tail _ r1,r2,g⟩
 inj:=F.inj
 cin:=λx a e=>let ⟨p,q⟩:=F.cin x a e;⟨.tail _ p,q⟩
 tb:=λb hb=>.tail _ (F.tb b hb)
 old:=λb hb=>by
  rcases au.mp hb with rfl|hb
  ·exact⟨⟨o,j,u⟩,.inr (Wd.hi F.S)⟩
  ·refine yA (λq i=>?_) (F.old b hb)
   exact⟨q.keep λd c=>aP o c,i⟩
 mkl:=F.mkl
theorem RD.open {h:Heap}{v:Value}{d:D}(o:Obj)(R:RD prog w bad h v d):RD prog w (h.objs.size::bad) (h.push o) v d:=
 (R.less Qn).mono λb a Z e=>aP o e
theorem RD.shut {h:Heap}{a:Addr}{v:Value}{d:D}(R:RD prog w (a::bad) h v d):RD prog w bad h v d:=R.less λb c=>.inl (.tail _ c)
theorem fB.shut {h:Heap}{a:Addr}{v:List Value}{d:List D}(R:fB prog w (a::bad) h v d):fB prog w bad h v d:=R.less λb c=>.inl (.tail _ c)
theorem Bound.push {h:Heap}{x:Str}{v:Value}(B:Bound h ε x v)(o:Obj):Bound (h.push o) ε x v:=by
 revert B;refine yO (nG λk m d e=>?_) (xO λk a e b c q=>?_)
 ·exact .inl ⟨k,m,d.push o,e⟩
 ·exact .inr ⟨k,a,e,b,aP o c,q⟩
theorem gw.open {h:Heap}(F:gw W ε bad σ h){o:Obj}(a:(h.push o).get? h.objs.size=some o)(b:¬Ue o):gw W ε (h.objs.size::bad) σ (h.push o) where
 tos7:=F.tos7.open a b
 names:=F.names
 env:=λx d e=>by
  refine aC (F.env x d e) (λq=>?_) (cW λv B R=>?_)
  ·exact .inl q
  ·exact .inr ⟨v,B.push o,R.open o⟩
theorem Ug {prog:Program}{w:World}{a b c:Int}{t u v:Tok}{x y z:Value}:Carries (intKind prog w) [(.int a t,x),(.int b u,y),(.int c v,z)] [(a,x),(b,y),(c,z)]:=
 ⟨intKind_is _ _ _ _,rfl,intKind_is _ _ _ _,rfl,intKind_is _ _ _ _,rfl,trivial⟩
theorem W0 (H:cL W fA n r)(R:fj n A)(F:gw W ε bad σ s.heap){N M L v1 Z Y:Expr}{p:Pos}{d:D}{Q:VP}
 (e:RQ r σ N M L [v1,Z,Y]=some d)(G:Gives W bad s d Q):
 wpAny (model prog w) A (eval (.Dict [some N,some M,some L] [v1,Z,Y] p) ε) Q E s:=by
 revert G;refine gQ e λx1 T e=>jx (P:=λx=>r.ev σ N=some x->_) cH e (λa e T=>?_) T;refine gQ e λx2 S e=>jx (P:=λx=>r.ev σ M=some x->_) cH e (λb e S=>?_) S;refine gQ e λx3 O e=>jx (P:=λx=>r.ev σ L=some x->_) cH e (λc e O=>?_) O;refine gQ e λV hv e=>j9 e λh e=>someE e λG=>?_
 ··
   refine fW (λd1 ds1 C y l=>?_) (iK hv);subst l;refine fW (λd2 ds2 B v l=>?_) (iK y);subst l;refine fW (λd3 ds3 z u l=>?_) (iK v);subst l;have:=mX u;subst this;have t:=F.open (o:={cls:=.type "dict",data:=.dict #[]}) (aL _ rfl) (gF λV e=>nomatch e);refine wpAny_Dict_walk (knd:=intKind prog w) rfl rfl (by simp) (by show 3<=15;decide) ?_;refine pairTrees_cons_walk (H.ev (s:={s with heap:=s.heap.push _}) T R t λq1 a1 U R1 X1 j=>R1.jg λy1=>?_);have F1:=t.ext X1 j;refine H.ev C R F1 λK a2 t2 R2 X2 S2=>?_;have F2:=F1.ext X2 S2;refine pairTrees_cons_walk (H.ev S R F2 λq3 a3 t3 R3 X3 S3=>R3.jg λy2=>?_);have F3:=F2.ext X3 S3;refine H.ev B R F3 λJ a4 t4 R4 X4 S4=>?_;have F4:=F3.ext X4 S4;refine pairTrees_cons_walk (H.ev O R F4 λq5 a5 t5 R5 X5 S5=>R5.jg λy3=>?_);have F5:=F4.ext X5 S5;refine H.ev z R F5 λI a6 t6 R6 X6 S6=>?_;have F6:=F5.ext X6 S6;refine pairTrees_nil_walk ?_;have i:=R2.mono (fY t.tb (X3.trans (X4.trans (X5.trans X6))));have r4:=R4.mono (fY t.tb (X5.trans X6));have X:=X1.trans (X2.trans (X3.trans (X4.trans (X5.trans X6))));have k:¬s.heap.objs.size∈Tb:=λq=>absurd (kj _ q) (bc.mpr (Wd.hi F.S));refine⟨[(a,K),(b,J),(c,I)],Ug,?_,λh' hd hs=>?_⟩
   ·refine qK (λo es ep f q=>?_) (Heap.DictOf.new (knd:=intKind prog w) s.heap)
    exact⟨o,es,ep,X _ _ k f,q⟩
   ·have hm:merged [] [(a,K),(b,J),(c,I)]=[a,b,c].zip [K,J,I]:=by
     simp only[merged,List.foldl,stored,List.any_nil,List.any_cons,cJ,if_false,List.nil_append,Bool.or_false,decide_eq_true_eq,h.1,List.cons_append,h.2.1,h.2.2,decide_false,cI,List.zip_nil_right]
    rw[hm]at hd;have hk:∀x o,x∉s.heap.objs.size::bad->a6.get? x=some o->h'.get? x=some o:=λx o m f=>by rw[hs.2 x (λq=>m (q▸.head _))];exact f
    have g:∀x o,x≠s.heap.objs.size->a6.get? x=some o->h'.get? x=some o:=λx o m f=>by rw[hs.2 x m];exact f
    refine G _ _ _ (.idict F.lX.fresh ?_ rfl hd (.cons ((i.mono hk).shut) (.cons ((r4.mono hk).shut) (.cons ((R6.mono hk).shut) .nil)))) ?_ ?_
    ·exact Wd.notModules F.S
    ·intro x o m f
     exact g x o (λq=>by subst q;rw[Wd.jT]at f;exact nn f) (X x o m (aP _ f))
    ·exact Wd.j0 S6 (Wd.hi F.S) (X _ _ k (aL _ rfl)) (gF λV e=>nomatch e) g
noncomputable def Spot (ε:Env)(x:Str)(b:Addr):Prop:=b=ε.locals\/ε.cells.lookup x=some b
theorem s7.Jq {h h':Heap}(F:s7 W ε bad h)(hs:h'.objs.size=h.objs.size){c:Addr}(a:∀b,b≠c->h'.get? b=h.get? b)(g:jd h' c):
 ∀b∈bad,jd h' b/\(b∈Tb\/412<=b):=λb i=>by
 refine yA (λq d=>?_) (F.old b i);refine⟨?_,d⟩;by_cases e:b=c
 ·subst e;exact g
 ·exact q.keep λo f=>by rw[a b e];exact f
theorem s7.store {h:Heap}(F:s7 W ε bad h){x:Str}{v:Value}(t:ε.kindOf x=some .local\/ε.kindOf x=some .cell){s:Shared}(hs:s.heap=h){Q:Unit->Shared->Prop}
 (k:∀h' tk,s7 W ε bad h'->Bound h' ε x v->(∀y u,y≠x->Bound h ε y u->Bound h' ε y u)->(∀b o,¬Spot ε x b->h.get? b=some o->h'.get? b=some o)->
  (∀b,(h.get? b).isSome=true->(h'.get? b).isSome=true)->Q () (zs s h' tk)):
 wpAny (model prog w) A (storeName ε x v) Q E s:=by
 subst hs;revert t;refine yO (λt=>?_) (λt=>?_)
 ·refine yE (λm Y=>?_) F.ns
  refine wpAny_storeName_local t Y (λh' C d=>?_) (by rw[F.kind];rfl);have f:jd h' ε.locals:=by revert C;refine iQ λo Z Z c J Z=>?_;exact⟨o,c,gF λU e=>by rw[J]at e;nomatch e⟩
  have keep:∀b o,b≠ε.locals->s.heap.get? b=some o->h'.get? b=some o:=λb o g c=>by rw[d.2 b g];exact c
  refine k h' _ ?_ (.inl ⟨t,_,C,by simp⟩) ?_ (λb o g c=>keep b o (λq=>g (.inl q)) c) (λb g=>?_)
  ·refine iQ (λol Z Z G H Z=>?_) (id Y)
   exact{S:=Wd.j0 F.S F.hi G (gF λU e=>by rw[H]at e;nomatch e) keep
         kind:=F.kind,glob:=F.glob,blt:=F.blt,ns:=⟨_,C⟩,hi:=F.hi,lin:=F.lin
         cells:=λy I=>by refine gW (λa u e j r1 r2 V=>cW (λo c J=>?_) j) (F.cells y I);exact⟨a,u,e,⟨o,keep a o r2 c,J⟩,r1,r2,V⟩
         inj:=F.inj,cin:=F.cin,tb:=F.tb
         old:=F.Jq d.1 d.2 f,mkl:=F.mkl}
  ·intro y u I B
   revert B;refine yO (nG λp X O e=>?_) (xO λp a e o c q=>?_)
   ·have:X=m:=by
     revert O;refine rM λo1 es1 ep1 N R Z L=>?_;revert Y;refine rM λo2 es2 ep2 M P Z K=>?_;have j:=aH (N.symm.trans M);subst j;have j:=(Data.dict.inj (R.symm.trans P)).1;subst j;exact funext λz=>(L z).symm.trans (K z)
    subst this;exact .inl ⟨p,_,C,by simp[I,e]⟩
   ·refine gW (λi u' l Z Z r2 Z=>?_) (F.cells y p)
    have j:=aH (e.symm.trans l);subst j;exact .inr ⟨p,a,e,o,keep a o r2 c,q⟩
  ·by_cases e:b=ε.locals
   ·subst e;exact f.alive
   ·rw[d.2 b e];exact g
 ·refine gW (λa u e hc r1 r2 V=>?_) (F.cells x (.inl t))
  refine wpAny_storeName_cell F.kind t e hc λh' C d=>?_;have f:jd h' a:=by revert C;refine cW λo c J=>?_;exact⟨o,c,gF λU e=>by rw[J]at e;nomatch e⟩
  have keep:∀b o,b≠a->s.heap.get? b=some o->h'.get? b=some o:=λb o g c=>by rw[d.2 b g];exact c
  refine k h' s.toks ?_ (.inr ⟨.inl t,a,e,C⟩) ?_ (λb o g c=>keep b o (λq=>g (.inr (q▸e))) c) (λb g=>?_)
  ·refine cW (λol G H=>?_) (id hc)
   exact{S:=Wd.j0 F.S V G (gF λU e=>by rw[H]at e;nomatch e) keep
         kind:=F.kind,glob:=F.glob,blt:=F.blt,ns:=by refine qJ (λm o es ep c q=>?_) F.ns;exact⟨m,o,es,ep,keep _ _ (Ne.symm r2) c,q⟩
         hi:=F.hi,lin:=F.lin
         cells:=λy I=>by
          refine gW (λi u' l T q1 q2 q3=>?_) (F.cells y I);by_cases ha:i=a
          ·subst ha;exact⟨i,_,l,C,q1,q2,q3⟩
          ·revert T;refine cW λo c J=>?_
           exact⟨i,u',l,⟨o,keep i o ha c,J⟩,q1,q2,q3⟩
         inj:=F.inj,cin:=F.cin,tb:=F.tb
         old:=F.Jq d.1 d.2 f,mkl:=F.mkl}
  ·intro y u I B
   revert B;refine yO (nG λp X j l=>qK (λo es ep c q=>?_) j) (xO λp i l o c q=>?_)
   ·exact .inl ⟨p,X,⟨o,es,ep,keep _ _ (Ne.symm r2) c,q⟩,l⟩
   ·have:i≠a:=by rintro rfl;exact I (F.inj y x i l e)
    exact .inr ⟨p,i,l,o,keep i o this c,q⟩
  ·by_cases e:b=a
   ·subst e;exact f.alive
   ·rw[d.2 b e];exact g
theorem s7.nU {h:Heap}(F:s7 W ε bad h){x:Str}{b:Addr}:Spot ε x b->b∈bad:=by
 rintro (rfl|e)
 ·exact F.lin
 ·exact(F.cin x b e).1
theorem Sg.yK {x:Str}(h:ε.scope.names=σ.names)(a:σ.holds x=true):ε.kindOf x=some .local\/ε.kindOf x=some .cell:=by
 unfold Env.kindOf;rw[h];exact Br nb a λk e=>by
  induction k using NameKind.casesOn with
  |«local»=>exact .inl rfl
  |cell=>exact .inr rfl
  |_=>exact absurd e nb
theorem K7 {α:Type}{x y:Str}{d:α}{l:List (Str×α)}:((x,d)::l).lookup y=if y=x then some d else l.lookup y:=by
 rw[List.lookup_cons];by_cases q:y=x
 ·rw[ao q,q,dF]
 ·rw[aq q,beq_eq_false_iff_ne.mpr q]
theorem Ve {x y:Str}{d:D}:∀(l a:List (Str×D)),Vf x d l=some a->a.lookup y=if y=x then some d else l.lookup y:=by
 intro l
 induction l with
 |nil=>exact λa h=>nn h
 |cons p r c=>
  intro a h;show _=if y=x then some d else((p.1,p.2)::r).lookup y
  by_cases b:p.1=x
  ·refine someE ((ao b).symm.trans h) ?_
   rw[K7,K7,b];by_cases q:y=x
   ·rw[ao q,ao q]
   ·rw[aq q,aq q,aq q]
  ·refine gQ ((aq b).symm.trans h) λl1 hl h=>someE h ?_
   show((p.1,p.2)::l1).lookup y=_;rw[K7,K7,c _ hl];by_cases q:y=x
   ·rw[ao q,ao q,aq λe=>b (e.symm.trans q)]
   ·rw[aq q,aq q]
theorem Sg.gM {x y:Str}{d:D}:(σ.add x d).lookup y=if y=x then some d else σ.lookup y:=by
 show(oS ((x,d)::σ.vars) (Vf x d σ.vars) id).lookup y=_
 induction a:Vf x d σ.vars using aK with
 |some l=>exact Ve _ l a
 |none=>exact K7
theorem gw.store {h:Heap}(F:gw W ε bad σ h){x:Str}{v:Value}{d:D}(f:σ.holds x=true)(R:RD prog w bad h v d){s:Shared}(hs:s.heap=h){Q:Unit->Shared->Prop}
 (k:∀h' tk,gw W ε bad (σ.add x d) h'->(∀b o,¬Spot ε x b->h.get? b=some o->h'.get? b=some o)->(∀b,(h.get? b).isSome=true->(h'.get? b).isSome=true)->Q () (zs s h' tk)):
 wpAny (model prog w) A (storeName ε x v) Q E s:=by
 refine F.tos7.store (Sg.yK F.names f) hs λh' tk p B t keep l=>k h' tk ?_ keep l;have c:∀b o,b∉bad->h.get? b=some o->h'.get? b=some o:=λb o i g=>keep b o (λq=>i (F.tos7.nU q)) g;refine{tos7:=p,names:=F.names,env:=λy j e=>?_};rw[Sg.gM]at e;split at e
 ·rename_i a
  subst a;injection e with e;subst e;exact .inr ⟨v,B,R.mono c⟩
 ·rename_i a
  refine aC (F.env y j e) (λq=>?_) (cW λu z m=>?_)
  ·exact .inl q
  ·exact .inr ⟨u,t y u a z,m.mono c⟩
theorem Aq {b l:Addr}{items:Array Value}(h:l≠b):∀(n i:Nat)(s:Shared)(Q:List Value->Shared->Prop),s.heap.IsListIter b l i->s.heap.IsList l items->i+n<=items.size->
 (∀h',h'.IsListIter b l (i+n)->Heap.SameBut b s.heap h'->Q ((items.toList.drop i).take n) {s with heap:=h'})->wpAny (model prog w) A (draw (.ref b) n) Q E s
 |0,i,s,Q,a,_,_,m=>by show wpAny _ _ (pure []) Q E s;exact aB (by simpa using m s.heap a (Heap.SameBut.refl ..))
 |n+1,i,s,Q,a,q,t,m=>by
  have j:i<items.size:=by lia
  show wpAny _ _ (pyNext (.ref b) >>= _) Q E s;refine aj (wpAny_pyNext_list_item a q (x:=items[i]) (by simp[j]) λp f g=>?_);refine aj (bF (Aq h n (i+1) _ _ f (q.at λo e=>g.extBut _ _ h e) (by lia) λc d k=>aB ?_));have u:items.toList.drop i=items[i]::items.toList.drop (i+1):=by simp[cG,j]
  have:=m c (by rw[show i+(n+1)=i+1+n by lia];exact d) (g.trans k);rw[u,List.take_succ_cons]at this;exact this
theorem vK {t:Addr}{items:Array Value}{Q:List Value->Shared->Prop}(m:A.handled=none)(ht:s.heap.IsList t items)
 (p:∀h',Heap.ExtBut s.heap.objs.size s.heap h'->Q items.toList {s with heap:=h'}):wpAny (model prog w) A (unpackItems (.ref t) items.size none) Q E s:=by
 have h:t≠s.heap.objs.size:=by(revert ht;refine cW λo l Z=>?_);exact bY (aZ l)
 unfold unpackItems;refine aj ?_
 ·unfold notIterableAtAll
  refine aj (wpAny_specialOf (T:="list") ht.typeIs slot_list_iter.lookup ?_);refine aB ?_;simp only[cJ,if_false];refine aj (bF (wpAny_pyIter_list ht ?_));refine aj (bF (Aq h items.size 0 _ _ ⟨_,aL _ rfl,rfl,rfl⟩ (ht.push _) (by lia) λc d g=>?_));have f:List.take items.size (List.drop 0 items.toList)=items.toList:=by rw[List.drop_zero];exact dK (by simp)
  rw[f];rw[aq (by simp)];have i:c.IsList t items:=(ht.push _).at λo e=>g.extBut _ _ h e;refine aj (bF (wpAny_pyNext_list_end m d i (by simp) λa j=>?_));simp only[Option.isSome_none,cJ,if_false];refine aB (p a λb o k e=>j b o k (g.extBut b o k (aP _ e)))
theorem vX {h h':Heap}(x:Heap.ExtBut h.objs.size h h'):∀b o,h.get? b=some o->h'.get? b=some o:=λb o e=>x b o (λq=>by subst q;rw[Wd.jT]at e;exact nn e) e
theorem tV (g:A.handled=none){v:Value}{a b:D}{bad:List Addr}(R:RD prog w bad s.heap v (.list [a,b])\/RD prog w bad s.heap v (.tuple [a,b])){Q:List Value->Shared->Prop}
 (k:∀x y h',RD prog w bad s.heap x a->RD prog w bad s.heap y b->(∀b o,s.heap.get? b=some o->h'.get? b=some o)->Q [x,y] {s with heap:=h'}):
 wpAny (model prog w) A (unpackItems v 2 none) Q E s:=by
 revert R;refine yO (λR=>?_) (λR=>?_)
 ·refine R.listE λl c Z hl d e=>?_
  have f:c.size=2:=e;rw[<-f];refine vK g hl λh' X=>?_;exact d.Kc λx y r1 r2=>k x y h' r1 r2 (vX X)
 ·refine R.vL λl c Z hl d e=>?_
  have f:c.size=2:=e;rw[<-f];refine PyProof.Rows.unpackItems_tuple g hl λh' X=>?_;exact d.Kc λx y r1 r2=>k x y h' r1 r2 (vX X)
noncomputable def Zq (ε:Env)(t:Expr)(b:Addr):Prop:=b=ε.locals\/∃x∈targetsOf t,ε.cells.lookup x=some b
theorem sX {σ:Sg}{P:Expr->D->Sg->Prop}(f:∀x p d,σ.holds x=true->P (.Name x p) d (σ.add x d))
 (h2:∀x px y py q p d a b,(σ.holds x&&σ.holds y)=true->d=.list [a,b]\/d=.tuple [a,b]->P (.Tuple [.Name x px,.Name y py] q p) d ((σ.add x a).add y b)){t:Expr}{d:D}{σ':Sg}(e:gq t d σ=some σ'):P t d σ':=
 sW e (λe=>jw cH e λx p e=>ifs e λq e=>e▸f x p d q) λe=>yX cH e λg q p e=>pH cH e λu v e=>jw cH e λx px e=>jw cH e λy py e=>
  sW e (λe=>lz cH e λl e=>pH cH e λa b e=>ifs e λc e=>e▸h2 x px y py q p _ a b c (.inl rfl)) λe=>Mm cH e λl e=>pH cH e λa b e=>ifs e λc e=>e▸h2 x px y py q p _ a b c (.inr rfl)
@[elab_as_elim] theorem JT {σ σ':Sg}{d:D}{P:Expr->Prop}{t:Expr}(e:gq t d σ=some σ')(a:∀y p,P (.Name y p))(h2:∀es q p,P (.Tuple es q p)):P t:=
 sW e (λe=>jw cH e λx p Z=>a x p) λe=>yX cH e λes q p Z=>h2 es q p
@[elab_as_elim] theorem refD {P:Value->Prop}{x:Value}(b:∀a,P (.ref a))(h2:(∀a,x≠.ref a)->P x):P x:=by
 by_cases q:∃a,x=.ref a
 ·exact q.elim λa e=>e▸b a
 ·exact h2 λa e=>q ⟨a,e⟩
theorem neT {a b:String}(h:(a==b)=false):Value.type a≠.type b:=λe=>by injection e with e;rw[e]at h;exact absurd rfl (beq_eq_false_iff_ne.mp h)
theorem Hi {o:Obj}{t:String}(h:o.cls=.type t)(n:(t== "code")=false):¬Ue o:=uP λe=>neT n (h.symm.trans e)
theorem yo {h:Heap}{I:Addr}{t:String}{P:Obj->Prop}(e:∃o,h.get? I=some o/\o.cls=.type t/\P o)(n:(t== "code")=false):jd h I:=e.elim λo q=>⟨o,q.1,Hi q.2.1 n⟩
theorem oneL {h:Heap}{I:Addr}(l:jd h I):∀b∈[I],jd h b:=λb a=>dj.mp a▸l
theorem oneK {h h':Heap}{I:Addr}(X:Heap.SameBut I h h'):∀b o,b∉[I]->h.get? b=some o->h'.get? b=some o:=λb o a e=>X.extBut b o (λq=>a (q▸.head _)) e
theorem gw.bind {h:Heap}(F:gw W ε bad σ h)(K:A.handled=none){t:Expr}{v:Value}{d:D}{σ':Sg}(hb:gq t d σ=some σ')(R:RD prog w bad h v d){s:Shared}(hs:s.heap=h){Q:Unit->Shared->Prop}
 (k:∀h' tk,gw W ε bad σ' h'->(∀b o,¬Zq ε t b->h.get? b=some o->h'.get? b=some o)->(∀b,(h.get? b).isSome=true->(h'.get? b).isSome=true)->Q () (zs s h' tk)):
 wpAny (model prog w) A (assign t ε v) Q E s:=by
 subst hs;refine sX (P:=λt d σ'=>RD prog w bad s.heap v d->(∀h' tk,gw W ε bad σ' h'->(∀b o,¬Zq ε t b->s.heap.get? b=some o->h'.get? b=some o)->(∀b,(s.heap.get? b).isSome=true->(h'.get? b).isSome=true)->Q () (zs s h' tk))->wpAny (model prog w) A (assign t ε v) Q E s) ?_ ?_ hb R k<;>clear hb R k
 ·intro x p d i R k
  refine wpAny_assign_Name (F.store i R rfl λh' tk Y I O=>k h' tk Y (λb o hb c=>I b o (λq=>hb ?_) c) O);revert q;refine yO (λq=>?_) (λq=>?_)
  ·exact .inl q
  ·exact .inr ⟨_,.head _,q⟩
 ·intro x C y B q p d a b g l R k
  replace R:RD prog w bad s.heap v (.list [a,b])\/RD prog w bad s.heap v (.tuple [a,b]):=l.imp (λ(e:d=.list [a,b])=>e▸R) λ(e:d=.tuple [a,b])=>e▸R;clear l;refine yA (λi J=>?_) (az.mp g);rw[PyProof.Rows.assign_Tuple];refine aj (bR ?_);show wpAny _ _ (unpack v [(false,assign (.Name x C) ε),(false,assign (.Name y B) ε)]) Q E s;unfold unpack;refine aj (bF (tV K R λu w' h₁ T S X=>?_));have m:gw W ε bad σ h₁:=F.ext (Ext.iT X) (W.pZ F.S X);refine di (wpAny_assign_Name (m.store i (T.mono λb o Z e=>X b o e) rfl λf t2 V j N=>?_));have G:∀b o,b∉bad->h₁.get? b=some o->f.get? b=some o:=λb o hb c=>j b o (λq=>hb (m.tos7.nU q)) c;refine di (wpAny_assign_Name (V.store J ((S.mono λb o Z e=>X b o e).mono G) rfl λL z U H M=>?_));refine assignInOrder_nil (k L z U (λb o hb c=>?_) λb hb=>?_)
  ·refine H b o (λq=>hb ?_) (j b o (λq=>hb ?_) (X b o c))
   ·revert q;refine yO (λq=>?_) (λq=>?_)
    ·exact .inl q
    ·exact .inr ⟨y,.tail _ (.head _),q⟩
   ·revert q;refine yO (λq=>?_) (λq=>?_)
    ·exact .inl q
    ·exact .inr ⟨x,.head _,q⟩
  ·refine yE (λo c=>?_) (bz.mp hb)
   exact M b (N b (by rw[X b o c];rfl))
end
section
variable (prog:Program)(w:World)
inductive rJ (bad:List Addr)(h:Heap):Bool->List Addr->Value->List D->Prop
 |lst {I l:Addr}{i:Nat}{items:Array Value}{ds:List D}:h.IsListIter I l i->l∉bad->h.IsList l items->fB prog w bad h (items.toList.drop i) ds->rJ bad h false [I] (.ref I) ds
 |rng {I:Addr}{a:Int}{k:Nat}:IsRangeIter h I a k 1->rJ bad h false [I] (.ref I) ((List.range k).map λ(i:Nat)=>.int (a+i))
 |str {I:Addr}{x:Str}{ty:String}{t:Tok}{i:Nat}:ty="str_ascii_iterator"\/ty="str_iterator"->h.IsStrIter I ty x t i->i<=x.cps.size->
  rJ bad h false [I] (.ref I) ((x.cps.toList.drop i).map λc=>.str ⟨#[c]⟩)
 |zip {z TI TO i1 i2 l1 l2:Addr}{k:Nat}{xs ys:Array Value}{ds es:List D}:ZipApart z TI TO i1 i2 l1 l2->IsZip h z TI TO .none->IsPair h TI (.ref i1) (.ref i2)->(∃a b,IsPair h TO a b)->
  h.IsListIter i1 l1 k->h.IsListIter i2 l2 k->h.IsList l1 xs->h.IsList l2 ys->TI∉bad->l1∉bad->l2∉bad->fB prog w bad h (xs.toList.drop k) ds->fB prog w bad h (ys.toList.drop k) es->
  rJ bad h true [z,TO,i1,i2] (.ref z) ((ds.zip es).map λp=>.tuple [p.1,p.2])
structure Iter (bad:List Addr)(h:Heap)(zp:Bool)(m:List Addr)(it:Value)(ds:List D):Prop where
 lo:∀b∈m,b∈bad/\412<=b/\jd h b
 core:rJ prog w bad h zp m it ds
end
section
variable {A:Around}{ε:Env}{bad bad':List Addr}{s:Shared}{σ:Sg}{E:VP}{h h':Heap}{zp:Bool}{m:List Addr}{it:Value}{ds:List D}
theorem Iter.mono (T:Iter prog w bad h zp m it ds)(k:∀b o,(b∉bad\/b∈m)->h.get? b=some o->h'.get? b=some o):Iter prog w bad h' zp m it ds where
 lo:=λb d=>by refine uA (λp q r=>?_) (T.lo b d);exact⟨p,q,r.keep λo x=>k b o (.inr d) x⟩
 core:=by
  have c:=T.core;clear T
  induction c using rJ.casesOn with
  |lst g hl t v=>exact .lst (g.at λo e=>k _ o (.inr (.head _)) e) hl (t.at λo e=>k _ o (.inl hl) e) (v.mono λb o d e=>k b o (.inl d) e)
  |rng g=>exact .rng (k _ _ (.inr (.head _)) g)
  |str F G g=>exact .str F (let ⟨o,x,q⟩:=G;⟨o,k _ o (.inr (.head _)) x,q⟩) g
  |zip D C u f I H l j B z y v i=>
   revert f;refine Az λa b f=>?_;exact .zip D (k _ _ (.inr (by simp)) C) (k _ _ (.inl B) u) ⟨a,b,k _ _ (.inr (by simp)) f⟩ (I.at λo e=>k _ o (.inr (by simp)) e) (H.at λo e=>k _ o (.inr (by simp)) e)
    (l.at λo e=>k _ o (.inl z) e) (j.at λo e=>k _ o (.inl y) e) B z y (v.mono λb o d e=>k b o (.inl d) e) (i.mono λb o d e=>k b o (.inl d) e)
theorem Iter.less (T:Iter prog w bad h zp m it ds)(k:∀b,b∈bad'->b∈bad\/h.get? b=none)(z:∀b∈m,b∈bad'):Iter prog w bad' h zp m it ds where
 lo:=λb u=>⟨z b u,(T.lo b u).2⟩
 core:=by
  have c:=T.core;clear T
  induction c using rJ.casesOn with
  |lst j hl f t=>exact .lst j (λq=>(k _ q).elim hl λe=>by((revert f;refine cW λo i Z=>?_);exact(nomatch e.symm.trans i))) f (t.less k)
  |rng j=>exact .rng j
  |str C F j=>exact .str C F j
  |zip D B g p H G d a y x v t l=>
   exact .zip D B g p H G d a (λq=>(k _ q).elim y λe=>(nomatch e.symm.trans g)) (λq=>(k _ q).elim x λe=>by((revert d;refine cW λo i Z=>?_);exact(nomatch e.symm.trans i)))
    (λq=>(k _ q).elim v λe=>by((revert a;refine cW λo i Z=>?_);exact(nomatch e.symm.trans i))) (t.less k) (l.less k)
theorem Hp {x:Str}{p:Pos}{it v:Value}{Q:Unit->Shared->Prop}(q:Q () s):wpAny (model prog w) A (letOwnedTupleGo (.Name x p) it v) Q E s:=aB q
theorem t8 {t:Expr}{it v:Value}{Q:Unit->Shared->Prop}(b:∀a,v≠.ref a)(q:Q () s):wpAny (model prog w) A (letOwnedTupleGo t it v) Q E s:=by
 induction t using Expr.casesOn<;>first|exact aB q|(induction it using Value.casesOn<;>induction v using Value.casesOn<;>first|exact aB q|exact absurd rfl (b _))
theorem fB.JN {items:Array Value}{i:Nat}{d:D}(b:fB prog w bad h (items.toList.drop i) (d::ds)):∃x,items[i]? =some x/\i<items.size/\RD prog w bad h x d/\fB prog w bad h (items.toList.drop (i+1)) ds:=by
 have a:i<items.size:=by
  refine aC (Nat.lt_or_ge i items.size) (λq=>?_) (λq=>?_)
  ·exact q
  ·rw[List.drop_of_length_le (by simpa using q)]at b;exact b.nilN
 rw[cG (by simpa using a)]at b;exact⟨_,by simp[a],a,b.head,b.tail⟩
noncomputable def Turn (prog:Program)(w:World)(A:Around)(t:Expr)(it:Value)(Q:VP)(E:VP)(s:Shared):Prop:=
 wpAny (model prog w) A (pyNext it) (λr s₁=>∃v,r=some v/\wpAny (model prog w) A (letOwnedTupleGo t it v) (λZ s2=>Q v s2) E s₁) E s
theorem Iter.step {d:D}{σ':Sg}(T:Iter prog w bad s.heap zp m it (d::ds))(hS:W.S s.heap){t:Expr}(hb:gq t d σ=some σ')(hz:zp=true->(targetsOf t).length=2)
 {Q:VP}(k:∀v h' tk,RD prog w bad h' v d->Iter prog w bad h' zp m it ds->W.S h'->(∀b o,b∉m->s.heap.get? b=some o->h'.get? b=some o)->(∀b,jd s.heap b->jd h' b)->Q v (zs s h' tk))(hh:A.handled=none)(nb:∀{b},s.heap.get? b=none->b∉bad):
 Turn prog w A t it Q E s:=by
 obtain⟨lo,c⟩:=T;have alive:∀{h':Heap},(∀b o,b∉m->s.heap.get? b=some o->h'.get? b=some o)->(∀b∈m,jd h' b)->(∀b,jd s.heap b->jd h' b):=λhk C b hb=>by
  by_cases e:b∈m
  ·exact C b e
  ·exact hb.keep λo ho=>hk b o e ho
 have K:∀{h':Heap},(∀b o,b∉m->s.heap.get? b=some o->h'.get? b=some o)->W.S h':=λhk=>W.low hS λb o hb ho=>hk b o (λq=>by refine Dh (λZ h4 o' ho' hn=>?_) (lo b q);have ρ:=aH (ho.symm.trans ho');subst ρ;exact hb.elim (λq=>absurd q (bc.mpr h4)) hn) ho
 have L:∀{h':Heap},(∀b∈m,jd h' b)->∀b∈m,b∈bad/\412<=b/\jd h' b:=λC b hb=>⟨(lo b hb).1,(lo b hb).2.1,C b hb⟩;unfold Turn;generalize g:d::ds=dd at c
 induction c using rJ.casesOn with
 |@lst I l i f _ hi hl hit N=>
  subst g;have hIl:l≠I:=λe=>hl (e▸(lo I (.head _)).1);have O:∃x,f[i]? =some x:=by
   induction e:f[i]? using aK with
   |some x=>exact⟨x,rfl⟩
   |none=>
    have:f.toList.drop i=[]:=List.drop_of_length_le (by simpa using Array.getElem?_eq_none_iff.mp e);rw[this]at N;exact N.nilN
  revert O;refine yE λx O=>?_;have F:i<f.size:=by
   refine aC (Nat.lt_or_ge i f.size) (λq=>?_) (λq=>?_)
   ·exact q
   ·rw[dM q]at O;exact nn O
  have hd:f.toList.drop i=x::f.toList.drop (i+1):=by
   have hx':f[i]=x:=by rw[Array.getElem?_eq_getElem F]at O;exact aH O
   rw[cG (by simpa using F)];simp[hx']
  rw[hd]at N;have R:=N.head;have N:=N.tail;refine wpAny_pyNext_list_item hi hit O λh' u M=>⟨x,rfl,?_⟩;have hk:∀b o,b∉[I]->s.heap.get? b=some o->h'.get? b=some o:=oneK M;have C:∀b∈[I],jd h' b:=oneL (yo u rfl);have J:∀b o,b∉bad->s.heap.get? b=some o->h'.get? b=some o:=λb o hb e=>hk b o (λq=>hb (lo b q).1) e;have H:=k x h' s.toks (R.mono J) ⟨L C,.lst u hl (hit.at λo e=>J l o hl e) (N.mono J)⟩ (K hk) hk (alive hk C);clear lo alive K L hk C J k hz N R hd O F;refine JT hb (λy p=>Hp H) λelts q p=>?_;revert H;refine refD (x:=x) (λa H=>?_) λn H=>?_
  ·exact wpAny_letOwnedTupleGo_listiter u H
  ·exact t8 n H
 |@rng I a Y hi=>
  induction Y using Nat.casesAuxOn with
  |zero=>simp at g
  |succ Y=>
   rw[List.range_succ_eq_map,aX,aV]at g;injection g with h1 h2;subst h1 h2;refine wpAny_pyNext_range_item hi (by simp) λh' u M=>⟨_,rfl,?_⟩;have hk:∀b o,b∉[I]->s.heap.get? b=some o->h'.get? b=some o:=oneK M;have C:∀b∈[I],jd h' b:=oneL ⟨_,u,Hi rfl rfl⟩;refine t8 (λa e=>nomatch e) (k _ h' _ (by simpa using RD.int a s.toks) ⟨L C,?_⟩ (K hk) hk (alive hk C));have e:(((Y+1:Nat):Int) - 1)=(Y:Int):=by simp
   rw[e]at u;have:=rJ.rng (prog:=prog) (w:=w) (bad:=bad) u;have e2:((List.range Y).map λ(i:Nat)=>D.int (a+1+i))=(List.range Y).map ((λ(i:Nat)=>D.int (a+i))∘Nat.succ):=by apply cj;intro j Z;exact bD D.int (by rw[Int.add_assoc,Int.add_comm 1];rfl)
   rw[e2]at this;exact this
 |@str I x ty tt i hw hs hi=>
  have F:i<x.cps.size:=by
   refine aC (Nat.lt_or_ge i x.cps.size) (λq=>?_) (λq=>?_)
   ·exact q
   ·rw[List.drop_of_length_le (by simpa using q)]at g;nomatch g
  rw[cG (by simpa using F),aX]at g;injection g with h1 h2;subst h1 h2;have S:x.cps[i]? =some x.cps.toList[i]:=by simp[F]
  have go:∀h',h'.IsStrIter I ty x tt (i+1)->Heap.SameBut I s.heap h'->∃v,some (Value.str ⟨#[x.cps.toList[i]]⟩ s.toks)=some v/\
   wpAny (model prog w) A (letOwnedTupleGo t (.ref I) v) (λZ s2=>Q v s2) E (zs s h' (s.toks+1)):=λh' u M=>by
   have hk:∀b o,b∉[I]->s.heap.get? b=some o->h'.get? b=some o:=oneK M;have C:∀b∈[I],jd h' b:=oneL (hw.elim (λe=>by subst e;exact yo u rfl) λe=>by subst e;exact yo u rfl);exact⟨_,rfl,t8 (λa e=>nomatch e) (k _ h' _ (.str _ _) ⟨L C,.str hw u F⟩ (K hk) hk (alive hk C))⟩
  rcases hw with rfl|rfl
  ·exact wpAny_pyNext_ascii_item hs S go
  ·exact wpAny_pyNext_wide_item hs S go
 |@zip z TI TO i1 i2 l1 l2 Y xs ys as bs D hz' hTI X h1 h2 hl1 hl2 n0 n1 n2 N rs'=>
  induction as using gY with
  |nil=>simp at g
  |cons d1 ds1=>
  induction bs using gY with
  |nil=>simp at g
  |cons e1 es1=>
  rw[cI,aX]at g;injection g with q1 q2;subst q1 q2;refine xN (λx O hx' R1 rs1=>?_) N.JN;refine xN (λy hy hy' R2 rs2=>?_) rs'.JN;revert X;refine Az λa b X=>?_;refine wpAny_pyNext_zip_item D hz' hTI X h1 h2 hl1 hl2 O hy λh' a1 a2 a3 a4 a5 a6 hk=>⟨_,rfl,?_⟩;have lt:∀{c o},s.heap.get? c=some o->s.heap.objs.size≠c:=λe=>eO (aZ e);refine JT (P:=λt=>(true=true->(targetsOf t).length=2)->wpAny (model prog w) A (letOwnedTupleGo t (.ref z) _) (λZ s2=>Q _ s2) E _) hb (λy p hz=>nomatch (show 1=2 from hz rfl)) (λelts q p Z=>?_) hz;clear hz hb;refine wpAny_letOwnedTupleGo_zip a1 λG V B=>?_;have hk1:∀b o,b∉[z,TO,i1,i2]->s.heap.get? b=some o->h'.get? b=some o:=λc o S e=>hk c o (λx=>S (by simp[x])) (λx=>S (by simp[x])) (λx=>S (by simp[x])) (λx=>S (by simp[x])) e;have U:∀b o,b∉[z,TO,i1,i2]->s.heap.get? b=some o->G.get? b=some o:=λc o S e=>B.extBut _ _ (λx=>S (by simp[x])) (hk1 c o S e);have i1z:i1≠z:=D.i1z;have i2z:i2≠z:=D.i2z;have TOz:TO≠z:=D.TOz;have g1:=a3.extBut B.extBut i1z;have g2:=a4.extBut B.extBut i2z;have g3:IsPair G TO x y:=B.extBut _ _ TOz a2;have C:∀b∈[z,TO,i1,i2],jd G b:=λb hb=>by
   simp at hb;rcases hb with rfl|rfl|rfl|rfl
   ·exact⟨_,V,Hi rfl rfl⟩
   ·exact⟨_,g3,Hi rfl rfl⟩
   ·exact yo g1 rfl
   ·exact yo g2 rfl
  have J:∀b o,b∉bad->s.heap.get? b=some o->G.get? b=some o:=λb o hb e=>U b o (λq=>hb (lo b q).1) e;have hT:IsPair G s.heap.objs.size x y:=B.extBut _ _ (lt hz') a5;have fresh:s.heap.objs.size∉bad:=λq=>nb (by rw[Wd.jT]) q;refine k _ G s.toks (.tuple fresh ⟨_,hT,rfl,_,rfl⟩ (.cons (R1.mono J) (.cons (R2.mono J) .nil))) ⟨L C,?_⟩ (K U) U (alive U C);exact .zip D V (J _ _ n0 hTI) ⟨x,y,g3⟩ g1 g2 (hl1.at λo e=>J _ o n1 e) (hl2.at λo e=>J _ o n2 e) n0 n1 n2 (rs1.mono J) (rs2.mono J)
end
section
variable {A:Around}{ε:Env}{bad bad' m:List Addr}{s:Shared}{σ:Sg}{E:VP}{h h':Heap}{zp:Bool}{it:Value}{ds:List D}
theorem Iter.done (T:Iter prog w bad s.heap zp m it [])(F:A.handled=none){Q:Option Value->Shared->Prop}(k:∀h' tk,(∀b o,b∉m->s.heap.get? b=some o->h'.get? b=some o)->Q none (zs s h' tk)):
 wpAny (model prog w) A (pyNext it) Q E s:=by
 obtain⟨lo,c⟩:=T;generalize g:([]:List D)=dd at c
 induction c using rJ.casesOn with
 |@lst I l i f _ H hl P v=>
  subst g;have G:f[i]? =none:=by
   induction e:f[i]? using aK with
   |none=>rfl
   |some x=>
    have M:i<f.size:=by
     refine aC (Nat.lt_or_ge i f.size) (λq=>?_) (λq=>?_)
     ·exact q
     ·rw[dM q]at e;exact nn e
    rw[cG (by simpa using M)]at v;exact v.Za
  exact wpAny_pyNext_list_end F H P G λh' y=>k h' s.toks λb o B e=>y b o (λq=>B (q▸.head _)) e
 |@rng I a t H=>
  induction t using Nat.casesAuxOn with
  |zero=>exact wpAny_pyNext_range_end F H (by exact Int.natCast_nonneg _) λh' y=>k h' s.toks λb o B e=>y b o (λq=>B (q▸.head _)) e
  |succ t=>rw[List.range_succ_eq_map]at g;nomatch g
 |@str I x ty tt i X S H=>
  have G:x.cps[i]? =none:=by
   refine aC (Nat.lt_or_ge i x.cps.size) (λq=>?_) (λq=>?_)
   ·rw[cG (by simpa using q)]at g;nomatch g
   ·exact dM q
  rcases X with rfl|rfl
  ·exact wpAny_pyNext_ascii_end F S G λh' y=>k h' s.toks λb o B e=>y b o (λq=>B (q▸.head _)) e
  ·exact wpAny_pyNext_wide_end F S G λh' y=>k h' s.toks λb o B e=>y b o (λq=>B (q▸.head _)) e
 |@zip z TI TO i1 i2 l1 l2 t V U as bs D L R u Z Y O N n0 n1 n2 v K=>
  revert u;refine Az λa b u=>?_;have j:∀{p:Array Value},fB prog w bad s.heap (p.toList.drop t) []->p[t]? =none:=λ{p} v=>by
   refine aC (Nat.lt_or_ge t p.size) (λq=>?_) (λq=>?_)
   ·rw[cG (by simpa using q)]at v;exact v.Za
   ·exact dM q
  have C:V[t]? =none\/U[t]? =none:=by
   induction as using gY with
   |nil=>exact .inl (j v)
   |cons d ds=>
    induction bs using gY with
    |nil=>exact .inr (j K)
    |cons e es=>simp at g
  exact wpAny_pyNext_zip_end F D L R u Z Y O N C λh' hk=>k h' s.toks λc o J e=>hk c o (λx=>J (by simp[x])) (λx=>J (by simp[x])) (λx=>J (by simp[x])) (λx=>J (by simp[x])) e
theorem Iter.self (T:Iter prog w bad s.heap zp m it ds){Q:VP}(q:Q it s):wpAny (model prog w) A (pyIter it) Q E s:=by
 have c:=T.core;clear T
 induction c using rJ.casesOn with
 |lst a hl i l=>exact wpAny_pyIter_listiter a q
 |rng a=>exact wpAny_pyIter_rangeiter a q
 |str o d a=>
  rcases o with rfl|rfl
  ·exact wpAny_pyIter_striter_ascii d q
  ·exact wpAny_pyIter_striter_wide d q
 |zip D b k j x v g f u t p l e=>exact wpAny_pyIter_zip b q
theorem Fi (F:gw W ε bad σ s.heap){x:Str}{p:Pos}{v:Value}{Q:VP}(a:σ.lookup x=some .glob)(b:W.mg x=none)(hb:W.mb x=some v)(hd:(x==("__debug__":Str))=false)(q:Q v s):
 wpAny (model prog w) A (eval (.Name x p) ε) Q E s:=by
 refine wpAny_Name ?_ hd;refine aC (F.env x .glob a) (yA λZ hk=>?_) (cW λu B R=>?_)
 ·rw[loadName_read F.kind hk]
  unfold loadGlobal;rw[F.glob,F.blt];refine aj (wpAny_nsGet (W.g F.S) ?_);rw[b];refine aj (wpAny_nsGet (W.b F.S) ?_);rw[hb];exact aB q
 ·exact R.Hj
theorem JL (F:gw W ε bad σ s.heap){x:Str}{p:Pos}{v:Value}{Q:VP}(a:σ.lookup x=some .glob)(b:W.mg x=some v)(hd:(x==("__debug__":Str))=false)(q:Q v s):
 wpAny (model prog w) A (eval (.Name x p) ε) Q E s:=by
 refine wpAny_Name ?_ hd;refine aC (F.env x .glob a) (yA λZ hk=>?_) (cW λu B R=>?_)
 ·rw[loadName_read F.kind hk]
  unfold loadGlobal;rw[F.glob];refine aj (wpAny_nsGet (W.g F.S) ?_);rw[b];exact aB q
 ·exact R.Hj
theorem cL.iR (H:cL W fA n r){pos:Pos}:∀{es:List Expr}{ds:List D},eX r σ es=some ds->(backTo pos (starEach es ε)).any (·.1)=false
 |[],_,_=>rfl
 |e::es,ds,h=>by refine fW (λd a c h' b=>?_) (iK h);subst b;rw[H.notStar c es];show(false||(backTo pos (starEach es ε)).any (·.1))=false;rw[H.iR h'];rfl
noncomputable def Made (W:Wd prog w gD)(s:Shared)(bad:List Addr)(zp:Bool)(ds:List D)(Q:VP):Prop:=
 ∀it h' tk m,Iter prog w (m++bad) h' zp m it ds->(∀b∈m,s.heap.get? b=none)->Ext s.heap h'->W.S h'->Q it (zs s h' tk)
theorem QQ (F:s7 W ε bad s.heap){v:Value}{d:D}{Q:VP}(e:pR d=some ds)(R:RD prog w bad s.heap v d)(k:Made W s bad false ds Q):
 wpAny (model prog w) A (pyIter v) Q E s:=by
 have fresh:∀{o:Obj},o.cls≠.type "code"->(s.heap.push o).get? s.heap.objs.size=some o->∀b∈[s.heap.objs.size],b∈[s.heap.objs.size]++bad/\412<=b/\jd (s.heap.push o) b:=λK p b g=>by
  have:b=s.heap.objs.size:=by simpa using g
  subst this;exact⟨by simp,W.size F.S,_,p,uP K⟩
 have f:∀b∈[s.heap.objs.size],s.heap.get? b=none:=λb g=>by
  have:b=s.heap.objs.size:=by simpa using g
  subst this;exact Wd.jT
 have ext:∀(o:Obj),Ext s.heap (s.heap.push o):=λo=>(Ext.refl _).push o;have less:∀b,b∈[s.heap.objs.size]++bad->b∈bad\/s.heap.get? b=none:=λb g=>by
  refine aC (bj.mp g) (λq=>?_) (λq=>?_)
  ·exact .inr (f b q)
  ·exact .inl q
 revert R k;refine sW e (λe=>lz cH e λN e=>someE e λR k=>?_) λe=>sW e (λe=>Y7 cH e λlo B e=>j9 e λC e=>someE e λR k=>R.E λa t u v g J=>?_) λe=>rz cH e λx e=>someE e λR k=>R.pA λt=>?_
 ·refine R.listE λl y g hl I O=>?_
  refine wpAny_pyIter_list hl (k _ _ s.toks _ ⟨fresh (neT rfl) (aL _ rfl),?_⟩ f (ext _) (W.pushS F.S _));refine .lst (i:=0) ⟨_,aL _ rfl,rfl,rfl⟩ (λq=>?_) (hl.push _) ?_
  ·revert hl;refine cW λo p Z=>?_
   refine aC (less l q) (λq=>?_) (λq=>?_)
   ·exact g q
   ·rw[q]at p;exact nn p
  ·rw[List.drop_zero]
   exact(I.less less).mono λb o Z e=>aP _ e
 ··have M:=C.1
   have L:=C.2;simp only[gC,decide_eq_true_eq]at M L;have j:Builtin.Range.rangeSize lo B 1=((B - lo).toNat:Int):=by unfold Builtin.Range.rangeSize;rw[ao (by decide)];split<;>lia
   have z:Builtin.Range.small lo B 1=true:=by unfold Builtin.Range.small;rw[j];simp[Builtin.Range.rangeFitsLong];omega
   refine wpAny_pyIter_range J z (k _ _ s.toks _ ⟨fresh (neT rfl) (aL _ rfl),?_⟩ f (ext _) (W.pushS F.S _));rw[j];exact .rng (aL _ rfl)
 ·have G:(x.cps.toList.map λc=>D.str ⟨#[c]⟩)=((x.cps.toList.drop 0).map λc=>D.str ⟨#[c]⟩):=by rw[List.drop_zero]
  induction H:x.cps.all (· <128)using fu
  ·refine wpAny_pyIter_wide H (k _ _ s.toks _ ⟨fresh (neT rfl) (aL _ rfl),?_⟩ f (ext _) (W.pushS F.S _))
   rw[G];exact .str (.inr rfl) ⟨_,aL _ rfl,rfl,rfl⟩ (b7 _)
  ·refine wpAny_pyIter_ascii H (k _ _ s.toks _ ⟨fresh (neT rfl) (aL _ rfl),?_⟩ f (ext _) (W.pushS F.S _))
   rw[G];exact .str (.inl rfl) ⟨_,aL _ rfl,rfl,rfl⟩ (b7 _)
theorem QM (F:s7 W ε bad s.heap){v K:Value}{d d':D}{Q:VP}(e:Nb d d'=some ds)(R:RD prog w bad s.heap v d)(J:RD prog w bad s.heap K d')(k:Made W s bad true ds Q):
 wpAny (model prog w) A (call (.type "zip") [v,K]) (λx s₁=>wpAny (model prog w) A (pyIter x) Q E s₁) E s:=by
 revert R J k;refine lz cH e λV e=>lz cH e λbs e=>someE e λR J k=>?_
 ·refine R.listE λl1 U G f z P=>?_
  refine J.listE λl2 T C c y O=>?_;have N:l1<s.heap.objs.size:=by(revert f;refine cW λo t Z=>?_);exact aZ t
  have M:l2<s.heap.objs.size:=by(revert c;refine cW λo t Z=>?_);exact aZ t
  refine call_zip_2 f c λh' I H p j i S hk=>?_;refine wpAny_pyIter_zip (s:={s with heap:=h'}) I ?_;have u:∀{b},b∈[s.heap.objs.size+4,s.heap.objs.size+3,s.heap.objs.size,s.heap.objs.size+1]->s.heap.objs.size<=b:=λa=>by
   simp at a
   lia
  have g:∀{b},s.heap.objs.size<=b->s.heap.get? b=none:=λa=>by
   induction e:s.heap.get? _ using aK with
   |none=>rfl
   |some o=>exact absurd (aZ e) (bc.mpr a)
  have less:∀b,b∈[s.heap.objs.size+4,s.heap.objs.size+3,s.heap.objs.size,s.heap.objs.size+1]++bad->b∈bad\/s.heap.get? b=none:=λb a=>by
   refine aC (bj.mp a) (λq=>?_) (λq=>?_)
   ·exact .inr (g (u q))
   ·exact .inl q
  have L:∀{l},l<s.heap.objs.size->l∉bad->l∉[s.heap.objs.size+4,s.heap.objs.size+3,s.heap.objs.size,s.heap.objs.size+1]++bad:=λhl a q=>by
   refine aC (bj.mp q) (λq=>?_) (λq=>?_)
   ·exact absurd hl (bc.mpr (u q))
   ·exact a q
  have B:∀{b},b∈bad->b<s.heap.objs.size:=λa=>by refine yE (λo t=>?_) (bz.mp (F.old _ a).1.alive);exact aZ t
  refine k _ h' s.toks [s.heap.objs.size+4,s.heap.objs.size+3,s.heap.objs.size,s.heap.objs.size+1] ⟨λb a=>⟨bK _ a,?_,?_⟩,?_⟩ (λb a=>g (u a)) (Ext.iT hk) (W.pZ F.S hk)
  ·exact aA (W.size F.S) (u a)
  ·simp at a
   rcases a with rfl|rfl|rfl|rfl
   ·exact⟨_,I,uP (neT rfl)⟩
   ·exact⟨_,p,uP (neT rfl)⟩
   ·exact yo j rfl
   ·exact yo i rfl
  ·refine .zip (k:=0) (zipApart_new N M) I H ⟨_,_,p⟩ j i (f.at λo e=>hk _ o e) (c.at λo e=>hk _ o e) (λq=>?_) (L N G) (L M C) ?_ ?_
   ·refine aC (bj.mp q) (λq=>?_) (λq=>?_)
    ·simp at q
    ·exact absurd (show s.heap.objs.size+2<s.heap.objs.size from B q) (by lia)
   ·rw[List.drop_zero]
    exact(z.less less).mono λb o Z e=>hk b o e
   ·rw[List.drop_zero]
    exact(y.less less).mono λb o Z e=>hk b o e
theorem qX {o:Option D}(h:vZ o=true):o=some .glob:=by
 induction o using aK with
 |none=>nomatch h
 |some d=>induction d using D.casesOn<;>first|rfl|exact nomatch h
theorem De:(Str.ofString "zip" ==("__debug__":Str))=false:=by decide+kernel
theorem BP (H:cL W fA n r)(K:Hk W fA)(R:fj n A)(F:gw W ε bad σ s.heap){e:Expr}{Q:VP}(g:gH r σ e=some ds)(k:∀zp,(zp=true->uU e=true)->Made W s bad zp ds Q):
 wpAny (model prog w) A (eval e ε) (λx s₁=>wpAny (model prog w) A (pyIter x) Q E s₁) E s:=by
 have B:∀{c h':Heap} {zp m it},Ext s.heap c->Iter prog w (m++bad) h' zp m it ds->(∀b∈m,c.get? b=none)->∀b∈m,s.heap.get? b=none:=λz T t b C=>by
  induction e:s.heap.get? b using aK with
  |none=>rfl
  |some o=>
   have L:=(T.lo b C).2.1;have:=z b o (λq=>absurd (kj _ q) (bc.mpr L)) e;rw[t b C]at this;exact nn this
 have plain:(r.ev σ e).bind pR=some ds->wpAny (model prog w) A (eval e ε) (λx s₁=>wpAny (model prog w) A (pyIter x) Q E s₁) E s:=λg=>by
  induction J:r.ev σ e using aK with
  |none=>rw[J]at g;exact nn g
  |some d=>
   rw[J]at g;refine H.ev J R F λv c j N z l=>?_;refine QQ (s:=(zs s c j)) (F.ext z l).tos7 g N λit h' tk m T t X S=>?_;exact k false (λq=>nomatch q) it h' tk m T (B z T t) (z.trans X) S
 refine cdT (show cond (xf e σ) _ _=some ds from g) (λi g=>?_) λg=>plain g;clear plain;revert g k;refine jY nb i λf as ks p i=>pH nb i λa b i=>lV nb i λi=>jw nb i λx Y i k g=>?_;have g:(oS none (r.ev σ a) λx=>oS none (r.ev σ b) λy=>Nb x y)=some ds:=g;refine gQ g λda G g=>gQ g λU M J=>?_;clear g;have i:=az.mp i;have O:x=Str.ofString "zip":=eq_of_beq i.1;subst O;refine yA (λP C=>?_) (K.bi (Str.ofString "zip",.type "zip") (by simp[ie]));refine Call_ (Fi F (qX i.2) P C De ?_);have I:eX r σ [b]=some [U]:=nj M rfl;refine PyProof.Rows.callWith_type1 (H.all R (nj G I) F λV c j N z l=>N.Kc λv u r1 r2=>?_) (H.notStar G _) (H.iR I);refine QM (s:=(zs s c j)) (F.ext z l).tos7 J r1 r2 λit h' tk m T t X S=>?_;exact k true (λZ=>⋯) it h' tk m T (λb C=>B z T t b C) (z.trans X) S
noncomputable def xg (ifs:List Expr)(ε:Env):Sem Bool:=forIn ifs true λc r=>if r=true then do let ok<-isTrue c ε (eval c ε);pure (ForInStep.yield ok)else pure (ForInStep.yield r)
theorem Dp {ifs:List Expr}{Q:Bool->Shared->Prop}(q:Q false s):wpAny (model prog w) A (forIn ifs false λc r=>if r=true then do let ok<-isTrue c ε (eval c ε);pure (ForInStep.yield ok)else pure (ForInStep.yield r)) Q E s:=by
 induction ifs with
 |nil=>exact aB q
 |cons c b a=>
  rw[List.forIn_cons];exact aj (aB a)
theorem Nz (H:cL W fA n r)(R:fj n A){ifs:List Expr}{b:Bool}{s:Shared}{Q:Bool->Shared->Prop}(e:iB r σ ifs=some b)(F:gw W ε bad σ s.heap)(G:my W s b Q):wpAny (model prog w) A (xg ifs ε) Q E s:=by
 induction ifs generalizing s with
 |nil=>
  revert G;exact someE e λG=>aB (G s.heap s.toks (Ext.refl _) F.S)
 |cons c k i=>
  unfold xg;rw[List.forIn_cons];refine gQ e λv j e=>aj (aj (H.tst j R F λg f d a=>aB ?_))
  induction v using fu with
  |true=>exact i e (F.ext d a) (G.after d)
  |false=>
   revert G;exact someE e λG=>Dp (G _ _ d a)
structure Parts (prog:Program)(w:World)(e:Expr)(acc:Value)(env:Env)(gens:List Comprehension)(em:Sem Unit):Prop where
 cl:clausesOf e=gens
 under:∀(A:Around) k it,A.under (.compLoop e k it acc env)=A
 underS:∀(A:Around) k it,A.under (.compStart e k it acc env)=A
 quiet:∀k it,(Code.compLoop e k it acc env).quiet=true
 den:∀k it,(model prog w).den (.compLoop e k it acc env)=(compTurn e k it acc env).onRaise (λx=>do noteFrame x env;theTreesLotGoes x)
 denS:∀k it,(model prog w).den (.compStart e k it acc env)=(compStart e k it acc env).onRaise (λx=>do noteFrame x env;standAt theWindowsPlace)
 turn:∀k it,compTurn e k it acc env=(do
  let some g:=gens[k]? |unsupported "internal:comprehension-depth"
  standAt (if g.is_async !=0 then e.pos else g.iter.pos)
  match<-if g.is_async !=0 then asyncNext it else pyNext it with
  |none=>pure (.done .next)
  |some v=>
   letOwnedTupleGo g.target it v
   assign g.target env v
   let mut ok:=true
   for c in g.ifs do
    if ok then ok<-isTrue c env (eval c env)
   if ok then
    match gens[k+1]? with
    |some g'=>
     let x<-eval g'.iter env
     standAt g'.iter.pos
     let x<-if g'.is_async !=0 then foldedIterable g'.iter x else foldedSetIterable g'.iter env x
     let _<-runOwn (.compStart e (k+1) (<-holding [x] (if g'.is_async !=0 then asyncIter x else pyIter x)) acc env) env
    |none=>em
   again (.compLoop e k it acc env))
theorem t7 (b:Expr)(a:List Comprehension)(sc:Scope)(pos:Pos)(acc:Value)(env:Env):
 Parts prog w (.ListComp b a sc pos) acc env a (do let _<-call (.builtin "list.append") [acc,<-eval b env]):=⟨rfl,λZ Z Z=>rfl,λZ Z Z=>rfl,λZ Z=>rfl,λZ Z=>rfl,λZ Z=>rfl,λZ Z=>rfl⟩
theorem ye (k v:Expr)(a:List Comprehension)(sc:Scope)(pos:Pos)(d:Addr)(env:Env):
 Parts prog w (.DictComp k v a sc pos) (.ref d) env a (do
  let kv<-eval k env
  let b<-holding [kv] (eval v env)
  standAt {k.pos with endLine:=v.pos.endLine,endCol:=v.pos.endCol}
  holding [kv,b] (dictSet d kv b)):=⟨rfl,λZ Z Z=>rfl,λZ Z Z=>rfl,λZ Z=>rfl,λZ Z=>rfl,λZ Z=>rfl,λZ Z=>rfl⟩
theorem Np {e:Expr}{acc:Value}{a:List Comprehension}{em:Sem Unit}(q:Parts prog w e acc ε a em){k:Nat}{g:Comprehension}(u:a[k]? =some g)(hz:g.is_async=0){Q:Fin->Shared->Prop}
 (t:wpAny (model prog w) A (pyNext it) (λr s₁=>match r with
  |none=>Q (.done .next) s₁
  |some v=>wpAny (model prog w) A (letOwnedTupleGo g.target it v) (λZ s2=>wpAny (model prog w) A (assign g.target ε v) (λZ s3=>wpAny (model prog w) A (xg g.ifs ε) (λok s4=>
   if ok=true then(match a[k+1]? with
    |some l=>l.is_async=0/\wpAny (model prog w) A (eval l.iter ε) (λx c=>wpAny (model prog w) A (foldedSetIterable l.iter ε x) (λy c=>wpAny (model prog w) A (pyIter y) (λi s6=>
     wpAny (model prog w) A (runOwn (.compStart e (k+1) i acc ε) ε) (λZ s7=>Q (.again (.compLoop e k it acc ε)) s7) E s6) E c) E c) E s4
    |none=>wpAny (model prog w) A em (λZ c=>Q (.again (.compLoop e k it acc ε)) c) E s4)
   else Q (.again (.compLoop e k it acc ε)) s4) E s3) E s2) E s₁) E s):
 wpAny (model prog w) A (compTurn e k it acc ε) Q E s:=by
 rw[q.turn,u];have o:(g.is_async !=0)=false:=by rw[hz];rfl
 simp only[o,cJ,if_false];refine aj (bR (aj (bC t (λr s₁ b=>?_) λZ Z x=>x)))
 induction r using aK with
 |none=>exact aB b
 |some v=>
  refine aj (bC b (λZ s2 G=>?_) λZ Z x=>x);refine aj (bC G (λZ s3 F=>?_) λZ Z x=>x);refine aj (bC F (λok s4 d=>?_) λZ Z x=>x)
  induction ok using fu with
  |false=>exact aB d
  |true=>
   rw[ao rfl]at d;simp only[if_true]
   induction j:a[k+1]? using aK with
   |none=>
    rw[j]at d;exact aj (bC d (λZ c p=>aB p) λZ Z x=>x)
   |some l=>
    rw[j]at d;have f:(l.is_async !=0)=false:=by rw[d.1];rfl
    simp only[f,cJ,if_false];refine aj (bC d.2 (λx c p=>?_) λZ Z x=>x);refine aj (bR (aj (bC p (λy s6 C=>?_) λZ Z x=>x)));refine aj (bF (bC C (λi s7 B=>?_) λZ Z x=>x));exact aj (bC B (λZ s8 z=>aB z) λZ Z x=>x)
theorem Ds {e:Expr}{acc:Value}{a:List Comprehension}{em:Sem Unit}(b:Parts prog w e acc ε a em){k:Nat}{g:Comprehension}(d:a[k]? =some g)(hz:g.is_async=0){f:Result->Shared->Prop}
 (c:codeAny (model prog w) A (.compLoop e k it acc ε) f s)(hs:∀(Q:VP)(E:VP),Q it s->wpAny (model prog w) A (pyIter it) Q E s):
 codeAny (model prog w) A (.compStart e k it acc ε) f s:=by
 refine codeAny_of_tree ?_;rw[b.underS,b.denS];refine wpAny_notedAt ?_;unfold compStart;have i:((clausesOf e)[k]?).elim false (·.is_async !=0)=false:=by rw[b.cl,d];show(g.is_async !=0)=false;rw[hz];rfl
 rw[i];simp only[cJ,if_false];refine aj (wpAny_askSetting (wpAny_ite ?_));split
 ·first
   |exact aj (aB (aB (And.intro (b.quiet k it) c)))
   |exact aB (And.intro (b.quiet k it) c)
 ·rw[b.cl,d]
  refine aj (wpAny_rule ?_);refine aj (bR ?_);exact aj (hs _ _ (aB (And.intro (b.quiet k it) c)))
theorem pC {b:Addr}(hb:412<=b):b∉Tb:=λq=>absurd (kj _ q) (bc.mpr hb)
theorem s7.keep (F:s7 W ε bad h)(hS:W.S h')(k:∀b o,(b=ε.locals\/∃x,ε.cells.lookup x=some b)->h.get? b=some o->h'.get? b=some o)(p:∀b∈bad,jd h' b):s7 W ε bad h' where
 S:=hS
 kind:=F.kind
 glob:=F.glob
 blt:=F.blt
 ns:=by refine qJ (λm o j l c q=>?_) F.ns;exact⟨m,o,j,l,k _ _ (.inl rfl) c,q⟩
 hi:=F.hi
 lin:=F.lin
 cells:=λx g=>by refine fW (λa v e f r=>cW (λo c i=>?_) f) (F.cells x g);exact⟨a,v,e,⟨o,k _ _ (.inr ⟨x,e⟩) c,i⟩,r⟩
 inj:=F.inj
 cin:=F.cin
 tb:=F.tb
 old:=λb d=>⟨p b d,(F.old b d).2⟩
 mkl:=F.mkl
theorem Bound.keep {x:Str}{v:Value}(B:Bound h ε x v)(k:∀b o,(b=ε.locals\/∃x,ε.cells.lookup x=some b)->h.get? b=some o->h'.get? b=some o):Bound h' ε x v:=by
 revert B;refine yO (nG λc m f e=>qK (λo g i d q=>?_) f) (xO λc a e o d q=>?_)
 ·exact .inl ⟨c,m,⟨o,g,i,k _ _ (.inl rfl) d,q⟩,e⟩
 ·exact .inr ⟨c,a,e,o,k _ _ (.inr ⟨x,e⟩) d,q⟩
theorem gw.keep (F:gw W ε bad σ h)(hS:W.S h')(k:∀b o,(b∉bad\/b=ε.locals\/∃x,ε.cells.lookup x=some b)->h.get? b=some o->h'.get? b=some o)(a:∀b∈bad,jd h' b):gw W ε bad σ h' where
 tos7:=F.tos7.keep hS (λb o q=>k b o (.inr q)) a
 names:=F.names
 env:=λx d e=>by
  refine aC (F.env x d e) (λq=>?_) (cW λv B R=>?_)
  ·exact .inl q
  ·exact .inr ⟨v,B.keep λb o q=>k b o (.inr q),R.mono λb o q=>k b o (.inl q)⟩
theorem gw.but (F:gw W ε bad σ h){a:Addr}(hS:W.S h')(g:a∈bad)(hl:a≠ε.locals)(d:∀y,ε.cells.lookup y≠some a)(k:∀b o,b∉Tb->b≠a->h.get? b=some o->h'.get? b=some o)(j:jd h' a):gw W ε bad σ h':=by
 refine F.keep hS (λb o q c=>?_) λb f=>?_
 ·rcases q with q|rfl|⟨x,e⟩
  ·exact k b o (λt=>q (F.tb b t)) (λe=>q (e▸g)) c
  ·exact k _ o (pC F.hi) (Ne.symm hl) c
  ·exact k _ o (pC (F.cin x b e).2.2) (λi=>d x (i▸e)) c
 ·by_cases e:b=a
  ·subst e;exact j
  ·by_cases t:b∈Tb
   ·exact W.UL hS b t
   ·exact(F.old b f).1.keep λo c=>k b o t e c
theorem gw.drop {x:Str}{d:D}(F:gw W ε bad (σ.add x d) h)(a:σ.lookup x=none):gw W ε bad σ h where
 tos7:=F.tos7
 names:=F.names
 env:=λy b e=>F.env y b (by rw[Sg.gM,aq (λq=>by subst q;rw[a]at e;exact nn e)];exact e)
theorem gw.dropT {t:Expr}{d:D}{σ':Sg}(hb:gq t d σ=some σ')(F:gw W ε bad σ' h)(c:∀x∈targetsOf t,σ.lookup x=none)(hd:(targetsOf t).Nodup):gw W ε bad σ h:=by
 refine sX (P:=λt Z σ'=>gw W ε bad σ' h->(∀x∈targetsOf t,σ.lookup x=none)->(targetsOf t).Nodup->gw W ε bad σ h) ?_ ?_ hb F c hd<;>clear hb F c hd
 ·intro x p d Z F c Z
  exact F.drop (c _ (.head _))
 ·intro x f y e q p d a b Z Z F c hd
  refine(F.drop ?_).drop (c _ (.head _));rw[Sg.gM,aq (λ(q:y=x)=>(List.nodup_cons.mp hd).1 (q▸.head _))];exact c _ (.tail _ (.head _))
theorem gw.more (F:gw W ε bad σ h)(X:Ext h h')(hS:W.S h')(new:∀b∈m,h.get? b=none)(i:∀b∈m,412<=b/\jd h' b):gw W ε (m++bad) σ h':=by
 have g:=F.ext X hS;refine{tos7:=?_,names:=F.names,env:=λx d e=>?_}
 ·exact{S:=hS,kind:=F.kind,glob:=F.glob,blt:=F.blt,ns:=g.ns,hi:=F.hi,lin:=aD _ F.lin
        cells:=λx k=>by refine kh (λa v e c r1 r2=>?_) (g.cells x k);exact⟨a,v,e,c,aD _ r1,r2⟩
        inj:=F.inj,cin:=λx a e=>⟨aD _ (F.cin x a e).1,(F.cin x a e).2⟩
        tb:=λb f=>aD _ (F.tb b f)
        old:=λb f=>by
         refine aC (bj.mp f) (λq=>?_) (λq=>?_)
         ·exact⟨(i b q).2,.inr (i b q).1⟩
         ·exact g.old b q
        mkl:=F.mkl}
 ·refine aC (F.env x d e) (λq=>?_) (cW λv B R=>?_)
  ·exact .inl q
  ·refine .inr ⟨v,B.ext F.hi (λa k e=>F.q8 k e) X,?_⟩
   refine(R.less λb f=>?_).mono (fY (λb f=>aD _ (F.tb b f)) X);refine aC (bj.mp f) (λq=>?_) (λq=>?_)
   ·exact .inr (new b q)
   ·exact .inl q
structure Still (ε:Env)(bad:List Addr):Prop where
 lin:ε.locals∈bad
 cin:∀x a,ε.cells.lookup x=some a->a∈bad
 tb:∀b∈Tb,b∈bad
theorem s7.still (F:s7 W ε bad h):Still ε bad:=⟨F.lin,λx a e=>(F.cin x a e).1,F.tb⟩
theorem gw.fewer (F:gw W ε (m++bad) σ h)(S:Still ε bad)(i:∀b∈m,b∉bad)(k:∀b o,b∉m->h.get? b=some o->h'.get? b=some o)(hS:W.S h'):gw W ε bad σ h':=by
 have g:∀b o,(b=ε.locals\/∃x,ε.cells.lookup x=some b)->h.get? b=some o->h'.get? b=some o:=λb o q c=>by
  refine k b o (λf=>i b f ?_) c;rcases q with rfl|⟨x,e⟩
  ·exact S.lin
  ·exact S.cin x b e
 refine{tos7:=?_,names:=F.names,env:=λx d e=>?_}
 ·exact{S:=hS,kind:=F.kind,glob:=F.glob,blt:=F.blt
        ns:=by refine qJ (λm o u y c q=>?_) F.ns;exact⟨m,o,u,y,g _ _ (.inl rfl) c,q⟩
        hi:=F.hi,lin:=S.lin
        cells:=λx p=>by refine kh (λa v e j Z r=>cW (λo c t=>?_) j) (F.cells x p);exact⟨a,v,e,⟨o,g _ _ (.inr ⟨x,e⟩) c,t⟩,S.cin x a e,r⟩
        inj:=F.inj,cin:=λx a e=>⟨S.cin x a e,(F.cin x a e).2⟩,tb:=S.tb
        old:=λb f=>by refine yA (λq l=>?_) (F.old b (aD _ f));exact⟨q.keep λo c=>k b o (λq=>i b q f) c,l⟩
        mkl:=F.mkl}
 ·refine aC (F.env x d e) (λq=>?_) (cW λv B R=>?_)
  ·exact .inl q
  ·refine .inr ⟨v,B.keep g,?_⟩
   exact(R.mono λb o f c=>k b o (λq=>f (bK _ q)) c).less λb f=>.inl (aD _ f)
end
section
variable {prog:Program}{w:World}{gD:Str->Option D}(W:Wd prog w gD)
structure uv (A:Around)(ε:Env)(a:Addr){β:Type}(emit:Sg->Option β)(em:Sem Unit)(Acc:List Addr->Heap->List β->Prop)(Good:List β->Prop):Prop where
 mono:∀{bad h h' xs},Acc bad h xs->(∀b o,(b∉bad\/b=a)->h.get? b=some o->h'.get? b=some o)->Acc bad h' xs
 less:∀{bad bad' h xs},Acc bad h xs->(∀b∈bad',b∈bad\/h.get? b=none)->Acc bad' h xs
 pre:∀xs ys,Good (xs++ys)->Good xs
 step:∀{bad:List Addr}{σ:Sg}{x:β}{xs:List β}{s:Shared}{Q:Unit->Shared->Prop}{E:VP},emit σ=some x->Good (xs++[x])->gw W ε bad σ s.heap->Acc bad s.heap xs->a∈bad->412<=a->a≠ε.locals->(∀y,ε.cells.lookup y≠some a)->
  (∀h' tk,Acc bad h' (xs++[x])->(∀b o,b∉Tb->b≠a->s.heap.get? b=some o->h'.get? b=some o)->jd h' a->W.S h'->Q () (zs s h' tk))->
  wpAny (model prog w) A em Q E s
end
noncomputable def gK (gs:List Comprehension):List Str:=gs.flatMap λg=>targetsOf g.target
noncomputable def vC (g:Comprehension):Prop:=g.is_async=0/\(uU g.iter=true->(targetsOf g.target).length=2)
section
variable {A:Around}{ε:Env}{E:VP}
noncomputable def Mu (ε:Env)(ts:List Str)(a b:Addr):Prop:=b∈Tb\/b=ε.locals\/b=a\/∃x∈ts,ε.cells.lookup x=some b
theorem uc (H:cL W fA n r){σ:Sg}{e:Expr}{ds:List D}(a:gH r σ e=some ds)(x:Value):foldedSetIterable e ε x=pure x:=by
 induction e using Expr.casesOn with
 |Set b k p=>
  have a:(r.ev σ (.Set b k p)).bind pR=some ds:=a;rw[H.noset]at a;exact nn a
 |_=>rfl
theorem Ij {t:Expr}{d:D}{σ σ':Sg}(hb:gq t d σ=some σ'){x:Str}(c:x∉targetsOf t):σ'.lookup x=σ.lookup x:=by
 refine sX (P:=λt Z σ'=>x∉targetsOf t->σ'.lookup x=σ.lookup x) ?_ ?_ hb c<;>clear hb c
 ·intro y p d Z c
  rw[Sg.gM,aq λ(e:x=y)=>c (e▸.head _)]
 ·intro y g z f q p d a b Z Z c
  rw[Sg.gM,Sg.gM,aq λ(e:x=z)=>c (e▸.tail _ (.head _)),aq λ(e:x=y)=>c (e▸.head _)]
variable {β:Type}{emit:Sg->Option β}{em:Sem Unit}{Acc:List Addr->Heap->List β->Prop}{Good:List β->Prop}{a:Addr}{e:Expr}{gens:List Comprehension}
noncomputable def zF (prog:Program)(w:World)(A:Around)(ε:Env)(a:Addr)(e:Expr)(gens:List Comprehension)(em:Sem Unit)(k:Nat)(Q:Shared->Prop)(E:VP)(s4:Shared):Prop:=
 match gens[k+1]? with
 |some d=>d.is_async=0/\wpAny (model prog w) A (eval d.iter ε) (λx b=>wpAny (model prog w) A (foldedSetIterable d.iter ε x) (λy b=>wpAny (model prog w) A (pyIter y) (λc s6=>
  wpAny (model prog w) A (runOwn (.compStart e (k+1) c (.ref a) ε) ε) (λZ s7=>Q s7) E s6) E b) E b) E s4
 |none=>wpAny (model prog w) A em (λZ b=>Q b) E s4
noncomputable def vA (W:Wd prog w gD)(A:Around)(ε:Env)(a:Addr)(e:Expr)(gens:List Comprehension)(em:Sem Unit)(Acc:List Addr->Heap->List β->Prop)(Good:List β->Prop)(ts:List Str)(k:Nat)(d:List Str)(c:Sg->Option (List β)):Prop:=
 ∀{bad:List Addr}{σ:Sg}{xs ys:List β}{s:Shared}{Q:Shared->Prop}{E:VP},c σ=some ys->gw W ε bad σ s.heap->Acc bad s.heap xs->Good (xs++ys)->a∈bad->(∀x∈d,σ.lookup x=none)->
  (∀h' tk,gw W ε bad σ h'->Acc bad h' (xs++ys)->(∀b o,¬Mu ε ts a b->s.heap.get? b=some o->h'.get? b=some o)->Q (zs s h' tk))->
  zF prog w A ε a e gens em k Q E s
@[elab_as_elim] theorem Dl {c:Sg->Option (List β)}{g:Comprehension}{σ:Sg}{d:D}{ds:List D}{ys:List β}{P:List β->Prop}(h:jB r c g σ (d::ds)=some ys)
 (k:∀σ' b xs f,gq g.target d σ=some σ'->iB r σ' g.ifs=some b->(if b=true then c σ' else some [])=some xs->jB r c g σ ds=some f->P (xs++f)):P ys:=
 gQ h λσ' m h=>gQ h λb l h=>gQ h λxs j h=>gQ h λf i h=>someE h (k σ' b xs f m l j i)
noncomputable def Kpt (ε:Env)(ts:List Str)(a:Addr)(m:List Addr)(h h':Heap):Prop:=∀b o,¬Mu ε ts a b->b∉m->h.get? b=some o->h'.get? b=some o
theorem Nm (H:cL W fA n r)(R:fj n A)(EO:uv W A ε a emit em Acc Good)(V:412<=a)(C:a≠ε.locals)(G:∀y,ε.cells.lookup y≠some a){ts:List Str}{g:Comprehension}(z:∀x∈targetsOf g.target,x∈ts)
 {bad m:List Addr}{J:Bool}{u:Value}{σ σ':Sg}{d:D}{ds:List D}{xs:List β}{s:Shared}{b:Bool}{Zp:Shared->Prop}{Y:Bool->Shared->Prop}(hz:J=true->(targetsOf g.target).length=2)(hb:gq g.target d σ=some σ')(ht:iB r σ' g.ifs=some b)
 (T:Iter prog w (m++bad) s.heap J m u (d::ds))(F:gw W ε (m++bad) σ s.heap)(i:Acc (m++bad) s.heap xs)(L:∀b∈m,b∉bad)(S:Still ε bad)(I:a∈bad)
 (k:∀h' tk,Iter prog w (m++bad) h' J m u ds->gw W ε (m++bad) σ' h'->Acc (m++bad) h' xs->Kpt ε ts a m s.heap h'->Y b (zs s h' tk)):
 wpAny (model prog w) A (pyNext u) (λr s₁=>match r with
  |none=>Zp s₁
  |some v=>wpAny (model prog w) A (letOwnedTupleGo g.target u v) (λZ s2=>wpAny (model prog w) A (assign g.target ε v) (λZ s3=>wpAny (model prog w) A (xg g.ifs ε) Y E s3) E s2) E s₁) E s:=by
 have nb:∀{b},s.heap.get? b=none->b∉m++bad:=λe q=>by have:=(F.old _ q).1.alive;rw[e]at this;nomatch this
 refine bC (T.step F.S hb hz (λv h₁ M R1 T1 j K X=>?_) R.hd nb) (λr' s₁ q=>by(revert q;refine cW λv e q=>?_;subst e);exact q) λZ Z x=>x;clear T nb;have F1:gw W ε (m++bad) σ h₁:=F.keep j (λb o q c=>K b o (λp=>q.elim (λq=>q (bK _ p)) λq=>L _ p (q.elim (λe=>e▸S.lin) (yE λx e=>S.cin _ _ e))) c) λb hb=>X b (F.old b hb).1;refine F1.bind R.hd hb R1 rfl λN t2 P O Z=>Nz H R ht P λf Q X3 S3=>?_;have l:∀b o,(b∉bad\/b=a)->h₁.get? b=some o->f.get? b=some o:=λb o hb c=>by
  refine X3 b o (λt=>?_) (O b o (λq=>?_) c)
  ·exact hb.elim (λq=>q (S.tb b t)) λe=>pC V (e▸t)
  ·exact hb.elim (λh=>h (q.elim (λe=>e▸S.lin) (cW λx Z e=>S.cin _ _ e))) λe=>(e▸q).elim C (cW λx Z e=>G x e)
 refine k f Q (T1.mono λb o hb c=>l b o (.inl λq=>hb.elim (λh=>h (aD _ q)) λh=>L b h q) c) (P.ext X3 S3)
  (EO.mono i λb o hb c=>l b o (hb.imp (λq h=>q (aD _ h)) id) (K b o (λp=>hb.elim (λq=>q (bK _ p)) λe=>L _ p (e▸I)) c))
  λb o hb B c=>X3 b o (λq=>hb (.inl q)) (O b o (λq=>hb (q.elim (λe=>.inr (.inl e)) (cW λx U e=>.inr (.inr (.inr ⟨x,z x U,e⟩))))) (K b o B c))
noncomputable def Lev (Acc:List Addr->Heap->List β->Prop)(ε:Env)(ts:List Str)(a:Addr)(b:Sg->Option (List β))(g:Comprehension)(σ:Sg)(d:Bool)(m bad:List Addr)(f:Value)(c:List β)(h h':Heap)(ds:List D):Prop:=
 ∃ys xs,jB r b g σ ds=some ys/\Iter prog w (m++bad) h' d m f ds/\gw W ε (m++bad) σ h'/\Acc (m++bad) h' xs/\xs++ys=c/\Kpt ε ts a m h h'
theorem Ek (H:cL W fA n r)(R:fj n A)(EO:uv W A ε a emit em Acc Good)(hp:Parts prog w e (.ref a) ε gens em)(ha:412<=a)(hal:a≠ε.locals)(hac:∀y,ε.cells.lookup y≠some a){ts:List Str}
 {g:Comprehension}{k:Nat}(hg:gens[k]? =some g)(X:vC g)(hts:∀x∈targetsOf g.target,x∈ts){Y:List Str}(V:(targetsOf g.target++Y).Nodup){i:Sg->Option (List β)}
 (IN:vA W A ε a e gens em Acc Good ts k Y i)
 {bad m:List Addr}{zp:Bool}{it:Value}{σ:Sg}{ds:List D}{ys xs:List β}{s:Shared}{RR:Result->Shared->Prop}
 (ht:jB r i g σ ds=some ys)(T:Iter prog w (m++bad) s.heap zp m it ds)(hz:zp=true->uU g.iter=true)(F:gw W ε (m++bad) σ s.heap)(h:Acc (m++bad) s.heap xs)(C:Good (xs++ys))
 (hm:∀b∈m,b∉bad)(S:Still ε bad)(t:a∈bad)(U:∀x∈targetsOf g.target++Y,σ.lookup x=none)
 (fin:∀h' tk,gw W ε bad σ h'->Acc bad h' (xs++ys)->(∀b o,¬Mu ε ts a b->b∉m->s.heap.get? b=some o->h'.get? b=some o)->RR (.ok .next) (zs s h' tk)):
 codeAny (model prog w) A (.compLoop e k it (.ref a) ε) RR s:=by
 refine codeAny_loop (hp.quiet k it) (λN s'=>∃ds h' tk,s'=(zs s h' tk)/\N=ds.length/\Lev Acc ε ts a i g σ zp m bad it (xs++ys) s.heap h' ds) ?_ ds.length
  ⟨ds,s.heap,s.toks,rfl,rfl,ys,xs,ht,T,F,h,rfl,λZ Z Z Z e=>e⟩
 clear ht T F h;intro N s';refine iQ λds h0 t0 e e' L=>?_;subst e e';revert L;refine uy λys1 P ht T F h f kp=>?_;rw[hp.under,hp.den];refine wpAny_noted (Np hp hg X.1 ?_);revert ht f
 induction ds using gY with
 |nil=>
  intro ht;refine someE ht λf=>T.done R.hd λh₁ G k1=>?_;rw[List.append_nil]at f;subst f;have M:W.S h₁:=W.low F.S λb o p l=>k1 b o (λq=>by refine Dh (λZ hlo o' ho' nc=>?_) (T.lo b q);have ρ:=aH (l.symm.trans ho');subst ρ;exact p.elim (λq=>absurd q (bc.mpr hlo)) nc) l
  refine fin h₁ G (F.fewer S hm k1 M) (EO.less (EO.mono h λb o p l=>k1 b o (λqm=>p.elim (λq=>q (bK _ qm)) λe=>hm _ qm (e▸t)) l) λb p=>.inl (aD _ p)) λb o p j l=>k1 b o j (kp b o p j l)
 |cons d ds=>
  intro ht;refine Dl ht λO c ya yb p B u ht f=>?_;have dr:∀{h'},gw W ε (m++bad) O h'->gw W ε (m++bad) σ h':=λF'=>F'.dropT p (λx hx=>U x (bK _ hx)) (cZ.mp V).1;refine Nm (s:=(zs s h0 t0)) H R EO ha hal hac hts (λq=>X.2 (hz q)) p B T F h hm S t λh₃ t3 T3 F3 z k3=>?_;clear T F h;have Q:Kpt ε ts a m s.heap h₃:=λb o q j l=>k3 b o q j (kp b o q j l);have lt:ds.length<(d::ds).length:=eF _;revert u
  induction c using fu with
  |false=>
   intro u;rw[aq Bool.false_ne_true]at u⊢;have u:=aH u;subst u;exact⟨rfl,ds.length,lt,ds,h₃,t3,rfl,rfl,yb,P,ht,T3,dr F3,z,f,Q⟩
  |true=>
   intro u;rw[ao rfl]at u⊢;rw[<-cR]at f;have J:∀x∈Y,O.lookup x=none:=λx hx=>by rw[Ij p λq=>(cZ.mp V).2.2 x q x hx rfl];exact U x (aD _ hx)
   refine IN (s:=(zs s h₃ t3)) u F3 z (EO.pre _ yb (by rw[f];exact C)) (aD _ t) J λI t4 F4 K k4=>?_;refine⟨rfl,ds.length,lt,ds,I,t4,rfl,rfl,yb,P++ya,ht,T3.mono λb o hb' l=>k4 b o (λq=>?_) l,dr F4,K,f,λb o q j l=>k4 b o q (Q b o q j l)⟩;have v:b∈bad:=q.elim (S.tb _) λq=>q.elim (λe=>e▸S.lin) λq=>q.elim (λe=>e▸t) (cW λx Z e=>S.cin _ _ e);exact hb'.elim (λq=>q (aD _ v)) λq=>hm _ q v
theorem vg {c:Code}{b:Result->Shared->Prop}{s:Shared}(h:codeAny (model prog w) A c b s):codeAny (model prog w) (A.mark none) c b s:=h
theorem Ms (H:cL W fA n r)(K:Hk W fA)(R:fj n A)(O:uv W A ε a emit em Acc Good)(U:Parts prog w e (.ref a) ε gens em)(Y:412<=a)(C:a≠ε.locals)(G:∀y,ε.cells.lookup y≠some a){ts:List Str}
 {g:Comprehension}{k:Nat}(V:gens[k]? =some g)(l:vC g)(z:∀x∈targetsOf g.target,x∈ts){N:List Str}(B:(targetsOf g.target++N).Nodup){d:Sg->Option (List β)}
 (IN:vA W A ε a e gens em Acc Good ts k N d)
 {bad m:List Addr}{P:Bool}{S:Value}{σ:Sg}{ds:List D}{ys xs:List β}{s:Shared}{h':Heap}{tk:Nat}{Z:Result->Shared->Prop}
 (ht:jB r d g σ ds=some ys)(T:Iter prog w (m++bad) h' P m S ds)(hz:P=true->uU g.iter=true)(new:∀b∈m,s.heap.get? b=none)(X:Ext s.heap h')(S':W.S h')
 (F:gw W ε bad σ s.heap)(i:Acc bad s.heap xs)(f:Good (xs++ys))(I:a∈bad)(v:∀x∈targetsOf g.target++N,σ.lookup x=none)
 (L:∀h' tk,gw W ε bad σ h'->Acc bad h' (xs++ys)->(∀b o,¬Mu ε ts a b->s.heap.get? b=some o->h'.get? b=some o)->Z (.ok .next) (zs s h' tk)):
 codeAny (model prog w) A (.compStart e k S (.ref a) ε) Z (zs s h' tk):=by
 have F':gw W ε (m++bad) σ h':=F.more X S' new λb c=>⟨(T.lo b c).2.1,(T.lo b c).2.2⟩;have hm:∀b∈m,b∉bad:=λb c q=>by have:=(F.old b q).1.alive;rw[new b c]at this;nomatch this
 have j:Acc (m++bad) h' xs:=by
  refine O.mono (O.less i λb c=>?_) λb o c p=>X b o ?_ p
  ·refine aC (bj.mp c) (λq=>?_) (λq=>?_)
   ·exact .inr (new b q)
   ·exact .inl q
  ·rcases c with c|rfl
   ·exact λq=>c (aD _ (F.tb b q))
   ·exact pC Y
 refine Ds U V l.1 (Ek (s:=(zs s h' tk)) H R O U Y C G V l z B IN ht T hz F' j f hm F.tos7.still I v λJ t M h u=>?_) λQ E q=>T.self q;refine L J t M h λb o c p=>u b o c (λq=>?_) (X b o (λq=>c (.inl q)) p);rw[new b q]at p;exact nn p
theorem QV (H:cL W fA n r)(K:Hk W fA)(R:fj n A)(EO:uv W A ε a emit em Acc Good)(hp:Parts prog w e (.ref a) ε gens em)(ha:412<=a)(p:a≠ε.locals)(t:∀y,ε.cells.lookup y≠some a){ts:List Str}:
 ∀(gs:List Comprehension)(k:Nat),gens.drop (k+1)=gs->(∀c∈gs,vC c)->(∀x∈gK gs,x∈ts)->(gK gs).Nodup->vA W A ε a e gens em Acc Good ts k (gK gs) (wQ r emit gs):=by
 intro gs
 induction gs with
 |nil=>
  intro k L Z Z Z V σ xs ys s Q E J F f d h Z u;have hn:gens[k+1]? =none:=by have:=List.drop_eq_nil_iff.mp L;exact List.getElem?_eq_none this
  unfold zF;rw[hn];refine cW (λx I ρ=>?_) (dq.mp J);subst ρ;refine EO.step I d F f h ha p t λh' tk v k' al S'=>?_;refine u h' tk (F.but S' h p t k' al) v λb o hb ho=>k' b o (λq=>hb (.inl q)) (λq=>hb (.inr (.inr (.inl q)))) ho
 |cons g gs ih=>
  intro k L G j l V σ xs ys s Q E J F f d h z u;have B:gens[k+1]? =some g:=by
   have:(gens.drop (k+1))[0]? =some g:=by rw[L];rfl
   simpa using this
  have S:gens.drop (k+1+1)=gs:=by rw[<-List.drop_drop,L];rfl
  unfold zF;rw[B];have M:=G g (.head _);refine⟨M.1,?_⟩;refine gQ J λds C J=>?_;have tA:gK (g::gs)=targetsOf g.target++gK gs:=fD;rw[tA]at j l z;have IN:vA W A ε a e gens em Acc Good ts (k+1) (gK gs) (wQ r emit gs):=ih (k+1) S (λc M=>G c (.tail _ M)) (λx I=>j x (aD _ I)) (cZ.mp l).2.1;refine bC (BP H K R F C λzp hz it h' tk m T O X S'=>?_) (λx s5 h5=>wpAny_of_eq (uc H C x) h5) λZ Z x=>x;refine wpAny_runOwn (vg (Ms (s:=s) H K R EO hp ha p t B M (λx I=>j x (bK _ I)) l IN J T hz O X S' F f d h z λU N Y i P=>?_));exact u U N Y i P
end
noncomputable def lM (ε:Env)(l:List (Str×NameKind))(acc:List (Str×Addr)):List (Str×Addr):=@List.rec (Str×NameKind) (λZ=>List (Str×Addr)->List (Str×Addr)) id (λp Z a acc=>a (if p.2== .free then(p.1,(ε.cells.lookup p.1).getD 0)::acc else acc)) l acc
theorem nZ {ε:Env}{n:Str}{c:Addr}{names:List (Str×NameKind)}{acc:List (Str×Addr)}:(n,c)∈lM ε names acc<->(n,c)∈acc\/((n,NameKind.free)∈names/\c=(ε.cells.lookup n).getD 0):=by
 induction names generalizing acc with
 |nil=>exact⟨.inl,λh=>h.elim id λh=>nomatch h.1⟩
 |cons p r a=>
  refine a.trans ?_;by_cases hk:(p.2==NameKind.free)=true
  ·rw[ao hk]
   constructor
   ·refine λh=>h.elim (λh=>(au.mp h).elim (λe=>.inr ?_) .inl) λh=>.inr ⟨.tail _ h.1,h.2⟩
    rw[(Prod.mk.inj e).1,(Prod.mk.inj e).2,<-eq_of_beq hk];exact⟨.head _,rfl⟩
   ·refine λh=>h.elim (λh=>.inl (.tail _ h)) λh=>(au.mp h.1).elim (λe=>.inl ?_) λq=>.inr ⟨q,h.2⟩
    rw[h.2,<-e];exact .head _
  ·rw[aq hk]
   refine⟨λh=>h.elim .inl λh=>.inr ⟨.tail _ h.1,h.2⟩,λh=>h.elim .inl λh=>(au.mp h.1).elim (λe=>?_) λq=>.inr ⟨q,h.2⟩⟩;rw[<-e]at hk;exact absurd rfl hk
section
variable {p:Str×NameKind}{r names:List (Str×NameKind)}{k:Nat}{acc:List (Str×Addr)}
theorem CG (h:(p.2==NameKind.cell)=true):cellsFrom k (p::r) acc=cellsFrom (k+1) r ((p.1,k)::acc):=ao h
theorem CJ (h:¬(p.2==NameKind.cell)=true):cellsFrom k (p::r) acc=cellsFrom k r acc:=aq h
theorem jz:cellsFrom k names acc=cellsFrom k names []++acc:=by
 induction names generalizing k acc with
 |nil=>rfl
 |cons p r a=>
  by_cases h:(p.2==NameKind.cell)=true
  ·rw[CG h,CG h,a,a (acc:=[_]),cR];rfl
  ·rw[CJ h,CJ h];exact a
theorem zP {n:Str}{c:Addr}(h:(n,c)∈cellsFrom k names []):(n,NameKind.cell)∈names:=by
 induction names generalizing k with
 |nil=>nomatch h
 |cons p r a=>
  by_cases q:(p.2==NameKind.cell)=true
  ·rw[CG q,jz]at h
   refine(bj.mp h).elim (λh=>.tail _ (a h)) λh=>?_;rw[(Prod.mk.inj (dj.mp h)).1,<-eq_of_beq q];exact .head _
  ·rw[CJ q]at h
   exact .tail _ (a h)
theorem tQ {n:Str}(h:(n,NameKind.cell)∈names):∃c,(n,c)∈cellsFrom k names []:=by
 induction names generalizing k with
 |nil=>nomatch h
 |cons p r a=>
  by_cases q:(p.2==NameKind.cell)=true
  ·rw[CG q,jz]
   exact(au.mp h).elim (λh=>⟨k,aD _ (h▸.head _)⟩) λh=>let ⟨c,e⟩:=a h;⟨c,bK _ e⟩
  ·rw[CJ q]
   exact(au.mp h).elim (λh=>absurd (h▸rfl) q) a
end
theorem tE {α:Type}{l:List (Str×α)}{n:Str}{c:α}(h:(n,c)∈l):∃c',l.lookup n=some c':=by
 induction l with
 |nil=>nomatch h
 |cons p r a=>
  show ∃c',((p.1,p.2)::r).lookup n=some c';rw[K7];by_cases q:n=p.1
  ·exact⟨p.2,ao q⟩
  ·rw[aq q]
   exact(au.mp h).elim (λh=>absurd (bD Prod.fst h) q) a
theorem lO {l:List (Str×NameKind)}{n:Str}{k:NameKind}(a:uniq l=true)(h:(n,k)∈l):l.lookup n=some k:=by
 induction l with
 |nil=>nomatch h
 |cons p r b=>
  have a:=az.mp (show(r.all (λq=>q.1 !=p.1)&&uniq r)=true from a);show((p.1,p.2)::r).lookup n=some k;rw[K7];refine(au.mp h).elim (λe=>?_) λh=>(aq (bne_iff_ne.mp (aU.mp a.1 _ h))).trans (b a.2 h);rw[<-e,ao rfl]
theorem wZ {f:Str×NameKind->Str×NameKind}(b:∀p,(f p).1=p.1){l:List (Str×NameKind)}{n:Str}:(l.map f).lookup n=(l.lookup n).map λk=>(f (n,k)).2:=by
 induction l with
 |nil=>rfl
 |cons p r a=>
  show(((f p).1,(f p).2)::r.map f).lookup n=(((p.1,p.2)::r).lookup n).map _;rw[K7,K7,b,a];by_cases q:n=p.1
  ·rw[ao q,ao q,q];rfl
  ·rw[aq q,aq q]
theorem oH {p:Str×D->Bool}{l:List (Str×D)}{x:Str}{d:D}(g:∀a b,p (x,a)=p (x,b))(h:(l.filter p).lookup x=some d):l.lookup x=some d/\p (x,d)=true:=by
 induction l with
 |nil=>exact nn h
 |cons q r f=>
  show((q.1,q.2)::r).lookup x=some d/\_;rw[K7];by_cases c:p q=true
  ·rw[List.filter_cons_of_pos c]at h
   have h:=(K7 (x:=q.1) (d:=q.2)).symm.trans h;by_cases e:x=q.1
   ·rw[ao e]at h⊢
    exact⟨h,(show(x,d)=q from Prod.ext e (aH h).symm)▸c⟩
   ·rw[aq e]at h⊢
    exact f h
  ·rw[List.filter_cons_of_neg c]at h
   have i:=f h;rw[aq λe=>c ((show(x,q.2)=q from Prod.ext e rfl)▸(g d q.2).symm.trans i.2)];exact i
theorem lookup_append {α:Type}{l a:List (Str×α)}{x:Str}:(l++a).lookup x=(l.lookup x).or (a.lookup x):=by
 induction l with
 |nil=>rfl
 |cons q r b=>
  show((q.1,q.2)::(r++a)).lookup x=(((q.1,q.2)::r).lookup x).or _;rw[K7,K7];by_cases e:x=q.1
  ·rw[ao e,ao e];rfl
  ·rw[aq e,aq e];exact b
theorem pW {sc:Scope}{x:Str}{d:D}(a:uniq sc.names=true)(h:(ig sc).lookup x=some d):d=.glob/\sc.names.lookup x=some .globalImplicit:=by refine cW (λp b e=>j9 e λq e=>?_) (List.mem_filterMap.mp (mem_of_lookup h));have e:=Prod.mk.inj (aH e);exact⟨e.2.symm,lO a ((show p=(x,.globalImplicit)from Prod.ext e.1 (eq_of_beq q))▸b)⟩
section
variable {A:Around}{ε:Env}{E:VP}{bad:List Addr}{σ:Sg}{h:Heap}
theorem iY {sc:Scope}{x:Str}:(iZ sc σ).lookup x=(sc.names.lookup x).map λk=>if k== .free&&σ.names.lookup x==some .cell then .cell else k:=by unfold iZ;rw[wZ λp=>by rw[apply_ite Prod.fst,ite_self]];congr 1;funext k;exact apply_ite Prod.snd _ _ _
theorem xX {sc:Scope}{a:List Comprehension}(hs:qC sc a σ=true):sc.kind=.function/\uniq sc.names=true/\(∀p∈sc.names,Hs σ p=true)/\(Ed (iZ sc σ)=true->Ed σ.names=true):=by
 unfold qC at hs;simp only[bJ]at hs;refine⟨by simpa using hs.1.1.1.1.1,hs.1.1.1.1.2,λp b=>aU.mp hs.1.1.1.2 p b,λq=>?_⟩;have h:=hs.2;have:Ed sc.names=true:=by unfold Ed at q⊢;rw[iY]at q;simpa using q
 rw[this]at h;simpa using h
theorem qW {x:Str}(h:Hs σ (x,.free)=true):σ.names.lookup x=some .cell\/σ.names.lookup x=some .free:=by refine Br nb h λk e=>(Bool.or_eq_true_iff.mp e).elim (λe=>.inl ?_) λe=>.inr ?_<;>rw[eq_of_beq e]
noncomputable def gJ (ε:Env)(sc:Scope)(σ:Sg)(L:Addr):Env:=
 {scope:={sc with names:=iZ sc σ},locals:=L,globals:=ε.globals,cells:=cellsFrom (L+1) sc.names (lM ε sc.names []),qual:=ε.qual,func:=none,code:=ε.code,frame:=ε.frame,builtins:=ε.builtins}
noncomputable def qZ (ε:Env)(sc:Scope)(L:Addr)(bad:List Addr):List Addr:=L::((cellsFrom (L+1) sc.names []).map (·.2)++bad)
noncomputable def il (h:Heap)(sc:Scope):Heap:=pushCells (h.push {cls:=.type "dict",data:=.dict #[]}) sc.names
theorem yF (sc:Scope):∀b o,h.get? b=some o->(il h sc).get? b=some o:=λb o e=>pushCells_keeps _ _ b o (aP _ e)
theorem gw.inner (F:gw W ε bad σ h){sc:Scope}{P:List Comprehension}(hs:qC sc P σ=true):
 gw W (gJ ε sc σ h.objs.size) (qZ ε sc h.objs.size bad) (under sc σ) (il h sc):=by
 refine sY (λhk hu T hmk=>?_) (xX hs);have Q:(h.push {cls:=.type "dict",data:=.dict #[]}).objs.size=h.objs.size+1:=dW ..;have Y:CellsOk (il h sc) (h.objs.size+1) (cellsFrom (h.objs.size+1) sc.names []):=by have:=cellsFrom_ok sc.names (h.push {cls:=.type "dict",data:=.dict #[]}) (h.objs.size+1) [] ⟨λZ Z m=>(nomatch m),List.Pairwise.nil⟩ (by rw[Q];exact bG _);rw[Q]at this;exact this
 have V:=yF (h:=h) sc;have hS:W.S (il h sc):=W.pZ F.S V;have H:412<=h.objs.size:=W.size F.S;have lt:∀{b},b∈bad->b<h.objs.size:=λhb=>by refine yE (λo M=>?_) (bz.mp (F.old _ hb).1.alive);exact aZ M
 have f:∀{x},(x,NameKind.free)∈sc.names->∃c v,ε.cells.lookup x=some c/\h.IsCell c v/\c∈bad/\c≠ε.locals/\412<=c:=λ{x} C=>by have j:=qW (T _ C);rw[<-F.names]at j;refine mG (λc v e q=>?_) (F.cells x j);exact⟨c,v,e,q⟩
 have g:∀{x c},(x,c)∈cellsFrom (h.objs.size+1) sc.names (lM ε sc.names [])->
  ((x,NameKind.cell)∈sc.names/\(x,c)∈cellsFrom (h.objs.size+1) sc.names [])\/((x,NameKind.free)∈sc.names/\ε.cells.lookup x=some c):=λ{x c} m=>by
  rw[jz]at m;refine aC (bj.mp m) (λq=>?_) (λq=>?_)
  ·exact .inl ⟨zP q,q⟩
  ·rcases nZ.mp q with N|⟨N,rfl⟩
   ·simp at N
   ·refine mG (λc v e Z=>?_) (f N)
    exact .inr ⟨N,by rw[e];rfl⟩
 have i:∀{x c},(x,c)∈cellsFrom (h.objs.size+1) sc.names []->h.objs.size+1<=c:=λq=>(Y.empty _ _ q).2;have s:∀{x k},(gJ ε sc σ h.objs.size).kindOf x=some k->∃K,(x,K)∈sc.names/\k=(if K== .free&&σ.names.lookup x==some .cell then .cell else K):=λ{x k} e=>by have I:(iZ sc σ).lookup x=some k:=e;rw[iY]at I;refine cW (λK j u=>?_) (dq.mp I);subst u;exact⟨K,mem_of_lookup j,rfl⟩
 have cellAt:∀{x},((x,NameKind.cell)∈sc.names\/(x,NameKind.free)∈sc.names)->∃c,(gJ ε sc σ h.objs.size).cells.lookup x=some c/\(x,c)∈cellsFrom (h.objs.size+1) sc.names (lM ε sc.names []):=λ{x} C=>by
  have:∃c,(x,c)∈cellsFrom (h.objs.size+1) sc.names (lM ε sc.names []):=by
   rw[jz];revert C;refine yO (λq=>?_) (λq=>?_)
   ·refine yE (λc G=>?_) (tQ (k:=h.objs.size+1) q)
    exact⟨c,bK _ G⟩
   ·exact⟨_,aD _ (nZ.mpr (.inr ⟨q,rfl⟩))⟩
  revert this;refine yE λc G=>?_;refine yE (λX U=>?_) (tE G);exact⟨X,U,mem_of_lookup U⟩
 have l:∀{x},(x,NameKind.cell)∈sc.names->(x,NameKind.free)∈sc.names->False:=λp q=>by have a:=lO hu p;have b:=lO hu q;rw[a]at b;nomatch b
 have t:∀{x c},(gJ ε sc σ h.objs.size).cells.lookup x=some c->(∃v,(il h sc).IsCell c v)/\c∈qZ ε sc h.objs.size bad/\c≠h.objs.size/\412<=c:=λ{x c} e=>by
  refine aC (g (mem_of_lookup e)) (yA λZ q=>?_) (yA λq I=>?_)
  ·refine⟨⟨_,(Y.empty _ _ q).1⟩,.tail _ (bK _ (aG.mpr ⟨_,q,rfl⟩)),?_,?_⟩
   ·exact eO (i q)
   ·exact aA H (dR (i q))
  ·refine gW (λX v z G hb Z h4=>?_) (f q)
   have u:=aH (I.symm.trans z);subst u;exact⟨⟨v,G.keeps V⟩,.tail _ (aD _ hb),bY (lt hb),h4⟩
 refine{tos7:=?_,names:=rfl,env:=?_}
 ·refine{S:=hS,kind:=hk,glob:=F.glob,blt:=F.blt,ns:=⟨_,(Heap.Ns.new h (.type "dict")).keeps (pushCells_keeps _ _)⟩,hi:=H,lin:=.head _,cells:=?_,inj:=?_,cin:=?_,tb:=λb hb=>.tail _ (aD _ (F.tb b hb)),old:=?_,mkl:=?_}
  ·intro x C
   have:(x,NameKind.cell)∈sc.names\/(x,NameKind.free)∈sc.names:=by
    revert C;refine yO (λC=>?_) (λC=>?_)
    ·refine cW (λK m e=>?_) (s C)
     split at e
     ·rename_i G
      have:K=.free:=by simpa using (az.mp G).1
      subst this;exact .inr m
     ·subst e;exact .inl m
    ·refine cW (λK m e=>?_) (s C)
     split at e
     ·nomatch e
     ·subst e;exact .inr m
   refine cW (λc e Z=>?_) (cellAt this);refine sY (λu N q2 q3=>yE (λv hv=>?_) u) (t e);exact⟨c,v,e,hv,N,q2,q3⟩
  ·intro x y c C hy
   (refine aC (g (mem_of_lookup C)) (yA λZ q=>?_) (yA λq e=>?_))<;>(refine aC (g (mem_of_lookup hy)) (yA λZ J=>?_) (yA λJ I=>?_))
   ·exact name_of_addr Y.apart q J
   ·refine kh (λX v z G hb Z=>?_) (f J)
    have u:=aH (I.symm.trans z);subst u;exact absurd (lt hb) (bc.mpr (dR (i q)))
   ·refine kh (λX v z G hb Z=>?_) (f q)
    have u:=aH (e.symm.trans z);subst u;exact absurd (lt hb) (bc.mpr (dR (i J)))
   ·exact F.inj x y c e I
  ·intro x c e
   exact(t e).2
  ·intro b hb
   rcases au.mp hb with rfl|hb
   ·refine⟨?_,.inr H⟩
    have:=pushCells_keeps sc.names (h.push {cls:=.type "dict",data:=.dict #[]}) h.objs.size _ (aL _ rfl);exact⟨_,this,gF λvs e=>nomatch e⟩
   ·refine aC (bj.mp hb) (λq=>?_) (λq=>?_)
    ·obtain⟨⟨x,c⟩,m,rfl⟩:=aG.mp q
     refine yA (λu O=>cW (λo M hd=>?_) u) (Y.empty x c m);exact⟨⟨o,M,gF λvs e=>by rw[hd]at e;nomatch e⟩,.inr (aA H (dR O))⟩
    ·refine yA (λp p'=>?_) (F.old b q)
     exact⟨p.keep λo M=>V b o M,p'⟩
  ·exact λq=>F.mkl (by rw[F.names];exact hmk q)
 ·intro x d e
  unfold under Sg.lookup at e;dsimp only at e;rw[lookup_append]at e
  induction hf:(σ.vars.filter λp=>sc.names.lookup p.1==some .free).lookup x using aK with
  |none=>
   rw[hf]at e;refine yA (λu hg=>?_) (pW hu (by simpa using e));subst u;refine .inl ⟨rfl,?_⟩;show(iZ sc σ).lookup x=_;rw[iY,hg];rfl
  |some d'=>
   rw[hf]at e;have:d'=d:=by simpa using e
   subst this;refine yA (λh1 h2=>?_) (oH (λZ Z=>rfl) hf);have h2:sc.names.lookup x=some .free:=by simpa using h2
   have m:=mem_of_lookup h2;have j:=qW (T _ m);rw[<-F.names]at j;refine aC (F.env x d' h1) (yA λZ q=>?_) (cW λv B R=>?_)
   ·exfalso
    have J:ε.scope.names.lookup x=some .globalImplicit:=q;rw[J]at j;simp at j
   ·revert B;refine yO (yA λq Z=>?_) (nG λZ c ec G=>?_)
    ·exfalso
     have J:ε.scope.names.lookup x=some .local:=q;rw[J]at j;simp at j
    ·refine .inr ⟨v,.inr ⟨?_,c,?_,G.keeps V⟩,?_⟩
     ·have I:(gJ ε sc σ h.objs.size).kindOf x=(iZ sc σ).lookup x:=rfl
      rw[I,iY,h2];dsimp only[Option.map];split
      ·exact .inl rfl
      ·exact .inr rfl
     ·refine cW (λX ec' L=>?_) (cellAt (.inr m))
      rw[ec'];refine aC (g L) (yA λq Z=>?_) (yA λZ q=>?_)
      ·exact(l q m).elim
      ·rw[ec]at q;exact q.symm
     ·refine(R.less λb hb=>?_).mono λb o Z M=>V b o M
      have nn:∀{b},h.objs.size<=b->h.get? b=none:=λhb=>by
       induction e:h.get? _ using aK with
       |none=>rfl
       |some o=>exact absurd (aZ e) (bc.mpr hb)
      rcases au.mp hb with rfl|hb
      ·exact .inr (nn (bG _))
      ·refine aC (bj.mp hb) (λq=>?_) (λq=>?_)
       ·obtain⟨⟨y,c⟩,L,rfl⟩:=aG.mp q
        have:=i L;exact .inr (nn (dR this))
       ·exact .inl q
end
section
variable {A:Around}{ε:Env}{E:VP}{bad bad':List Addr}{σ:Sg}{h:Heap}{s:Shared}
theorem zT {sc:Scope}(g:∀x,(x,NameKind.free)∈sc.names->(ε.cells.lookup x).isSome=true){Q:List (Str×Addr)->Shared->Prop}(q:Q (lM ε sc.names []) s):wpAny (model prog w) A (closureFor sc ε) Q E s:=by
 have go:∀(f:Str×NameKind->List (Str×Addr)->Sem (ForInStep (List (Str×Addr)))),(∀b d i,f (b,d) i=if d== .free then(do let c<-cellOf ε b;pure (.yield ((b,c)::i)))else pure (.yield i))->
  ∀(a:List (Str×NameKind))(e:List (Str×Addr))(Q:List (Str×Addr)->Shared->Prop),(∀x,(x,NameKind.free)∈a->(ε.cells.lookup x).isSome=true)->Q (lM ε a e) s->wpAny (model prog w) A (forIn a e f) Q E s:=by
  intro f l a
  induction a with
  |nil=>intro e Q Z q;rw[List.forIn_nil];exact aB q
  |cons p r o=>
   obtain⟨x,k⟩:=p;intro e Q g q;rw[List.forIn_cons,l];replace q:Q (lM ε r (if k== .free then(x,(ε.cells.lookup x).getD 0)::e else e)) s:=q;by_cases hk:(k== .free)=true
   ·rw[ao hk]at q⊢
    have j:k=.free:=by simpa using hk
    subst j;refine yE (λc t=>?_) (bz.mp (g x (.head _)));rw[t]at q;exact aj (aj (wpAny_cellOf t (aB (o _ _ (λy m=>g y (.tail _ m)) q))))
   ·rw[aq hk]at q⊢
    exact aj (aB (o _ _ (λy m=>g y (.tail _ m)) q))
 unfold closureFor;refine aj (go _ (λb d i=>?_) sc.names [] _ g (aB q))
 induction hk:d==NameKind.free using fu<;>simp[hk]
theorem KZ {sc:Scope}{clo:List (Str×Addr)}{Q:Env->Shared->Prop}
 (q:Q {scope:=sc,locals:=s.heap.objs.size,globals:=ε.globals,cells:=cellsFrom (s.heap.objs.size+1) sc.names clo,qual:=ε.qual,func:=none,code:=ε.code,frame:=ε.frame,builtins:=ε.builtins} {s with heap:=il s.heap sc}):
 wpAny (model prog w) A (newFunctionEnv sc ε.globals clo [] ε.qual none .none (some ε)) Q E s:=by
 simp only[newFunctionEnv,Option.isSome_some,if_true];refine aj (wpAny_alloc ?_);refine aj (wpAny_layCells _ (λc a cells=>by induction b:a==NameKind.cell using fu<;>simp[b]) _ _ _ _ ?_);rw[show({s with heap:=s.heap.push {cls:=.type "dict",data:=.dict #[]}}:Shared).heap.objs.size=s.heap.objs.size+1 from dW ..];rw[List.forIn_nil];exact aj (aB (aB q))
theorem Sv {e:Expr}{sc:Scope}{pos:Pos}{a first:Sem Value}{g:Comprehension}{gs:List Comprehension}{Q:VP}{use:Option (Value->Sem Unit)}
 (y:clausesOf e=g::gs)(hs:∀x,foldedSetIterable g.iter ε x=pure x)(hk:ε.scope.kind=.function)(o:ε.scope.names=σ.names)(j:sc.kind=.function)(J:uniq sc.names=true)
 (L:∀x,(x,NameKind.free)∈sc.names->(ε.cells.lookup x).isSome=true)
 (h:wpAny (model prog w) A first (λx s₁=>wpAny (model prog w) A (pyIter x) (λH s2=>wpAny (model prog w) A a (λacc s3=>
  codeAny (model prog w) A (.compStart e 0 H acc (gJ ε sc σ s3.heap.objs.size)) (λrr s'=>match rr with
   |.ok _=>Ay prog w A E Q acc s3.heap.objs.size s' use
   |.error _=>False) {s3 with heap:=il s3.heap sc}) E s2) E s₁) E s):
 wpAny (model prog w) A (comprehension e sc ε pos a false first use) Q E s:=by
 unfold comprehension;rw[y];refine aj (bC h (λx s₁ c=>?_) λZ Z x=>x);refine aj (bR (aj (wpAny_of_eq (hs x) (aj (bF (bC c (λH s2 N=>?_) λZ Z x=>x))))));refine wpAny_standIf (aj (bC N (λacc s3 M=>?_) λZ Z x=>x));refine aj (zT L (aj (KZ ?_)));dsimp only;have d:(sc.names.map λx=>if (x.2==NameKind.free&&ε.scope.kind==ScopeKind.function&&ε.kindOf x.1==some NameKind.cell)=true then(x.1,NameKind.cell)else(x.1,x.2))=iZ sc σ:=by
  unfold iZ;apply cj;intro p Z;have e:ε.kindOf p.1=σ.names.lookup p.1:=by rw[<-o];rfl
  simp only[hk,e,dF,Bool.and_true]
 have i:∀x,(x,NameKind.local)∈sc.names->(gJ ε sc σ s3.heap.objs.size).kindOf x=some .local:=λx l=>by show(iZ sc σ).lookup x=_;rw[iY,lO J l];rfl
 rw[d];have z:∀x∈(sc.names.filter λx=>(x.2== .local||x.2== .cell)&&x.1 !=(".0":Str)).reverse,x.2=.local->Env.kindOf (gJ ε sc σ s3.heap.objs.size) x.1=some .local:=λx l hl=>by have K:=(bV.mp (List.mem_reverse.mp l)).1;obtain⟨n,k⟩:=x;dsimp only at hl;subst hl;exact i n K
 have t:∀x∈(sc.names.filter λx=>(x.2== .local||x.2== .cell)&&x.1 !=(".0":Str)).reverse.drop 1++(sc.names.filter λx=>(x.2== .local||x.2== .cell)&&x.1 !=(".0":Str)).reverse.take 1,
  x.2=.local->Env.kindOf (gJ ε sc σ s3.heap.objs.size) x.1=some .local:=λx l hl=>by
  refine aC (bj.mp l) (λF=>?_) (λF=>?_)
  ·exact z x (List.mem_of_mem_drop F) hl
  ·exact z x (List.mem_of_mem_take F) hl
 refine bF (aj (wpAny_attempt (bF (wpAny_run (vg (codeAny_mono M λrr s' B=>?_))))))
 induction rr using Except.casesOn with
 |error x=>exact B.elim
 |ok f=>
  induction use using aK with
  |none=>
   revert B;refine cW λm o C=>?_;exact aj (bF (wpAny_comp_letGo (cenv:=gJ ε sc σ s3.heap.objs.size) j _ s' m z o λG I Z b=>aB (C G b)))
  |some u=>
   refine aj (wpAny_rule (aj (bF (bC B (λZ q v=>?_) λZ Z x=>x))));revert v;refine cW λm o C=>?_;exact aj (wpAny_comp_letGo (cenv:=gJ ε sc σ s3.heap.objs.size) j _ q m t o λG I Z b=>aB (C G b))
theorem gw.same (F:gw W ε bad σ h)(e:∀b,b∈bad<->b∈bad'):gw W ε bad' σ h where
 S:=F.S
 kind:=F.kind
 glob:=F.glob
 blt:=F.blt
 ns:=F.ns
 hi:=F.hi
 lin:=(e _).mp F.lin
 cells:=λx k=>let ⟨a,v,p,q,r,t⟩:=F.cells x k;⟨a,v,p,q,(e _).mp r,t⟩
 inj:=F.inj
 cin:=λx a p=>let ⟨q,t⟩:=F.cin x a p;⟨(e _).mp q,t⟩
 tb:=λb c=>(e _).mp (F.tb b c)
 old:=λb c=>F.old b ((e _).mpr c)
 mkl:=F.mkl
 names:=F.names
 env:=λx d p=>by
  refine aC (F.env x d p) (λq=>?_) (cW λv B R=>?_)
  ·exact .inl q
  ·exact .inr ⟨v,B,R.less λb c=>.inl ((e b).mpr c)⟩
theorem qN {l:List Str}(h:wC l=true):l.Nodup:=by
 induction l with
 |nil=>exact .nil
 |cons x a b=>
  have h:=az.mp (show(a.all (λy=>y !=x)&&wC a)=true from h);exact List.nodup_cons.mpr ⟨λq=>bne_iff_ne.mp (aU.mp h.1 x q) rfl,b h.2⟩
theorem Bl {sc:Scope}{a:List Comprehension}(hs:qC sc a σ=true):
 (∀g∈a,vC g)/\(gK a).Nodup/\∀x∈gK a,sc.names.lookup x=some .local\/sc.names.lookup x=some .cell:=by
 unfold qC at hs;simp only[bJ]at hs;revert hs;refine yA λi Z=>yA (λd k=>yA (λZ c=>?_) d) i;have c:=λg b=>aU.mp c g b;refine⟨λg b=>?_,qN k,λx e=>?_⟩
 ·have:=c g b
  simp only[bJ]at this;refine⟨by simpa using this.1.1,λj=>?_⟩;have f:=this.1.2;rw[j]at f;simpa using f
 ·refine cW (λg b e=>?_) (eH.mp e)
  have:=c g b;simp only[bJ]at this;have:=aU.mp this.2 x e;simpa using this
theorem Bc {sc:Scope}(b:uniq sc.names=true){x:Str}(a:sc.names.lookup x=some .local\/sc.names.lookup x=some .cell):(under sc σ).lookup x=none:=by
 unfold under Sg.lookup;dsimp only;rw[lookup_append]
 induction e:(σ.vars.filter λp=>sc.names.lookup p.1==some .free).lookup x using aK with
 |some d=>
  have:=(oH (λZ Z=>rfl) e).2;have f:sc.names.lookup x=some .free:=by simpa using this
  rw[f]at a;simp at a
 |none=>
  induction c:(ig sc).lookup x using aK with
  |none=>rfl
  |some d=>
   have:=(pW b c).2;rw[this]at a;simp at a
theorem Lp {sc:Scope}(f:uniq sc.names=true){L:Addr}{x:Str}{c:Addr}(b:sc.names.lookup x=some .local\/sc.names.lookup x=some .cell)(e:(gJ ε sc σ L).cells.lookup x=some c):(x,c)∈cellsFrom (L+1) sc.names []:=by
 have d:(x,c)∈cellsFrom (L+1) sc.names (lM ε sc.names []):=mem_of_lookup e;rw[jz]at d;refine aC (bj.mp d) (λq=>?_) (λq=>?_)
 ·exact q
 ·refine aC (nZ.mp q) (λa=>?_) (yA λa Z=>?_)
  ·simp at a
  ·have:=lO f a
   rw[this]at b;simp at b
theorem jZ {sc:Scope}{h₂:Heap}{x:Str}{c:Addr}(b:(x,c)∈cellsFrom (h₂.objs.size+1) sc.names []):h₂.objs.size<=c:=by have a:(h₂.push {cls:=.type "dict",data:=.dict #[]}).objs.size=h₂.objs.size+1:=dW ..;have:=cellsFrom_ok sc.names (h₂.push {cls:=.type "dict",data:=.dict #[]}) (h₂.objs.size+1) [] ⟨λZ Z b=>(nomatch b),List.Pairwise.nil⟩ (by rw[a];exact bG _);rw[a]at this;exact dR (this.empty x c b).2
theorem pQ {h:Heap}{b:Addr}(hb:h.objs.size<=b):h.get? b=none:=by
 induction e:h.get? b using aK with
 |none=>rfl
 |some o=>exact absurd (aZ e) (bc.mpr hb)
section
variable {β:Type}{emit:Sg->Option β}{em:Addr->Env->Sem Unit}{Acc:Addr->List Addr->Heap->List β->Prop}{Good:List β->Prop}{e:Expr}{gens:List Comprehension}
theorem vf (H:cL W fA n r)(K:Hk W fA)(R:fj n A){k:Sem Value}{o:Obj}{sc:Scope}{pos:Pos}{ys:List β}{use:Option (Value->Sem Unit)}{Q:VP}
 (hnew:∀{s:Shared}{Q:VP}{E:VP},Q (.ref s.heap.objs.size) {s with heap:=s.heap.push o}->wpAny (model prog w) A k Q E s)
 (ho:∀h:Heap,(h.push o).get? h.objs.size=some o)(hnc:¬Ue o)(h0:∀(bad:List Addr)(h:Heap),Acc h.objs.size bad (h.push o) [])
 (EO:∀a N,uv W A N a emit (em a N) (Acc a) Good)(hp:∀a N,Parts prog w e (.ref a) N gens (em a N))
 (F:gw W ε bad σ s.heap)(ht:iz r emit gens sc σ=some ys)(good:Good ys)
 (fin:∀a L h' tk m,a∉bad->L∉bad->a≠L->412<=a->412<=L->s.heap.get? L=none->s.heap.get? a=none->Acc a (a::L::bad) h' ys->Ext s.heap h'->W.S h'->h'.Ns L m->Ay prog w A E Q (.ref a) L (zs s h' tk) use):
 wpAny (model prog w) A (comprehension e sc ε pos k (firstAsync gens) (firstIter gens ε) use) Q E s:=by
 revert EO hp;refine nJ cH ht λg gs ht=>j9 ht λhs ht=>gQ ht λds hds ht EO hp=>?_;refine sY (λhk hu hok Z=>?_) (xX hs);refine uA (λhcl X htl=>?_) (Bl hs);have hc:=hcl g (.head _);have ha0:firstAsync (g::gs)=false:=by obtain⟨t,i,f,z⟩:=g;show(z !=0)=false;have:z=0:=hc.1;rw[this];rfl
 have hi0:firstIter (g::gs) ε=eval g.iter ε:=by obtain⟨t,i,f,z⟩:=g;rfl
 rw[ha0,hi0];have tA:gK (g::gs)=targetsOf g.target++gK gs:=by simp[gK]
 have I:∀x,(x,NameKind.free)∈sc.names->(ε.cells.lookup x).isSome=true:=λx S=>by have:=qW (hok _ S);rw[<-F.names]at this;refine mG (λc v ec Z=>?_) (F.cells x this);rw[ec];rfl
 refine Sv (σ:=σ) (hp 0 ε).cl (uc H hds) F.kind F.names hk hu I ?_;refine BP H K R F hds λzp hz it h₁ J m T V X1 M=>?_;refine hnew (s:=(zs s h₁ J)) ?_;dsimp only;have G:∀b o',h₁.get? b=some o'->(h₁.push o).get? b=some o':=λb o' e=>aP _ e;have j:∀b o',(h₁.push o).get? b=some o'->(il (h₁.push o) sc).get? b=some o':=yF sc;have O:(h₁.push o).objs.size=h₁.objs.size+1:=dW ..;have lo1:412<=h₁.objs.size:=W.size M;have F1:=F.ext X1 M;have F3:=(F1.open (ho h₁) hnc).inner hs;have F1m:gw W ε (m++bad) σ h₁:=F.more X1 M V λb d=>⟨(T.lo b d).2.1,(T.lo b d).2.2⟩;have F3m:=(F1m.open (ho h₁) hnc).inner hs;generalize hB:qZ ε sc (h₁.push o).objs.size (h₁.objs.size::bad)=B at F3;have p:∀b,b∈B<->b=(h₁.push o).objs.size\/b∈(cellsFrom ((h₁.push o).objs.size+1) sc.names []).map (·.2)\/b=h₁.objs.size\/b∈bad:=λb=>by rw[<-hB];unfold qZ;simp
 have F3m:gw W (gJ ε sc σ (h₁.push o).objs.size) (m++B) (under sc σ) (il (h₁.push o) sc):=F3m.same λb=>by
  unfold qZ;simp only[au,bj,p];constructor
  ·rintro (q|q|q|q|q)
   ·exact .inr (.inl q)
   ·exact .inr (.inr (.inl q))
   ·exact .inr (.inr (.inr (.inl q)))
   ·exact .inl q
   ·exact .inr (.inr (.inr (.inr q)))
  ·rintro (q|q|q|q|q)
   ·exact .inr (.inr (.inr (.inl q)))
   ·exact .inl q
   ·exact .inr (.inl q)
   ·exact .inr (.inr (.inl q))
   ·exact .inr (.inr (.inr (.inr q)))
 have C:∀{b},b∈B->b∈bad\/h₁.objs.size<=b:=λd=>by
  rcases (p _).mp d with rfl|q|rfl|q
  ·right;rw[O];exact cC _
  ·obtain⟨⟨x,c⟩,hm,rfl⟩:=aG.mp q
   right
   have:=jZ hm;rw[O]at this;exact dR this
  ·exact .inr (bG _)
  ·exact .inl q
 have mlt:∀{b},b∈m->b<h₁.objs.size:=λd=>by refine yE (λo' P=>?_) (bz.mp (T.lo _ d).2.2.alive);exact aZ P
 have hm:∀b∈m,b∉B:=λb d q=>by
  refine aC (C q) (λq=>?_) (λq=>?_)
  ·have:=(F.old b q).1.alive
   rw[V b d]at this;nomatch this
  ·exact absurd (mlt d) (bc.mpr q)
 have T3:Iter prog w (m++B) (il (h₁.push o) sc) zp m it ds:=by
  refine(T.less (λb d=>?_) λb d=>bK _ d).mono λb o' Z e=>j _ _ (G _ _ e);refine aC (bj.mp d) (λq=>?_) (λq=>?_)
  ·exact .inl (bK _ q)
  ·refine aC (C q) (λq=>?_) (λq=>?_)
   ·exact .inl (aD _ q)
   ·exact .inr (pQ q)
 have eo:=EO h₁.objs.size (gJ ε sc σ (h₁.push o).objs.size);have acc3:Acc h₁.objs.size (m++B) (il (h₁.push o) sc) []:=eo.mono (h0 _ _) λb o' Z e=>j _ _ e;have haB:h₁.objs.size∈B:=(p _).mpr (.inr (.inr (.inl rfl)));have hal:h₁.objs.size≠(gJ ε sc σ (h₁.push o).objs.size).locals:=by show h₁.objs.size≠(h₁.push o).objs.size;rw[O];exact bY (eF _)
 have hac:∀y,(gJ ε sc σ (h₁.push o).objs.size).cells.lookup y≠some h₁.objs.size:=λy q=>by
  have hm':(y,h₁.objs.size)∈cellsFrom ((h₁.push o).objs.size+1) sc.names (lM ε sc.names []):=mem_of_lookup q;rw[jz]at hm';refine aC (bj.mp hm') (λq=>?_) (λq=>?_)
  ·have:=jZ q
   rw[O]at this;exact absurd this (Nat.not_le.mpr (eF _))
  ·refine aC (nZ.mp q) (λq1=>?_) (yA λq1 q2=>?_)
   ·simp at q1
   ·refine yE (λc hc'=>?_) (bz.mp (I y q1))
    rw[hc']at q2;refine yA (λd Z=>?_) (F1.cin y c hc');refine yE (λo' P=>?_) (bz.mp (F1.old c d).1.alive);have:=aZ P;have q2:h₁.objs.size=c:=q2;rw[q2]at this;exact absurd this (eY _)
 have IN:vA W A (gJ ε sc σ (h₁.push o).objs.size) h₁.objs.size e (g::gs) (em h₁.objs.size (gJ ε sc σ (h₁.push o).objs.size)) (Acc h₁.objs.size) Good (gK (g::gs)) 0 (gK gs) (wQ r emit gs):=
  QV H K R eo (hp _ _) lo1 hal hac gs 0 rfl (λc hc=>hcl c (.tail _ hc)) (λx S=>by rw[tA];exact aD _ S) (by rw[tA]at X;exact(cZ.mp X).2.1)
 refine Ds (hp _ _) rfl hc.1 (Ek (s:=(zs s (il (h₁.push o) sc) J)) H R eo (hp _ _) lo1 hal hac (g:=g) rfl hc (λx S=>by rw[tA];exact bK _ S) (by rw[<-tA];exact X) IN ht T3 hz F3m acc3 good hm F3.tos7.still haB
  (λx S=>Bc hu (htl x (by rw[tA];exact S))) λh4 t4 F4 acc4 k4=>?_) λQ E q=>Iter.self (s:=(zs s (il (h₁.push o) sc) J)) T3 q
 have hn1:h₁.objs.size∉bad:=F1.tos7.lX.fresh;have U:∀{b},h₁.objs.size<=b->b∉bad:=λd q=>by refine yE (λo' P=>?_) (bz.mp (F1.old _ q).1.alive);exact absurd (aZ P) (bc.mpr d)
 have u:h₁.objs.size<=(h₁.push o).objs.size:=by rw[O];exact cC _
 have l:∀{b},h₁.objs.size<=b->b∉Tb->s.heap.get? b=none:=λd t=>by
  induction e':s.heap.get? _ using aK with
  |none=>rfl
  |some o'=>
   have:=X1 _ o' t e';rw[pQ d]at this;exact nn this
 have Hi:∀{b},h₁.objs.size<=b->b∉Tb:=λd=>pC (aA lo1 d);refine yE (λmm hns=>?_) F4.ns;refine fin h₁.objs.size (h₁.push o).objs.size h4 t4 mm hn1 (U u) hal lo1 (aA lo1 u) (l u (Hi u)) (l (bG _) (Hi (bG _))) (eo.less acc4 λb d=>.inl ((p b).mpr (by
  refine aC (au.mp d) (λq=>?_) (λq=>?_)
  ·exact .inr (.inr (.inl q))
  ·refine aC (au.mp q) (λq=>?_) (λq=>?_)
   ·exact .inl q
   ·exact .inr (.inr (.inr q))))) ?_ F4.S hns
 intro b o' d e';have e1:=X1 b o' d e';refine k4 b o' (λq=>?_) (λq=>by rw[V b q]at e';exact nn e') (j _ _ (G _ _ e1));have Y:=aZ e1;revert q;refine yO (λq=>?_) (λρ=>aC ρ (λq=>?_) (λρ2=>aC ρ2 (λq=>?_) (cW λx S q=>?_)))
 ·exact d q
 ·have q:b=(h₁.push o).objs.size:=q
  subst q;exact absurd Y (bc.mpr u)
 ·subst q;exact eY _ Y
 ·have:=jZ (Lp hu (htl x S) q)
  exact absurd Y (bc.mpr (aA u this))
end
noncomputable def XS (prog:Program)(w:World)(a:Addr)(bad:List Addr)(h:Heap)(xs:List D):Prop:=∃items,h.PlainList a items/\fB prog w bad h items.toList xs
theorem R0 (H:cL W fA n r)(R:fj n A)(t:Expr)(a:Addr)(l:Env):
 uv W A l a (λσ=>r.ev σ t) (do let _<-call (.builtin "list.append") [.ref a,<-eval t l]) (XS prog w a) (λxs=>xs.length<=1000000) where
 mono:=λ⟨items,hl,i⟩ k=>⟨items,hl.at λo e=>k _ o (.inr rfl) e,i.mono λb o u e=>k b o (.inl u) e⟩
 less:=λ⟨items,hl,i⟩ k=>⟨items,hl,i.less k⟩
 pre:=λxs X h=>by rw[aW]at h;lia
 step:=by
  intro bad σ x xs s Q E U f F ⟨items,hl,i⟩ C K M N G;refine aj (H.ev U R F λv c d V I j=>?_);have m:c.PlainList a items:=hl.at λo e=>I a o (pC K) e;have y:=i.mono (fY F.tb I);have z:items.size<=sizeLine:=by have:=i.length;rw[aW]at f;simp at this;rw[this];exact aA (aA (Nat.le_add_right _ _) f) (by decide)
  refine aj (wpAny_list_append_plain (s:=(zs s c d)) m (λL p g=>aB ?_) z);have J:∀b o,b∉bad->c.get? b=some o->L.get? b=some o:=λb o u e=>g.extBut b o (λq=>u (q▸C)) e;refine G L d ⟨_,p,?_⟩ (λb o P B e=>g.extBut b o B (I b o P e)) ?_ (let ⟨_,T⟩:=m;Wd.j0 j K T (gF λO e=>nomatch e) λb o u e=>g.extBut b o u e)
  ·rw[Array.toList_push]
   exact(y.mono J).append (.cons (V.mono J) .nil)
  ·revert p;refine yE λo S=>?_
   exact⟨_,S,gF λO e=>nomatch e⟩
theorem Fd (H:cL W fA n r)(K:Hk W fA)(R:fj n A)(F:gw W ε bad σ s.heap){d:Expr}{c:List Comprehension}{sc:Scope}{p:Pos}{ys:List D}{Q:VP}
 (ht:iz r (λσ=>r.ev σ d) c sc σ=some ys)(g:small ys.length=true)(G:Gives W bad s (.list ys) Q):wpAny (model prog w) A (eval (.ListComp d c sc p) ε) Q E s:=by
 rw[eval_ListComp];refine vf (Acc:=XS prog w) (o:={cls:=.type "list",data:=.seq #[]}) (em:=λa f=>(do let _<-call (.builtin "list.append") [.ref a,<-eval d f])) H K R (λq=>wpAny_newList q) (λh=>aL _ rfl) (gF λB e=>nomatch e)
  (λbad h=>⟨#[],⟨0,aL _ rfl⟩,.nil⟩) (λa f=>R0 H R d a f) (λa f=>t7 d c sc p _ _) F ht (gR g) λa L O tk m N P x z u J y ⟨t,hl,C⟩ X S i=>?_
 refine⟨m,i,λj I=>?_⟩;have l:∀b o,b≠L->O.get? b=some o->j.get? b=some o:=λb o k e=>I.extBut b o k e;refine G _ j tk (.list N (hl.at λo e=>l a o x e) ((C.mono λb o k e=>l b o (λq=>k (by simp[q])) e).shut.shut)) (λb o k e=>l b o (λq=>by subst q;rw[J]at e;exact nn e) (X b o k e))
  (let ⟨_,_,_,M,v,_⟩:=i;Wd.j0 S u M (gF λB e=>by rw[v]at e;nomatch e) l)
noncomputable def AccD (prog:Program)(w:World)(a:Addr)(bad:List Addr)(h:Heap)(xs:List (Str×D)):Prop:=∃vs,h.DictOf (strKind prog w) a ((xs.map (·.1)).zip vs)/\fB prog w bad h vs (xs.map (·.2))
theorem stored_new {K:Type} [DecidableEq K] {kvs:List (K×Value)}{k:K}{v:Value}(h:k∉kvs.map (·.1)):stored kvs k v=kvs++[(k,v)]:=by unfold stored;rw[aq];intro q;refine cW (λx a e=>?_) (List.any_eq_true.mp q);exact h (aG.mpr ⟨x,a,by simpa using e⟩)
theorem YS (H:cL W fA n r)(R:fj n A)(k v:Expr)(a:Addr)(j:Env):
 uv W A j a (pairD r k v) (do
  let kv<-eval k j
  let N<-holding [kv] (eval v j)
  standAt {k.pos with endLine:=v.pos.endLine,endCol:=v.pos.endCol}
  holding [kv,N] (dictSet a kv N)) (AccD prog w a) (λxs=>(xs.map (·.1)).Nodup/\xs.length<=1000000) where
 mono:=λ⟨i,L,B⟩ k=>⟨i,L.at λo e=>k _ o (.inr rfl) e,B.mono λb o M e=>k b o (.inl M) e⟩
 less:=λ⟨i,L,B⟩ k=>⟨i,L,B.less k⟩
 pre:=λxs ys h=>by revert h;refine yA λh1 h2=>?_;rw[bu]at h1;rw[aW]at h2;exact⟨(cZ.mp h1).1,by lia⟩
 step:=by
  intro bad σ x xs s Q E z c F ⟨i,L,B⟩ U ha hal hac u;revert c u;refine gQ z λY hk z=>rz (P:=λY=>r.ev σ k=some Y->_) cH z (λy z hk=>gQ z λd hv z=>someE z λc u=>?_) hk
  ·skip
   refine aj (H.ev hk R F λkv G C R1 X1 J=>?_);refine aj (bF (H.ev (s:=(zs s G C)) hv R (F.ext X1 J) λN f t2 R2 X2 S2=>?_));refine aj (bR (bF ?_));refine yE (λt V=>?_) R1.xT;rw[V];have X:=X1.trans X2;have K:f.DictOf (strKind prog w) a ((xs.map (·.1)).zip i):=L.at λo e=>X a o (pC ha) e;have O:=B.mono (fY F.tb X);have g:(xs.map (·.1)).length=i.length:=by have:=B.length;simp at this⊢;exact this.symm
   have S:((xs.map (·.1)).zip i).length<=sizeLine:=by have:=c.2;rw[aW]at this;rw[List.length_zip,<-g,Nat.min_self,ak];exact aA (aA (Nat.le_add_right _ _) this) (by decide)
   refine wpAny_dictSet_pairs (s:=(zs s f t2)) (strKind_is _ _ _ _) K (λh' p l=>?_) S;have I:y∉((xs.map (·.1)).zip i).map (·.1):=by rw[List.map_fst_zip (Nat.le_of_eq g)];have:=c.1;rw[bu]at this;exact λq=>(cZ.mp this).2.2 y q y (by simp) rfl
   rw[stored_new I]at p;have kb:∀b o,b∉bad->f.get? b=some o->h'.get? b=some o:=λb o M e=>l.extBut b o (λq=>M (q▸U)) e;refine u h' _ ⟨i++[N],?_,?_⟩ (λb o V T e=>l.extBut b o T (X b o V e)) ?_ (let ⟨_,_,_,hg,_,m,_⟩:=K;Wd.j0 S2 ha hg (gF λi e=>by rw[m]at e;nomatch e) λb o M e=>l.extBut b o M e)
   ·rw[bu,aX,List.map_nil,List.zip_append g]
    exact p
   ·rw[bu]
    exact(O.mono kb).append (.cons (R2.mono kb) .nil)
   ·revert p;refine rM λo Z Z ho Z m Z=>?_
    exact⟨o,ho,gF λi e=>by rw[m]at e;nomatch e⟩
theorem zQ (k v a scope pos):eval (.DictComp k v a scope pos) ε=comprehension (.DictComp k v a scope pos) scope ε (firstIterPos a pos) newDict (firstAsync a) (firstIter a ε):=rfl
theorem yg {Q:VP}(q:Q (.ref s.heap.objs.size) {s with heap:=s.heap.push {cls:=.type "dict",data:=.dict #[]}}):wpAny (model prog w) A newDict Q E s:=by simp only[newDict,newObj];exact aj (wpAny_alloc (aB q))
theorem Fe (H:cL W fA n r)(K:Hk W fA)(R:fj n A)(F:gw W ε bad σ s.heap){k v:Expr}{c:List Comprehension}{sc:Scope}{p:Pos}{ys:List (Str×D)}{Q:VP}
 (ht:iz r (pairD r k v) c sc σ=some ys)(f:wC (ys.map (·.1))=true/\small ys.length=true)(G:Gives W bad s (.sdict (ys.map (·.1)) (ys.map (·.2))) Q):wpAny (model prog w) A (eval (.DictComp k v c sc p) ε) Q E s:=by
 rw[zQ];refine vf (Acc:=AccD prog w) (o:={cls:=.type "dict",data:=.dict #[]}) (em:=λa d=>(do
  let z<-eval k d
  let B<-holding [z] (eval v d)
  standAt {k.pos with endLine:=v.pos.endLine,endCol:=v.pos.endCol}
  holding [z,B] (dictSet a z B))) H K R (λq=>yg q) (λh=>aL _ rfl) (gF λC e=>nomatch e)
  (λbad h=>⟨[],Heap.DictOf.new h,.nil⟩) (λa d=>YS H R k v a d) (λa d=>ye k v c sc p _ _) F ht ⟨qN f.1,gR f.2⟩ λa L U tk m T V y u t N J ⟨C,P,I⟩ X S g=>?_
 refine⟨m,g,λi M=>?_⟩;have l:∀b o,b≠L->U.get? b=some o->i.get? b=some o:=λb o j e=>M.extBut b o j e;refine G _ i tk (.sdict T ?_ ?_ (P.at λo e=>l a o y e) ((I.mono λb o j e=>l b o (λq=>j (by simp[q])) e).shut.shut)) (λb o j e=>l b o (λq=>by subst q;rw[N]at e;exact nn e) (X b o j e))
  (let ⟨_,_,_,O,x,_⟩:=g;Wd.j0 S t O (gF λC e=>by rw[x]at e;nomatch e) l)
 ·exact beq_eq_false_iff_ne.mpr λq=>by subst q;exact absurd u (by decide)
 ·have:=I.length
  simp at this⊢;exact this.symm
theorem Qc (a:Int)(r:List Int):uQ a r∈a::r/\∀x∈a::r,x<=uQ a r:=by
 induction r generalizing a with
 |nil=>exact⟨.head _,λx d=>Int.le_of_eq (dj.mp d)⟩
 |cons b r c=>
  show uQ (if b > a then b else a) r∈_/\∀x∈_,x<=uQ (if b > a then b else a) r;by_cases q:b > a
  ·rw[ao q]
   exact⟨.tail _ (c b).1,λx d=>(au.mp d).elim (λe=>e▸Int.le_trans (Int.le_of_lt q) ((c b).2 _ (.head _))) ((c b).2 x)⟩
  ·rw[aq q]
   exact⟨(au.mp (c a).1).elim (λe=>by rw[e];exact .head _) λe=>.tail _ (.tail _ e),λx d=>(au.mp d).elim (λe=>(c a).2 x (e▸.head _)) λd=>(au.mp d).elim (λe=>e▸Int.le_trans (Int.not_lt.mp q) ((c a).2 _ (.head _))) λe=>(c a).2 x (.tail _ e)⟩
theorem PT (a:Int)(r:List Int):zO a r∈a::r/\∀x∈a::r,zO a r<=x:=by
 induction r generalizing a with
 |nil=>exact⟨.head _,λx d=>Int.le_of_eq (dj.mp d).symm⟩
 |cons b r c=>
  show zO (if b<a then b else a) r∈_/\∀x∈_,zO (if b<a then b else a) r<=x;by_cases q:b<a
  ·rw[ao q]
   exact⟨.tail _ (c b).1,λx d=>(au.mp d).elim (λe=>e▸Int.le_trans ((c b).2 _ (.head _)) (Int.le_of_lt q)) ((c b).2 x)⟩
  ·rw[aq q]
   exact⟨(au.mp (c a).1).elim (λe=>by rw[e];exact .head _) λe=>.tail _ (.tail _ e),λx d=>(au.mp d).elim (λe=>(c a).2 x (e▸.head _)) λd=>(au.mp d).elim (λe=>e▸Int.le_trans ((c a).2 _ (.head _)) (Int.not_lt.mp q)) λe=>(c a).2 x (.tail _ e)⟩
theorem sr {ds:List D}{vs:List Value}{ns:List Int}(e:mF ds=some ns)(R:fB prog w bad h vs ds):IntsAre vs ns:=by
 induction ds generalizing vs ns with
 |nil=>exact R.yf (someE e .nil)
 |cons d ds b=>exact R.nA λv f r a=>jx (P:=λd=>RD prog w bad h v d->_) cH e (λi e r=>gQ e λns c e=>someE e (r.jg λt=>.cons i t (b c a))) r
theorem z7 {ds:List D}{vs:List Value}{ns:List Str}(e:z8 ds=some ns)(R:fB prog w bad h vs ds):StrsAre vs ns:=by
 induction ds generalizing vs ns with
 |nil=>exact R.yf (someE e .nil)
 |cons d ds b=>exact R.nA λv f r a=>rz (P:=λd=>RD prog w bad h v d->_) cH e (λi e r=>gQ e λns c e=>someE e (r.pA λt=>.cons i t (b c a))) r
theorem TY {b:Heap}{vs:List Value}{ns:List Str}(h:StrsAre vs ns):fB prog w bad b vs (ns.map .str):=by
 induction h with
 |nil=>exact .nil
 |cons y t r a=>exact .cons (.str y t) a
theorem K4 {l:Addr}{items:Array Value}{a:Int}{rr:List Int}{Q:VP}(q:A.handled=none)(hl:s.heap.IsList l items)(hi:IntsAre items.toList (a::rr))
 (k:∀h' t tk,(∀b o,s.heap.get? b=some o->h'.get? b=some o)->Q (.int (uQ a rr) t) (zs s h' tk)):wpAny (model prog w) A (call (.builtin "max") [.ref l]) Q E s:=by
 refine yE (λxs e=>?_) hi.allInts.items;have e:items=intItems xs:=by simpa using e
 have c:a::rr=xs.toList.map (·.1):=by rw[<-hi.numsOf,<-nums_intItems,<-e]
 have d:0<xs.size:=by
  have u:(a::rr).length=xs.size:=by rw[c,ak,cX]
  rw[bx]at u
  lia
 rw[e]at hl;refine max_intList q hl d λv h' tk m hk=>?_;refine yE (λt f=>?_) (intItems_at m);subst f;refine yA (λy x=>?_) (argBest_gt (numAt xs) (xs.size - 1));refine yA (λm1 g=>?_) (Qc a rr);have e:numAt xs (argBest (λi j=>decide (numAt xs i > numAt xs j)) (xs.size - 1))=uQ a rr:=by
  apply Int.le_antisymm
  ·apply g
   rw[c,numAt_eq];exact PySem.getD_mem (by rw[ak,cX];omega)
  ·rw[c]at m1
   refine cW (λj p e=>?_) (mem_getD m1);rw[ak,cX]at p;rw[<-c]at e;rw[<-e,c,<-numAt_eq];exact x j (by exact Nat.le_sub_one_of_lt ‹_›)
 rw[e];exact k h' t tk hk
theorem K3 {l:Addr}{items:Array Value}{a:Int}{rr:List Int}{Q:VP}(q:A.handled=none)(hl:s.heap.IsList l items)(hi:IntsAre items.toList (a::rr))
 (k:∀h' t tk,(∀b o,s.heap.get? b=some o->h'.get? b=some o)->Q (.int (zO a rr) t) (zs s h' tk)):wpAny (model prog w) A (call (.builtin "min") [.ref l]) Q E s:=by
 refine yE (λxs e=>?_) hi.allInts.items;have e:items=intItems xs:=by simpa using e
 have c:a::rr=xs.toList.map (·.1):=by rw[<-hi.numsOf,<-nums_intItems,<-e]
 have d:0<xs.size:=by
  have u:(a::rr).length=xs.size:=by rw[c,ak,cX]
  rw[bx]at u
  lia
 rw[e]at hl;refine min_intList q hl d λv h' tk m hk=>?_;refine yE (λt f=>?_) (intItems_at m);subst f;refine yA (λy x=>?_) (argBest_lt (numAt xs) (xs.size - 1));refine yA (λm1 g=>?_) (PT a rr);have e:numAt xs (argBest (λi j=>decide (numAt xs i<numAt xs j)) (xs.size - 1))=zO a rr:=by
  apply Int.le_antisymm
  ·rw[c]at m1
   refine cW (λj p e=>?_) (mem_getD m1);rw[ak,cX]at p;rw[<-c]at e;rw[<-e,c,<-numAt_eq];exact x j (by exact Nat.le_sub_one_of_lt ‹_›)
  ·apply g
   rw[c,numAt_eq];exact PySem.getD_mem (by rw[ak,cX];omega)
 rw[e];exact k h' t tk hk
theorem Ko {l:Addr}{items:Array Value}{ns:List Int}{Q:VP}(c:A.handled=none)(hl:s.heap.IsList l items)(hi:IntsAre items.toList ns)
 (k:∀h' t tk,(∀b o,s.heap.get? b=some o->h'.get? b=some o)->Q (.int ns.sum t) (zs s h' tk)):wpAny (model prog w) A (call (.builtin "sum") [.ref l]) Q E s:=by
 refine yE (λxs e=>?_) hi.allInts.items;have e:items=intItems xs:=by simpa using e
 have a:ns=xs.toList.map (·.1):=by rw[<-hi.numsOf,<-nums_intItems,<-e]
 rw[e]at hl;refine sum_intListG c hl λh' tk t hk=>?_;have:=k h' t tk hk;rw[preSum_eq,dK (by simp),<-a];exact this
theorem GK:∀k:Fin 10,(((k.val:Int).natAbs.log2<1920:Bool)&&(Str.ofString (toString (k.val:Int))==(⟨#[48+(k.val:Int).toNat]⟩:Str)))=true:=by decide+kernel
theorem Km {i:Int}{x:Str}(e:textOf i=some x):i.natAbs.log2<1920/\(Str.ofString (toString i))=x:=
 j9 e λa e=>someE e (by have h:=GK ⟨i.toNat,by lia⟩;dsimp only at h;rw[Int.toNat_of_nonneg a.1,bJ]at h;exact⟨bw h.1,eq_of_beq h.2⟩)
theorem KQ:∀k:Fin 10,(decide (PySem.intText? ⟨#[48+k.val]⟩=some (Int.ofNat (48+k.val - 48))))=true:=by decide+kernel
theorem Pz {x:Str}{i:Int}(e:numOf x=some i):PySem.intText? x=some i/\x.length<=640:=by obtain⟨⟨l⟩⟩:=x;refine jo (l:=l) cH e λc e=>j9 e λa e=>someE e ⟨?_,by show 1<=640;decide⟩;have h:=bw (KQ ⟨c - 48,by omega⟩);dsimp only at h;rw[show 48+(c - 48)=c by simp_all]at h;exact h
theorem U0 {x y:Str}(h:x.cps.toList=y.cps.toList):x=y:=by
 induction x using Str.casesOn with
 |mk a=>induction y using Str.casesOn with
  |mk b=>exact bD Str.mk (by induction a using Array.casesOn;induction b using Array.casesOn;exact bD Array.mk h)
noncomputable def Gr (x y:Str):Prop:=x.cps.toList<=y.cps.toList
theorem BJ {x y:Str}:Gr x y<->K6 y x=false:=by unfold Gr K6;rw[decide_eq_false_iff_not];exact List.not_lt.symm
theorem Ah {x y z:Str}(a:Gr x y)(b:Gr y z):Gr x z:=List.le_trans a b
theorem Qp {x y:Str}(a:Gr x y)(b:Gr y x):x=y:=U0 (List.le_antisymm a b)
theorem Le (x y:Str):Gr x y\/Gr y x:=List.le_total _ _
theorem Ao (x y:Str)(l:List Str):QT x (y::l)=if K6 x y then x::y::l else y::QT x l:=rfl
theorem An (x:Str)(l:List Str):(QT x l).Perm (x::l):=by
 induction l with
 |nil=>exact .refl _
 |cons y l a=>
  rw[Ao];by_cases q:K6 x y=true
  ·rw[ao q]
  ·rw[aq q]
   exact(a.cons y).trans (.swap _ _ _)
theorem GZ (l:List Str):(Dv l).Perm l:=by
 induction l with
 |nil=>exact .refl _
 |cons x l a=>exact(An x (Dv l)).trans (a.cons x)
theorem Ep (x:Str){l:List Str}(h:l.Pairwise Gr):(QT x l).Pairwise Gr:=by
 induction l with
 |nil=>exact List.pairwise_singleton _ _
 |cons y l d=>
  have c:=List.pairwise_cons.mp h;rw[Ao];by_cases q:K6 x y=true
  ·rw[ao q]
   have a:Gr x y:=(Le x y).elim id λe=>by rw[BJ,q]at e;nomatch e
   exact List.pairwise_cons.mpr ⟨λz b=>(au.mp b).elim (λe=>e▸a) λb=>Ah a (c.1 z b),h⟩
  ·rw[aq q]
   exact List.pairwise_cons.mpr ⟨λz b=>(au.mp ((An x l).mem_iff.mp b)).elim (λe=>e▸BJ.mpr (Bool.eq_false_iff.mpr q)) (c.1 z),d c.2⟩
theorem Bg (l:List Str):(Dv l).Pairwise Gr:=by
 induction l with
 |nil=>exact .nil
 |cons x l a=>exact Ep x a
theorem Ab:∀(l:List Str)(p:Str),risingS p l=true->(p::l).Pairwise Gr
 |[],p,_=>List.pairwise_singleton _ _
 |x::r,p,h=>by
  unfold risingS at h;refine yA (λb c=>?_) (az.mp h);have a:Gr p x:=BJ.mpr (by rw[ltCps_eq]at b;simpa[K6]using b);have:=Ab r x c;refine List.pairwise_cons.mpr ⟨λz hz=>?_,this⟩;rcases au.mp hz with rfl|hz
  ·exact a
  ·exact Ah a ((List.pairwise_cons.mp this).1 z hz)
theorem GX {l m:List Str}(h:sortedS l=true)(p:l.Perm m):l=Dv m:=by
 have c:l.Pairwise Gr:=by
  induction l using gY with
  |nil=>exact .nil
  |cons x r=>exact Ab r x h
 exact List.Perm.eq_of_pairwise (λa b Z Z=>Qp) c (Bg m) (p.trans (GZ m).symm)
theorem xZ (a b:Int):Builtin.Range.rangeSize a b 1=((b - a).toNat:Int):=by unfold Builtin.Range.rangeSize;rw[ao (by decide)];split<;>lia
theorem Ha {e:Heap}{a:Int}:∀{k:Nat}{vs:List Value},vs.length=k->(∀(j:Nat)(v:Value),vs[j]? =some v->∃t,v=Value.int (a+j) t)->fB prog w bad e vs ((List.range k).map λ(i:Nat)=>.int (a+i)):=by
 intro k
 induction k generalizing a with
 |zero=>intro vs hl Z;have:=cO.mp hl;subst this;exact .nil
 |succ k d=>
  intro vs hl c
  induction vs using gY with
  |nil=>simp at hl
  |cons v vs=>
   refine yE (λt b=>?_) (c 0 v (by simp));subst b;rw[List.range_succ_eq_map,aX,aV];refine .cons (by simpa using RD.int (a+((0:Nat):Int)) t) ?_;have:=d (a:=a+1) (vs:=vs) (by simpa using hl) λj v f=>by refine yE (λt b=>?_) (c (j+1) v (by simpa using f));subst b;exact⟨t,by congr 1;push_cast;lia⟩
   have g:((List.range k).map λ(i:Nat)=>D.int (a+1+i))=(List.range k).map ((λ(i:Nat)=>D.int (a+i))∘Nat.succ):=by apply cj;intro j Z;exact bD D.int (by rw[Int.add_assoc,Int.add_comm 1];rfl)
   rw[g]at this;exact this
noncomputable def w7 (W:Wd prog w gD)(bad:List Addr)(v:Value)(ds:List D)(d:D):Prop:=∀{A:Around}{vs:List Value}{s:Shared}{Q:VP}{E:VP},fB prog w bad s.heap vs ds->W.S s.heap->gV bad s.heap->A.handled=none->Gives W bad s d Q->wpAny (model prog w) A (call v vs) Q E s
section
variable {ds:List D}{d:D}
theorem bi_len (e:Zj ds=some d):w7 W bad (.builtin "len") ds d:=by intro A k s Q E b i B o G;revert b G;refine jo cH e λa e=>lz cH e λj e=>j9 e λg e=>someE e λb G=>b.qD λv R=>R.listE λl c Z hl m f=>?_;exact call_len_list hl (by have:=gR g;lia) (f▸G.flat i (.int _ _) _)
theorem bi_chr (e:Zm ds=some d):w7 W bad (.builtin "chr") ds d:=by intro A f s Q E b c B j G;revert b G;refine jo cH e λa e=>jx cH e λi e=>j9 e λg e=>someE e λb G=>b.qD λv R=>R.jg λt=>?_;exact P.chr_of_int (by simp;omega) (G.flat c (.str _ _) _)
theorem bi_ord (e:Zh ds=some d):w7 W bad (.builtin "ord") ds d:=by intro A g s Q E b f B i G;revert b G;refine jo cH e λa e=>rz cH e λx e=>?_;obtain⟨⟨l⟩⟩:=x;refine jo (l:=l) cH e λc e=>someE e λb G=>b.qD λv R=>R.pA λt=>P.ord_of_char (G.flat f (.int _ _) _)
theorem bi_str (e:Zg ds=some d):w7 W bad (.type "str") ds d:=by intro A g s Q E b f B j G;revert b G;refine jo cH e λa e=>jx cH e λi e=>nH e λy c b G=>b.qD λv R=>R.jg λt=>?_;have q:=Km c;exact PySem.P.str_of_int q.1 (q.2.symm▸G.flat f (.str _ _) _)
theorem bi_int (e:Zk ds=some d):w7 W bad (.type "int") ds d:=by intro A g s Q E b f B i G;revert b G;refine jo cH e λa e=>rz cH e λx e=>nH e λy c b G=>b.qD λv R=>R.pA λt=>?_;have q:=Pz c;exact PySem.W.KIN.call_text q.1 q.2 (G.flat f (.int _ _) _)
theorem bi_max (e:Zi ds=some d):w7 W bad (.builtin "max") ds d:=by
 intro A z s Q E f p B o G;revert f G;refine nJ cH e λa t e=>?_
 induction t using gY with
 |nil=>exact lz (x:=a) cH e λy e=>gQ e λg m e=>nJ (l:=g) (P:=λg=>mF y=some g->_) cH e (λx r e m=>someE e λf G=>f.qD λv R=>R.listE λl q Z hl C J=>
  K4 o hl (sr m C) λF t tk k=>G _ _ _ (.int _ _) (Ext.iT k) (W.pZ p k)) m
 |cons b t=>
  refine jx (x:=a) cH e λi e=>jo (P:=λl=>fB prog w bad s.heap z (_::l)->_) (l:=b::t) cH e λc e=>jx cH e λj e=>someE e λf G=>f.Kc λv u R H=>R.jg λt=>H.jg λI=>?_;exact max_two_ints o λF tk k=>G _ _ _ (by split<;>exact .int _ _) (Ext.iT k) (W.pZ p k)
theorem bi_min (e:JV ds=some d):w7 W bad (.builtin "min") ds d:=by
 intro A p s Q E f o B m G;revert f G;refine jo cH e λa e=>lz cH e λi e=>gQ e λb c e=>nJ (l:=b) (P:=λb=>mF i=some b->_) cH e (λx r e c=>someE e λf G=>f.qD λv R=>R.listE λl g Z hl j q=>
  K3 m hl (sr c j) λu t tk k=>G _ _ _ (.int _ _) (Ext.iT k) (W.pZ o k)) c
theorem bi_sum (e:Zf ds=some d):w7 W bad (.builtin "sum") ds d:=by intro A o s Q E b j B i G;revert b G;refine jo cH e λa e=>lz cH e λm e=>gQ e λp g e=>j9 e λZ e=>someE e λb G=>b.qD λv R=>R.listE λl c Z hl f q=>?_;exact Ko i hl (sr g f) λu t tk k=>G _ _ _ (.int _ _) (Ext.iT k) (W.pZ j k)
theorem Mz (e:Gg ds=some d):w7 W bad (.builtin "sorted") ds d:=by intro A vs s Q E i C B M G;revert i G;refine jo cH e λa e=>lz cH e λJ e=>gQ e λt y e=>j9 e λL e=>someE e λi G=>i.qD λv R=>R.listE λl c Z hl p K=>?_;have g:=z7 y p;have j:c.toList.length=t.length:=g.len_eq;refine sorted_strs (vs:=c.toList) (by rw[Array.toArray_toList];exact hl) g (by lia) λf m I H F=>?_;have u:=GX F H;refine yE (λN z=>?_) (sortedAll_at s.heap c.toList f);have k:∀b o,s.heap.get? b=some o->(sortedAll s.heap c.toList f).get? b=some o:=λb o q=>sortedAll_old q;refine G _ _ s.toks (.list (items:=f) (λq=>?_) ⟨_,z⟩ (u▸TY I)) (Ext.iT k) (W.pZ C k);refine yE (λo x=>?_) (bz.mp (B.old _ q).1.alive);exact absurd (aZ x) (bc.mpr (cC _))
theorem Tv (e:xG ds=some d):w7 W bad (.type "range") ds d:=by
 intro A k s Q E f g B p G;revert f G;refine nJ cH e λa t e=>jx cH e λi e=>?_
 induction t using gY with
 |nil=>exact j9 e λZ e=>someE e λf G=>f.qD λv R=>R.jg λt=>call_range_1 (G _ _ _ (.rng B.fresh (aL _ rfl)) ((Ext.refl _).push _) (W.pushS g _))
 |cons b t=>exact jo (P:=λl=>fB prog w bad s.heap k (_::l)->_) (l:=b::t) cH e λc e=>jx cH e λj e=>j9 e λZ e=>someE e λf G=>f.Kc λv u R m=>R.jg λt=>m.jg λo=>
  call_range_2 (G _ _ _ (.rng B.fresh (aL _ rfl)) ((Ext.refl _).push _) (W.pushS g _))
theorem Xy (e:Tw ds=some d):w7 W bad (.type "list") ds d:=by
 intro A C s Q E i z B p G;revert i G;refine jo cH e λa e=>Y7 cH e λa b e=>j9 e λg e=>someE e λi G=>i.qD λv R=>R.E λx t u q F m=>?_
 ·have J:=g.1
  have I:=bw g.2.1;have H:=bw g.2.2;refine call_list_range p m ?_ (xZ _ _) (by lia) λK tk f c k y l=>?_
  ·unfold Builtin.Range.small
   rw[xZ];simp[Builtin.Range.rangeFitsLong]
   lia
  ·refine G _ _ _ (.list (items:=f) B.fresh ⟨_,y⟩ (Ha (by simpa using l.1) λj v o=>?_)) (Ext.iT k) (W.pZ z k)
   refine yE (λt e=>?_) (l.2 j v (by simpa using o));exact⟨t,by rw[e,Int.mul_one]⟩
theorem bi_ok {x:Str}(e:biD x ds=some d):∃v,(x,v)∈ie/\w7 W bad v ds d:=
 wO (x:=x) e (λe=>⟨_,aY (i:=0) rfl,bi_len e⟩) λe=>wO (x:=x) e (λe=>⟨_,aY (i:=1) rfl,bi_chr e⟩) λe=>wO (x:=x) e (λe=>⟨_,aY (i:=2) rfl,bi_ord e⟩) λe=>
 wO (x:=x) e (λe=>⟨_,aY (i:=8) rfl,bi_str e⟩) λe=>wO (x:=x) e (λe=>⟨_,aY (i:=9) rfl,bi_int e⟩) λe=>wO (x:=x) e (λe=>⟨_,aY (i:=3) rfl,bi_max e⟩) λe=>
 wO (x:=x) e (λe=>⟨_,aY (i:=4) rfl,bi_min e⟩) λe=>wO (x:=x) e (λe=>⟨_,aY (i:=5) rfl,bi_sum e⟩) λe=>wO (x:=x) e (λe=>⟨_,aY (i:=6) rfl,Mz e⟩) λe=>
 wO (x:=x) e (λe=>⟨_,aY (i:=11) rfl,Tv e⟩) λe=>eqZ (x:=x) e λe=>⟨_,aY (i:=12) rfl,Xy e⟩
end
noncomputable def rI (prog:Program)(w:World)(W:Wd prog w gD)(bad:List Addr)(m:Str)(o:D)(ds:List D)(d:D):Prop:=
 ∃id,(∀{A:Around}{v:Value}{s:Shared}{a:Sem Bool}{Q:Value×List Value->Shared->Prop}{E:VP},RD prog w bad s.heap v o->Q (.builtin id,[v]) s->wpAny (model prog w) A (getMethod v m a) Q E s)/\
  ∀{A:Around}{v:Value}{vs:List Value}{s:Shared}{Q:VP}{E:VP},RD prog w bad s.heap v o->fB prog w bad s.heap vs ds->W.S s.heap->gV bad s.heap->A.handled=none->Gives W bad s d Q->wpAny (model prog w) A (call (.builtin id) (v::vs)) Q E s
theorem uH:∀{vs:List Value}{ns:List Str},StrsAre vs ns->∃l:List (Str×Tok),vs=strValues l/\l.map (·.1)=ns
 |_,_,.nil=>⟨[],rfl,rfl⟩
 |_,_,.cons y t r=>by refine cW (λl b a=>?_) (uH r);subst b;subst a;exact⟨(y,t)::l,rfl,rfl⟩
theorem joinFits {x:Str}(b:x.length<=2):∀{ts:List Str}{k:Nat},(ts.all λt=>Nat.ble t.length 100)=true->ts.foldl (· +·.length+x.length) k<=k+102 * ts.length
 |[],k,_=>by simp
 |t::ts,k,h=>by
  rw[List.all_cons]at h;refine yA (λa c=>?_) (az.mp h);have a:=bL a;rw[List.foldl_cons,bx];have:=joinFits b (k:=k+t.length+x.length) c
  lia
theorem Js {prog:Program}{w:World}{x:Str}{t:Tok}{l:Addr}{items:Array Value}{ts:List Str}{Q:VP}(hl:s.heap.IsList l items)(d:StrsAre items.toList ts)(o:ts.length<=1000)(h2:(ts.all λt=>Nat.ble t.length 100)=true)(h3:x.length<=2)
 (q:∀f k,Q (.str (Str.join x ts) f) {s with toks:=k}):wpAny (model prog w) A (call (.builtin "str.join") [.str x t,.ref l]) Q E s:=by
 refine cW (λa m g=>?_) (uH d);subst g;have c:s.heap.IsList l (strValues a).toArray:=by rw[<-m];simpa using hl
 have b:Builtin.Str.tooLong ((a.map (·.1)).toArray.foldl (· +·.length+x.length) 0)=false:=by
  have:=joinFits h3 (k:=0) h2;rw[List.foldl_toArray];have p:(a.map (·.1)).foldl (λj i=>j+i.length+x.length) 0<=102000:=by
   rw[ak]at o;have e:(a.map (·.1)).length=a.length:=ak ..;rw[e]at this
   lia
  unfold Builtin.Str.tooLong;simp only[decide_eq_false_iff_not];have:sizeLine=16777216:=by decide
  lia
 refine call_meets PySem.F.slot_str_join (typeIs_str _ _ _) PySem.F.entry_str_join (PySem.F.args_str_join_2 _ _) (meets_str_join_list x t l a b) ⟨c,post_join a ⟨joinFit_length b,λf k=>?_⟩⟩;have e:Txt.join x (a.map (·.1))=Str.join x (a.map (·.1)):=by unfold Txt.join;exact StrLaws.glued_eq_join _ _
 rw[e];exact q f k
theorem m_upper {x:Str}{ds:List D}{d:D}(e:Qe x ds=some d):rI prog w W bad (Str.ofString "upper") (.str x) ds d:=
 lV cH e λe=>j9 e λa e=>someE e ⟨"str.upper",λR q=>R.pA (λt q=>PySem.GM.upper q) q,λR b S B c G=>b.yf (R.pA λt=>
  PyProof.Rows.SCL.upper (aA (gR a) (by decide)) λZ=>G.flat S (.str _ _) _)⟩
theorem m_lower {x:Str}{ds:List D}{d:D}(e:Hl x ds=some d):rI prog w W bad (Str.ofString "lower") (.str x) ds d:=
 lV cH e λe=>j9 e λa e=>someE e ⟨"str.lower",λR q=>R.pA (λt q=>PySem.GM.lower q) q,λR b S B c G=>b.yf (R.pA λt=>
  PyProof.Rows.SCL.lower (aA (gR a) (by decide)) λZ=>G.flat S (.str _ _) _)⟩
theorem m_join {x:Str}{ds:List D}{d:D}(e:Qg x ds=some d):rI prog w W bad (Str.ofString "join") (.str x) ds d:=
 jo cH e λa e=>lz cH e λm e=>gQ e λo b e=>j9 e λc e=>someE e ⟨"str.join",λR q=>R.pA (λt q=>PySem.GM.join q) q,λR i S B y G=>i.qD λv j=>j.listE λl f Z hl g u=>R.pA λt=>
  Js hl (z7 b g) c.1 c.2.1 c.2.2 λp k=>G.flat S (.str _ _) _⟩
theorem QZ {f:Value}{x:D}(y:RD prog w bad s.heap f x){ds:List D}{vs:List Value}{k n:Nat}(e:idxOf x ds k=some n)(B:fB prog w bad s.heap vs ds):
 ∃j,n=k+j/\∃v,vs[j]? =some v/\RX x v=true/\(∀i v,i<j->vs[i]? =some v->RX x v=false):=by
 induction ds generalizing vs k with
 |nil=>exact nn e
 |cons d ds l=>
  refine B.nA λv C R g=>?_;refine gQ e λb t e=>?_
  ·have q:=(H5 t R y).2
   induction b using fu with
   |true=>exact⟨0,(aH e).symm,v,rfl,q,λi v c Z=>absurd c (Nat.not_lt_zero _)⟩
   |false=>
    refine Ng (λj F u m o p=>?_) (l e g);refine⟨j+1,by lia,u,m,o,λi=>?_⟩
    induction i using Nat.casesAuxOn with
    |zero=>exact λz Z a=>someE (P:=λz=>RX x z=false) a q
    |succ i=>exact λz c a=>p i z (Nat.lt_of_succ_lt_succ c) a
theorem Fz {c:Value}{x:D}(k:RD prog w bad s.heap c x){ds:List D}{vs:List Value}{n:Nat}(e:Sy x ds=some n)(f:fB prog w bad s.heap vs ds):vs.countP (RX x)=n/\∀(A:Around) y,y∈vs->SeqAt.EqAt A s y c (RX x y):=by
 induction ds generalizing vs n with
 |nil=>exact f.yf (someE (P:=λn=>_=n/\_) e ⟨rfl,λZ Z q=>nomatch q⟩)
 |cons d ds i=>
  refine f.nA λv l R g=>?_;refine gQ e λb j e=>gQ e λm hk e=>?_
  ··have h:=i hk g
    have q:=H5 j R k;refine someE (P:=λn=>_=n/\_) e ⟨?_,λA y a=>?_⟩
    ·rw[dH,h.1,q.2]
     induction b using fu<;>rfl
    ·refine aC (au.mp a) (λa=>?_) (λa=>?_)
     ·rw[a];exact q.1 A
     ·exact h.2 A y a
theorem Af {id:String}{m:Str}(b:Slot "list" m id)(d:typeOf (.builtin id)=pure (.type "method_descriptor")){xs:List D}{v:Value}{f:Sem Bool}{Q:Value×List Value->Shared->Prop}(R:RD prog w bad s.heap v (.list xs))(q:Q (.builtin id,[v]) s):
 wpAny (model prog w) A (getMethod v m f) Q E s:=by
 revert q;refine R.yq λl c Z hl Z Z q=>?_;revert hl;refine yE λn hl=>?_;exact getMethod_builtin (T:="list") ⟨_,hl,rfl⟩ PySem.F.plainAttrs_list b d (λa e=>by injection e with e;exact e▸⟨_,hl,rfl⟩) q
theorem VN {xs ds:List D}{d:D}(e:Qh xs ds=some d):rI prog w W bad (Str.ofString "index") (.list xs) ds d:=by
 refine jo cH e λx e=>j9 e λp e=>nH e λn H=>⟨"list.index",λR q=>Af PySem.F.slot_list_index PySem.F.type_list_index R q,λ{A v N s Q E} R M S B P G=>M.qD λu z=>R.yq λl a Z hl o O=>?_⟩;revert hl;refine yE λk hl=>?_;refine Ng (λj b y t F J=>?_) (QZ z H o);have f:j<a.size:=(cQ.mp t).1;have m:a[j]=y:=(cQ.mp t).2;refine yE (λc K=>?_) (bz.mp p.2);have L:=(Fz z K o).2;have C:=gR p.1;refine call_meets PySem.F.slot_list_index ⟨_,hl,rfl⟩ PySem.F.entry_list_index (PySem.F.args_list_index_2 _ _) (SeqAt.list_indexAt l a k none #[] u (RX x) j f (by lia) (by rw[m];exact F) (λi I g=>J i _ g (aR I)))
  ⟨hl,λy m=>L _ y m.val,?_⟩
 rw[b,show((0+j:Nat):Int)=(j:Int) by simp]at G;exact G.flat S (.int _ _) _
theorem VR {xs ds:List D}{d:D}(e:Qi xs ds=some d):rI prog w W bad (Str.ofString "count") (.list xs) ds d:=by refine jo cH e λx e=>j9 e λo e=>nH e λn f=>⟨"list.count",λR q=>Af PySem.F.slot_list_count PySem.F.type_list_count R q,λ{A v j s Q E} R i S B p G=>i.qD λu g=>R.yq λl a Z hl b m=>?_⟩;revert hl;refine yE λk hl=>?_;have h:=Fz g f b;refine call_meets PySem.F.slot_list_count ⟨_,hl,rfl⟩ PySem.F.entry_list_count (PySem.F.args_list_count_2 _ _) (SeqAt.list_countAt l a k none #[] u (RX x)) ⟨hl,λy c=>h.2 _ y c.val,?_⟩;rw[h.1];exact G.flat S (.int _ _) _
theorem Ml {ks:List Int}{xs:List D}{v:Value}{c:Sem Bool}{Q:Value×List Value->Shared->Prop}(R:RD prog w bad s.heap v (.idict ks xs))(q:Q (.builtin "dict.get",[v]) s):
 wpAny (model prog w) A (getMethod v (Str.ofString "get") c) Q E s:=by
 revert q;exact R.Q4 λa d Z g f b e q=>getMethod_builtin b.typeIs PySem.F.plainAttrs_dict PySem.F.slot_dict_get PySem.F.type_dict_get b.mapOf.noDict q
theorem m_get {ks:List Int}{xs ds:List D}{d:D}(e:mGet ks xs ds=some d):rI prog w W bad (Str.ofString "get") (.idict ks xs) ds d:=by
 refine⟨"dict.get",λR q=>Ml R q,λ{A v z s Q E} R f S B L G=>?_⟩;revert f G;refine nJ cH e λa t e=>jx cH e λk e=>R.Q4 λa J Z y H g F=>?_;have key:=Qj (x:=k) H F
 induction t using gY with
 |nil=>
  refine someE e λf G=>f.qD λu p=>p.jg λt=>?_;refine call_meetsIn PySem.F.slot_dict_get g.typeIs PySem.F.entry_dict_get (PySem.F.args_dict_get_2 _ _) (meets_dict_get (intKind prog w) _ (intKind_is _ _ _ _) y) ⟨_,g.mapOf,?_⟩;revert key;refine yO (λh=>?_) (fW λI C o m j=>?_)
  ·rw[h.2]
   rw[h.1]at G;exact G.flat S .none _
  ·rw[m]
   rw[o]at G;exact G.flat S j _
 |cons b t=>
  refine jo (P:=λl=>fB prog w bad s.heap z (_::l)->_) (l:=b::t) cH e λc e=>someE e λf G=>f.Kc λu K p i=>p.jg λt=>?_;refine call_meetsIn PySem.F.slot_dict_get g.typeIs PySem.F.entry_dict_get (PySem.F.args_dict_get_3 _ _ _) (meets_dict_get_default (intKind prog w) _ (intKind_is _ _ _ _) y _) ⟨_,g.mapOf,?_⟩;revert key;refine yO (λh=>?_) (fW λI C o m j=>?_)
  ·rw[h.2]
   rw[h.1]at G;exact G.flat S i _
  ·rw[m]
   rw[o]at G;exact G.flat S j _
theorem ou:∀p∈ie,(p.1==("__debug__":Str))=false:=by
 have:(ie.all λp=>!(p.1==("__debug__":Str)))=true:=by decide+kernel
 intro p a;simpa using List.all_eq_true.mp this p a
theorem Ge:∀p∈ie,(∃id,p.2=.builtin id)\/∃T,p.2=.type T:=λa=>xH (P:=λp:Str×Value=>(∃id,p.2=.builtin id)\/∃T,p.2=.type T) (by unfold ie;repeat (first|exact trivial|refine fV (.inl ⟨_,rfl⟩) ?_|refine fV (.inr ⟨_,rfl⟩) ?_))
theorem Xz {x:Str}{d:D}(e:biD x []=some d):False:=
 wO e nn λe=>wO e nn λe=>wO e nn λe=>wO e nn λe=>wO e nn λe=>wO e nn λe=>wO e nn λe=>wO e nn λe=>wO e nn λe=>wO e nn λe=>eqZ e nn
theorem HS (H:cL W fA n r)(K:Hk W fA)(R:fj n A)(F:gw W ε bad σ s.heap){x:Str}{px p:Pos}{args:List Expr}{ds:List D}{d:D}{Q:VP}
 (z:σ.lookup x=some .glob)(o:eX r σ args=some ds)(e:biD x ds=some d)(G:Gives W bad s d Q):wpAny (model prog w) A (eval (.Call (.Name x px) args [] p) ε) Q E s:=by
 induction args using gY with
 |nil=>
  have:=mX o;subst this;exact(Xz e).elim
 |cons a u=>
  refine fW (λk q l g y=>?_) (iK o);subst y;refine cW (λv t key=>?_) (bi_ok (bad:=bad) e);refine yA (λB C=>?_) (K.bi _ t);have go:∀i b c,fB prog w bad b i (k::q)->Ext s.heap b->W.S b->wpAny (model prog w) A (call v i) Q E (zs s b c):=λi b c m j f=>
   key (s:=(zs s b c)) m f (F.ext j f).lX R.hd (G.after j)
  refine Call_ (Fi F z B C (ou _ t) ?_);refine aC (Ge _ t) (yE λid e=>?_) (yE λT e=>?_)
  ·have e:v=.builtin id:=e
   subst e;exact PyProof.Rows.callWith_builtin1 (H.all R o F λi b c m j f=>go i b c m j f) (H.notStar l _) (H.iR g)
  ·have e:v=.type T:=e
   subst e;exact PyProof.Rows.callWith_type1 (H.all R o F λi b c m j f=>go i b c m j f) (H.notStar l _) (H.iR g)
theorem Cd {x:Str}(h:gN x=true):(x==("__debug__":Str))=false:=by unfold gN gG at h;simp only[bJ,b8,fc]at h;exact h.2.1
theorem vm {o:Expr}{m:Str}{whole:Sem Value}(h:uM o=false):attributeBase o m ε whole=whole:=by
 induction o using Expr.casesOn with
 |Call f c b p=>
  induction f using Expr.casesOn with
  |Name y q=>
   induction c using gY with
   |nil=>
    induction b using gY with
    |nil=>nomatch h
    |cons k b=>rfl
   |cons a c=>rfl
  |_=>rfl
 |_=>rfl
theorem jk {prog:Program}{w:World}{o:Expr}{m:Str}{e p:Pos}{args:List Expr}{Q:VP}(j:dJ o e p args.length=true)(u:(backTo p (starEach args ε)).any (·.1)=false)
 (h:wpAny (model prog w) A (eval o ε) (λg s₁=>∀q:Sem Bool,wpAny (model prog w) A (getMethod g m q) (λi s2=>wpAny (model prog w) A (callWith p i.1 i.2 (backTo p (starEach args ε)) []) Q E s2) E s₁) E s):
 wpAny (model prog w) A (eval (.Call (.Attribute o m e) args [] p) ε) Q E s:=by
 unfold dJ at j;simp only[bJ,b8]at j;revert j;refine yA λl k=>yA (λy v=>?_) l;have k:=bL k;show wpAny (model prog w) A (do
  let g<-attributeBase o m ε (eval o ε)
  standAt e.atName
  methodCall o m e p ε g (args.length+0) (backTo p (starEach args ε)) []) Q E s
 rw[vm y];refine aj (bC h (λg s₁ c=>?_) λZ Z x=>x);refine aj (bR ?_);unfold methodCall;have a:methodCallForm (args.length+0) (backTo p (starEach args ε)) []=true:=by
  unfold methodCallForm;have:(backTo p (starEach args ε)).all (λx=>!x.1)=true:=by rw[aU];intro x t;have:=List.any_eq_false.mp u x t;simpa using this
  rw[this];simp;exact cU ‹_› (by decide)
 rw[a];refine aj (bF ?_);unfold calleeOf;rw[ao rfl];refine bC (c _) (λi s2 b=>?_) λZ Z x=>x;have d:methodCallPos true o ε e p=pure p:=by unfold methodCallPos;rw[ao (by simp[v])]
 obtain⟨f,first⟩:=i;dsimp only;rw[d];exact aj (aB b)
theorem WT (H:cL W fA n r)(R:fj n A)(F:gw W ε bad σ s.heap){o:Expr}{m:Str}{y p:Pos}{args:List Expr}{ds:List D}{od d:D}{Q:VP}
 (J:dJ o y p args.length=true)(I:r.ev σ o=some od)(i:eX r σ args=some ds)(M:∀bad,rI prog w W bad m od ds d)(G:Gives W bad s d Q):wpAny (model prog w) A (eval (.Call (.Attribute o m y) args [] p) ε) Q E s:=by
 refine cW (λid K x=>?_) (M bad);refine jk J (H.iR i) (H.ev I R F λP c b q l e O=>?_);refine K (s:=(zs s c b)) q ?_;have t:=F.ext l e
 induction args using gY with
 |nil=>
  have:=mX i;subst this;exact callWith_method0 (x (s:=(zs s c b)) q .nil e t.lX R.hd (G.after l))
 |cons a u=>
  refine fW (λv z j f B=>?_) (iK i);subst B;refine callWith_method1 (H.all (s:=(zs s c b)) R i t λN g C L k S2=>?_) (H.notStar j _) (H.iR f);exact x (s:=(zs s g C)) (q.mono (fY F.tb k)) L S2 (t.ext k S2).lX R.hd (G.after (l.trans k))
theorem VJ {m:Str}{o d:D}{ds:List D}(e:Ef m o ds=some d)(bad:List Addr):rI prog w W bad m o ds d:=by
 induction o using D.casesOn with
 |str x=>exact wO (x:=m) e m_upper λe=>wO (x:=m) e m_lower λe=>eqZ (x:=m) e m_join
 |list a=>exact wO (x:=m) e VN λe=>eqZ (x:=m) e VR
 |idict c b=>exact eqZ (x:=m) e m_get
 |_=>exact nn e
noncomputable def KindOK (prog:Program)(w:World)(bad:List Addr)(d:D)(t:Str)(b:Bool):Prop:=∃T,(t,Value.type T)∈ie/\∀{A:Around}{v:Value}{s:Shared}{Q:VP}{E:VP},RD prog w bad s.heap v d->(∀tk,Q (.bool b) {s with toks:=tk})->
 wpAny (model prog w) A (call (.builtin "isinstance") [v,.type T]) Q E s
theorem Wg {d:D}{t:Str}{b:Bool}(e:Hv d t=some b):KindOK prog w bad d t b:=by
 induction d using D.casesOn with
 |bool x=>exact wO (x:=t) e (λe=>someE e ⟨"bool",aY (i:=10) rfl,λR q=>R.zq (PySem.IsiPair.bool_bool (q _))⟩) λe=>eqZ (x:=t) e (λe=>someE e ⟨"str",aY (i:=8) rfl,λR q=>R.zq (PySem.IsiPair.bool_str (q _))⟩)
 |str x=>exact wO (x:=t) e (λe=>someE e ⟨"bool",aY (i:=10) rfl,λR q=>R.pA λt=>PySem.IsiPair.str_bool (q _)⟩) λe=>eqZ (x:=t) e (λe=>someE e ⟨"str",aY (i:=8) rfl,λR q=>R.pA λt=>PySem.IsiPair.str_str (q _)⟩)
 |int x=>exact wO (x:=t) e (λe=>someE e ⟨"bool",aY (i:=10) rfl,λR q=>R.jg λt=>PySem.IsiPair.int_bool (q _)⟩) λe=>eqZ (x:=t) e (λe=>someE e ⟨"str",aY (i:=8) rfl,λR q=>R.jg λt=>PySem.IsiPair.int_str (q _)⟩)
 |_=>exact nn e
theorem zR (H:cL W fA n r)(K:Hk W fA)(R:fj n A)(F:gw W ε bad σ s.heap){px q p:Pos}{a:Expr}{t:Str}{d:D}{b:Bool}{Q:VP}
 (u:σ.lookup (Str.ofString "isinstance")=some .glob)(ht:σ.lookup t=some .glob)(k:r.ev σ a=some d)(e:Hv d t=some b)(G:Gives W bad s (.bool b) Q):
 wpAny (model prog w) A (eval (.Call (.Name (Str.ofString "isinstance") px) [a,.Name t q] [] p) ε) Q E s:=by
 have l:(Str.ofString "isinstance",Value.builtin "isinstance")∈ie:=by simp[ie]
 refine yA (λx y=>?_) (K.bi _ l);refine cW (λT m key=>?_) (Wg (bad:=bad) e);refine yA (λi j=>?_) (K.bi _ m);refine Call_ (Fi F u x y (ou _ l) ?_);refine PyProof.Rows.callWith_builtin1 (cP (H.ev k R F λv f c z o g=>?_) (H.notStar k _)) (H.notStar k _) rfl;refine cP (Fi (s:=(zs s f c)) (F.ext o g) ht i j (ou _ m) ?_) rfl;exact dm (key (s:=(zs s f c)) z λtk=>G _ _ _ (.bool _) o g)
theorem fj.deeper {env:Env}(R:fj (n+1) A):fj n (A.deeper env):=⟨R.hd,by
 show A.depth+1+n+1<_;have:=R.depth
 lia,by
 show A.units+3+16 * n+100<_;have:=R.units
 lia⟩
noncomputable def iH (sc:Scope)(L:Addr)(qual:Str)(func:Option Addr)(code:Value):Env:=newEnv sc L mainGlobals (cellsFrom (L+1) sc.names []) qual func code none builtinsNs
noncomputable def jH (sc:Scope)(L:Addr)(bad:List Addr):List Addr:=L::((cellsFrom (L+1) sc.names []).map (·.2)++bad)
noncomputable def jV (h:Heap)(sc:Scope):Heap:=pushCells (h.push {cls:=.type "frame",data:=.dict #[]}) sc.names
theorem mZ (sc:Scope):∀b o,h.get? b=some o->(jV h sc).get? b=some o:=λb o e=>pushCells_keeps _ _ b o (aP _ e)
theorem gw.fresh (B:gV bad h)(hS:W.S h){sc:Scope}(hk:sc.kind=.function)(O:uniq sc.names=true)(Q:∀x,(x,NameKind.free)∉sc.names){qual:Str}{func:Option Addr}{code:Value}(u:Ed sc.names=true->Ub W (iH sc h.objs.size qual func code)):
 gw W (iH sc h.objs.size qual func code) (jH sc h.objs.size bad) ⟨ig sc,sc.names⟩ (jV h sc):=by
 have l:(h.push {cls:=.type "frame",data:=.dict #[]}).objs.size=h.objs.size+1:=dW ..;have t:CellsOk (jV h sc) (h.objs.size+1) (cellsFrom (h.objs.size+1) sc.names []):=by have:=cellsFrom_ok sc.names (h.push {cls:=.type "frame",data:=.dict #[]}) (h.objs.size+1) [] ⟨λZ Z C=>(nomatch C),List.Pairwise.nil⟩ (by rw[l];exact bG _);rw[l]at this;exact this
 have G:=mZ (h:=h) sc;have g:412<=h.objs.size:=W.size hS;have f:∀{x c},(x,c)∈cellsFrom (h.objs.size+1) sc.names []->h.objs.size+1<=c:=λq=>(t.empty _ _ q).2;have a:∀{x c},(iH sc h.objs.size qual func code).cells.lookup x=some c->(∃v,(jV h sc).IsCell c v)/\c∈jH sc h.objs.size bad/\c≠h.objs.size/\412<=c:=λ{x c} e=>by have q:(x,c)∈cellsFrom (h.objs.size+1) sc.names []:=mem_of_lookup e;exact⟨⟨_,(t.empty _ _ q).1⟩,.tail _ (bK _ (aG.mpr ⟨_,q,rfl⟩)),eO (f q),aA g (dR (f q))⟩
 refine{tos7:=?_,names:=rfl,env:=?_}
 ·refine{S:=W.pZ hS G,kind:=hk,glob:=rfl,blt:=rfl,ns:=⟨_,(Heap.Ns.new h (.type "frame")).keeps (pushCells_keeps _ _)⟩,hi:=g,lin:=.head _,cells:=?_,inj:=?_,cin:=λx c e=>(a e).2,
         tb:=λb hb=>.tail _ (aD _ (B.tb b hb)),old:=?_,mkl:=?_}
  ·intro x i
   have F:(x,NameKind.cell)∈sc.names:=by
    revert i;refine yO (λi=>?_) (λi=>?_)
    ·exact mem_of_lookup i
    ·exact absurd (mem_of_lookup i) (Q x)
   refine yE (λc F=>?_) (tQ (k:=h.objs.size+1) F);refine yE (λc' e=>?_) (tE F);have e:(iH sc h.objs.size qual func code).cells.lookup x=some c':=e;refine sY (λm K J I=>yE (λv N=>?_) m) (a e);exact⟨c',v,e,N,K,J,I⟩
  ·intro x y c i M
   exact name_of_addr t.apart (mem_of_lookup i) (mem_of_lookup M)
  ·intro b hb
   rcases au.mp hb with rfl|hb
   ·refine⟨?_,.inr g⟩
    have:=pushCells_keeps sc.names (h.push {cls:=.type "frame",data:=.dict #[]}) h.objs.size _ (aL _ rfl);exact⟨_,this,gF λH e=>nomatch e⟩
   ·refine aC (bj.mp hb) (λq=>?_) (λq=>?_)
    ·obtain⟨⟨x,c⟩,C,rfl⟩:=aG.mp q
     refine yA (λm j=>cW (λo z R=>?_) m) (t.empty x c C);exact⟨⟨o,z,gF λH e=>by rw[R]at e;nomatch e⟩,.inr (aA g (dR j))⟩
    ·refine yA (λp L=>?_) (B.old b q)
     exact⟨p.keep λo z=>G b o z,L⟩
  ·exact λq=>u q
 ·intro x d e
  refine yA (λm P=>?_) (pW O e);subst m;exact .inl ⟨rfl,P⟩
theorem Th (f:Str×Value->PUnit->Sem (ForInStep PUnit))(g:∀x v u,f (x,v) u=(do storeName ε x v;pure (.yield ⟨⟩))){xs:List Str}:∀{vs:List Value}{ds:List D}{σ:Sg}{s:Shared}{Q:PUnit->Shared->Prop},gw W ε bad σ s.heap->fB prog w bad s.heap vs ds->xs.length=vs.length->
 (∀x∈xs,σ.holds x=true)->(∀h' tk,gw W ε bad (rE σ (xs.zip ds)) h'->(∀b o,b≠ε.locals->(∀x,ε.cells.lookup x≠some b)->s.heap.get? b=some o->h'.get? b=some o)->Q ⟨⟩ (zs s h' tk))->wpAny (model prog w) A (forIn (xs.zip vs) ⟨⟩ f) Q E s:=by
 induction xs with
 |nil=>
  intro vs ds σ s Q F Z Z Z k;exact aB (k s.heap s.toks F λZ Z Z Z e=>e)
 |cons x xs t=>
  intro vs ds σ s Q F i hl l k;revert hl k
  induction i using fB.casesOn with
  |nil=>exact λhl=>nomatch hl
  |cons R i=>
   intro hl k;rw[cI,List.forIn_cons,g];refine aj (aj (F.store (l x (.head _)) R rfl λc a B j G=>aB ?_));refine t (s:=(zs s c a)) B (i.mono λb o d e=>j b o (λq=>d (F.tos7.nU q)) e) (Nat.succ.inj hl) (λy z=>l y (.tail _ z)) λh' tk C p=>?_;exact k h' tk C λb o d m e=>p b o d m (j b o (λq=>q.elim d (m x)) e)
theorem zj (B:gV bad s.heap)(hS:W.S s.heap){sc:Scope}(hk:sc.kind=.function)(t:uniq sc.names=true)(v:∀x,(x,NameKind.free)∉sc.names){qual:Str}{func:Option Addr}{code:Value}(g:Ed sc.names=true->Ub W (iH sc s.heap.objs.size qual func code))
 {xs:List Str}{vs:List Value}{ds:List D}(y:fB prog w bad s.heap vs ds)(hl:xs.length=vs.length)(u:∀x∈xs,Sg.holds ⟨ig sc,sc.names⟩ x=true){Q:Env->Shared->Prop}
 (k:∀h' tk,gw W (iH sc s.heap.objs.size qual func code) (jH sc s.heap.objs.size bad) (rE ⟨ig sc,sc.names⟩ (xs.zip ds)) h'->(∀b∈jH sc s.heap.objs.size bad,b∈bad\/s.heap.get? b=none)->
  (∀b o,s.heap.get? b=some o->h'.get? b=some o)->Q (iH sc s.heap.objs.size qual func code) (zs s h' tk)):
 wpAny (model prog w) A (newFunctionEnv sc mainGlobals [] (xs.zip vs) qual func code none builtinsNs) Q E s:=by
 have a:∀{x c},(x,c)∈cellsFrom (s.heap.objs.size+1) sc.names []->s.heap.objs.size<=c:=λq=>jZ q;have less:∀b∈jH sc s.heap.objs.size bad,b∈bad\/s.heap.get? b=none:=λb hb=>by
  rcases au.mp hb with rfl|hb
  ·exact .inr Wd.jT
  ·refine aC (bj.mp hb) (λq=>?_) (λq=>?_)
   ·obtain⟨⟨x,c⟩,l,rfl⟩:=aG.mp q
    exact .inr (pQ (a l))
   ·exact .inl q
 have F:=gw.fresh B hS hk t v (qual:=qual) (func:=func) (code:=code) g;have j:fB prog w (jH sc s.heap.objs.size bad) (jV s.heap sc) vs ds:=(y.less less).mono λb o Z e=>mZ sc b o e;simp only[newFunctionEnv,Option.isSome_none,cJ,if_false];refine aj (wpAny_alloc ?_);refine aj (wpAny_layCells _ (λm d f=>by induction i:d==NameKind.cell using fu<;>simp[i]) _ _ _ _ ?_);rw[show({s with heap:=s.heap.push {cls:=.type "frame",data:=.dict #[]}}:Shared).heap.objs.size=s.heap.objs.size+1 from dW ..];refine aj (Th (s:={s with heap:=jV s.heap sc}) (ε:=iH sc s.heap.objs.size qual func code) _ (λZ Z Z=>rfl) F j hl u λh' tk z p=>aB ?_);refine k h' tk z less λb o e=>p b o (λq=>?_) (λx q=>?_) (mZ sc b o e)
 ·have q:b=s.heap.objs.size:=q
  subst q;exact eY _ (aZ e)
 ·have l:(x,b)∈cellsFrom (s.heap.objs.size+1) sc.names []:=mem_of_lookup q
  exact absurd (aZ e) (bc.mpr (a l))
end
section
variable {A:Around}{ε:Env}{E:VP}{bad bad':List Addr}{σ:Sg}{h:Heap}{s:Shared}
theorem gw.toO (F:gw W ε bad σ h)(ol:Str->Addr):dD W ε bad σ [] ol h where
 tos7:=F.tos7
 names:=F.names
 env:=λx d e Z=>F.env x d e
 ow:=λx q=>by simp at q
 oinj:=λx y q=>by simp at q
 off:=λx q=>by simp at q
theorem zip_unzip:∀(L:List (Str×D)),(L.map (·.1)).zip (L.map (·.2))=L
 |[]=>rfl
 |(a,b)::r=>by rw[aX,aX,cI,zip_unzip r]
theorem SM (H:cL W fA n r)(FT:∀x f,qH x=some f->Iv W f/\fA x=some f.addr)(R:fj (n+1) A){x:Str}{ds:List D}{kds:List (Str×D)}{d:D}{a:Addr}{vs kvs:List Value}{Q:VP}
 (e:SN qH r x ds kds=some d)(I:fA x=some a)(hS:W.S s.heap)(B:gV bad s.heap)(V:fB prog w bad s.heap vs ds)(Y:fB prog w bad s.heap kvs (kds.map (·.2)))(G:Gives W bad s d Q):
 wpAny (model prog w) A (call (.ref a) vs ((kds.map (·.1)).zip kvs)) Q E s:=by
 refine gQ e λf hf e=>j9 e λm e=>gQ e λσ g e=>?_
 ···
    refine yA (λX C=>?_) (FT x f hf);rw[C]at I;rw[<-aH I];clear I;revert e;refine nH g λL P e=>gQ e λz hx e=>?_;refine cW (λo ho l=>?_) X.obj;have c:=aH e;refine wpAny_call (codeAny_call_function (by have:=R.depth;lia) (l _ hS) ho X.co X.gen X.body (X.code _ hS) ?_);refine X.bind m P hS V.length (by simpa using Y.length) λj t F hr=>?_;have U:fB prog w bad s.heap (vs++j) (L.map (·.2)):=by rw[F];exact V.append (hr bad B Y)
    rw[X.glob,X.clo,X.blt];refine zj B hS X.kind X.uq X.free (λq=>X.mkl q _ rfl rfl) U (by simpa using U.length.symm) (X.holds ds kds L m P) λk i K less kp=>?_;rw[zip_unzip]at K;refine⟨W.nolim K.S,codeAny_func ?_⟩;refine H.exs (s:=(zs s k i)) (ol:=λZ=>0) hx R.deeper (K.toO _) λfl h2 N bad2 ol2 T F2 p=>?_;have M:W.size hS=W.size hS:=rfl;have S:Ext s.heap h2:=λb O g J=>T.keep b O (λq=>by
     revert q;refine yO (λq=>?_) (λρ=>aC ρ (λq=>?_) (λu=>aC u (yE λy q=>?_) (cW λy q Z=>?_)))
     ·exact g q
     ·have q:b=s.heap.objs.size:=q
      subst q;exact eY _ (aZ J)
     ·have hm:(y,b)∈cellsFrom (s.heap.objs.size+1) f.fd.scope.names []:=mem_of_lookup q
      exact absurd (aZ J) (bc.mpr (jZ hm))
     ·simp at q) (kp b O J)
    have lb:∀b∈bad,b∈bad2:=λb g=>by
     refine aC (T.left b (.tail _ (aD _ g))) (λq=>?_) (cW λy q Z=>?_)
     ·exact q
     ·simp at q
    revert p c
    induction z.fl using Fl.casesOn with
    |next=>
     intro c p;rw[show fl=.next from p];have c:D.none=d:=c;rw[<-c]at G;exact G .none h2 N .none S F2.S
    |ret d'=>
     intro c p;revert p;refine cW λv hv q=>?_;rw[hv];exact G v h2 N (RD.less (λb g=>.inl (lb b g)) ((show d'=d from c)▸q)) S F2.S
theorem Ti {fd:FuncData}{x:Str}{p:Pos}{u:Value}(b:fd.params=⟨[],[⟨x,none,p⟩],none,[],[],none,[]⟩)(hd:fd.defaults=.none):bindArgs fd ⟨[u],[]⟩=pure [(x,u)]:=by
 have e:fd={fd with params:=⟨[],[⟨x,none,p⟩],none,[],[],none,[]⟩,defaults:=.none}:=by rw[<-b,<-hd]
 rw[e];clear e b hd;have l:List.lookup x [(x,u)]=some u:=by rw[List.lookup_cons,dF]
 have m:List.filter (λn=>(List.lookup n [(x,u)]).isNone) [x]=[]:=List.filter_eq_nil_iff.mpr λa h=>by rw[dj.mp h,l];nofun
 refine Eq.trans (aq (c:=(!(List.filter (λn=>(List.lookup n [(x,u)]).isNone) [x]).isEmpty)=true) ?_) ?_
 ·rw[m];decide
 ·show(pure ([x].filterMap λn=>(List.lookup n [(x,u)]).map (n,·)):Sem (List (Str×Value)))=_
  rw[List.filterMap_cons,l];rfl
theorem Qx (H:cL W fA n r)(Rd:A.depth<recursionLimit)(R:∀env,fj n (A.deeper env)){x:Str}{body:Expr}{sc:Scope}{v u:Value}{d₀ d:D}{Q:VP}(U:RD prog w bad s.heap v (.lam x body sc))(hl:jF x sc=true)
 (Ra:RD prog w bad s.heap u d₀)(e:r.ev ⟨[(x,d₀)],sc.names⟩ body=some d)(hS:W.S s.heap)(B:gV bad s.heap)(G:Gives W bad s d Q):wpAny (model prog w) A (call v [u]) Q E s:=by
 have a:=az.mp hl;have b:=az.mp a.1;have c:=az.mp b.1;have d:=az.mp c.1;have f:=az.mp d.1;have g:=az.mp f.1;have N:Ed sc.names=false:=(b8 _).mp a.2;have l2:sc.isGenerator=false:=eq_of_beq g.2;have P:sc.isCoroutine=false:=eq_of_beq f.2;have l1:sc.kind=.function:=eq_of_beq g.1;have O:sc.names.lookup x=some .local:=eq_of_beq d.2;have I:∀p∈sc.names,p.2=.local:=λp m=>eq_of_beq (aU.mp b.2 p m);have V:=c.2;clear a b c d f g hl;refine U.lamE λa q=>?_
 ·revert q
  refine o9 λZ o fd c M e1 Z l q=>uA (λe2 L C=>mG (λvs t k j=>yE (λp e3=>?_) L.pr) C) q;have z:=L.sc;refine wpAny_call (kla_callFunE Rd e1 e2 (by rw[z];exact P) (by rw[z];exact l2) L.bd ⟨c,M,vs,t,L.co,l,k,j⟩ ?_);rw[Ti e3 L.df,z,L.gl,L.cl,L.bt];refine aB ?_;have hf:∀y,(y,NameKind.free)∉sc.names:=λy q=>nomatch I _ q;have X:∀y∈[x],Sg.holds ⟨ig sc,sc.names⟩ y=true:=λy T=>by show oS false (sc.names.lookup y) _=true;rw[dj.mp T,O];rfl
  have Y:ig sc=[]:=List.filterMap_eq_nil_iff.mpr λp m=>by rw[I p m];rfl
  refine zj (xs:=[x]) (vs:=[u]) (ds:=[d₀]) B hS l1 V hf (λq=>by rw[N]at q;nomatch q) (.cons Ra .nil) rfl X λh₁ i F less S=>?_;refine⟨W.nolim F.S,kla_codeExpr ?_⟩;rw[Y]at F;have X1:Ext s.heap h₁:=Ext.iT S;refine H.ev (s:=(zs s h₁ i)) e (R _) F λJ h2 K R2 X2 S2=>?_;exact G J h2 K (R2.less λb hb=>.inl (.tail _ (aD _ hb))) (X1.trans X2) S2
theorem Cz {pos a:Pos}{c d:Value}(l:List Value)(h:TriplesOk l)(e:codeAmong a (l++[rawInt pos.line,rawInt pos.col,c])=some d):codeAmong a l=some d\/d=c:=by
 fun_induction TriplesOk l with
 |case1=>
  right
  simp only[List.nil_append,rawInt,codeAmong]at e;split at e
  ·exact(aH e).symm
  ·exact nn e
 |case2 i t j u v f g=>
  simp only[List.cons_append,codeAmong]at e⊢;split
  ·rename_i b
   rw[ao b]at e;exact .inl e
  ·rename_i b
   rw[aq b]at e;exact g h e
 |case3=>exact absurd h id
theorem wR {sc:Scope}{ε:Env}(h:∀x,(x,NameKind.free)∉sc.names):closureFor sc ε=pure []:=by
 unfold closureFor;have go:∀(l:List (Str×NameKind)),(∀x,(x,NameKind.free)∉l)->∀(f:Str×NameKind->List (Str×Addr)->Sem (ForInStep (List (Str×Addr)))),(∀p a,(p.2== .free)=false->f p a=pure (.yield a))->forIn l ([]:List (Str×Addr)) f=pure []:=by
  intro l
  induction l with
  |nil=>intro Z f Z;rfl
  |cons p r d=>
   intro hl f c;rw[List.forIn_cons,c p [] (by
    obtain⟨x,k⟩:=p
    induction k using NameKind.casesOn<;>first|rfl|exact absurd (List.mem_cons_self ..) (hl x)),pure_bind]
   exact d (λx q=>hl x (.tail _ q)) f c
 dsimp only;rw[go sc.names h _ (λp a b=>by obtain⟨x,k⟩:=p;dsimp only at b⊢;rw[aq (by simp[b])])];rfl
theorem VM {M:Model}{name qual:Str}{params:Arguments}{body:Expr}{scope:Scope}{env:Env}{c P:Addr}{p:Array Value}{pos:Pos}{a:Nat}{mg:Str->Option Value}{Q:VP}
 (y:closureFor scope env=pure [])(k:env.globals=mainGlobals)(U:s.heap.Ns mainGlobals mg)(e:env.code=.ref c)(C:CodeHd s.heap c P)(K:s.heap.get? P=some (tabObj p))(ht:TriplesOk p.toList)
 (u:codeAmong pos p.toList=none)(x:mainGlobals≠P)(hb:s.heap.BuiltinsAt mg P)
 (h:∀c' F h' tk,Heap.ExtBut P s.heap h'->s.heap.objs.size<=c'->xK h' (.ref c') qual->h'.get? P=some (tabObj (p++#[rawInt pos.line,rawInt pos.col,.ref c']))->
  Q (.ref h'.objs.size) (zs s (h'.push (kla_obj name qual params body scope [] ((mg "__name__").getD .none) c' F)) tk)):
 wpAny M A (makeFunction name qual params (.expr body) scope env [] [] [] pos a) Q E s:=by
 rw[makeFunction_eq];simp only[List.zip_nil_right,List.filterMap_nil,List.isEmpty_nil,if_true,pure_bind];revert hb;refine Gv λbm ob B j Z i z l b d=>?_;unfold makeTail;rw[y,k];refine aj (aB ?_);simp only[List.isEmpty_nil,if_true];refine aj (aB ?_);refine aj (wpAny_functionCodeX e (C.code K ht) (C.tab K) u λc' h' tk H v L Z f t g=>?_);have m:=U.extBut H x;refine aj (wpAny_builtinsFor m B j (H _ _ i z) l b d ?_);refine aj (wpAny_nsGet m ?_);have lc:xK h' (.ref c') qual:=by revert g;refine xN λZ Z Z G Z=>kh (λo Y X V e3 Z=>?_) G;revert f;refine uw λI T q N S J R O=>?_;have G:=Value.ref.inj S;subst G;exact⟨c',T,q,N,rfl,J,aH (X.symm.trans J)▸V,R,O⟩
 exact aj (aB (wpAny_newObj_type (h c' .none h' tk H v lc t.2) (by size_fits)))
theorem Qy {P:Expr->D->Prop}(h:∀x px body sc p,jF x sc=true->P (.Lambda ⟨[],[⟨x,none,px⟩],none,[],[],none,[]⟩ body sc p) (.lam x body sc)):∀{e:Expr}{d:D},lamD e=some d->P e d:=by intro e d q;refine eLam_i cH q λa body sc p q=>?_;obtain⟨t,z,o,u,v,kw,y⟩:=a;refine jo (l:=z) cH q λg q=>?_;obtain⟨x,B,px⟩:=g;have b:=qF cH q;have m:=az.mp b.1;have k:=az.mp m.2;have j:=az.mp k.2;have i:=az.mp j.2;have f:=az.mp i.2;have c:=az.mp f.2;rw[show t=[]from List.isEmpty_iff.mp m.1,show o=none from Option.isNone_iff_eq_none.mp k.1,show u=[]from List.isEmpty_iff.mp j.1,show v=[]from List.isEmpty_iff.mp i.1,show kw=none from Option.isNone_iff_eq_none.mp f.1,show y=[]from List.isEmpty_iff.mp c.1,show B=none from Option.isNone_iff_eq_none.mp c.2];exact j9 b.2 λq e=>someE e (h _ _ _ _ _ q)
theorem ev_lam (F:gw W ε bad σ s.heap){a:Arguments}{body:Expr}{sc:Scope}{p:Pos}{d:D}{Q:VP}(hm:Ed σ.names=true)(e:lamD (.Lambda a body sc p)=some d)(G:Gives W bad s d Q):
 wpAny (model prog w) A (eval (.Lambda a body sc p) ε) Q E s:=by
 refine Qy (P:=λv d=>Gives W bad s d Q->wpAny (model prog w) A (eval v ε) Q E s) ?_ e G;clear e G;intro x px body sc p hl G;have hf:∀y,(y,NameKind.free)∉sc.names:=λy q=>by exact nomatch eq_of_beq (aU.mp (az.mp (az.mp hl).1).2 _ q)
 refine kh (λc P hc i hq hC=>?_) (F.mkl (by rw[F.names];exact hm));have hPb:=F.tb P i;refine nF (λH V k L=>?_) (W.tab F.S P i);have hgP:mainGlobals≠P:=λq=>by refine iQ (λo es ep e hd Z=>?_) (W.g F.S);rw[q,V]at e;cases e;nomatch hd
 refine kla_eval rfl ?_;rw[hq];have N:∀(f:Addr)(j:Value)(g:Heap)(tk:Nat),Heap.ExtBut P s.heap g->W.S g->(∀b∈bad,b<g.objs.size)->f∉bad->xK g (.ref f) (UW P)->
  Q (.ref g.objs.size) (zs s (g.push (kla_obj "<lambda>" (UW P) ⟨[],[⟨x,none,px⟩],none,[],[],none,[]⟩ body sc [] ((W.mg "__name__").getD .none) f j)) tk):=by
  intro f j g tk I hS u hcb;refine rK λl S R t q1 m C U q5=>?_;have O:=Value.ref.inj q1;subst O;have hs:∀(o:Obj) b o',g.get? b=some o'->(g.push o).get? b=some o':=λo b o' e=>aP _ e;refine G _ _ tk (.lam ⟨λq=>eY _ (u _ q),_,_,f,S,aL _ rfl,hcb,hs _ _ _ m,rfl,⟨⟨px,rfl⟩,rfl,rfl,rfl,rfl,rfl,rfl,rfl,rfl⟩,R,t,U,q5⟩) (λb o ht e=>hs _ _ _ (I b o (λq=>ht (q▸i)) e)) (W.pushS hS _)
 induction z:codeAmong p H.toList using aK with
 |some cv=>
  refine rK (λf S R t O m C U q5=>?_) (L _ _ z);subst O;refine kla_makeFunctionHit (wR hf) F.glob (W.g F.S) hc (hC _ F.S) V k z (W.bat F.S i) λj g tk hk X=>?_;refine N f j g tk (λb o Z e=>hk b o e) (W.pZ F.S hk) (λb T=>?_) (λq=>?_) ⟨f,S,R,t,rfl,hk _ _ m,C,U,q5⟩
  ·refine cW (λo B Z=>?_) ((F.old b T).1)
   exact d9 (aZ B) X
  ·refine cW (λo B hn=>?_) ((F.old _ q).1)
   exact hn (aH (m.symm.trans B)▸⟨C,_,U⟩)
 |none=>
  refine VM (wR hf) F.glob (W.g F.S) hc (hC _ F.S) V k z hgP (W.bat F.S i) λf j g tk I Y K M=>?_;have J:TabAt g P (H++#[rawInt p.line,rawInt p.col,.ref f]):=by
   refine⟨M,?_,λpos cv e=>?_⟩
   ·have:(H++#[rawInt p.line,rawInt p.col,Value.ref f]).toList=H.toList++[rawInt p.line,rawInt p.col,.ref f]:=by simp
    rw[this];exact TriplesOk_snoc _ _ _ _ k
   ·have:(H++#[rawInt p.line,rawInt p.col,Value.ref f]).toList=H.toList++[rawInt p.line,rawInt p.col,.ref f]:=by simp
    rw[this]at e;rcases Cz _ k e with e|rfl
    ·refine uw (λl S R t O m C q=>?_) (L _ _ e);subst O
     refine⟨l,S,R,t,rfl,I _ _ (λq=>?_) m,C,q⟩;subst q;rw[V]at m;cases m;nomatch C
    ·exact K
  have u:∀b∈bad,b<s.heap.objs.size:=λb T=>by refine cW (λo B Z=>?_) ((F.old b T).1);exact aZ B
  refine N f j g tk I (W.grow F.S i I J) (λb T=>?_) (λq=>?_) K
  ·by_cases q:b=P
   ·subst q;exact aZ M
   ·refine cW (λo B Z=>?_) ((F.old b T).1)
    exact aZ (I _ _ q B)
  ·exact absurd (u _ q) (bc.mpr Y)
theorem yS {k:Keyword}{ks:List Keyword}{kds:List (Str×D)}(e:jU r σ (k::ks)=some kds):
 ∃n v p d b,k=⟨some n,v,p⟩/\kds=(n,d)::b/\jU r σ ks=some b/\kwD r σ v=some d:=by
 obtain⟨a,v,p⟩:=k;exact Br (o:=a) cH e λn e=>gQ e λd c e=>nH e λb f=>⟨n,v,p,d,b,rfl,rfl,f,c⟩
theorem xu {pos:Pos}{kws:List Keyword}{kds:List (Str×D)}(e:jU r σ kws=some kds):(backToKw pos (keywordEach kws ε)).all (·.1.isSome)=true/\(backToKw pos (keywordEach kws ε)).filterMap (·.1)=kds.map (·.1)/\(backToKw pos (keywordEach kws ε)).any (·.1.isNone)=false:=by
 induction kws generalizing kds with
 |nil=>exact someE e ⟨rfl,rfl,rfl⟩
 |cons k g b=>
  refine zY (λn v p d a hk c f Z=>?_) (yS e);rw[hk,c];have q:=b f;exact⟨q.1,bD (n::·) q.2.1,q.2.2⟩
theorem cL.kws (H:cL W fA n r){pos:Pos}(R:fj n A){kws:List Keyword}{kds:List (Str×D)}{s:Shared}{Q:List Value->Shared->Prop}(e:jU r σ kws=some kds)(F:gw W ε bad σ s.heap)(G:Ud W bad s (kds.map (·.2)) Q):
 wpAny (model prog w) A (evalAll ((backToKw pos (keywordEach kws ε)).map (·.2))) Q E s:=by
 induction kws generalizing kds s Q with
 |nil=>
  revert G;exact someE e λG=>kwAll_nil (G _ s.heap s.toks .nil (Ext.refl _) F.S)
 |cons k t z=>
  refine zY (λn v p d o hk j C m=>?_) (yS e);rw[j]at G;rw[hk];refine kwAll_cons ?_;have go:Gives W bad s d (λv c=>wpAny (model prog w) A (evalAll ((backToKw pos (keywordEach t ε)).map (·.2))) (λl s2=>Q (v::l) s2) E c):=λv g f J x i=>
   z (s:=(zs s g f)) C (F.ext x i) λl B y I u S2=>G _ B y (.cons (J.mono (fY F.tb u)) I) (x.trans u) S2
  refine cdT m (λhl m=>?_) λj=>H.ev j R F go;have b:=qF cH m;refine Expr.Lambda.elim v (bN hl) (motive_1:=λv=>lamD v=some d->wpAny (model prog w) A (eval v ε) (λv c=>wpAny (model prog w) A (evalAll ((backToKw pos (keywordEach t ε)).map (·.2))) (λl s2=>Q (v::l) s2) E c) E s) (λa L K q j=>?_) b.2;exact ev_lam F b.1 j go
theorem yR (H:cL W fA n r)(K:Hk W fA)(R:fj n A)(F:gw W ε bad σ s.heap){x:Str}{px p:Pos}{args:List Expr}{kws:List Keyword}{ds:List D}{kds:List (Str×D)}{d:D}{Q:VP}
 (S:σ.lookup x=some .glob)(V:x≠Str.ofString "Headers")(i:gN x=true)(u:eX r σ args=some ds)(hk:jU r σ kws=some kds)(e:r.callF x ds kds=some d)(G:Gives W bad s d Q):wpAny (model prog w) A (eval (.Call (.Name x px) args kws p) ε) Q E s:=by
 refine yE (λl g=>?_) (H.domF _ _ _ _ e);refine mG (λo fd T U=>?_) (K.fo x l g V);refine uA (λC P Z=>?_) (xu (ε:=ε) (pos:=p) hk);refine wpAny_Call_Name_kw (JL F S (K.fn x l g i) (Cd i) ?_);refine callWith_def_kw T ?_;have j:∀k b c,fB prog w bad b k ds->Ext s.heap b->W.S b->wpAny (model prog w) A (evalAll ((backToKw p (keywordEach kws ε)).map (·.2)))
  (λO s2=>s2.heap.get? l=some o/\wpAny (model prog w) A (call (.ref l) k (((backToKw p (keywordEach kws ε)).filterMap (·.1)).zip O)) Q E s2) E (zs s b c):=by
  intro k b c y m f;have I:=F.ext m f;refine H.kws (s:=(zs s b c)) R hk I λJ X N Y v S2=>⟨U _ S2,?_⟩;rw[P];exact H.callF (s:=(zs s X N)) (E:=E) e g R S2 (I.ext v S2).lX (y.mono (fY F.tb v)) Y (G.after (m.trans v))
 induction args using gY with
 |nil=>
  have:=mX u;subst this;exact evalArgs_kw2_nil C (j [] s.heap s.toks .nil (Ext.refl _) F.S)
 |cons a z=>
  refine fW (λB L t q M=>?_) (iK u);subst M;exact evalArgs_kw2 C (H.all R u F λk b c y m f=>j k b c y m f) (H.notStar t _)
end
section
open AutoSeq1 (wpAny_loadPart')
open MeetsSeq MeetsSeq2 MeetsSeq3 SeqRoads2
section
variable {A:Around}{E:VP}{s:Shared}
theorem ltI_eq {as bs:List Int}{i:Nat}{a b:Int}(c:as[i]? =some a)(hb:bs[i]? =some b):ltI (as.drop i) (bs.drop i)=if a=b then ltI (as.drop (i+1)) (bs.drop (i+1))else decide (a<b):=by refine yE (λe g=>?_) (cQ.mp c);refine yE (λd f=>?_) (cQ.mp hb);rw[cG e,cG d,g,f];rfl
theorem K5 (l b:Addr)(items e:Array Value)(n F:Nat)(as bs:List Int)(C:IntsAre items.toList as)(v:IntsAre e.toList bs)(hsz:items.size=e.size)(k:Nat):
 ∀i:Nat,items.size - i=k->Meets (Builtin.«list.__eq__.loop» ⟨[.ref l,.ref b,rawInt i,rawInt 0],[]⟩)
  (λA R s=>s.heap.get? l=some {cls:=.type "list",data:=.seq items n}/\s.heap.get? b=some {cls:=.type "list",data:=.seq e F}/\
   R (.ok (.ret (.bool (ltI (as.drop i) (bs.drop i))))) s):=by
 have H:=C.length;have G:=v.length;simp at H G
 induction k with
 |zero=>
  intro i hk prog w A R s h;obtain⟨L,g,d,tk,os⟩:=s;revert h;refine uA λhl o h=>?_
  wp_walk using wpAny_loadPart' hl,wpAny_loadPart' o
  have j:items[((i:Nat):Int).toNat]? =none:=by simp;lia
  have f:e[((i:Nat):Int).toNat]? =none:=by simp;simp_all
  have B:as.drop i=[]:=by simp;simp_all
  have z:bs.drop i=[]:=by simp;simp_all
  rw[j,f]
  wp_walk using wpAny_loadPart' hl,wpAny_loadPart' o
  show R (.ok (.ret (.bool (decide (items.size<e.size))))) _;rw[B,z]at h;rw[hsz];simpa[ltI]using h
 |succ k I=>
  intro i hk prog w A R s h;obtain⟨L,g,d,tk,os⟩:=s;revert h;refine uA λhl o h=>?_
  wp_walk using wpAny_loadPart' hl,wpAny_loadPart' o
  have p:i<items.size:=by lia
  have m:i<e.size:=by simp_all
  have j:items[((i:Nat):Int).toNat]? =some items[i]:=by simp[p]
  have f:e[((i:Nat):Int).toNat]? =some e[i]:=by simp[m]
  have M:((i:Int)+1)=((i+1:Nat):Int):=by push_cast;rfl
  obtain⟨a,x⟩:∃a,as[i]? =some a:=⟨_,aR (by lia)⟩;obtain⟨c,q⟩:∃a,bs[i]? =some a:=⟨_,aR (by lia)⟩;refine yE (λt K=>?_) (C.get i a x);refine yE (λu J=>?_) (v.get i c q);have B:items[i]=.int a t:=by simpa[p]using K
  have z:e[i]=.int c u:=by simpa[m]using J
  rw[ltI_eq x q]at h;rw[j,f,B,z];refine aj (SeqAt.EqAt.int_int _ _ _ _ prog w _ _ ?_);by_cases y:a=c
  ·rw[ao y]at h
   have:(a==c)=true:=by simpa using y
   rw[this]
   wp_walk
   rw[M];exact⟨plainId_quiet plain_eq_loop _,codeAny_builtin entry_eq_loop (by rw[Around.under_plainId plain_eq_loop _];exact I (i+1) (by lia) prog w A R _ ⟨hl,o,h⟩)⟩
  ·rw[aq y]at h
   have:(a==c)=false:=by simpa using y
   rw[this]
   wp_walk using wpAny_loadPart' hl,wpAny_loadPart' o
   rw[j,f,B,z];exact aj (lt_int (aB h))
theorem Lb (l b:Addr)(items a:Array Value)(n e:Nat)(as bs:List Int)(i:IntsAre items.toList as)(c:IntsAre a.toList bs)(hsz:items.size=a.size):
 Meets (Builtin.«list.__lt__» ⟨[.ref l,.ref b],[]⟩)
  (λA R s=>s.heap.get? l=some {cls:=.type "list",data:=.seq items n}/\s.heap.get? b=some {cls:=.type "list",data:=.seq a e}/\
   R (.ok (.ret (.bool (ltI as bs)))) s):=by
 intro prog w A R s h;obtain⟨j,g,d,tk,os⟩:=s;revert h;refine uA λhl f h=>?_;have k:=AutoSeq1.sub_list_list
 wp_walk using wpAny_loadPart' hl,wpAny_loadPart' f
 exact⟨plainId_quiet plain_eq_loop _,codeAny_builtin entry_eq_loop (by rw[Around.under_plainId plain_eq_loop _];exact K5 l b items a n e as bs i c hsz _ 0 rfl prog w A R _ ⟨hl,f,by simpa using h⟩)⟩
theorem DX {l b:Addr}{items a:Array Value}{as bs:List Int}{Q:Bool->Shared->Prop}(hl:s.heap.PlainList l items)(hb:s.heap.PlainList b a)(f:IntsAre items.toList as)(c:IntsAre a.toList bs)(hsz:items.size=a.size)
 (e:A.units<cLine)(q:Q (ltI as bs) s):wpAny (model prog w) A (oneLt' true (.ref l) (.ref b)) Q E s:=by
 revert hl;refine yE λn hl=>?_;revert hb;refine yE λd hb=>?_;rw[oneLt'_eq];simp only[if_true];refine aj (wpAny_cRoomFor e ?_);refine aj (wpAny_callSpecialIfBound?_slot (T:="list") ⟨_,hl,rfl⟩ PySem.F.slot_list_lt (call_meets PySem.F.slot_list_lt ⟨_,hl,rfl⟩ PySem.F.entry_list_lt (PySem.F.args_list_lt_2 _ _) (Lb l b items a n d as bs f c hsz) ⟨hl,hb,?_⟩));exact dw q
end
end
section
variable {cmp:Nat->Nat->(Bool->Shared->Prop)->Shared->Prop}
theorem JZ {m:Nat}{p:Array Nat}{s:Shared}:∀(f k:Nat){Q:Nat->Shared->Prop},k+f=m->1<=k->(∀i C,1<=i->i<m->C false s->cmp (p.getD i 0) (p.getD (i - 1) 0) C s)->Q m s->(kas_asc p f k).kasWp cmp Q s
 |0,k,Q,h,_,_,q=>by
  have:k=m:=by omega
  subst this;exact q
 |f+1,k,Q,h,b,a,q=>by show cmp (p.getD k 0) (p.getD (k - 1) 0) _ s;refine a k _ b (by lia) ?_;show(if false=true then KasT.ret k else kas_asc p f (k+1)).kasWp cmp Q s;rw[aq (by simp)];exact JZ f (k+1) (by lia) (by exact Nat.succ_pos _) a q
theorem range_getD {n i:Nat}(h:i<n):(List.toArray (List.range n)).getD i 0=i:=by simp[Array.getD,h]
theorem N8 {n:Nat}{s:Shared}{Q:Array Nat->Shared->Prop}(h2:2<=n)(a:∀i C,1<=i->i<n->C false s->cmp i (i - 1) C s)(q:Q (List.toArray (List.range n)) s):(kas_sort n).kasWp cmp Q s:=by
 unfold kas_sort;rw[KasT.kasWp_bind];unfold kas_count;rw[KasT.kasWp_bind];refine JZ (m:=n) (n - 1) 1 (by lia) (bG _) (λi C c h2 b=>?_) ?_
 ·rw[range_getD h2,range_getD (by exact cU (Nat.sub_le _ _) ‹_›)]
  exact a i C c h2 b
 ·rw[ao (by simp)]
  show KasT.kasWp cmp _ _ s;show KasT.kasWp cmp (if n<n then _ else _) Q s;rw[aq (eY n)];exact q
end
theorem Lg {r:Rec}{y:Str}{body:Expr}{sc:Scope}{xs:List D}{ks:List (List Int)}(e:tG r y body sc xs=some ks):ks.length=xs.length:=by
 induction xs generalizing ks with
 |nil=>exact someE e rfl
 |cons d f a=>exact gQ e λv Z e=>lz cH e λc e=>gQ e λb Z e=>gQ e λks hk e=>someE e (bD (· +1) (a hk))
theorem QC {r:Rec}{y:Str}{body:Expr}{sc:Scope}{xs:List D}{ks:List (List Int)}{j:Nat}{d:D}(e:tG r y body sc xs=some ks)(h:xs[j]? =some d):
 ∃es ns,r.ev ⟨[(y,d)],sc.names⟩ body=some (.list es)/\mF es=some ns/\ks[j]? =some ns:=by
 induction xs generalizing ks j with
 |nil=>exact nn h
 |cons x i f=>
  refine gQ e λv c e=>lz (P:=λv=>_=some v->_) cH e (λes e c=>gQ e λns g e=>gQ e λks hk e=>someE e ?_) c
  induction j using Nat.casesAuxOn with
  |zero=>exact someE (P:=λd=>∃b a,r.ev ⟨[(y,d)],sc.names⟩ body=some (.list b)/\mF b=some a/\(ns::ks)[0]? =some a) h ⟨es,ns,c,g,rfl⟩
  |succ j=>exact f (ks:=ks) (j:=j) hk h
theorem XJ {ks:List (List Int)}{j:Nat}{a b:List Int}(e:zu ks=true)(h:ks[j]? =some a)(h':ks[j+1]? =some b):ltI b a=false/\a.length=b.length:=by
 induction ks generalizing j with
 |nil=>exact nn h
 |cons x r c=>
  induction r using gY with
  |nil=>exact nn h'
  |cons y r=>
   have e:(!ltI y x&&x.length==y.length&&zu (y::r))=true:=e;rw[bJ,bJ,b8,dz]at e
   induction j using Nat.casesAuxOn with
   |zero=>exact aH h▸aH h'▸e.1
   |succ j=>exact c e.2 h h'
section
variable {A:Around}{ε:Env}{E:VP}{bad bad':List Addr}{σ:Sg}{h:Heap}{s:Shared}
theorem gV.more {h:Heap}(B:gV bad h){m:List Addr}(c:∀b∈m,jd h b/\412<=b):gV (m++bad) h:=⟨λb a=>aD _ (B.tb b a),λb a=>by
 refine aC (bj.mp a) (λq=>?_) (λq=>?_)
 ·exact⟨(c b q).1,.inr (c b q).2⟩
 ·exact B.old b q⟩
theorem sort_keys {ks:List (List Int)}{c items:Array Value}{Q:SortSt->Shared->Prop}(N:A.units<cLine)(o:zu ks=true)(t:ks.length=items.size)(hk:∀(j:Nat)(ns:List Int),ks[j]? =some ns->∃l its,c[j]? =some (Value.ref l)/\s.heap.PlainList l its/\IntsAre its.toList ns)
 (H:c.size=ks.length)(h2:2<=items.size)(m:items.size<64)(q:∀d,(arrOf d).map (·.2)=items->failedOf d=none->Q d s):
 wpAny (model prog w) A ((sortRuns').run (SortSt.mk' oneType' (c.zip items) #[] 7 none)) (λr s'=>Q r.2 s') E s:=by
 have hl:c.toList.length=items.toList.length:=by simp;simp_all
 have run:=kat_run (prog:=prog) (w:=w) (A:=A) (E:=E) (s:=s) (κ:=oneType') (ks:=c.toList) (vs:=items.toList) (Q:=Q) (G:=λp s'=>p=List.toArray (List.range items.toList.length)/\s'=s) hl (by simpa using h2) (by simpa using m) (λp d s' U k O hG=>?_) ?_
 ·simpa using run
 ·revert hG;refine yA λI e=>?_;subst I;subst e
  refine q d ?_ O;rw[kat_snds hl k];apply Array.toList_inj.mp;rw[List.toList_toArray];apply List.ext_getElem
  ·simp
  ·intro i B h2
   simp at B h2⊢;simp[h2]
 ·refine N8 (by simpa using h2) (λi C B x P=>?_) ⟨rfl,rfl⟩
  have x:i<items.size:=by simpa using x
  obtain⟨a,z⟩:∃a,ks[i - 1]? =some a:=⟨_,aR (by lia)⟩;obtain⟨b,y⟩:∃a,ks[i]? =some a:=⟨_,aR (by simp_all)⟩;have g:ks[i - 1+1]? =some b:=by rw[show i - 1+1=i by simp_all];exact y
  refine yA (λf F=>?_) (XJ o z g);refine fW (λla T M K v=>?_) (hk _ _ z);refine fW (λlb ib L J u=>?_) (hk _ _ y);unfold kas_ask;have S:c.toList.getD (i - 1) Value.none=.ref la:=by simp[List.getD,M]
  have R:c.toList.getD i Value.none=.ref lb:=by simp[List.getD,L]
  rw[S,R,keyLt'_oneType];have l1:=v.length;have l2:=u.length;simp at l1 l2;exact DX J K u v (by simp_all) N (by rw[f];exact P)
theorem yx:∀ns:List Int,mF (ns.map .int)=some ns
 |[]=>rfl
 |a::r=>by show oS none (mF (r.map .int)) _=_;rw[yx r];rfl
theorem fB.getKey {vs:List Value}{ks:List (List Int)}(c:fB prog w bad h vs (ks.map λns=>.list (ns.map .int))){j:Nat}{ns:List Int}(e:ks[j]? =some ns):∃l its,vs[j]? =some (Value.ref l)/\h.PlainList l its/\IntsAre its.toList ns:=by refine cW (λv f R=>?_) (c.get (i:=j) (d:=.list (ns.map .int)) (by simp[e]));refine gW (λl its b Z hl a Z=>?_) R.Ei;subst b;exact⟨l,its,f,hl,sr (yx ns) a⟩
theorem Lj {es:List D}{ns:List Int}(e:mF es=some ns):es=ns.map .int:=by
 induction es generalizing ns with
 |nil=>exact someE e rfl
 |cons d es b=>exact jx cH e λi e=>gQ e λa h e=>someE e (by rw[aX,<-b h])
noncomputable def TreeI (kS:Addr)(bd:List Addr)(h:Heap)(ks:List (List Int))(i:Nat)(h':Heap):Prop:=
 ∃a e,(∀b o,b∉Tb->b≠kS->h.get? b=some o->h'.get? b=some o)/\W.S h'/\h'.get? kS=some (seqObj "list" a e)/\a.size<=i/\fB prog w bd h' a.toList ((ks.take i).map λns=>.list (ns.map .int))
theorem UG (H:cL W fA n r)(Rd:A.depth<recursionLimit)(R:∀env,fj n (A.deeper env))(hu:A.units<cLine){f a:Addr}{y:Str}{body:Expr}{sc:Scope}{ks:List (List Int)}{xs:List D}{items:Array Value}{c:Nat}{P:PySem.Fin->Shared->Prop}
 (hf:RD prog w bad s.heap (.ref f) (.lam y body sc))(hl:jF y sc=true)(hS:W.S s.heap)(B:gV bad s.heap)(ho:s.heap.get? a=some (seqObj "list" items c))(ha:412<=a)(hab:a∉bad)(hfa:f≠a)
 (Rs:fB prog w (a::bad) s.heap items.toList xs)(hfb:RD prog w (a::bad) s.heap (.ref f) (.lam y body sc))(hk:tG r y body sc xs=some ks)(asc:zu ks=true)(h64:xs.length<60)
 (fin:∀h' tk c,(∀b o,b∉Tb->b≠a->s.heap.get? b=some o->h'.get? b=some o)->W.S h'->h'.get? a=some (seqObj "list" items c)->P (.done (.ret .none)) (zs s h' tk)):
 wpAny (model prog w) A (ksk_tree a (.ref f) false) P E s:=by
 have hlen:items.size=xs.length:=by simpa using Rs.length
 have lks:=Lg hk;have N:items.size<=sizeLine:=by rw[sizeLine_eq];lia
 have s1:=Heap.SameBut.update s.heap a (Obj.mapSeq λZ=>(#[]:Array Value));refine yE (λe1 O=>?_) (show ∃e1,(s.heap.update a (Obj.mapSeq λZ=>(#[]:Array Value))).get? a=some (seqObj "list" #[] e1)from⟨_,get?_update_seq ho λZ=>#[]⟩);have U:((s.heap.update a (Obj.mapSeq λZ=>(#[]:Array Value))).push (seqObj "tuple" items.toList.toArray 0)).objs.size=s.heap.objs.size+1:=by rw[size_push',Heap.size_update]
 unfold ksk_tree;refine aj (listItems_at ho rfl ?_);refine aj (listUpdate_at ho rfl ?_ N (b7 _));refine aj (seqEpoch_at O rfl ?_);refine aj (wpAny_newTuple ?_ (by show items.toList.length<=_;simpa using N));refine aj (wpAny_newList ?_ (b7 _));refine bF ?_;generalize hH:((s.heap.update a (Obj.mapSeq λZ=>(#[]:Array Value))).push (seqObj "tuple" items.toList.toArray 0)).push (seqObj "list" #[] 0)=H0;generalize hK:((s.heap.update a (Obj.mapSeq λZ=>(#[]:Array Value))).push (seqObj "tuple" items.toList.toArray 0)).objs.size=kS at *;have F:∀b o,b≠a->s.heap.get? b=some o->H0.get? b=some o:=λb o hb e=>by rw[<-hH];exact aP _ (aP _ (s1.extBut b o hb e))
 have ga:H0.get? a=some (seqObj "list" #[] e1):=by rw[<-hH];exact aP _ (aP _ O)
 have gk:H0.get? kS=some (seqObj "list" #[] 0):=by rw[<-hH,<-hK];exact aL _ rfl
 have g:∀{xs:Array Value}{m:Nat},¬Ue (seqObj "list" xs m):=gF λvs e=>nomatch e;have S0:W.S H0:=Wd.j0 hS ha ho g F;have hka:kS≠a:=by rw[U];exact eO (Nat.lt_succ_of_lt (aZ ho))
 have k4:412<=kS:=by rw[U];exact fC (W.size hS)
 have K:s.heap.get? kS=none:=by rw[U];exact pQ (cC _)
 have hkb:kS∉bad:=λq=>by refine cW (λo e Z=>?_) ((B.old _ q).1);rw[K]at e;exact nn e
 have B0:gV ([kS,a]++bad) H0:=by
  refine gV.more ⟨B.tb,λb hb=>⟨(B.old b hb).1.keep λo e=>F b o (λq=>hab (q▸hb)) e,(B.old b hb).2⟩⟩ λb hb=>?_;simp at hb;rcases hb with rfl|rfl
  ·exact⟨⟨_,gk,g⟩,k4⟩
  ·exact⟨⟨_,ga,g⟩,ha⟩
 have C:∀b,b∈[kS,a]++bad->b∈a::bad\/s.heap.get? b=none:=λb hb=>by
  simp at hb;rcases hb with rfl|rfl|hb
  ·exact .inr K
  ·exact .inl (.head _)
  ·exact .inl (.tail _ hb)
 have L:∀b o,b∉[kS,a]++bad->s.heap.get? b=some o->H0.get? b=some o:=λb o hb e=>F b o (λq=>hb (by simp[q])) e;have Rs0:fB prog w ([kS,a]++bad) H0 items.toList xs:=(Rs.less C).mono L;have hf0:RD prog w ([kS,a]++bad) H0 (.ref f) (.lam y body sc):=(hfb.less C).mono L;unfold ksk_rest;refine aj (wpAny_rule ?_);rw[<-Array.forIn_toList];refine aj (ksk_fold (λi I=>∃h' tk,I=(zs s h' tk)/\TreeI kS ([kS,a]++bad) H0 ks i h') items.toList 0 _ ⟨H0,s.toks,rfl,#[],0,λZ Z Z Z e=>e,S0,gk,bG _,.nil⟩ ?step ?done)
 case step=>
  intro j x I hx;refine mG λh' tk e q=>?_;subst e;rw[Nat.zero_add]at q⊢;revert q;refine gW λJ e Y S' u hz X=>?_;clear ho Rs hfb hab ga s1 O fin C L F;have hj:j<items.size:=by have:=(cQ.mp hx).1;simpa using this
  have kb:∀b o,b∉[kS,a]++bad->H0.get? b=some o->h'.get? b=some o:=λb o hb e=>Y b o (λt=>hb (aD _ (B.tb b t))) (λq=>hb (by simp[q])) e;refine cW (λd hd Rx=>?_) ((Rs0.mono kb).getV hx);refine fW (λes ns he S hkj=>?_) (QC hk hd);have B':gV ([kS,a]++bad) h':=⟨B0.tb,λb hb=>by
   refine⟨?_,(B0.old b hb).2⟩;by_cases t:b∈Tb
   ·exact W.UL S' b t
   ·by_cases q:b=kS
    ·subst q;exact⟨_,u,g⟩
    ·exact(B0.old b hb).1.keep λo e=>Y b o t q e⟩
  refine aj (wpAny_attempt (Qx (s:=(zs s h' tk)) H Rd R (hf0.mono kb) hl Rx he S' B' λv p t₁ R1 X1 S₁=>?_));have nT:kS∉Tb:=λq=>absurd (kj _ q) (bc.mpr k4);have V:p.get? kS=some (seqObj "list" J e):=X1 _ _ nT u;dsimp only;have s2:=Heap.SameBut.update p kS (Obj.mapSeq (·.push v));have hc2:=get?_update_seq V (·.push v);refine aj (listUpdate_at V rfl ?_ (by rw[sizeLine_eq];lia) (aA (Nat.le_of_eq (Array.size_push ..)) (by rw[sizeLine_eq];lia)));have kb2:∀b o,b∉[kS,a]++bad->p.get? b=some o->(p.update kS (Obj.mapSeq (·.push v))).get? b=some o:=λb o hb e=>s2.extBut b o (λq=>hb (by simp[q])) e;have kb1:∀b o,b∉[kS,a]++bad->h'.get? b=some o->p.get? b=some o:=fY B0.tb X1;refine aB ⟨rfl,_,_,rfl,J.push v,_,λb o t q e=>s2.extBut b o q (X1 b o t (Y b o t q e)),Wd.j0 S₁ k4 V g λb o hb e=>s2.extBut b o hb e,hc2,by rw[Array.size_push];exact cz ‹_›,?_⟩;rw[Array.toList_push,List.take_add_one,hkj,bu];refine((X.mono kb1).mono kb2).append (.cons ?_ .nil);rw[Lj S]at R1;exact R1.mono kb2
 case done=>
  intro I;refine mG λh' tk e q=>?_;subst e;revert q;refine gW λJ e Y S' u hz X=>?_;have hz2:J.size=ks.length:=by have:=X.length;simp at this;simp[lks];simp_all
  have X:fB prog w ([kS,a]++bad) h' J.toList (ks.map λns=>.list (ns.map .int)):=by
   rwa [dK (by simp;simp_all)]at X
  refine aj (listItems_at u rfl ?_);have nTa:a∉Tb:=λq=>absurd (kj _ q) (bc.mpr ha);have ga':h'.get? a=some (seqObj "list" #[] e1):=Y a _ nTa hka.symm ga;have tail:∀k:SortSt,(arrOf k).map (·.2)=items->failedOf k=none->wpAny (model prog w) A (ksk_tail a false e1 (.ref kS) k) P E (zs s h' tk):=by
   intro k har hfl;have s3:=Heap.SameBut.update h' kS (Obj.mapSeq λZ=>(#[]:Array Value));have G:(h'.update kS (Obj.mapSeq λZ=>(#[]:Array Value))).get? a=some (seqObj "list" #[] e1):=(s3.2 a hka.symm).trans ga';have s4:=Heap.SameBut.update (h'.update kS (Obj.mapSeq λZ=>(#[]:Array Value))) a (Obj.mapSeq λZ=>items);have hc4:=get?_update_seq G λZ=>items;unfold ksk_tail;dsimp only;rw[har];refine aj (listUpdate_at u rfl ?_ (by rw[hz2,sizeLine_eq];lia) (b7 _));refine aj (wpAny_letGo ?_);refine aj (seqEpoch_at G rfl ?_);simp only[cJ,if_false];refine aj (listUpdate_at G rfl ?_ (b7 _) (fC N));rw[hfl];simp only[bne_self_eq_false,cJ,if_false];refine aB (fin _ _ _ (λb o t q e=>?_) ?_ hc4)
   ·have e0:=F b o q e
    have hbk:b≠kS:=λq=>by rw[q,K]at e;exact nn e
    exact s4.extBut b o q (s3.extBut b o hbk (Y b o t hbk e0))
   ·refine Wd.j0 (Wd.j0 S' k4 u g λb o hb e=>s3.extBut b o hb e) ha G g λb o hb e=>s4.extBut b o hb e
  unfold ksk_end;dsimp only;simp only[cJ,if_false];by_cases h2:items.size<2
  ·rw[ao h2,ao h2]
   refine aj (aB ?_);rw[StateT.run_pure];refine aj (aB ?_);dsimp only;refine tail _ ?_ rfl;show(J.zip items).map (·.2)=items;apply Array.toList_inj.mp;rw[Array.toList_map,Array.toList_zip];exact List.map_snd_zip (by simp;simp_all)
  ·rw[aq h2,aq h2]
   have hT:∀v∈J.toList,Looks (model prog w) h' (typeOf v) (.type "list"):=λv hv=>by
    refine yE (λj hj=>?_) (List.mem_iff_getElem?.mp hv);obtain⟨ns,S⟩:∃ns,ks[j]? =some ns:=⟨_,aR (by have:=(cQ.mp hj).1;simp at this;simp_all)⟩
    refine fW (λl its e2 ρ Z=>yE (λm pl=>?_) ρ) (X.getKey S);exact someE (e2.symm.trans hj) ((Looks.ld pl).andThen .now)
   have z:=kas_kind (M:=model prog w) (A:=A) (E:=E) (s:=(zs s h' tk)) (vs:=J.toList) (T:=.type "list") (Q:=λκ I=>κ=oneType'/\I=(zs s h' tk)) (by simp;simp_all) hT (by decide) (by decide) ⟨rfl,rfl⟩;rw[Array.toArray_toList]at z;refine aj (bC z (λκ I q=>?_) λZ Z x=>x);revert q;refine yA λρ ρ2=>?_;subst ρ;subst ρ2;refine aj (bC (sort_keys (s:=(zs s h' tk)) (ks:=ks) (Q:=λk I=>(arrOf k).map (·.2)=items/\failedOf k=none/\I=(zs s h' tk)) hu asc (by simp_all) (λj ns hj=>?_) hz2 (by exact bc.mp ‹_›) (by lia) λk a1 a2=>⟨a1,a2,rfl⟩) (λrr I q=>?_) λZ Z x=>x)
   ·refine fW (λl its e2 pl hi=>?_) (X.getKey hj)
    exact⟨l,its,by simpa using e2,pl,hi⟩
   ·obtain⟨⟨⟩,k⟩:=rr
    revert q;refine uA λa1 a2 ρ=>?_;subst ρ;exact tail k a1 a2
theorem fj.in2 (R:fj (n+1) A):(A.in1.in1).depth<recursionLimit/\(∀env,fj n ((A.in1.in1).deeper env))/\(A.in1.in1).units<cLine:=by
 have b:=R.depth;have a:=R.units;refine⟨?_,λenv=>⟨R.hd,?_,?_⟩,?_⟩
 ·show A.depth<_
  lia
 ·show A.depth+1+n+1<_
  lia
 ·show A.units+1+1+3+16 * n+100<_
  lia
 ·show A.units+1+1<_
  lia
theorem Kr (H:cL W fA n r)(R:fj (n+1) A){J M:Value}{y:Str}{body:Expr}{sc:Scope}{ks:List (List Int)}{xs:List D}{Q:VP}
 (I:RD prog w bad s.heap J (.lam y body sc))(hl:jF y sc=true)(hS:W.S s.heap)(B:gV bad s.heap)(Y:RD prog w bad s.heap M (.list xs))(hk:tG r y body sc xs=some ks)(C:zu ks=true)(z:xs.length<60)
 (G:Gives W bad s (.list xs) Q):wpAny (model prog w) A (call (.builtin "sorted") [M] [(Str.ofString "key",J)]) Q E s:=by
 refine gW (λl d F Z u K Z=>?_) Y.Ei;subst F;have L:d.size=xs.length:=by simpa using K.length
 refine cW (λf F x=>?_) (show ∃f,J=.ref f/\f<s.heap.objs.size from I.lamE λf q=>⟨f,rfl,o9 (λZ o fd c oc V Z Z Z=>aZ V) q⟩);subst F;refine uA (λr1 r2 P=>?_) R.in2;refine call_function_entry_kw kind_sorted plain_sorted entry_sorted (ksk_s1 _ _) ?_;unfold Builtin.«sorted»;refine aj (m:=checkCount "sorted" 1 1 _) (aB ?_);have v:s.heap.IsList l d.toList.toArray:=by simpa using u.isList
 refine aj (collect_list v ?_ (by simp[sizeLine_eq];lia));refine aj (wpAny_newList ?_ (by simp[sizeLine_eq];lia));simp only[List.toList_toArray,Array.toArray_toList];generalize N:((s.heap.push (seqObj "list" #[] 0)).update s.heap.objs.size (Obj.mapSeq (· ++d)))=H1;have i:H1.objs.size=s.heap.objs.size+1:=by rw[<-N,Heap.size_update,size_push']
 have j:(H1.push (seqObj "list" d 0)).get? (s.heap.objs.size+1)=some (seqObj "list" d 0):=by rw[<-i];exact aL _ rfl
 have keep:∀b o,s.heap.get? b=some o->(H1.push (seqObj "list" d 0)).get? b=some o:=λb o q=>by have k:b<s.heap.objs.size:=aZ q;refine aP _ ?_;rw[<-N,Heap.get?_update_ne _ _ _ _ (bY k),Heap.get?_push_ne _ _ _ (bY k)];exact q
 show wpAny _ _ _ _ _ {s with heap:=H1.push (seqObj "list" d 0)};rw[i];have p:s.heap.objs.size+1∉bad:=λq=>by refine cW (λo e Z=>?_) ((B.old _ q).1);exact absurd (aZ e) (bc.mpr (cC _))
 have T:412<=s.heap.objs.size+1:=fC (W.size hS);have S1:W.S (H1.push (seqObj "list" d 0)):=W.pZ hS keep;have less:∀b,b∈(s.heap.objs.size+1)::bad->b∈bad\/s.heap.get? b=none:=λb hb=>by
  rcases au.mp hb with rfl|hb
  ·exact .inr (pQ (cC _))
  ·exact .inl hb
 have B1:gV bad (H1.push (seqObj "list" d 0)):=B.ext (Ext.iT keep) S1;refine aj (bF (wpAny_call_entry_kw slot_list_sort ⟨_,j,rfl⟩ entry_list_sort ?body (ksk_l1 _ _)))
 case body=>
  show wpAny (model prog w) A.in1.in1 (Builtin.«list.sort» ⟨[.ref (s.heap.objs.size+1)],[(Str.ofString "key",.ref f)]⟩) _ _ _;rw[ksk_t1];refine UG (s:={s with heap:=H1.push (seqObj "list" d 0)}) (a:=s.heap.objs.size+1) H r1 r2 P (I.mono λb o Z e=>keep b o e) hl S1 B1 j T p (bY (Nat.lt_succ_of_lt x)) ((K.less less).mono λb o Z e=>keep b o e) ((I.less less).mono λb o Z e=>keep b o e) hk C z λO tk c S X U=>⟨_,rfl,?_⟩;have g:∀b o,b∉Tb->s.heap.get? b=some o->O.get? b=some o:=λb o t e=>S b o t (λq=>by subst q;rw[pQ (cC _)]at e;exact nn e) (keep b o e)
  refine aB ⟨_,rfl,G _ O tk (.list p ⟨c,U⟩ (K.mono λb o hb e=>g b o (λt=>hb (B.tb b t)) e)) g X⟩
theorem xV:(Str.ofString "sorted",Value.builtin "sorted")∈ie:=aY (i:=6) rfl
theorem LR (H:cL W fA n r)(K:Hk W fA)(R:fj (n+1) A)(F:gw W ε bad σ s.heap){px p:Pos}{args:List Expr}{kws:List Keyword}{xs:List D}{y:Str}{body:Expr}{sc:Scope}{ks:List (List Int)}{Q:VP}
 (N:σ.lookup (Str.ofString "sorted")=some .glob)(f:eX r σ args=some [.list xs])(hk:jU r σ kws=some [(Str.ofString "key",.lam y body sc)])(hl:jF y sc=true)(k:xs.length<60)(i:tG r y body sc xs=some ks)(l:zu ks=true)
 (G:Gives W bad s (.list xs) Q):wpAny (model prog w) A (eval (.Call (.Name (Str.ofString "sorted") px) args kws p) ε) Q E s:=by
 induction args using gY with
 |nil=>simp[eX]at f
 |cons a o=>
  refine fW (λq z j g x=>?_) (iK f);refine yA (λO P=>?_) (K.bi _ xV);refine uA (λM L J=>?_) (xu (ε:=ε) (pos:=p) hk);refine wpAny_Call_Name_kw (Fi F N O P (ou _ xV) ?_);refine callWith_builtin_kwB (H.iR f) J ?_;refine evalArgs_kw2 M (H.all (R.less (cC n)) f F λU d b T t e=>?_) (H.notStar j _);have u:=F.ext t e;refine H.kws (s:=(zs s d b)) (R.less (cC n)) hk u λv c B S m S2=>?_;rw[L];refine(T.mono (fY F.tb m)).qD λX I=>S.qD λV C=>?_
  ·exact Kr (s:=(zs s c B)) H R C hl S2 (u.ext m S2).lX I i l k (G.after (t.trans m))
theorem W2 (H:cL W fA n r)(K:Hk W fA)(R:fj n A)(F:gw W ε bad σ s.heap){v:Expr}{p:Pos}{hs:List D}{Q:VP}
 (j:uM v=false)(e:r.ev σ v=some (.inst hs))(G:Gives W bad s (.list hs) Q):wpAny (model prog w) A (eval (.Attribute v (Str.ofString "_headers") p) ε) Q E s:=by
 rw[arm_eval_Attribute,vm j];refine aj (H.ev e R F λu b d m k c=>?_);refine m.YH λa l f I hl i g=>?_;refine aj (bR (aj (bF (K.attr (s:=(zs s b d)) c I λt=>aj (wpAny_letTemporaryGo (aB ?_))))));exact G _ b t (.list hl i g) k c
theorem wW {prog:Program}{w:World}{o:Expr}{m:Str}{e p:Pos}{args:List Expr}{kws:List Keyword}{Q:VP}(j:dJ o e p (args.length+kws.length)=true)(u:(backTo p (starEach args ε)).any (·.1)=false)
 (hk:(backToKw p (keywordEach kws ε)).all (·.1.isSome)=true)
 (h:wpAny (model prog w) A (eval o ε) (λg s₁=>∀q:Sem Bool,wpAny (model prog w) A (getMethod g m q) (λi s2=>wpAny (model prog w) A (callWith p i.1 i.2 (backTo p (starEach args ε)) (backToKw p (keywordEach kws ε))) Q E s2) E s₁) E s):
 wpAny (model prog w) A (eval (.Call (.Attribute o m e) args kws p) ε) Q E s:=by
 unfold dJ at j;simp only[bJ,b8]at j;revert j;refine yA λl k=>yA (λy v=>?_) l;have k:=bL k;show wpAny (model prog w) A (do
  let g<-attributeBase o m ε (eval o ε)
  standAt e.atName
  methodCall o m e p ε g (args.length+kws.length) (backTo p (starEach args ε)) (backToKw p (keywordEach kws ε))) Q E s
 rw[vm y];refine aj (bC h (λg s₁ c=>?_) λZ Z x=>x);refine aj (bR ?_);unfold methodCall;have a:methodCallForm (args.length+kws.length) (backTo p (starEach args ε)) (backToKw p (keywordEach kws ε))=true:=by
  unfold methodCallForm;have:(backTo p (starEach args ε)).all (λx=>!x.1)=true:=by rw[aU];intro x t;have:=List.any_eq_false.mp u x t;simpa using this
  rw[this,hk];simp;split<;>lia
 rw[a];refine aj (bF ?_);unfold calleeOf;rw[ao rfl];refine bC (c _) (λi s2 b=>?_) λZ Z x=>x;have d:methodCallPos true o ε e p=pure p:=by unfold methodCallPos;rw[ao (by simp[v])]
 obtain⟨f,first⟩:=i;dsimp only;rw[d];exact aj (aB b)
theorem yM {m:Str}(a:m∈gO):Str.ofString "Headers."++m≠Str.ofString "Headers":=by
 have:(gO.all λm=>(Str.ofString "Headers."++m) !=Str.ofString "Headers")=true:=by decide+kernel
 have:=aU.mp this m a;simpa using this
theorem WY (H:cL W fA n r)(K:Hk W fA)(R:fj n A)(F:gw W ε bad σ s.heap){o:Expr}{m:Str}{P p:Pos}{args:List Expr}{kws:List Keyword}{ds:List D}{kds:List (Str×D)}{hs:List D}{d:D}{Q:VP}
 (hf:dJ o P p (args.length+kws.length)=true)(ho:r.ev σ o=some (.inst hs))(t:eX r σ args=some ds)(hk:jU r σ kws=some kds)(O:m∈gO)(e:r.callF (Str.ofString "Headers."++m) (.inst hs::ds) kds=some d)
 (G:Gives W bad s d Q):wpAny (model prog w) A (eval (.Call (.Attribute o m P) args kws p) ε) Q E s:=by
 refine yE (λJ i=>?_) (H.domF _ _ _ _ e);refine mG (λC fd y hS=>?_) (K.fo _ J i (yM O));refine uA (λB k2 k3=>?_) (xu (ε:=ε) (pos:=p) hk);refine wW hf (H.iR t) B (H.ev ho R F λov c f T S g pl=>?_);have j:=T;revert j;refine T.YH λa l v I hl hp rs j=>?_;refine K.meth (s:=(zs s c f)) O i g I ?_;dsimp only;have V:=F.ext S g;refine callWith_function_kw (o:=C) (fd:=fd) ?_;have k:∀vs b q,fB prog w bad b vs ds->Ext c b->W.S b->wpAny (model prog w) A (evalAll ((backToKw p (keywordEach kws ε)).map (·.2)))
  (λks s2=>(s2.heap.get? J=some C/\C.data=.func fd)/\wpAny (model prog w) A (call (.ref J) ([.ref a]++vs) (((backToKw p (keywordEach kws ε)).filterMap (·.1)).zip ks)) Q E s2) E (zs s b q):=by
  intro vs b q L u S2;have U:=V.ext u S2;refine H.kws (s:=(zs s b q)) R hk U λY h₃ t3 R3 X3 S3=>⟨⟨hS _ S3,y⟩,?_⟩;rw[k2];have X:Ext c h₃:=u.trans X3;exact H.callF (s:=(zs s h₃ t3)) (E:=E) (vs:=.ref a::vs) e i R S3 (U.ext X3 S3).lX (.cons (j.mono (fY F.tb X)) (L.mono (fY F.tb X3))) R3 (G.after (S.trans X))
 induction args using gY with
 |nil=>
  have:=mX t;subst this;exact evalArgs_kw2_nil B (k [] c f .nil (Ext.refl _) g)
 |cons a' M=>
  refine fW (λN Z z x ρ=>?_) (iK t);subst ρ;exact evalArgs_kw2 B (H.all (s:=(zs s c f)) R t V λvs b q L u S2=>k vs b q L u S2) (H.notStar z _)
theorem pL {pos:Pos}{a:Addr}{args:List (Bool×Sem Value)}{Q:VP}(d:args.any (·.1)=false)
 (h:wpAny (model prog w) A (evalArgs (.ref a) true args []) (λx s₁=>Looks (model prog w) s₁.heap (keeperOf (.ref a)) .machine/\wpAny (model prog w) A (call (.ref a) x.pos x.kw) Q E s₁) E s):
 wpAny (model prog w) A (callWith pos (.ref a) [] args []) Q E s:=by
 unfold callWith;refine aj (bF (bC h (λx s₁ b=>aj (bR ?_)) λZ Z x=>x));simp only[d,List.any_nil,Bool.or_false,List.nil_append];refine aj (b.1.here ?_);exact aj (bC b.2 (λr s2 c=>aj (bF (wpAny_point (aB c)))) λZ Z x=>x)
theorem Fg (H:cL W fA n r)(K:Hk W fA)(R:fj n A)(F:gw W ε bad σ s.heap){px p:Pos}{args:List Expr}{ds:List D}{d:D}{Q:VP}
 (B:σ.lookup (Str.ofString "Headers")=some .glob)(i:gN (Str.ofString "Headers")=true)(l:eX r σ args=some ds)(e:r.callF (Str.ofString "Headers") ds []=some d)(G:Gives W bad s d Q):
 wpAny (model prog w) A (eval (.Call (.Name (Str.ofString "Headers") px) args [] p) ε) Q E s:=by
 refine yE (λm g=>?_) (H.domF _ _ _ _ e);refine wpAny_Call_Name_kw (JL F B (K.fn _ m g i) (Cd i) ?_);refine pL (H.iR l) ?_;have j:∀k b c,fB prog w bad b k ds->Ext s.heap b->W.S b->Looks (model prog w) b (keeperOf (.ref m)) .machine/\wpAny (model prog w) A (call (.ref m) k []) Q E (zs s b c):=λk b c u o f=>
  ⟨K.kp m g _ _ f,H.callF (s:=(zs s b c)) (E:=E) (kds:=[]) (kvs:=[]) e g R f (F.ext o f).lX u .nil (G.after o)⟩
 induction args using gY with
 |nil=>
  have:=mX l;subst this;exact evalArgs_kw_nil rfl (wpAny_evalAll_nil (j [] s.heap s.toks .nil (Ext.refl _) F.S))
 |cons a v=>
  refine fW (λx y t q z=>?_) (iK l);subst z;exact evalArgs_kw2 (kws:=[]) rfl (H.all R l F λk b c u o f=>wpAny_evalAll_nil (j k b c u o f)) (H.notStar t _)
theorem Ff (H:cL W fA n r)(R:fj (n+1) A)(F:gw W ε bad σ s.heap){x y:Str}{px p:Pos}{a:Expr}{body:Expr}{sc:Scope}{d₀ d:D}{Q:VP}
 (l:gG x=false)(K:σ.lookup x=some (.lam y body sc))(hl:jF y sc=true)(t:r.ev σ a=some d₀)(e:r.ev ⟨[(y,d₀)],sc.names⟩ body=some d)(G:Gives W bad s d Q):
 wpAny (model prog w) A (eval (.Call (.Name x px) [a] [] p) ε) Q E s:=by
 refine wpAny_Call_Name_kw (JK (d:=.lam y body sc) l (by rw[K];rfl) F λv B z R0 X0 S0=>?_);have g:=R0;revert g;refine R0.lamE λf q g=>?_
 ·revert q;refine o9 λm o T c S C Z Z q=>yA (λM Z=>?_) q
  refine callWith_def_at (s:=(zs s B z)) C M (cP (H.ev (s:=(zs s B z)) t (R.less (cC n)) (F.ext X0 S0) λu j i P k b=>?_) (H.notStar t _)) (H.notStar t _);refine dm ⟨fY F.tb k _ _ m C,?_⟩;refine Qx (s:=(zs s j i)) H (by have:=R.depth;lia) (λI=>R.deeper) (g.mono (fY F.tb k)) hl P e b ((F.ext X0 S0).ext k b).lX ?_;exact λv L J O N S2=>G v L J O ((X0.trans k).trans N) S2
theorem Ma (H:cL W fA n r)(K:Hk W fA)(N:fj (n+1) A)(F:gw W ε bad σ s.heap){f:Expr}{args:List Expr}{kws:List Keyword}{p:Pos}{d:D}{Q:VP}
 (e:RT r σ f args kws p=some d)(G:Gives W bad s d Q):wpAny (model prog w) A (eval (.Call f args kws p) ε) Q E s:=by
 have R:fj n A:=N.less (cC n);refine sW e (λe=>jw cH e λx Z e=>gQ e λX g e=>cdT e (λV e=>?_) λe=>?_) λe=>Ft cH e λo m ap e=>?_
 ·have g:σ.lookup x=some .glob:=D.glob.elim (motive_1:=λd=>σ.lookup x=some d->σ.lookup x=some .glob) X (bN V) (λh=>h) g
  by_cases M:x=Str.ofString "isinstance"
  ·have e:=(ao M).symm.trans e
   rw[M]at g⊢;revert G;refine pH cH e λa t e=>lV cH e λe=>jw cH e λt pt e=>j9 e λT e=>Tp e λj q e=>nH e λb I G=>?_;exact zR H K R F g (qX T) q I G
  ·refine gQ ((aq M).symm.trans e) λP c e=>?_
   induction kws using gY with
   |nil=>
    by_cases I:vh.contains x=true
    ·exact HS H K R F g c ((ao I).symm.trans e) G
    ·refine j9 ((aq I).symm.trans e) λl e=>?_
     by_cases O:x=Str.ofString "Headers"
     ·rw[O]at g l e⊢
      exact Fg H K R F g l c e G
     ·exact yR H K R F g O l c rfl e G
   |cons kw kws=>
    refine gQ e λJ hk e=>?_;by_cases B:x=Str.ofString "sorted"
    ·have e:=(ao B).symm.trans e
     rw[B]at g⊢;revert G hk c;refine jo cH e λa e=>lz cH e λY e=>jo cH e λp e=>?_;obtain⟨k,v⟩:=p;refine Sd (x:=v) cH e λy z S e=>j9 e λi e=>gQ e λks L e=>j9 e λu e=>someE e λG c hk=>?_;exact LR H K N F g c (i.1▸hk) i.2.2 i.2.1 L u G
    ·exact j9 ((aq B).symm.trans e) λi e=>yR H K R F g i.2 i.1 c hk e G
 ·revert g
  refine Sd cH e λy z S e=>jo cH e λa e=>lV cH e λe=>j9 e λi e g=>Tp e λj q e=>?_;exact Ff H N F i.2 g i.1 q e G
 ·have b:=qF cH e
  refine gQ b.2 λj C e=>sW e (λe=>?_) λe=>?_
  ·revert C
   refine Fx cH e λB e C=>gQ e λP c e=>gQ e λJ hk e=>j9 e λU e=>?_;exact WY H K R F b.1 C c hk (dC.mp U) e G
  ·revert b
   refine lV cH e λe b=>Tp e λP c e=>?_;exact WT H R F b.1 C c (λbad=>VJ e bad) G
theorem evS_ok (H:cL W fA n r)(K:Hk W fA)(S:fj (n+1) A)(F:gw W ε bad σ s.heap){x:Expr}{d:D}{Q:VP}
 (e:evS gD r σ x=some d)(G:Gives W bad s d Q):wpAny (model prog w) A (eval x ε) Q E s:=by
 have R:fj n A:=S.less (cC n)
 induction x using Expr.casesOn with
 |Constant c k p=>exact RN e F G
 |Name y p=>exact ifn e λhx e=>JK (by simpa using hx) e F G
 |BinOp l g rr p=>exact ev_bin H R F e G
 |UnaryOp g y p=>
  have b:=qF cH e;exact UnaryOp.USub.elim (motive:=λg=>wpAny (model prog w) A (eval (.UnaryOp g y p) ε) Q E s) g (bN b.1) (ev_neg H R F b.2 G)
 |BoolOp g L p=>
  have b:=qF cH e;exact BoolOp.And.elim (motive:=λg=>wpAny (model prog w) A (eval (.BoolOp g L p) ε) Q E s) g (bN b.1) (ev_and H R b.2 F G)
 |Compare l T rs p=>exact jo cH e λg e=>jo cH e λrr e=>ev_cmp H R F e G
 |IfExp t b o p=>exact ev_if H R F e G
 |List L p=>exact WW H R F e G
 |Tuple L q p=>exact RJ H R F e G
 |Dict ks Y p=>exact nJ cH e λk1 ks e=>pH cH e λk2 k3 e=>Br cH e λk1 e=>Br cH e λk2 e=>Br cH e λk3 e=>nJ cH e λv1 Y e=>pH cH e λv2 v3 e=>W0 H R F e G
 |Subscript v i p=>
  induction J:isSlice i using fu with
  |true=>
   have e:cond (isSlice i) (eSl none i λl u t Z=>ib none t.isNone<|oS none (r.ev σ v) λd=>oS none (n8 r σ l) λa=>oS none (n8 r σ u) λb=>lZ d a b) _=some d:=e;rw[J]at e;exact YT cH e λl u t q e=>by have b:=qF cH e;rw[show t=none from Option.isNone_iff_eq_none.mp b.1];exact RK H R F b.2 G
  |false=>
   have e:cond (isSlice i) _ (oS none (r.ev σ v) λd=>oS none (r.ev σ i) λj=>mD d j)=some d:=e;rw[J]at e;exact WX H R F J e G
 |ListComp V C sc p=>
  revert G;exact gQ e λX z e=>j9 e λB e=>someE e λG=>Fd H K R F z B G
 |DictComp a b C sc p=>
  revert G;exact gQ e λX z e=>j9 e λB e=>someE e λG=>Fe H K R F z B G
 |Attribute v m p=>
  revert G;refine j9 e λN e=>gQ e λO I e=>Fx (P:=λO=>_=some O->_) cH e (λhs e I=>someE e λG=>?_) I;rw[N.1];exact W2 H K R F N.2 I G
 |Call f M U p=>exact Ma H K S F e G
 |_=>exact nn e
theorem z6 (H:cL W fA n r)(R:fj n A)(F:gw W ε bad σ s.heap){x:Expr}{c:Bool}{Q:Bool->Shared->Prop}(g:isTrue x ε (eval x ε)=(do let v<-eval x ε;standAt x.pos;holding [v] (truthy v)))
 (e:(oS none (r.ev σ x) λd=>dB none d λb=>some b)=some c)(G:my W s c Q):wpAny (model prog w) A (isTrue x ε (eval x ε)) Q E s:=by
 revert G;exact gQ e λa f e=>Ia (P:=λa=>_=some a->_) cH e (λb e f=>someE e λG=>Kd g (λj i=>H.ev f R F i) G) f
theorem Uz (H:cL W fA n r)(R:fj n A)(F:gw W ε bad σ s.heap){x:Expr}{c:Bool}{Q:Bool->Shared->Prop}
 (e:tstS r σ x=some c)(G:my W s c Q):wpAny (model prog w) A (isTrue x ε (eval x ε)) Q E s:=by
 induction x using Expr.casesOn with
 |UnaryOp a y p=>induction a using UnaryOp.casesOn with
  |Not=>exact Uv H R F e G
  |_=>exact z6 H R F rfl e G
 |BoolOp a i p=>induction a using BoolOp.casesOn with
  |And=>exact Uy H R e F G
  |Or=>exact Ux H R e F G
 |IfExp t b o p=>exact nn e
 |Compare l d f p=>exact jo cH e λa e=>jo cH e λg e=>Uw H R F e G
 |_=>exact z6 H R F rfl e G
end
section
variable {A:Around}{ε:Env}{E:VP}{bad bad' B:List Addr}{σ σ':Sg}{h h' h0:Heap}{s:Shared}{own keep t own':List Str}{ol ol':Str->Addr}
theorem jK.mono {v:Value}{d:D}{l:Addr}(O:jK (prog:=prog) (w:=w) bad h v d l)(k:∀b o,(b∉bad\/b=l)->h.get? b=some o->h'.get? b=some o):jK (prog:=prog) (w:=w) bad h' v d l:=by
 revert O;refine rQ λj i f p hl g c=>?_;refine⟨j,i,f,p,hl.at λo e=>k _ o (.inr rfl) e,g.mono λb o q e=>k b o (.inl q) e,?_⟩;revert c;refine yO (λc=>?_) (nG λe a m I=>?_)
 ·exact .inl c
 ·exact .inr ⟨e,a,m,I.mono λb o q e=>k b o (.inl q) e⟩
theorem jK.less {v:Value}{d:D}{l:Addr}(O:jK (prog:=prog) (w:=w) bad h v d l)(hl:l∈bad')(k:∀b,b∈bad'->b∈bad\/h.get? b=none):jK (prog:=prog) (w:=w) bad' h v d l:=by
 revert O;refine rQ λp j f o i g c=>?_;refine⟨hl,j,f,o,i,g.less k,?_⟩;revert c;refine yO (λc=>?_) (nG λe a m I=>?_)
 ·exact .inl c
 ·exact .inr ⟨e,a,m,I.less k⟩
theorem jK.plain {v:Value}{d:D}{l:Addr}(O:jK (prog:=prog) (w:=w) bad h v d l)(hl:l∉bad')(k:∀b,b∈bad'->b∈bad\/h.get? b=none):RD prog w bad' h v d:=by
 revert O;refine rQ λj i e m g f c=>?_;rcases c with⟨rfl,rfl⟩|⟨rfl,a,rfl,I⟩
 ·exact .list hl g (f.less k)
 ·exact .inst (I.less k) hl g (f.less k)
theorem jK.live {v:Value}{d:D}{l:Addr}(O:jK (prog:=prog) (w:=w) bad h v d l):jd h l:=by revert O;refine ZM λj i a k b Z=>yE (λc f=>?_) b;exact⟨_,f,gF λg e=>nomatch e⟩
theorem s7.part (F:s7 W ε bad h)(sub:∀b∈bad',b∈bad)(hl:ε.locals∈bad')(d:∀x a,ε.cells.lookup x=some a->a∈bad')(ht:∀b∈Tb,b∈bad'):s7 W ε bad' h where
 S:=F.S
 kind:=F.kind
 glob:=F.glob
 blt:=F.blt
 ns:=F.ns
 hi:=F.hi
 lin:=hl
 cells:=λx k=>let ⟨a,v,e,c,_,q⟩:=F.cells x k;⟨a,v,e,c,d x a e,q⟩
 inj:=F.inj
 cin:=λx a e=>⟨d x a e,(F.cin x a e).2⟩
 tb:=ht
 old:=λb f=>F.old b (sub b f)
 mkl:=F.mkl
noncomputable def yr (bad:List Addr)(own keep:List Str)(ol:Str->Addr):List Addr:=bad.filter λb=>!(own.any λx=>!keep.contains x&&ol x==b)
theorem iu {b:Addr}:b∈yr bad own keep ol<->b∈bad/\∀x,own.contains x=true->keep.contains x=false->ol x≠b:=by
 unfold yr;rw[bV];simp only[b8,List.any_eq_false,bJ,b8,dz,not_and];constructor
 ·rintro ⟨d,c⟩
  exact⟨d,λx a hk=>c x (by simpa using a) hk⟩
 ·rintro ⟨d,c⟩
  exact⟨d,λx a hk=>c x (by simpa using a) hk⟩
theorem gZ {x:Str}:(own.filter keep.contains).contains x=(own.contains x&&keep.contains x):=by rw[Bool.eq_iff_iff];simp
theorem xQ {x:Str}{d:D}(e:(without own σ).lookup x=some d):σ.lookup x=some d/\own.contains x=false:=by unfold without Sg.lookup at e;refine yA (λb a=>?_) (oH (λZ Z=>rfl) e);exact⟨b,by simpa using a⟩
theorem dD.togw (F:dD W ε bad σ own ol h):gw W ε bad (without own σ) h where
 tos7:=F.tos7
 names:=F.names
 env:=λx d e=>let ⟨b,a⟩:=xQ e;F.env x d b a
theorem dD.letGo (F:dD W ε bad σ own ol h)(keep:List Str):dD W ε (yr bad own keep ol) σ (own.filter keep.contains) ol h where
 tos7:=F.tos7.part (λb f=>(iu.mp f).1) (iu.mpr ⟨F.lin,λx c Z=>(F.off x c).2.1⟩) (λx a e=>iu.mpr ⟨(F.cin x a e).1,λy g Z q=>(F.off y g).2.2 x (q▸e)⟩)
  (λb f=>iu.mpr ⟨F.tb b f,λx c Z q=>absurd (kj b f) (bc.mpr (q▸(F.off x c).1))⟩)
 names:=F.names
 env:=λx d e j=>by
  rw[gZ]at j
  induction c:own.contains x using fu with
  |false=>
   refine aC (F.env x d e c) (λq=>?_) (cW λv B R=>?_)
   ·exact .inl q
   ·exact .inr ⟨v,B,R.less λb f=>.inl (iu.mp f).1⟩
  |true=>
   rw[c,Bool.true_and]at j;refine fW (λm v l B O=>?_) (F.ow x c);have k:=aH (e.symm.trans l);subst k;exact .inr ⟨v,B,O.plain (λq=>(iu.mp q).2 x c j rfl) λb f=>.inl (iu.mp f).1⟩
 ow:=λx c=>by rw[gZ]at c;refine yA (λc hk=>?_) (az.mp c);refine fW (λd v e B O=>?_) (F.ow x c);refine⟨d,v,e,B,O.less (iu.mpr ⟨O.1,λy g i q=>?_⟩) λb f=>.inl (iu.mp f).1⟩;have:=F.oinj y x g c q;subst this;rw[hk]at i;nomatch i
 oinj:=λx y c g=>by rw[gZ]at c g;exact F.oinj x y (az.mp c).1 (az.mp g).1
 off:=λx c=>by rw[gZ]at c;exact F.off x (az.mp c).1
theorem dD.show (F:dD W ε bad σ own ol h):gw W ε (yr bad own [] ol) σ h:=by
 have:=(F.letGo []).togw;have e:without (own.filter ([]:List Str).contains) σ=σ:=by
  have:own.filter ([]:List Str).contains=[]:=by rw[List.filter_eq_nil_iff];intro a Z;simp
  rw[this];unfold without;have:(σ.vars.filter λp=>!([]:List Str).contains p.1)=σ.vars:=by rw[List.filter_eq_self];intro a Z;simp
  rw[this]
 rwa [e]at this
theorem dD.ext (F:dD W ε bad σ own ol h)(X:Ext h h')(hS:W.S h'):dD W ε bad σ own ol h' where
 tos7:=F.tos7.ext X hS
 names:=F.names
 env:=λx d e f=>by
  refine aC (F.env x d e f) (λq=>?_) (cW λv B R=>?_)
  ·exact .inl q
  ·exact .inr ⟨v,B.ext F.hi (λa k e=>F.q8 k e) X,R.mono (fY F.tb X)⟩
 ow:=λx c=>by
  refine fW (λd v e B O=>?_) (F.ow x c);exact⟨d,v,e,B.ext F.hi (λa k e=>F.q8 k e) X,O.mono λb o q e=>by
   rcases q with q|rfl
   ·exact fY F.tb X b o q e
   ·exact X _ o O.2.1 e⟩
 oinj:=F.oinj
 off:=F.off
theorem dD.grow (F:dD W ε bad σ own ol h){m:List Addr}(new:∀b∈m,h.get? b=none)(X:Ext h h')(hS:W.S h')(l:∀b∈m,412<=b/\jd h' b):dD W ε (m++bad) σ own ol h':=by
 have j:=F.ext X hS;have f:∀b,b∈m++bad->b∈bad\/h.get? b=none:=λb i=>by
  refine aC (bj.mp i) (λq=>?_) (λq=>?_)
  ·exact .inr (new b q)
  ·exact .inl q
 have g:∀b∈Tb,b∈m++bad:=λb i=>aD _ (F.tb b i);refine{tos7:=?_,names:=F.names,env:=λx d e u=>?_,ow:=λx p=>?_,oinj:=F.oinj,off:=F.off}
 ·exact{S:=hS,kind:=F.kind,glob:=F.glob,blt:=F.blt,ns:=j.ns,hi:=F.hi,lin:=aD _ F.lin
        cells:=λx k=>by refine kh (λa v e c r1 r2=>?_) (j.cells x k);exact⟨a,v,e,c,aD _ r1,r2⟩
        inj:=F.inj,cin:=λx a e=>⟨aD _ (F.cin x a e).1,(F.cin x a e).2⟩
        tb:=g
        old:=λb i=>by
         refine aC (bj.mp i) (λq=>?_) (λq=>?_)
         ·exact⟨(l b q).2,.inr (l b q).1⟩
         ·exact j.old b q
        mkl:=F.mkl}
 ·refine aC (F.env x d e u) (λq=>?_) (cW λv B R=>?_)
  ·exact .inl q
  ·exact .inr ⟨v,B.ext F.hi (λa k e=>F.q8 k e) X,(R.less f).mono (fY g X)⟩
 ·refine fW (λd v e B O=>?_) (F.ow x p)
  refine⟨d,v,e,B.ext F.hi (λa k e=>F.q8 k e) X,(O.less (aD _ O.1) f).mono λb o q e=>?_⟩;rcases q with q|rfl
  ·exact fY g X b o q e
  ·exact X _ o O.2.1 e
theorem dD.dead {L:Addr}(F:dD W ε (L::bad) σ own ol h)(y:L∉bad)(hs:Heap.SameBut L h h')(hS:W.S h')(lin:ε.locals∈bad)(cin:∀x a,ε.cells.lookup x=some a->a∈bad)(tb:∀b∈Tb,b∈bad)(l:∀x,own.contains x=true->ol x≠L):
 dD W ε bad σ own ol h':=by
 have j:∀b o,b≠L->h.get? b=some o->h'.get? b=some o:=λb o f e=>hs.extBut b o f e;have k:∀b o,(b=ε.locals\/∃x,ε.cells.lookup x=some b)->h.get? b=some o->h'.get? b=some o:=λb o q c=>by
  refine j b o (λg=>y ?_) c;subst g;rcases q with rfl|⟨x,e⟩
  ·exact lin
  ·exact cin x b e
 refine{tos7:=?_,names:=F.names,env:=λx d e c=>?_,ow:=λx u=>?_,oinj:=F.oinj,off:=F.off}
 ·exact{S:=hS,kind:=F.kind,glob:=F.glob,blt:=F.blt
        ns:=by refine qJ (λm o H I c q=>?_) F.ns;exact⟨m,o,H,I,k _ _ (.inl rfl) c,q⟩
        hi:=F.hi,lin:=lin
        cells:=λx C=>by refine kh (λa v e z Z r=>cW (λo c G=>?_) z) (F.cells x C);exact⟨a,v,e,⟨o,k _ _ (.inr ⟨x,e⟩) c,G⟩,cin x a e,r⟩
        inj:=F.inj,cin:=λx a e=>⟨cin x a e,(F.cin x a e).2⟩,tb:=tb
        old:=λb f=>by refine yA (λq g=>?_) (F.old b (.tail _ f));exact⟨q.keep λo c=>j b o (λq=>y (q▸f)) c,g⟩
        mkl:=F.mkl}
 ·refine aC (F.env x d e c) (λq=>?_) (cW λv B R=>?_)
  ·exact .inl q
  ·exact .inr ⟨v,B.keep k,(R.mono λb o f c=>j b o (λq=>f (by simp[q])) c).less λb f=>.inl (.tail _ f)⟩
 ·refine fW (λd v e B O=>?_) (F.ow x u)
  have i:=l x u;have p:ol x∈bad:=(au.mp O.1).resolve_left i;refine⟨d,v,e,B.keep k,(O.mono λb o q c=>j b o (λg=>?_) c).less p λb f=>.inl (.tail _ f)⟩;revert q;refine yO (λq=>?_) (λq=>?_)
  ·exact q (by simp[g])
  ·exact i (q.symm.trans g)
noncomputable def nQ (fl:Bool)(x:Str)(own:List Str):List Str:=(if fl then[x]else[])++own.filter (· !=x)
noncomputable def J3 (fl:Bool)(x:Str)(l:Addr)(ol:Str->Addr):Str->Addr:=λy=>if fl&&y==x then l else ol y
theorem jA {fl:Bool}{x y:Str}{own:List Str}:(nQ fl x own).contains y=((fl&&y==x)||(own.contains y&&y !=x)):=by
 rw[Bool.eq_iff_iff];unfold nQ
 induction fl using fu<;>simp
theorem rH {x:Str}{l:Addr}{ol:Str->Addr}:J3 true x l ol x=l:=by simp[J3]
theorem oV {fl:Bool}{x y:Str}{l:Addr}{ol:Str->Addr}(h:y≠x):J3 fl x l ol y=ol y:=by simp[J3,h]
theorem M3 {x y:Str}{l:Addr}{ol:Str->Addr}:J3 false x l ol y=ol y:=by simp[J3]
noncomputable def Val (prog:Program)(w:World)(fl:Bool)(bad:List Addr)(h:Heap)(v:Value)(d:D)(m:List Addr):Prop:=
 (fl=true/\∃l,m=[l]/\jK (prog:=prog) (w:=w) bad h v d l)\/(fl=false/\m=[]/\RD prog w bad h v d)
theorem rF {fl:Bool}{x y:Str}{own:List Str}(h:(nQ fl x own).contains y=true):(y=x/\fl=true)\/(y≠x/\own.contains y=true):=by
 rw[jA]at h;by_cases q:y=x
 ·exact .inl ⟨q,by simpa[q]using h⟩
 ·exact .inr ⟨q,by simpa[q]using h⟩
theorem OwnP_n {fl:Bool}{x y:Str}{own:List Str}(h:(nQ fl x own).contains y=false):(y=x/\fl=false)\/(y≠x/\own.contains y=false):=by
 rw[jA]at h;by_cases q:y=x
 ·exact .inl ⟨q,by simpa[q]using h⟩
 ·exact .inr ⟨q,by simpa[q]using h⟩
theorem dD.put (F:dD W ε bad σ own ol h){x:Str}{v:Value}{d:D}{fl:Bool}{l:Addr}(H:σ.holds x=true)
 (V:(fl=true/\jK (prog:=prog) (w:=w) bad h v d l/\412<=l/\l≠ε.locals/\(∀y,ε.cells.lookup y≠some l)/\∀y,own.contains y=true->ol y≠l)\/(fl=false/\RD prog w bad h v d)){s:Shared}(hs:s.heap=h){Q:Unit->Shared->Prop}
 (k:∀h' tk,dD W ε bad (σ.add x d) (nQ fl x own) (J3 fl x l ol) h'->(∀b o,¬Spot ε x b->h.get? b=some o->h'.get? b=some o)->(∀b,(h.get? b).isSome=true->(h'.get? b).isSome=true)->Q () (zs s h' tk)):
 wpAny (model prog w) A (storeName ε x v) Q E s:=by
 refine F.tos7.store (Sg.yK F.names H) hs λh' tk K B G keep I=>k h' tk ?_ keep I;have j:∀b o,b∉bad->h.get? b=some o->h'.get? b=some o:=λb o i c=>keep b o (λq=>i (F.tos7.nU q)) c;have f:fl=true->jK (prog:=prog) (w:=w) bad h v d l/\412<=l/\l≠ε.locals/\(∀y,ε.cells.lookup y≠some l)/\∀y,own.contains y=true->ol y≠l:=λq=>V.elim (λr=>r.2) λr=>nomatch q.symm.trans r.1;refine{tos7:=K,names:=F.names,env:=λy m e c=>?_,ow:=λy g=>?_,oinj:=λy z g C e=>?_,off:=λy g=>?_}
 ·rw[Sg.gM]at e
  refine(OwnP_n c).elim (λq=>?_) λq=>?_
  ·rw[ao q.1]at e
   exact .inr ⟨v,q.1▸B,aH e▸V.elim (λr=>nomatch r.1.symm.trans q.2) λr=>r.2.mono j⟩
  ·rw[aq q.1]at e
   exact(F.env y m e q.2).imp id (cW λu p J=>⟨u,G y u q.1 p,J.mono j⟩)
 ·refine(rF g).elim (λq=>?_) λq=>?_
  ·refine⟨d,v,by rw[Sg.gM,ao q.1],q.1▸B,?_⟩
   rw[q.1,q.2,rH];exact(f q.2).1.mono λb o i c=>i.elim (λq=>j b o q c) λe=>keep b o (λs=>(e▸s).elim (f q.2).2.2.1 ((f q.2).2.2.2.1 _)) c
  ·refine fW (λm u e p O=>?_) (F.ow y q.2)
   refine⟨m,u,by rw[Sg.gM,aq q.1];exact e,G y u q.1 p,?_⟩;rw[oV q.1];exact O.mono λb o i c=>i.elim (λq=>j b o q c) λe=>keep b o (λs=>(e▸s).elim (F.off y q.2).2.1 ((F.off y q.2).2.2 _)) c
 ·refine(rF g).elim (λq=>(rF C).elim (λa=>q.1.trans a.1.symm) λa=>?_) λq=>(rF C).elim (λa=>?_) λa=>?_
  ·rw[q.1,q.2,rH,oV a.1]at e
   exact absurd e.symm ((f q.2).2.2.2.2 z a.2)
  ·rw[a.1,a.2,rH,oV q.1]at e
   exact absurd e ((f a.2).2.2.2.2 y q.2)
  ·rw[oV q.1,oV a.1]at e
   exact F.oinj y z q.2 a.2 e
 ·refine(rF g).elim (λq=>?_) λq=>?_
  ·rw[q.1,q.2,rH]
   exact⟨(f q.2).2.1,(f q.2).2.2.1,(f q.2).2.2.2.1⟩
  ·rw[oV q.1]
   exact F.off y q.2
theorem dD.alive (F:dD W ε bad σ own ol h){l:Addr}(hl:h.get? l=none):l≠ε.locals/\(∀y,ε.cells.lookup y≠some l)/\(∀y,own.contains y=true->ol y≠l)/\l∉bad:=by
 have nb:l∉bad:=λq=>by refine cW (λo a Z=>?_) ((F.old l q).1);rw[hl]at a;exact nn a
 refine⟨λq=>nb (q▸F.lin),λy q=>nb (F.cin y l q).1,λy b q=>?_,nb⟩;refine fW (λZ Z Z Z O=>?_) (F.ow y b);exact nb (q▸O.1)
theorem dD.O8 {h0:Heap}{ex m:List Addr}(F:dD W ε bad σ own ol h0){x:Str}{v:Value}{d:D}{fl:Bool}(P:σ.holds x=true)(new:∀b∈ex++m,h0.get? b=none/\412<=b)(M:∀b∈ex,jd s.heap b)
 (V:Val prog w fl (ex++(m++bad)) s.heap v d m)(X:Ext h0 s.heap)(hS:W.S s.heap)(ht:fl=true->t.contains x=true){Q:Unit->Shared->Prop}
 (k:∀ol' h' tk,Tr t ε own ol bad h0 (nQ fl x own) ol' (ex++(m++bad)) h'->dD W ε (ex++(m++bad)) (σ.add x d) (nQ fl x own) ol' h'->(∀b o,¬Spot ε x b->s.heap.get? b=some o->h'.get? b=some o)->(∀y,(nQ fl x own).contains y=true->(own.contains y=true/\ol' y=ol y)\/ol' y∈m)->Q () (zs s h' tk)):
 wpAny (model prog w) A (storeName ε x v) Q E s:=by
 have N:∀b∈m,jd s.heap b:=λb a=>by
  rcases V with⟨_,l,rfl,O⟩|⟨_,rfl,_⟩
  ·have:b=l:=by simpa using a
   subst this;exact O.live
  ·cases a
 have G:dD W ε (ex++(m++bad)) σ own ol s.heap:=by
  have:=F.grow (m:=ex++m) (λb a=>(new b a).1) X hS λb a=>⟨(new b a).2,(bj.mp a).elim (M b) (N b)⟩
  rwa [cR]at this
 obtain⟨l,I⟩:∃l,((fl=true/\m=[l]/\jK (prog:=prog) (w:=w) (ex++(m++bad)) s.heap v d l/\412<=l/\l≠ε.locals/\(∀y,ε.cells.lookup y≠some l)/\∀y,own.contains y=true->ol y≠l)\/(fl=false/\RD prog w (ex++(m++bad)) s.heap v d)):=by
  revert V;refine yO (nG λp l j O=>?_) (uA λp j R=>?_)
  ·have C:=new l (aD _ (by rw[j];exact .head _))
   refine sY (λL K J Z=>?_) (F.alive C.1);exact⟨l,.inl ⟨p,j,O,C.2,L,K,J⟩⟩
  ·exact⟨0,.inr ⟨p,R⟩⟩
 have H:fl=true->m=[l]:=λq=>I.elim (λr=>r.2.1) λr=>nomatch q.symm.trans r.1;refine G.put P (I.imp (λq=>⟨q.1,q.2.2⟩) id) rfl λh' tk U z T=>k _ h' tk ?_ U z λy f=>(rF f).elim (λq=>?_) λq=>.inl ⟨q.2,oV q.1⟩
 ·have c:∀b∈ex++(m++bad),b∈bad\/h0.get? b=none:=λb a=>by
   rw[<-cR]at a;exact(bj.mp a).elim (λq=>.inr (new b q).1) .inl
  refine{keep:=λb o q e=>z b o (λi=>q (i.elim (λe=>.inr (.inl e)) λe=>.inr (.inr (.inl ⟨_,e⟩)))) (X b o (λi=>q (.inl i)) e),new:=c,left:=λb a=>.inl (aD _ (aD _ a)),src:=λy f=>(rF f).elim (λq=>.inr ?_) λq=>.inl ⟨y,q.2,oV q.1⟩,fix:=λy f g=>(rF f).elim (λq=>nomatch (show t.contains x=false from q.1▸g).symm.trans (ht q.2)) λq=>⟨q.2,oV q.1⟩,alive:=λb a=>T b ?_}
  ·rw[q.1,q.2,rH]
   exact(new l (aD _ (H q.2▸.head _))).1
  ·refine yE (λo S=>?_) (bz.mp a)
   by_cases u:b∈Tb
   ·exact(W.UL hS b u).alive
   ·rw[X b o u S];rfl
 ·rw[q.1,q.2,rH,H q.2]
  exact .inr (.head _)
theorem cL.evF (H:cL W fA n r)(fl:Bool){e:Expr}(f:fl=true->gP e=true){d:D}(c:r.ev σ e=some d)(R:fj n A)(F:gw W ε bad σ s.heap){Q:VP}
 (k:∀v m h' tk,(∀b∈m,s.heap.get? b=none/\412<=b)->Val prog w fl (m++bad) h' v d m->Ext s.heap h'->W.S h'->Q v (zs s h' tk)):wpAny (model prog w) A (eval e ε) Q E s:=by
 induction fl using fu with
 |true=>
  refine H.fr c (f rfl) R F λv l h' tk i g O X S=>k v [l] h' tk (λb a=>?_) (.inl ⟨rfl,l,rfl,O⟩) X S;have:b=l:=by simpa using a
  subst this;exact⟨i,g⟩
 |false=>exact H.ev c R F λv h' tk j X S=>k v [] h' tk (λb a=>by cases a) (.inr ⟨rfl,rfl,j⟩) X S
theorem RD.scalar {v:Value}{d:D}(hd:scalar d=true)(R:RD prog w bad h v d)(bad':List Addr):RD prog w bad' h v d:=by cases R<;>first|exact .none|exact .bool _|exact .int _ _|exact .str _ _|nomatch hd
theorem jK.KY {v:Value}{d:D}{l:Addr}(O:jK (prog:=prog) (w:=w) bad h v d l):scalar d=false:=by obtain⟨_,_,_,_,_,_,⟨rfl,_⟩|⟨rfl,_⟩⟩:=O<;>rfl
theorem Tr.letGo (F:dD W ε bad σ own ol h):Tr t ε own ol bad h (own.filter keep.contains) ol (yr bad own keep ol) h where
 keep:=λZ Z Z e=>e
 new:=λb c=>.inl (iu.mp c).1
 left:=λb c=>by
  by_cases q:∃x,own.contains x=true/\keep.contains x=false/\ol x=b
  ·revert q;refine nF λx f Z d=>?_
   exact .inr ⟨x,f,d.symm⟩
  ·exact .inl (iu.mpr ⟨c,λx f g d=>q ⟨x,f,g,d⟩⟩)
 src:=λx a=>by rw[gZ]at a;exact .inl ⟨x,(az.mp a).1,rfl⟩
 fix:=λx a Z=>by rw[gZ]at a;exact⟨(az.mp a).1,rfl⟩
 alive:=λZ q=>q
theorem uC (hk:∀y,keep.contains y=true->own.contains y=true):without (own.filter keep.contains) σ=without keep σ:=by
 unfold without;congr 1;apply dU;intro p Z;rw[gZ]
 induction a:keep.contains p.1 using fu with
 |false=>simp
 |true=>rw[hk _ a];rfl
theorem HW (H:cL W fA n r)(R:fj n A)(F:dD W ε bad σ own ol s.heap){x:Expr}{d:D}{own':List Str}(fl:Bool)(g:fl=true->gP x=true)(hk:∀y,keep.contains y=true->own.contains y=true)(e:vG r σ own keep x=some (d,own')){Q:VP}
 (k:∀bad1 v m h' tk,Tr t ε own ol bad s.heap own' ol bad1 s.heap->dD W ε bad1 σ own' ol s.heap->(∀b∈m,s.heap.get? b=none/\412<=b)->Val prog w fl (m++bad1) h' v d m->Ext s.heap h'->W.S h'->Q v (zs s h' tk)):
 wpAny (model prog w) A (eval x ε) Q E s:=by
 revert k
 induction c:r.ev (without own σ) x using aK with
 |some C=>
  have e:vG r σ own keep x=some (d,own'):=e;unfold vG at e;rw[c]at e;exact someE (P:=λq:D×List Str=>(∀bad1 v m h' tk,Tr t ε own ol bad s.heap q.2 ol bad1 s.heap->dD W ε bad1 σ q.2 ol s.heap->(∀b∈m,s.heap.get? b=none/\412<=b)->Val prog w fl (m++bad1) h' v q.1 m->Ext s.heap h'->W.S h'->Q v (zs s h' tk))->wpAny (model prog w) A (eval x ε) Q E s) e
   λk=>H.evF fl g c R F.togw λv m h' tk f V X S=>k bad v m h' tk Tr.refl F f V X S
 |none=>
  have e:vG r σ own keep x=some (d,own'):=e;unfold vG at e;rw[c]at e;have p:=F.letGo keep;have o:=p.togw;rw[uC hk]at o;refine gQ e λC c e=>cdT e (λa e=>?_) λe=>?_
  ·refine yA (λj i=>?_) (Prod.mk.inj (aH e))
   rw[<-j,<-i];refine λk=>H.evF fl g c R o λv m h' tk f V X S=>k bad v m h' tk Tr.refl F f ?_ X S;revert V;refine yO (nG λZ l Z O=>?_) (uA λz u G=>?_)
   ·rw[O.KY]at a;nomatch a
   ·exact .inr ⟨z,u,G.scalar a _⟩
  ·refine yA (λj i=>?_) (Prod.mk.inj (aH e))
   rw[<-j,<-i];exact λk=>H.evF fl g c R o λv m h' tk f V X S=>k _ v m h' tk (Tr.letGo F) p f V X S
theorem v9 (F:dD W ε bad σ own ol h){x:Expr}{d:D}(hk:∀y,keep.contains y=true->own.contains y=true)(e:vG r σ own keep x=some (d,own')):
 ∃bad1 badE b,Tr t ε own ol bad h own' ol bad1 h/\dD W ε bad1 σ own' ol h/\gw W ε badE b h/\r.ev b x=some d/\(badE=bad1\/scalar d=true):=by
 unfold vG at e
 induction a:r.ev (without own σ) x using aK with
 |some k=>
  rw[a]at e;refine yA (λf c=>?_) (Prod.mk.inj (aH e));rw[<-f,<-c];exact⟨bad,bad,_,Tr.refl,F,F.togw,a,.inl rfl⟩
 |none=>
  rw[a]at e;have j:=F.letGo keep;have i:=j.togw;rw[uC hk]at i;refine gQ e λk a e=>cdT e (λg e=>?_) λe=>?_
  ·refine yA (λf c=>?_) (Prod.mk.inj (aH e))
   rw[<-f,<-c];exact⟨bad,_,_,Tr.refl,F,i,a,.inr g⟩
  ·refine yA (λf c=>?_) (Prod.mk.inj (aH e))
   rw[<-f,<-c];exact⟨_,_,_,Tr.letGo F,j,i,a,.inl rfl⟩
theorem GP {v:Expr}(g:∀a b c d,v≠.SetComp a b c d){x:Str}{px:Pos}{l:Nat}:swapsWith v (some (.Name x px)) l ε=pure false\/(Hw v=true/\swapsWith v (some (.Name x px)) l ε=pure true):=by
 induction v using Expr.casesOn with
 |ListComp a b c d=>
  have:∃q,swapsWith (.ListComp a b c d) (some (.Name x px)) l ε=pure q:=⟨_,rfl⟩;revert this;refine yE λq f=>?_
  induction q using fu with
  |false=>exact .inl f
  |true=>exact .inr ⟨rfl,f⟩
 |DictComp a b c d e=>
  have:∃q,swapsWith (.DictComp a b c d e) (some (.Name x px)) l ε=pure q:=⟨_,rfl⟩;revert this;refine yE λq f=>?_
  induction q using fu with
  |false=>exact .inl f
  |true=>exact .inr ⟨rfl,f⟩
 |SetComp a b c d=>exact absurd rfl (g a b c d)
 |_=>exact .inl rfl
theorem s7.jW (F:s7 W ε bad h):∀b∈bad,(h.get? b).isSome=true:=λb a=>(F.old b a).1.alive
noncomputable def After (W:Wd prog w gD)(t:List Str)(ε:Env)(bad:List Addr)(s:Shared)(own:List Str)(ol:Str->Addr)(σ':Sg)(own':List Str)(Q:Shared->Prop):Prop:=
 ∀h' tk bad' ol',Tr t ε own ol bad s.heap own' ol' bad' h'->dD W ε bad' σ' own' ol' h'->Q (zs s h' tk)
theorem TV (H:cL W fA n r)(R:fj n A)(F:dD W ε bad σ own ol s.heap){x:Str}{px pos:Pos}{v:Expr}{d:D}{Q:Flow->Shared->Prop}(hx:σ.holds x=true)(e:vG r σ own [] v=some (d,own'))
 (k:After W t ε bad s own ol (σ.add x d) (nQ (t.contains x&&gP v) x own') (Q .next)):wpAny (model prog w) A (exec (.Assign [.Name x px] v pos) ε) Q E s:=by
 have hk:∀y,([]:List Str).contains y=true->own.contains y=true:=λy q=>by simp at q
 have z:∀a b c d,v≠.SetComp a b c d:=λa b c d' q=>by refine ux (λZ Z Y Z Z Z P Z=>?_) (v9 (t:=t) F hk e);rw[q,H.nosc]at P;exact nn P
 have J:(t.contains x&&gP v)=true->gP v=true:=λq=>(az.mp q).2;have I:(t.contains x&&gP v)=true->t.contains x=true:=λq=>(az.mp q).1;refine aC (GP (ε:=ε) (x:=x) (px:=px) (l:=pos.line) z) (λhs=>?_) (yA λhc hs=>?_)
 ·refine wpAny_Assign_Name (HW (t:=t) H R F _ J hk e λbad1 u m g i T C hm V X S=>?_) hs
  refine C.O8 (s:=(zs s g i)) (ex:=[]) (t:=t) hx hm (λb f=>by cases f) V X S I λol' h2 t2 T2 U Z Z=>?_;exact k h2 t2 _ ol' (T.trans T2 F.tos7.jW) U
 ·refine ux (λbad1 badE Y T C FE P f=>?_) (v9 (t:=t) F hk e)
  rw[exec_Assign_Name_used _ _ _ _ hs];refine aj (bR (aj (H.us P hc R FE λu L g i mL hsc hL h4 N RL OL X S z=>?_)));have hb':badE=bad1:=f.resolve_right λq=>by rw[hsc]at q;nomatch q
  subst hb';refine sY (λa1 a2 a3 a4=>?_) (C.alive N);have G:∃m,(∀b∈[L]++m,s.heap.get? b=none/\412<=b)/\L∉m/\Val prog w (t.contains x&&gP v) ([L]++(m++badE)) g u d m:=by
   induction hq:(t.contains x&&gP v)using fu with
   |true=>
    refine xN (λl n1 n2 n3 O=>?_) (OL (J hq));refine⟨[l],λb f=>?_,λq=>n3 (dj.mp q).symm,.inl ⟨rfl,l,rfl,O⟩⟩;simp at f;rcases f with rfl|rfl
    ·exact⟨N,h4⟩
    ·exact⟨n1,n2⟩
   |false=>
    refine⟨[],λb f=>?_,by simp,.inr ⟨rfl,rfl,RL⟩⟩;simp at f;subst f;exact⟨N,h4⟩
  revert G;refine nF λm new K V=>?_;refine iQ (λoL es ep gL dL qL=>?_) (id z);have p:jd g L:=⟨oL,gL,gF λvs e=>by rw[dL]at e;nomatch e⟩;show wpAny (model prog w) A (assign (.Name x px) ε u) _ E _;refine cV (C.O8 (s:=(zs s g i)) (ex:=[L]) (t:=t) hx new (λb f=>by
   have:b=L:=by simpa using f
   subst this;exact p) V X S I λol' h2 t2 T2 U kp hol=>?_)
  have M:h2.get? L=some oL:=kp L oL (λq=>by
   revert q;refine yO (λq=>?_) (λq=>?_)
   ·exact a1 q
   ·exact a2 _ q) gL
  refine⟨mL,⟨oL,es,ep,M,dL,qL⟩,λh3 j=>aB ?_⟩;have S3:W.S h3:=Wd.j0 U.S h4 M (gF λvs e=>by rw[dL]at e;nomatch e) λb o f e=>j.extBut b o f e;have hLb:L∉m++badE:=λq=>(bj.mp q).elim K a4;have F3:dD W ε (m++badE) (σ.add x d) (nQ (t.contains x&&gP v) x own') ol' h3:=dD.dead (L:=L) U hLb j S3 (aD _ C.lin) (λy a q=>aD _ (C.cin y a q).1) (λb q=>aD _ (C.tb b q)) λy hy q=>by
   refine aC (hol y hy) (yA λhz e'=>?_) (λe'=>?_)
   ·exact a3 y hz (e'.symm.trans q)
   ·exact K (q▸e')
  have al3:∀b,(s.heap.get? b).isSome=true->(h3.get? b).isSome=true:=λb f=>by
   have:=T2.alive b f;by_cases q:b=L
   ·subst q;rw[N]at f;nomatch f
   ·refine yE (λo ho=>?_) (bz.mp this)
    rw[j.extBut b o q ho];rfl
  have T3:Tr t ε own' ol badE s.heap (nQ (t.contains x&&gP v) x own') ol' (m++badE) h3:={keep:=λb o q e=>j.extBut b o (λq=>by subst q;rw[N]at e;exact nn e) (T2.keep b o q e),new:=λb f=>T2.new b (.tail _ f),left:=λb f=>.inl (aD _ f),src:=T2.src,fix:=T2.fix,alive:=al3};exact k h3 t2 _ ol' (T.trans T3 F.tos7.jW) F3
theorem Ext.none {l:Addr}(X:Ext h h')(hl:412<=l)(e:h'.get? l=none):h.get? l=none:=by
 induction q:h.get? l using aK with
 |none=>rfl
 |some o=>rw[X l o (pC hl) q]at e;nomatch e
theorem qp.after {d:D}{Q:VP}{h₁:Heap}{t₁:Nat}(G:qp W bad s d Q)(X:Ext s.heap h₁):qp W bad (zs s h₁ t₁) d Q:=
 λv l h' tk b a O c S=>G v l h' tk (X.none a b) a O (X.trans c) S
theorem WL (H:cL W fA n r)(R:fj n A)(F:gw W ε bad σ s.heap){es:List Expr}{p:Pos}{d:D}{Q:VP}
 (e:(if es.length<=100 then(eX r σ es).map D.list else none)=some d)(G:qp W bad s d Q):wpAny (model prog w) A (eval (.List es p) ε) Q E s:=by
 revert G;refine j9 e λhl e=>nH e λds g G=>List_ (H.all R g F λi a f l k c=>?_)
 ·skip
  refine wpAny_newList ?_ (by rw[l.length,qg g];exact aA hl (by decide));have lo:412<=a.objs.size:=W.size c;have j:∀b o,a.get? b=some o->(a.push {cls:=.type "list",data:=.seq i.toArray}).get? b=some o:=λb o e=>aP _ e;refine G _ a.objs.size _ f (k.none lo (pQ (bG _))) lo ⟨.head _,pC lo,i.toArray,ds,⟨0,aL _ rfl⟩,?_,.inl ⟨rfl,rfl⟩⟩ (k.trans (Ext.iT j)) (W.pZ c j);have:fB prog w (a.objs.size::bad) a i ds:=l.less λb hb=>by
   rcases au.mp hb with rfl|hb
   ·exact .inr (pQ (bG _))
   ·exact .inl hb
  simpa using this.mono λb o Z e=>j b o e
theorem Ew (H:cL W fA n r)(K:Hk W fA)(R:fj n A)(F:gw W ε bad σ s.heap){d:Expr}{c:List Comprehension}{sc:Scope}{p:Pos}{ys:List D}{Q:VP}
 (ht:iz r (λσ=>r.ev σ d) c sc σ=some ys)(j:small ys.length=true)(G:qp W bad s (.list ys) Q):wpAny (model prog w) A (eval (.ListComp d c sc p) ε) Q E s:=by
 rw[eval_ListComp];refine vf (Acc:=XS prog w) (o:={cls:=.type "list",data:=.seq #[]}) (em:=λa f=>(do let _<-call (.builtin "list.append") [.ref a,<-eval d f])) H K R (λq=>wpAny_newList q) (λh=>aL _ rfl) (gF λI e=>nomatch e)
  (λbad h=>⟨#[],⟨0,aL _ rfl⟩,.nil⟩) (λa f=>R0 H R d a f) (λa f=>t7 d c sc p _ _) F ht (gR j) λa L h' tk m P T C l y N x ⟨g,hl,J⟩ X S k=>?_
 refine⟨m,k,λu M=>?_⟩;have v:∀b o,b≠L->h'.get? b=some o->u.get? b=some o:=λb o i e=>M.extBut b o i e;refine G _ a u tk x l ⟨.head _,pC l,g,ys,hl.at λo e=>v a o C e,?_,.inl ⟨rfl,rfl⟩⟩ (λb o i e=>v b o (λq=>by subst q;rw[N]at e;exact nn e) (X b o i e))
  (let ⟨_,_,_,O,z,_⟩:=k;Wd.j0 S y O (gF λI e=>by rw[z]at e;nomatch e) v)
 exact(J.mono λb o i e=>v b o (λq=>i (by simp[q])) e).less λb i=>.inl (by
  refine aC (au.mp i) (λq=>?_) (λq=>?_)
  ·exact q▸.head _
  ·exact .tail _ (.tail _ q))
theorem Dj (H:cL W fA n r)(K:Hk W fA)(R:fj n A)(F:gw W ε bad σ s.heap){d:Expr}{c:List Comprehension}{sc:Scope}{p:Pos}{ys:List D}{u:Value->Sem Unit}{Q:Shared->Prop}
 (ht:iz r (λσ=>r.ev σ d) c sc σ=some ys)(i:small ys.length=true)
 (k:∀v L h' tk m,L∉bad->412<=L->s.heap.get? L=none->RD prog w (L::bad) h' v (.list ys)->(∃l,s.heap.get? l=none/\412<=l/\l≠L/\jK (prog:=prog) (w:=w) (L::l::bad) h' v (.list ys) l)->Ext s.heap h'->W.S h'->h'.Ns L m->
  Ay prog w A E (λZ=>Q) v L (zs s h' tk) (some u)):wpAny (model prog w) A (evalThenUse (.ListComp d c sc p) ε u) (λZ=>Q) E s:=by
 show wpAny (model prog w) A (comprehension (.ListComp d c sc p) sc ε (firstIterPos c p) (newList []) (firstAsync c) (firstIter c ε) (some u) >>= λZ=>pure ()) (λZ=>Q) E s;refine aj (vf (Q:=λZ T=>wpAny (model prog w) A (pure ()) (λZ=>Q) E T) (Acc:=XS prog w) (o:={cls:=.type "list",data:=.seq #[]}) (em:=λa f=>(do let _<-call (.builtin "list.append") [.ref a,<-eval d f])) H K R (λq=>wpAny_newList q) (λh=>aL _ rfl) (gF λvs e=>nomatch e)
  (λbad h=>⟨#[],⟨0,aL _ rfl⟩,.nil⟩) (λa f=>R0 H R d a f) (λa f=>t7 d c sc p _ _) F ht (gR i) λa L h' tk m ha hL y j J Y G ⟨g,hl,M⟩ X S C=>?_)
 have P:∀b,b∈L::a::bad->b∈a::L::bad:=λb z=>by simp at z⊢;(revert z;refine yO (λq=>?_) (λO=>aC O (λq=>?_) (λq=>?_)))<;>simp[q]
 refine bC (k (.ref a) L h' tk m hL J Y (.list (λq=>by
  refine aC (au.mp q) (λq=>?_) (λq=>?_)
  ·exact y q
  ·exact ha q) hl M.shut) ⟨a,G,j,y,⟨.tail _ (.head _),pC j,g,ys,hl,M.less λb z=>.inl (P b z),.inl ⟨rfl,rfl⟩⟩⟩ X S C) (λZ N q=>?_) λZ Z x=>x
 revert q;refine cW λU I q=>?_;exact⟨U,I,λh' V=>aB (q h' V)⟩
theorem Dk (H:cL W fA n r)(K:Hk W fA)(R:fj n A)(F:gw W ε bad σ s.heap){g f:Expr}{b:List Comprehension}{sc:Scope}{p:Pos}{ys:List (Str×D)}{u:Value->Sem Unit}{Q:Shared->Prop}
 (ht:iz r (pairD r g f) b sc σ=some ys)(d:wC (ys.map (·.1))=true/\small ys.length=true)
 (k:∀v L h' tk m,L∉bad->412<=L->s.heap.get? L=none->RD prog w (L::bad) h' v (.sdict (ys.map (·.1)) (ys.map (·.2)))->Ext s.heap h'->W.S h'->h'.Ns L m->
  Ay prog w A E (λZ=>Q) v L (zs s h' tk) (some u)):wpAny (model prog w) A (evalThenUse (.DictComp g f b sc p) ε u) (λZ=>Q) E s:=by
 show wpAny (model prog w) A (comprehension (.DictComp g f b sc p) sc ε (firstIterPos b p) newDict (firstAsync b) (firstIter b ε) (some u) >>= λZ=>pure ()) (λZ=>Q) E s;refine aj (vf (Q:=λZ O=>wpAny (model prog w) A (pure ()) (λZ=>Q) E O) (Acc:=AccD prog w) (o:={cls:=.type "dict",data:=.dict #[]}) (em:=λa c=>(do
  let C<-eval g c
  let G<-holding [C] (eval f c)
  standAt {g.pos with endLine:=f.pos.endLine,endCol:=f.pos.endCol}
  holding [C,G] (dictSet a C G))) H K R (λq=>yg q) (λh=>aL _ rfl) (gF λN e=>nomatch e)
  (λbad h=>⟨[],Heap.DictOf.new h,.nil⟩) (λa c=>YS H R g f a c) (λa c=>ye g f b sc p _ _) F ht ⟨qN d.1,gR d.2⟩ λa L h' tk m Y hL z y l U M ⟨N,V,I⟩ X S i=>?_)
 refine bC (k (.ref a) L h' tk m hL l U (.sdict (λq=>by
  refine aC (au.mp q) (λq=>?_) (λq=>?_)
  ·exact z q
  ·exact Y q) ?_ ?_ V I.shut) X S i) (λZ J q=>?_) λZ Z x=>x
 ·exact beq_eq_false_iff_ne.mpr λq=>by subst q;exact absurd y (by decide)
 ·have:=I.length
  simp at this⊢;exact this.symm
 ·revert q;refine cW λP j q=>?_
  exact⟨P,j,λh' T=>aB (q h' T)⟩
theorem ZV (H:cL W fA n r)(K:Hk W fA)(R:fj n A)(F:gw W ε bad σ s.heap){x:Expr}{d:D}{u:Value->Sem Unit}{Q:Shared->Prop}(e:evS gD r σ x=some d)(G:Hw x=true)
 (k:∀v L h' tk m,scalar d=false->L∉bad->412<=L->s.heap.get? L=none->RD prog w (L::bad) h' v d->(gP x=true->∃l,s.heap.get? l=none/\412<=l/\l≠L/\jK (prog:=prog) (w:=w) (L::l::bad) h' v d l)->Ext s.heap h'->W.S h'->h'.Ns L m->
  Ay prog w A E (λZ=>Q) v L (zs s h' tk) (some u)):wpAny (model prog w) A (evalThenUse x ε u) (λZ=>Q) E s:=by
 revert k
 induction x using Expr.casesOn with
 |ListComp y g C p=>exact gQ e λz c e=>j9 e λf e=>someE e λk=>Dj H K R F c f λv L h' tk m q o j i I=>k v L h' tk m rfl q o j i λZ=>I
 |DictComp a b g C p=>exact gQ e λz c e=>j9 e λf e=>someE e λk=>Dk H K R F c f λv L h' tk m q o j i=>k v L h' tk m rfl q o j i nofun
 |_=>exact(nb G).elim
theorem HH (H:cL W fA n r)(K:Hk W fA)(R:fj n A)(F:gw W ε bad σ s.heap){px p:Pos}{d:D}{Q:VP}
 (f:σ.lookup (Str.ofString "Headers")=some .glob)(b:gN (Str.ofString "Headers")=true)(e:r.callF (Str.ofString "Headers") [] []=some d)(G:qp W bad s d Q):
 wpAny (model prog w) A (eval (.Call (.Name (Str.ofString "Headers") px) [] [] p) ε) Q E s:=by
 refine yE (λc a=>?_) (H.domF _ _ _ _ e);refine wpAny_Call_Name_kw (JL F f (K.fn _ c a b) (Cd b) ?_);refine pL rfl ?_;exact evalArgs_kw_nil rfl (wpAny_evalAll_nil ⟨K.kp c a _ _ F.S,H.hd e a R F.S F.tos7.lX G⟩)
theorem frS_ok (H:cL W fA n r)(K:Hk W fA)(R:fj n A)(F:gw W ε bad σ s.heap){x:Expr}{d:D}{Q:VP}(e:evS gD r σ x=some d)(a:gP x=true)(G:qp W bad s d Q):
 wpAny (model prog w) A (eval x ε) Q E s:=by
 induction x using Expr.casesOn with
 |List V p=>exact WL H R F e G
 |ListComp I z J p=>
  revert G;exact gQ e λS l e=>j9 e λm e=>someE e λG=>Ew H K R F l m G
 |IfExp T b o p=>
  have a:=az.mp (show(Nat.beq b.ctorIdx 24&&Nat.beq o.ctorIdx 24)=true from a);have C:∀{x:Expr},Nat.beq x.ctorIdx 24=true->gP x=true:=λq=>bD (λc=>cond c true _) q;refine gQ e λc N e=>IfExp_ (H.tst N R F λi g k j=>?_)
  induction c using fu with
  |true=>exact H.fr (s:=(zs s i g)) e (C a.1) R (F.ext k j) (G.after k)
  |false=>exact H.fr (s:=(zs s i g)) e (C a.2) R (F.ext k j) (G.after k)
 |Call f P L p=>
  have a:(l0 false P<|l0 false L<|rm false f λx Z=>x==Str.ofString "Headers")=true:=a;revert e;refine lV nb a λa=>lV nb a λa=>jw nb a λx U a e=>?_;rw[eq_of_beq a]at e⊢;refine gQ e λO v e=>cdT e (λM e=>?_) λe=>Sd cH e λy b J e=>nn e;have v:σ.lookup (Str.ofString "Headers")=some .glob:=D.glob.elim (motive_1:=λd=>σ.lookup (Str.ofString "Headers")=some d->σ.lookup (Str.ofString "Headers")=some .glob) O (bN M) (λh=>h) v;have e:(if vh.contains (Str.ofString "Headers")=true then biD (Str.ofString "Headers") []else if gN (Str.ofString "Headers")=true then r.callF (Str.ofString "Headers") [] []else none)=some d:=(aq (by decide)).symm.trans e;have e:=(aq (by decide)).symm.trans e;exact j9 e λu e=>HH H K R F v u e G
 |_=>exact(nb a).elim
theorem Tr.wJ (X:Ext h h')(hS:W.S h'):Tr t ε own ol bad h own ol bad h' where
 keep:=λb o q e=>X b o (λc=>q (.inl c)) e
 new:=λZ q=>.inl q
 left:=λZ q=>.inl q
 src:=λx q=>.inl ⟨x,q,rfl⟩
 fix:=λZ q Z=>⟨q,rfl⟩
 alive:=λb f=>by
  refine yE (λo d=>?_) (bz.mp f);by_cases a:b∈Tb
  ·exact(W.UL hS b a).alive
  ·rw[X b o a d];rfl
noncomputable def lq (W:Wd prog w gD)(t:List Str)(ε:Env)(bad:List Addr)(s:Shared)(own:List Str)(ol:Str->Addr)(out:Out)(Q:Flow->Shared->Prop):Prop:=
 ∀fl h' tk bad' ol',Tr t ε own ol bad s.heap out.own ol' bad' h'->dD W ε bad' out.sg out.own ol' h'->Iw (prog:=prog) (w:=w) bad' h' out.fl fl->Q fl (zs s h' tk)
theorem lq.step {out:Out}{Q:Flow->Shared->Prop}{h₁:Heap}{t₁:Nat}{bad1:List Addr}{a:List Str}{c:Str->Addr}(G:lq W t ε bad s own ol out Q)(T:Tr t ε own ol bad s.heap a c bad1 h₁)(old:∀b∈bad,(s.heap.get? b).isSome=true):
 lq W t ε bad1 (zs s h₁ t₁) a c out Q:=λe h' tk bad' ol' f g d=>G e h' tk bad' ol' (T.trans f old) g d
theorem ret_ok (H:cL W fA n r)(R:fj n A)(F:dD W ε bad σ own ol s.heap){x:Expr}{p:Pos}{d:D}{Q:Flow->Shared->Prop}(e:vG r σ own [] x=some (d,own'))(G:lq W t ε bad s own ol ⟨σ,own',.ret d⟩ Q):
 wpAny (model prog w) A (exec (.Return (some x) p) ε) Q E s:=by
 refine wpAny_Return_some (HW (t:=t) H R F false (λq=>by nomatch q) (λy q=>by simp at q) e λa v m h' tk T c f V X S=>?_);rcases V with⟨b,_⟩|⟨_,rfl,RV⟩
 ·nomatch b
 ·exact G (.ret v) h' tk a ol (T.trans (Tr.wJ X S) F.tos7.jW) (c.ext X S) ⟨v,rfl,RV⟩
theorem if_ok (H:cL W fA n r)(R:fj n A)(F:dD W ε bad σ own ol s.heap){x:Expr}{b o:List Stmt}{p:Pos}{out:Out}{Q:Flow->Shared->Prop}
 (e:(oS none (r.tst σ x) λc=>cond c (r.exs t σ own b) (r.exs t σ own o))=some out)(G:lq W t ε bad s own ol out Q):wpAny (model prog w) A (exec (.If x b o p) ε) Q E s:=by
 refine gQ e λc f e=>wpAny_If (H.tst f R F.show λh₁ t₁ d a=>?_);have G:=G.step (h₁:=h₁) (t₁:=t₁) (Tr.wJ d a) F.tos7.jW
 induction c using fu with
 |true=>exact H.exs (s:=(zs s h₁ t₁)) e R (F.ext d a) G
 |false=>exact H.exs (s:=(zs s h₁ t₁)) e R (F.ext d a) G
theorem Iw.next {fl:Flow}(x:Iw (prog:=prog) (w:=w) bad h .next fl):fl=.next:=x
theorem lq.ret {out:Out}{Q:Flow->Shared->Prop}{d:D}(G:lq W t ε bad s own ol out Q)(b:out.fl=.ret d){fl:Flow}{h':Heap}{tk:Nat}{bad':List Addr}{ol':Str->Addr}(T:Tr t ε own ol bad s.heap out.own ol' bad' h')(F:dD W ε bad' out.sg out.own ol' h')(ok:Iw (prog:=prog) (w:=w) bad' h' out.fl fl):
 ∃v,fl=.ret v/\Q (.ret v) (zs s h' tk):=by
 have q:=G fl h' tk bad' ol' T F ok;rw[b]at ok;revert ok;refine cW λv a Z=>?_;exact⟨v,a,a▸q⟩
noncomputable def WhlI (t:List Str)(x:Expr)(b:List Stmt)(own:List Str)(ol:Str->Addr)(bad:List Addr)(ε:Env)(out:Out)(h:Heap)(k:Nat)(h₁:Heap):Prop:=
 ∃σ₁ a c bad1,oA r t x b k σ₁ a=some out/\Tr t ε own ol bad h a c bad1 h₁/\dD W ε bad1 σ₁ a c h₁
theorem Nj (H:cL W fA n r)(R:fj n A)(F:dD W ε bad σ own ol s.heap){x:Expr}{b:List Stmt}{p:Pos}{out:Out}{Q:Flow->Shared->Prop}{k:Nat}
 (e:oA r t x b k σ own=some out)(G:lq W t ε bad s own ol out Q):wpAny (model prog w) A (exec (.While x b [] p) ε) Q E s:=by
 have j:=F.tos7.jW;refine wpAny_While (codeAny_whileLoop (λk M=>∃a f,M=(zs s a f)/\WhlI t x b own ol bad ε out s.heap k a) ?_ k ⟨s.heap,s.toks,rfl,σ,own,ol,bad,e,Tr.refl,F⟩);clear e F;intro k M;refine mG λa f e q=>?_;subst e;revert q;refine IW λu l o i e T F=>?_
 induction k using Nat.casesAuxOn with
 |zero=>exact nn e
 |succ k=>
  refine gQ e λc N e=>H.tst (s:=(zs s a f)) N R F.show λh2 y I S2=>?_;have T2:Tr t ε own ol bad s.heap l o i h2:=T.trans (Tr.wJ I S2) j;have K:=F.ext I S2;clear T F I S2 N
  induction c using fu with
  |false=>
   revert G;exact someE e λG=>dX (G .next h2 y i o T2 K rfl)
  |true=>
   refine onNE e (λσ' own' C e=>H.exs (s:=(zs s h2 y)) C R K λU O L g m T3 J z=>?_) λd C S=>H.exs (s:=(zs s h2 y)) C R K λU O L g m T3 J z=>?_
   ·rw[z.next]
    exact⟨k,eF k,O,L,rfl,σ',own',m,g,e,T2.trans T3 j,J⟩
   ·obtain⟨v,P,q⟩:=G.ret S (T2.trans T3 j) J z
    rw[P];exact q
noncomputable def Uc (I:Nat->Shared->Prop)(n:Nat)(Q:Flow->Shared->Prop):Flow->Shared->Prop
 |.next,s=>∃m,m<n/\I m s
 |.cont,s=>∃m,m<n/\I m s
 |.brk,s=>Q .next s
 |.ret v,s=>Q (.ret v) s
theorem Ey {c:Result->Shared->Prop}{a:Expr}{g:Value}{body:List Stmt}(I:Nat->Shared->Prop)
 (d:∀n s,I n s->wpAny (model prog w) A (pyNext g) (λr s₁=>match r with
  |none=>c (.ok .next) s₁
  |some v=>wpAny (model prog w) A (letOwnedTupleGo a g v) (λZ s₁=>wpAny (model prog w) A (assign a ε v) (λZ s2=>wpAny (model prog w) A (execs body ε) (Uc I n λf=>c (.ok f)) (notedBy (model prog w) A ε λe s'=>c (.error e) s') s2) (notedBy (model prog w) A ε λe s'=>c (.error e) s') s₁) (notedBy (model prog w) A ε λe s'=>c (.error e) s') s₁) (notedBy (model prog w) A ε λe s'=>c (.error e) s') s)
 (n:Nat)(s:Shared)(h:I n s):codeAny (model prog w) A (.forLoop a g body [] ε) c s:=by
 refine codeAny_loop' rfl I (λn s j=>?_) n h;show wpAny _ _ ((forTurn a g body [] ε).onRaise (λx=>do noteFrame x ε;theTreesLotGoes x)) _ _ s;refine wpAny_noted ?_;simp only[forTurn];refine aj (bR (aj (wpAny_onRaise (bC (d n s j) (λr s₁ b=>?_) λZ Z h'=>bR h'))))
 induction r using aK with
 |none=>exact aB (.inr ⟨rfl,codeAny_block (dX b)⟩)
 |some v=>
  refine aj (bC b (λZ s₁ b=>?_) λZ Z h'=>h');refine aj (bC b (λZ s2 k=>aj (bC k (λf l i=>?_) λZ Z h'=>h')) λZ Z h'=>h')
  induction f using Flow.casesOn with
  |next=>exact aB (.inl ⟨rfl,i⟩)
  |cont=>exact aB (.inl ⟨rfl,i⟩)
  |brk=>exact aB i
  |ret v=>exact aB i
theorem dD.xr (F:dD W ε bad σ own ol h)(e:∀y,own'.contains y=own.contains y)(b:∀y,own.contains y=true->ol' y=ol y):dD W ε bad σ own' ol' h where
 tos7:=F.tos7
 names:=F.names
 env:=λx d l f=>F.env x d l (by rw[<-e];exact f)
 ow:=λx a=>by rw[e]at a;rw[b x a];exact F.ow x a
 oinj:=λx y a c q=>by rw[e]at a c;rw[b x a,b y c]at q;exact F.oinj x y a c q
 off:=λx a=>by rw[e]at a;rw[b x a];exact F.off x a
theorem dD.likeSg (F:dD W ε bad σ own ol h)(c:σ'.names=σ.names)(hl:∀x,σ'.lookup x=σ.lookup x):dD W ε bad σ' own ol h where
 tos7:=F.tos7
 names:=F.names.trans c.symm
 env:=λx d l b=>F.env x d (by rw[<-hl];exact l) b
 ow:=λx a=>by rw[hl];exact F.ow x a
 oinj:=F.oinj
 off:=F.off
theorem dD.Bu (F:dD W ε bad σ own ol h){b:Addr}(q:oX ε own ol b):b∈bad:=by
 revert q;refine yO (λq=>?_) (λc=>aC c (λq=>?_) (λa=>aC a (yE λx q=>?_) (cW λx d q=>?_)))
 ·exact F.tb b q
 ·exact q▸F.lin
 ·exact(F.cin x b q).1
 ·refine fW (λZ Z Z Z O=>?_) (F.ow x d)
  exact q▸O.1
theorem dD.keepM {m:List Addr}(F:dD W ε bad σ own ol h)(f:∀b∈m,¬oX ε own ol b/\b∈bad)(k:∀b o,b∉m->h.get? b=some o->h'.get? b=some o)(hS:W.S h')(j:∀b∈m,jd h' b):dD W ε bad σ own ol h':=by
 have g:∀b o,(b=ε.locals\/∃x,ε.cells.lookup x=some b)->h.get? b=some o->h'.get? b=some o:=λb o q a=>k b o (λc=>(f b c).1 (by
  revert q;refine yO (λq=>?_) (λq=>?_)
  ·exact .inr (.inl q)
  ·exact .inr (.inr (.inl q)))) a
 refine{tos7:=F.tos7.keep hS g λb l=>?_,names:=F.names,env:=λx d e a=>?_,ow:=λx i=>?_,oinj:=F.oinj,off:=F.off}
 ·by_cases q:b∈m
  ·exact j b q
  ·exact(F.old b l).1.keep λo a=>k b o q a
 ·refine aC (F.env x d e a) (λq=>?_) (cW λv B R=>?_)
  ·exact .inl q
  ·exact .inr ⟨v,B.keep g,R.mono λb o q a=>k b o (λc=>q (f b c).2) a⟩
 ·refine fW (λd v e B O=>?_) (F.ow x i)
  refine⟨d,v,e,B.keep g,O.mono λb o q a=>k b o (λc=>?_) a⟩;revert q;refine yO (λq=>?_) (λq=>?_)
  ·exact q (f b c).2
  ·exact(f b c).1 (.inr (.inr (.inr ⟨x,i,q⟩)))
theorem dD.shed {m:List Addr}(F:dD W ε bad σ own ol h)(l:∀b∈m,¬oX ε own ol b/\b∈bad)(k:∀b o,b∉m->h.get? b=some o->h'.get? b=some o)(hS:W.S h'):dD W ε (bad.filter λb=>!m.contains b) σ own ol h':=by
 have p:∀b o,(b=ε.locals\/∃x,ε.cells.lookup x=some b)->h.get? b=some o->h'.get? b=some o:=λb o q f=>k b o (λi=>(l b i).1 (by
  revert q;refine yO (λq=>?_) (λq=>?_)
  ·exact .inr (.inl q)
  ·exact .inr (.inr (.inl q)))) f
 have c:∀b,oX ε own ol b->b∈bad.filter λb=>!m.contains b:=λb q=>bV.mpr ⟨F.Bu q,by have:b∉m:=λi=>(l b i).1 q;simpa using this⟩
 have sub:∀b,b∈(bad.filter λb=>!m.contains b)->b∈bad:=λb g=>(bV.mp g).1;have y:=F.tos7.part sub (c _ (.inr (.inl rfl))) (λx a e=>c _ (.inr (.inr (.inl ⟨x,e⟩)))) (λb g=>c _ (.inl g));refine{tos7:=y.keep hS p λb g=>?_,names:=F.names,env:=λx d e f=>?_,ow:=λx u=>?_,oinj:=F.oinj,off:=F.off}
 ·have j:=bV.mp g
  have:b∉m:=by simpa using j.2
  exact(F.old b j.1).1.keep λo f=>k b o this f
 ·refine aC (F.env x d e f) (λq=>?_) (cW λv B R=>?_)
  ·exact .inl q
  ·exact .inr ⟨v,B.keep p,(R.mono λb o q f=>k b o (λi=>q (l b i).2) f).less λb g=>.inl (sub b g)⟩
 ·refine fW (λd v e B O=>?_) (F.ow x u)
  refine⟨d,v,e,B.keep p,(O.mono λb o q f=>k b o (λi=>?_) f).less (c _ (.inr (.inr (.inr ⟨x,u,rfl⟩)))) λb g=>.inl (sub b g)⟩;revert q;refine yO (λq=>?_) (λq=>?_)
  ·exact q (l b i).2
  ·exact(l b i).1 (.inr (.inr (.inr ⟨x,u,q⟩)))
theorem dD.putN (F:dD W ε bad σ own ol h){x:Str}{v:Value}{d:D}(f:σ.holds x=true)(a:own.contains x=false)(R:RD prog w bad h v d){s:Shared}(hs:s.heap=h){Q:Unit->Shared->Prop}
 (k:∀h' tk,dD W ε bad (σ.add x d) own ol h'->(∀b o,¬Spot ε x b->h.get? b=some o->h'.get? b=some o)->(∀b,(h.get? b).isSome=true->(h'.get? b).isSome=true)->Q () (zs s h' tk)):
 wpAny (model prog w) A (storeName ε x v) Q E s:=by
 refine F.put (fl:=false) (l:=0) f (.inr ⟨rfl,R⟩) hs λh' tk i e g=>k h' tk (i.xr (λy=>?_) λy Z=>M3.symm) e g;rw[jA];by_cases c:y=x
 ·subst c;rw[a];simp
 ·simp[c]
theorem dD.bind (F:dD W ε bad σ own ol h)(S:A.handled=none){f:Expr}{v:Value}{d:D}{σ':Sg}(hb:gq f d σ=some σ')(c:∀x∈targetsOf f,own.contains x=false)(R:RD prog w bad h v d){s:Shared}(hs:s.heap=h){Q:Unit->Shared->Prop}
 (k:∀h' tk,dD W ε bad σ' own ol h'->(∀b o,b≠ε.locals->(∀x,ε.cells.lookup x≠some b)->h.get? b=some o->h'.get? b=some o)->(∀b,(h.get? b).isSome=true->(h'.get? b).isSome=true)->Q () (zs s h' tk)):
 wpAny (model prog w) A (assign f ε v) Q E s:=by
 subst hs;have m:∀{x b},b≠ε.locals->(∀x,ε.cells.lookup x≠some b)->¬Spot ε x b:=λi g q=>by
  revert q;refine yO (λq=>?_) (λq=>?_)
  ·exact i q
  ·exact g _ q
 refine sX (P:=λf d σ'=>RD prog w bad s.heap v d->(∀x∈targetsOf f,own.contains x=false)->(∀h' tk,dD W ε bad σ' own ol h'->(∀b o,b≠ε.locals->(∀x,ε.cells.lookup x≠some b)->s.heap.get? b=some o->h'.get? b=some o)->(∀b,(s.heap.get? b).isSome=true->(h'.get? b).isSome=true)->Q () (zs s h' tk))->wpAny (model prog w) A (assign f ε v) Q E s) ?_ ?_ hb R c k<;>clear hb R c k
 ·intro x p d z R c k
  exact cV (F.putN z (c _ (.head _)) R rfl λh' tk F' N Y=>k h' tk F' (λb o i g c=>N b o (m i g) c) Y)
 ·intro x K y J q p d a b l G R c k
  replace R:RD prog w bad s.heap v (.list [a,b])\/RD prog w bad s.heap v (.tuple [a,b]):=G.imp (λ(e:d=.list [a,b])=>e▸R) λ(e:d=.tuple [a,b])=>e▸R;clear G;refine yA (λz O=>?_) (az.mp l);rw[PyProof.Rows.assign_Tuple];refine aj (bR ?_);show wpAny _ _ (unpack v [(false,assign (.Name x K) ε),(false,assign (.Name y J) ε)]) Q E s;unfold unpack;refine aj (bF (tV S R λu w' h₁ R1 R2 X=>?_));have H:dD W ε bad σ own ol h₁:=F.ext (Ext.iT X) (W.pZ F.S X);refine di (cV (H.putN z (c x (.head _)) (R1.mono λb o Z e=>X b o e) rfl λj t2 F2 C V=>?_));have L:∀b o,b∉bad->h₁.get? b=some o->j.get? b=some o:=λb o hb c=>C b o (λq=>hb (H.tos7.nU q)) c;refine di (cV (F2.putN (σ:=σ.add x a) O (c y (.tail _ (.head _))) ((R2.mono λb o Z e=>X b o e).mono L) rfl λT I F3 M U=>?_));refine assignInOrder_nil (k T I F3 (λb o i g c=>M b o (m i g) (C b o (m i g) (X b o c))) λb hb=>?_);refine yE (λo c=>?_) (bz.mp hb);exact U b (V b (by rw[X b o c];rfl))
theorem Iter.move {c:Bool}{m:List Addr}{d:Value}{ds:List D}(T:Iter prog w bad h c m d ds)(k:∀b o,(b∉bad\/b∈m)->h.get? b=some o->h'.get? b=some o)(new:∀b∈bad',b∈bad\/h.get? b=none)(f:∀b∈m,b∈bad'):Iter prog w bad' h' c m d ds:=by
 have T1:=T.less (bad':=bad'++bad) (λb a=>by
  refine aC (bj.mp a) (λq=>?_) (λq=>?_)
  ·exact new b q
  ·exact .inl q) λb a=>bK _ (f b a)
 have T2:=T1.mono (h':=h') λb o q e=>k b o (q.imp (λq g=>q (aD _ g)) id) e;exact T2.less (λb a=>.inl (bK _ a)) f
noncomputable def ForI (t:List Str)(ε:Env)(bad m:List Addr)(own:List Str)(ol:Str->Addr)(c:Expr)(b:List Stmt)(out:Out)(e:Bool)(f:Value)(h:Heap)(ds:List D)(h₁:Heap):Prop:=
 ∃σ₁ a d bad1,mK r t c b ds σ₁ a=some out/\Iter prog w bad1 h₁ e m f ds/\Tr t ε own ol bad h a d bad1 h₁/\dD W ε bad1 σ₁ a d h₁/\(∀b∈m,¬oX ε a d b)/\∀y∈targetsOf c,a.contains y=false
theorem for_ok (H:cL W fA n r)(K:Hk W fA)(R:fj n A)(F:dD W ε bad σ own ol s.heap){c x:Expr}{b:List Stmt}{p:Pos}{out:Out}{ds:List D}{Q:Flow->Shared->Prop}
 (hi:gH r (without own σ) x=some ds)(hto:∀y∈targetsOf c,own.contains y=false/\t.contains y=false)(hz:uU x=true->(targetsOf c).length=2)
 (e:mK r t c b ds σ own=some out)(G:lq W t ε bad s own ol out Q):wpAny (model prog w) A (exec (.For c x b [] p) ε) Q E s:=by
 have old:=F.tos7.jW;refine wpAny_For (BP H K R F.togw hi λzp hzp it h₁ i m T new X1 O=>?_) (uc H hi);have fresh:∀b∈m,b∉bad:=λb a q=>by have:=old b q;rw[new b a]at this;nomatch this
 have F1:dD W ε (m++bad) σ own ol h₁:=F.grow new X1 O λb a=>(T.lo b a).2;have T0:Tr t ε own ol bad s.heap own ol (m++bad) h₁:=by
  have q:=Tr.wJ (t:=t) (ε:=ε) (own:=own) (ol:=ol) (bad:=bad) X1 O
  exact{keep:=q.keep,new:=λb a=>by
         refine aC (bj.mp a) (λa=>?_) (λa=>?_)
         ·exact .inr (new b a)
         ·exact .inl a
        left:=λb a=>.inl (aD _ a),src:=q.src,fix:=q.fix,alive:=q.alive}
 have l:∀b∈m,¬oX ε own ol b:=λb a q=>fresh b a (F.Bu q);generalize hI:(λ(k:Nat)(s':Shared)=>∃g h₁ i,s'=(zs s h₁ i)/\k=g.length/\ForI t ε bad m own ol c b out zp it s.heap g h₁)=I;have I1:∀{g h₁ i},ForI t ε bad m own ol c b out zp it s.heap g h₁->I g.length (zs s h₁ i):=λq=>hI▸⟨_,_,_,rfl,rfl,q⟩;refine Ey I ?_ ds.length _ (I1 ⟨σ,own,ol,m++bad,e,T,T0,F1,l,λy hy=>(hto y hy).1⟩);clear e F1 T0 T X1 O hi l K F;intro k s' hIk;rw[<-hI]at hIk;clear hI;revert hIk;refine iQ λg h₁ i e1 e2 q=>?_;subst e1 e2;revert q;refine tU λJ u P bad1 e T M F1 S X=>?_;have mb:∀b∈m,¬oX ε u P b/\b∈bad1:=λb a=>⟨S b a,(T.lo b a).1⟩
 induction g using gY with
 |nil=>
  have e:(⟨J,u,.next⟩:Out)=out:=aH e;rw[<-e]at G;refine T.done (s:=(zs s h₁ i)) R.hd λh₂ t2 Y=>?_;have S2:W.S h₂:=W.low F1.S λb o a ho=>Y b o (λq=>by refine Dh (λZ hlo o' ho' nc=>?_) (T.lo b q);have ρ:=aH (ho.symm.trans ho');subst ρ;exact a.elim (λq=>absurd q (bc.mpr hlo)) nc) ho
  refine G .next h₂ t2 _ P ?_ (F1.shed mb Y S2) rfl
  have al:∀b,(s.heap.get? b).isSome=true->(h₂.get? b).isSome=true:=λb a=>by refine yE (λo ho=>?_) (bz.mp (M.alive b a));rw[Y b o (λq=>by rw[new b q]at a;nomatch a) ho];rfl
  exact{keep:=λb o q e=>Y b o (λj=>by rw[new b j]at e;exact nn e) (M.keep b o q e),new:=λb a=>M.new b (bV.mp a).1
        left:=λb a=>(M.left b a).imp (λq=>bV.mpr ⟨q,by have:b∉m:=λj=>fresh b j a;simpa using this⟩) id
        src:=M.src,fix:=M.fix,alive:=al}
 |cons d g=>
  refine gQ e λσ' N e=>?_
  ·have nb:∀{b},h₁.get? b=none->b∉bad1:=λe q=>by
    have:=(F1.old _ q).1.alive;rw[e]at this;nomatch this
   refine bC (T.step (s:=(zs s h₁ i)) (σ:=J) F1.S N (λq=>hz (hzp q)) (λv h₂ t2 R2 T2 S2 Y a2=>?_) R.hd nb) (λr' s₁ q=>by(revert q;refine cW λv ρ q=>?_;subst ρ);exact q) λZ Z x=>x;have F2:dD W ε bad1 J u P h₂:=F1.keepM mb Y S2 λb a=>(T2.lo b a).2.2;refine F2.bind (s:=(zs s h₂ t2)) R.hd N X R2 rfl λh3 t3 F3 k3 a3=>?_;have k3m:∀b o,(b∉bad1\/b∈m)->h₂.get? b=some o->h3.get? b=some o:=λb o q e=>k3 b o (λj=>by
    revert q;refine yO (λq=>?_) (λq=>?_)
    ·exact q (j▸F2.lin)
    ·exact S b q (.inr (.inl j))) (λy j=>by
    revert q;refine yO (λq=>?_) (λq=>?_)
    ·exact q (F2.cin y b j).1
    ·exact S b q (.inr (.inr (.inl ⟨y,j⟩)))) e
   have T3:=T2.mono k3m;have al12:∀b,(h₁.get? b).isSome=true->(h₂.get? b).isSome=true:=λb a=>by
    by_cases q:b∈m
    ·exact(T2.lo b q).2.2.alive
    ·refine yE (λo ho=>?_) (bz.mp a)
     rw[Y b o q ho];rfl
   have kp3:∀b o,¬oX ε own ol b->s.heap.get? b=some o->h3.get? b=some o:=λb o q e=>by
    have hbm:b∉m:=λj=>by rw[new b j]at e;exact nn e
    exact k3 b o (λj=>q (.inr (.inl j))) (λy j=>q (.inr (.inr (.inl ⟨y,j⟩)))) (Y b o hbm (M.keep b o q e))
   have Tr3:Tr t ε own ol bad s.heap u P bad1 h3:={keep:=kp3,new:=M.new,left:=M.left,src:=M.src,fix:=M.fix,alive:=λb a=>a3 b (al12 b (M.alive b a))};have go:∀{f:Out},r.exs t σ' u b=some f->(∀fl U t4 bad4 C,Tr t ε own ol bad s.heap f.own C bad4 U->dD W ε bad4 f.sg f.own C U->Iw (prog:=prog) (w:=w) bad4 U f.fl fl->Iter prog w bad4 U zp m it g->(∀b∈m,¬oX ε f.own C b)->(∀y∈targetsOf c,f.own.contains y=false)->
    Uc I (d::g).length Q fl (zs s U t4))->
    wpAny (model prog w) A (execs b ε) (Uc I (d::g).length Q) (notedBy (model prog w) A ε λe s'=>cameBackBy (model prog w) A ε E e s') (zs s h3 t3):=by
    intro f a kk;refine H.exs (s:=(zs s h3 t3)) a R F3 λfl U t4 bad4 C T4 F4 ok=>?_;have mIn:∀b∈m,b∈bad4:=λb a=>(T4.left b (T3.lo b a).1).resolve_right λ⟨y,hy,q⟩=>S b a (.inr (.inr (.inr ⟨y,hy,q⟩)));refine kk fl U t4 bad4 C (Tr3.trans T4 old) F4 ok ?_ ?_ ?_
    ·exact T3.move (λb o q e=>T4.keep b o (λj=>by
      revert q;refine yO (λq=>?_) (λq=>?_)
      ·exact q (F3.Bu j)
      ·exact S b q j) e) T4.new mIn
    ·rintro b a (q|q|q|⟨y,hy,q⟩)
     ·exact S b a (.inl q)
     ·exact S b a (.inr (.inl q))
     ·exact S b a (.inr (.inr (.inl q)))
     ·refine aC (T4.src y hy) (cW λz hz' j=>?_) (λj=>?_)
      ·exact S b a (.inr (.inr (.inr ⟨z,hz',q.trans j⟩)))
      ·have:=(T3.lo b a).2.2.alive
       rw[q,j]at this;nomatch this
    ·intro y hy
     induction hc:f.own.contains y using fu with
     |false=>rfl
     |true=>
      have:=(T4.fix y hc (hto y hy).2).1;rw[X y hy]at this;nomatch this
   refine onNE e (λσ2 Hf L e=>go L λfl U t4 bad4 C T4 F4 ok I4 nm4 V=>?_) λd' L hr=>go L λfl U t4 bad4 C T4 F4 ok I4 nm4 V=>?_
   ·rw[ok.next]
    exact⟨g.length,eF _,I1 ⟨σ2,Hf,C,bad4,e,I4,T4,F4,nm4,V⟩⟩
   ·obtain⟨v,hv,q⟩:=G.ret hr T4 F4 ok
    rw[hv];exact q
theorem Dq {ε:Env}{x y:Str}{px py p p':Pos}{k k':Nat}{f e:Expr}(m:(constantsAlone 8 f&&constantsAlone 8 e)=false):
 swappedStores [.Tuple [.Name x px,.Name y py] k p] (.Tuple [f,e] k' p') ε=pure none\/swappedStores [.Tuple [.Name x px,.Name y py] k p] (.Tuple [f,e] k' p') ε=pure (some [x,y]):=by
 have g:([f,e].all (constantsAlone 8))=false:=by simpa[List.all_cons]using m
 have d:∀{c:Prop} [Decidable c] {a b n s:Sem (Option (List Str))},a=n->(¬c->b=n\/b=s)->(if c then a else b)=n\/(if c then a else b)=s:=λ{c} _ {a b n s} h k=>by
  by_cases q:c
  ·rw[ao q];exact .inl h
  ·rw[aq q];exact k q
 refine d rfl λZ=>d rfl λZ=>d rfl λl=>d rfl λZ=>?_;rw[g]
 right
 simp only[cJ,if_false];rw[Bool.or_eq_true,not_or]at l;have i:=l.1;simp only[List.filterMap_cons,List.filterMap_nil]at i⊢;have wH:∀(c:Bool)(z:Str),(if c=true then some z else none)=some z\/(if c=true then some z else none)=none:=λc z=>by induction c using fu<;>simp
 (refine aC (wH (ε.kindOf x==some NameKind.local&&px.line==(Option.map (λ(x:Expr)=>x.pos.line) [Expr.Name x px,Expr.Name y py].head?).getD 0) x) (λq=>?_) (λq=>?_))<;>
  (refine aC (wH (ε.kindOf y==some NameKind.local&&py.line==(Option.map (λ(x:Expr)=>x.pos.line) [Expr.Name x px,Expr.Name y py].head?).getD 0) y) (λj=>?_) (λj=>?_))<;>rw[q,j]at i⊢<;>first|rfl|(exfalso;exact i rfl)
theorem qO {ε:Env}{v:Expr}{ts:List Expr}{k:Nat}{p:Pos}{l:Nat}:swapsWithSole [.Tuple ts k p] v l ε=pure false:=by
 induction v using Expr.casesOn<;>rfl
noncomputable def zX (prog:Program)(w:World)(ε:Env)(bad:List Addr)(own:List Str)(ol:Str->Addr)(h:Heap)(fl:Bool)(v:Value)(d:D)(l:Addr):Prop:=
 (fl=true/\jK (prog:=prog) (w:=w) bad h v d l/\412<=l/\l≠ε.locals/\(∀y,ε.cells.lookup y≠some l)/\∀y,own.contains y=true->ol y≠l)\/(fl=false/\RD prog w bad h v d)
theorem O7 (F:dD W ε bad σ own ol h){x y:Str}{v u:Value}{d e:D}{f g:Bool}{l m:Addr}(Y:σ.holds x=true)(X:σ.holds y=true)(H:f=true->g=true->l≠m)
 (V:zX prog w ε bad own ol h f v d l)(U:zX prog w ε bad own ol h g u e m){s:Shared}(hs:s.heap=h){Q:Unit->Shared->Prop}
 (k:∀h' tk,dD W ε bad ((σ.add x d).add y e) (nQ g y (nQ f x own)) (J3 g y m (J3 f x l ol)) h'->(∀b o,b≠ε.locals->(∀x,ε.cells.lookup x≠some b)->h.get? b=some o->h'.get? b=some o)->(∀b,(h.get? b).isSome=true->(h'.get? b).isSome=true)->Q () (zs s h' tk)):
 wpAny (model prog w) A (storeName ε x v) (λZ s₁=>wpAny (model prog w) A (storeName ε y u) Q E s₁) E s:=by
 have I:∀{x b},b≠ε.locals->(∀x,ε.cells.lookup x≠some b)->¬Spot ε x b:=λa p q=>by
  revert q;refine yO (λq=>?_) (λq=>?_)
  ·exact a q
  ·exact p _ q
 refine F.put Y V hs λc C F1 J a1=>?_;have M:∀b o,b∉bad->h.get? b=some o->c.get? b=some o:=λb o L j=>J b o (λq=>L (F.tos7.nU q)) j;refine F1.put (s:=(zs s c C)) (σ:=σ.add x d) (fl:=g) (l:=m) X ?_ rfl λG S F2 T a2=>k G S F2 (λb o a p j=>T b o (I a p) (J b o (I a p) j)) λb L=>a2 b (a1 b L);revert U;refine yO (xP λa O p P N h5=>?_) (yA λa R=>?_)
 ·refine .inl ⟨a,O.mono λb o q j=>?_,p,P,N,λz K=>?_⟩
  ·rcases q with q|rfl
   ·exact M b o q j
   ·exact J _ o (I P N) j
  ·rw[jA]at K
   by_cases i:z=x
   ·subst i
    have hf:f=true:=by
     induction f using fu with
     |true=>rfl
     |false=>simp at K
    subst hf;rw[rH];exact H rfl a
   ·rw[oV i]
    exact h5 z (by simpa[i]using K)
 ·exact .inr ⟨a,R.mono M⟩
theorem Zy {f g:Bool}{x y z:Str}:(nQ g y (nQ f x own)).contains z=((g&&z==y)||((f&&z==x)||(own.contains z&&z !=x))&&z !=y):=by rw[jA,jA]
noncomputable def Hf (f g:Bool)(x y:Str)(own:List Str):List Str:=(if f then[x]else[])++(if g then[y]else[])++own.filter λz=>z !=x&&z !=y
noncomputable def ol2 (f g:Bool)(x y:Str)(l m:Addr)(ol:Str->Addr):Str->Addr:=λz=>if g&&z==y then m else if f&&z==x then l else ol z
theorem lH {f g:Bool}{x y z:Str}:(Hf f g x y own).contains z=((f&&z==x)||(g&&z==y)||(own.contains z&&(z !=x&&z !=y))):=by
 rw[Bool.eq_iff_iff];unfold Hf
 induction f using fu<;>induction g using fu<;>simp[or_assoc]
theorem Sg.Hn {x y z:Str}{d e:D}(a:x≠y):((σ.add y e).add x d).lookup z=((σ.add x d).add y e).lookup z:=by
 simp only[Sg.gM];by_cases b:z=x
 ·subst b
  simp[a]
 ·simp[b]
theorem Pn {f g c:Bool}{x y z:Str}(a:x≠y):((f&&z==x)||(g&&z==y)||(c&&(z !=x&&z !=y)))=((g&&z==y)||((f&&z==x)||(c&&z !=x))&&z !=y):=
 (by decide:∀f g c p q:Bool,(p&&q)=false->(f&&p||g&&q||c&&(!p&& !q))=(g&&q||(f&&p||c&& !p)&& !q)) f g c (z==x) (z==y) (Bool.eq_false_iff.mpr λh=>a ((eq_of_beq (az.mp h).1).symm.trans (eq_of_beq (az.mp h).2)))
theorem KN {f g c:Bool}{x y z:Str}(a:x≠y):((f&&z==x)||(g&&z==y)||(c&&(z !=x&&z !=y)))=((f&&z==x)||((g&&z==y)||(c&&z !=y))&&z !=x):=
 (by decide:∀f g c p q:Bool,(p&&q)=false->(f&&p||g&&q||c&&(!p&& !q))=(f&&p||(g&&q||c&& !q)&& !p)) f g c (z==x) (z==y) (Bool.eq_false_iff.mpr λh=>a ((eq_of_beq (az.mp h).1).symm.trans (eq_of_beq (az.mp h).2)))
theorem Jo {f g:Bool}{x y:Str}{l m:Addr}{d e:D}(a:x≠y)(F:dD W ε bad ((σ.add x d).add y e) (nQ g y (nQ f x own)) (J3 g y m (J3 f x l ol)) h):dD W ε bad ((σ.add x d).add y e) (Hf f g x y own) (ol2 f g x y l m ol) h:=by
 refine F.xr (λz=>?_) λz Z=>?_
 ·rw[Zy,lH]
  exact Pn a
 ·rfl
theorem V5 {f g:Bool}{x y:Str}{l m:Addr}{d e:D}(a:x≠y)(F:dD W ε bad ((σ.add y e).add x d) (nQ f x (nQ g y own)) (J3 f x l (J3 g y m ol)) h):dD W ε bad ((σ.add x d).add y e) (Hf f g x y own) (ol2 f g x y l m ol) h:=by
 have c:=F.likeSg (σ':=(σ.add x d).add y e) rfl λz=>(Sg.Hn a).symm;refine c.xr (λz=>?_) λz Z=>?_
 ·rw[Zy,lH]
  exact KN a
 ·unfold ol2 J3
  by_cases b:z=x
  ·subst b
   induction f using fu<;>induction g using fu<;>simp[a]
  ·simp[b]
theorem Tr.puts {a:List Str}{c:Str->Addr}(X:Ext h0 h)(kp:∀b o,b≠ε.locals->(∀x,ε.cells.lookup x≠some b)->h.get? b=some o->h'.get? b=some o)(hS:W.S h)(p:∀b,(h.get? b).isSome=true->(h'.get? b).isSome=true)
 (m:∀b∈B,b∈bad\/h0.get? b=none)(f:∀b∈bad,b∈B)(src:∀y,a.contains y=true->(own.contains y=true/\c y=ol y)\/(h0.get? (c y)=none/\t.contains y=true)):Tr t ε own ol bad h0 a c B h' where
 keep:=λb o q e=>kp b o (λd=>q (.inr (.inl d))) (λy d=>q (.inr (.inr (.inl ⟨y,d⟩)))) (X b o (λd=>q (.inl d)) e)
 new:=m
 left:=λb i=>.inl (f b i)
 src:=λy g=>(src y g).imp (λq=>⟨y,q.1,q.2⟩) And.left
 fix:=λy g k=>(src y g).elim id λq=>by rw[q.2]at k;nomatch k
 alive:=λb i=>p b (by
  refine yE (λo l=>?_) (bz.mp i);by_cases j:b∈Tb
  ·exact(W.UL hS b j).alive
  ·rw[X b o j l];rfl)
theorem XF (H:cL W fA n r)(R:fj n A)(F:dD W ε bad σ own ol s.heap){x y:Str}{px py p p' pos:Pos}{k k':Nat}{C j:Expr}{a b:D}{Q:Flow->Shared->Prop}(hxy:x≠y)(hx:σ.holds x=true)(hy:σ.holds y=true)
 (hc:(constantsAlone 8 C&&constantsAlone 8 j)=false)(h1:r.ev (without own σ) C=some a)(h2:r.ev (without own σ) j=some b)
 (G:After W t ε bad s own ol ((σ.add x a).add y b) (Hf (t.contains x&&gP C) (t.contains y&&gP j) x y own) (Q .next)):
 wpAny (model prog w) A (exec (.Assign [.Tuple [.Name x px,.Name y py] k p] (.Tuple [C,j] k' p') pos) ε) Q E s:=by
 generalize hf:(t.contains x&&gP C)=f at G;generalize hg:(t.contains y&&gP j)=g at G;have hf':f=true->gP C=true/\t.contains x=true:=λq=>by rw[q]at hf;exact⟨(az.mp hf).2,(az.mp hf).1⟩
 have hg':g=true->gP j=true/\t.contains y=true:=λq=>by rw[q]at hg;exact⟨(az.mp hg).2,(az.mp hg).1⟩
 have vals:∀{Q:VP},(∀v u l m B h' tk L,(∀b∈B,b∈bad\/s.heap.get? b=none)->(∀b∈bad,b∈B)->(f=true->s.heap.get? l=none)->(g=true->s.heap.get? m=none)->(f=true->g=true->l≠m)->
  dD W ε B σ own ol h'->zX prog w ε B own ol h' f v a l->zX prog w ε B own ol h' g u b m->Ext s.heap h'->W.S h'->h'.IsTuple L #[v,u]->Q (.ref L) (zs s h' tk))->
  wpAny (model prog w) A (eval (.Tuple [C,j] k' p') ε) Q E s:=by
  intro Q K;refine Tuple_ (cP (H.evF f (λq=>(hf' q).1) h1 R F.togw λv m1 h₁ M I V1 X1 N=>?_) (H.notStar h1 _));have lv:∀{fl:Bool}{B:List Addr}{h:Heap}{v:Value}{d:D}{m:List Addr},Val prog w fl B h v d m->∀b∈m,jd h b:=λV b T=>by
   rcases V with⟨_,l,rfl,O⟩|⟨_,rfl,_⟩
   ·have:b=l:=by simpa using T
    subst this;exact O.live
   ·cases T
  have F1:dD W ε (m1++bad) σ own ol h₁:=F.grow (λb T=>(I b T).1) X1 N λb T=>⟨(I b T).2,lv V1 b T⟩;refine cP (H.evF (s:=(zs s h₁ M)) g (λq=>(hg' q).1) h2 R F1.togw λu m2 h₂ t2 i V2 S S2=>?_) (H.notStar h2 _);have F2:dD W ε (m2++(m1++bad)) σ own ol h₂:=F1.grow (λb T=>(i b T).1) S S2 λb T=>⟨(i b T).2,lv V2 b T⟩;refine dm (wpAny_newTuple ?_ (by show 2<=_;decide));have kp:∀b o,h₂.get? b=some o->(h₂.push {cls:=.type "tuple",data:=.seq #[v,u]}).get? b=some o:=λb o e=>aP _ e;have S3:=W.pZ S2 kp;have F3:=F2.ext (Ext.iT kp) S3;have X:Ext s.heap h₂:=X1.trans S;have J:∀c∈m2,s.heap.get? c=none/\412<=c:=λc hc=>⟨X1.none (i c hc).2 (i c hc).1,(i c hc).2⟩;have inB:∀c∈m2++(m1++bad),c∈bad\/s.heap.get? c=none:=λc hc=>by
   refine aC (bj.mp hc) (λq=>?_) (λq=>?_)
   ·exact .inr (J c q).1
   ·refine aC (bj.mp q) (λq=>?_) (λq=>?_)
    ·exact .inr (I c q).1
    ·exact .inl q
  have U:∀c,c∈m2++(m1++bad)->c∈m1++bad\/h₁.get? c=none:=λc hc=>by
   refine aC (bj.mp hc) (λq=>?_) (λq=>?_)
   ·exact .inr (i c q).1
   ·exact .inl q
  have put:∀{fl:Bool}{v:Value}{d:D}{m:List Addr},Val prog w fl (m2++(m1++bad)) (h₂.push {cls:=.type "tuple",data:=.seq #[v,u]}) v d m->True:=λZ=>trivial;obtain⟨l,P1,hl⟩:∃l,zX prog w ε (m2++(m1++bad)) own ol (h₂.push {cls:=.type "tuple",data:=.seq #[v,u]}) f v a l/\(f=true->m1=[l]):=by
   rcases V1 with⟨q,l,rfl,O⟩|⟨q,rfl,RV⟩
   ·refine sY (λc1 c2 c3 Z=>?_) (F.alive (I l (.head _)).1)
    refine⟨l,.inl ⟨q,?_,(I l (.head _)).2,c1,c2,c3⟩,λZ=>rfl⟩;refine((O.less (aD _ (.head _)) U).mono λb o q e=>?_).mono λb o Z e=>kp b o e;rcases q with q|rfl
    ·exact fY F2.tb S b o q e
    ·exact S _ o O.2.1 e
   ·exact⟨0,.inr ⟨q,((RV.less U).mono (fY F2.tb S)).mono λb o Z e=>kp b o e⟩,λq'=>by rw[q]at q';nomatch q'⟩
  obtain⟨m,P2,hm⟩:∃m,zX prog w ε (m2++(m1++bad)) own ol (h₂.push {cls:=.type "tuple",data:=.seq #[v,u]}) g u b m/\(g=true->m2=[m]):=by
   rcases V2 with⟨q,l,rfl,O⟩|⟨q,rfl,RV⟩
   ·refine sY (λc1 c2 c3 Z=>?_) (F.alive (J l (.head _)).1)
    exact⟨l,.inl ⟨q,O.mono λb o Z e=>kp b o e,(J l (.head _)).2,c1,c2,c3⟩,λZ=>rfl⟩
   ·exact⟨0,.inr ⟨q,RV.mono λb o Z e=>kp b o e⟩,λq'=>by rw[q]at q';nomatch q'⟩
  refine K v u l m (m2++(m1++bad)) _ t2 h₂.objs.size inB (λb T=>aD _ (aD _ T)) (λq=>(I l (by rw[hl q];exact .head _)).1) (λq=>(J m (by rw[hm q];exact .head _)).1) (λq q' e=>?_) F3 P1 P2 (X.trans (Ext.iT kp)) S3 ⟨_,aL _ rfl,rfl,_,rfl⟩;have e1:=(lv V1 l (by rw[hl q];exact .head _)).alive;have e2:=(i m (by rw[hm q'];exact .head _)).1;rw[e]at e1;have e2:h₁.get? m=none:=e2;rw[e2]at e1;nomatch e1
 have src:∀l m,(f=true->s.heap.get? l=none)->(g=true->s.heap.get? m=none)->∀z,(Hf f g x y own).contains z=true->(own.contains z=true/\ol2 f g x y l m ol z=ol z)\/(s.heap.get? (ol2 f g x y l m ol z)=none/\t.contains z=true):=by
  intro l m hl hm z hz;rw[lH]at hz;unfold ol2;by_cases q1:z=y
  ·subst q1
   induction g using fu with
   |true=>right;simpa using ⟨hm rfl,by simpa using (hg' rfl).2⟩
   |false=>
    have:z≠x:=λq=>hxy q.symm;simp[this]at hz
  ·by_cases q2:z=x
   ·subst q2
    induction f using fu with
    |true=>right;simpa[q1]using ⟨hl rfl,by simpa using (hf' rfl).2⟩
    |false=>simp[q1]at hz
   ·left
    simpa[q1,q2]using hz
 have unp:∀{v u:Value}{L:Addr}{h':Heap}{tk:Nat}{Q:List Value->Shared->Prop},h'.IsTuple L #[v,u]->(∀h'',(∀b o,h'.get? b=some o->h''.get? b=some o)->Q [v,u] (zs s h'' tk))->
  wpAny (model prog w) A (unpackItems (.ref L) 2 none) Q E (zs s h' tk):=by
  intro v u L h' tk Q ht K;exact unpackItems_tuple (s:=(zs s h' tk)) (items:=#[v,u]) R.hd ht λh'' X=>K h'' (vX X)
 refine aC (Dq (ε:=ε) (x:=x) (y:=y) (px:=px) (py:=py) (p:=p) (p':=p') (k:=k) (k':=k') hc) (λhsw=>?_) (λhsw=>?_)
 ·refine PyProof.Rows.Assign_Tuple (vals λv u l m B h₁ M L hB hB' hl hm hlm F1 P1 P2 X1 N ht=>?_) qO hsw
  rw[PyProof.Rows.assign_Tuple];refine aj (bR ?_);show wpAny _ _ (unpack (.ref L) [(false,assign (.Name x px) ε),(false,assign (.Name y py) ε)]) _ E _;unfold unpack;refine aj (bF (unp ht λh₂ S=>?_));have S2:=W.pZ N S;have F2:=F1.ext (Ext.iT S) S2;have up:∀{f v a l},zX prog w ε B own ol h₁ f v a l->zX prog w ε B own ol h₂ f v a l:=λP=>P.imp (λq=>⟨q.1,q.2.1.mono λb o Z e=>S b o e,q.2.2⟩) λq=>⟨q.1,q.2.mono λb o Z e=>S b o e⟩;refine di (cV (bC (O7 (A:=A) (E:=E) (s:=(zs s h₂ M)) F2 hx hy hlm (up P1) (up P2) rfl (Q:=λZ s'=>Q .next s') λY t3 F3 k3 a3=>?_) (λZ s' q=>?_) λZ Z x=>x))
  ·refine G Y t3 B _ (Tr.puts (X1.trans (Ext.iT S)) k3 S2 a3 hB hB' (src l m hl hm)) (Jo hxy F3)
  ·exact di (cV (bC q (λZ Z q=>assignInOrder_nil q) λZ Z x=>x))
 ·refine PyProof.Rows.Assign_Tuple_swapped (vals λv u l m B h₁ M L hB hB' hl hm hlm F1 P1 P2 X1 N ht=>?_) qO hsw
  refine unp ht λh₂ S=>?_;have S2:=W.pZ N S;have F2:=F1.ext (Ext.iT S) S2;have up:∀{f v a l},zX prog w ε B own ol h₁ f v a l->zX prog w ε B own ol h₂ f v a l:=λP=>P.imp (λq=>⟨q.1,q.2.1.mono λb o Z e=>S b o e,q.2.2⟩) λq=>⟨q.1,q.2.mono λb o Z e=>S b o e⟩;show wpAny (model prog w) A (assignInOrder [λv=>bindName ε y v,λv=>bindName ε x v] [u,v]) _ E _;refine di (PyProof.Rows.bindName_ (bC (O7 (A:=A) (E:=E) (s:=(zs s h₂ M)) F2 hy hx (λq q'=>(hlm q' q).symm) (up P2) (up P1) rfl (Q:=λZ s'=>Q .next s') λY t3 F3 k3 a3=>?_) (λZ s' q=>?_) λZ Z x=>x))
  ·refine G Y t3 B _ (Tr.puts (X1.trans (Ext.iT S)) k3 S2 a3 hB hB' (src l m hl hm)) (V5 hxy F3)
  ·exact di (PyProof.Rows.bindName_ (bC q (λZ Z q=>assignInOrder_nil q) λZ Z x=>x))
theorem zK {ε:Env}{ts:List Expr}{x y:Expr}{k:Nat}{p:Pos}{e:Expr}(f:ts=[x,y])(j:∀m l k p,e≠.Tuple [m,l] k p):swappedStores [.Tuple ts k p] e ε=pure none:=by
 subst f
 induction e using Expr.casesOn with
 |Tuple d i g=>
  induction d using gY with
  |nil=>rfl
  |cons a d=>
   induction d using gY with
   |nil=>rfl
   |cons b d=>
    induction d using gY with
    |nil=>exact absurd rfl (j a b i g)
    |cons c r=>rfl
 |_=>rfl
theorem My {P:Prop}{x y:Str}{px py p:Pos}{k:Nat}{d:D}(hb:gq (.Tuple [.Name x px,.Name y py] k p) d σ=some σ')
 (h:∀a b,d=.list [a,b]\/d=.tuple [a,b]->(σ.holds x&&σ.holds y)=true->(σ.add x a).add y b=σ'->P):P:=by
 have hb:Y8 none d (λa b=>if σ.holds x&&σ.holds y then some ((σ.add x a).add y b)else none)=some σ':=hb;revert h;exact sW hb (λe=>lz cH e λl e=>pH cH e λa b e=>ifs e λq e h=>h a b (.inl rfl) q e) λe=>Mm cH e λl e=>pH cH e λa b e=>ifs e λq e h=>h a b (.inr rfl) q e
theorem Im (H:cL W fA n r)(R:fj n A)(F:dD W ε bad σ own ol s.heap){x y:Str}{px py p pos:Pos}{k:Nat}{e:Expr}{d:D}{Q:Flow->Shared->Prop}(M:x≠y)(Y:r.ev (without own σ) e=some d)
 (hb:gq (.Tuple [.Name x px,.Name y py] k p) d σ=some σ')(X:∀e1 e2 k p,e≠.Tuple [e1,e2] k p)(G:After W t ε bad s own ol σ' (own.filter λz=>z !=x&&z !=y) (Q .next)):
 wpAny (model prog w) A (exec (.Assign [.Tuple [.Name x px,.Name y py] k p] e pos) ε) Q E s:=by
 refine My hb λa b hd K e=>?_;clear hb;subst e;refine yA (λV U=>?_) (az.mp K);refine PyProof.Rows.Assign_Tuple (H.ev Y R F.togw λv c i P O j=>?_) qO (zK rfl X);rw[PyProof.Rows.assign_Tuple];refine aj (bR ?_);show wpAny _ _ (unpack v [(false,assign (.Name x px) ε),(false,assign (.Name y py) ε)]) _ E _;unfold unpack;have Ro:RD prog w bad c v (.list [a,b])\/RD prog w bad c v (.tuple [a,b]):=by
  rcases hd with rfl|rfl
  ·exact .inl P
  ·exact .inr P
 refine aj (bF (tV (s:=(zs s c i)) R.hd Ro λu w' J R2 R3 L=>?_));have S2:=W.pZ j L;have F2:=(F.ext O j).ext (Ext.iT L) S2;refine di (cV (bC (O7 (A:=A) (E:=E) (s:=(zs s J i)) (f:=false) (g:=false) (l:=0) (m:=0) F2 V U (λq=>by nomatch q) (.inr ⟨rfl,R2.mono λb o Z e=>L b o e⟩) (.inr ⟨rfl,R3.mono λb o Z e=>L b o e⟩) rfl (Q:=λZ N=>Q .next N) λh3 S F3 I a3=>?_) (λZ N q=>?_) λZ Z x=>x))
 ·refine G h3 S bad _ (Tr.puts (O.trans (Ext.iT L)) I S2 a3 (λb hb=>.inl hb) (λb hb=>hb) λz T=>.inl ?_) (Jo M F3)
  have C:(Hf false false x y own).contains z=true:=T;rw[lH]at C;simp at C;exact⟨by simpa using C.1,rfl⟩
 ·exact di (cV (bC q (λZ Z q=>assignInOrder_nil q) λZ Z x=>x))
theorem u0 (F:s7 W ε bad s.heap){x:Str}{p:Pos}{v:Value}{Q:VP}(b:gG x=false)(B:Bound s.heap ε x v)(q:Q v s):wpAny (model prog w) A (eval (.Name x p) ε) Q E s:=by
 refine wpAny_Name ?_ (fc.mp b).1;revert B;refine yO (nG λk m f e=>?_) (nG λk a d c=>?_)
 ·exact wpAny_loadName_local F.kind k f e q
 ·revert k;refine yO (λk=>?_) (λk=>?_)
  ·exact wpAny_loadName_cell F.kind k d c q
  ·exact wpAny_loadName_free F.kind k d c q (fc.mp b).2
theorem dD.turn (F:dD W ε bad σ own ol h){x:Str}{d:D}(f:own.contains x=true)(k:∀b o,b∉Tb->b≠ol x->h.get? b=some o->h'.get? b=some o)(hS:W.S h')
 {l:Value}(H:Bound h ε x l)(O1:jK (prog:=prog) (w:=w) bad h' l d (ol x)):
 dD W ε bad (σ.add x d) own ol h'/\Tr t ε own ol bad h own ol bad h':=by
 refine fW (λz Z I Z O0=>?_) (F.ow x f);have j:∀b o,(b=ε.locals\/∃x,ε.cells.lookup x=some b)->h.get? b=some o->h'.get? b=some o:=λb o q a=>by
  rcases q with rfl|⟨y,e⟩
  ·exact k _ o (pC F.hi) (λq=>(F.off x f).2.1 q.symm) a
  ·exact k _ o (pC (F.cin y b e).2.2) (λq=>(F.off x f).2.2 y (q▸e)) a
 have C:∀b o,b∉bad->h.get? b=some o->h'.get? b=some o:=λb o q a=>k b o (λt=>q (F.tb b t)) (λi=>q (i▸O0.1)) a;constructor
 ·refine{tos7:=F.tos7.keep hS j λb m=>?_,names:=F.names,env:=λy p e a=>?_,ow:=λy G=>?_,oinj:=F.oinj,off:=F.off}
  ·by_cases q:b=ol x
   ·subst q;exact O1.live
   ·by_cases g:b∈Tb
    ·exact W.UL hS b g
    ·exact(F.old b m).1.keep λo a=>k b o g q a
  ·rw[Sg.gM]at e
   split at e
   ·rename_i c
    subst c;rw[f]at a;nomatch a
   ·refine aC (F.env y p e a) (λq=>?_) (cW λv B R=>?_)
    ·exact .inl q
    ·exact .inr ⟨v,B.keep j,R.mono C⟩
  ·by_cases c:y=x
   ·subst c
    exact⟨d,l,by rw[Sg.gM,ao rfl],H.keep j,O1⟩
   ·refine fW (λp u e B O=>?_) (F.ow y G)
    refine⟨p,u,by rw[Sg.gM,aq c];exact e,B.keep j,O.mono λb o q a=>?_⟩;rcases q with q|rfl
    ·exact C b o q a
    ·exact k _ o O.2.1 (λq=>c (F.oinj y x G f q)) a
 ·exact{keep:=λb o q e=>k b o (λi=>q (.inl i)) (λi=>q (.inr (.inr (.inr ⟨x,f,i⟩)))) e
        new:=λZ q=>.inl q,left:=λZ q=>.inl q,src:=λy q=>.inl ⟨y,q,rfl⟩,fix:=λZ q Z=>⟨q,rfl⟩
        alive:=λb m=>by
         refine yE (λo a=>?_) (bz.mp m);by_cases q:b=ol x
         ·subst q;exact O1.live.alive
         ·by_cases g:b∈Tb
          ·exact(W.UL hS b g).alive
          ·rw[k b o g q a];rfl}
theorem jK.mJ {v:Value}{xs:List D}{l:Addr}(O:jK (prog:=prog) (w:=w) bad h v (.list xs) l):v=.ref l/\∃items,h.PlainList l items/\fB prog w bad h items.toList xs:=by
 revert O;refine rQ λf d items g hl b a=>aC a (yA λe c=>?_) (yA λe Z=>?_)
 ·injection e with e;subst e
  exact⟨c,items,hl,b⟩
 ·nomatch e
theorem uO (F:s7 W ε bad h):interactive ε=false:=by unfold interactive;rw[F.kind];rfl
theorem uR {prog:Program}{w:World}{id:String}{m:Str}(b:Slot "list" m id)(c:typeOf (.builtin id)=pure (.type "method_descriptor")){l:Addr}{items:Array Value}{d:Sem Bool}{Q:Value×List Value->Shared->Prop}(hl:s.heap.PlainList l items)(q:Q (.builtin id,[.ref l]) s):
 wpAny (model prog w) A (getMethod (.ref l) m d) Q E s:=by
 revert hl;refine yE λn hl=>?_;exact getMethod_builtin (T:="list") ⟨_,hl,rfl⟩ PySem.F.plainAttrs_list b c (λa e=>by injection e with e;subst e;exact⟨_,hl,rfl⟩) q
theorem MK (H:cL W fA n r)(R:fj n A)(F:dD W ε bad σ own ol s.heap){x:Str}{px ap p pos:Pos}{e:Expr}{xs:List D}{d:D}{Q:Flow->Shared->Prop}(Y:own.contains x=true)(z:gG x=false)(hf:dJ (.Name x px) ap p 1=true)
 (hl:σ.lookup x=some (.list xs))(he:vG r σ own [x] e=some (d,own'))(l:own'.contains x=true)(K:small xs.length=true)(G:After W t ε bad s own ol (σ.add x (.list (xs++[d]))) own' (Q .next)):
 wpAny (model prog w) A (exec (.Expr (.Call (.Attribute (.Name x px) (Str.ofString "append") ap) [e] [] p) pos) ε) Q E s:=by
 have hk:∀y,[x].contains y=true->own.contains y=true:=λy q=>by
  have:y=x:=by simpa using q
  subst this;exact Y
 refine ux (λZ Z σE Z Z Z hE Z=>?_) (v9 (t:=t) F hk he);refine wpAny_Expr (jk hf (by rw[H.notStar hE];rfl) ?_) (uO F.tos7) rfl;refine fW (λO v0 e0 B0 O0=>?_) (F.ow x Y);have u:=aH (hl.symm.trans e0);subst u;refine nG (λu I M Z=>?_) O0.mJ;subst u;refine u0 F.tos7 z B0 λpl=>?_;refine uR slot_list_append type_list_append M ?_;refine callWith_method1 (cP (HW (t:=t) H R F false (λq=>by nomatch q) hk he λi v m f c T F1 hm V X S=>dm ?_) (H.notStar hE _)) (H.notStar hE _);rcases V with⟨q,_⟩|⟨_,rfl,RV⟩
 ·nomatch q
 have N:=F1.ext X S;refine fW (λd1 v1 e1 B1 O1=>?_) (N.ow x l);have u:=aH (hl.symm.trans e1);subst u;refine nG (λu a hp P=>?_) O1.mJ;subst u;have J:a.size<=sizeLine:=by have:=P.length;simp at this;rw[this];exact aA (gR K) (by decide)
 refine wpAny_list_append_plain (s:=(zs s f c)) hp (λh₂ L j=>?_) J;have S2:W.S h₂:=by revert hp;refine yE λk g=>?_;exact Wd.j0 S (N.off x l).1 g (gF λvs e=>nomatch e) λb o C e=>j.extBut b o C e
 have U:∀b o,b∉i->f.get? b=some o->h₂.get? b=some o:=λb o C e=>j.extBut b o (λq=>C (q▸O1.1)) e;obtain⟨F3,T3⟩:=N.turn (t:=t) (d:=.list (xs++[d])) (h':=h₂) l (λb o Z C e=>j.extBut b o C e) S2 B1 (by refine⟨O1.1,O1.2.1,a.push v,xs++[d],L,?_,.inl ⟨rfl,rfl⟩⟩;rw[Array.toList_push];exact(P.mono U).append (.cons (RV.mono U) .nil))
 exact G h₂ c i ol ((T.trans (Tr.wJ X S) F.tos7.jW).trans T3 F.tos7.jW) F3
theorem Lk (H:cL W fA n r)(R:fj n A)(F:dD W ε bad σ own ol s.heap){x:Str}{px ap p pos:Pos}{M e2:Expr}{xs:List D}{i:Int}{d:D}{Q:Flow->Shared->Prop}(O:own.contains x=true)(I:gG x=false)(P:dJ (.Name x px) ap p 2=true)
 (hl:σ.lookup x=some (.list xs))(h1:r.ev (without own σ) M=some (.int i))(h2:r.ev (without own σ) e2=some d)(hi:0<=i)(hi':i<=xs.length)(hsm:small xs.length=true)
 (G:After W t ε bad s own ol (σ.add x (.list (xs.take i.toNat++d::xs.drop i.toNat))) own (Q .next)):
 wpAny (model prog w) A (exec (.Expr (.Call (.Attribute (.Name x px) (Str.ofString "insert") ap) [M,e2] [] p) pos) ε) Q E s:=by
 have m:eX r (without own σ) [M,e2]=some [.int i,d]:=nj h1 (nj h2 rfl);refine wpAny_Expr (jk P (H.iR m) ?_) (uO F.tos7) rfl;refine fW (λd₀ v0 e0 B0 O0=>?_) (F.ow x O);have C:=aH (hl.symm.trans e0);subst C;refine nG (λC N hp0 Z=>?_) O0.mJ;subst C;refine u0 F.tos7 I B0 λpl=>?_;refine uR PySem.F.slot_list_insert PySem.F.type_list_insert hp0 ?_;refine callWith_method1 (H.all R m F.togw λvs c l R1 X S=>?_) (H.notStar h1 _) (by rw[H.notStar h2];rfl);cases R1 with
 |cons q1 V=>
 cases V with
 |cons RV U=>
 cases U;refine q1.jg λu=>?_;rename_i v;have F2:=F.ext X S;refine fW (λd1 v1 M B1 O1=>?_) (F2.ow x O);have C:=aH (hl.symm.trans M);subst C;refine nG (λC a T rs=>yE (λk g=>?_) T) O1.mJ;subst C;have J:a.size=xs.length:=by simpa using rs.length
 have hle:=gR hsm;have Y:a.size<=sizeLine:=by rw[J];exact aA hle (by decide)
 have K:¬(!Builtin.List.listFitsIndex i)=true:=by
  unfold Builtin.List.listFitsIndex;simp
  lia
 generalize P:(λxs:Array Value=>have k:=if i<0 then(i+(xs.size:Int)).toNat else min i.toNat xs.size;(xs.extract 0 k).push v++xs.extract k)=f;have hf':(f a).toList=a.toList.take i.toNat++v::a.toList.drop i.toNat:=by rw[<-P];dsimp only;rw[aq (by simp_all),show min i.toNat a.size=i.toNat by simp_all];simp;exact dK (by simp)
 obtain⟨j,g2⟩:∃j,(c.update (ol x) (Obj.mapSeq f)).get? (ol x)=some (seqObj "list" (f a) j):=⟨_,get?_update_seq g f⟩;have z:=Heap.SameBut.update c (ol x) (Obj.mapSeq f);have y:=PySem.AutoSeq1.list_insert_list_int_val_1 (ol x) a k i u v K Y;rw[P]at y;refine call_meets PySem.F.slot_list_insert ⟨_,g,rfl⟩ PySem.F.entry_list_insert (PySem.F.args_list_insert_3 _ _ _) y ⟨g,?_⟩;show Q .next (zs s (c.update (ol x) (Obj.mapSeq f)) l)
 have S2:W.S (c.update (ol x) (Obj.mapSeq f)):=Wd.j0 S (F2.off x O).1 g (gF λvs e=>nomatch e) λb o L e=>z.extBut b o L e;have kb:∀b o,b∉bad->c.get? b=some o->(c.update (ol x) (Obj.mapSeq f)).get? b=some o:=λb o L e=>z.extBut b o (λq=>L (q▸O1.1)) e;obtain⟨F3,T3⟩:=F2.turn (t:=t) (d:=.list (xs.take i.toNat++d::xs.drop i.toNat)) O (λb o Z L e=>z.extBut b o L e) S2 B1 (by refine⟨O1.1,O1.2.1,f a,_,⟨j,g2⟩,?_,.inl ⟨rfl,rfl⟩⟩;rw[hf'];exact((rs.take _).mono kb).append (.cons (RV.mono kb) ((rs.drop _).mono kb)))
 exact G _ l bad ol ((Tr.wJ X S).trans T3 F.tos7.jW) F3
theorem jK.instInv {v:Value}{hs:List D}{l:Addr}(O:jK (prog:=prog) (w:=w) bad h v (.inst hs) l):∃a,v=.ref a/\InstAt bad h a l:=by
 revert O;refine rQ λi g b j hl f d=>aC d (yA λe c=>?_) (nG λe a c I=>?_)
 ·nomatch e
 ·exact⟨a,c,I⟩
theorem FQ (H:cL W fA n r)(K:Hk W fA)(R:fj n A)(F:dD W ε bad σ own ol s.heap){x m:Str}{px M p pos:Pos}{z y:Expr}{hs:List D}{a b d:D}{Q:Flow->Shared->Prop}(I:own.contains x=true)(l:gG x=false)(V:dJ (.Name x px) M p 2=true)
 (hl:σ.lookup x=some (.inst hs))(L:r.ev (without own σ) z=some a)(h2:r.ev (without own σ) y=some b)(J:m∈gO)(e:r.callO (Str.ofString "Headers."++m) [.inst hs,a,b] []=some d)
 (G:After W t ε bad s own ol (σ.add x d) own (Q .next)):
 wpAny (model prog w) A (exec (.Expr (.Call (.Attribute (.Name x px) m M) [z,y] [] p) pos) ε) Q E s:=by
 have f:eX r (without own σ) [z,y]=some [a,b]:=nj L (nj h2 rfl);refine yE (λfa g=>?_) (H.domO _ _ _ _ e);refine mG (λZ fd u Y=>?_) (K.fo _ fa g (yM J));refine wpAny_Expr (jk V (H.iR f) ?_) (uO F.tos7) rfl;refine fW (λC v0 e0 O O0=>?_) (F.ow x I);have v:=aH (hl.symm.trans e0);subst v;refine cW (λU v I0=>?_) O0.instInv;subst v;refine u0 F.tos7 l O λpl=>?_;refine K.meth J g F.S I0 ?_;dsimp only;refine callWith_function_kw (o:=Z) (fd:=fd) ?_;refine evalArgs_kw2 (kws:=[]) rfl (H.all R f F.togw λvs c i R1 X S=>wpAny_evalAll_nil ⟨⟨Y _ S,u⟩,?_⟩) (H.notStar L _);have N:=F.ext X S;have O1:jK (prog:=prog) (w:=w) bad c (.ref U) (.inst hs) (ol x):=O0.mono λb o q e=>by
  rcases q with q|rfl
  ·exact fY F.tb X b o q e
  ·exact X _ o O0.2.1 e
 refine H.callO (s:=(zs s c i)) (E:=E) (kds:=[]) (kvs:=[]) e g R S N.tos7.lX O1 R1 .nil λj P O2 T S2=>?_;refine yA (λF3 T3=>?_) (N.turn (t:=t) (d:=d) I T S2 (O.ext F.hi (λa k e=>F.q8 k e) X) O2);exact G j P bad ol ((Tr.wJ X S).trans T3 F.tos7.jW) F3
theorem FP (H:cL W fA n r)(K:Hk W fA)(R:fj n A)(F:dD W ε bad σ own ol s.heap){f x:Str}{pf px p pos:Pos}{args:List Expr}{kws:List Keyword}{ds:List D}{kds:List (Str×D)}{a d:D}{Q:Flow->Shared->Prop}(O:own.contains x=true)(m:gG x=false)
 (hf:σ.lookup f=some .glob)(I:own.contains f=false)(z:gN f=true)(hH:f≠Str.ofString "Headers")
 (hl:σ.lookup x=some a)(ha:eX r (without own σ) args=some ds)(hk:jU r (without own σ) kws=some kds)(e:r.callO f (a::ds) kds=some d)
 (G:After W t ε bad s own ol (σ.add x d) own (Q .next)):
 wpAny (model prog w) A (exec (.Expr (.Call (.Name f pf) (.Name x px::args) kws p) pos) ε) Q E s:=by
 refine yE (λP g=>?_) (H.domO _ _ _ _ e);refine mG (λfo fd J hS=>?_) (K.fo _ P g hH);refine uA (λk1 k2 k3=>?_) (xu (ε:=ε) (pos:=p) hk);have C:(without own σ).lookup f=some .glob:=by
  unfold without Sg.lookup;have go:∀l:List (Str×D),l.lookup f=some .glob->(l.filter λp=>!own.contains p.1).lookup f=some .glob:=by
   intro l
   induction l with
   |nil=>intro h;exact nn h
   |cons q l M=>
    obtain⟨y,dy⟩:=q;intro h;rw[List.lookup_cons]at h;rw[List.filter_cons];by_cases N:f=y
    ·subst N
     have:(f==f)=true:=by simp
     rw[this]at h;rw[ao (by simpa using I),List.lookup_cons,this];exact h
    ·have v:(f==y)=false:=by simpa using N
     rw[v]at h;split
     ·rw[List.lookup_cons,v]
      exact M h
     ·exact M h
  exact go _ hf
 refine wpAny_Expr (wpAny_Call_Name_kw (JL F.togw C (K.fn f P g z) (Cd z) ?_)) (uO F.tos7) rfl;refine callWith_def_kw J ?_;refine fW (λL v0 e0 V O0=>?_) (F.ow x O);have Z:=aH (hl.symm.trans e0);subst Z;refine evalArgs_kw2 k1 (cP (u0 F.tos7 m V ?_) rfl) rfl;refine H.all R ha F.togw λvs j i R1 T u=>?_;have F1:=F.togw.ext T u;refine H.kws (s:=(zs s j i)) R hk F1 λY c t2 R2 S S2=>⟨hS _ S2,?_⟩;rw[k2];have X:=T.trans S;have U:=F.ext X S2;have O1:jK (prog:=prog) (w:=w) bad c v0 a (ol x):=O0.mono λb o q e=>by
  rcases q with q|rfl
  ·exact fY F.tb X b o q e
  ·exact X _ o O0.2.1 e
 refine H.callO (s:=(zs s c t2)) (E:=E) e g R S2 U.tos7.lX O1 (R1.mono (fY F.tb S)) R2 λh3 t3 O3 kp S3=>?_;refine yA (λF3 T3=>?_) (U.turn (t:=t) (d:=d) O kp S3 (V.ext F.hi (λa k e=>F.q8 k e) X) O3);exact G h3 t3 bad ol ((Tr.wJ X S2).trans T3 F.tos7.jW) F3
theorem lq.next {Q:Flow->Shared->Prop}(G:lq W t ε bad s own ol ⟨σ',own',.next⟩ Q):After W t ε bad s own ol σ' own' (Q .next):=λh' tk bad' ol' T F=>G .next h' tk bad' ol' T F rfl
theorem J2 {fl:Bool}{x:Str}:nQ fl x own=if fl=true then x::own.filter (· !=x)else own.filter (· !=x):=by induction fl using fu<;>rfl
theorem Rz (H:cL W fA n r)(K:Hk W fA)(R:fj n A)(F:dD W ε bad σ own ol s.heap){st:Stmt}{out:Out}{Q:Flow->Shared->Prop}(e:ni r t σ own st=some out)(G:lq W t ε bad s own ol out Q):
 wpAny (model prog w) A (exec st ε) Q E s:=by
 revert G;refine sW e (λe=>Oo cH e λts v C e=>jo cH e λt1 e=>sW e (λe=>jw cH e λx M e=>ifn e λhx e=>gQ e λq J e=>someE e λG=>?c1) λe=>yX cH e λl k p e=>pH cH e λa b e=>jw cH e λx M e=>jw cH e λy py e=>cdB e (λZ e=>?c2) λX e=>?c3) λe=>
  sW e (λe=>Ol cH e λc b o p e G=>if_ok H R F e G) λe=>sW e (λe=>Yc cH e λc b o p e=>lV cH e λe G=>Nj H R F e G) λe=>
  sW e (λe=>Om cH e λg i b o p e=>lV cH e λe=>gQ e λds O e=>j9 e λj e G=>?c4) λe=>
  sW e (λe=>Oi cH e λv p e=>Br cH e λv e=>gQ e λq J e=>someE e λG=>ret_ok H R F J G) λe=>
  I9 cH e λc C e=>jY cH e λf as ks p e=>sW e (λe=>Ft cH e λo m ap e=>jw cH e λx M e=>lV cH e λe=>nJ cH e λa t e=>?c5) λe=>jw cH e λf pf e=>nJ cH e λa V e=>jw cH e λx M e=>?c6
 case c1=>
  rw[<-J2]at G;exact TV H R F (by simpa using hx) J G.next
 case c2=>
  refine yX cH e λl k' p' e=>pH cH e λe1 e2 e=>ifn e λj e=>gQ e λa U e=>gQ e λb T e=>someE e λG=>?_;simp only[Bool.or_eq_true,not_or,Bool.not_eq_true,Bool.not_eq_false']at j;exact XF H R F (by simpa using j.1.1.1) (by simpa using j.1.1.2) (by simpa using j.1.2) j.2 U T G.next
 case c3=>
  exact ifn e λN e=>gQ e λd L e=>nH e λσ' T G=>Im H R F N L T (λe1 e2 k p q=>by rw[q]at X;nomatch X) G.next
 case c4=>
  refine yA (λh1 Y=>?_) (az.mp j);refine for_ok H K R F O (λy hy=>?_) (λhz=>?_) e G
  ·simpa using List.all_eq_true.mp h1 y hy
  ·rw[hz]at Y
   simpa using Y
 case c5=>
  induction t using gY with
  |nil=>
   refine j9 e λj e=>gQ e λl hl e=>lz (P:=λl=>_=some l->_) cH e (λxs e hl=>gQ e λq J e=>j9 e λz e=>someE e λG=>?_) hl;rw[j.1];exact MK H R F j.2.1 j.2.2.1 j.2.2.2 hl J z.1 z.2 G.next
  |cons b t=>
   refine jo (P:=λt=>lq W _ ε bad s own ol out Q->wpAny (model prog w) A (exec (.Expr (.Call (.Attribute (.Name x M) m ap) (a::t) [] p) C) ε) Q E s) (l:=b::t) cH e λb e=>j9 e λj e=>gQ e λl hl e=>gQ e λd1 u e=>gQ e λd2 I e=>?_;by_cases S:m=Str.ofString "insert"
   ·have e:=(ao S).symm.trans e
    revert hl u;refine lz cH e λxs e=>jx cH e λi e=>j9 e λz e=>someE e λhl u G=>?_;rw[S];exact Lk H R F j.1 j.2.1 j.2.2 hl u I z.1 z.2.1 z.2.2 G.next
   ·have e:=(aq S).symm.trans e
    revert hl;refine Fx cH e λhs e=>j9 e λz e=>gQ e λd L e=>someE e λhl G=>?_;exact FQ H K R F j.1 j.2.1 j.2.2 hl u I (dC.mp z) L G.next
 case c6=>
  exact j9 e λj e=>gQ e λa hl e=>gQ e λds U e=>gQ e λkds hk e=>gQ e λd L e=>someE e λG=>FP H K R F j.1 j.2.2.2.2.1 (qX j.2.1) j.2.2.2.2.2 j.2.2.1 j.2.2.2.1 hl U hk L G.next
theorem WN (H:cL W fA n r)(K:Hk W fA)(R:fj n A){body:List Stmt}{σ:Sg}{own:List Str}{ol:Str->Addr}{bad:List Addr}{s:Shared}{out:Out}{Q:Flow->Shared->Prop}(e:fO r t σ own body=some out)(F:dD W ε bad σ own ol s.heap)(G:lq W t ε bad s own ol out Q):
 wpAny (model prog w) A (execs body ε) Q E s:=by
 induction body generalizing σ own ol bad s with
 |nil=>
  revert G;exact someE e λG=>dX (G .next s.heap s.toks bad ol Tr.refl F rfl)
 |cons st k l=>
  refine onNE e (λσ' own' i e=>bZ (Rz H K R F i λp b a c f T1 j g=>?_)) λd i o=>bZ (Rz H K R F i λp b a c f T1 j g=>?_)
  ·rw[g.next]
   exact l (s:=(zs s b a)) e j (G.step T1 F.tos7.jW)
  ·obtain⟨v,m,q⟩:=G.ret o T1 j g
   rw[m];exact q
theorem Mx (f:Str×Value->PUnit->Sem (ForInStep PUnit))(g:∀x v u,f (x,v) u=(do storeName ε x v;pure (.yield ⟨⟩))){xs:List Str}:∀{vs:List Value}{ds:List D}{σ:Sg}{s:Shared}{Q:PUnit->Shared->Prop},dD W ε bad σ own ol s.heap->fB prog w bad s.heap vs ds->xs.length=vs.length->
 (∀x∈xs,σ.holds x=true/\own.contains x=false)->(∀h' tk,dD W ε bad (rE σ (xs.zip ds)) own ol h'->(∀b o,b≠ε.locals->(∀x,ε.cells.lookup x≠some b)->s.heap.get? b=some o->h'.get? b=some o)->Q ⟨⟩ (zs s h' tk))->wpAny (model prog w) A (forIn (xs.zip vs) ⟨⟩ f) Q E s:=by
 induction xs with
 |nil=>
  intro vs ds σ s Q F Z Z Z k;exact aB (k s.heap s.toks F λZ Z Z Z e=>e)
 |cons x xs z=>
  intro vs ds σ s Q F i hl j k;cases i with
  |nil=>nomatch hl
  |cons R i=>
   rw[cI,List.forIn_cons,g];refine aj (aj (F.putN (j x (.head _)).1 (j x (.head _)).2 R rfl λc a G l I=>aB ?_));refine z (s:=(zs s c a)) G (i.mono λb o d e=>l b o (λq=>d (F.tos7.nU q)) e) (Nat.succ.inj hl) (λy C=>j y (.tail _ C)) λh' tk H p=>?_;exact k h' tk H λb o d m e=>p b o d m (l b o (λq=>q.elim d (m x)) e)
theorem FW (B:gV bad s.heap)(hS:W.S s.heap){sc:Scope}(hk:sc.kind=.function)(U:uniq sc.names=true)(Y:∀x,(x,NameKind.free)∉sc.names){qual:Str}{func:Option Addr}{code:Value}(C:Ed sc.names=true->Ub W (iH sc s.heap.objs.size qual func code))
 {p:Str}{u:Value}{d₀:D}{l:Addr}(O:jK (prog:=prog) (w:=w) bad s.heap u d₀ l){xs:List Str}{vs:List Value}{ds:List D}(Rs:fB prog w bad s.heap vs ds)(hl:xs.length=vs.length)(N:∀x∈p::xs,Sg.holds ⟨ig sc,sc.names⟩ x=true)(V:p∉xs){Q:Env->Shared->Prop}
 (k:∀h' tk,dD W (iH sc s.heap.objs.size qual func code) (jH sc s.heap.objs.size bad) (rE ⟨ig sc,sc.names⟩ ((p,d₀)::xs.zip ds)) [p] (λZ=>l) h'->(∀b∈jH sc s.heap.objs.size bad,b∈bad\/s.heap.get? b=none)->
  (∀b o,s.heap.get? b=some o->h'.get? b=some o)->Q (iH sc s.heap.objs.size qual func code) (zs s h' tk)):
 wpAny (model prog w) A (newFunctionEnv sc mainGlobals [] ((p::xs).zip (u::vs)) qual func code none builtinsNs) Q E s:=by
 have a:∀{x c},(x,c)∈cellsFrom (s.heap.objs.size+1) sc.names []->s.heap.objs.size<=c:=λq=>jZ q;have less:∀b∈jH sc s.heap.objs.size bad,b∈bad\/s.heap.get? b=none:=λb hb=>by
  rcases au.mp hb with rfl|hb
  ·exact .inr Wd.jT
  ·refine aC (bj.mp hb) (λq=>?_) (λq=>?_)
   ·obtain⟨⟨x,c⟩,m,rfl⟩:=aG.mp q
    exact .inr (pQ (a m))
   ·exact .inl q
 have F:=gw.fresh B hS hk U Y (qual:=qual) (func:=func) (code:=code) C;have I:fB prog w (jH sc s.heap.objs.size bad) (jV s.heap sc) vs ds:=(Rs.less less).mono λb o Z e=>mZ sc b o e;have z:l∈jH sc s.heap.objs.size bad:=.tail _ (aD _ O.1);have O':jK (prog:=prog) (w:=w) (jH sc s.heap.objs.size bad) (jV s.heap sc) u d₀ l:=(O.less z less).mono λb o Z e=>mZ sc b o e;have j:l<s.heap.objs.size:=by refine cW (λo X Z=>?_) O.live;exact aZ X
 have h4:412<=l:=((B.old l O.1).2).resolve_left O.2.1;simp only[newFunctionEnv,Option.isSome_none,cJ,if_false];refine aj (wpAny_alloc ?_);refine aj (wpAny_layCells _ (λK g cells=>by induction H:g==NameKind.cell using fu<;>simp[H]) _ _ _ _ ?_);rw[show({s with heap:=s.heap.push {cls:=.type "frame",data:=.dict #[]}}:Shared).heap.objs.size=s.heap.objs.size+1 from dW ..];rw[cI,List.forIn_cons];have G:=F.toO (λZ=>0);refine aj (aj (aj ((G.put (s:={s with heap:=jV s.heap sc}) (x:=p) (v:=u) (d:=d₀) (fl:=true) (l:=l) (N p (.head _)) (.inl ⟨rfl,O',h4,bY j,λy q=>?_,λy q=>by simp at q⟩) rfl λh₁ f J L a1=>aB ?_))))
 ·have m:(y,l)∈cellsFrom (s.heap.objs.size+1) sc.names []:=mem_of_lookup q
  exact absurd j (bc.mpr (a m))
 have J:dD W (iH sc s.heap.objs.size qual func code) (jH sc s.heap.objs.size bad) (Sg.add ⟨ig sc,sc.names⟩ p d₀) [p] (λZ=>l) h₁:=J.xr (λy=>rfl) λy T=>by
  have:y=p:=by simpa[nQ]using T
  subst this;exact rH.symm
 have R:∀b o,b∉jH sc s.heap.objs.size bad->(jV s.heap sc).get? b=some o->h₁.get? b=some o:=λb o hb e=>L b o (λq=>hb (F.tos7.nU q)) e;refine Mx (s:=(zs s h₁ f)) (ε:=iH sc s.heap.objs.size qual func code) _ (λZ Z Z=>rfl) J (I.mono R) hl (λx M=>⟨N x (.tail _ M),by have:x≠p:=λq=>V (q▸M);simpa using this⟩) λi P F2 S=>aB ?_
 have nb:∀b o,s.heap.get? b=some o->b≠s.heap.objs.size/\∀x,(iH sc s.heap.objs.size qual func code).cells.lookup x≠some b:=λb o e=>⟨bY (aZ e),λx q=>by have m:(x,b)∈cellsFrom (s.heap.objs.size+1) sc.names []:=mem_of_lookup q;exact absurd (aZ e) (bc.mpr (a m))⟩
 refine k i P F2 less λb o e=>S b o (nb b o e).1 (nb b o e).2 (L b o (λq=>?_) (mZ sc b o e));revert q;refine yO (λq=>?_) (λq=>?_)
 ·exact(nb b o e).1 q
 ·exact(nb b o e).2 _ q
theorem Mv (H:cL W fA n r)(FT:∀x f,qH x=some f->Iv W f/\fA x=some f.addr)(R:fj (n+1) A){x:Str}{d₀:D}{ds:List D}{kds:List (Str×D)}{d:D}{a l:Addr}{v0:Value}{vs kvs:List Value}{Q:VP}
 (e:Ih qH r x (d₀::ds) kds=some d)(ha:fA x=some a)(hS:W.S s.heap)(B:gV bad s.heap)(O:jK (prog:=prog) (w:=w) bad s.heap v0 d₀ l)(Rs:fB prog w bad s.heap vs ds)(Ks:fB prog w bad s.heap kvs (kds.map (·.2)))
 (G:∀h' tk,jK (prog:=prog) (w:=w) bad h' v0 d l->(∀b o,b∉Tb->b≠l->s.heap.get? b=some o->h'.get? b=some o)->W.S h'->Q .none (zs s h' tk)):
 wpAny (model prog w) A (call (.ref a) (v0::vs) ((kds.map (·.1)).zip kvs)) Q E s:=by
 revert G O;obtain⟨j,hd⟩:∃xs,d₀=.list xs:=gQ e λf Z e=>lz (P:=λx=>∃xs,x=.list xs) cH e λxs Z=>⟨xs,rfl⟩;subst hd;refine gQ e λf hf e=>j9 e λF e=>gQ e λL M e=>nJ (P:=λL=>_=some L->_) cH e (λpd L e M=>?_) M;obtain⟨p,dp⟩:=pd;refine ifn e λm e=>gQ e λS hx e=>?_;obtain⟨σ',own',fl⟩:=S
 induction fl using Fl.casesOn with
 |ret _=>exact nn e
 |next=>
 refine j9 e λI e=>gQ e λJ k e=>lz (P:=λJ=>_=some J->_) cH e (λys e k=>someE e λO G=>?_) k
 ·····
      refine yA (λX Y=>?_) (FT x f hf);rw[Y]at ha;rw[<-aH ha];clear ha;simp only[Bool.or_eq_true,not_or,Bool.not_eq_true]at m;refine cW (λo ho C=>?_) X.obj;refine wpAny_call (codeAny_call_function (by have:=R.depth;lia) (C _ hS) ho X.co X.gen X.body (X.code _ hS) ?_);refine X.bind F M hS (by simpa using Rs.length) (by simpa using Ks.length) λi restD hLd hr=>?_;have c:dp=.list j/\L.map (·.2)=ds++restD:=by have:dp::L.map (·.2)=.list j::(ds++restD):=hLd;injection this with h1 h2;exact⟨h1,h2⟩
      revert c;refine yA λg c=>?_;subst g;have Rv:fB prog w bad s.heap (vs++i) (L.map (·.2)):=by rw[c];exact Rs.append (hr bad B Ks)
      rw[X.glob,X.clo,X.blt];refine yA (λg Z=>?_) O.mJ;subst g;have U:p∉L.map (·.1):=λq=>by have:=m.1;simp at this q;revert q;refine yE λq hq=>?_;exact this _ hq
      refine FW (xs:=L.map (·.1)) (vs:=vs++i) (ds:=L.map (·.2)) B hS X.kind X.uq X.free (λq=>X.mkl q _ rfl rfl) O Rv (by simpa using Rv.length.symm) (X.holds _ kds ((p,.list j)::L) F M) U λz u F1 less kp=>?_;rw[zip_unzip]at F1;refine⟨W.nolim F1.S,codeAny_func ?_⟩;refine H.exs (s:=(zs s z u)) hx R.deeper F1 λfl v t2 bad2 ol2 T F2 ok=>?_;have:=Iw.next ok;subst this;have V:ol2 p=l:=(T.fix p I m.2).2;refine fW (λd' v' ed Z O2=>?_) (F2.ow p I);have g:=aH (k.symm.trans ed);subst g;rw[V]at O2;refine yA (λg Z=>?_) O2.mJ;subst g;have lb:∀b∈bad,b∈bad2:=λb K=>by
       refine aC (T.left b (.tail _ (aD _ K))) (λq=>?_) (cW λy q q'=>?_)
       ·exact q
       ·rw[q'];exact O2.1
      refine G v t2 (O2.less O.1 λb K=>.inl (lb b K)) (λb o' K hbl e'=>T.keep b o' (λq=>?_) (kp b o' e')) F2.S;revert q;refine yO (λq=>?_) (λg=>aC g (λq=>?_) (λN=>aC N (yE λy q=>?_) (cW λy q q'=>?_)))
      ·exact K q
      ·have q:b=s.heap.objs.size:=q
       subst q;exact eY _ (aZ e')
      ·have hm:(y,b)∈cellsFrom (s.heap.objs.size+1) f.fd.scope.names []:=mem_of_lookup q
       exact absurd (aZ e') (bc.mpr (jZ hm))
      ·exact hbl q'
theorem U4 (K:Hk W fA)(l:∀x f,qH x=some f->Iv W f/\fA x=some f.addr)(i:xJ W fA PP)(q:qH (Str.ofString "Headers")=none)(o:4<=n)(H:cL W fA n r):cL W fA (n+1) (N6 qH gD PP r) where
 star _ _ _:=rfl
 noset _ _ _ _:=rfl
 nosc _ _ _ _ _:=rfl
 domF x u m d e:=Pr e (λhd=>i.domF _ _ _ _ hd) λe=>gQ e λf a Z=>⟨_,(l x f a).2⟩
 domO x u m d e:=Pr e (λhd=>i.domO _ _ _ _ hd) λe=>gQ e λf a Z=>⟨_,(l x f a).2⟩
 ev e R F G:=evS_ok H K R F e G
 fr e a R F G:=frS_ok H K (R.less (cC n)) F e a G
 us e p R F k:=ZV H K (R.less (cC n)) F e p k
 tst e R F G:=Uz H (R.less (cC n)) F e G
 exs e R F G:=WN H K (R.less (cC n)) e F G
 callF e b R c B g j G:=Pr e (λhd=>i.callF hd b (R.less (fC o)) c B g j G) λe=>SM H l R e b c B g j G
 hd e b R c B G:=Pr e (λhd=>i.hd hd b (R.less (fC o)) c B G) λe=>gQ e λf a Z=>nn (q.symm.trans a)
 callO e b R c B O g j G:=Pr e (λhd=>i.callO hd b (R.less (fC o)) c B O g j G) λe=>Mv H l R e b c B O g j G
end
end
theorem Oq {prog:Program}{w:World}{gD:Str->Option D}{W:Wd prog w gD}{fA:Str->Option Addr}{qH:Str->Option Fn}{P:zB}(K:Hk W fA)(c:∀x f,qH x=some f->Iv W f/\fA x=some f.addr)(b:xJ W fA P)(a:qH (Str.ofString "Headers")=none):∀k,cL W fA (k+4) (run qH gD P k)
 |0=>bot_ok
 |k+1=>allCx (λK c b a d H=>U4 K c b a d H) ⟨prog,w,gD,W,fA,qH,P,k+4,run qH gD P k⟩ K c b a (Nat.le_add_left 4 k) (Oq K c b a k)
noncomputable def jP (k:Nat):Stmt:=(PySem.Challenge.pw_ti0078_01.main.body)[k]?.getD (.Pass default)
noncomputable def sDef {β:Type}(z:β)(x:Stmt)(f:Str->Arguments->List Stmt->Scope->β):β:=if h:x.ctorIdx=0 then Stmt.FunctionDef.elim (motive_2:=λZ=>β) x h (λname args body Z Z Z scope Z Z Z=>f name args body scope)else z
noncomputable def classBody (x:Stmt):List Stmt:=if h:x.ctorIdx=2 then Stmt.ClassDef.elim (motive_2:=λZ=>List Stmt) x h (λZ Z Z body Z Z Z Z Z Z Z=>body)else[]
noncomputable def yj (k:Nat):Stmt:=(classBody (jP 7))[k]?.getD (.Pass default)
noncomputable def fdOf (st:Stmt)(qual:Str)(dflt kwd:Value)(b:Str)(a:Nat)(code:Addr):FuncData:=sDef
 {name:=qual,qualname:=qual,params:=⟨[],[],none,[],[],none,[]⟩,body:=.stmts [],scope:=default,globals:=3,closure:=[],defaults:=dflt,kwdefaults:=kwd}
 st λname args body scope=>{name,qualname:=qual,params:=args,body:=.stmts body,scope,globals:=3,closure:=[],defaults:=dflt,kwdefaults:=kwd,pyModule:=.str b a,code:=.ref code}
noncomputable def bodyOf (fd:FuncData):List Stmt:=match fd.body with
 |.stmts b=>b
 |_=>[]
noncomputable def lU (a:Addr)(fd:FuncData)(c:List (Nat×List String))(d:List D)(kwd:List (Str×D))(b:List String):Fn:=
 ⟨a,fd,bodyOf fd,c.map λ(n,l)=>(n,l.map Str.ofString),d,kwd,b.map Str.ofString⟩
noncomputable def PN:Str:="cpy313.wsgiref.headers"
noncomputable def modB:Str:="cpy313.bisect"
noncomputable def modS:Str:="cpy313.stringprep"
noncomputable def zM:Str:="law_ti0078_01"
noncomputable def Qz:List (Str×D):=[(Str.ofString "key",.none)]
noncomputable def j5:Fn:=lU 121 (fdOf (yj 7) "Headers.get_all" .none .none PN 289 120) [(2,[])] [] [] []
noncomputable def kO:Fn:=lU 146 (fdOf (yj 11) "Headers.items" .none .none PN 289 145) [(1,[])] [] [] []
noncomputable def fK:Fn:=lU 195 (fdOf (jP 9) "bisect_right" (.ref 187) (.ref 188) modB 552 194) [(2,[]),(2,["key"])] [.int 0,.none] Qz []
noncomputable def fU:Fn:=lU 204 (fdOf (jP 10) "insort_left" (.ref 196) (.ref 197) modB 552 203) [(2,[]),(2,["key"])] [.int 0,.none] Qz []
noncomputable def eV:Fn:=lU 213 (fdOf (jP 11) "bisect_left" (.ref 205) (.ref 206) modB 552 212) [(2,[]),(2,["key"]),(4,[]),(4,["key"])] [.int 0,.none] Qz []
noncomputable def one:List (Nat×List String):=[(1,[])]
noncomputable def fn_b1:Fn:=lU 231 (fdOf (jP 14) "in_table_b1" .none .none modS 595 230) one [] [] []
noncomputable def fn_b3:Fn:=lU 277 (fdOf (jP 16) "map_table_b3" .none .none modS 595 276) one [] [] []
noncomputable def fn_c11:Fn:=lU 284 (fdOf (jP 17) "in_table_c11" .none .none modS 595 283) one [] [] []
noncomputable def wN:Fn:=lU 291 (fdOf (jP 18) "in_table_c4" .none .none modS 595 290) one [] [] []
noncomputable def fn_c6:Fn:=lU 303 (fdOf (jP 20) "in_table_c6" .none .none modS 595 302) one [] [] []
noncomputable def fn_c7:Fn:=lU 315 (fdOf (jP 22) "in_table_c7" .none .none modS 595 314) one [] [] []
noncomputable def fn_c8:Fn:=lU 339 (fdOf (jP 24) "in_table_c8" .none .none modS 595 338) one [] [] []
noncomputable def fn_c9:Fn:=lU 357 (fdOf (jP 26) "in_table_c9" .none .none modS 595 356) one [] [] []
noncomputable def j4:Fn:=lU 362 (fdOf (jP 28) "_law_spelled" .none .none zM 2949 361) one [] [] []
noncomputable def j8:Fn:=lU 369 (fdOf (jP 29) "_law_operator" .none .none zM 2949 368) one [] [] []
noncomputable def pX:Fn:=lU 374 (fdOf (jP 30) "_law_read" .none .none zM 2949 373) one [] [] ["tokens"]
noncomputable def pY:Fn:=lU 379 (fdOf (jP 31) "_law_laid" .none .none zM 2949 378) one [] [] []
noncomputable def fn_led:Fn:=lU 384 (fdOf (jP 32) "_law_led" .none .none zM 2949 383) one [] [] []
noncomputable def iJ:Fn:=lU 389 (fdOf (jP 33) "_law_shelved" .none .none zM 2949 388) [(2,[])] [] [] ["row","plain"]
noncomputable def iV:Fn:=lU 394 (fdOf (jP 34) "_law_halved" .none .none zM 2949 393) [(3,[])] [] [] ["row","told"]
noncomputable def ju:Fn:=lU 399 (fdOf (jP 35) "_law_tried" .none .none zM 2949 398) [(3,[])] [] [] ["nearest"]
noncomputable def oO:Fn:=lU 406 (fdOf (jP 36) "_law_run" .none .none zM 2949 405) [(3,[])] [] [] ["told"]
noncomputable def ug:Fn:=lU 411 (fdOf (jP 37) "law" .none .none zM 2949 410) one [] [] ["book"]
noncomputable def m9:List (Str×Fn):=[("Headers.get_all",j5),("Headers.items",kO),("bisect_right",fK),("insort_left",fU),("bisect_left",eV),("in_table_b1",fn_b1),("map_table_b3",fn_b3),("in_table_c11",fn_c11),
 ("in_table_c4",wN),("in_table_c6",fn_c6),("in_table_c7",fn_c7),("in_table_c8",fn_c8),("in_table_c9",fn_c9),("_law_spelled",j4),("_law_operator",j8),("_law_read",pX),("_law_laid",pY),("_law_led",fn_led),("_law_shelved",iJ),
 ("_law_halved",iV),("_law_tried",ju),("_law_run",oO),("law",ug)]
noncomputable def qH (x:Str):Option Fn:=m9.lookup x
noncomputable def dictKeys (st:Stmt):List Int:=G8 [] st λZ v Z=>R5 [] v λks Z Z=>ks.filterMap λk=>oS none k λk=>Mh none k λc Z Z=>qI none c some
noncomputable def rn (st:Stmt):List D:=G8 [] st λZ v Z=>R5 [] v λZ vs Z=>vs.filterMap λv=>Mh none v λc Z Z=>qS none c λx=>some (.str x)
noncomputable def vP (a:Int)(n:Nat):List Int:=(List.range n).map λ(k:Nat)=>a+k
noncomputable def pP:List Int:=[173,847,6150,6155,6156,6157,8203,8204,8205,8288,65279]++vP 65024 16
noncomputable def t6:List Int:=vP 65529 5
noncomputable def tZ:List Int:=vP 12272 12
noncomputable def pO:List Int:=[832,833,8206,8207]++vP 8234 5++vP 8298 6
noncomputable def tY:List Int:=917505::vP 917536 96
noncomputable def gTab:List (Str×D):=[("b3_exceptions",.idict (dictKeys (jP 15)) (rn (jP 15))),("b1_set",.iset pP),("c6_set",.iset t6),("c7_set",.iset tZ),("c8_set",.iset pO),("c9_set",.iset tY)]
noncomputable def gD (x:Str):Option D:=gTab.lookup x
noncomputable def eE:List Str:=["st","ST","St","fi","FI","Fi","ffi","FFI","Ffi","ff","FF","Ff","1","2","3","4","5","6"].map Str.ofString
noncomputable def P0:zB where
 callF x ds kds:=if x=Str.ofString "Headers" then l0 none ds (l0 none kds (some (.inst [])))
  else if x=Str.ofString "Headers._convert_string_type" then l2 none ds λa b=>dIn none a λZ=>dS none b λt=>l1 none kds λp=>dB none p.2 λZ=>if p.1=Str.ofString "name"/\eE.contains t then some (.str t)else none
  else none
 callO x ds kds:=if x=Str.ofString "Headers.add_header" then lc none ds λo ds=>l2 none ds λa b=>dIn none o λhs=>dS none a λa=>dS none b λb=>l0 none kds<|
  if eE.contains a/\eE.contains b/\small hs.length then some (.inst (hs++[.tuple [.str a,.str b]]))else none
  else none
noncomputable abbrev Rn (n:Nat):Rec:=run qH gD P0 n
noncomputable abbrev sg (c:Nat):D:=.str ⟨#[c]⟩
theorem c11_ok (k c:Nat):(Rn (k+6)).callF "in_table_c11" [sg c] []=some (.bool ((⟨#[c]⟩:Str)==⟨#[32]⟩)):=⋯
theorem b1_ok (k c:Nat):(Rn (k+6)).callF "in_table_b1" [sg c] []=some (.bool (decide ((c:Int)∈pP))):=⋯
theorem c6_ok (k c:Nat):(Rn (k+6)).callF "in_table_c6" [sg c] []=some (.bool (decide ((c:Int)∈t6))):=⋯
theorem c7_ok (k c:Nat):(Rn (k+6)).callF "in_table_c7" [sg c] []=some (.bool (decide ((c:Int)∈tZ))):=⋯
theorem c8_ok (k c:Nat):(Rn (k+6)).callF "in_table_c8" [sg c] []=some (.bool (decide ((c:Int)∈pO))):=⋯
theorem c9_ok (k c:Nat):(Rn (k+6)).callF "in_table_c9" [sg c] []=some (.bool (decide ((c:Int)∈tY))):=⋯
noncomputable def yI (x:Stmt):Expr:=G6 default x λt Z Z Z=>t
noncomputable def q7 (x:Stmt):List Stmt:=G6 [] x λZ b Z Z=>b
noncomputable def zH (x:Stmt):List Stmt:=G6 [] x λZ Z o Z=>o
noncomputable def isIf (x:Stmt):Bool:=G6 false x λZ Z Z Z=>true
noncomputable def m6 (x:Stmt):Expr:=Oj default x λo Z=>oS default o λe=>e
noncomputable def Yz (x:Stmt):Bool:=Oj false x λo Z=>oS false o λZ=>true
noncomputable def XH (x:Stmt):Str:=G8 default x λts Z Z=>l1 default ts λt=>rm default t λx Z=>x
noncomputable def dh (x:Stmt):Expr:=G8 default x λZ v Z=>v
noncomputable def isAsg (x:Stmt):Bool:=G8 false x λts Z Z=>l1 false ts λt=>rm false t λZ Z=>true
section
variable {r:Rec}{tu:List Str}{σ σ':Sg}{own own':List Str}{st:Stmt}{rest:List Stmt}
theorem JG:fO r tu σ own (st::rest)=Uj (ni r tu σ own st) (λσ own=>fO r tu σ own rest):=rfl
theorem aJ (h:ni r tu σ own st=some ⟨σ',own',.next⟩):fO r tu σ own (st::rest)=fO r tu σ' own' rest:=by rw[JG,h];rfl
theorem fL {d:D}(h:ni r tu σ own st=some ⟨σ',own',.ret d⟩):fO r tu σ own (st::rest)=some ⟨σ',own',.ret d⟩:=by rw[JG,h];rfl
theorem RG (hs:isIf st=true):ni r tu σ own st=oS none (r.tst σ (yI st)) λc=>cond c (r.exs tu σ own (q7 st)) (r.exs tu σ own (zH st)):=by exact Ol nb hs λZ Z Z Z Z=>rfl
theorem f9 (hs:isIf st=true)(h:r.tst σ (yI st)=some true):ni r tu σ own st=r.exs tu σ own (q7 st):=by rw[RG hs,h];rfl
theorem fP (hs:isIf st=true)(h:r.tst σ (yI st)=some false):ni r tu σ own st=r.exs tu σ own (zH st):=by rw[RG hs,h];rfl
theorem WQ (hs:Yz st=true):ni r tu σ own st=oS none (vG r σ own [] (m6 st)) λq=>some ⟨σ,q.2,.ret q.1⟩:=by exact Oi nb hs λo Z h=>Br nb h λZ Z=>rfl
theorem gm {d:D}(hs:Yz st=true)(h:vG r σ own [] (m6 st)=some (d,own')):ni r tu σ own st=some ⟨σ,own',.ret d⟩:=by rw[WQ hs,h];rfl
theorem dg (hs:isAsg st=true)(a:σ.holds (XH st)=true){d:D}(h:vG r σ own [] (dh st)=some (d,own')):ni r tu σ own st=some ⟨σ.add (XH st) d,nQ (tu.contains (XH st)&&gP (dh st)) (XH st) own',.next⟩:=by revert a h;refine Oo nb hs λb v q hs=>jo nb hs λt hs=>jw nb hs λx p Z a h=>?_;have a:σ.holds x=true:=a;have h:vG r σ own [] v=some (d,own'):=h;show(if !σ.holds x then _ else oS none (vG r σ own [] v) _)=_;rw[a,h,J2];rfl
theorem iD {keep:List Str}{e:Expr}{d:D}(h:r.ev (without own σ) e=some d):vG r σ own keep e=some (d,own):=by unfold vG;rw[h]
theorem j7:without [] σ=σ:=by
 unfold without;have:(σ.vars.filter λp=>!([]:List Str).contains p.1)=σ.vars:=by rw[List.filter_eq_self];intro a Z;simp
 rw[this]
theorem du {keep:List Str}{e:Expr}{d:D}(h:r.ev σ e=some d):vG r σ [] keep e=some (d,[]):=iD (by rw[j7];exact h)
end
theorem cu (k:Nat)(tu:List Str)(σ:Sg)(own:List Str)(b:List Stmt):(Rn (k+1)).exs tu σ own b=fO (Rn k) tu σ own b:=rfl
theorem gj {k:Nat}{x:Str}{f:Fn}{ds:List D}{kds:List (Str×D)}{σ₀ sg:Sg}{ow:List Str}{d:D}(a:P0.callF x ds kds=none)(b:qH x=some f)(hs:f.shapes.contains (ds.length,kds.map (·.1))=true)(hb:Tn f ds kds=some σ₀)
 (c:(Rn k).exs f.turned σ₀ [] f.body=some ⟨sg,ow,.ret d⟩):(Rn (k+1)).callF x ds kds=some d:=by
 show orC (P0.callF x ds kds) (SN qH (Rn k) x ds kds)=some d;rw[a];show oS none (qH x) _=some d;rw[b];show(if _ then oS none (Tn f ds kds) _ else _)=some d;rw[ao hs,hb];show oS none ((Rn k).exs f.turned σ₀ [] f.body) _=some d;rw[c];rfl
noncomputable def p4 (c:Nat):Bool:=if c<64976 then false else if c<65008 then true else decide (c % 65536=65534\/c % 65536=65535)
noncomputable def s4 (i:Nat):Stmt:=wN.body[i]?.getD (.Pass default)
theorem body4:wN.body=[s4 0,s4 1,s4 2,s4 3]:=⋯
noncomputable def g4 (c:Nat):Sg:=rE ⟨ig wN.fd.scope,wN.fd.scope.names⟩ [(Str.ofString "code",sg c)]
theorem c4_ok (k c:Nat):(Rn (k+6)).callF "in_table_c4" [sg c] []=some (.bool (p4 c)):=by
 have go:∀{d sg' ow},(Rn (k+5)).exs wN.turned (g4 c) [] wN.body=some ⟨sg',ow,.ret d⟩->(Rn (k+6)).callF "in_table_c4" [sg c] []=some d:=λh=>gj (f:=wN) (σ₀:=g4 c) rfl ⋯ ⋯ ⋯ h;refine go (sg':=(g4 c).add "c" (.int c)) (ow:=[]) ?_;rw[body4];rw[cu (k+4)];rw[aJ (σ':=(g4 c).add "c" (.int c)) (own':=[]) ⋯];have e:(Rn (k+4)).tst ((g4 c).add "c" (.int c)) (yI (s4 1))=some (decide ((c:Int)<64976)):=⋯;have b:(Rn (k+4)).tst ((g4 c).add "c" (.int c)) (yI (s4 2))=some (decide ((c:Int)<65008)):=⋯;unfold p4;by_cases i:c<64976
 ·rw[ao i]
  refine fL ?_;rw[f9 ⋯ (e.trans (bD some (bW (by exact Int.ofNat_lt.mpr ‹_›))))]
  rfl'
 ·rw[aq i,aJ (st:=s4 1) (σ':=(g4 c).add "c" (.int c)) (own':=[]) (by
   rw[fP ⋯ (e.trans (bD some (bU (by lia))))]
   rfl')]
  by_cases g:c<65008
  ·rw[ao g]
   refine fL ?_;rw[f9 ⋯ (b.trans (bD some (bW (by exact Int.ofNat_lt.mpr ‹_›))))]
   rfl'
  ·rw[aq g,aJ (st:=s4 2) (σ':=(g4 c).add "c" (.int c)) (own':=[]) (by
    rw[fP ⋯ (b.trans (bD some (bU (by lia))))]
    rfl')]
   refine fL (gm ⋯ (du ?_));have:(Rn (k+4)).ev ((g4 c).add "c" (.int c)) (m6 (s4 3))=(match Ik .BitAnd (.int c) (.int 65535)with
    |some a=>(jh .In a (.tuple [.int 65534,.int 65535])).map .bool
    |none=>none):=⋯
   rw[this];have j:Ik .BitAnd (.int c) (.int 65535)=some (.int ((c:Int) % 65536)):=by show(if 0<=(c:Int)/\(65535:Int)=65535 then some (D.int ((c:Int) % 65536))else none)=_;rw[ao ⟨by exact Int.natCast_nonneg _,rfl⟩]
   rw[j];show(rC (.int ((c:Int) % 65536)) [.int 65534,.int 65535]).map D.bool=_;have key:∀m:Int,rC (.int m) [.int 65534,.int 65535]=some (((65534:Int)==m)||((65535:Int)==m)):=λm=>by
    show cond ((65534:Int)==m) ((cond ((65535:Int)==m) ((some false).map λZ=>true) (some false)).map λZ=>true) (cond ((65535:Int)==m) ((some false).map λZ=>true) (some false))=_
    induction ((65534:Int)==m)using fu<;>induction ((65535:Int)==m)using fu<;>rfl
   rw[key,show(((65534:Int)==(c:Int) % 65536)||((65535:Int)==(c:Int) % 65536))=decide (c % 65536=65534\/c % 65536=65535) by
    rw[Bool.eq_iff_iff,Bool.or_eq_true,dz,dz,decide_eq_true_iff]
    lia]
   rfl
noncomputable def YL (c:Nat):Nat:=if c=119969 then 8497 else if c=119972 then 8464 else if c=120076 then 8465 else c
noncomputable def lets:List (Nat×Nat):=(List.range 13).flatMap λt=>[115,116,102,105].map λl=>(YL (119808+52 * t+l - 97),l)
noncomputable def JW:List (Nat×List Nat):=lets.map (λp=>(p.1,[p.2]))++[(64256,[102,102]),(64257,[102,105]),(64259,[102,102,105]),(64261,[115,116]),(64262,[115,116]),(115,[115]),(116,[116]),(102,[102]),(105,[105]),(83,[115]),(70,[102])]
theorem b3_all (k:Nat):JW.map (λp=>(Rn (k+8)).callF "map_table_b3" [sg p.1] [])=JW.map (λp=>some (.str ⟨p.2.toArray⟩)):=⋯
theorem Qd {α β:Type}{f g:α->β}{l:List α}(h:l.map f=l.map g){x:α}(hx:x∈l):f x=g x:=by
 induction l with
 |nil=>cases hx
 |cons a r b=>
  rw[aX,aX]at h;injection h with d c;rcases au.mp hx with rfl|hx
  ·exact d
  ·exact b c hx
theorem b3_ok (k:Nat){c:Nat}{x:List Nat}(h:(c,x)∈JW):(Rn (k+8)).callF "map_table_b3" [sg c] []=some (.str ⟨x.toArray⟩):=by have e:=Qd (b3_all k) h;exact e
noncomputable def jt (x:Stmt):List Stmt:=G7 [] x λZ Z b Z Z=>b
noncomputable def oM (x:Stmt):Expr:=G7 default x λt Z Z Z Z=>t
noncomputable def uf (x:Stmt):Expr:=G7 default x λZ i Z Z Z=>i
noncomputable def isFor (x:Stmt):Bool:=G7 false x λZ Z Z o Z=>l0 false o true
noncomputable def listE (x:Expr):List Expr:=eLi [] x λes Z=>es
noncomputable def appV {β:Type}(z:β)(st:Stmt)(f:Str->Pos->Str->Pos->Expr->Pos->β):β:=
 sEx z st λc Z=>jj z c λa as ks p=>l1 z as λe=>l0 z ks<|Xb z a λo m b=>rm z o λx px=>f x px m b e p
noncomputable def uo (st:Stmt):Expr:=appV default st λZ Z Z Z e Z=>e
noncomputable def T5 (st:Stmt):Str:=appV default st λx Z Z Z Z Z=>x
noncomputable def isApp (st:Stmt):Bool:=appV false st λx px m a Z p=>decide (m=Str.ofString "append"/\gG x=false/\dJ (.Name x px) a p 1=true)
section
variable {r:Rec}{tu:List Str}{σ σ':Sg}{own own':List Str}{st:Stmt}{rest:List Stmt}
theorem mO (hs:isApp st=true)(b:own.contains (T5 st)=true){xs:List D}(hl:σ.lookup (T5 st)=some (.list xs)){d:D}(h:vG r σ own [T5 st] (uo st)=some (d,own'))(f:own'.contains (T5 st)=true)(g:small xs.length=true):
 ni r tu σ own st=some ⟨σ.add (T5 st) (.list (xs++[d])),own',.next⟩:=by
 revert b hl h f;refine I9 nb hs λc q hs=>jY nb hs λa s k p hs=>jo nb hs λe hs=>lV nb hs λhs=>Ft nb hs λo m j hs=>jw nb hs λx i hs b hl h f=>?_
 ·have hs:=bw hs
  have b:own.contains x=true:=b;have hl:σ.lookup x=some (.list xs):=hl;have h:vG r σ own [x] e=some (d,own'):=h;have f:own'.contains x=true:=f;show(if m=Str.ofString "append"/\own.contains x=true/\gG x=false/\dJ (.Name x i) j p 1=true then oS none (σ.lookup x) (λl=>dL none l λxs=>oS none (vG r σ own [x] e) λq=>if q.2.contains x/\small xs.length then some (⟨σ.add x (.list (xs++[q.1])),q.2,.next⟩:Out)else none)else none)=_;rw[ao ⟨hs.1,b,hs.2.1,hs.2.2⟩,hl,h];exact ao ⟨f,g⟩
theorem qb (hs:isFor st=true){ds:List D}(hi:gH r (without own σ) (uf st)=some ds)(a:(((targetsOf (oM st)).all λx=>!own.contains x&& !tu.contains x)&&(!uU (uf st)||(targetsOf (oM st)).length==2))=true):
 ni r tu σ own st=mK r tu (oM st) (jt st) ds σ own:=by
 revert hi a;refine Om nb hs λt i b o p hs=>lV nb hs λZ hi a=>?_
 ·show oS none (gH r (without own σ) i) (λds=>if ((targetsOf t).all λx=>!own.contains x&& !tu.contains x)&&(!uU i||(targetsOf t).length==2)then mK r tu t b ds σ own else none)=_
  have hi:gH r (without own σ) i=some ds:=hi;rw[hi];exact ao a
theorem iU {t:Expr}{b:List Stmt}{d:D}{ds:List D}{σ₁ σ2:Sg}{Hf:List Str}(hb:gq t d σ=some σ₁)(h:r.exs tu σ₁ own b=some ⟨σ2,Hf,.next⟩):mK r tu t b (d::ds) σ own=mK r tu t b ds σ2 Hf:=by show oS none (gq t d σ) (λσ'=>Uj (r.exs tu σ' own b) (mK r tu t b ds))=_;rw[hb];show Uj (r.exs tu σ₁ own b) (mK r tu t b ds)=_;rw[h];rfl
end
theorem dZ {n:Nat}(h:n<=1000000):small n=true:=Nat.ble_eq_true_of_le h
noncomputable def sR (i:Nat):Stmt:=pX.body[i]?.getD (.Pass default)
theorem bodyR:pX.body=[sR 0,sR 1,sR 2]:=⋯
noncomputable def sB (i:Nat):Stmt:=(jt (sR 1))[i]?.getD (.Pass default)
theorem bodyB:jt (sR 1)=[sB 0,sB 1,sB 2,sB 3]:=⋯
noncomputable def rG:List (Str×D):=ig pX.fd.scope
noncomputable def rN:List (Str×NameKind):=pX.fd.scope.names
noncomputable def RS (b:Str)(xs:List D)(w:Str):Option (D×D×D)->Sg
 |none=>⟨("word",.str w)::("tokens",.list xs)::("text",.str b)::rG,rN⟩
 |some (s,h,a)=>⟨("at",a)::("held",h)::("sign",s)::("word",.str w)::("tokens",.list xs)::("text",.str b)::rG,rN⟩
noncomputable def RB (b:Str)(xs:List D)(w:Str)(s:D):Option (D×D×D)->Sg
 |none=>⟨("sign",s)::("word",.str w)::("tokens",.list xs)::("text",.str b)::rG,rN⟩
 |some (_,h,a)=>RS b xs w (some (s,h,a))
noncomputable def RH (b:Str)(xs:List D)(w:Str)(s h:D):Option (D×D×D)->Sg
 |none=>⟨("held",h)::("sign",s)::("word",.str w)::("tokens",.list xs)::("text",.str b)::rG,rN⟩
 |some (_,_,a)=>RS b xs w (some (s,h,a))
theorem bindR (a:Str)(xs:List D)(w:Str)(c:Nat)(o:Option (D×D×D)):gq (oM (sR 1)) (sg c) (RS a xs w o)=some (RB a xs w (sg c) o):=by
 induction o using aK<;>rfl'
noncomputable def kJ (c:Nat):List Bool:=[(⟨#[c]⟩:Str)==⟨#[32]⟩,decide ((c:Int)∈pP),p4 c,decide ((c:Int)∈t6),decide ((c:Int)∈tZ),decide ((c:Int)∈pO),decide ((c:Int)∈tY)]
noncomputable def hE (i:Nat):Expr:=(listE (dh (sB 0)))[i]?.getD default
noncomputable def tk:List Str:=["tokens"]
theorem bO {r:Rec}{σ:Sg}{e:Expr}{es:List Expr}{d:D}{ds:List D}(h:r.ev σ e=some d)(h':eX r σ es=some ds):eX r σ (e::es)=some (d::ds):=by exact nj h h'
theorem Ww (k c:Nat)(σ:Sg)(hs:∃a xs w o,σ=RB a xs w (sg c) o\/σ=without tk (RB a xs w (sg c) o)):(Rn (k+9)).ev σ (dh (sB 0))=some (.list ((kJ c).map .bool)):=by
 revert hs;refine xM λa xs w o hs=>?_;have b:(Rn (k+9)).ev σ (dh (sB 0))=(eX (Rn (k+8)) σ [hE 0,hE 1,hE 2,hE 3,hE 4,hE 5,hE 6]).map .list:=⋯;have j:(Rn (k+8)).ev σ (hE 0)=(Rn (k+1+6)).callF "in_table_c11" [sg c] []:=by refine wH hs ?_ ?_<;>induction o using aK<;>rfl'
 have i:(Rn (k+8)).ev σ (hE 1)=(Rn (k+1+6)).callF "in_table_b1" [sg c] []:=by refine wH hs ?_ ?_<;>induction o using aK<;>rfl'
 have h:(Rn (k+8)).ev σ (hE 2)=(Rn (k+1+6)).callF "in_table_c4" [sg c] []:=by refine wH hs ?_ ?_<;>induction o using aK<;>rfl'
 have g:(Rn (k+8)).ev σ (hE 3)=(Rn (k+1+6)).callF "in_table_c6" [sg c] []:=by refine wH hs ?_ ?_<;>induction o using aK<;>rfl'
 have f:(Rn (k+8)).ev σ (hE 4)=(Rn (k+1+6)).callF "in_table_c7" [sg c] []:=by refine wH hs ?_ ?_<;>induction o using aK<;>rfl'
 have e:(Rn (k+8)).ev σ (hE 5)=(Rn (k+1+6)).callF "in_table_c8" [sg c] []:=by refine wH hs ?_ ?_<;>induction o using aK<;>rfl'
 have d:(Rn (k+8)).ev σ (hE 6)=(Rn (k+1+6)).callF "in_table_c9" [sg c] []:=by refine wH hs ?_ ?_<;>induction o using aK<;>rfl'
 rw[b,bO (j.trans (c11_ok _ c)) (bO (i.trans (b1_ok _ c)) (bO (h.trans (c4_ok _ c)) (bO (g.trans (c6_ok _ c)) (bO (f.trans (c7_ok _ c)) (bO (e.trans (c8_ok _ c)) (bO (d.trans (c9_ok _ c)) rfl))))))];rfl
noncomputable def pat (i:Nat):List D:=(List.range 7).map λj=>.bool (j==i)
noncomputable abbrev tR:List Str:=pX.turned
noncomputable def sC (i:Nat):Stmt:=(q7 (sB 3))[i]?.getD (.Pass default)
noncomputable def sD:Stmt:=(zH (sB 3))[0]?.getD (.Pass default)
noncomputable def sE:Stmt:=(q7 sD)[0]?.getD (.Pass default)
noncomputable def sF:Stmt:=(zH sD)[0]?.getD (.Pass default)
noncomputable def sG:Stmt:=(q7 sF)[0]?.getD (.Pass default)
theorem bodyC:q7 (sB 3)=[sC 0,sC 1]:=⋯
theorem Ax:zH (sB 3)=[sD]:=⋯
theorem bodyE:q7 sD=[sE]:=⋯
theorem Gb:zH sD=[sF]:=⋯
theorem Ga:q7 sF=[sG]:=⋯
noncomputable def jJ (x:Expr):Expr:=Mi default x λl Z Z Z=>l
noncomputable def mR (x:Expr):Expr:=Mi default x λZ Z r Z=>r
noncomputable def CK (x:Expr):Operator:=Mi .Add x λZ o Z Z=>o
noncomputable def isBin (x:Expr):Bool:=Mi false x λZ Z Z Z=>true
theorem fQ {k:Nat}{σ:Sg}{e:Expr}{a b:D}(h:isBin e=true)(c:(Rn k).ev σ (jJ e)=some a)(hb:(Rn k).ev σ (mR e)=some b):(Rn (k+1)).ev σ e=Ik (CK e) a b:=by revert c hb;refine eBin_i nb h λl d r p Z c hb=>?_;show(oS none ((Rn k).ev σ l) λa=>oS none ((Rn k).ev σ r) λb=>Ik d a b)=_;have c:(Rn k).ev σ l=some a:=c;have hb:(Rn k).ev σ r=some b:=hb;rw[c,hb];rfl
section
variable (k c:Nat)(tx w:Str)(xs:List D)(o:Option (D×D×D))
theorem stepB0:ni (Rn (k+10)) tR (RB tx xs w (sg c) o) tk (sB 0)=some ⟨RH tx xs w (sg c) (.list ((kJ c).map .bool)) o,tk,.next⟩:=by
 rw[dg ⋯ (by induction o using aK<;>rfl') (iD (Ww (k+1) c _ ⟨tx,xs,w,o,.inr rfl⟩))]
 induction o using aK<;>rfl'
theorem stepB1 {i:Nat}(hi:i<=7):ni (Rn (k+10)) tR (RH tx xs w (sg c) (.list (pat i)) o) tk (sB 1)=some ⟨RS tx xs w (some (sg c,.list (pat i),.int i)),tk,.next⟩:=by have:i=0\/i=1\/i=2\/i=3\/i=4\/i=5\/i=6\/i=7:=in8 (by first|assumption|exact cz ‹_›);refine or8 this ?_ ?_ ?_ ?_ ?_ ?_ ?_ ?_<;>induction o using aK<;>rfl'
noncomputable abbrev RA (i:Nat):Sg:=RS tx xs w (some (sg c,.list (pat i),.int i))
theorem stepB2 {i:Nat}(hi:i<=7):ni (Rn (k+10)) tR (RA c tx w xs i) tk (sB 2)=some ⟨RA c tx w xs i,tk,.next⟩:=by have:i=0\/i=1\/i=2\/i=3\/i=4\/i=5\/i=6\/i=7:=in8 (by first|assumption|exact cz ‹_›);refine or8 this ?_ ?_ ?_ ?_ ?_ ?_ ?_ ?_<;>rfl'
theorem I6 {i:Nat}(hi:i<=7)(a:(kJ c).map .bool=pat i){out:Option Out}(h:fO (Rn (k+10)) tR (RA c tx w xs i) tk [sB 3]=out):(Rn (k+11)).exs tR (RB tx xs w (sg c) o) tk (jt (sR 1))=out:=by rw[cu (k+10),bodyB,aJ (stepB0 k c tx w xs o),a,aJ (stepB1 k c tx w xs o hi),aJ (stepB2 k c tx w xs hi)];exact h
theorem Kw (a:(kJ c).map .bool=pat 1):(Rn (k+11)).exs tR (RB tx xs w (sg c) o) tk (jt (sR 1))=some ⟨RS tx xs w (some (sg c,.list (pat 1),.int 1)),tk,.next⟩:=
 I6 k c tx w xs o (by decide) a ⋯
theorem Kv {x:Str}(d:(kJ c).map .bool=pat 7)(hb:(Rn (k+6)).callF "map_table_b3" [sg c] []=some (.str x))(hs:small (w.length+x.length)=true):
 (Rn (k+11)).exs tR (RB tx xs w (sg c) o) tk (jt (sR 1))=some ⟨RS tx xs (w++x) (some (sg c,.list (pat 7),.int 7)),tk,.next⟩:=by
 refine I6 k c tx w xs o (by decide) d ?_;refine aJ (σ':=RS tx xs (w++x) (some (sg c,.list (pat 7),.int 7))) (own':=tk) ?_;rw[fP ⋯ ⋯,Ax,cu (k+9)];refine aJ (σ':=RS tx xs (w++x) (some (sg c,.list (pat 7),.int 7))) (own':=tk) ?_;rw[f9 ⋯ ⋯,bodyE,cu (k+8)];refine aJ (σ':=RS tx xs (w++x) (some (sg c,.list (pat 7),.int 7))) (own':=tk) ?_;have e:(Rn (k+8)).ev (without tk (RA c tx w xs 7)) (dh sE)=some (.str (w++x)):=by have f:(Rn (k+7)).ev (without tk (RA c tx w xs 7)) (mR (dh sE))=(Rn (k+6)).callF "map_table_b3" [sg c] []:=⋯;rw[fQ (k:=k+7) (a:=.str w) (b:=.str x) ⋯ ⋯ (f.trans hb)];refine Eq.trans (b:=if small (w.length+x.length)=true then some (D.str (w++x))else none) ⋯ ?_;rw[ao hs]
 rw[dg ⋯ ⋯ (iD e)]
 rfl'
theorem Ob (a:(kJ c).map .bool=pat 0)(hs:small xs.length=true):
 (Rn (k+11)).exs tR (RB tx xs w (sg c) o) tk (jt (sR 1))=some ⟨RS tx (xs++[.str w]) ⟨#[]⟩ (some (sg c,.list (pat 0),.int 0)),tk,.next⟩:=by
 refine I6 k c tx w xs o (by decide) a ?_;refine aJ (σ':=RS tx (xs++[.str w]) ⟨#[]⟩ (some (sg c,.list (pat 0),.int 0))) (own':=tk) ?_;rw[f9 ⋯ ⋯,bodyC,cu (k+9)];rw[aJ (σ':=RS tx (xs++[.str w]) w (some (sg c,.list (pat 0),.int 0))) (own':=tk) (by
  rw[mO (d:=.str w) (own':=tk) (xs:=xs) ⋯ ⋯ ⋯ ⋯ ⋯ hs]
  rfl')]
 rfl'
theorem U8 {i:Nat}(hi:2<=i/\i<=6)(a:(kJ c).map .bool=pat i)(hs:small xs.length=true):
 (Rn (k+11)).exs tR (RB tx xs w (sg c) o) tk (jt (sR 1))=some ⟨RS tx (xs++[.int ((i - 2:Nat):Int)]) w (some (sg c,.list (pat i),.int i)),tk,.next⟩:=by
 refine I6 k c tx w xs o (by lia) a ?_;have:i=2\/i=3\/i=4\/i=5\/i=6:=by lia
 refine or5 this ?_ ?_ ?_ ?_ ?_
 ·refine aJ (own':=tk) ?_
  rw[fP ⋯ ⋯,Ax,cu (k+9)];refine aJ (own':=tk) ?_;rw[fP ⋯ ⋯,Gb,cu (k+8)];refine aJ (own':=tk) ?_;rw[f9 ⋯ ⋯,Ga,cu (k+7)];refine aJ (own':=tk) ?_;rw[mO (d:=.int 0) (own':=tk) (xs:=xs) ⋯ ⋯ ⋯ ⋯ ⋯ hs]
  rfl'
 ·refine aJ (own':=tk) ?_
  rw[fP ⋯ ⋯,Ax,cu (k+9)];refine aJ (own':=tk) ?_;rw[fP ⋯ ⋯,Gb,cu (k+8)];refine aJ (own':=tk) ?_;rw[f9 ⋯ ⋯,Ga,cu (k+7)];refine aJ (own':=tk) ?_;rw[mO (d:=.int 1) (own':=tk) (xs:=xs) ⋯ ⋯ ⋯ ⋯ ⋯ hs]
  rfl'
 ·refine aJ (own':=tk) ?_
  rw[fP ⋯ ⋯,Ax,cu (k+9)];refine aJ (own':=tk) ?_;rw[fP ⋯ ⋯,Gb,cu (k+8)];refine aJ (own':=tk) ?_;rw[f9 ⋯ ⋯,Ga,cu (k+7)];refine aJ (own':=tk) ?_;rw[mO (d:=.int 2) (own':=tk) (xs:=xs) ⋯ ⋯ ⋯ ⋯ ⋯ hs]
  rfl'
 ·refine aJ (own':=tk) ?_
  rw[fP ⋯ ⋯,Ax,cu (k+9)];refine aJ (own':=tk) ?_;rw[fP ⋯ ⋯,Gb,cu (k+8)];refine aJ (own':=tk) ?_;rw[f9 ⋯ ⋯,Ga,cu (k+7)];refine aJ (own':=tk) ?_;rw[mO (d:=.int 3) (own':=tk) (xs:=xs) ⋯ ⋯ ⋯ ⋯ ⋯ hs]
  rfl'
 ·refine aJ (own':=tk) ?_
  rw[fP ⋯ ⋯,Ax,cu (k+9)];refine aJ (own':=tk) ?_;rw[fP ⋯ ⋯,Gb,cu (k+8)];refine aJ (own':=tk) ?_;rw[f9 ⋯ ⋯,Ga,cu (k+7)];refine aJ (own':=tk) ?_;rw[mO (d:=.int 4) (own':=tk) (xs:=xs) ⋯ ⋯ ⋯ ⋯ ⋯ hs]
  rfl'
end
noncomputable def yd (i:Nat):List Bool:=(List.range 7).map λj=>j==i
noncomputable def zA:List Nat->Option (List Nat)
 |[]=>some []
 |c::a=>if kJ c=yd 1 then zA a else if kJ c=yd 7 then(match JW.lookup c with
  |some x=>(zA a).map λy=>x++y
  |none=>none)else none
theorem uK {c i:Nat}(h:kJ c=yd i):(kJ c).map D.bool=pat i:=by rw[h];rfl
theorem lookup_mem {α:Type}:∀{l:List (Nat×α)}{c:Nat}{x:α},l.lookup c=some x->(c,x)∈l
 |[],_,_,h=>by exact nn h
 |(d,y)::r,c,x,h=>by
  rw[List.lookup_cons]at h;by_cases e:c=d
  ·subst e
   have:(c==c)=true:=by simp
   rw[this]at h;injection h with h;subst h;exact .head _
  ·have:(c==d)=false:=by simpa using e
   rw[this]at h;exact .tail _ (lookup_mem h)
noncomputable abbrev fR (k:Nat)(ds:List D)(σ:Sg):Option Out:=mK (Rn (k+14)) tR (oM (sR 1)) (jt (sR 1)) ds σ tk
theorem U3 (a b:Array Nat):(⟨a⟩:Str)++(⟨b⟩:Str)=⟨a++b⟩:=rfl
theorem vO (k:Nat)(a:Str)(xs:List D)(rest:List D):∀{b:List Nat}{x:List Nat}(w:List Nat)(o:Option (D×D×D)),zA b=some x->w.length+x.length<=1000->
 ∃o',fR k (b.map sg++rest) (RS a xs ⟨w.toArray⟩ o)=fR k rest (RS a xs ⟨(w++x).toArray⟩ o')
 |[],x,w,o,h,hl=>by simp only[zA,Option.some.injEq]at h;subst h;exact⟨o,by simp⟩
 |c::b,x,w,o,h,hl=>by
  unfold zA at h;rw[aX,List.cons_append];split at h
  ·rename_i d
   refine yE (λo' e=>?_) (vO k a xs rest w (some (sg c,.list (pat 1),.int 1)) h hl);exact⟨o',(iU (bindR a xs _ c o) (Kw (k+3) c a _ xs o (uK d))).trans e⟩
  ·split at h
   ·rename_i d
    split at h
    ·rename_i y i
     refine cW (λz g f=>?_) (dq.mp h);subst f;simp only[aW]at hl;refine yE (λo' e=>?_) (vO k a xs rest (w++y) (some (sg c,.list (pat 7),.int 7)) g (by simp;lia));have l:=b3_ok (k+1) (lookup_mem i);have j:small ((⟨w.toArray⟩:Str).length+(⟨y.toArray⟩:Str).length)=true:=dZ (by show w.toArray.size+y.toArray.size<=_;simp;lia)
     have st:=iU (bindR a xs _ c o) (Kv (k+3) c a ⟨w.toArray⟩ xs o (uK d) l j) (ds:=b.map sg++rest);have m:(⟨w.toArray⟩:Str)++⟨y.toArray⟩=⟨(w++y).toArray⟩:=by rw[U3];simp
     rw[m]at st;refine⟨o',st.trans (e.trans ?_)⟩;rw[cR]
    ·exact nn h
   ·exact nn h
noncomputable def CT (b:List Nat)(d:D):Prop:=
 (∃a x,b=a++[32]/\zA a=some x/\x.length<=1000/\d=.str ⟨x.toArray⟩)\/∃c i,b=[c]/\2<=i/\i<=6/\kJ c=yd i/\d=.int ((i - 2:Nat):Int)
theorem Hy:kJ 32=yd 0:=⋯
theorem KJ (k:Nat)(a:Str)(xs:List D)(rest:List D){e:List Nat}{d:D}(h:CT e d)(q:xs.length<=1000)(o:Option (D×D×D)):∃o',fR k (e.map sg++rest) (RS a xs ⟨#[]⟩ o)=fR k rest (RS a (xs++[d]) ⟨#[]⟩ o'):=by
 rcases h with⟨p,x,rfl,g,hl,rfl⟩|⟨c,i,rfl,l,j,f,rfl⟩
 ·refine yE (λb m=>?_) (vO k a xs ([sg 32]++rest) [] o g (by simpa using hl))
  refine⟨some (sg 32,.list (pat 0),.int (0:Nat)),?_⟩;rw[bu,cR];refine m.trans ?_;exact iU (bindR a xs _ 32 b) (Ob (k+3) 32 a ⟨x.toArray⟩ xs b (uK Hy) (dZ (by exact aA ‹_› (by decide))))
 ·exact⟨_,iU (bindR a xs _ c o) (U8 (k+3) c a _ xs o ⟨l,j⟩ (uK f) (dZ (by exact aA ‹_› (by decide))))⟩
inductive iw:List (List Nat)->List D->Prop
 |nil:iw [] []
 |cons {cs:List Nat}{d:D}{l:List (List Nat)}{ds:List D}:CT cs d->iw l ds->iw (cs::l) (d::ds)
theorem xY (k:Nat)(a:Str):∀{l:List (List Nat)}{ds:List D}(xs:List D)(o:Option (D×D×D)),iw l ds->xs.length+ds.length<=1000->∃o',fR k (l.flatten.map sg) (RS a xs ⟨#[]⟩ o)=some ⟨RS a (xs++ds) ⟨#[]⟩ o',tk,.next⟩
 |[],_,xs,o,.nil,_=>⟨o,by rw[List.append_nil];rfl⟩
 |cs::l,_,xs,o,@iw.cons _ d _ ds h e,hl=>by simp only[bx]at hl;refine yE (λc g=>?_) (KJ k a xs (l.flatten.map sg) h (by lia) o);refine yE (λb f=>?_) (xY k a (xs++[d]) c e (by simp;lia));refine⟨b,?_⟩;rw[List.flatten_cons,bu];refine g.trans (f.trans ?_);rw[cR];rfl
theorem Vp (k:Nat){l:List (List Nat)}{ds:List D}(h:iw l ds)(hl:ds.length<=1000):(Rn (k+16)).callF "_law_read" [.str ⟨l.flatten.toArray⟩] []=some (.list ds):=by
 refine yE (λo e=>?_) (xY k ⟨l.flatten.toArray⟩ [] none h (by simpa using hl));rw[List.nil_append]at e;refine gj (k:=k+15) (f:=pX) (σ₀:=⟨("text",.str ⟨l.flatten.toArray⟩)::rG,rN⟩) (sg:=RS ⟨l.flatten.toArray⟩ ds ⟨#[]⟩ o) (ow:=[]) rfl ⋯ ⋯ ⋯ ?_;rw[cu (k+14),bodyR,aJ (σ':=RS ⟨l.flatten.toArray⟩ [] ⟨#[]⟩ none) (own':=tk) ⋯];have a:gH (Rn (k+14)) (without tk (RS ⟨l.flatten.toArray⟩ [] ⟨#[]⟩ none)) (uf (sR 1))=some (l.flatten.map sg):=by have:gH (Rn (k+14)) (without tk (RS ⟨l.flatten.toArray⟩ [] ⟨#[]⟩ none)) (uf (sR 1))=some ((⟨l.flatten.toArray⟩:Str).cps.toList.map λc=>.str ⟨#[c]⟩):=⋯;rw[this]
 rw[aJ (st:=sR 1) (σ':=RS ⟨l.flatten.toArray⟩ ds ⟨#[]⟩ o) (own':=tk) (by rw[qb ⋯ a ⋯];exact e)]
 induction o using aK<;>rfl'
noncomputable def subV (x:Expr):Expr:=Cv default x λv Z Z=>v
noncomputable def Z7 (x:Expr):Expr:=Cv default x λZ i Z=>i
noncomputable def Yy (x:Expr):Bool:=Cv false x λZ i Z=>!isSlice i
noncomputable def jy (x:Expr):Str:=jj default x λf Z Z Z=>rm default f λx Z=>x
noncomputable def cY (x:Expr):List Expr:=jj [] x λZ as Z Z=>as
noncomputable def isBi (x:Expr):Bool:=jj false x λf Z ks Z=>l0 false ks<|rm false f λx Z=>vh.contains x&& !(x==Str.ofString "isinstance")
noncomputable def YC (x:Expr):Bool:=jj false x λf Z ks Z=>l0 false ks<|rm false f λx Z=>!vh.contains x&&gN x&& !(x==Str.ofString "isinstance")
noncomputable def isList (x:Expr):Bool:=eLi false x λes Z=>Nat.ble es.length 100
noncomputable def Hx (x:Expr):Expr:=eIf default x λt Z Z Z=>t
noncomputable def yH (x:Expr):Expr:=eIf default x λZ b Z Z=>b
noncomputable def yG (x:Expr):Expr:=eIf default x λZ Z o Z=>o
noncomputable def YB (x:Expr):Bool:=eIf false x λZ Z Z Z=>true
noncomputable def Yo (x:Expr):Expr:=jj default x λf Z Z Z=>Xb default f λo Z Z=>o
noncomputable def PX (x:Expr):Str:=jj default x λf Z Z Z=>Xb default f λZ m Z=>m
noncomputable def Ji (x:Expr):List Expr:=jj [] x λZ as Z Z=>as
noncomputable def QS (x:Expr):Bool:=jj false x λf as ks p=>l0 false ks<|Xb false f λo Z a=>dJ o a p as.length
section
variable {k:Nat}{σ:Sg}{e:Expr}
theorem gf {a b:D}(h:Yy e=true)(c:(Rn k).ev σ (subV e)=some a)(hb:(Rn k).ev σ (Z7 e)=some b):(Rn (k+1)).ev σ e=mD a b:=by
 revert c hb;refine H7 nb h λv i p h c hb=>?_
 ·have c:(Rn k).ev σ v=some a:=c
  have hb:(Rn k).ev σ i=some b:=hb;have f:isSlice i=false:=by simpa using h
  show cond (isSlice i) _ (oS none ((Rn k).ev σ v) λd=>oS none ((Rn k).ev σ i) λj=>mD d j)=_;rw[f,c,hb];rfl
theorem j6 {ds:List D}(h:isBi e=true)(a:σ.lookup (jy e)=some .glob)(b:eX (Rn k) σ (cY e)=some ds):(Rn (k+1)).ev σ e=biD (jy e) ds:=by
 revert a b;refine jY nb h λf g l p h=>lV nb h λh=>jw nb h λx j h a b=>?_
 ·refine yA (λi c=>?_) (az.mp h)
  have a:σ.lookup x=some .glob:=a;have b:eX (Rn k) σ g=some ds:=b;have c:x≠Str.ofString "isinstance":=by simpa using c
  show(oS none (σ.lookup x) λd=>cond (Nat.beq d.ctorIdx 12) (HY (Rn k) σ x g []) (Y9 none d (Fo (Rn k) σ x g [])))=_;rw[a];refine(aq c).trans ?_;rw[b];exact ao i
theorem jR {ds:List D}(h:YC e=true)(a:σ.lookup (jy e)=some .glob)(b:eX (Rn k) σ (cY e)=some ds):(Rn (k+1)).ev σ e=(Rn k).callF (jy e) ds []:=by
 revert a b;refine jY nb h λf g o p h=>lV nb h λh=>jw nb h λx m h a b=>?_
 ·simp only[bJ,b8]at h
  revert h;refine yA λi c=>yA (λl j=>?_) i;have a:σ.lookup x=some .glob:=a;have b:eX (Rn k) σ g=some ds:=b;have c:x≠Str.ofString "isinstance":=by simpa using c
  show(oS none (σ.lookup x) λd=>cond (Nat.beq d.ctorIdx 12) (HY (Rn k) σ x g []) (Y9 none d (Fo (Rn k) σ x g [])))=_;rw[a];refine(aq c).trans ?_;rw[b];exact(aq (by rw[l];simp)).trans (ao j)
theorem pJ {ds:List D}(h:isList e=true)(a:eX (Rn k) σ (listE e)=some ds):(Rn (k+1)).ev σ e=some (.list ds):=by
 revert a;refine eLi_i nb h λb p h a=>?_
 ·have a:eX (Rn k) σ b=some ds:=a
  show(if b.length<=100 then(eX (Rn k) σ b).map D.list else none)=_;rw[ao (bL h),a];rfl
theorem n7 (h:YB e=true)(ht:(Rn k).tst σ (Hx e)=some true):(Rn (k+1)).ev σ e=(Rn k).ev σ (yH e):=by
 revert ht;refine YX nb h λt b o p Z ht=>?_
 ·have ht:(Rn k).tst σ t=some true:=ht
  show(oS none ((Rn k).tst σ t) λc=>cond c ((Rn k).ev σ b) ((Rn k).ev σ o))=_;rw[ht];rfl
theorem sU (h:YB e=true)(ht:(Rn k).tst σ (Hx e)=some false):(Rn (k+1)).ev σ e=(Rn k).ev σ (yG e):=by
 revert ht;refine YX nb h λt b o p Z ht=>?_
 ·have ht:(Rn k).tst σ t=some false:=ht
  show(oS none ((Rn k).tst σ t) λc=>cond c ((Rn k).ev σ b) ((Rn k).ev σ o))=_;rw[ht];rfl
theorem Fb {o:D}{ds:List D}(h:QS e=true)(hi:∀hs,o≠.inst hs)(a:(Rn k).ev σ (Yo e)=some o)(b:eX (Rn k) σ (Ji e)=some ds):(Rn (k+1)).ev σ e=Ef (PX e) o ds:=by
 revert a b;refine jY nb h λf c i p h=>lV nb h λh=>Ft nb h λd m g h a b=>?_
 ·have a:(Rn k).ev σ d=some o:=a
  have b:eX (Rn k) σ c=some ds:=b;show ib none (dJ d g p c.length) (oS none ((Rn k).ev σ d) (evMe (Rn k) σ m c []))=_;rw[h,a];show cond (Nat.beq o.ctorIdx 10) _ ((eX (Rn k) σ c).bind λds=>Ef m o ds)=_;rw[b]
  induction q:Nat.beq o.ctorIdx 10 using fu with
  |false=>rfl
  |true=>exact D.inst.elim (motive_1:=λo=>(∀hs,o≠.inst hs)->_) o (bN q) (λhs hi=>absurd rfl (hi hs)) hi
end
noncomputable def iM (x:Expr):Expr:=eLC default x λe Z Z Z=>e
noncomputable def yt (x:Expr):List Comprehension:=eLC [] x λZ gs Z Z=>gs
noncomputable def w6 (x:Expr):Scope:=eLC default x λZ Z sc Z=>sc
noncomputable def lcT (e:Expr):Expr:=((yt e)[0]?.map (·.target)).getD default
noncomputable def wK (e:Expr):Expr:=((yt e)[0]?.map (·.iter)).getD default
noncomputable def vD (e:Expr):List Expr:=((yt e)[0]?.map (·.ifs)).getD []
noncomputable def Ju (x:Expr):Bool:=eLC false x λZ gs Z Z=>l1 false gs λZ=>true
section
variable {k:Nat}{σ:Sg}{e:Expr}
theorem ph {β:Type}{r:Rec}{a:Sg->Option (List β)}{g:Comprehension}{σf:D->Sg}{c:D->Bool}{ys:D->List β}:∀{ds:List D},(∀d∈ds,gq g.target d σ=some (σf d)/\iB r (σf d) g.ifs=some (c d)/\(c d=true->a (σf d)=some (ys d)))->
 jB r a g σ ds=some ((ds.filter c).flatMap ys)
 |[],_=>rfl
 |d::ds,h=>by
  refine uA (λp o m=>?_) (h d (.head _));show(oS none (gq g.target d σ) λf=>oS none (iB r f g.ifs) λb=>oS none (if b then a f else some []) λi=>oS none (jB r a g σ ds) λys=>some (i++ys))=_;rw[p];show(oS none (iB r (σf d) g.ifs) λb=>oS none (if b then a (σf d)else some []) λi=>oS none (jB r a g σ ds) λys=>some (i++ys))=_;rw[o,ph (λd j=>h d (.tail _ j))];rw[List.filter_cons]
  induction l:c d using fu with
  |false=>rfl
  |true=>
   show(oS none (a (σf d)) λi=>some (i++(ds.filter c).flatMap ys))=_;rw[m l];rfl
theorem gn {ds:List D}{y:D->D}{σs:D->Sg}{c:D->Bool}(h:Ju e=true)(hs:qC (w6 e) (yt e) σ=true)(hi:gH (Rn k) σ (wK e)=some ds)
 (hd:∀d∈ds,gq (lcT e) d (under (w6 e) σ)=some (σs d)/\iB (Rn k) (σs d) (vD e)=some (c d)/\(c d=true->(Rn k).ev (σs d) (iM e)=some (y d)))(hl:ds.length<=1000000):
 (Rn (k+1)).ev σ e=some (.list ((ds.filter c).map y)):=by
 revert hs hi hd;refine YW nb h λb s f p h=>jo nb h λg Z hs hi hd=>?_
 ·have hs:qC f [g] σ=true:=hs
  have hi:gH (Rn k) σ g.iter=some ds:=hi;have hd:∀d∈ds,gq g.target d (under f σ)=some (σs d)/\iB (Rn k) (σs d) g.ifs=some (c d)/\(c d=true->(Rn k).ev (σs d) b=some (y d)):=hd;have key:iz (Rn k) (λσ=>(Rn k).ev σ b) [g] f σ=some ((ds.filter c).map y):=by
   show(if qC f [g] σ then(oS none (gH (Rn k) σ g.iter) λds=>jB (Rn k) (wQ (Rn k) (λσ=>(Rn k).ev σ b) []) g (under f σ) ds)else none)=_;rw[ao hs,hi];show jB _ _ _ _ _=_
   rewrite [ph (σf:=σs) (c:=c) (ys:=λd=>[y d]) λd i=>?_]
   ·congr 1
    induction ds.filter c with
    |nil=>rfl
    |cons a r j=>rw[fD,j];rfl
   ·refine uA (λq o m=>?_) (hd d i)
    refine⟨q,o,λl=>?_⟩;show((Rn k).ev (σs d) b).map (λx=>[x])=_;rw[m l];rfl
  show oS none (iz (Rn k) (λσ=>(Rn k).ev σ b) [g] f σ) (λys=>if small ys.length then some (D.list ys)else none)=_;rw[key];exact(ao (dZ (by rw[ak];exact aA (cg _ _) hl)))
theorem gA {ds:List D}{d:D}(hz:xf e σ=false)(a:(Rn k).ev σ e=some d)(hi:pR d=some ds):gH (Rn k) σ e=some ds:=by
 have:gH (Rn k) σ e=((Rn k).ev σ e).bind pR:=by unfold gH;rw[hz];rfl
 rw[this,a];exact hi
end
noncomputable def zV (a:Nat):List Nat:=match a with
 |0=>[115,116]
 |1=>[102,105]
 |2=>[102,102,105]
 |_=>[102,102]
noncomputable def wS (a:Nat):Str:=⟨(zV a).toArray⟩
noncomputable def sP (i:Nat):Stmt:=j4.body[i]?.getD (.Pass default)
theorem bodyP:j4.body=[sP 0,sP 1,sP 2,sP 3,sP 4,sP 5,sP 6,sP 7]:=⋯
noncomputable def pG:List (Str×D):=ig j4.fd.scope
noncomputable def pN:List (Str×NameKind):=j4.fd.scope.names
noncomputable def uN:D:=.list (pP.map .int)
noncomputable def Et:D:=.idict [119969,119972,120076] [.int 8497,.int 8464,.int 8465]
noncomputable def P0s (n:Int):Sg:=⟨("number",.int n)::pG,pN⟩
noncomputable def P2s (n:Int):Sg:=⟨("gaps",Et)::("nothings",uN)::("number",.int n)::pG,pN⟩
noncomputable def P3s (n:Int)(w:Str):Sg:=⟨("word",.str w)::("gaps",Et)::("nothings",uN)::("number",.int n)::pG,pN⟩
noncomputable def vy (n:Int)(w:Str)(b t:Int):Sg:=⟨("turn",.int t)::("form",.int b)::("word",.str w)::("gaps",Et)::("nothings",uN)::("number",.int n)::pG,pN⟩
noncomputable abbrev tP:List Str:=j4.turned
section
variable (k:Nat)(n:Int)
theorem spell2:fO (Rn (k+12)) tP (P0s n) [] [sP 0,sP 1,sP 2,sP 3,sP 4,sP 5,sP 6,sP 7]=fO (Rn (k+12)) tP (P2s n) [] [sP 2,sP 3,sP 4,sP 5,sP 6,sP 7]:=by rw[aJ (σ':=⟨("nothings",uN)::("number",.int n)::pG,pN⟩) (own':=[]) ⋯,aJ (σ':=P2s n) (own':=[]) ⋯]
noncomputable def ZQ:D:=.list [.str (wS 0),.str (wS 1),.str (wS 2),.str (wS 3)]
theorem spell3 {a:Nat}(c:n % 4=(a:Int))(d:a<4):ni (Rn (k+12)) tP (P2s n) [] (sP 2)=some ⟨P3s n (wS a),[],.next⟩:=by
 have e:(Rn (k+12)).ev (P2s n) (dh (sP 2))=some (.str (wS a)):=by rw[gf (k:=k+11) (a:=ZQ) (b:=.int (n % 4)) ⋯ ⋯ ⋯,c];have:a=0\/a=1\/a=2\/a=3:=in4 (by first|assumption|lia);refine nY this ?_ ?_ ?_ ?_<;>rfl'
 rw[dg ⋯ ⋯ (du e)]
 rfl'
theorem spell5 (w:Str)(rest:List Stmt):fO (Rn (k+12)) tP (P3s n w) [] (sP 3::sP 4::rest)=fO (Rn (k+12)) tP (vy n w (n / 4 % 4) (n / 16)) [] rest:=by rw[aJ (σ':=⟨("form",.int (n / 4 % 4))::("word",.str w)::("gaps",Et)::("nothings",uN)::("number",.int n)::pG,pN⟩) (own':=[]) ⋯,aJ (σ':=vy n w (n / 4 % 4) (n / 16)) (own':=[]) ⋯]
noncomputable def sP5:Stmt:=(q7 (sP 5))[0]?.getD (.Pass default)
theorem bodyP5:q7 (sP 5)=[sP5]:=⋯
noncomputable def eC:Expr:=(listE (m6 sP5))[1]?.getD default
noncomputable def ligs (y:Int):D:=.list [.int (64261+y),.int 64257,.int 64259,.int 64256]
noncomputable def Yt (a y:Nat):Nat:=match a with
 |0=>64261+y
 |1=>64257
 |2=>64259
 |_=>64256
theorem Kq {a y:Nat}(t:Int)(f:n % 4=(a:Int))(j:a<4)(e:t % 2=(y:Int))(h2:y<2):
 fO (Rn (k+12)) tP (vy n (wS a) 1 t) [] [sP 5,sP 6,sP 7]=some ⟨vy n (wS a) 1 t,[],.ret (.list [.str (wS a),.str ⟨#[Yt a y,32]⟩])⟩:=by
 refine fL ?_;rw[f9 ⋯ ⋯,bodyP5,cu (k+11)];refine fL (gm ⋯ (du ?_));have d:a=0\/a=1\/a=2\/a=3:=in4 (by first|assumption|lia);have c:y=0\/y=1:=in2 (by first|assumption|lia);have g:(Rn (k+8)).ev (vy n (wS a) 1 t) ((cY (jJ eC))[0]?.getD default)=some (.int (Yt a y)):=by rw[gf (k:=k+7) (a:=ligs (t % 2)) (b:=.int (n % 4)) ⋯ ⋯ ⋯,f,e];refine nY d ?_ ?_ ?_ ?_<;>refine wH c ?_ ?_<;>rfl'
 have h:(Rn (k+9)).ev (vy n (wS a) 1 t) (jJ eC)=some (.str ⟨#[Yt a y]⟩):=by
  rw[j6 (k:=k+8) (ds:=[.int (Yt a y)]) ⋯ ⋯ (by rw[show cY (jJ eC)=[(cY (jJ eC))[0]?.getD default] by rfl'];exact bO g rfl)]
  refine nY d ?_ ?_ ?_ ?_<;>refine wH c ?_ ?_<;>rfl'
 have i:(Rn (k+10)).ev (vy n (wS a) 1 t) eC=some (.str ⟨#[Yt a y,32]⟩):=by rw[fQ (k:=k+9) ⋯ h (b:=.str ⟨#[32]⟩) ⋯];refine nY d ?_ ?_ ?_ ?_<;>refine wH c ?_ ?_<;>rfl'
 rw[pJ (k:=k+10) (ds:=[.str (wS a),.str ⟨#[Yt a y,32]⟩]) ⋯ (by rw[show listE (m6 sP5)=[(listE (m6 sP5))[0]?.getD default,eC] by rfl'];exact bO ⋯ (bO i rfl))]
end
noncomputable def sP6a:Stmt:=(q7 (sP 6))[0]?.getD (.Pass default)
noncomputable def sP6b:Stmt:=(q7 (sP 6))[1]?.getD (.Pass default)
theorem bodyP6:q7 (sP 6)=[sP6a,sP6b]:=⋯
noncomputable def eA:Expr:=dh sP6a
noncomputable def m1:Expr:=mR (jJ (jJ (iM eA)))
section
variable (k:Nat)(n t:Int)(w:Str)
noncomputable def σL (l:Nat):Sg:=(gq (lcT eA) (sg l) (under (w6 eA) (vy n w 2 t))).getD ⟨[],[]⟩
theorem elt_ok (l q:Nat)(e:t % 13=(q:Int))(d:q<13):(Rn (k+10)).ev (σL n t w l) (iM eA)=some (.int (119808+52 * (q:Int)+(l:Int) - 97)):=by
 have c:(Rn (k+6)).ev (σL n t w l) (mR m1)=some (.int (t % 13)):=⋯;rw[e]at c;have h:(Rn (k+7)).ev (σL n t w l) m1=some (.int (52 * (q:Int))):=by rw[fQ (k:=k+6) (a:=.int 52) ⋯ ⋯ c];show(if (52:Int).natAbs<2 ^ 50/\((q:Int)).natAbs<2 ^ 50 then some (D.int (52 * (q:Int)))else none)=_;rw[ao ⟨by decide,by exact d9 ‹_› (by decide)⟩]
 have g:(Rn (k+8)).ev (σL n t w l) (jJ (jJ (iM eA)))=some (.int (119808+52 * (q:Int))):=fQ (k:=k+7) (a:=.int 119808) ⋯ ⋯ h;have f:(Rn (k+9)).ev (σL n t w l) (jJ (iM eA))=some (.int (119808+52 * (q:Int)+l)):=fQ (k:=k+8) (b:=.int l) ⋯ g ⋯;exact fQ (k:=k+9) (b:=.int 97) ⋯ f ⋯
noncomputable def yJ (q:Nat)(d:D):D:=match d with
 |.str x=>.int (119808+52 * (q:Int)+((x.cps[0]?.getD 0:Nat):Int) - 97)
 |_=>.none
noncomputable def σA (d:D):Sg:=match d with
 |.str x=>σL n t w (x.cps[0]?.getD 0)
 |_=>⟨[],[]⟩
theorem Sw {a q:Nat}(f:t % 13=(q:Int))(b:q<13):(Rn (k+11)).ev (vy n (wS a) 2 t) eA=some (.list (((zV a).map sg).map (yJ q))):=by
 have g:gH (Rn (k+10)) (vy n (wS a) 2 t) (wK eA)=some ((zV a).map sg):=by refine gA (d:=.str (wS a)) ⋯ ⋯ ?_;show some ((wS a).cps.toList.map λc=>D.str ⟨#[c]⟩)=_;simp[wS]
 rewrite [gn (k:=k+10) (σs:=σA n t (wS a)) (c:=λZ=>true) (y:=yJ q) ⋯ ⋯ g (λd h=>?_) (by rw[ak];unfold zV;split<;>decide)]
 ·rw[List.filter_eq_self.mpr (λZ Z=>rfl)]
 ·refine cW (λl Z e=>?_) (aG.mp h);subst e
  exact⟨⋯,⋯,λZ=>elt_ok k n t (wS a) l q f b⟩
noncomputable def P6s (n:Int)(w:Str)(t:Int)(a:D):Sg:=⟨("codes",a)::("turn",.int t)::("form",.int 2)::("word",.str w)::("gaps",Et)::("nothings",uN)::("number",.int n)::pG,pN⟩
noncomputable def MN (a q:Nat):List Nat:=(zV a).map λl=>YL (119808+52 * q+l - 97)
noncomputable abbrev T7 (k:Nat)(n t:Int)(a q:Nat):Prop:=(Rn (k+11)).ev (P6s n (wS a) t (.list (((zV a).map sg).map (yJ q)))) (m6 sP6b)=some (.list [.str (wS a),.str ⟨(MN a q++[32]).toArray⟩])
theorem T6 {a q:Nat}(c:a<4)(b:q<13):(Rn (k+11)).ev (P6s n (wS a) t (.list (((zV a).map sg).map (yJ q)))) (m6 sP6b)=some (.list [.str (wS a),.str ⟨(MN a q++[32]).toArray⟩]):=by
 have z:∀a,XQ (T7 k n t a) 13->∀q,q<13->T7 k n t a q:=λa h q=>vp h;refine vp (P:=λa=>∀q,q<13->T7 k n t a q) (n:=4) (rD (rD (rD (rD trivial (z 0 ?_)) (z 1 ?_)) (z 2 ?_)) (z 3 ?_)) c q b
 all_goals repeat (first|exact trivial|refine rD ?_ ⋯)
theorem Kp {a q:Nat}(d:a<4)(c:t % 13=(q:Int))(b:q<13):
 ∃σ',fO (Rn (k+12)) tP (vy n (wS a) 2 t) [] [sP 5,sP 6,sP 7]=some ⟨σ',[],.ret (.list [.str (wS a),.str ⟨(MN a q++[32]).toArray⟩])⟩:=by
 refine⟨P6s n (wS a) t (.list (((zV a).map sg).map (yJ q))),?_⟩;rw[aJ (st:=sP 5) (σ':=vy n (wS a) 2 t) (own':=[]) ⋯];refine fL ?_;rw[f9 ⋯ ⋯,bodyP6,cu (k+11)];rw[aJ (st:=sP6a) (σ':=P6s n (wS a) t (.list (((zV a).map sg).map (yJ q)))) (own':=[]) (by
  rw[dg ⋯ ⋯ (du (Sw k n t c b))]
  rfl')]
 exact fL (gm ⋯ (du (T6 k n t d b)))
end
noncomputable def eD:Expr:=(listE (m6 (sP 7)))[1]?.getD default
noncomputable def eI:Expr:=jJ eD
noncomputable def eB1:Expr:=jJ (yH eI)
noncomputable def Ec (q:Nat):Nat:=(pP[q]?.getD 0).toNat
noncomputable def Ut (a v:Nat):List Nat:=match a with
 |0=>[83,v,116]
 |1=>[70,v,105]
 |2=>[70,v,102,105]
 |_=>[70,v,102]
section
variable (k:Nat)(n t:Int)
theorem Aa {b:Int}(w:Str)(a:b=0\/b=3):fO (Rn (k+12)) tP (vy n w b t) [] [sP 5,sP 6,sP 7]=fO (Rn (k+12)) tP (vy n w b t) [] [sP 7]:=by
 refine wH a ?_ ?_
 ·rw[aJ (st:=sP 5) (σ':=vy n w 0 t) (own':=[]) ⋯,aJ (st:=sP 6) (σ':=vy n w 0 t) (own':=[]) ⋯]
 ·rw[aJ (st:=sP 5) (σ':=vy n w 3 t) (own':=[]) ⋯,aJ (st:=sP 6) (σ':=vy n w 3 t) (own':=[]) ⋯]
theorem GR {a:Nat}(c:a<4):fO (Rn (k+12)) tP (vy n (wS a) 0 t) [] [sP 5,sP 6,sP 7]=some ⟨vy n (wS a) 0 t,[],.ret (.list [.str (wS a),.str ⟨(zV a++[32]).toArray⟩])⟩:=by rw[Aa k n t (wS a) (.inl rfl)];have b:a=0\/a=1\/a=2\/a=3:=in4 (by first|assumption|lia);refine nY b ?_ ?_ ?_ ?_<;>rfl'
theorem Vx {q:Nat}(h:q<27):mD uN (.int (q:Int))=some (.int (Ec q:Nat))/\Ec q<=1114111:=
 ⟨vp (P:=λq=>mD uN (.int (q:Int))=some (.int (Ec q:Nat))) (n:=27) (by repeat (first|exact trivial|refine rD ?_ ⋯)) h,bL (vp (P:=λq=>Nat.ble (Ec q) 1114111=true) (n:=27) (by repeat (first|exact trivial|refine rD ?_ ⋯)) h)⟩
theorem Du {a q:Nat}(p:a<4)(i:t % 27=(q:Int))(f:q<27):
 fO (Rn (k+12)) tP (vy n (wS a) 3 t) [] [sP 5,sP 6,sP 7]=some ⟨vy n (wS a) 3 t,[],.ret (.list [.str (wS a),.str ⟨(Ut a (Ec q)++[32]).toArray⟩])⟩:=by
 rw[Aa k n t (wS a) (.inr rfl)];refine fL (gm ⋯ (du ?_));have g:a=0\/a=1\/a=2\/a=3:=in4 (by first|assumption|lia);refine yA (λh e=>?_) (Vx f);generalize Ec q=v at h e⊢;have j:(Rn (k+6)).ev (vy n (wS a) 3 t) ((cY (mR eB1))[0]?.getD default)=some (.int (v:Nat)):=by rw[gf (k:=k+5) (a:=uN) (b:=.int (t % 27)) ⋯ ⋯ ⋯,i,h]
 have c:(Rn (k+7)).ev (vy n (wS a) 3 t) (mR eB1)=some (.str ⟨#[v]⟩):=by
  rw[j6 (k:=k+6) (ds:=[.int (v:Nat)]) ⋯ ⋯ (by rw[show cY (mR eB1)=[(cY (mR eB1))[0]?.getD default] by rfl'];exact bO j rfl)]
  show(if 0<=(v:Int)/\(v:Int)<=1114111 then some (D.str ⟨#[(v:Int).toNat]⟩)else none)=_;rw[ao ⟨by exact Int.natCast_nonneg _,by exact Int.ofNat_le.mpr ‹_›⟩,Int.toNat_natCast]
 have d:(Rn (k+8)).ev (vy n (wS a) 3 t) eB1=some (.str ⟨((Ut a v).take 2).toArray⟩):=by
  rcases g with rfl|rfl|rfl|rfl
  ·rw[fQ (k:=k+7) ⋯ (a:=.str ⟨#[83]⟩) ⋯ c];rfl'
  ·rw[fQ (k:=k+7) ⋯ (a:=.str ⟨#[70]⟩) ⋯ c];rfl'
  ·rw[fQ (k:=k+7) ⋯ (a:=.str ⟨#[70]⟩) ⋯ c];rfl'
  ·rw[fQ (k:=k+7) ⋯ (a:=.str ⟨#[70]⟩) ⋯ c];rfl'
 have o:(Rn (k+9)).ev (vy n (wS a) 3 t) (yH eI)=some (.str ⟨(Ut a v).toArray⟩):=by
  rcases g with rfl|rfl|rfl|rfl
  ·rw[fQ (k:=k+8) ⋯ d (b:=.str ⟨#[116]⟩) ⋯];rfl'
  ·rw[fQ (k:=k+8) ⋯ d (b:=.str ⟨#[105]⟩) ⋯];rfl'
  ·rw[fQ (k:=k+8) ⋯ d (b:=.str ⟨#[102,105]⟩) ⋯];rfl'
  ·rw[fQ (k:=k+8) ⋯ d (b:=.str ⟨#[102]⟩) ⋯];rfl'
 have m:(Rn (k+10)).ev (vy n (wS a) 3 t) eI=some (.str ⟨(Ut a v).toArray⟩):=by rw[n7 (k:=k+9) ⋯ ⋯,o]
 have l:(Rn (k+11)).ev (vy n (wS a) 3 t) eD=some (.str ⟨(Ut a v++[32]).toArray⟩):=by rw[fQ (k:=k+10) ⋯ m (b:=.str ⟨#[32]⟩) ⋯];refine nY g ?_ ?_ ?_ ?_<;>rfl'
 rw[pJ (k:=k+11) (ds:=[.str (wS a),.str ⟨(Ut a v++[32]).toArray⟩]) ⋯ (by rw[show listE (m6 (sP 7))=[(listE (m6 (sP 7)))[0]?.getD default,eD] by rfl'];exact bO ⋯ (bO l rfl))]
noncomputable def oE (n:Int):List Nat:=
 let a:=(n % 4).toNat
 let t:=n / 16
 if n / 4 % 4=1 then[Yt a (t % 2).toNat]else if n / 4 % 4=2 then MN a (t % 13).toNat else if n / 4 % 4=3 then Ut a (Ec (t % 27).toNat)else zV a
theorem xU (k:Nat)(n:Int):(Rn (k+14)).callF "_law_spelled" [.int n] []=some (.list [.str (wS (n % 4).toNat),.str ⟨(oE n++[32]).toArray⟩]):=by
 have c:(n % 4).toNat<4:=by exact qT (by decide)
 have g:n % 4=(((n % 4).toNat:Nat):Int):=by exact zN (by decide)
 have go:∀{d:D}{b:Sg},fO (Rn (k+12)) tP (vy n (wS (n % 4).toNat) (n / 4 % 4) (n / 16)) [] [sP 5,sP 6,sP 7]=some ⟨b,[],.ret d⟩->(Rn (k+14)).callF "_law_spelled" [.int n] []=some d:=λ{d b} h=>by
  refine gj (k:=k+13) (f:=j4) (σ₀:=P0s n) (sg:=b) (ow:=[]) rfl ⋯ ⋯ ⋯ ?_
  ·rw[cu (k+12),bodyP,spell2 k n,aJ (spell3 k n g c),spell5 k n]
   exact h
 unfold oE;dsimp only;have a:n / 4 % 4=0\/n / 4 % 4=1\/n / 4 % 4=2\/n / 4 % 4=3:=by lia
 revert a;refine yO (λa=>?_) (λi=>aC i (λa=>?_) (λe=>aC e (λa=>?_) (λa=>?_)))
 ·rw[a]at go
  rw[a,aq (by decide),aq (by decide),aq (by decide)];exact go (GR k n _ c)
 ·rw[a]at go
  rw[a,ao rfl];exact go (Kq k n _ g c (y:=(n / 16 % 2).toNat) (by exact zN (by decide)) (by exact qT (by decide)))
 ·rw[a]at go
  rw[a,aq (by decide),ao rfl];refine yE (λb h=>?_) (Kp k n (n / 16) c (q:=(n / 16 % 13).toNat) (by exact zN (by decide)) (by exact qT (by decide)));exact go h
 ·rw[a]at go
  rw[a,aq (by decide),aq (by decide),ao rfl];exact go (Du k n _ c (q:=(n / 16 % 27).toNat) (by exact zN (by decide)) (by exact qT (by decide)))
end
theorem XR:((List.range 4).all λa=>(List.range 2).all λy=>decide (zA [Yt a y]=some (zV a)))=true:=by decide+kernel
theorem T9:((List.range 4).all λa=>(List.range 13).all λq=>decide (zA (MN a q)=some (zV a)))=true:=by decide+kernel
theorem acc_up:((List.range 4).all λa=>(List.range 27).all λq=>decide (zA (Ut a (Ec q))=some (zV a)))=true:=by decide+kernel
theorem acc_wd:((List.range 4).all λa=>decide (zA (zV a)=some (zV a)))=true:=by decide+kernel
theorem all2 {p:Nat->Nat->Bool}{A B:Nat}(h:((List.range A).all λa=>(List.range B).all λb=>p a b)=true){a b:Nat}(c:a<A)(hb:b<B):p a b=true:=
 aU.mp (aU.mp h a (bf.mpr c)) b (bf.mpr hb)
theorem Ka (n:Int):zA (oE n)=some (zV (n % 4).toNat):=by
 have a:(n % 4).toNat<4:=by exact qT (by decide)
 unfold oE;dsimp only;split
 ·exact bw (all2 XR a (b:=(n / 16 % 2).toNat) (by exact qT (by decide)))
 ·split
  ·exact bw (all2 T9 a (b:=(n / 16 % 13).toNat) (by exact qT (by decide)))
  ·split
   ·exact bw (all2 acc_up a (b:=(n / 16 % 27).toNat) (by exact qT (by decide)))
   ·exact bw (aU.mp acc_wd _ (bf.mpr a))
theorem CQ (a:Nat):(zV a).length<=3:=by unfold zV;split<;>decide
theorem Gz (n:Int):CT (oE n++[32]) (.str (wS (n % 4).toNat)):=.inl ⟨oE n,zV (n % 4).toNat,rfl,Ka n,aA (CQ _) (by decide),rfl⟩
theorem J9 (n:Int):(oE n++[32]).length<=10:=by
 unfold oE;dsimp only;rw[aW];split
 ·simp
 ·split
  ·have:=CQ (n % 4).toNat
   simp[MN];exact aA ‹_› (by decide)
  ·split
   ·unfold Ut;split<;>simp
   ·have:=CQ (n % 4).toNat
    simp;exact aA ‹_› (by decide)
noncomputable def sO (i:Nat):Stmt:=j8.body[i]?.getD (.Pass default)
theorem bodyO:j8.body=[sO 0,sO 1,sO 2,sO 3,sO 4,sO 5,sO 6]:=⋯
noncomputable def oG:List (Str×D):=ig j8.fd.scope
noncomputable def oN:List (Str×NameKind):=j8.fd.scope.names
noncomputable def O0 (n:Int):Sg:=⟨("number",.int n)::oG,oN⟩
noncomputable def O3 (n:Int)(a t s:Int):Sg:=⟨("spot",.int s)::("turn",.int t)::("kind",.int a)::("number",.int n)::oG,oN⟩
noncomputable def O4 (n:Int)(a t s b:Int):Sg:=⟨("c4",.int b)::("spot",.int s)::("turn",.int t)::("kind",.int a)::("number",.int n)::oG,oN⟩
noncomputable def O5 (n:Int)(a t s c b:Int):Sg:=⟨("c8",.int b)::("c4",.int c)::("spot",.int s)::("turn",.int t)::("kind",.int a)::("number",.int n)::oG,oN⟩
noncomputable def O6 (n:Int)(a t s d c b:Int):Sg:=⟨("c9",.int b)::("c8",.int c)::("c4",.int d)::("spot",.int s)::("turn",.int t)::("kind",.int a)::("number",.int n)::oG,oN⟩
noncomputable def M8 (s:Nat):Nat:=if s<32 then 64976+s else 65536 * (s / 2 - 16)+65534+s % 2
noncomputable def SX (u:Nat):Nat:=(pO[u]?.getD 0).toNat
noncomputable def Xl (u:Nat):Nat:=if u=96 then 917505 else 917536+u
section
variable (k:Nat)(n a t:Int)
noncomputable def eO3:Expr:=yG (dh (sO 3))
theorem op_c4 {s:Nat}(h:s<66):(Rn (k+12)).ev (O3 n a t s) (dh (sO 3))=some (.int (M8 s:Nat)):=by
 have c:(Rn (k+11)).tst (O3 n a t s) (Hx (dh (sO 3)))=some (decide ((s:Int)<32)):=⋯;unfold M8;by_cases q:s<32
 ·rw[ao q,n7 (k:=k+11) ⋯ (c.trans (bD some (bW (by exact Int.ofNat_lt.mpr ‹_›))))]
  have:(Rn (k+11)).ev (O3 n a t s) (yH (dh (sO 3)))=some (.int (64976+(s:Int))):=⋯;rw[this];simp
 ·rw[aq q,sU (k:=k+11) ⋯ (c.trans (bD some (bU (by lia))))]
  have g:(Rn (k+8)).ev (O3 n a t s) (mR (jJ (jJ eO3)))=some (.int ((s:Int) / 2 - 16)):=⋯;have f:(Rn (k+9)).ev (O3 n a t s) (jJ (jJ eO3))=some (.int (65536 * ((s:Int) / 2 - 16))):=by rw[fQ (k:=k+8) (a:=.int 65536) ⋯ ⋯ g];show(if (65536:Int).natAbs<2 ^ 50/\((s:Int) / 2 - 16).natAbs<2 ^ 50 then some (D.int (65536 * ((s:Int) / 2 - 16)))else none)=_;rw[ao ⟨by decide,by lia⟩]
  have e:(Rn (k+10)).ev (O3 n a t s) (jJ eO3)=some (.int (65536 * ((s:Int) / 2 - 16)+65534)):=(fQ (k:=k+9) (b:=.int 65534) ⋯ f ⋯).trans ⋯;have d:(Rn (k+11)).ev (O3 n a t s) eO3=some (.int (65536 * ((s:Int) / 2 - 16)+65534+(s:Int) % 2)):=(fQ (k:=k+10) (b:=.int ((s:Int) % 2)) ⋯ e ⋯).trans ⋯;refine d.trans ?_;congr 2
  lia
noncomputable def c8D:D:=.list (pO.map .int)
theorem Xm {u:Nat}(h:u<15):mD c8D (.int u)=some (.int (SX u:Nat)):=
 vp (P:=λu=>mD c8D (.int u)=some (.int (SX u:Nat))) (n:=15) (by repeat (first|exact trivial|refine rD ?_ ⋯)) h
theorem op_c8 {s d:Int}{u:Nat}(c:t % 15=(u:Int))(h:u<15):(Rn (k+12)).ev (O4 n a t s d) (dh (sO 4))=some (.int (SX u:Nat)):=by rw[gf (k:=k+11) (a:=c8D) (b:=.int (t % 15)) ⋯ ⋯ ⋯,c];exact Xm h
theorem op_c9 {s d c:Int}{u:Nat}(b:t % 97=(u:Int)):(Rn (k+12)).ev (O5 n a t s d c) (dh (sO 5))=some (.int (Xl u:Nat)):=by
 have e:(Rn (k+11)).tst (O5 n a t s d c) (Hx (dh (sO 5)))=some (t % 97==96):=⋯;unfold Xl;by_cases q:u=96
 ·rw[ao q,n7 (k:=k+11) ⋯ (e.trans (by rw[b,q];rfl))]
  rfl'
 ·have:((u:Int)==96)=false:=by simp;lia
  rw[aq q,sU (k:=k+11) ⋯ (e.trans (by rw[b,this]))];have:(Rn (k+11)).ev (O5 n a t s d c) (yG (dh (sO 5)))=some (.int (917536+t % 97)):=⋯;rw[this,b];simp
noncomputable def eOp:Expr:=(listE (m6 (sO 6)))[1]?.getD default
noncomputable def eIx:Expr:=(cY eOp)[0]?.getD default
noncomputable def DR (n:Int):Nat:=
 let t:=n / 5
 match (n % 5).toNat with
 |0=>M8 (t % 66).toNat
 |1=>65529+(t % 5).toNat
 |2=>12272+(t % 12).toNat
 |3=>SX (t % 15).toNat
 |_=>Xl (t % 97).toNat
theorem DP (q:DR n<=1114111):(Rn (k+14)).callF "_law_operator" [.int n] []=some (.list [.int (n % 5),.str ⟨#[DR n]⟩]):=by
 have h:(n / 5) % 66=(((n / 5 % 66).toNat:Nat):Int):=by exact zN (by decide)
 have i:(n / 5) % 15=(((n / 5 % 15).toNat:Nat):Int):=by exact zN (by decide)
 have g:(n / 5) % 97=(((n / 5 % 97).toNat:Nat):Int):=by exact zN (by decide)
 refine gj (k:=k+13) (f:=j8) (σ₀:=O0 n) (sg:=O6 n (n % 5) (n / 5) (n / 5 % 66) (M8 (n / 5 % 66).toNat:Nat) (SX (n / 5 % 15).toNat:Nat) (Xl (n / 5 % 97).toNat:Nat)) (ow:=[]) rfl ⋯ ⋯ ⋯ ?_;rw[cu (k+12),bodyO];rw[aJ (σ':=⟨("kind",.int (n % 5))::("number",.int n)::oG,oN⟩) (own':=[]) ⋯,aJ (σ':=⟨("turn",.int (n / 5))::("kind",.int (n % 5))::("number",.int n)::oG,oN⟩) (own':=[]) ⋯,
  aJ (σ':=O3 n (n % 5) (n / 5) (n / 5 % 66)) (own':=[]) ⋯]
 have m:(Rn (k+12)).ev (O3 n (n % 5) (n / 5) (n / 5 % 66)) (dh (sO 3))=some (.int (M8 (n / 5 % 66).toNat:Nat)):=by rw[h];exact op_c4 k n (n % 5) (n / 5) (by exact qT (by decide))
 rw[aJ (st:=sO 3) (σ':=O4 n (n % 5) (n / 5) (n / 5 % 66) (M8 (n / 5 % 66).toNat:Nat)) (own':=[]) (by
  rw[dg ⋯ ⋯ (du m)]
  rfl')]
 rw[aJ (st:=sO 4) (σ':=O5 n (n % 5) (n / 5) (n / 5 % 66) (M8 (n / 5 % 66).toNat:Nat) (SX (n / 5 % 15).toNat:Nat)) (own':=[]) (by
  rw[dg ⋯ ⋯ (du (op_c8 k n (n % 5) (n / 5) i (by exact qT (by decide))))]
  rfl')]
 rw[aJ (st:=sO 5) (σ':=O6 n (n % 5) (n / 5) (n / 5 % 66) (M8 (n / 5 % 66).toNat:Nat) (SX (n / 5 % 15).toNat:Nat) (Xl (n / 5 % 97).toNat:Nat)) (own':=[]) (by
  rw[dg ⋯ ⋯ (du (op_c9 k n (n % 5) (n / 5) g))]
  rfl')]
 refine fL (gm ⋯ (du ?_));generalize c:O6 n (n % 5) (n / 5) (n / 5 % 66) (M8 (n / 5 % 66).toNat:Nat) (SX (n / 5 % 15).toNat:Nat) (Xl (n / 5 % 97).toNat:Nat)=j;have o:(Rn (k+10)).ev j eIx=some (.int (DR n:Nat)):=by
  subst c;rw[gf (k:=k+9) (a:=.list [.int (M8 (n / 5 % 66).toNat:Nat),.int (65529+n / 5 % 5),.int (12272+n / 5 % 12),.int (SX (n / 5 % 15).toNat:Nat),.int (Xl (n / 5 % 97).toNat:Nat)]) (b:=.int (n % 5)) ⋯ ⋯ ⋯];have hk:n % 5=0\/n % 5=1\/n % 5=2\/n % 5=3\/n % 5=4:=by exact YJ
  unfold DR;dsimp only
  (revert hk;refine yO (λhk=>?_) (λl=>aC l (λhk=>?_) (λe=>aC e (λhk=>?_) (λd=>aC d (λhk=>?_) (λhk=>?_)))))<;>rw[hk]
  ·rfl
  ·show some (D.int (65529+n / 5 % 5))=some (D.int ((65529+(n / 5 % 5).toNat:Nat):Int))
   congr 2
   lia
  ·show some (D.int (12272+n / 5 % 12))=some (D.int ((12272+(n / 5 % 12).toNat:Nat):Int))
   congr 2
   lia
  ·rfl
  ·rfl
 have p:(Rn (k+11)).ev j eOp=some (.str ⟨#[DR n]⟩):=by
  rw[j6 (k:=k+10) (ds:=[.int (DR n:Nat)]) ⋯ (by subst c;rfl') (by rw[show cY eOp=[eIx] by rfl'];exact bO o rfl)]
  show(if 0<=((DR n:Nat):Int)/\((DR n:Nat):Int)<=1114111 then some (D.str ⟨#[((DR n:Nat):Int).toNat]⟩)else none)=_;rw[ao ⟨by exact Int.natCast_nonneg _,by exact Int.ofNat_le.mpr ‹_›⟩,Int.toNat_natCast]
 rw[pJ (k:=k+11) (ds:=[.int (n % 5),.str ⟨#[DR n]⟩]) ⋯ (by rw[show listE (m6 (sO 6))=[(listE (m6 (sO 6)))[0]?.getD default,eOp] by rfl'];exact bO (by subst c;rfl') (bO p rfl))]
end
theorem WK:((List.range 66).all λs=>decide (kJ (M8 s)=yd 2)&&decide (M8 s<=1114111))=true:=by decide+kernel
theorem WD:((List.range 5).all λs=>decide (kJ (65529+s)=yd 3))=true:=by decide+kernel
theorem Wz:((List.range 12).all λs=>decide (kJ (12272+s)=yd 4))=true:=by decide+kernel
theorem Wy:((List.range 15).all λs=>decide (kJ (SX s)=yd 5)&&decide (SX s<=1114111))=true:=by decide+kernel
theorem Wx:((List.range 97).all λs=>decide (kJ (Xl s)=yd 6)&&decide (Xl s<=1114111))=true:=by decide+kernel
theorem Jd (n:Int):kJ (DR n)=yd ((n % 5).toNat+2)/\DR n<=1114111:=by
 have hk:n % 5=0\/n % 5=1\/n % 5=2\/n % 5=3\/n % 5=4:=by exact YJ
 have c:∀{p q:Prop} [Decidable p] [Decidable q],(decide p&&decide q)=true->p/\q:=λh=>by refine yA (λa b=>?_) (az.mp h);exact⟨bw a,bw b⟩
 unfold DR;dsimp only
 (revert hk;refine yO (λhk=>?_) (λf=>aC f (λhk=>?_) (λe=>aC e (λhk=>?_) (λd=>aC d (λhk=>?_) (λhk=>?_)))))<;>rw[hk]
 ·exact c (aU.mp WK _ (bf.mpr (by exact qT (by decide))))
 ·exact⟨bw (aU.mp WD _ (bf.mpr (by exact qT (by decide)))),by show 65529+_<=_;lia⟩
 ·exact⟨bw (aU.mp Wz _ (bf.mpr (by exact qT (by decide)))),by show 12272+_<=_;lia⟩
 ·exact c (aU.mp Wy _ (bf.mpr (by exact qT (by decide))))
 ·exact c (aU.mp Wx _ (bf.mpr (by exact qT (by decide))))
theorem Vu (n:Int):CT [DR n] (.int (n % 5)):=by refine .inr ⟨DR n,(n % 5).toNat+2,rfl,by exact Nat.le_add_left _ _,by lia,(Jd n).1,?_⟩;congr 1;exact zN (by decide)
noncomputable def slL (x:Expr):Option Expr:=Cv none x λZ i Z=>eSl none i λl Z Z Z=>l
noncomputable def slU (x:Expr):Option Expr:=Cv none x λZ i Z=>eSl none i λZ u Z Z=>u
noncomputable def isSlc (x:Expr):Bool:=Cv false x λZ i Z=>eSl false i λZ Z t Z=>t.isNone
theorem mW {k:Nat}{σ:Sg}{e:Expr}{d:D}{a b:Option Int}(h:isSlc e=true)(c:(Rn k).ev σ (subV e)=some d)(hl:n8 (Rn k) σ (slL e)=some a)(f:n8 (Rn k) σ (slU e)=some b):(Rn (k+1)).ev σ e=lZ d a b:=by
 revert c hl f;refine H7 nb h λv i q h=>YT nb h λl u t p h c hl f=>?_
 ·induction t using aK with
  |some t=>nomatch h
  |none=>
  have c:(Rn k).ev σ v=some d:=c;have hl:n8 (Rn k) σ l=some a:=hl;have f:n8 (Rn k) σ u=some b:=f;show(oS none ((Rn k).ev σ v) λd=>oS none (n8 (Rn k) σ l) λa=>oS none (n8 (Rn k) σ u) λb=>lZ d a b)=_;rw[c,hl,f];rfl
theorem HX {k:Nat}{σ:Sg}{e:Expr}{i:Int}(h:(Rn k).ev σ e=some (.int i)):n8 (Rn k) σ (some e)=some (some i):=by show(oS none ((Rn k).ev σ e) λd=>dI none d λi=>some (some i))=_;rw[h];rfl
noncomputable def gr (i:Nat):Stmt:=ug.body[i]?.getD (.Pass default)
theorem Xx:ug.body=[gr 0,gr 1,gr 2,gr 3,gr 4,gr 5,gr 6,gr 7,gr 8,gr 9,gr 10,gr 11,gr 12,gr 13,gr 14,gr 15]:=⋯
noncomputable def lG:List (Str×D):=ig ug.fd.scope
noncomputable def lN:List (Str×NameKind):=ug.fd.scope.names
noncomputable abbrev tL:List Str:=ug.turned
noncomputable def Fw:List Int:=[165,1,2,1,7,3,6,7,4,59,6,15,7,5]
noncomputable def L0 (a:List Int):Sg:=⟨("script",.list (a.map .int))::lG,lN⟩
noncomputable def L1 (a gs:List Int):Sg:=⟨("given",.list (gs.map .int))::("script",.list (a.map .int))::lG,lN⟩
noncomputable def uY (a:List Int):List Int:=a.take 14++Fw.drop (min 14 a.length)
theorem Lz (a:List Int):(uY a).length=14:=by
 unfold uY;rw[aW,List.length_take,List.length_drop];show min 14 a.length+(14 - min 14 a.length)=14
 lia
noncomputable def eG:Expr:=dh (gr 0)
theorem U7 (a:List Int)(hl:a.length<=63):lZ (.list (a.map .int)) none (some 14)=some (.list ((a.take 14).map .int)):=by
 show(if (none:Option Int).all gC/\(some (14:Int)).all gC/\small (a.map D.int).length then some (D.list (jm (a.map D.int) none (some 14)))else none)=_;rw[ao ⟨rfl,by decide,dZ (by rw[ak];exact aA ‹_› (by decide))⟩];congr 2;show((a.map D.int).take (min 14 (a.map D.int).length)).drop 0=_;rw[List.drop_zero,ak,List.map_take];by_cases q:14<=a.length
 ·rw[Nat.min_eq_left q]
 ·rw[Nat.min_eq_right (by lia),dK (by simp),dK (by simp;lia)]
theorem Q9 (k:Nat)(c:List Int)(hl:c.length<=63):(Rn (k+12)).ev (L0 c) eG=some (.list ((uY c).map .int)):=by
 have g:(Rn (k+11)).ev (L0 c) (jJ eG)=lZ (.list (c.map .int)) none (some 14):=⋯;have f:(Rn (k+9)).ev (L0 c) ((cY ((slL (mR eG)).getD default))[0]?.getD default)=lZ (.list (c.map .int)) none (some 14):=⋯;rw[U7 c hl]at g f;have e:(c.take 14).length=min 14 c.length:=List.length_take;have j:(Rn (k+10)).ev (L0 c) ((slL (mR eG)).getD default)=some (.int ((min 14 c.length:Nat):Int)):=by
  rw[j6 (k:=k+9) (ds:=[.list ((c.take 14).map .int)]) ⋯ ⋯ (by rw[show cY ((slL (mR eG)).getD default)=[(cY ((slL (mR eG)).getD default))[0]?.getD default] by rfl'];exact bO f rfl)]
  show(if small ((c.take 14).map D.int).length=true then some (D.int ((c.take 14).map D.int).length)else none)=_;rw[ak,e,ao (dZ (by lia))]
 have i:(Rn (k+11)).ev (L0 c) (mR eG)=some (.list ((Fw.drop (min 14 c.length)).map .int)):=by
  rw[mW (k:=k+10) (d:=.list (Fw.map .int)) (a:=some ((min 14 c.length:Nat):Int)) (b:=none) ⋯ ⋯ (by rw[show slL (mR eG)=some ((slL (mR eG)).getD default) by rfl'];exact HX j) ⋯]
  have h:min 14 c.length<=14:=Nat.min_le_left _ _;generalize min 14 c.length=m at h;have:m=0\/m=1\/m=2\/m=3\/m=4\/m=5\/m=6\/m=7\/m=8\/m=9\/m=10\/m=11\/m=12\/m=13\/m=14:=by lia
  rcases this with rfl|rfl|rfl|rfl|rfl|rfl|rfl|rfl|rfl|rfl|rfl|rfl|rfl|rfl|rfl<;>rfl'
 rw[fQ (k:=k+11) ⋯ g i,show CK eG=.Add by rfl'];show(if small (((c.take 14).map D.int).length+((Fw.drop (min 14 c.length)).map D.int).length)=true then some (D.list ((c.take 14).map D.int++(Fw.drop (min 14 c.length)).map D.int))else none)=_;rw[ao (dZ (by
  rw[ak,ak,e,List.length_drop];show _+(14 - _)<=_
  lia)),<-bu]
 rfl
theorem law1 (k:Nat)(a:List Int)(hl:a.length<=63)(rest:List Stmt):fO (Rn (k+12)) tL (L0 a) [] (gr 0::rest)=fO (Rn (k+12)) tL (L1 a (uY a)) [] rest:=by
 refine aJ ?_;rw[dg ⋯ ⋯ (du (Q9 k a hl))]
 rfl'
noncomputable def rT (g:Int):D:=.list [.str (wS (g % 4).toNat),.str ⟨(oE g++[32]).toArray⟩]
noncomputable def wI (g:Int):D:=.list [.int (g % 5),.str ⟨#[DR g]⟩]
noncomputable def intOf (x:D):Int:=dI 0 x λi=>i
theorem jN {r:Rec}{σ:Sg}{e:Expr}{d:D}(h:r.ev σ e=some d):eX r σ [e]=some [d]:=bO h rfl
section
variable (k:Nat)(scr:List Int)(K L M N O P Q R S T U V X Y:Int)
noncomputable abbrev gs14:List Int:=[K,L,M,N,O,P,Q,R,S,T,U,V,X,Y]
noncomputable abbrev S1:Sg:=L1 scr (gs14 K L M N O P Q R S T U V X Y)
noncomputable def lA:Expr:=jJ (dh (gr 1))
noncomputable def lB:Expr:=mR (dh (gr 1))
noncomputable def CN:List D:=[rT O,rT P,rT Q,rT R,wI K,wI L,wI M]
noncomputable def fG (e:Expr)(σ:Sg)(d:D):Sg:=(gq (lcT e) d (under (w6 e) σ)).getD ⟨[],[]⟩
theorem asked1:(Rn (k+29)).ev (S1 scr K L M N O P Q R S T U V X Y) lA=some (.list [rT O,rT P,rT Q,rT R]):=by
 have one:∀g:Int,(Rn (k+28)).ev (fG lA (S1 scr K L M N O P Q R S T U V X Y) (.int g)) (iM lA)=some (rT g):=λg=>by rw[jR (k:=k+27) (ds:=[.int g]) ⋯ ⋯ ⋯];exact xU (k+13) g
 rewrite [gn (k:=k+28) (ds:=[.int O,.int P,.int Q,.int R]) (σs:=fG lA (S1 scr K L M N O P Q R S T U V X Y)) (c:=λZ=>true) (y:=λd=>rT (intOf d)) ⋯ ⋯
  (gA (d:=.list [.int O,.int P,.int Q,.int R]) ⋯ ⋯ rfl) (λd a=>?_) (by simp)]
 ·rfl
 ·have:∃g,d=.int g:=by
   simp only[au,bh,cA]at a;refine nY a ?_ ?_ ?_ ?_<;>exact⟨_,rfl⟩
  revert this;refine yE λg b=>?_;subst b;exact⟨⋯,⋯,λZ=>one g⟩
theorem asked2:(Rn (k+29)).ev (S1 scr K L M N O P Q R S T U V X Y) lB=some (.list [wI K,wI L,wI M]):=by
 have one:∀g:Int,(Rn (k+28)).ev (fG lB (S1 scr K L M N O P Q R S T U V X Y) (.int g)) (iM lB)=some (wI g):=λg=>by rw[jR (k:=k+27) (ds:=[.int g]) ⋯ ⋯ ⋯];exact DP (k+13) g (Jd g).2
 rewrite [gn (k:=k+28) (ds:=[.int K,.int L,.int M]) (σs:=fG lB (S1 scr K L M N O P Q R S T U V X Y)) (c:=λZ=>true) (y:=λd=>wI (intOf d)) ⋯ ⋯
  (gA (d:=.list [.int K,.int L,.int M]) ⋯ ⋯ rfl) (λd a=>?_) (by simp)]
 ·rfl
 ·have:∃g,d=.int g:=by
   simp only[au,bh,cA]at a;refine or3 a ?_ ?_ ?_<;>exact⟨_,rfl⟩
  revert this;refine yE λg b=>?_;subst b;exact⟨⋯,⋯,λZ=>one g⟩
noncomputable def S2 (as:List D):Sg:=⟨("asked",.list as)::(S1 scr K L M N O P Q R S T U V X Y).vars,lN⟩
theorem law2 (rest:List Stmt):fO (Rn (k+30)) tL (S1 scr K L M N O P Q R S T U V X Y) [] (gr 1::rest)=
 fO (Rn (k+30)) tL (S2 scr K L M N O P Q R S T U V X Y (CN K L M O P Q R)) [] rest:=by
 have e:(Rn (k+30)).ev (S1 scr K L M N O P Q R S T U V X Y) (dh (gr 1))=some (.list (CN K L M O P Q R)):=by
  rw[fQ (k:=k+29) ⋯ (asked1 k scr K L M N O P Q R S T U V X Y) (asked2 k scr K L M N O P Q R S T U V X Y)]
  rfl'
 refine aJ ?_;rw[dg ⋯ ⋯ (du e)]
 rfl'
noncomputable def lQ:Expr:=dh (gr 2)
noncomputable def s8 (r:Nat):List Nat:=match r with
 |0=>[0,1,4,2,5,3,6]
 |1=>[0,1,4,2,3,5,6]
 |_=>[0,1,2,3,4,5,6]
noncomputable def seatsD:D:=.list [.list ((s8 0).map λ(x:Nat)=>.int x),.list ((s8 1).map λ(x:Nat)=>.int x),.list ((s8 2).map λ(x:Nat)=>.int x)]
noncomputable def Bm (r:Nat)(as:List D):List D:=(s8 r).map λs=>as[s]?.getD .none
noncomputable def S3 (as qs:List D):Sg:=⟨("query",.list qs)::(S2 scr K L M N O P Q R S T U V X Y as).vars,lN⟩
theorem law3 {r:Nat}(i:N % 3=(r:Int))(h3:r<3){a0 a1 a2 a3 a4 a5 a6:D}(rest:List Stmt):fO (Rn (k+30)) tL (S2 scr K L M N O P Q R S T U V X Y [a0,a1,a2,a3,a4,a5,a6]) [] (gr 2::rest)=
 fO (Rn (k+30)) tL (S3 scr K L M N O P Q R S T U V X Y [a0,a1,a2,a3,a4,a5,a6] (Bm r [a0,a1,a2,a3,a4,a5,a6])) [] rest:=by
 have f:gH (Rn (k+29)) (S2 scr K L M N O P Q R S T U V X Y [a0,a1,a2,a3,a4,a5,a6]) (wK lQ)=some ((s8 r).map λ(x:Nat)=>.int x):=by refine gA (d:=.list ((s8 r).map λ(x:Nat)=>.int x)) ⋯ ?_ rfl;rw[gf (k:=k+28) (a:=seatsD) (b:=.int (N % 3)) ⋯ ⋯ ⋯,i];have:r=0\/r=1\/r=2:=Jv (by first|assumption|lia);refine or3 this ?_ ?_ ?_<;>rfl'
 have e:(Rn (k+30)).ev (S2 scr K L M N O P Q R S T U V X Y [a0,a1,a2,a3,a4,a5,a6]) lQ=some (.list (Bm r [a0,a1,a2,a3,a4,a5,a6])):=by
  rewrite [gn (k:=k+29) (σs:=fG lQ (S2 scr K L M N O P Q R S T U V X Y [a0,a1,a2,a3,a4,a5,a6])) (c:=λZ=>true) (y:=λd=>([a0,a1,a2,a3,a4,a5,a6]:List D)[(intOf d).toNat]?.getD .none) ⋯ ⋯ f (λd j=>?_) (by rw[ak];unfold s8;split<;>decide)]
  ·rw[List.filter_eq_self.mpr (λZ Z=>rfl)]
   unfold Bm;rw[aV];rfl
  ·refine cW (λs g h=>?_) (aG.mp j);subst h
   have l:s=0\/s=1\/s=2\/s=3\/s=4\/s=5\/s=6:=by unfold s8 at g;split at g<;>simp at g<;>lia
   refine⟨⋯,⋯,λZ=>?_⟩;refine or7 l ?_ ?_ ?_ ?_ ?_ ?_ ?_<;>rfl'
 refine aJ ?_;rw[dg (st:=gr 2) ⋯ ⋯ (du e)]
 rfl'
end
noncomputable def jL (g:Int):D×List Nat:=(.str (wS (g % 4).toNat),oE g++[32])
noncomputable def tC (g:Int):D×List Nat:=(.int (g % 5),[DR g])
noncomputable def pD (p:D×List Nat):D:=.list [p.1,.str ⟨p.2.toArray⟩]
noncomputable def tB (p:D×List Nat):D:=.str ⟨p.2.toArray⟩
theorem Ak:∀a:List (List Nat),Str.join ⟨#[]⟩ (a.map λl=>(⟨l.toArray⟩:Str))=⟨a.flatten.toArray⟩
 |[]=>rfl
 |[x]=>by show(⟨x.toArray⟩:Str)=_;simp
 |x::y::r=>by show(⟨x.toArray⟩:Str)++⟨#[]⟩++Str.join ⟨#[]⟩ ((y::r).map λl=>(⟨l.toArray⟩:Str))=_;rw[Ak (y::r)];show(⟨(x.toArray++#[])++(y::r).flatten.toArray⟩:Str)=_;simp
theorem Dr:∀b:List (D×List Nat),z8 (b.map tB)=some (b.map λp=>(⟨p.2.toArray⟩:Str))
 |[]=>rfl
 |a::r=>by show oS none (z8 (r.map tB)) _=_;rw[Dr r];rfl
theorem QF {a:List (D×List Nat)}(h:a.length<=1000)(h2:∀p∈a,p.2.length<=100):Qg ⟨#[]⟩ [.list (a.map tB)]=some (.str ⟨((a.map (·.2)).flatten).toArray⟩):=by
 show oS none (z8 (a.map tB)) (λc=>if c.length<=1000/\c.all (λt=>Nat.ble t.length 100)=true/\(⟨#[]⟩:Str).length<=2 then some (D.str (Str.join ⟨#[]⟩ c))else none)=_;rw[Dr];have b:(a.map λp=>(⟨p.2.toArray⟩:Str)).all (λt=>Nat.ble t.length 100)=true:=by rw[aU];intro t f;refine cW (λp g e=>?_) (aG.mp f);subst e;have:=h2 p g;show Nat.ble p.2.toArray.size 100=true;exact Nat.ble_eq_true_of_le (by simpa using this)
 have d:=Ak (a.map (·.2));rw[aV]at d;refine(ao ⟨by simpa using h,b,by decide⟩).trans ?_;exact bD (λx=>some (D.str x)) d
noncomputable def secE (x:D):D:=dL .none x λl=>l2 .none l λZ y=>y
noncomputable def fstE (x:D):D:=dL .none x λl=>l2 .none l λy Z=>y
theorem filter_true {α:Type}(l:List α):l.filter (λZ=>true)=l:=List.filter_eq_self.mpr λZ Z=>rfl
theorem Yj {k:Nat}{σ:Sg}{e arg lc:Expr}{a:List (D×List Nat)}(h:YC e=true)(j:σ.lookup (jy e)=some .glob)(l:jy e="_law_read")(b:cY e=[arg])(m:QS arg=true)(d:PX arg="join")
 (c:(Rn (k+28)).ev σ (Yo arg)=some (.str ⟨#[]⟩))(f:Ji arg=[lc])(g:(Rn (k+28)).ev σ lc=some (.list (a.map tB)))(hi:iw (a.map (·.2)) (a.map (·.1)))(i:a.length<=1000)(h2:∀p∈a,p.2.length<=100):
 (Rn (k+30)).ev σ e=some (.list (a.map (·.1))):=by
 have s:(Rn (k+29)).ev σ arg=some (.str ⟨((a.map (·.2)).flatten).toArray⟩):=by rw[Fb (k:=k+28) (o:=.str ⟨#[]⟩) (ds:=[.list (a.map tB)]) m (λt q=>by nomatch q) c (by rw[f];exact jN g),d];exact QF i h2
 rw[jR (k:=k+29) (ds:=[.str ⟨((a.map (·.2)).flatten).toArray⟩]) h j (by rw[b];exact jN s),l];exact Vp (k+13) hi (by simpa using i)
section
variable (k:Nat)(scr:List Int)(K L M N O P Q R S T U V X Y:Int)
noncomputable abbrev X3 (as qs:List D):Sg:=S3 scr K L M N O P Q R S T U V X Y as qs
noncomputable def S4 (as qs a:List D):Sg:=⟨("page",.list a)::(X3 scr K L M N O P Q R S T U V X Y as qs).vars,lN⟩
noncomputable def S5 (as qs a b:List D):Sg:=⟨("named",.list b)::(S4 scr K L M N O P Q R S T U V X Y as qs a).vars,lN⟩
noncomputable def S6 (as qs a b c:List D):Sg:=⟨("meaning",.list c)::(S5 scr K L M N O P Q R S T U V X Y as qs a b).vars,lN⟩
noncomputable def wG:List (D×List Nat):=[jL S,jL T,jL U,jL V,jL X,jL Y]
noncomputable def lP:Expr:=dh (gr 3)
theorem law4 {as qs:List D}(rest:List Stmt):fO (Rn (k+30)) tL (X3 scr K L M N O P Q R S T U V X Y as qs) [] (gr 3::rest)=
 fO (Rn (k+30)) tL (S4 scr K L M N O P Q R S T U V X Y as qs ((wG S T U V X Y).map pD)) [] rest:=by
 have one:∀g:Int,(Rn (k+29)).ev (fG lP (X3 scr K L M N O P Q R S T U V X Y as qs) (.int g)) (iM lP)=some (pD (jL g)):=λg=>by rw[jR (k:=k+28) (ds:=[.int g]) ⋯ ⋯ ⋯];exact xU (k+14) g
 have e:(Rn (k+30)).ev (X3 scr K L M N O P Q R S T U V X Y as qs) lP=some (.list ((wG S T U V X Y).map pD)):=by
  rewrite [gn (k:=k+29) (ds:=[.int S,.int T,.int U,.int V,.int X,.int Y]) (σs:=fG lP (X3 scr K L M N O P Q R S T U V X Y as qs)) (c:=λZ=>true) (y:=λd=>pD (jL (intOf d))) ⋯ ⋯
   (gA (d:=.list [.int S,.int T,.int U,.int V,.int X,.int Y]) ⋯ ⋯ rfl) (λd a=>?_) (by simp)]
  ·rfl
  ·have:∃g,d=.int g:=by
    simp only[au,bh,cA]at a;refine Bp a ?_ ?_ ?_ ?_ ?_ ?_<;>exact⟨_,rfl⟩
   revert this;refine yE λg b=>?_;subst b;exact⟨⋯,⋯,λZ=>one g⟩
 refine aJ ?_;rw[dg (st:=gr 3) ⋯ ⋯ (du e)]
 rfl'
noncomputable def eN:Expr:=dh (gr 4)
noncomputable def aN:Expr:=(cY eN)[0]?.getD default
noncomputable def cN:Expr:=(Ji aN)[0]?.getD default
theorem law5 {as qs:List D}{a:List (D×List Nat)}(hi:iw (a.map (·.2)) (a.map (·.1)))(h:a.length<=1000)(h2:∀p∈a,p.2.length<=100)(rest:List Stmt):fO (Rn (k+30)) tL (S4 scr K L M N O P Q R S T U V X Y as qs (a.map pD)) [] (gr 4::rest)=
 fO (Rn (k+30)) tL (S5 scr K L M N O P Q R S T U V X Y as qs (a.map pD) (a.map (·.1))) [] rest:=by
 have b:(Rn (k+28)).ev (S4 scr K L M N O P Q R S T U V X Y as qs (a.map pD)) cN=some (.list (a.map tB)):=by
  rewrite [gn (k:=k+27) (ds:=a.map pD) (σs:=fG cN (S4 scr K L M N O P Q R S T U V X Y as qs (a.map pD))) (c:=λZ=>true) (y:=secE) ⋯ ⋯
   (gA (d:=.list (a.map pD)) ⋯ ⋯ rfl) (λd g=>?_) (by rw[ak];exact aA ‹_› (by decide))]
  ·rw[filter_true,aV]
   rfl
  ·refine cW (λp Z f=>?_) (aG.mp g);subst f
   exact⟨⋯,⋯,λZ=>⋯⟩
 have e:=Yj (k:=k) (σ:=S4 scr K L M N O P Q R S T U V X Y as qs (a.map pD)) (e:=eN) (arg:=aN) (lc:=cN) ⋯ ⋯ ⋯ ⋯ ⋯ ⋯ ⋯ ⋯ b hi h h2;refine aJ ?_;rw[dg (st:=gr 4) ⋯ ⋯ (du e)]
 rfl'
noncomputable def eM:Expr:=dh (gr 5)
noncomputable def aM:Expr:=(cY eM)[0]?.getD default
noncomputable def cM:Expr:=(Ji aM)[0]?.getD default
theorem law6 {as b f:List D}{a:List (D×List Nat)}(hi:iw (a.map (·.2)) (a.map (·.1)))(j:a.length<=1000)(h2:∀p∈a,p.2.length<=100)(rest:List Stmt):fO (Rn (k+30)) tL (S5 scr K L M N O P Q R S T U V X Y as (a.map pD) b f) [] (gr 5::rest)=
 fO (Rn (k+30)) tL (S6 scr K L M N O P Q R S T U V X Y as (a.map pD) b f (a.map (·.1))) [] rest:=by
 have g:(Rn (k+28)).ev (S5 scr K L M N O P Q R S T U V X Y as (a.map pD) b f) cM=some (.list (a.map tB)):=by
  rewrite [gn (k:=k+27) (ds:=a.map pD) (σs:=fG cM (S5 scr K L M N O P Q R S T U V X Y as (a.map pD) b f)) (c:=λZ=>true) (y:=secE) ⋯ ⋯
   (gA (d:=.list (a.map pD)) ⋯ ⋯ rfl) (λd i=>?_) (by rw[ak];exact aA ‹_› (by decide))]
  ·rw[filter_true,aV]
   rfl
  ·refine cW (λp Z h=>?_) (aG.mp i);subst h
   exact⟨⋯,⋯,λZ=>⋯⟩
 have e:=Yj (k:=k) (σ:=S5 scr K L M N O P Q R S T U V X Y as (a.map pD) b f) (e:=eM) (arg:=aM) (lc:=cM) ⋯ ⋯ ⋯ ⋯ ⋯ ⋯ ⋯ ⋯ g hi j h2;refine aJ ?_;rw[dg (st:=gr 5) ⋯ ⋯ (du e)]
 rfl'
end
noncomputable def oU (x:Expr):Expr:=H8 default x λl Z Z Z=>l
noncomputable def pK (x:Expr):Expr:=H8 default x λZ Z a Z=>l1 default a λr=>r
noncomputable def s6 (x:Expr):CmpOp:=H8 .Eq x λZ os Z Z=>l1 .Eq os λo=>o
noncomputable def YD (x:Expr):Bool:=H8 false x λZ os a Z=>l1 false os λZ=>l1 false a λZ=>true
noncomputable def orL (x:Expr):List Expr:=eBo [] x λZ es Z=>es
noncomputable def isOr (x:Expr):Bool:=eBo false x λo Z Z=>o.ctorIdx==1
section
variable {k:Nat}{σ:Sg}{e:Expr}
theorem iy {a b:D}(h:YD e=true)(c:(Rn k).ev σ (oU e)=some a)(hb:(Rn k).ev σ (pK e)=some b):(Rn (k+1)).tst σ e=jh (s6 e) a b:=by
 revert c hb;refine R7 nb h λl os d p h=>jo nb h λo h=>jo nb h λr Z c hb=>?_
 ·have c:(Rn k).ev σ l=some a:=c
  have hb:(Rn k).ev σ r=some b:=hb;show(oS none ((Rn k).ev σ l) λa=>oS none ((Rn k).ev σ r) λb=>jh o a b)=_;rw[c,hb];rfl
theorem qd {a b:D}(h:YD e=true)(c:(Rn k).ev σ (oU e)=some a)(hb:(Rn k).ev σ (pK e)=some b):(Rn (k+1)).ev σ e=(jh (s6 e) a b).map D.bool:=by
 revert c hb;refine R7 nb h λl os d p h=>jo nb h λo h=>jo nb h λr Z c hb=>?_
 ·have c:(Rn k).ev σ l=some a:=c
  have hb:(Rn k).ev σ r=some b:=hb;show(oS none ((Rn k).ev σ l) λa=>oS none ((Rn k).ev σ r) λb=>(jh o a b).map D.bool)=_;rw[c,hb];rfl
theorem Nt (h:isOr e=true):(Rn (k+1)).tst σ e=rR (Rn k) σ (orL e):=by
 refine Y4 nb h λo a p h=>?_
 induction o using BoolOp.casesOn with
 |Or=>rfl
 |And=>nomatch h
theorem any_false {r:Rec}{es:List Expr}{x:Expr}(h:r.tst σ x=some false):rR r σ (x::es)=rR r σ es:=by show(oS none (r.tst σ x) λb=>cond b (some true) (rR r σ es))=_;rw[h];rfl
end
noncomputable def flat:D->Bool
 |.int _=>true
 |.str _=>true
 |.bool _=>true
 |_=>false
theorem nq {n:Nat}{d:D}(h:flat d=true):Cp (n+1) d d=some true:=by
 have c:∀{b:Type} [BEq b] [ReflBEq b] (a:b),some (a==a)=some true:=λa=>bD some (dF a)
 induction d using D.casesOn with
 |int i=>exact c i
 |str i=>exact c i
 |bool i=>exact c i
 |_=>nomatch h
theorem u9 {f:D->D->Option Bool}:∀{ds:List D},(∀d∈ds,f d d=some true)->H3 f ds ds=some true
 |[],_=>rfl
 |d::ds,h=>by show(oS none (f d d) λx=>oS none (H3 f ds ds) λy=>some (x&&y))=_;rw[h d (.head _),u9 λd a=>h d (.tail _ a)];rfl
theorem kW {n:Nat}{ds:List D}(h:∀d∈ds,Cp n d d=some true):Cp (n+1) (.list ds) (.list ds)=some true:=by show(if ds.length=ds.length then H3 (Cp n) ds ds else some false)=_;rw[ao rfl];exact u9 h
theorem ne_self {ds:List D}(h:∀d∈ds,flat d=true):jh .NotEq (.list ds) (.list ds)=some false:=by show(Cp 20 (.list ds) (.list ds)).map not=_;rw[kW λd a=>nq (h d a)];rfl
section
variable (k:Nat)(scr:List Int)(K L M N O P Q R S T U V X Y:Int)
noncomputable abbrev X6 (as qs a b c:List D):Sg:=S6 scr K L M N O P Q R S T U V X Y as qs a b c
noncomputable def Up (i:Nat):Expr:=(orL (yI (gr 6)))[i]?.getD default
theorem law7 {as:List D}{b qs:List (D×List Nat)}(q:∀p∈b,flat p.1=true)(o:∀p∈qs,flat p.1=true)(s:b.length<=1000)(h2:qs.length<=1000)(rest:List Stmt):
 fO (Rn (k+30)) tL (X6 scr K L M N O P Q R S T U V X Y as (qs.map pD) (b.map pD) (b.map (·.1)) (qs.map (·.1))) [] (gr 6::rest)=
 fO (Rn (k+30)) tL (X6 scr K L M N O P Q R S T U V X Y as (qs.map pD) (b.map pD) (b.map (·.1)) (qs.map (·.1))) [] rest:=by
 generalize e:X6 scr K L M N O P Q R S T U V X Y as (qs.map pD) (b.map pD) (b.map (·.1)) (qs.map (·.1))=i;have r1:(Rn (k+28)).ev i (pK (Up 0))=some (.list (b.map (·.1))):=by
  subst e
  rewrite [gn (k:=k+27) (ds:=b.map pD) (σs:=fG (pK (Up 0)) (X6 scr K L M N O P Q R S T U V X Y as (qs.map pD) (b.map pD) (b.map (·.1)) (qs.map (·.1)))) (c:=λZ=>true) (y:=fstE) ⋯ ⋯
   (gA (d:=.list (b.map pD)) ⋯ ⋯ rfl) (λd h=>?_) (by rw[ak];exact aA ‹_› (by decide))]
  ·rw[filter_true,aV]
   rfl
  ·refine cW (λp Z g=>?_) (aG.mp h);subst g
   exact⟨⋯,⋯,λZ=>⋯⟩
 have r2:(Rn (k+28)).ev i (pK (Up 1))=some (.list (qs.map (·.1))):=by
  subst e
  rewrite [gn (k:=k+27) (ds:=qs.map pD) (σs:=fG (pK (Up 1)) (X6 scr K L M N O P Q R S T U V X Y as (qs.map pD) (b.map pD) (b.map (·.1)) (qs.map (·.1)))) (c:=λZ=>true) (y:=fstE) ⋯ ⋯
   (gA (d:=.list (qs.map pD)) ⋯ ⋯ rfl) (λd h=>?_) (by rw[ak];exact aA ‹_› (by decide))]
  ·rw[filter_true,aV]
   rfl
  ·refine cW (λp Z g=>?_) (aG.mp h);subst g
   exact⟨⋯,⋯,λZ=>⋯⟩
 have m:(Rn (k+29)).tst i (Up 0)=some false:=by
  rw[iy (k:=k+28) (a:=.list (b.map (·.1))) ⋯ (by subst e;rfl') r1,show s6 (Up 0)=.NotEq by rfl'];exact ne_self λd h=>by refine cW (λp f g=>?_) (aG.mp h);subst g;exact q p f
 have l:(Rn (k+29)).tst i (Up 1)=some false:=by
  rw[iy (k:=k+28) (a:=.list (qs.map (·.1))) ⋯ (by subst e;rfl') r2,show s6 (Up 1)=.NotEq by rfl'];exact ne_self λd h=>by refine cW (λp f g=>?_) (aG.mp h);subst g;exact o p f
 have j:(Rn (k+30)).tst i (yI (gr 6))=some false:=by rw[Nt (k:=k+29) ⋯,show orL (yI (gr 6))=[Up 0,Up 1] by rfl',any_false m,any_false l];rfl
 refine aJ ?_;rw[fP ⋯ j]
 rfl'
end
noncomputable abbrev wD (a:Nat):D:=.str (wS a)
noncomputable def sL (i:Nat):Stmt:=pY.body[i]?.getD (.Pass default)
theorem bodyLd:pY.body=[sL 0,sL 1]:=⋯
noncomputable def dG:List (Str×D):=ig pY.fd.scope
noncomputable def dN:List (Str×NameKind):=pY.fd.scope.names
noncomputable abbrev tD:List Str:=pY.turned
noncomputable def LD0 (a:List D):Sg:=⟨("words",.list a)::dG,dN⟩
noncomputable def LD1 (a b:List D):Sg:=⟨("lasts",.list b)::("words",.list a)::dG,dN⟩
noncomputable def eLs:Expr:=dh (sL 0)
noncomputable def eMx:Expr:=iM eLs
noncomputable def eAd:Expr:=(cY eMx)[0]?.getD default
noncomputable def eIn:Expr:=mR eAd
noncomputable def nM (l:List Nat):List D:=l.map λ(x:Nat)=>.int x
theorem range_items (n:Nat)(h:n<=1000):pR (.rng 0 n)=some (nM (List.range n)):=by refine(vY 0 n).trans ?_;refine(ao ⟨by decide,bW ⟨by lia,by lia⟩⟩).trans ?_;rw[show((n:Int) - 0).toNat=n by rfl];congr 1;apply cj;intro i Z;simp
theorem fZ {r:Rec}{σ:Sg}{e:Expr}{b:Bool}(h:r.tst σ e=some b):iB r σ [e]=some b:=by
 show(oS none (r.tst σ e) λb=>cond b (some true) (some false))=_;rw[h]
 induction b using fu<;>rfl
section
variable (k:Nat)(S T U V X Y:Nat)
noncomputable abbrev vJ:List D:=[wD S,wD T,wD U,wD V,wD X,wD Y]
noncomputable abbrev ws6:List Nat:=[S,T,U,V,X,Y]
noncomputable def oY (x:Nat):Nat:=(ws6 S T U V X Y)[x]?.getD 0
noncomputable def like (a:Nat):List Nat:=(List.range a).filter λx=>wS (oY S T U V X Y x)==wS (oY S T U V X Y a)
noncomputable def qw (a:Nat):Int:=uQ (-1) ((like S T U V X Y a).map λ(x:Nat)=>(x:Int))
noncomputable def J6 (a:Nat):Sg:=fG eLs (LD0 (vJ S T U V X Y)) (.int a)
theorem QW {a:Nat}(h:a<6):(Rn (k+15)).ev (J6 S T U V X Y a) eIn=some (.list (nM (like S T U V X Y a))):=by
 have f:a=0\/a=1\/a=2\/a=3\/a=4\/a=5:=M6 (by first|assumption|lia);have b:gH (Rn (k+14)) (J6 S T U V X Y a) (wK eIn)=some (nM (List.range a)):=by refine gA (d:=.rng 0 a) ⋯ ?_ (range_items a (by lia));refine Bp f ?_ ?_ ?_ ?_ ?_ ?_<;>rfl'
 rewrite [gn (k:=k+14) (ds:=nM (List.range a)) (σs:=fG eIn (J6 S T U V X Y a)) (c:=λd=>wS (oY S T U V X Y (intOf d).toNat)==wS (oY S T U V X Y a)) (y:=id) ⋯ ⋯ b (λd j=>?_) (by simp[nM];lia)]
 ·rw[List.map_id]
  unfold nM like;rw[dY];rfl
 ·refine cW (λx e g=>?_) (aG.mp j);subst g
  have e:=bf.mp e;refine⟨⋯,?_,λZ=>⋯⟩;have l:x=0\/x=1\/x=2\/x=3\/x=4:=in5 (by first|assumption|lia);have i:(Rn (k+14)).tst (fG eIn (J6 S T U V X Y a) (.int x)) ((vD eIn)[0]?.getD default)=some (wS (oY S T U V X Y x)==wS (oY S T U V X Y a)):=by refine Bp f ?_ ?_ ?_ ?_ ?_ ?_<;>refine or5 l ?_ ?_ ?_ ?_ ?_<;>rfl'
  rw[show vD eIn=[(vD eIn)[0]?.getD default] by rfl'];refine(fZ i).trans ?_;show _=some (wS (oY S T U V X Y ((x:Int)).toNat)==wS (oY S T U V X Y a));rw[Int.toNat_natCast]
theorem We {a:Nat}(h:a<6):(Rn (k+17)).ev (J6 S T U V X Y a) eMx=some (.int (qw S T U V X Y a)):=by
 have b:(Rn (k+16)).ev (J6 S T U V X Y a) eAd=some (.list (.int (-1)::nM (like S T U V X Y a))):=by
  rw[fQ (k:=k+15) (a:=.list [.int (-1)]) ⋯ ⋯ (QW k S T U V X Y h),show CK eAd=.Add by rfl'];have hl:(like S T U V X Y a).length<=6:=aA (cg _ _) (by simp;exact cD ‹_›);show(if small ([D.int (-1)].length+(nM (like S T U V X Y a)).length)=true then some (D.list ([D.int (-1)]++nM (like S T U V X Y a)))else none)=_;rw[ao (dZ (by show 1+(List.map _ _).length<=_;rw[ak];lia))]
  rfl
 rw[j6 (k:=k+16) (ds:=[.list (.int (-1)::nM (like S T U V X Y a))]) ⋯ ⋯ (by rw[show cY eMx=[eAd] by rfl'];exact jN b),show jy eMx="max" by rfl']
 show oS none (mF (.int (-1)::nM (like S T U V X Y a))) _=_;have:(.int (-1)::nM (like S T U V X Y a):List D)=((-1)::(like S T U V X Y a).map λ(x:Nat)=>(x:Int)).map D.int:=by rw[aX,aV];rfl
 rw[this,yx];rfl
theorem Qw (rest:List Stmt):fO (Rn (k+18)) tD (LD0 (vJ S T U V X Y)) [] (sL 0::rest)=fO (Rn (k+18)) tD (LD1 (vJ S T U V X Y) ((List.range 6).map λa=>.int (qw S T U V X Y a))) [] rest:=by
 have e:(Rn (k+18)).ev (LD0 (vJ S T U V X Y)) eLs=some (.list ((List.range 6).map λa=>.int (qw S T U V X Y a))):=by
  rewrite [gn (k:=k+17) (ds:=nM (List.range 6)) (σs:=fG eLs (LD0 (vJ S T U V X Y))) (c:=λZ=>true) (y:=λd=>.int (qw S T U V X Y (intOf d).toNat)) ⋯ ⋯
   (gA (d:=.rng 0 (6:Nat)) ⋯ ⋯ (range_items 6 (by decide))) (λd g=>?_) (by simp[nM])]
  ·rw[filter_true]
   unfold nM;rw[aV]
  ·refine cW (λx f b=>?_) (aG.mp g);subst b
   exact⟨⋯,⋯,λZ=>We k S T U V X Y (bf.mp f)⟩
 refine aJ ?_;rw[dg (st:=sL 0) ⋯ ⋯ (du e)]
 rfl'
end
noncomputable def Uu (x:Expr):List Expr:=R3 [] x λes Z Z=>es
noncomputable def isTup (x:Expr):Bool:=R3 false x λes Z Z=>Nat.ble es.length 100
theorem WR {k:Nat}{σ:Sg}{e:Expr}{ds:List D}(h:isTup e=true)(a:eX (Rn k) σ (Uu e)=some ds):(Rn (k+1)).ev σ e=some (.tuple ds):=by revert a;refine yX nb h λb n p h a=>?_;have a:eX (Rn k) σ b=some ds:=a;show(if b.length<=100 then(eX (Rn k) σ b).map D.tuple else none)=_;rw[ao (bL h),a];rfl
theorem Bw:∀(l:List Int)(a:Int),a<=uQ a l
 |[],a=>Int.le_refl _
 |b::r,a=>by
  show a<=uQ (if b > a then b else a) r;split
  ·rename_i h
   exact Int.le_trans (Int.le_of_lt h) (Bw r b)
  ·exact Bw r a
theorem Bv:∀{l:List Int}{a m:Int},a<=m->(∀x∈l,x<=m)->uQ a l<=m
 |[],a,m,h,_=>h
 |b::r,a,m,h,hl=>by
  show uQ (if b > a then b else a) r<=m;split
  ·exact Bv (hl b (.head _)) λx c=>hl x (.tail _ c)
  ·exact Bv h λx c=>hl x (.tail _ c)
noncomputable def uZ (w r:Nat):List Nat:=match r,w with
 |0,w=>zV w
 |1,0=>[83,84]
 |1,1=>[70,73]
 |1,2=>[70,70,73]
 |1,_=>[70,70]
 |_,0=>[83,116]
 |_,1=>[70,105]
 |_,2=>[70,102,105]
 |_,_=>[70,102]
noncomputable def tM (w r:Nat):D:=.str ⟨(uZ w r).toArray⟩
noncomputable def Cw (n:Nat):D:=.str ⟨#[48+n]⟩
noncomputable def eRt:Expr:=m6 (sL 1)
noncomputable def eEl:Expr:=iM eRt
noncomputable def eF1:Expr:=(Uu eEl)[0]?.getD default
noncomputable def eF2:Expr:=(Uu eEl)[1]?.getD default
noncomputable def eSb:Expr:=(cY eF2)[0]?.getD default
section
variable (k:Nat)(S T U V X Y:Nat)
theorem wL (a:Nat): -1<=qw S T U V X Y a/\qw S T U V X Y a<=(a:Int) - 1:=by
 refine⟨Bw _ _,Bv (by lia) λx d=>?_⟩;refine cW (λy c b=>?_) (aG.mp d);subst b;have:=bf.mp (bV.mp c).1
 lia
noncomputable def jl (a:Nat):Nat:=((a:Int) - qw S T U V X Y a).toNat
noncomputable def Yw (a:Nat):D:=.tuple [tM (oY S T U V X Y a) (a % 3),Cw (jl S T U V X Y a)]
noncomputable def iC:List D:=(List.range 6).map (Yw S T U V X Y)
noncomputable abbrev lsL:List D:=(List.range 6).map λa=>.int (qw S T U V X Y a)
noncomputable def ZD (a:Nat):Sg:=fG eRt (LD1 (vJ S T U V X Y) (lsL S T U V X Y)) (.int a)
theorem WM {a:Nat}(h:a<6)(b:oY S T U V X Y a<4):(Rn (k+16)).ev (ZD S T U V X Y a) eF1=some (tM (oY S T U V X Y a) (a % 3)):=by
 have c:a=0\/a=1\/a=2\/a=3\/a=4\/a=5:=M6 (by first|assumption|lia);rcases c with rfl|rfl|rfl|rfl|rfl|rfl
 ·have b:S<4:=b
  have:S=0\/S=1\/S=2\/S=3:=in4 (by first|assumption|lia);refine nY this ?_ ?_ ?_ ?_<;>rfl'
 ·have b:T<4:=b
  have:T=0\/T=1\/T=2\/T=3:=in4 (by first|assumption|lia);refine nY this ?_ ?_ ?_ ?_<;>rfl'
 ·have b:U<4:=b
  have:U=0\/U=1\/U=2\/U=3:=in4 (by first|assumption|lia);refine nY this ?_ ?_ ?_ ?_<;>rfl'
 ·have b:V<4:=b
  have:V=0\/V=1\/V=2\/V=3:=in4 (by first|assumption|lia);refine nY this ?_ ?_ ?_ ?_<;>rfl'
 ·have b:X<4:=b
  have:X=0\/X=1\/X=2\/X=3:=in4 (by first|assumption|lia);refine nY this ?_ ?_ ?_ ?_<;>rfl'
 ·have b:Y<4:=b
  have:Y=0\/Y=1\/Y=2\/Y=3:=in4 (by first|assumption|lia);refine nY this ?_ ?_ ?_ ?_<;>rfl'
theorem dig_ev {a:Nat}(h:a<6):(Rn (k+16)).ev (ZD S T U V X Y a) eF2=some (Cw (jl S T U V X Y a)):=by
 have d:(Rn (k+15)).ev (ZD S T U V X Y a) eSb=some (.int ((a:Int) - qw S T U V X Y a)):=by have c:a=0\/a=1\/a=2\/a=3\/a=4\/a=5:=M6 (by first|assumption|lia);refine Bp c ?_ ?_ ?_ ?_ ?_ ?_<;>rfl'
 rw[j6 (k:=k+15) (ds:=[.int ((a:Int) - qw S T U V X Y a)]) ⋯ ⋯ (by rw[show cY eF2=[eSb] by rfl'];exact jN d),show jy eF2="str" by rfl']
 have b:=wL S T U V X Y a;show(textOf ((a:Int) - qw S T U V X Y a)).map D.str=_;unfold textOf;rw[ao ⟨by lia,by lia⟩];rfl
theorem Wf (o:S<4)(m:T<4)(h2:U<4)(h3:V<4)(l:X<4)(h5:Y<4):(Rn (k+20)).callF "_law_laid" [.list (vJ S T U V X Y)] []=some (.list (iC S T U V X Y)):=by
 have g:∀a,a<6->oY S T U V X Y a<4:=λa j=>by have i:a=0\/a=1\/a=2\/a=3\/a=4\/a=5:=M6 (by first|assumption|lia);refine Bp i ?_ ?_ ?_ ?_ ?_ ?_<;>assumption
 refine gj (k:=k+19) (f:=pY) (σ₀:=LD0 (vJ S T U V X Y)) (sg:=LD1 (vJ S T U V X Y) (lsL S T U V X Y)) (ow:=[]) rfl ⋯ ⋯ ⋯ ?_;rw[cu (k+18),bodyLd,Qw k];refine fL (gm ⋯ (du ?_));show(Rn (k+18)).ev _ eRt=_
 rewrite [gn (k:=k+17) (ds:=nM (List.range 6)) (σs:=fG eRt (LD1 (vJ S T U V X Y) (lsL S T U V X Y))) (c:=λZ=>true) (y:=λd=>Yw S T U V X Y (intOf d).toNat) ⋯ ⋯
  (gA (d:=.rng 0 (6:Nat)) ⋯ ⋯ (range_items 6 (by decide))) (λd h=>?_) (by simp[nM])]
 ·rw[filter_true]
  unfold nM iC;rw[aV]
 ·refine cW (λx b e=>?_) (aG.mp h);subst e
  have b:=bf.mp b;refine⟨⋯,⋯,λZ=>?_⟩;exact WR (k:=k+16) ⋯ (by rw[show Uu (iM eRt)=[eF1,eF2] by rfl'];exact bO (WM k S T U V X Y b (g x b)) (jN (dig_ev k S T U V X Y b)))
end
noncomputable def hdV {β:Type}(z:β)(st:Stmt)(f:Str->Pos->Str->Pos->List Expr->Pos->β):β:=
 sEx z st λc Z=>jj z c λa as ks p=>l0 z ks<|Xb z a λo m b=>rm z o λx px=>f x px m b as p
noncomputable def hdX (st:Stmt):Str:=hdV default st λx Z Z Z Z Z=>x
noncomputable def hdM (st:Stmt):Str:=hdV default st λZ Z m Z Z Z=>m
noncomputable def hdA (i:Nat)(st:Stmt):Expr:=hdV default st λZ Z Z Z as Z=>as[i]?.getD default
noncomputable def isHd (st:Stmt):Bool:=hdV false st λx px m a as p=>l2 false as λZ Z=>decide (gG x=false/\dJ (.Name x px) a p 2=true/\m≠Str.ofString "insert"/\gO.contains m=true)
@[elab_as_elim] theorem YK {P:Stmt->Prop}{st:Stmt}{g:Str->Pos->Str->Pos->List Expr->Pos->Expr->Expr->Bool}(h:hdV false st (λx px m d as p=>l2 false as (g x px m d as p))=true)(k:∀x px m d a b p q,g x px m d [a,b] p a b=true->P (.Expr (.Call (.Attribute (.Name x px) m d) [a,b] [] p) q)):P st:=
 I9 nb h λc q h=>jY nb h λa as e p h=>lV nb h λh=>Ft nb h λo m d h=>jw nb h λx px h=>pH (P:=λas=>l2 false as (g x px m d as p)=true->P (.Expr (.Call (.Attribute (.Name x px) m d) as [] p) q)) nb h (λa b Z h=>k x px m d a b p q h) h
theorem ex1_hd {r:Rec}{tu:List Str}{σ:Sg}{own:List Str}{st:Stmt}{hs:List D}{a b d:D}(h:isHd st=true)(c:own.contains (hdX st)=true)(hl:σ.lookup (hdX st)=some (.inst hs))(f:r.ev (without own σ) (hdA 0 st)=some a)(hb:r.ev (without own σ) (hdA 1 st)=some b)
 (e:r.callO (Str.ofString "Headers."++hdM st) [.inst hs,a,b] []=some d):ni r tu σ own st=some ⟨σ.add (hdX st) d,own,.next⟩:=by
 revert c hl f hb e;refine YK (st:=st) h λx j m t i g p q h c hl f hb e=>?_
 ·refine sY (λs o l k=>?_) (bw h)
  have c:own.contains x=true:=c;have hl:σ.lookup x=some (.inst hs):=hl;have f:r.ev (without own σ) i=some a:=f;have hb:r.ev (without own σ) g=some b:=hb;have e:r.callO (Str.ofString "Headers."++m) [.inst hs,a,b] []=some d:=e;show exM2 r σ own x j m t p i g=_;refine(ao ⟨c,s,o⟩).trans ?_;rw[hl,f,hb];refine(aq l).trans ((ao k).trans ?_);rw[e];rfl
theorem Vv:((List.range 4).all λw=>(List.range 3).all λr=>eE.contains ⟨(uZ w r).toArray⟩)=true:=by decide+kernel
theorem ok_dig:((List.range 7).all λn=>decide (n=0)||eE.contains ⟨#[48+n]⟩)=true:=by decide+kernel
noncomputable def bk:List Str:=["book"]
section
variable (k:Nat)(scr:List Int)(J K L M N O Q R S T U V X Y:Int)(as qs pg nm me:List D)
noncomputable abbrev Y6:Sg:=S6 scr J K L M N O Q R S T U V X Y as qs pg nm me
noncomputable def S7 (hs:List D):Sg:=⟨("book",.inst hs)::(Y6 scr J K L M N O Q R S T U V X Y as qs pg nm me).vars,lN⟩
noncomputable def S8 (hs ld:List D):Option (D×D)->Sg
 |none=>⟨("laid",.list ld)::("book",.inst hs)::(Y6 scr J K L M N O Q R S T U V X Y as qs pg nm me).vars,lN⟩
 |some (l,v)=>⟨("value",v)::("label",l)::("laid",.list ld)::("book",.inst hs)::(Y6 scr J K L M N O Q R S T U V X Y as qs pg nm me).vars,lN⟩
theorem law8 (rest:List Stmt):fO (Rn (k+30)) tL (Y6 scr J K L M N O Q R S T U V X Y as qs pg nm me) [] (gr 7::rest)=fO (Rn (k+30)) tL (S7 scr J K L M N O Q R S T U V X Y as qs pg nm me []) bk rest:=
 aJ ⋯
theorem law9 {w0 w1 w2 w3 w4 w5:Nat}(a:nm=vJ w0 w1 w2 w3 w4 w5)(d:w0<4)(c:w1<4)(h2:w2<4)(h3:w3<4)(b:w4<4)(h5:w5<4)(rest:List Stmt):
 fO (Rn (k+30)) tL (S7 scr J K L M N O Q R S T U V X Y as qs pg nm me []) bk (gr 8::rest)=fO (Rn (k+30)) tL (S8 scr J K L M N O Q R S T U V X Y as qs pg nm me [] (iC w0 w1 w2 w3 w4 w5) none) bk rest:=by
 subst a;have e:(Rn (k+30)).ev (without bk (S7 scr J K L M N O Q R S T U V X Y as qs pg (vJ w0 w1 w2 w3 w4 w5) me [])) (dh (gr 8))=some (.list (iC w0 w1 w2 w3 w4 w5)):=by rw[jR (k:=k+29) (ds:=[.list (vJ w0 w1 w2 w3 w4 w5)]) ⋯ ⋯ ⋯];exact Wf (k+9) w0 w1 w2 w3 w4 w5 d c h2 h3 b h5
 refine aJ ?_;rw[dg (st:=gr 8) ⋯ ⋯ (iD e)]
 rfl'
noncomputable def sAd:Stmt:=(jt (gr 9))[0]?.getD (.Pass default)
theorem bodyAd:jt (gr 9)=[sAd]:=⋯
noncomputable abbrev fH (ds:List D)(σ:Sg):Option Out:=mK (Rn (k+30)) tL (oM (gr 9)) (jt (gr 9)) ds σ bk
theorem Hh (hs ld:List D)(o:Option (D×D))(c:hs.length<=1000){x y:Str}(f:eE.contains x=true)(d:eE.contains y=true)(ds:List D):
 fH k (.tuple [.str x,.str y]::ds) (S8 scr J K L M N O Q R S T U V X Y as qs pg nm me hs ld o)=fH k ds (S8 scr J K L M N O Q R S T U V X Y as qs pg nm me (hs++[.tuple [.str x,.str y]]) ld (some (.str x,.str y))):=by
 refine iU (σ₁:=S8 scr J K L M N O Q R S T U V X Y as qs pg nm me hs ld (some (.str x,.str y))) (by induction o using aK<;>rfl') ?_;rw[cu (k+29),bodyAd];have g:(Rn (k+29)).callO (Str.ofString "Headers."++hdM sAd) [.inst hs,.str x,.str y] []=some (.inst (hs++[.tuple [.str x,.str y]])):=by
  have:P0.callO (Str.ofString "Headers."++hdM sAd) [.inst hs,.str x,.str y] []=some (.inst (hs++[.tuple [.str x,.str y]])):=by have e:P0.callO (Str.ofString "Headers."++hdM sAd) [.inst hs,.str x,.str y] []=(if eE.contains x/\eE.contains y/\small hs.length then some (.inst (hs++[.tuple [.str x,.str y]]))else none):=⋯;rw[e,ao ⟨f,d,dZ (by exact aA ‹_› (by decide))⟩]
  show orC (P0.callO (Str.ofString "Headers."++hdM sAd) [.inst hs,.str x,.str y] []) _=_;rw[this];rfl
 refine aJ ?_;rw[ex1_hd (hs:=hs) (a:=.str x) (b:=.str y) ⋯ ⋯ ⋯ ⋯ ⋯ g]
 rfl'
theorem wU (ld:List D):∀(xs:List (Str×Str))(hs:List D)(o:Option (D×D)),hs.length+xs.length<=1000->(∀p∈xs,eE.contains p.1=true/\eE.contains p.2=true)->
 ∃o',fH k (xs.map λp=>.tuple [.str p.1,.str p.2]) (S8 scr J K L M N O Q R S T U V X Y as qs pg nm me hs ld o)=some ⟨S8 scr J K L M N O Q R S T U V X Y as qs pg nm me (hs++xs.map λp=>.tuple [.str p.1,.str p.2]) ld o',bk,.next⟩
 |[],hs,o,_,_=>⟨o,by rw[List.map_nil,List.append_nil];rfl⟩
 |p::xs,hs,o,hl,h=>by rw[bx]at hl;refine yA (λc b=>?_) (h p (.head _));refine yE (λo' e=>?_) (wU ld xs (hs++[.tuple [.str p.1,.str p.2]]) (some (.str p.1,.str p.2)) (by rw[aW,List.length_singleton];lia) λq a=>h q (.tail _ a));refine⟨o',(Hh k scr J K L M N O Q R S T U V X Y as qs pg nm me hs ld o (by lia) c b _).trans (e.trans ?_)⟩;rw[cR];rfl
theorem zL (w0 w1 w2 w3 w4 w5:Nat){a:Nat}(h:a<6):1<=jl w0 w1 w2 w3 w4 w5 a/\jl w0 w1 w2 w3 w4 w5 a<=6:=by
 have:=wL w0 w1 w2 w3 w4 w5 a;unfold jl
 lia
theorem law10 {w0 w1 w2 w3 w4 w5:Nat}(m:w0<4)(l:w1<4)(h2:w2<4)(h3:w3<4)(j:w4<4)(h5:w5<4)(rest:List Stmt):
 ∃o,fO (Rn (k+30)) tL (S8 scr J K L M N O Q R S T U V X Y as qs pg nm me [] (iC w0 w1 w2 w3 w4 w5) none) bk (gr 9::rest)=
  fO (Rn (k+30)) tL (S8 scr J K L M N O Q R S T U V X Y as qs pg nm me (iC w0 w1 w2 w3 w4 w5) (iC w0 w1 w2 w3 w4 w5) o) bk rest:=by
 have f:∀a,a<6->oY w0 w1 w2 w3 w4 w5 a<4:=λa c=>by have i:a=0\/a=1\/a=2\/a=3\/a=4\/a=5:=M6 (by first|assumption|lia);refine Bp i ?_ ?_ ?_ ?_ ?_ ?_<;>assumption
 obtain⟨o,e⟩:=wU k scr J K L M N O Q R S T U V X Y as qs pg nm me (iC w0 w1 w2 w3 w4 w5) ((List.range 6).map λa=>((⟨(uZ (oY w0 w1 w2 w3 w4 w5 a) (a % 3)).toArray⟩:Str),(⟨#[48+jl w0 w1 w2 w3 w4 w5 a]⟩:Str))) [] none (by simp) λp g=>by
  refine cW (λa c d=>?_) (aG.mp g);subst d;have c:=bf.mp c;refine⟨all2 Vv (f a c) (Nat.mod_lt a (by decide)),?_⟩;have b:=zL w0 w1 w2 w3 w4 w5 c;have:=aU.mp ok_dig (jl w0 w1 w2 w3 w4 w5 a) (bf.mpr (by lia));refine aC (Bool.or_eq_true_iff.mp this) (λq=>?_) (λq=>?_)
  ·have:=bw q
   simp_all
  ·exact q
 have h:((List.range 6).map λa=>((⟨(uZ (oY w0 w1 w2 w3 w4 w5 a) (a % 3)).toArray⟩:Str),(⟨#[48+jl w0 w1 w2 w3 w4 w5 a]⟩:Str))).map (λp=>D.tuple [.str p.1,.str p.2])=iC w0 w1 w2 w3 w4 w5:=by rw[aV];rfl
 rw[h,List.nil_append]at e;refine⟨o,aJ ?_⟩;rw[qb ⋯ (ds:=iC w0 w1 w2 w3 w4 w5) ⋯ ⋯];exact e
end
noncomputable def sGA (i:Nat):Stmt:=j5.body[i]?.getD (.Pass default)
theorem bodyGA:j5.body=[sGA 0,sGA 1]:=⋯
noncomputable def gaG:List (Str×D):=ig j5.fd.scope
noncomputable def gaN:List (Str×NameKind):=j5.fd.scope.names
noncomputable def GA0 (hs:List D)(x:Str):Sg:=⟨("name",.str x)::("self",.inst hs)::gaG,gaN⟩
noncomputable def XD (s:Nat):List Nat:=match s with
 |0=>[115,84]
 |1=>[102,73]
 |2=>[102,70,73]
 |_=>[102,70]
noncomputable def hdD (p:Nat×Nat×D):D:=.tuple [tM p.1 p.2.1,p.2.2]
noncomputable def eGA:Expr:=m6 (sGA 1)
noncomputable def tGA:Expr:=(vD eGA)[0]?.getD default
theorem Hm:((List.range 4).all λw=>(List.range 3).all λr=>decide (Txt.lower (⟨(uZ w r).toArray⟩:Str)=wS w))=true:=by decide+kernel
theorem Bb:((List.range 4).all λw=>(List.range 4).all λs=>(wS w==wS s)==(w==s))=true:=by decide+kernel
theorem HJ:((List.range 4).all λw=>(List.range 3).all λr=>small (⟨(uZ w r).toArray⟩:Str).length)=true:=by decide+kernel
theorem HD (k:Nat)(a:List (Nat×Nat×D))(m:∀p∈a,p.1<4/\p.2.1<3)(hl:a.length<=1000){s:Nat}(hs:s<4):
 (Rn (k+12)).callF "Headers.get_all" [.inst (a.map hdD),.str ⟨(XD s).toArray⟩] []=some (.list ((a.filter λp=>p.1==s).map (·.2.2))):=by
 refine gj (f:=j5) (σ₀:=GA0 (a.map hdD) ⟨(XD s).toArray⟩) ⋯ ⋯ ⋯ ⋯ (sg:=GA0 (a.map hdD) (wS s)) (ow:=[]) ?_;rw[bodyGA,cu (k+10)];have u:s=0\/s=1\/s=2\/s=3:=in4 (by first|assumption|lia);rw[aJ (st:=sGA 0) (σ':=GA0 (a.map hdD) (wS s)) (own':=[]) (by refine nY u ?_ ?_ ?_ ?_<;>rfl')];refine fL (gm ⋯ (du ?_));have l:gH (Rn (k+9)) (GA0 (a.map hdD) (wS s)) (wK eGA)=some (a.map hdD):=gA (d:=.list (a.map hdD)) ⋯ ⋯ rfl;have e:=gn (k:=k+9) (e:=eGA) (ds:=a.map hdD) (σs:=fG eGA (GA0 (a.map hdD) (wS s))) (c:=λd=>match d with
  |.tuple [.str x,_]=>Txt.lower x==wS s
  |_=>false) (y:=λd=>match d with
  |.tuple [_,v]=>v
  |_=>.none) (σ:=GA0 (a.map hdD) (wS s)) ⋯ ⋯ l (λd t=>?_) (by rw[ak];exact aA ‹_› (by decide))
 ·refine e.trans ?_
  rw[dY,aV];congr 2;have:(a.filter ((λd:D=>match d with
   |.tuple [.str x,_]=>Txt.lower x==wS s
   |_=>false)∘hdD))=a.filter λp=>p.1==s:=by
   refine dU λp g=>?_;refine yA (λi j=>?_) (m p g);show(Txt.lower (⟨(uZ p.1 p.2.1).toArray⟩:Str)==wS s)=(p.1==s);rw[bw (all2 Hm i j)];exact eq_of_beq (all2 Bb i hs)
  rw[this];rfl
 ·refine cW (λp g q=>?_) (aG.mp t);subst q
  refine yA (λi j=>?_) (m p g);obtain⟨w,r,v⟩:=p;have i:w<4:=i;have j:r<3:=j;refine⟨⋯,?_,λZ=>⋯⟩;rw[show vD eGA=[tGA] by rfl'];refine fZ ?_;have hl:(Rn (k+8)).ev (fG eGA (GA0 (a.map hdD) (wS s)) (hdD (w,r,v))) (oU tGA)=some (.str (Txt.lower (⟨(uZ w r).toArray⟩:Str))):=by rw[Fb (k:=k+7) (o:=tM w r) (ds:=[]) ⋯ (λhs=>by unfold tM;intro h;nomatch h) ⋯ ⋯];have:Ef (PX (oU tGA)) (tM w r) []=Hl ⟨(uZ w r).toArray⟩ []:=⋯;rw[this];exact ao (all2 HJ i j)
  rw[iy (k:=k+8) ⋯ hl (b:=.str (wS s)) ⋯];rfl
noncomputable def dcK (x:Expr):Expr:=eDC default x λk Z Z Z Z=>k
noncomputable def dcV (x:Expr):Expr:=eDC default x λZ v Z Z Z=>v
noncomputable def dcGs (x:Expr):List Comprehension:=eDC [] x λZ Z gs Z Z=>gs
noncomputable def dcSc (x:Expr):Scope:=eDC default x λZ Z Z sc Z=>sc
noncomputable def dcT (e:Expr):Expr:=((dcGs e)[0]?.map (·.target)).getD default
noncomputable def dcI (e:Expr):Expr:=((dcGs e)[0]?.map (·.iter)).getD default
noncomputable def isDC1 (x:Expr):Bool:=eDC false x λZ Z gs Z Z=>l1 false gs λg=>l0 false g.ifs true
noncomputable def Dd (e:Expr)(σ:Sg)(d:D):Sg:=(gq (dcT e) d (under (dcSc e) σ)).getD ⟨[],[]⟩
theorem q9 {α β:Type}(f:α->β):∀l:List α,l.flatMap (λd=>[f d])=l.map f
 |[]=>rfl
 |a::r=>by rw[fD,q9 f r];rfl
theorem Ci {k:Nat}{σ:Sg}{e:Expr}{ds:List D}{x:D->Str}{y:D->D}{σs:D->Sg}(h:isDC1 e=true)(hs:qC (dcSc e) (dcGs e) σ=true)(hi:gH (Rn k) σ (dcI e)=some ds)
 (hd:∀d∈ds,gq (dcT e) d (under (dcSc e) σ)=some (σs d)/\(Rn k).ev (σs d) (dcK e)=some (.str (x d))/\(Rn k).ev (σs d) (dcV e)=some (y d))(s:wC (ds.map x)=true)(hl:ds.length<=1000000):
 (Rn (k+1)).ev σ e=some (.sdict (ds.map x) (ds.map y)):=by
 revert hs hi hd;refine eDC_i nb h λo ev B m p h=>jo nb h λg h=>?_
 induction g using Comprehension.casesOn with
 |mk f i ifs b=>
  refine lV (l:=ifs) nb h λZ hs hi hd=>?_;have hs:qC m [⟨f,i,[],b⟩] σ=true:=hs;have hi:gH (Rn k) σ i=some ds:=hi;have hd:∀d∈ds,gq f d (under m σ)=some (σs d)/\(Rn k).ev (σs d) o=some (.str (x d))/\(Rn k).ev (σs d) ev=some (y d):=hd;have key:iz (Rn k) (pairD (Rn k) o ev) [⟨f,i,[],b⟩] m σ=some (ds.map λd=>(x d,y d)):=by
   show(if qC m [⟨f,i,[],b⟩] σ then(oS none (gH (Rn k) σ i) λds=>jB (Rn k) (wQ (Rn k) (pairD (Rn k) o ev) []) ⟨f,i,[],b⟩ (under m σ) ds)else none)=_;rw[ao hs,hi];show jB _ _ _ _ _=_
   rewrite [ph (σf:=σs) (c:=λZ=>true) (ys:=λd=>[(x d,y d)]) λd q=>?_]
   ·congr 1
    rw[filter_true,q9]
   ·refine uA (λA z v=>?_) (hd d q)
    refine⟨A,rfl,λZ=>?_⟩;show(oS none ((Rn k).ev (σs d) o) λa=>dS none a λx=>oS none ((Rn k).ev (σs d) ev) λd=>some (x,d)).map (λx=>[x])=_;rw[z,v];rfl
  show oS none (iz (Rn k) (pairD (Rn k) o ev) [⟨f,i,[],b⟩] m σ) (λj=>if wC (j.map λp:Str×D=>p.1)=true/\small j.length then some (D.sdict (j.map λp:Str×D=>p.1) (j.map λp:Str×D=>p.2))else none)=_;rw[key];show(if _ then _ else _)=_;have u:(ds.map λd=>(x d,y d)).map (·.1)=ds.map x:=by rw[aV];rfl
  have t:(ds.map λd=>(x d,y d)).map (·.2)=ds.map y:=by rw[aV];rfl
  rw[u,t,ao ⟨s,dZ (by rw[ak];exact hl)⟩]
theorem sV {r:Rec}{σ:Sg}{own:List Str}{e:Expr}{d:D}(b:r.ev (without own σ) e=none)(h:r.ev σ e=some d)(hs:scalar d=false):vG r σ own [] e=some (d,[]):=by unfold vG;rw[b,j7,h];show cond (scalar d) _ _=_;rw[hs];show some _=_;congr 2;apply List.filter_eq_nil_iff.mpr;intro a Z;simp
noncomputable def gB:List D:=[wD 0,wD 1,wD 2,wD 3]
noncomputable def strOf (x:D):Str:=dS default x λx=>x
noncomputable def codeOf:D->Nat
 |.str x=>if x=wS 0 then 0 else if x=wS 1 then 1 else if x=wS 2 then 2 else 3
 |_=>0
noncomputable def occ (b:List Nat)(s:Nat):List Nat:=(List.range 6).filter λa=>b[a]?.getD 0==s
section
variable (k:Nat)(scr:List Int)(K L M N O P Q R S T U V X Y:Int)(as qs pg nm me hs ld:List D)(o:Option (D×D))
noncomputable def S9:Sg:=⟨("stems",.list gB)::(S8 scr K L M N O P Q R S T U V X Y as qs pg nm me hs ld o).vars,lN⟩
noncomputable def kS:List Str:=[wS 0,wS 1,wS 2,wS 3]
noncomputable def S10 (a:List D):Sg:=⟨("found",.sdict kS a)::(S9 scr K L M N O P Q R S T U V X Y as qs pg nm me hs ld o).vars,lN⟩
theorem law11 (rest:List Stmt):fO (Rn (k+30)) tL (S8 scr K L M N O P Q R S T U V X Y as qs pg nm me hs ld o) bk (gr 10::rest)=
 fO (Rn (k+30)) tL (S9 scr K L M N O P Q R S T U V X Y as qs pg nm me hs ld o) bk rest:=
 aJ (by induction o using aK<;>rfl')
noncomputable def eFd:Expr:=dh (gr 11)
noncomputable def Yv (E F G H I J:Nat)(a:Nat):Nat×Nat×D:=(oY E F G H I J a,a % 3,Cw (jl E F G H I J a))
noncomputable def mq (E F G H I J:Nat)(s:Nat):List D:=(occ [E,F,G,H,I,J] s).map λa=>Cw (jl E F G H I J a)
theorem Hr (E F G H I J:Nat):iC E F G H I J=((List.range 6).map (Yv E F G H I J)).map hdD:=rfl
theorem law12 {E F G H I J:Nat}(v:E<4)(u:F<4)(h2:G<4)(h3:H<4)(t:I<4)(h5:J<4)(rest:List Stmt):
 fO (Rn (k+30)) tL (S9 scr K L M N O P Q R S T U V X Y as qs pg nm me (iC E F G H I J) ld o) bk (gr 11::rest)=
 fO (Rn (k+30)) tL (S10 scr K L M N O P Q R S T U V X Y as qs pg nm me (iC E F G H I J) ld o ((List.range 4).map λs=>.list (mq E F G H I J s))) [] rest:=by
 have i:∀a,a<6->oY E F G H I J a<4:=λa g=>by have q:a=0\/a=1\/a=2\/a=3\/a=4\/a=5:=M6 (by first|assumption|lia);refine Bp q ?_ ?_ ?_ ?_ ?_ ?_<;>assumption
 have get:∀s,s<4->(Rn (k+28)).callF "Headers.get_all" [.inst (iC E F G H I J),.str ⟨(XD s).toArray⟩] []=some (.list (mq E F G H I J s)):=λs h=>by
  have:=HD (k+16) ((List.range 6).map (Yv E F G H I J)) (λp l=>by refine cW (λa g c=>?_) (aG.mp l);subst c;exact⟨i a (bf.mp g),Nat.mod_lt a (by decide)⟩) (by simp) h
  rw[Hr];refine this.trans ?_;rw[dY,aV];rfl
 have e:(Rn (k+30)).ev (S9 scr K L M N O P Q R S T U V X Y as qs pg nm me (iC E F G H I J) ld o) eFd=some (.sdict kS ((List.range 4).map λs=>.list (mq E F G H I J s))):=by
  refine(Ci (k:=k+29) (ds:=gB) (x:=strOf) (y:=λd=>.list (mq E F G H I J (codeOf d))) (σs:=Dd eFd (S9 scr K L M N O P Q R S T U V X Y as qs pg nm me (iC E F G H I J) ld o))
   ⋯ ⋯ (gA (d:=.list gB) ⋯ (by induction o using aK<;>rfl') rfl) (λd f=>?_) ⋯ (by decide)).trans ⋯
  have:∃s,s<4/\d=wD s:=by
   simp only[gB,au,bh,cA]at f;refine nY f ?_ ?_ ?_ ?_
   ·exact⟨0,by decide,rfl⟩
   ·exact⟨1,by decide,rfl⟩
   ·exact⟨2,by decide,rfl⟩
   ·exact⟨3,by decide,rfl⟩
  revert this;refine cW λs hs c=>?_;subst c;have m:=get s hs;have b:s=0\/s=1\/s=2\/s=3:=in4 (by first|assumption|lia);have j:(Rn (k+29)).ev (Dd eFd (S9 scr K L M N O P Q R S T U V X Y as qs pg nm me (iC E F G H I J) ld o) (wD s)) (dcV eFd)=(Rn (k+28)).callF "Headers.get_all" [.inst (iC E F G H I J),.str ⟨(XD s).toArray⟩] []:=by refine nY b ?_ ?_ ?_ ?_<;>induction o using aK<;>rfl'
  refine⟨?_,?_,?_⟩
  ·refine nY b ?_ ?_ ?_ ?_<;>induction o using aK<;>rfl'
  ·refine nY b ?_ ?_ ?_ ?_<;>induction o using aK<;>rfl'
  ·refine j.trans (m.trans ?_)
   refine nY b ?_ ?_ ?_ ?_<;>rfl'
 refine aJ ?_;rw[dg (st:=gr 11) ⋯ ⋯ (sV (by induction o using aK<;>rfl') e rfl)]
 induction o using aK<;>rfl'
end
noncomputable def bA (b:List Bool)(a:Nat):Bool:=b[a]?.getD false
noncomputable def uL (a:List Bool):List Nat:=(List.range 6).filter (bA a)
noncomputable def Bf (b:List Bool)(a:Nat):Nat:=((a:Int) - uQ (-1) (((List.range a).filter (bA b)).map λ(x:Nat)=>(x:Int))).toNat
noncomputable def mask (a:List Nat)(s:Nat):List Bool:=a.map (· ==s)
noncomputable def yZ:Int->List Nat->List Int
 |_,[]=>[]
 |a,b::r=>((b:Int) - a)::yZ b r
noncomputable def masks:List (List Bool):=[false,true].flatMap λa=>[false,true].flatMap λb=>[false,true].flatMap λc=>[false,true].flatMap λd=>[false,true].flatMap λe=>[false,true].map λf=>[a,b,c,d,e,f]
theorem Eg (a b c d e f:Bool):[a,b,c,d,e,f]∈masks:=by
 have:∀x:Bool,x∈[false,true]:=by decide
 unfold masks;exact eH.mpr ⟨a,this a,eH.mpr ⟨b,this b,eH.mpr ⟨c,this c,eH.mpr ⟨d,this d,eH.mpr ⟨e,this e,aG.mpr ⟨f,this f,rfl⟩⟩⟩⟩⟩⟩
theorem uG:(masks.all λb=>decide ((uL b).map (λa=>((Bf b a:Nat):Int))=yZ (-1) (uL b))&&(yZ (-1) (uL b)).all λx=>decide (0<=x/\x<=9))=true:=by decide+kernel
noncomputable def nu (b:List Bool):List D:=(uL b).map λa=>Cw (Bf b a)
noncomputable def Hb (b:List Bool):List D:=(uL b).map λ(a:Nat)=>.list [.int a,.int a]
theorem V7 (k:Nat):masks.map (λa=>(Rn (k+12)).callF "_law_led" [.list (nu a)] [])=masks.map (λa=>some (.list (Hb a))):=⋯
theorem led_ok (k:Nat){a:List Bool}(h:a∈masks):(Rn (k+12)).callF "_law_led" [.list (nu a)] []=some (.list (Hb a)):=Qd (V7 k) h
section
variable {E F G H I J:Nat}
theorem DY (s:Nat):occ [E,F,G,H,I,J] s=uL (mask [E,F,G,H,I,J] s):=by unfold occ uL;refine dU λa b=>?_;have b:=bf.mp b;have c:a=0\/a=1\/a=2\/a=3\/a=4\/a=5:=M6 (by first|assumption|lia);refine Bp c ?_ ?_ ?_ ?_ ?_ ?_<;>rfl
theorem yP (j:E<4)(i:F<4)(h2:G<4)(h3:H<4)(h:I<4)(h5:J<4){s:Nat}(hs:s<4):mq E F G H I J s=nu (mask [E,F,G,H,I,J] s):=by
 have e:∀a,a<6->oY E F G H I J a<4:=λa b=>by have g:a=0\/a=1\/a=2\/a=3\/a=4\/a=5:=M6 (by first|assumption|lia);refine Bp g ?_ ?_ ?_ ?_ ?_ ?_<;>assumption
 unfold mq nu;rw[<-DY];refine cj λa b=>?_;refine yA (λb c=>?_) (bV.mp b);have b:=bf.mp b;have c:oY E F G H I J a=s:=eq_of_beq c;unfold jl Bf qw;have:like E F G H I J a=(List.range a).filter (bA (mask [E,F,G,H,I,J] s)):=by unfold like;refine dU λx d=>?_;have d:=bf.mp d;rw[c,eq_of_beq (all2 Bb (e x (by exact Nat.lt_trans ‹_› ‹_›)) hs)];have f:x=0\/x=1\/x=2\/x=3\/x=4:=in5 (by first|assumption|lia);refine or5 f ?_ ?_ ?_ ?_ ?_<;>rfl
 rw[this]
end
section
variable (k:Nat)(scr:List Int)(K L M N O P Q R S T U V X Y:Int)(as qs nm me hs ld fs:List D)(o:Option (D×D))(E F G H I J:Nat)(t0 t1 t2 t3 t4 t5:D)
noncomputable def pgD:List D:=[.list [wD E,t0],.list [wD F,t1],.list [wD G,t2],.list [wD H,t3],.list [wD I,t4],.list [wD J,t5]]
noncomputable abbrev Y10:Sg:=S10 scr K L M N O P Q R S T U V X Y as qs (pgD E F G H I J t0 t1 t2 t3 t4 t5) nm me hs ld o fs
noncomputable def S11 (ds:List D):Sg:=⟨("due",.sdict kS ds)::(Y10 scr K L M N O P Q R S T U V X Y as qs nm me hs ld fs o E F G H I J t0 t1 t2 t3 t4 t5).vars,lN⟩
noncomputable def eDu:Expr:=dh (gr 12)
noncomputable def eDi:Expr:=dcV eDu
noncomputable def sZ (s:Nat):List D:=Hb (mask [E,F,G,H,I,J] s)
noncomputable abbrev ZF (s:Nat):Sg:=Dd eDu (Y10 scr K L M N O P Q R S T U V X Y as qs nm me hs ld fs o E F G H I J t0 t1 t2 t3 t4 t5) (wD s)
theorem Mj (u:E<4)(t:F<4)(h2:G<4)(h3:H<4)(q:I<4)(h5:J<4){s:Nat}(b:s<4):
 (Rn (k+29)).ev (ZF scr K L M N O P Q R S T U V X Y as qs nm me hs ld fs o E F G H I J t0 t1 t2 t3 t4 t5 s) eDi=some (.list (sZ E F G H I J s)):=by
 have f:gH (Rn (k+28)) (ZF scr K L M N O P Q R S T U V X Y as qs nm me hs ld fs o E F G H I J t0 t1 t2 t3 t4 t5 s) (wK eDi)=some (nM (List.range 6)):=by
  refine gA (d:=.rng 0 6) ⋯ ?_ (range_items 6 (by exact Nat.le_add_left _ _))
  induction o using aK<;>rfl'
 refine(gn (k:=k+28) (e:=eDi) (ds:=nM (List.range 6)) (σs:=fG eDi (ZF scr K L M N O P Q R S T U V X Y as qs nm me hs ld fs o E F G H I J t0 t1 t2 t3 t4 t5 s)) (c:=λd=>wS (oY E F G H I J (intOf d).toNat)==wS s)
  (y:=λd=>.list [d,d]) ⋯ (by induction o using aK<;>rfl') f (λd l=>?_) (by simp[nM])).trans ?_
 ·refine cW (λx g i=>?_) (aG.mp l);subst i
  have g:=bf.mp g;refine⟨by induction o using aK<;>rfl',?_,λZ=>by induction o using aK<;>rfl'⟩;have m:x=0\/x=1\/x=2\/x=3\/x=4\/x=5:=M6 (by first|assumption|lia);rw[show vD eDi=[(vD eDi)[0]?.getD default] by rfl'];refine fZ ?_;refine Bp m ?_ ?_ ?_ ?_ ?_ ?_<;>induction o using aK<;>rfl'
 ·have j:∀a,a<6->oY E F G H I J a<4:=λa h=>by
   have p:a=0\/a=1\/a=2\/a=3\/a=4\/a=5:=M6 (by first|assumption|lia);refine Bp p ?_ ?_ ?_ ?_ ?_ ?_<;>assumption
  unfold sZ Hb nM;rw[<-DY];unfold occ;rw[dY,aV];have:(List.range 6).filter ((λd=>wS (oY E F G H I J (intOf d).toNat)==wS s)∘λ(x:Nat)=>D.int x)=(List.range 6).filter λa=>[E,F,G,H,I,J][a]?.getD 0==s:=by refine dU λa h=>?_;exact eq_of_beq (all2 Bb (j a (bf.mp h)) b)
  rw[this];rfl
theorem law13 (j:E<4)(i:F<4)(h2:G<4)(h3:H<4)(h:I<4)(h5:J<4)(rest:List Stmt):
 fO (Rn (k+31)) tL (Y10 scr K L M N O P Q R S T U V X Y as qs nm me hs ld fs o E F G H I J t0 t1 t2 t3 t4 t5) [] (gr 12::rest)=
 fO (Rn (k+31)) tL (S11 scr K L M N O P Q R S T U V X Y as qs nm me hs ld fs o E F G H I J t0 t1 t2 t3 t4 t5 ((List.range 4).map λs=>.list (sZ E F G H I J s))) [] rest:=by
 have e:(Rn (k+31)).ev (Y10 scr K L M N O P Q R S T U V X Y as qs nm me hs ld fs o E F G H I J t0 t1 t2 t3 t4 t5) eDu=some (.sdict kS ((List.range 4).map λs=>.list (sZ E F G H I J s))):=by
  refine(Ci (k:=k+30) (ds:=gB) (x:=strOf) (y:=λd=>.list (sZ E F G H I J (codeOf d))) (σs:=Dd eDu (Y10 scr K L M N O P Q R S T U V X Y as qs nm me hs ld fs o E F G H I J t0 t1 t2 t3 t4 t5))
   ⋯ (by induction o using aK<;>rfl') (gA (d:=.list gB) ⋯ (by induction o using aK<;>rfl') rfl) (λd c=>?_) ⋯ (by decide)).trans ⋯
  have:∃s,s<4/\d=wD s:=by
   simp only[gB,au,bh,cA]at c;refine nY c ?_ ?_ ?_ ?_
   ·exact⟨0,by decide,rfl⟩
   ·exact⟨1,by decide,rfl⟩
   ·exact⟨2,by decide,rfl⟩
   ·exact⟨3,by decide,rfl⟩
  revert this;refine cW λs a f=>?_;subst f;have g:=Mj (k+1) scr K L M N O P Q R S T U V X Y as qs nm me hs ld fs o E F G H I J t0 t1 t2 t3 t4 t5 j i h2 h3 h h5 a;have b:s=0\/s=1\/s=2\/s=3:=in4 (by first|assumption|lia);refine⟨?_,?_,g.trans ?_⟩
  ·refine nY b ?_ ?_ ?_ ?_<;>induction o using aK<;>rfl'
  ·refine nY b ?_ ?_ ?_ ?_<;>induction o using aK<;>rfl'
  ·refine nY b ?_ ?_ ?_ ?_<;>rfl'
 refine aJ ?_;rw[dg (st:=gr 12) ⋯ ⋯ (du e)]
 induction o using aK<;>rfl'
end
noncomputable def callF' (x:Expr):Expr:=jj default x λf Z Z Z=>f
noncomputable def SQ (x:Expr):List Expr:=jj [] x λZ as Z Z=>as
noncomputable def isZ2 (x:Expr):Bool:=jj false x λZ as ks Z=>l2 false as λZ Z=>l0 false ks true
theorem zipE {k:Nat}{σ:Sg}{e a b:Expr}{x y:D}(h:isZ2 e=true)(d:Bt (callF' e) "zip" σ=true)(c:SQ e=[a,b])(m:(Rn k).ev σ a=some x)(hb:(Rn k).ev σ b=some y):gH (Rn k) σ e=Nb x y:=by
 revert d c;refine jY nb h λf s q p h=>pH nb h λj i h=>lV nb h λZ d c=>?_
 ·have d:Bt f "zip" σ=true:=d
  injection c with l g;injection g with g o;subst l g;show cond (Bt f "zip" σ) (oS none ((Rn k).ev σ j) λx=>oS none ((Rn k).ev σ i) λy=>Nb x y) (((Rn k).ev σ (.Call f [j,i] [] p)).bind pR)=_;rw[d,m,hb];rfl
noncomputable def prs:Int->List Nat->List (Int×Int)
 |_,[]=>[]
 |a,b::r=>(a,(b:Int))::prs b r
noncomputable def Hc (a:Int):D:=.list [.int a,.int a]
noncomputable def prD (p:Int×Int):D:=.tuple [Hc p.1,Hc p.2]
theorem Iz:∀(l:List Nat)(a:Int),((Hc a::l.map λ(b:Nat)=>Hc b).zip (l.map λ(b:Nat)=>Hc b)).map (λp:D×D=>D.tuple [p.1,p.2])=(prs a l).map prD
 |[],_=>rfl
 |b::r,a=>by show D.tuple [Hc a,Hc b]::((Hc b::r.map λ(b:Nat)=>Hc b).zip (r.map λ(b:Nat)=>Hc b)).map (λp:D×D=>D.tuple [p.1,p.2])=_;rw[Iz r b];rfl
theorem wj:∀(l:List Nat)(a:Int),(prs a l).map (λp=>p.2 - p.1)=yZ a l
 |[],_=>rfl
 |b::r,a=>by show _::(prs b r).map (λp=>p.2 - p.1)=_;rw[wj r b];rfl
theorem Jb:∀(l:List Nat)(a:Int),(prs a l).length=l.length
 |[],_=>rfl
 |b::r,a=>bD (· +1) (Jb r b)
theorem Ea (a:List Bool):(uL a).length<=6:=aA (cg _ _) (by simp)
theorem H9 {a:List Bool}(h:a∈masks):nu a=(yZ (-1) (uL a)).map λx=>.str ⟨#[48+x.toNat]⟩:=by have:=aU.mp uG a h;rw[bJ]at this;rw[<-bw this.1];unfold nu;rw[aV];rfl
theorem Fv {a:List Bool}(h:a∈masks):∀x∈yZ (-1) (uL a),0<=x/\x<=9:=λx b=>by have:=aU.mp uG a h;rw[bJ]at this;exact bw (aU.mp this.2 x b)
section
variable (k:Nat)(scr:List Int)(K L M N O P Q R S T U V X Y:Int)(as qs nm me hs ld fs:List D)(o:Option (D×D))(E F G H I J:Nat)(t0 t1 t2 t3 t4 t5:D)
noncomputable abbrev dues:List D:=(List.range 4).map λs=>.list (sZ E F G H I J s)
noncomputable abbrev Y11:Sg:=S11 scr K L M N O P Q R S T U V X Y as qs nm me hs ld fs o E F G H I J t0 t1 t2 t3 t4 t5 (dues E F G H I J)
noncomputable def S12 (a:List D):Sg:=⟨("strides",.sdict kS a)::(Y11 scr K L M N O P Q R S T U V X Y as qs nm me hs ld fs o E F G H I J t0 t1 t2 t3 t4 t5).vars,lN⟩
noncomputable def eSt:Expr:=dh (gr 13)
noncomputable def eSi:Expr:=dcV eSt
noncomputable def eZ (i:Nat):Expr:=(SQ (wK eSi))[i]?.getD default
noncomputable abbrev Gu (s:Nat):Sg:=Dd eSt (Y11 scr K L M N O P Q R S T U V X Y as qs nm me hs ld fs o E F G H I J t0 t1 t2 t3 t4 t5) (wD s)
theorem Be {s:Nat}(l:s<4):
 (Rn (k+29)).ev (Gu scr K L M N O P Q R S T U V X Y as qs nm me hs ld fs o E F G H I J t0 t1 t2 t3 t4 t5 s) eSi=some (.list (nu (mask [E,F,G,H,I,J] s))):=by
 have j:s=0\/s=1\/s=2\/s=3:=in4 (by first|assumption|lia);have i:mask [E,F,G,H,I,J] s∈masks:=Eg _ _ _ _ _ _;have v:(Rn (k+28)).ev (Gu scr K L M N O P Q R S T U V X Y as qs nm me hs ld fs o E F G H I J t0 t1 t2 t3 t4 t5 s) (eZ 1)=some (.list (sZ E F G H I J s)):=by refine nY j ?_ ?_ ?_ ?_<;>induction o using aK<;>rfl'
 have h:(Rn (k+27)).ev (Gu scr K L M N O P Q R S T U V X Y as qs nm me hs ld fs o E F G H I J t0 t1 t2 t3 t4 t5 s) (mR (eZ 0))=some (.list (sZ E F G H I J s)):=by refine nY j ?_ ?_ ?_ ?_<;>induction o using aK<;>rfl'
 have x:(Rn (k+28)).ev (Gu scr K L M N O P Q R S T U V X Y as qs nm me hs ld fs o E F G H I J t0 t1 t2 t3 t4 t5 s) (eZ 0)=some (.list (Hc (-1)::sZ E F G H I J s)):=by
  rw[fQ (k:=k+27) (a:=.list [Hc (-1)]) ⋯ ⋯ h,show CK (eZ 0)=.Add by rfl'];show(if small ([Hc (-1)].length+(sZ E F G H I J s).length)=true then some (D.list ([Hc (-1)]++sZ E F G H I J s))else none)=_;rw[ao (dZ (by
   unfold sZ Hb;rw[ak];have:=Ea (mask [E,F,G,H,I,J] s);simp only[bx,List.length_nil]
   lia))]
  rfl
 have g:gH (Rn (k+28)) (Gu scr K L M N O P Q R S T U V X Y as qs nm me hs ld fs o E F G H I J t0 t1 t2 t3 t4 t5 s) (wK eSi)=some ((prs (-1) (uL (mask [E,F,G,H,I,J] s))).map prD):=by rw[zipE (a:=eZ 0) (b:=eZ 1) ⋯ (by induction o using aK<;>rfl') ⋯ x v];show some (((Hc (-1)::sZ E F G H I J s).zip (sZ E F G H I J s)).map λp:D×D=>D.tuple [p.1,p.2])=_;rw[<-Iz];rfl
 refine(gn (k:=k+28) (e:=eSi) (σs:=fG eSi (Gu scr K L M N O P Q R S T U V X Y as qs nm me hs ld fs o E F G H I J t0 t1 t2 t3 t4 t5 s)) (c:=λZ=>true)
  (y:=λd=>match d with
   |.tuple [.list [.int a,_],.list [.int b,_]]=>.str ⟨#[48+(b - a).toNat]⟩
   |_=>.none) ⋯ (by induction o using aK<;>rfl') g (λd u=>?_) (by rw[ak,Jb];have:=Ea (mask [E,F,G,H,I,J] s);exact aA ‹_› (by decide))).trans ?_
 ·refine cW (λp t m=>?_) (aG.mp u);subst m
  refine⟨by induction o using aK<;>rfl',⋯,λZ=>?_⟩;have q:(Rn (k+28)).ev (fG eSi (Gu scr K L M N O P Q R S T U V X Y as qs nm me hs ld fs o E F G H I J t0 t1 t2 t3 t4 t5 s) (prD p)) (iM eSi)=(textOf (p.2 - p.1)).map .str:=by induction o using aK<;>rfl'
  have f:p.2 - p.1∈yZ (-1) (uL (mask [E,F,G,H,I,J] s)):=by rw[<-wj];exact aG.mpr ⟨p,t,rfl⟩
  rw[q];unfold textOf;rw[ao (Fv i _ f)];rfl
 ·rw[filter_true,aV,H9 i,<-wj,aV]
  rfl
theorem law14 (rest:List Stmt):
 fO (Rn (k+31)) tL (Y11 scr K L M N O P Q R S T U V X Y as qs nm me hs ld fs o E F G H I J t0 t1 t2 t3 t4 t5) [] (gr 13::rest)=
 fO (Rn (k+31)) tL (S12 scr K L M N O P Q R S T U V X Y as qs nm me hs ld fs o E F G H I J t0 t1 t2 t3 t4 t5 ((List.range 4).map λs=>.list (nu (mask [E,F,G,H,I,J] s)))) [] rest:=by
 have e:(Rn (k+31)).ev (Y11 scr K L M N O P Q R S T U V X Y as qs nm me hs ld fs o E F G H I J t0 t1 t2 t3 t4 t5) eSt=some (.sdict kS ((List.range 4).map λs=>.list (nu (mask [E,F,G,H,I,J] s)))):=by
  refine(Ci (k:=k+30) (ds:=gB) (x:=strOf) (y:=λd=>.list (nu (mask [E,F,G,H,I,J] (codeOf d)))) (σs:=Dd eSt (Y11 scr K L M N O P Q R S T U V X Y as qs nm me hs ld fs o E F G H I J t0 t1 t2 t3 t4 t5))
   ⋯ (by induction o using aK<;>rfl') (gA (d:=.list gB) ⋯ (by induction o using aK<;>rfl') rfl) (λd c=>?_) ⋯ (by decide)).trans ⋯
  have:∃s,s<4/\d=wD s:=by
   simp only[gB,au,bh,cA]at c;refine nY c ?_ ?_ ?_ ?_
   ·exact⟨0,by decide,rfl⟩
   ·exact⟨1,by decide,rfl⟩
   ·exact⟨2,by decide,rfl⟩
   ·exact⟨3,by decide,rfl⟩
  revert this;refine cW λs a f=>?_;subst f;have g:=Be (k+1) scr K L M N O P Q R S T U V X Y as qs nm me hs ld fs o E F G H I J t0 t1 t2 t3 t4 t5 a;have b:s=0\/s=1\/s=2\/s=3:=in4 (by first|assumption|lia);refine⟨?_,?_,g.trans ?_⟩
  ·refine nY b ?_ ?_ ?_ ?_<;>induction o using aK<;>rfl'
  ·refine nY b ?_ ?_ ?_ ?_<;>induction o using aK<;>rfl'
  ·refine nY b ?_ ?_ ?_ ?_<;>rfl'
 refine aJ ?_;rw[dg (st:=gr 13) ⋯ ⋯ (du e)]
 induction o using aK<;>rfl'
end
noncomputable def whT (x:Stmt):Expr:=sWh default x λt Z Z Z=>t
noncomputable def Di (x:Stmt):List Stmt:=sWh [] x λZ b Z Z=>b
noncomputable def isWh (x:Stmt):Bool:=sWh false x λZ Z o Z=>l0 false o true
theorem sS {r:Rec}{tu:List Str}{σ:Sg}{own:List Str}{st:Stmt}(h:isWh st=true):ni r tu σ own st=oA r tu (whT st) (Di st) 64 σ own:=by exact Yc nb h λt b o p h=>lV nb h λZ=>rfl
theorem mV {r:Rec}{tu own:List Str}{t:Expr}{b:List Stmt}{st:Nat->Nat->Option Nat->Sg}{n c:Nat}(ht:∀lo hi m,r.tst (st lo hi m) t=some (decide ((lo:Int)<hi)))
 (hb:∀lo hi m,lo<hi->hi<=n->r.exs tu (st lo hi m) own b=some ⟨if (lo+hi) / 2<c then st ((lo+hi) / 2+1) hi (some ((lo+hi) / 2))else st lo ((lo+hi) / 2) (some ((lo+hi) / 2)),own,.next⟩):
 ∀(f l u:Nat)(m:Option Nat),u - l<f->l<=c->c<=u->u<=n->∃d,oA r tu t b f (st l u m) own=some ⟨st c c d,own,.next⟩
 |0,_,_,_,h,_,_,_=>absurd h (Nat.not_lt_zero _)
 |f+1,l,u,m,h,i,g,a=>by
  by_cases q:l<u
  ·have e:oA r tu t b (f+1) (st l u m) own=oA r tu t b f (if (l+u) / 2<c then st ((l+u) / 2+1) u (some ((l+u) / 2))else st l ((l+u) / 2) (some ((l+u) / 2))) own:=by
    show(oS none (r.tst (st l u m) t) λc=>cond c (Uj (r.exs tu (st l u m) own b) (oA r tu t b f)) (some ⟨st l u m,own,.next⟩))=_;rw[ht,bW (by exact Int.ofNat_lt.mpr ‹_›)];show Uj (r.exs tu (st l u m) own b) (oA r tu t b f)=_;rw[hb l u m q a];rfl
   rw[e];split
   ·exact mV ht hb f _ _ _ (by lia) ‹_› g a
   ·exact mV ht hb f _ _ _ (by lia) i (by exact bc.mp ‹_›) (by lia)
  ·obtain rfl:l=c:=by lia
   obtain rfl:l=u:=by exact Nat.le_antisymm ‹_› (bc.mp ‹_›)
   refine⟨m,?_⟩;show(oS none (r.tst (st l l m) t) λc=>cond c (Uj (r.exs tu (st l l m) own b) (oA r tu t b f)) (some ⟨st l l m,own,.next⟩))=_;rw[ht,bU (by simp)];rfl
noncomputable def jQ:D->Bool
 |.int _=>true
 |.str _=>true
 |_=>false
theorem sy (lo hi:Nat):((lo:Int)+hi) / 2=(((lo+hi) / 2:Nat):Int):=by rfl
theorem En {xs:List D}{i:Int}(F:List D->Int->Option D){y:Option D}:cond (Nat.beq (D.list xs).ctorIdx 4) (dL none (.list xs) λxs=>dI none (.int i) (F xs)) y=F xs i:=rfl
theorem uX {xs:List D}{i:Nat}{d:D}(h:xs[i]? =some d)(hl:xs.length<=60):mD (.list xs) (.int i)=some d:=by have:i<xs.length:=(cQ.mp h).1;refine Eq.trans (b:=idx xs (i:Int)) (En idx) ?_;unfold idx;rw[ao ⟨by exact Int.natCast_nonneg _,by lia⟩];exact h
noncomputable def Gq (i:Nat):Stmt:=eV.body[i]?.getD (.Pass default)
theorem Tf:eV.body=[Gq 0,Gq 1,Gq 2,Gq 3]:=⋯
noncomputable def LbG:List (Str×D):=ig eV.fd.scope
noncomputable def LbN:List (Str×NameKind):=eV.fd.scope.names
noncomputable abbrev Yb:List Str:=eV.turned
noncomputable def Lb0 (xs:List D)(x K hi:D):Sg:=⟨("key",K)::("hi",hi)::("lo",.int 0)::("x",x)::("a",.list xs)::LbG,LbN⟩
noncomputable def wX (xs:List D)(x K:D)(lo hi:Nat):Option Nat->Sg
 |none=>⟨("key",K)::("hi",.int hi)::("lo",.int lo)::("x",x)::("a",.list xs)::LbG,LbN⟩
 |some m=>⟨("mid",.int m)::("key",K)::("hi",.int hi)::("lo",.int lo)::("x",x)::("a",.list xs)::LbG,LbN⟩
theorem Gn (k:Nat)(xs:List D)(x K:D)(hl:xs.length<=60)(rest:List Stmt):fO (Rn (k+9)) Yb (Lb0 xs x K .none) [] (Gq 0::Gq 1::rest)=fO (Rn (k+9)) Yb (wX xs x K 0 xs.length none) [] rest:=by
 rw[aJ (st:=Gq 0) (σ':=Lb0 xs x K .none) (own':=[]) ⋯];refine aJ ?_;rw[f9 ⋯ ⋯,cu (k+8),show q7 (Gq 1)=[(q7 (Gq 1))[0]?.getD (.Pass default)] by rfl'];refine aJ ?_;have e:(Rn (k+8)).ev (Lb0 xs x K .none) (dh ((q7 (Gq 1))[0]?.getD (.Pass default)))=some (.int xs.length):=by rw[j6 (k:=k+7) (ds:=[.list xs]) ⋯ ⋯ ⋯];show(if small xs.length then some (D.int xs.length)else none)=_;rw[ao (dZ (by exact aA ‹_› (by decide)))]
 rw[dg ⋯ ⋯ (du e)]
 rfl'
noncomputable def wL0:Stmt:=(q7 (Gq 2))[0]?.getD (.Pass default)
noncomputable def bL0 (i:Nat):Stmt:=(Di wL0)[i]?.getD (.Pass default)
theorem Xu:Di wL0=[bL0 0,bL0 1]:=⋯
noncomputable def eL0:Expr:=oU (yI (bL0 1))
theorem stepL0 (k:Nat){xs:List D}{x:D}(hl:xs.length<=60){c:Nat}(j:∀(i:Nat)(d:D),xs[i]? =some d->jh .Lt d x=some (decide (i<c)))(h:jQ x=true)(lo hi:Nat)(m:Option Nat)(s:lo<hi)(h2:hi<=xs.length):
 (Rn (k+8)).exs Yb (wX xs x .none lo hi m) [] (Di wL0)=some ⟨if (lo+hi) / 2<c then wX xs x .none ((lo+hi) / 2+1) hi (some ((lo+hi) / 2))else wX xs x .none lo ((lo+hi) / 2) (some ((lo+hi) / 2)),[],.next⟩:=by
 have l:(lo+hi) / 2<xs.length:=by exact VH ‹_› ‹_›
 obtain⟨d,e⟩:∃d,xs[(lo+hi) / 2]? =some d:=⟨_,aR l⟩;rw[cu (k+7),Xu];have g:(Rn (k+7)).ev (wX xs x .none lo hi m) (dh (bL0 0))=some (.int (((lo:Int)+hi) / 2)):=by induction m using aK<;>rfl'
 rw[sy]at g;rw[aJ (st:=bL0 0) (σ':=wX xs x .none lo hi (some ((lo+hi) / 2))) (own':=[]) (by
  rw[dg ⋯ (by induction m using aK<;>rfl') (du g)]
  induction m using aK<;>rfl')]
 have p:(Rn (k+6)).ev (wX xs x .none lo hi (some ((lo+hi) / 2))) eL0=some d:=by rw[gf (k:=k+5) (a:=.list xs) (b:=.int ((lo+hi) / 2:Nat)) ⋯ ⋯ ⋯];exact uX e hl
 have o:(Rn (k+6)).ev (wX xs x .none lo hi (some ((lo+hi) / 2))) (pK (yI (bL0 1)))=some x:=by
  induction x using D.casesOn with
  |int i=>rfl'
  |str i=>rfl'
  |_=>nomatch h
 have f:(Rn (k+7)).tst (wX xs x .none lo hi (some ((lo+hi) / 2))) (yI (bL0 1))=some (decide ((lo+hi) / 2<c)):=by rw[iy (k:=k+6) ⋯ p o];exact j _ d e
 refine aJ ?_;by_cases q:(lo+hi) / 2<c
 ·rw[ao q,f9 ⋯ (f.trans (bD some (bW q)))]
  rfl'
 ·rw[aq q,fP ⋯ (f.trans (bD some (bU q)))]
  rfl'
theorem Yg (k:Nat){xs:List D}{x:D}(hl:xs.length<=60){c:Nat}(h:c<=xs.length)(g:∀(i:Nat)(d:D),xs[i]? =some d->jh .Lt d x=some (decide (i<c)))(e:jQ x=true):
 ∃sg,(Rn (k+11)).exs Yb (Lb0 xs x .none .none) [] eV.body=some ⟨sg,[],.ret (.int c)⟩:=by
 refine yE (λa f=>?_) (mV (r:=Rn (k+9)) (tu:=Yb) (own:=[]) (t:=whT wL0) (b:=Di wL0) (st:=wX xs x .none) (n:=xs.length) (c:=c) (λlo j m=>by induction m using aK<;>rfl') (stepL0 (k+1) hl g e) 64 0 xs.length none (by exact cU ‹_› (by decide)) (by exact b7 _) h (bG _));refine⟨wX xs x .none c c a,?_⟩;rw[Tf,cu (k+10),Gn (k+1) xs x .none hl];rw[aJ (st:=Gq 2) (σ':=wX xs x .none c c a) (own':=[]) (by rw[f9 ⋯ ⋯,cu (k+9),show q7 (Gq 2)=[wL0] by rfl'];refine aJ ?_;rw[sS ⋯];exact f)]
 refine fL (gm ⋯ (du ?_))
 induction a using aK<;>rfl'
noncomputable def wL1:Stmt:=(zH (Gq 2))[0]?.getD (.Pass default)
noncomputable def bL1 (i:Nat):Stmt:=(Di wL1)[i]?.getD (.Pass default)
theorem Xr:Di wL1=[bL1 0,bL1 1]:=⋯
noncomputable def eL1:Expr:=oU (yI (bL1 1))
theorem stepL1 (k:Nat){xs:List D}{x:D}(hl:xs.length<=60){y:Str}{bd:Expr}{sc:Scope}{kv:D->D}(h:jF y sc=true)(hk:∀(j:Nat)(d:D),d∈xs->(Rn (j+3)).ev ⟨[(y,d)],sc.names⟩ bd=some (kv d)){c:Nat}(o:∀(i:Nat)(d:D),xs[i]? =some d->jh .Lt (kv d) x=some (decide (i<c)))(l:jQ x=true)(lo hi:Nat)(m:Option Nat)(v:lo<hi)(h2:hi<=xs.length):
 (Rn (k+8)).exs Yb (wX xs x (.lam y bd sc) lo hi m) [] (Di wL1)=some ⟨if (lo+hi) / 2<c then wX xs x (.lam y bd sc) ((lo+hi) / 2+1) hi (some ((lo+hi) / 2))else wX xs x (.lam y bd sc) lo ((lo+hi) / 2) (some ((lo+hi) / 2)),[],.next⟩:=by
 have p:(lo+hi) / 2<xs.length:=by exact VH ‹_› ‹_›
 obtain⟨d,e⟩:∃d,xs[(lo+hi) / 2]? =some d:=⟨_,aR p⟩;rw[cu (k+7),Xr];have g:(Rn (k+7)).ev (wX xs x (.lam y bd sc) lo hi m) (dh (bL1 0))=some (.int (((lo:Int)+hi) / 2)):=by induction m using aK<;>rfl'
 rw[sy]at g;rw[aJ (st:=bL1 0) (σ':=wX xs x (.lam y bd sc) lo hi (some ((lo+hi) / 2))) (own':=[]) (by
  rw[dg ⋯ (by induction m using aK<;>rfl') (du g)]
  induction m using aK<;>rfl')]
 have u:(Rn (k+5)).ev (wX xs x (.lam y bd sc) lo hi (some ((lo+hi) / 2))) ((cY eL1)[0]?.getD default)=some d:=by rw[gf (k:=k+4) (a:=.list xs) (b:=.int ((lo+hi) / 2:Nat)) ⋯ ⋯ ⋯];exact uX e hl
 have t:(Rn (k+6)).ev (wX xs x (.lam y bd sc) lo hi (some ((lo+hi) / 2))) eL1=some (kv d):=by have:(Rn (k+6)).ev (wX xs x (.lam y bd sc) lo hi (some ((lo+hi) / 2))) eL1=(if jF y sc=true/\gG "key"=false then((Rn (k+5)).ev (wX xs x (.lam y bd sc) lo hi (some ((lo+hi) / 2))) ((cY eL1)[0]?.getD default)).bind λd=>(Rn (k+5)).ev ⟨[(y,d)],sc.names⟩ bd else none):=⋯;rw[this,ao ⟨h,by decide⟩,u];exact hk (k+2) d (aY e)
 have s:(Rn (k+6)).ev (wX xs x (.lam y bd sc) lo hi (some ((lo+hi) / 2))) (pK (yI (bL1 1)))=some x:=by
  induction x using D.casesOn with
  |int i=>rfl'
  |str i=>rfl'
  |_=>nomatch l
 have f:(Rn (k+7)).tst (wX xs x (.lam y bd sc) lo hi (some ((lo+hi) / 2))) (yI (bL1 1))=some (decide ((lo+hi) / 2<c)):=by rw[iy (k:=k+6) ⋯ t s];exact o _ d e
 refine aJ ?_;by_cases q:(lo+hi) / 2<c
 ·rw[ao q,f9 ⋯ (f.trans (bD some (bW q)))]
  rfl'
 ·rw[aq q,fP ⋯ (f.trans (bD some (bU q)))]
  rfl'
theorem Ye (k:Nat){xs:List D}{x:D}(hl:xs.length<=60){y:Str}{bd:Expr}{sc:Scope}{kv:D->D}(e:jF y sc=true)(hk:∀(j:Nat)(d:D),d∈xs->(Rn (j+3)).ev ⟨[(y,d)],sc.names⟩ bd=some (kv d)){c:Nat}(l:c<=xs.length)(h:∀(i:Nat)(d:D),xs[i]? =some d->jh .Lt (kv d) x=some (decide (i<c)))(f:jQ x=true):
 ∃sg,(Rn (k+11)).exs Yb (Lb0 xs x (.lam y bd sc) .none) [] eV.body=some ⟨sg,[],.ret (.int c)⟩:=by
 refine yE (λa g=>?_) (mV (r:=Rn (k+9)) (tu:=Yb) (own:=[]) (t:=whT wL1) (b:=Di wL1) (st:=wX xs x (.lam y bd sc)) (n:=xs.length) (c:=c) (λlo o m=>by induction m using aK<;>rfl') (stepL1 (k+1) hl e hk h f) 64 0 xs.length none (by exact cU ‹_› (by decide)) (by exact b7 _) l (bG _));refine⟨wX xs x (.lam y bd sc) c c a,?_⟩;rw[Tf,cu (k+10),Gn (k+1) xs x (.lam y bd sc) hl];rw[aJ (st:=Gq 2) (σ':=wX xs x (.lam y bd sc) c c a) (own':=[]) (by rw[fP ⋯ ⋯,cu (k+9),show zH (Gq 2)=[wL1] by rfl'];refine aJ ?_;rw[sS ⋯];exact g)]
 refine fL (gm ⋯ (du ?_))
 induction a using aK<;>rfl'
noncomputable def Gp (i:Nat):Stmt:=fK.body[i]?.getD (.Pass default)
theorem Te:fK.body=[Gp 0,Gp 1,Gp 2,Gp 3]:=⋯
noncomputable def RbG:List (Str×D):=ig fK.fd.scope
noncomputable def RbN:List (Str×NameKind):=fK.fd.scope.names
noncomputable abbrev X8:List Str:=fK.turned
noncomputable def Rb0 (xs:List D)(x K hi:D):Sg:=⟨("key",K)::("hi",hi)::("lo",.int 0)::("x",x)::("a",.list xs)::RbG,RbN⟩
noncomputable def wV (xs:List D)(x K:D)(lo hi:Nat):Option Nat->Sg
 |none=>⟨("key",K)::("hi",.int hi)::("lo",.int lo)::("x",x)::("a",.list xs)::RbG,RbN⟩
 |some m=>⟨("mid",.int m)::("key",K)::("hi",.int hi)::("lo",.int lo)::("x",x)::("a",.list xs)::RbG,RbN⟩
theorem Gl (k:Nat)(xs:List D)(x K:D)(hl:xs.length<=60)(rest:List Stmt):fO (Rn (k+9)) X8 (Rb0 xs x K .none) [] (Gp 0::Gp 1::rest)=fO (Rn (k+9)) X8 (wV xs x K 0 xs.length none) [] rest:=by
 rw[aJ (st:=Gp 0) (σ':=Rb0 xs x K .none) (own':=[]) ⋯];refine aJ ?_;rw[f9 ⋯ ⋯,cu (k+8),show q7 (Gp 1)=[(q7 (Gp 1))[0]?.getD (.Pass default)] by rfl'];refine aJ ?_;have e:(Rn (k+8)).ev (Rb0 xs x K .none) (dh ((q7 (Gp 1))[0]?.getD (.Pass default)))=some (.int xs.length):=by rw[j6 (k:=k+7) (ds:=[.list xs]) ⋯ ⋯ ⋯];show(if small xs.length then some (D.int xs.length)else none)=_;rw[ao (dZ (by exact aA ‹_› (by decide)))]
 rw[dg ⋯ ⋯ (du e)]
 rfl'
noncomputable def wR0:Stmt:=(q7 (Gp 2))[0]?.getD (.Pass default)
noncomputable def bR0 (i:Nat):Stmt:=(Di wR0)[i]?.getD (.Pass default)
theorem Xq:Di wR0=[bR0 0,bR0 1]:=⋯
noncomputable def eR0:Expr:=pK (yI (bR0 1))
theorem stepR0 (k:Nat){xs:List D}{x:D}(hl:xs.length<=60){c:Nat}(j:∀(i:Nat)(d:D),xs[i]? =some d->jh .Lt x d=some (decide (c<=i)))(h:jQ x=true)(lo hi:Nat)(m:Option Nat)(s:lo<hi)(h2:hi<=xs.length):
 (Rn (k+8)).exs X8 (wV xs x .none lo hi m) [] (Di wR0)=some ⟨if (lo+hi) / 2<c then wV xs x .none ((lo+hi) / 2+1) hi (some ((lo+hi) / 2))else wV xs x .none lo ((lo+hi) / 2) (some ((lo+hi) / 2)),[],.next⟩:=by
 have l:(lo+hi) / 2<xs.length:=by exact VH ‹_› ‹_›
 obtain⟨d,e⟩:∃d,xs[(lo+hi) / 2]? =some d:=⟨_,aR l⟩;rw[cu (k+7),Xq];have g:(Rn (k+7)).ev (wV xs x .none lo hi m) (dh (bR0 0))=some (.int (((lo:Int)+hi) / 2)):=by induction m using aK<;>rfl'
 rw[sy]at g;rw[aJ (st:=bR0 0) (σ':=wV xs x .none lo hi (some ((lo+hi) / 2))) (own':=[]) (by
  rw[dg ⋯ (by induction m using aK<;>rfl') (du g)]
  induction m using aK<;>rfl')]
 have p:(Rn (k+6)).ev (wV xs x .none lo hi (some ((lo+hi) / 2))) eR0=some d:=by rw[gf (k:=k+5) (a:=.list xs) (b:=.int ((lo+hi) / 2:Nat)) ⋯ ⋯ ⋯];exact uX e hl
 have o:(Rn (k+6)).ev (wV xs x .none lo hi (some ((lo+hi) / 2))) (oU (yI (bR0 1)))=some x:=by
  induction x using D.casesOn with
  |int i=>rfl'
  |str i=>rfl'
  |_=>nomatch h
 have f:(Rn (k+7)).tst (wV xs x .none lo hi (some ((lo+hi) / 2))) (yI (bR0 1))=some (decide (c<=(lo+hi) / 2)):=by rw[iy (k:=k+6) ⋯ o p];exact j _ d e
 refine aJ ?_;by_cases q:(lo+hi) / 2<c
 ·rw[ao q,fP ⋯ (f.trans (bD some (bU (by simp_all))))]
  rfl'
 ·rw[aq q,f9 ⋯ (f.trans (bD some (bW (by exact bc.mp ‹_›))))]
  rfl'
theorem runR0 (k:Nat){xs:List D}{x:D}(hl:xs.length<=60){c:Nat}(h:c<=xs.length)(g:∀(i:Nat)(d:D),xs[i]? =some d->jh .Lt x d=some (decide (c<=i)))(e:jQ x=true):
 ∃sg,(Rn (k+11)).exs X8 (Rb0 xs x .none .none) [] fK.body=some ⟨sg,[],.ret (.int c)⟩:=by
 refine yE (λa f=>?_) (mV (r:=Rn (k+9)) (tu:=X8) (own:=[]) (t:=whT wR0) (b:=Di wR0) (st:=wV xs x .none) (n:=xs.length) (c:=c) (λlo j m=>by induction m using aK<;>rfl') (stepR0 (k+1) hl g e) 64 0 xs.length none (by exact cU ‹_› (by decide)) (by exact b7 _) h (bG _));refine⟨wV xs x .none c c a,?_⟩;rw[Te,cu (k+10),Gl (k+1) xs x .none hl];rw[aJ (st:=Gp 2) (σ':=wV xs x .none c c a) (own':=[]) (by rw[f9 ⋯ ⋯,cu (k+9),show q7 (Gp 2)=[wR0] by rfl'];refine aJ ?_;rw[sS ⋯];exact f)]
 refine fL (gm ⋯ (du ?_))
 induction a using aK<;>rfl'
noncomputable def wR1:Stmt:=(zH (Gp 2))[0]?.getD (.Pass default)
noncomputable def bR1 (i:Nat):Stmt:=(Di wR1)[i]?.getD (.Pass default)
theorem Xp:Di wR1=[bR1 0,bR1 1]:=⋯
noncomputable def eR1:Expr:=pK (yI (bR1 1))
theorem stepR1 (k:Nat){xs:List D}{x:D}(hl:xs.length<=60){y:Str}{bd:Expr}{sc:Scope}{kv:D->D}(h:jF y sc=true)(hk:∀(j:Nat)(d:D),d∈xs->(Rn (j+3)).ev ⟨[(y,d)],sc.names⟩ bd=some (kv d)){c:Nat}(o:∀(i:Nat)(d:D),xs[i]? =some d->jh .Lt x (kv d)=some (decide (c<=i)))(l:jQ x=true)(lo hi:Nat)(m:Option Nat)(v:lo<hi)(h2:hi<=xs.length):
 (Rn (k+8)).exs X8 (wV xs x (.lam y bd sc) lo hi m) [] (Di wR1)=some ⟨if (lo+hi) / 2<c then wV xs x (.lam y bd sc) ((lo+hi) / 2+1) hi (some ((lo+hi) / 2))else wV xs x (.lam y bd sc) lo ((lo+hi) / 2) (some ((lo+hi) / 2)),[],.next⟩:=by
 have p:(lo+hi) / 2<xs.length:=by exact VH ‹_› ‹_›
 obtain⟨d,e⟩:∃d,xs[(lo+hi) / 2]? =some d:=⟨_,aR p⟩;rw[cu (k+7),Xp];have g:(Rn (k+7)).ev (wV xs x (.lam y bd sc) lo hi m) (dh (bR1 0))=some (.int (((lo:Int)+hi) / 2)):=by induction m using aK<;>rfl'
 rw[sy]at g;rw[aJ (st:=bR1 0) (σ':=wV xs x (.lam y bd sc) lo hi (some ((lo+hi) / 2))) (own':=[]) (by
  rw[dg ⋯ (by induction m using aK<;>rfl') (du g)]
  induction m using aK<;>rfl')]
 have u:(Rn (k+5)).ev (wV xs x (.lam y bd sc) lo hi (some ((lo+hi) / 2))) ((cY eR1)[0]?.getD default)=some d:=by rw[gf (k:=k+4) (a:=.list xs) (b:=.int ((lo+hi) / 2:Nat)) ⋯ ⋯ ⋯];exact uX e hl
 have t:(Rn (k+6)).ev (wV xs x (.lam y bd sc) lo hi (some ((lo+hi) / 2))) eR1=some (kv d):=by have:(Rn (k+6)).ev (wV xs x (.lam y bd sc) lo hi (some ((lo+hi) / 2))) eR1=(if jF y sc=true/\gG "key"=false then((Rn (k+5)).ev (wV xs x (.lam y bd sc) lo hi (some ((lo+hi) / 2))) ((cY eR1)[0]?.getD default)).bind λd=>(Rn (k+5)).ev ⟨[(y,d)],sc.names⟩ bd else none):=⋯;rw[this,ao ⟨h,by decide⟩,u];exact hk (k+2) d (aY e)
 have s:(Rn (k+6)).ev (wV xs x (.lam y bd sc) lo hi (some ((lo+hi) / 2))) (oU (yI (bR1 1)))=some x:=by
  induction x using D.casesOn with
  |int i=>rfl'
  |str i=>rfl'
  |_=>nomatch l
 have f:(Rn (k+7)).tst (wV xs x (.lam y bd sc) lo hi (some ((lo+hi) / 2))) (yI (bR1 1))=some (decide (c<=(lo+hi) / 2)):=by rw[iy (k:=k+6) ⋯ s t];exact o _ d e
 refine aJ ?_;by_cases q:(lo+hi) / 2<c
 ·rw[ao q,fP ⋯ (f.trans (bD some (bU (by simp_all))))]
  rfl'
 ·rw[aq q,f9 ⋯ (f.trans (bD some (bW (by exact bc.mp ‹_›))))]
  rfl'
theorem runR1 (k:Nat){xs:List D}{x:D}(hl:xs.length<=60){y:Str}{bd:Expr}{sc:Scope}{kv:D->D}(e:jF y sc=true)(hk:∀(j:Nat)(d:D),d∈xs->(Rn (j+3)).ev ⟨[(y,d)],sc.names⟩ bd=some (kv d)){c:Nat}(l:c<=xs.length)(h:∀(i:Nat)(d:D),xs[i]? =some d->jh .Lt x (kv d)=some (decide (c<=i)))(f:jQ x=true):
 ∃sg,(Rn (k+11)).exs X8 (Rb0 xs x (.lam y bd sc) .none) [] fK.body=some ⟨sg,[],.ret (.int c)⟩:=by
 refine yE (λa g=>?_) (mV (r:=Rn (k+9)) (tu:=X8) (own:=[]) (t:=whT wR1) (b:=Di wR1) (st:=wV xs x (.lam y bd sc)) (n:=xs.length) (c:=c) (λlo o m=>by induction m using aK<;>rfl') (stepR1 (k+1) hl e hk h f) 64 0 xs.length none (by exact cU ‹_› (by decide)) (by exact b7 _) l (bG _));refine⟨wV xs x (.lam y bd sc) c c a,?_⟩;rw[Te,cu (k+10),Gl (k+1) xs x (.lam y bd sc) hl];rw[aJ (st:=Gp 2) (σ':=wV xs x (.lam y bd sc) c c a) (own':=[]) (by rw[fP ⋯ ⋯,cu (k+9),show zH (Gp 2)=[wR1] by rfl'];refine aJ ?_;rw[sS ⋯];exact g)]
 refine fL (gm ⋯ (du ?_))
 induction a using aK<;>rfl'
noncomputable def kw (K:D):List (Str×D):=[("key",K)]
section
variable (k:Nat){xs:List D}{x:D}{y:Str}{bd:Expr}{sc:Scope}{kv:D->D}{c:Nat}
theorem bl0 (hl:xs.length<=60)(e:c<=xs.length)(b:∀(i:Nat)(d:D),xs[i]? =some d->jh .Lt d x=some (decide (i<c)))(a:jQ x=true):(Rn (k+12)).callF "bisect_left" [.list xs,x] []=some (.int c):=by refine yE (λsg h=>?_) (Yg k hl e b a);exact gj (f:=eV) ⋯ ⋯ ⋯ ⋯ h
theorem bl0' (hl:xs.length<=60)(e:c<=xs.length)(b:∀(i:Nat)(d:D),xs[i]? =some d->jh .Lt d x=some (decide (i<c)))(a:jQ x=true):(Rn (k+12)).callF "bisect_left" [.list xs,x,.int 0,.none] []=some (.int c):=by refine yE (λsg h=>?_) (Yg k hl e b a);exact gj (f:=eV) ⋯ ⋯ ⋯ ⋯ h
theorem br0 (hl:xs.length<=60)(e:c<=xs.length)(b:∀(i:Nat)(d:D),xs[i]? =some d->jh .Lt x d=some (decide (c<=i)))(a:jQ x=true):(Rn (k+12)).callF "bisect_right" [.list xs,x] []=some (.int c):=by refine yE (λsg h=>?_) (runR0 k hl e b a);exact gj (f:=fK) ⋯ ⋯ ⋯ ⋯ h
theorem bl1 (hl:xs.length<=60)(a:jF y sc=true)(hk:∀(j:Nat)(d:D),d∈xs->(Rn (j+3)).ev ⟨[(y,d)],sc.names⟩ bd=some (kv d))(g:c<=xs.length)(e:∀(i:Nat)(d:D),xs[i]? =some d->jh .Lt (kv d) x=some (decide (i<c)))
 (b:jQ x=true):(Rn (k+12)).callF "bisect_left" [.list xs,x] (kw (.lam y bd sc))=some (.int c):=by
 refine yE (λsg h=>?_) (Ye k hl a hk g e b);exact gj (f:=eV) ⋯ ⋯ ⋯ ⋯ h
theorem bl1' (hl:xs.length<=60)(a:jF y sc=true)(hk:∀(j:Nat)(d:D),d∈xs->(Rn (j+3)).ev ⟨[(y,d)],sc.names⟩ bd=some (kv d))(g:c<=xs.length)(e:∀(i:Nat)(d:D),xs[i]? =some d->jh .Lt (kv d) x=some (decide (i<c)))
 (b:jQ x=true):(Rn (k+12)).callF "bisect_left" [.list xs,x,.int 0,.none] (kw (.lam y bd sc))=some (.int c):=by
 refine yE (λsg h=>?_) (Ye k hl a hk g e b);exact gj (f:=eV) ⋯ ⋯ ⋯ ⋯ h
theorem br1 (hl:xs.length<=60)(a:jF y sc=true)(hk:∀(j:Nat)(d:D),d∈xs->(Rn (j+3)).ev ⟨[(y,d)],sc.names⟩ bd=some (kv d))(g:c<=xs.length)(e:∀(i:Nat)(d:D),xs[i]? =some d->jh .Lt x (kv d)=some (decide (c<=i)))
 (b:jQ x=true):(Rn (k+12)).callF "bisect_right" [.list xs,x] (kw (.lam y bd sc))=some (.int c):=by
 refine yE (λsg h=>?_) (runR1 k hl a hk g e b);exact gj (f:=fK) ⋯ ⋯ ⋯ ⋯ h
end
theorem FN {k:Nat}{x:Str}{f:Fn}{xs ds:List D}{kds:List (Str×D)}{p:Str}{d₀:D}{L:List (Str×D)}{σ':Sg}{ow:List Str}{ys:List D}(a:P0.callO x (.list xs::ds) kds=none)(c:qH x=some f)(hs:f.shapes.contains ((D.list xs::ds).length,kds.map (·.1))=true)
 (hb:bindL f (.list xs::ds) kds=some ((p,d₀)::L))(hd:((L.map (·.1)).contains p||f.turned.contains p)=false)
 (d:(Rn k).exs f.turned (rE ⟨ig f.fd.scope,f.fd.scope.names⟩ ((p,d₀)::L)) [p] f.body=some ⟨σ',ow,.next⟩)(b:ow.contains p=true)(hl:σ'.lookup p=some (.list ys)):(Rn (k+1)).callO x (.list xs::ds) kds=some (.list ys):=by
 show orC (P0.callO x (.list xs::ds) kds) (Ih qH (Rn k) x (.list xs::ds) kds)=_;rw[a];show oS none (qH x) _=_;rw[c];refine(ao hs).trans ?_;rw[hb];refine(aq (by rw[hd];simp)).trans ?_;rw[d];refine(ao b).trans ?_;rw[hl];rfl
noncomputable def isIns (st:Stmt):Bool:=hdV false st λx px m a as p=>l2 false as λZ Z=>decide (gG x=false/\dJ (.Name x px) a p 2=true/\m=Str.ofString "insert")
theorem JH {r:Rec}{tu:List Str}{σ:Sg}{own:List Str}{st:Stmt}{xs:List D}{c:Nat}{d:D}(h:isIns st=true)(a:own.contains (hdX st)=true)(hl:σ.lookup (hdX st)=some (.list xs))(b:r.ev (without own σ) (hdA 0 st)=some (.int c))(hb:r.ev (without own σ) (hdA 1 st)=some d)
 (o:c<=xs.length)(hs:xs.length<=1000):ni r tu σ own st=some ⟨σ.add (hdX st) (.list (xs.take c++d::xs.drop c)),own,.next⟩:=by
 revert a hl b hb;refine YK (st:=st) h λx g m l f e p q h a hl b hb=>?_
 ·refine uA (λk j i=>?_) (bw h)
  have a:own.contains x=true:=a;have hl:σ.lookup x=some (.list xs):=hl;have b:r.ev (without own σ) f=some (.int c):=b;have hb:r.ev (without own σ) e=some d:=hb;show exM2 r σ own x g m l p f e=_;refine(ao ⟨a,k,j⟩).trans ?_;rw[hl,b,hb];exact(ao i).trans (ao ⟨by exact Int.natCast_nonneg _,by exact Int.ofNat_le.mpr ‹_›,dZ (by exact aA ‹_› (by decide))⟩)
noncomputable def qz (x:Expr):List Keyword:=jj [] x λZ Z ks Z=>ks
noncomputable def isFnK (x:Expr):Bool:=jj false x λf Z ks Z=>lc false ks λZ Z=>rm false f λx Z=>gN x&& !(x==Str.ofString "isinstance")&& !(x==Str.ofString "sorted")&& !(x==Str.ofString "Headers")
theorem Cg {k:Nat}{σ:Sg}{e:Expr}{ds:List D}{kds:List (Str×D)}(h:isFnK e=true)(a:σ.lookup (jy e)=some .glob)(b:eX (Rn k) σ (cY e)=some ds)(hk:jU (Rn k) σ (qz e)=some kds):(Rn (k+1)).ev σ e=(Rn k).callF (jy e) ds kds:=by
 revert a b hk;refine jY nb h λf o q p h=>nJ nb h λg c h=>jw nb h λx u h a b hk=>?_
 ·simp only[bJ,b8]at h
  revert h;refine yA λs j=>yA (λi l=>yA (λt m=>?_) i) s;have a:σ.lookup x=some .glob:=a;have b:eX (Rn k) σ o=some ds:=b;have hk:jU (Rn k) σ (g::c)=some kds:=hk;have m:x≠Str.ofString "isinstance":=by simpa using m
  have l:x≠Str.ofString "sorted":=by simpa using l
  have j:x≠Str.ofString "Headers":=by simpa using j
  show(oS none (σ.lookup x) λd=>cond (Nat.beq d.ctorIdx 12) (HY (Rn k) σ x o (g::c)) (Y9 none d (Fo (Rn k) σ x o (g::c))))=_;rw[a];refine(aq m).trans ?_;rw[b];show oS none (jU (Rn k) σ (g::c)) _=_;rw[hk];exact(aq l).trans (ao ⟨t,j⟩)
noncomputable def sI (i:Nat):Stmt:=fU.body[i]?.getD (.Pass default)
theorem Zc:fU.body=[sI 0,sI 1]:=⋯
noncomputable def iG:List (Str×D):=ig fU.fd.scope
noncomputable def iN:List (Str×NameKind):=fU.fd.scope.names
noncomputable def aO:List Str:=["a"]
noncomputable abbrev tI:List Str:=fU.turned
noncomputable def I0 (xs:List D)(x K lo:D):Sg:=⟨("key",K)::("hi",.none)::("lo",lo)::("x",x)::("a",.list xs)::iG,iN⟩
noncomputable def sI1:Stmt:=(q7 (sI 0))[0]?.getD (.Pass default)
noncomputable def Vl:Stmt:=(zH (sI 0))[0]?.getD (.Pass default)
section
variable (k:Nat){xs:List D}{x:D}{y:Str}{bd:Expr}{sc:Scope}{kv:D->D}{c:Nat}
theorem RP {r:Rec}{σ:Sg}{own keep:List Str}{e:Expr}{d:D}(a:r.ev (without own σ) e=none)(h:r.ev (without keep σ) e=some d)(hs:scalar d=true):vG r σ own keep e=some (d,own):=by unfold vG;rw[a,h];show cond (scalar d) _ _=_;rw[hs];rfl
theorem is0 (hl:xs.length<=60)(b:c<=xs.length)(g:∀(i:Nat)(d:D),xs[i]? =some d->jh .Lt d x=some (decide (i<c)))(a:jQ x=true):(Rn (k+17)).callO "insort_left" [.list xs,x] []=some (.list (xs.take c++x::xs.drop c)):=by
 refine FN (f:=fU) (p:="a") (d₀:=.list xs) (L:=[("x",x),("lo",.int 0),("hi",.none),("key",.none)]) (σ':=I0 (xs.take c++x::xs.drop c) x .none (.int c)) (ow:=aO) ⋯ ⋯ ⋯ ⋯ ⋯ ?_ ⋯ ⋯;show(Rn (k+16)).exs tI (I0 xs x .none (.int 0)) aO fU.body=_;rw[Zc,cu (k+15)];have e:(Rn (k+14)).ev (I0 xs x .none (.int 0)) (dh sI1)=some (.int c):=by
  rw[jR (k:=k+13) (ds:=[.list xs,x,.int 0,.none]) ⋯ ⋯ (by induction x using D.casesOn with
   |int i=>rfl'
   |str i=>rfl'
   |_=>nomatch a)]
  exact bl0' (k+1) hl b g a
 rw[aJ (st:=sI 0) (σ':=I0 xs x .none (.int c)) (own':=aO) (by
  rw[f9 ⋯ ⋯,cu (k+14),show q7 (sI 0)=[sI1] by rfl'];refine aJ ?_;rw[dg ⋯ ⋯ (RP (keep:=[]) ⋯ (by rw[j7];exact e) rfl)]
  rfl')]
 refine aJ ?_;rw[JH (st:=sI 1) (xs:=xs) (c:=c) (d:=x) ⋯ ⋯ ⋯ ⋯ (by induction x using D.casesOn with
  |int i=>rfl'
  |str i=>rfl'
  |_=>nomatch a) b (by exact aA ‹_› (by decide))]
 rfl'
theorem is1 (hl:xs.length<=60)(a:jF y sc=true){l:List D}(hk:∀(j:Nat)(d:D),d=.list l\/d∈xs->(Rn (j+3)).ev ⟨[(y,d)],sc.names⟩ bd=some (kv d))(b:c<=xs.length)
 (h:∀(i:Nat)(d:D),xs[i]? =some d->jh .Lt (kv d) (kv (.list l))=some (decide (i<c)))(g:jQ (kv (.list l))=true):(Rn (k+17)).callO "insort_left" [.list xs,.list l] (kw (.lam y bd sc))=some (.list (xs.take c++.list l::xs.drop c)):=by
 refine FN (f:=fU) (p:="a") (d₀:=.list xs) (L:=[("x",.list l),("lo",.int 0),("hi",.none),("key",.lam y bd sc)]) (σ':=I0 (xs.take c++.list l::xs.drop c) (.list l) (.lam y bd sc) (.int c)) (ow:=aO) ⋯ ⋯ ⋯ ⋯ ⋯ ?_ ⋯ ⋯;show(Rn (k+16)).exs tI (I0 xs (.list l) (.lam y bd sc) (.int 0)) aO fU.body=_;rw[Zc,cu (k+15)];have o:(Rn (k+13)).ev (I0 xs (.list l) (.lam y bd sc) (.int 0)) ((cY (dh Vl))[1]?.getD default)=some (kv (.list l)):=by have:(Rn (k+13)).ev (I0 xs (.list l) (.lam y bd sc) (.int 0)) ((cY (dh Vl))[1]?.getD default)=(if jF y sc=true/\gG "key"=false then(Rn (k+12)).ev ⟨[(y,.list l)],sc.names⟩ bd else none):=⋯;rw[this,ao ⟨a,by decide⟩];exact hk (k+9) _ (.inl rfl)
 have e:(Rn (k+14)).ev (I0 xs (.list l) (.lam y bd sc) (.int 0)) (dh Vl)=some (.int c):=by
  rw[Cg (k:=k+13) (ds:=[.list xs,kv (.list l),.int 0,.none]) (kds:=kw (.lam y bd sc)) ⋯ ⋯ (by rw[show cY (dh Vl)=[(cY (dh Vl))[0]?.getD default,(cY (dh Vl))[1]?.getD default,(cY (dh Vl))[2]?.getD default,(cY (dh Vl))[3]?.getD default] by rfl'];exact bO ⋯ (bO o (bO ⋯ (bO ⋯ rfl)))) ⋯]
  exact bl1' (k+1) hl a (λj d m=>hk j d (.inr m)) b h g
 rw[aJ (st:=sI 0) (σ':=I0 xs (.list l) (.lam y bd sc) (.int c)) (own':=aO) (by
  rw[fP ⋯ ⋯,cu (k+14),show zH (sI 0)=[Vl] by rfl'];refine aJ ?_;rw[dg ⋯ ⋯ (RP (keep:=[]) ⋯ (by rw[j7];exact e) rfl)]
  rfl')]
 refine aJ ?_;rw[JH (st:=sI 1) (xs:=xs) (c:=c) (d:=.list l) ⋯ ⋯ ⋯ ⋯ ⋯ b (by exact aA ‹_› (by decide))]
 rfl'
end
section
variable {α:Type}(f:α->Nat)
noncomputable def wu (v:Nat):List α->Nat
 |[]=>0
 |a::r=>if f a<v then wu v r+1 else 0
noncomputable def qG (v:Nat):List α->Nat
 |[]=>0
 |a::r=>if f a<=v then qG v r+1 else 0
noncomputable def zW:List α->Prop
 |[]=>True
 |a::r=>(∀b∈r,f a<=f b)/\zW r
noncomputable def iI (x:α):List α->List α
 |[]=>[x]
 |a::r=>if f a<f x then a::iI x r else x::a::r
variable {f}
theorem lg (v:Nat):∀R:List α,wu f v R<=R.length
 |[]=>bG _
 |a::r=>by
  unfold wu;split
  ·exact cz (lg v r)
  ·exact b7 _
theorem mQ (v:Nat):∀R:List α,qG f v R<=R.length
 |[]=>bG _
 |a::r=>by
  unfold qG;split
  ·exact cz (mQ v r)
  ·exact b7 _
theorem wk {v:Nat}:∀{R:List α},zW f R->∀{i:Nat}{a:α},R[i]? =some a->(f a<v<->i<wu f v R)
 |[],_,i,a,h=>by simp at h
 |b::r,c,0,a,h=>by simp at h;subst h;unfold wu;split<;>simp_all
 |b::r,c,i+1,a,h=>by
  have h:r[i]? =some a:=by simpa using h
  unfold wu;split
  ·rw[wk c.2 h]
   lia
  ·rename_i q
   have:=c.1 a (aY h)
   lia
theorem qj {v:Nat}:∀{R:List α},zW f R->∀{i:Nat}{a:α},R[i]? =some a->(f a<=v<->i<qG f v R)
 |[],_,i,a,h=>by simp at h
 |b::r,c,0,a,h=>by simp at h;subst h;unfold qG;split<;>simp_all
 |b::r,c,i+1,a,h=>by
  have h:r[i]? =some a:=by simpa using h
  unfold qG;split
  ·rw[qj c.2 h]
   lia
  ·rename_i q
   have:=c.1 a (aY h)
   lia
theorem v5 (x:α):∀R:List α,R.take (wu f (f x) R)++x::R.drop (wu f (f x) R)=iI f x R
 |[]=>rfl
 |a::r=>by
  unfold wu iI;split
  ·rw[List.take_succ_cons,List.drop_succ_cons,List.cons_append,v5 x r]
  ·rfl
theorem uV {x:α}:∀{R:List α}{b:α},b∈iI f x R->b=x\/b∈R
 |[],b,h=>.inl (by simpa[iI]using h)
 |a::r,b,h=>by
  unfold iI at h;split at h
  ·rcases au.mp h with rfl|h
   ·exact .inr (.head _)
   ·exact(uV h).imp id λh=>.tail _ h
  ·rcases au.mp h with rfl|h
   ·exact .inl rfl
   ·exact .inr h
theorem BX {x:α}:∀{R:List α},zW f R->zW f (iI f x R)
 |[],_=>⟨λZ h=>absurd h (bh),trivial⟩
 |a::r,h=>by
  unfold iI;split
  ·rename_i q
   refine⟨λb hb=>?_,BX h.2⟩;rcases uV hb with rfl|hb
   ·exact cD ‹_›
   ·exact h.1 b hb
  ·rename_i q
   refine⟨λb hb=>?_,h⟩;rcases au.mp hb with rfl|hb
   ·exact bc.mp ‹_›
   ·have:=h.1 b hb
    lia
theorem jX (x:α):∀R:List α,(iI f x R).length=R.length+1
 |[]=>rfl
 |a::r=>by
  unfold iI;split
  ·rw[bx,jX x r];rfl
  ·rfl
theorem v7 (p:α->Bool)(x:α):∀R:List α,(iI f x R).countP p=R.countP p+if p x then 1 else 0
 |[]=>by show List.countP p [x]=_;rw[dH]
 |a::r=>by
  unfold iI;split
  ·rw[dH,v7 p x r,dH]
   lia
  ·rw[dH]
theorem Aw {v:Nat}:∀{R:List α},zW f R->wu f v R=R.countP λa=>decide (f a<v)
 |[],_=>rfl
 |a::r,h=>by
  unfold wu;rw[dH];split
  ·rename_i q
   rw[Aw h.2,ao (bW q)]
  ·rename_i q
   rw[aq (by simpa using q),Nat.add_zero]
   symm
   rw[List.countP_eq_zero];intro b c;have:=h.1 b c;simp
   lia
theorem lE {v:Nat}:∀{R:List α},zW f R->qG f v R=R.countP λa=>decide (f a<=v)
 |[],_=>rfl
 |a::r,h=>by
  unfold qG;rw[dH];split
  ·rename_i q
   rw[lE h.2,ao (bW q)]
  ·rename_i q
   rw[aq (by simpa using q),Nat.add_zero]
   symm
   rw[List.countP_eq_zero];intro b c;have:=h.1 b c;simp
   lia
theorem rY {β:Type}{g:α->β}{R:List α}{i:Nat}{d:β}(h:(R.map g)[i]? =some d):∃a,R[i]? =some a/\d=g a:=by
 rw[bQ]at h
 induction e:R[i]? using aK with
 |none=>rw[e]at h;exact nn h
 |some a=>rw[e]at h;injection h with h;exact⟨a,rfl,h.symm⟩
end
noncomputable def lamX (x:Expr):Str:=Mf default x λa Z Z Z=>l1 default a.args λa=>a.arg
noncomputable def lamB (x:Expr):Expr:=Mf default x λZ b Z Z=>b
noncomputable def lamS (x:Expr):Scope:=Mf default x λZ Z s Z=>s
noncomputable def Uk:List Keyword->Expr
 |[⟨_,e,_⟩]=>e
 |_=>default
noncomputable def lamOf (e:Expr):D:=.lam (lamX e) (lamB e) (lamS e)
noncomputable def vM (x:D):D:=dL .none x λl=>l2 .none l λZ b=>b
noncomputable def coV {β:Type}(z:β)(st:Stmt)(f:Str->Str->List Expr->List Keyword->β):β:=
 sEx z st λc Z=>jj z c λa as ks Z=>rm z a λg Z=>lc z as λe es=>rm z e λx Z=>f g x es ks
noncomputable def coF (st:Stmt):Str:=coV default st λf Z Z Z=>f
noncomputable def coX (st:Stmt):Str:=coV default st λZ x Z Z=>x
noncomputable def coA (st:Stmt):List Expr:=coV [] st λZ Z as Z=>as
noncomputable def coK (st:Stmt):List Keyword:=coV [] st λZ Z Z ks=>ks
noncomputable def isCo (st:Stmt):Bool:=coV false st λf x Z Z=>decide (gN f=true/\f≠Str.ofString "Headers"/\gG x=false)
theorem HQ {r:Rec}{tu:List Str}{σ:Sg}{own:List Str}{st:Stmt}{a d:D}{ds:List D}{kds:List (Str×D)}(h:isCo st=true)(b:own.contains (coX st)=true)(i:vZ (σ.lookup (coF st))=true)(g:own.contains (coF st)=false)(hl:σ.lookup (coX st)=some a)
 (k:eX r (without own σ) (coA st)=some ds)(hk:jU r (without own σ) (coK st)=some kds)(j:r.callO (coF st) (a::ds) kds=some d):ni r tu σ own st=some ⟨σ.add (coX st) d,own,.next⟩:=by
 revert b i g hl k hk j;refine I9 nb h λc q h=>jY nb h λz o l p h=>jw nb h λf y h=>nJ nb h λe m h=>jw nb h λx v h b i g hl k hk j=>?_
 ·refine uA (λu t s=>?_) (bw h)
  have b:own.contains x=true:=b;have i:vZ (σ.lookup f)=true:=i;have g:own.contains f=false:=g;have hl:σ.lookup x=some a:=hl;have k:eX r (without own σ) m=some ds:=k;have hk:jU r (without own σ) l=some kds:=hk;have j:r.callO f (a::ds) kds=some d:=j;show exC r σ own f x m l=_;refine(ao ⟨b,i,u,t,s,g⟩).trans ?_;rw[hl,k,hk];show oS none (r.callO f (a::ds) kds) _=_;rw[j];rfl
noncomputable abbrev Rw:Type:=Nat×Nat
noncomputable def xx (p:Rw):Nat:=3 - p.2
noncomputable def oF (p:Rw):D:=.list [.int p.1,wD p.2]
noncomputable def CW (p:Rw):D:=wD p.2
theorem Yp:((List.range 4).all λa=>(List.range 4).all λb=>K6 (wS a) (wS b)==decide (3 - a<3 - b))=true:=by decide+kernel
noncomputable def Uq (R:List Rw):Prop:=zW xx R/\R.length<=60/\∀p∈R,p.2<4
theorem ltD {a b:Nat}(c:a<4)(hb:b<4):jh .Lt (wD a) (wD b)=some (decide (3 - a<3 - b)):=by show some (K6 (wS a) (wS b))=_;rw[eq_of_beq (all2 Yp c hb)]
section
variable (k:Nat){R:List Rw}(h:Uq R){w:Nat}(hw:w<4)
include h hw
theorem DN:∀(i:Nat)(d:D),(R.map CW)[i]? =some d->jh .Lt d (wD w)=some (decide (i<wu xx (3 - w) R)):=λi d e=>by refine cW (λa b c=>?_) (rY e);subst c;unfold CW;rw[ltD (h.2.2 a (aY b)) hw];congr 1;exact bI.mpr (wk h.1 b)
theorem Pb:∀(i:Nat)(d:D),(R.map CW)[i]? =some d->jh .Lt (wD w) d=some (decide (qG xx (3 - w) R<=i)):=λi d e=>by
 refine cW (λa b c=>?_) (rY e);subst c;unfold CW;rw[ltD hw (h.2.2 a (aY b))];congr 1;have:=qj (v:=3 - w) h.1 b;refine bI.mpr ?_;rw[show xx a=3 - a.2 from rfl]at this
 lia
theorem Ot:∀(i:Nat)(d:D),(R.map oF)[i]? =some d->jh .Lt (vM d) (wD w)=some (decide (i<wu xx (3 - w) R)):=λi d e=>by refine cW (λa b c=>?_) (rY e);subst c;show jh .Lt (wD a.2) (wD w)=_;rw[ltD (h.2.2 a (aY b)) hw];congr 1;exact bI.mpr (wk h.1 b)
theorem row_le:∀(i:Nat)(d:D),(R.map oF)[i]? =some d->jh .Lt (wD w) (vM d)=some (decide (qG xx (3 - w) R<=i)):=λi d e=>by
 refine cW (λa b c=>?_) (rY e);subst c;show jh .Lt (wD w) (wD a.2)=_;rw[ltD hw (h.2.2 a (aY b))];congr 1;have:=qj (v:=3 - w) h.1 b;refine bI.mpr ?_;rw[show xx a=3 - a.2 from rfl]at this
 lia
theorem Ln:(Rn (k+17)).callO "insort_left" [.list (R.map CW),wD w] []=some (.list ((iI xx (0,w) R).map CW)):=by rw[is0 k (by rw[ak];exact h.2.1) (c:=wu xx (3 - w) R) (by rw[ak];exact lg _ _) (DN h hw) rfl,<-v5];rw[bu,aX,List.map_take,List.map_drop];rfl
end
theorem Wl (a b w:Nat)(R:List Rw):(iI xx (a,w) R).map CW=(iI xx (b,w) R).map CW:=by rw[<-v5,<-v5];simp only[bu,aX];rfl
theorem Wk (k a:Nat){R:List Rw}(h:Uq R){w:Nat}(f:w<4){y:Str}{bd:Expr}{sc:Scope}(e:jF y sc=true)(hk:∀(j:Nat)(p q:D),(Rn (j+3)).ev ⟨[(y,.list [p,q])],sc.names⟩ bd=some q):
 (Rn (k+17)).callO "insort_left" [.list (R.map oF),oF (a,w)] (kw (.lam y bd sc))=some (.list ((iI xx (a,w) R).map oF)):=by
 unfold oF
 rewrite [is1 k (kv:=vM) (by rw[ak];exact h.2.1) e (λj d hd=>?_) (c:=wu xx (3 - w) R) (by rw[ak];exact lg _ _) (Ot h f) rfl,<-v5]
 ·rw[bu,aX,List.map_take,List.map_drop]
  rfl
 ·rcases hd with rfl|hd
  ·exact hk j _ _
  ·refine cW (λp Z b=>?_) (aG.mp hd);subst b
   exact hk j _ _
noncomputable def lc2I (e:Expr):Expr:=((yt e)[1]?.map (·.iter)).getD default
noncomputable def V8 (e:Expr):Expr:=((yt e)[1]?.map (·.target)).getD default
noncomputable def Hq (e:Expr):List Expr:=((yt e)[1]?.map (·.ifs)).getD []
noncomputable def isLC2 (x:Expr):Bool:=eLC false x λZ gs Z Z=>l2 false gs λZ Z=>true
theorem HR {k:Nat}{σ:Sg}{e:Expr}{ds:List D}{es:D->List D}{y:D->D->D}{σ1:D->Sg}{σ2:D->D->Sg}{c1:D->Bool}{c2:D->D->Bool}(h:isLC2 e=true)(hs:qC (w6 e) (yt e) σ=true)(hi:gH (Rn k) σ (wK e)=some ds)
 (hd:∀d∈ds,gq (lcT e) d (under (w6 e) σ)=some (σ1 d)/\iB (Rn k) (σ1 d) (vD e)=some (c1 d)/\(c1 d=true->gH (Rn k) (σ1 d) (lc2I e)=some (es d)))
 (l:∀d∈ds,∀b∈es d,gq (V8 e) b (σ1 d)=some (σ2 d b)/\iB (Rn k) (σ2 d b) (Hq e)=some (c2 d b)/\(c2 d b=true->(Rn k).ev (σ2 d b) (iM e)=some (y d b)))
 (hl:((ds.filter c1).flatMap λd=>((es d).filter (c2 d)).map (y d)).length<=1000000):
 (Rn (k+1)).ev σ e=some (.list ((ds.filter c1).flatMap λd=>((es d).filter (c2 d)).map (y d))):=by
 revert hs hi hd l;refine YW nb h λa A i p h=>pH nb h λg f Z hs hi hd l=>?_
 ·have hs:qC i [g,f] σ=true:=hs
  have hi:gH (Rn k) σ g.iter=some ds:=hi;have hd:∀d∈ds,gq g.target d (under i σ)=some (σ1 d)/\iB (Rn k) (σ1 d) g.ifs=some (c1 d)/\(c1 d=true->gH (Rn k) (σ1 d) f.iter=some (es d)):=hd;have l:∀d∈ds,∀b∈es d,gq f.target b (σ1 d)=some (σ2 d b)/\iB (Rn k) (σ2 d b) f.ifs=some (c2 d b)/\(c2 d b=true->(Rn k).ev (σ2 d b) a=some (y d b)):=l;have key:iz (Rn k) (λσ=>(Rn k).ev σ a) [g,f] i σ=some ((ds.filter c1).flatMap λd=>((es d).filter (c2 d)).map (y d)):=by
   show(if qC i [g,f] σ then(oS none (gH (Rn k) σ g.iter) λds=>jB (Rn k) (wQ (Rn k) (λσ=>(Rn k).ev σ a) [f]) g (under i σ) ds)else none)=_;rw[ao hs,hi];show jB _ _ _ _ _=_
   rewrite [ph (σf:=σ1) (c:=c1) (ys:=λd=>((es d).filter (c2 d)).map (y d)) λd j=>?_]
   rfl;refine uA (λz v u=>?_) (hd d j);refine⟨z,v,λm=>?_⟩;show(oS none (gH (Rn k) (σ1 d) f.iter) λds=>jB (Rn k) (wQ (Rn k) (λσ=>(Rn k).ev σ a) []) f (σ1 d) ds)=_;rw[u m];show jB _ _ _ _ _=_
   rewrite [ph (σf:=σ2 d) (c:=c2 d) (ys:=λb=>[y d b]) λb o=>?_]
   ·rw[q9]
   ·refine uA (λt s q=>?_) (l d j b o)
    refine⟨t,s,λm=>?_⟩;show((Rn k).ev (σ2 d b) a).map (λx=>[x])=_;rw[q m];rfl
  show oS none (iz (Rn k) (λσ=>(Rn k).ev σ a) [g,f] i σ) (λys=>if small ys.length then some (D.list ys)else none)=_;rw[key];exact ao (dZ hl)
noncomputable def zG (i:Nat):Stmt:=iJ.body[i]?.getD (.Pass default)
theorem bodySh:iJ.body=[zG 0,zG 1,zG 2,zG 3,zG 4]:=⋯
noncomputable def shG:List (Str×D):=ig iJ.fd.scope
noncomputable def shN:List (Str×NameKind):=iJ.fd.scope.names
noncomputable abbrev X7:List Str:=iJ.turned
noncomputable def rp:List Str:=["row","plain"]
noncomputable def bSh (i:Nat):Stmt:=(jt (zG 1))[i]?.getD (.Pass default)
theorem bodySb:jt (zG 1)=[bSh 0,bSh 1]:=⋯
noncomputable def lam1:Expr:=Uk (coK (bSh 0))
section
variable (k:Nat)(S T U V X Y:Nat)
noncomputable def SH0:Sg:=⟨("texts",.list gB)::("words",.list (vJ S T U V X Y))::shG,shN⟩
noncomputable def SH (R:List Rw):Option Nat->Sg
 |none=>⟨("plain",.list (R.map CW))::("row",.list (R.map oF))::("texts",.list gB)::("words",.list (vJ S T U V X Y))::shG,shN⟩
 |some a=>⟨("at",.int a)::("plain",.list (R.map CW))::("row",.list (R.map oF))::("texts",.list gB)::("words",.list (vJ S T U V X Y))::shG,shN⟩
noncomputable def SHm (R b:List Rw)(a:Nat):Sg:=⟨("at",.int a)::("plain",.list (R.map CW))::("row",.list (b.map oF))::("texts",.list gB)::("words",.list (vJ S T U V X Y))::shG,shN⟩
theorem rU {R:List Rw}(h:Uq R){a:Nat}(d:a<6)(b:oY S T U V X Y a<4)(m:Option Nat)(ds:List D):mK (Rn (k+19)) X7 (oM (zG 1)) (jt (zG 1)) (.int a::ds) (SH S T U V X Y R m) rp=
 mK (Rn (k+19)) X7 (oM (zG 1)) (jt (zG 1)) ds (SH S T U V X Y (iI xx (a,oY S T U V X Y a) R) (some a)) rp:=by
 have c:a=0\/a=1\/a=2\/a=3\/a=4\/a=5:=M6 (by first|assumption|lia);refine iU (σ₁:=SH S T U V X Y R (some a)) (by induction m using aK<;>rfl') ?_;rw[cu (k+18),bodySb];rw[aJ (st:=bSh 0) (σ':=SHm S T U V X Y R (iI xx (a,oY S T U V X Y a) R) a) (own':=rp) (by
  rw[HQ (st:=bSh 0) (a:=.list (R.map oF)) (ds:=[oF (a,oY S T U V X Y a)]) (kds:=kw (lamOf lam1)) ⋯ ⋯ ⋯ ⋯ ⋯ (by refine Bp c ?_ ?_ ?_ ?_ ?_ ?_<;>rfl') ⋯
   (Wk (k+1) a h b ⋯ (λj p q=>⋯))]
  rfl')]
 refine aJ ?_;rw[HQ (st:=bSh 1) (a:=.list (R.map CW)) (ds:=[wD (oY S T U V X Y a)]) (kds:=[]) ⋯ ⋯ ⋯ ⋯ ⋯ (by refine Bp c ?_ ?_ ?_ ?_ ?_ ?_<;>rfl') ⋯
  (Ln (k+1) h b),Wl 0 a]
 rfl'
noncomputable def mj:List Rw:=iI xx (5,Y) (iI xx (4,X) (iI xx (3,V) (iI xx (2,U) (iI xx (1,T) (iI xx (0,S) [])))))
theorem m7 {R:List Rw}(h:Uq R)(hl:R.length<60){a w:Nat}(b:w<4):Uq (iI xx (a,w) R):=by
 refine⟨BX h.1,by rw[jX];assumption,λp hp=>?_⟩;rcases uV hp with rfl|hp
 ·exact b
 ·exact h.2.2 p hp
theorem Px (c:S<4)(b:T<4)(h2:U<4)(h3:V<4)(a:X<4)(h5:Y<4):Uq (mj S T U V X Y)/\(mj S T U V X Y).length=6:=by have e:Uq []:=⟨trivial,b7 _,λZ h=>absurd h bh⟩;unfold mj;refine⟨m7 (m7 (m7 (m7 (m7 (m7 e (by simp) c) ?_ b) ?_ h2) ?_ h3) ?_ a) ?_ h5,?_⟩<;>simp[jX]
theorem Vc (d:S<4)(c:T<4)(h2:U<4)(h3:V<4)(b:X<4)(h5:Y<4)(rest:List Stmt):
 fO (Rn (k+19)) X7 (SH0 S T U V X Y) [] (zG 0::zG 1::rest)=fO (Rn (k+19)) X7 (SH S T U V X Y (mj S T U V X Y) (some 5)) rp rest:=by
 have e:Uq []:=⟨trivial,b7 _,λZ h=>absurd h bh⟩;have j:=m7 e (by simp) (a:=0) d;have i:=m7 j (by simp[jX]) (a:=1) c;have g:=m7 i (by simp[jX]) (a:=2) h2;have f:=m7 g (by simp[jX]) (a:=3) h3;have l:=m7 f (by simp[jX]) (a:=4) b
 rewrite [aJ (st:=zG 0) (σ':=SH S T U V X Y [] none) (own':=rp) ⋯]
 refine aJ ?_;rw[qb ⋯ (ds:=[.int (0:Nat),.int (1:Nat),.int (2:Nat),.int (3:Nat),.int (4:Nat),.int (5:Nat)]) ⋯ ⋯];exact(rU k S T U V X Y e (a:=0) (by decide) d _ _).trans ((rU k S T U V X Y j (a:=1) (by decide) c _ _).trans ((rU k S T U V X Y i (a:=2) (by decide) h2 _ _).trans ((rU k S T U V X Y g (a:=3) (by decide) h3 _ _).trans ((rU k S T U V X Y f (a:=4) (by decide) b _ _).trans ((rU k S T U V X Y l (a:=5) (by decide) h5 _ _).trans rfl)))))
end
noncomputable def Xa:Expr:=dh (zG 2)
noncomputable def Um (i:Nat):Expr:=(listE (iM Xa))[i]?.getD default
noncomputable def ltN (R:List Rw)(t:Nat):Nat:=wu xx (3 - t) R
noncomputable def Yu (R:List Rw)(t:Nat):Nat:=qG xx (3 - t) R
noncomputable def JB (R:List Rw)(t:Nat):D:=.list [.int (ltN R t),.int (Yu R t),.int (ltN R t),.int (Yu R t)]
theorem xm {d:D}(hd:d∈gB):∃s,s<4/\d=wD s:=by
 simp only[gB,au,bh,cA]at hd;refine nY hd ?_ ?_ ?_ ?_
 ·exact⟨0,by decide,rfl⟩
 ·exact⟨1,by decide,rfl⟩
 ·exact⟨2,by decide,rfl⟩
 ·exact⟨3,by decide,rfl⟩
theorem oR {s:Nat}(h:s<4):codeOf (wD s)=s:=by have a:s=0\/s=1\/s=2\/s=3:=in4 (by first|assumption|lia);refine nY a ?_ ?_ ?_ ?_<;>rfl'
theorem z9 {β:Type}(f:Nat->β):gB.map (λd=>f (codeOf d))=(List.range 4).map f:=by show[f (codeOf (wD 0)),f (codeOf (wD 1)),f (codeOf (wD 2)),f (codeOf (wD 3))]=[f 0,f 1,f 2,f 3];rw[oR (by decide),oR (by decide),oR (by decide),oR (by decide)]
section
variable (k:Nat)(S T U V X Y:Nat)
noncomputable def wF (R:List Rw):List D:=(List.range 4).map (JB R)
theorem UJ {R:List Rw}(h:Uq R):(Rn (k+19)).ev (SH S T U V X Y R (some 5)) Xa=some (.list (wF R)):=by
 refine(gn (k:=k+18) (e:=Xa) (ds:=gB) (σs:=fG Xa (SH S T U V X Y R (some 5))) (c:=λZ=>true) (y:=λd=>JB R (codeOf d)) ⋯ ⋯ (gA (d:=.list gB) ⋯ ⋯ rfl) (λd f=>?_) (by decide)).trans ?_
 ·refine cW (λs b a=>?_) (xm f);subst a
  refine⟨⋯,⋯,λZ=>?_⟩;rw[oR b];have m:(Rn (k+17)).ev (fG Xa (SH S T U V X Y R (some 5)) (wD s)) (Um 0)=some (.int (ltN R s)):=by rw[jR (k:=k+16) (ds:=[.list (R.map CW),wD s]) ⋯ ⋯ ⋯];exact bl0 (k+4) (by rw[ak];exact h.2.1) (c:=ltN R s) (by rw[ak];exact lg _ _) (DN h b) rfl
  have l:(Rn (k+17)).ev (fG Xa (SH S T U V X Y R (some 5)) (wD s)) (Um 1)=some (.int (Yu R s)):=by rw[jR (k:=k+16) (ds:=[.list (R.map CW),wD s]) ⋯ ⋯ ⋯];exact br0 (k+4) (by rw[ak];exact h.2.1) (c:=Yu R s) (by rw[ak];exact mQ _ _) (Pb h b) rfl
  have i:(Rn (k+17)).ev (fG Xa (SH S T U V X Y R (some 5)) (wD s)) (Um 2)=some (.int (ltN R s)):=by
   rw[Cg (k:=k+16) (ds:=[.list (R.map oF),wD s]) (kds:=kw (lamOf (Uk (qz (Um 2))))) ⋯ ⋯ ⋯ ⋯];refine bl1 (k+4) (kv:=vM) (by rw[ak];exact h.2.1) ⋯ (λj d f=>?_) (c:=ltN R s) (by rw[ak];exact lg _ _) (Ot h b) rfl;refine cW (λp Z a=>?_) (aG.mp f);subst a
   rfl'
  have g:(Rn (k+17)).ev (fG Xa (SH S T U V X Y R (some 5)) (wD s)) (Um 3)=some (.int (Yu R s)):=by
   rw[Cg (k:=k+16) (ds:=[.list (R.map oF),wD s]) (kds:=kw (lamOf (Uk (qz (Um 3))))) ⋯ ⋯ ⋯ ⋯];refine br1 (k+4) (kv:=vM) (by rw[ak];exact h.2.1) ⋯ (λj d f=>?_) (c:=Yu R s) (by rw[ak];exact mQ _ _) (row_le h b) rfl;refine cW (λp Z a=>?_) (aG.mp f);subst a
   rfl'
  exact pJ (k:=k+17) ⋯ (by rw[show listE (iM Xa)=[Um 0,Um 1,Um 2,Um 3] by rfl'];exact bO m (bO l (bO i (bO g rfl))))
 ·rw[filter_true,z9 (JB R)]
  rfl
noncomputable def SH2 (R:List Rw)(ts:List D):Sg:=⟨("told",.list ts)::(SH S T U V X Y R (some 5)).vars,shN⟩
noncomputable def Zu (R:List Rw)(ts a:List D):Sg:=⟨("counts",.list a)::("told",.list ts)::(SH S T U V X Y R (some 5)).vars,shN⟩
theorem U9 {R:List Rw}(h:Uq R)(rest:List Stmt):fO (Rn (k+19)) X7 (SH S T U V X Y R (some 5)) rp (zG 2::rest)=fO (Rn (k+19)) X7 (SH2 S T U V X Y R (wF R)) [] rest:=by
 refine aJ ?_;rw[dg (st:=zG 2) ⋯ ⋯ (sV ⋯ (UJ k S T U V X Y h) rfl)]
 rfl'
noncomputable def CZ:Expr:=dh (zG 3)
noncomputable def eCl (i:Nat):Expr:=(listE (jJ (iM CZ)))[i]?.getD default
noncomputable def Y0 (i:Nat):Expr:=(cY (eCl i))[0]?.getD default
noncomputable def Ym (a:List Nat)(t:Nat):Nat:=(a.filter λw=>decide (3 - w<3 - t)).length
noncomputable def Yn (a:List Nat)(t:Nat):Nat:=(a.filter λw=>decide (3 - w<=3 - t)).length
noncomputable def zc (t:Nat):D:=.list [.int (Ym [S,T,U,V,X,Y] t),.int (Yn [S,T,U,V,X,Y] t),.int (Ym [S,T,U,V,X,Y] t),.int (Yn [S,T,U,V,X,Y] t)]
theorem Ni:vJ S T U V X Y=[S,T,U,V,X,Y].map wD:=rfl
theorem Mq {R:List Rw}{ts:List D}(K:S<4)(J:T<4)(h2:U<4)(h3:V<4)(I:X<4)(h5:Y<4):(Rn (k+19)).ev (SH2 S T U V X Y R ts) CZ=some (.list ((List.range 4).map (zc S T U V X Y))):=by
 have l:∀w∈[S,T,U,V,X,Y],w<4:=by simp;simp_all
 refine(gn (k:=k+18) (e:=CZ) (ds:=gB) (σs:=fG CZ (SH2 S T U V X Y R ts)) (c:=λZ=>true) (y:=λd=>zc S T U V X Y (codeOf d)) ⋯ ⋯ (gA (d:=.list gB) ⋯ ⋯ rfl) (λd i=>?_) (by decide)).trans ?_
 ·refine cW (λs m j=>?_) (xm i);subst j
  refine⟨⋯,⋯,λZ=>?_⟩;rw[oR m];have f:∀(e:Expr)(p:Nat->Bool),Ju e=true->qC (w6 e) (yt e) (fG CZ (SH2 S T U V X Y R ts) (wD s))=true->xf (wK e) (fG CZ (SH2 S T U V X Y R ts) (wD s))=false->
   (Rn (k+14)).ev (fG CZ (SH2 S T U V X Y R ts) (wD s)) (wK e)=some (.list (vJ S T U V X Y))->
   (∀w,w<4->gq (lcT e) (wD w) (under (w6 e) (fG CZ (SH2 S T U V X Y R ts) (wD s)))=some (fG e (fG CZ (SH2 S T U V X Y R ts) (wD s)) (wD w))/\iB (Rn (k+14)) (fG e (fG CZ (SH2 S T U V X Y R ts) (wD s)) (wD w)) (vD e)=some (p w)/\(Rn (k+14)).ev (fG e (fG CZ (SH2 S T U V X Y R ts) (wD s)) (wD w)) (iM e)=some (wD w))->
   (Rn (k+15)).ev (fG CZ (SH2 S T U V X Y R ts) (wD s)) e=some (.list (([S,T,U,V,X,Y].filter p).map wD)):=λe p H G F E C=>by
   refine(gn (k:=k+14) (e:=e) (ds:=vJ S T U V X Y) (σs:=fG e (fG CZ (SH2 S T U V X Y R ts) (wD s))) (c:=λd=>p (codeOf d)) (y:=id) H G (gA F E rfl) (λd i=>?_) (by show 6<=1000000;decide)).trans ?_
   ·rw[Ni]at i
    refine cW (λw g j=>?_) (aG.mp i);subst j;refine uA (λB A z=>?_) (C w (l w g));refine⟨B,?_,λZ=>z⟩;rw[oR (l w g)];exact A
   ·rw[List.map_id,Ni,dY]
    congr 3;refine dU λw g=>?_;show p (codeOf (wD w))=p w;rw[oR (l w g)]
  have x:=f (Y0 0) (λw=>decide (3 - w<3 - s)) ⋯ ⋯ ⋯ ⋯ λw h=>⟨⋯,by rw[show vD (Y0 0)=[(vD (Y0 0))[0]?.getD default] by rfl'];refine fZ ?_;rw[iy (k:=k+13) (a:=wD w) (b:=wD s) ⋯ ⋯ ⋯];exact ltD h m,⋯⟩
  have v:=f (Y0 1) (λw=>decide (3 - w<=3 - s)) ⋯ ⋯ ⋯ ⋯ λw h=>⟨⋯,by rw[show vD (Y0 1)=[(vD (Y0 1))[0]?.getD default] by rfl'];refine fZ ?_;rw[iy (k:=k+13) (a:=wD w) (b:=wD s) ⋯ ⋯ ⋯];show some (!K6 (wS s) (wS w))=_;rw[eq_of_beq (all2 Yp m h)];congr 1;rw[<-decide_not];exact bI.mpr (by simp),⋯⟩
  have o:∀p:Nat->Bool,(([S,T,U,V,X,Y].filter p).map wD).length<=6:=λp=>by rw[ak];exact cg p _
  have u:(Rn (k+16)).ev (fG CZ (SH2 S T U V X Y R ts) (wD s)) (eCl 0)=some (.int (Ym [S,T,U,V,X,Y] s)):=by
   rw[j6 (k:=k+15) ⋯ ⋯ (by rw[show cY (eCl 0)=[Y0 0] by rfl'];exact bO x rfl)]
   show(if small _=true then some (D.int (List.length _))else none)=_;rw[ao (dZ (aA (o _) (by decide))),ak];rfl
  have t:(Rn (k+16)).ev (fG CZ (SH2 S T U V X Y R ts) (wD s)) (eCl 1)=some (.int (Yn [S,T,U,V,X,Y] s)):=by
   rw[j6 (k:=k+15) ⋯ ⋯ (by rw[show cY (eCl 1)=[Y0 1] by rfl'];exact bO v rfl)]
   show(if small _=true then some (D.int (List.length _))else none)=_;rw[ao (dZ (aA (o _) (by decide))),ak];rfl
  have q:(Rn (k+17)).ev (fG CZ (SH2 S T U V X Y R ts) (wD s)) (jJ (iM CZ))=some (.list [.int (Ym [S,T,U,V,X,Y] s),.int (Yn [S,T,U,V,X,Y] s)]):=pJ (k:=k+16) ⋯ (by rw[show listE (jJ (iM CZ))=[eCl 0,eCl 1] by rfl'];exact bO u (bO t rfl))
  rw[fQ (k:=k+17) ⋯ q (b:=.int 2) ⋯]
  rfl'
 ·rw[filter_true,z9 (zc S T U V X Y)]
theorem Kz {R:List Rw}{ts:List D}(c:S<4)(b:T<4)(h2:U<4)(h3:V<4)(a:X<4)(h5:Y<4)(rest:List Stmt):fO (Rn (k+19)) X7 (SH2 S T U V X Y R ts) [] (zG 3::rest)=fO (Rn (k+19)) X7 (Zu S T U V X Y R ts ((List.range 4).map (zc S T U V X Y))) [] rest:=by
 refine aJ ?_;rw[dg (st:=zG 3) ⋯ ⋯ (du (Mq k S T U V X Y c b h2 h3 a h5))]
 rfl'
end
noncomputable def Ow (b:List Nat):List Rw:=[3,2,1,0].flatMap λt=>([5,4,3,2,1,0].filter λa=>b[a]?.getD 0==t).map λa=>(a,t)
noncomputable def eqRw (r s:List Rw):Bool:=@List.rec Rw (λZ=>List Rw->Bool) List.isEmpty (λp Z a s=>lc false s λq s=>Nat.beq p.1 q.1&&Nat.beq p.2 q.2&&a s) r s
theorem W4 {r s:List Rw}(h:eqRw r s=true):r=s:=by
 induction r generalizing s with
 |nil=>exact(List.isEmpty_iff.mp h).symm
 |cons p r c=>
  refine nJ nb h λq s h=>?_;have a:=az.mp h;have b:=az.mp a.1;rw[show p=q from Prod.ext (bN b.1) (bN b.2),c a.2]
noncomputable def Ox (S:Nat):Bool:=(List.range 4).all λT=>(List.range 4).all λU=>(List.range 4).all λV=>(List.range 4).all λX=>(List.range 4).all λY=>eqRw (mj S T U V X Y) (Ow [S,T,U,V,X,Y])
theorem row_0:Ox 0=true:=⋯
theorem row_1:Ox 1=true:=⋯
theorem row_2:Ox 2=true:=⋯
theorem row_3:Ox 3=true:=⋯
theorem row_eq {S T U V X Y:Nat}(c:S<4)(b:T<4)(h2:U<4)(h3:V<4)(a:X<4)(h5:Y<4):mj S T U V X Y=Ow [S,T,U,V,X,Y]:=by have h:Ox S=true:=nY (in4 c) row_0 row_1 row_2 row_3;have g:=aU.mp h T (bf.mpr b);have f:=aU.mp g U (bf.mpr h2);have e:=aU.mp f V (bf.mpr h3);have d:=aU.mp e X (bf.mpr a);exact W4 (aU.mp d Y (bf.mpr h5))
theorem Ar (p:Rw->Bool)(q:Nat->Bool)(h:∀a w,p (a,w)=q w)(S T U V X Y:Nat):(mj S T U V X Y).countP p=([S,T,U,V,X,Y].filter q).length:=by
 unfold mj;rw[<-List.countP_eq_length_filter];simp only[v7,h,dH,List.countP_nil]
 lia
section
variable {S T U V X Y:Nat}(h0:S<4)(h1:T<4)(h2:U<4)(h3:V<4)(h4:X<4)(h5:Y<4)
include h0 h1 h2 h3 h4 h5
theorem Dn:wF (mj S T U V X Y)=(List.range 4).map (zc S T U V X Y):=by
 have b:=(Px S T U V X Y h0 h1 h2 h3 h4 h5).1;unfold wF;refine cj λt Z=>?_;have d:ltN (mj S T U V X Y) t=Ym [S,T,U,V,X,Y] t:=by unfold ltN Ym;rw[Aw b.1];exact Ar _ _ (λa w=>rfl) _ _ _ _ _ _
 have c:Yu (mj S T U V X Y) t=Yn [S,T,U,V,X,Y] t:=by unfold Yu Yn;rw[lE b.1];exact Ar _ _ (λa w=>rfl) _ _ _ _ _ _
 unfold JB zc;rw[d,c]
end
noncomputable def zy (x:Expr):List Expr:=eBo [] x λZ es Z=>es
noncomputable def isAnd (x:Expr):Bool:=eBo false x λo Z Z=>o.ctorIdx==0
theorem Cj {k:Nat}{σ:Sg}{e:Expr}(h:isAnd e=true):(Rn (k+1)).ev σ e=CP (Rn k) σ (zy e):=by
 refine Y4 nb h λo a p h=>?_
 induction o using BoolOp.casesOn with
 |And=>rfl
 |Or=>nomatch h
theorem slice_list (xs:List D)(l u:Option Int):lZ (.list xs) l u=if l.all gC/\u.all gC/\small xs.length then some (.list (jm xs l u))else none:=rfl
theorem eq_list (a b:List D):jh .Eq (.list a) (.list b)=W7 (.list a) (.list b):=rfl
theorem and_true {r:Rec}{σ:Sg}{e e':Expr}{es:List Expr}(h:r.ev σ e=some (.bool true)):CP r σ (e::e'::es)=CP r σ (e'::es):=by show(oS none (r.ev σ e) λd=>dB none d λb=>cond b (CP r σ (e'::es)) (some (.bool false)))=_;rw[h];rfl
theorem yW {α:Type}(g:α->List D)(h:∀a,∀d∈g a,flat d=true)(l:List α):W7 (.list (l.map λa=>.list (g a))) (.list (l.map λa=>.list (g a)))=some true:=
 kW (n:=19) λd b=>by refine cW (λa Z c=>?_) (aG.mp b);subst c;exact kW (n:=18) λd b=>nq (h a d b)
noncomputable def eRs:Expr:=m6 (zG 4)
noncomputable def Xc (i:Nat):Expr:=(zy eRs)[i]?.getD default
noncomputable def eR2:Expr:=pK (Xc 1)
noncomputable def eR3:Expr:=pK (Xc 2)
theorem ZR {a b:Nat}(c:a<4)(hb:b<4):(wS a==wS b)=(a==b):=eq_of_beq (all2 Bb c hb)
section
variable (k:Nat){S T U V X Y:Nat}(h0:S<4)(h1:T<4)(h2:U<4)(h3:V<4)(h4:X<4)(h5:Y<4)
include h0 h1 h2 h3 h4 h5
theorem Ov {R:List Rw}{ts i:List D}:(Rn (k+17)).ev (Zu S T U V X Y R ts i) eR2=some (.list ((Ow [S,T,U,V,X,Y]).map oF)):=by
 have o:∀a,a<6->oY S T U V X Y a<4:=λa c=>by have q:a=0\/a=1\/a=2\/a=3\/a=4\/a=5:=M6 (by first|assumption|lia);refine Bp q ?_ ?_ ?_ ?_ ?_ ?_<;>assumption
 have m:∀ts:List Nat,(ts.flatMap λt=>(([5,4,3,2,1,0]:List Nat).filter λa=>oY S T U V X Y a==t).map λa=>oF (a,t)).length<=6 * ts.length:=λts=>by
  induction ts with
  |nil=>exact bG _
  |cons t r u=>
   rw[fD,aW,ak,bx];have:=cg (λa=>oY S T U V X Y a==t) ([5,4,3,2,1,0]:List Nat);have:([5,4,3,2,1,0]:List Nat).length=6:=rfl
   lia
 have es:∀t,t<4->((([5,4,3,2,1,0]:List Nat).map λ(a:Nat)=>D.int a).filter λb=>wS (oY S T U V X Y (intOf b).toNat)==wS (codeOf (wD t))).map (λb=>D.list [b,wD t])=(([5,4,3,2,1,0]:List Nat).filter λa=>oY S T U V X Y a==t).map λa=>oF (a,t):=λt j=>by
  rw[dY,aV];have:([5,4,3,2,1,0]:List Nat).filter ((λb=>wS (oY S T U V X Y (intOf b).toNat)==wS (codeOf (wD t)))∘λ(a:Nat)=>D.int a)=([5,4,3,2,1,0]:List Nat).filter λa=>oY S T U V X Y a==t:=by
   refine dU λa c=>?_;have c:a<6:=by
    simp only[au,bh,cA]at c
    lia
   show(wS (oY S T U V X Y a)==wS (codeOf (wD t)))=_;rw[oR j,ZR (o a c) j]
  rw[this];rfl
 have f:((([wD 3,wD 2,wD 1,wD 0]:List D).filter λZ=>true).flatMap λd=>(((([5,4,3,2,1,0]:List Nat).map λ(a:Nat)=>D.int a)).filter λb=>wS (oY S T U V X Y (intOf b).toNat)==wS (codeOf d)).map λb=>D.list [b,d])=
  ([3,2,1,0]:List Nat).flatMap λt=>(([5,4,3,2,1,0]:List Nat).filter λa=>oY S T U V X Y a==t).map λa=>oF (a,t):=by
  rw[filter_true];simp only[fD,List.flatMap_nil];rw[es 3 (by decide),es 2 (by decide),es 1 (by decide),es 0 (by decide)]
 have e:=HR (k:=k+16) (e:=eR2) (σ:=Zu S T U V X Y R ts i) (ds:=[wD 3,wD 2,wD 1,wD 0]) (es:=λZ=>([5,4,3,2,1,0]:List Nat).map λ(a:Nat)=>D.int a) (σ1:=fG eR2 (Zu S T U V X Y R ts i))
  (σ2:=λd b=>(gq (V8 eR2) b (fG eR2 (Zu S T U V X Y R ts i) d)).getD ⟨[],[]⟩) (c1:=λZ=>true) (c2:=λd b=>wS (oY S T U V X Y (intOf b).toNat)==wS (codeOf d)) (y:=λd b=>.list [b,d])
  ⋯ ⋯ (gA (d:=.list [wD 3,wD 2,wD 1,wD 0]) ⋯ ⋯ rfl)
  (λd h=>by
   have:∃s,s<4/\d=wD s:=xm (by simp only[au,bh,cA]at h;refine nY h ?_ ?_ ?_ ?_<;>simp[gB])
   revert this;refine cW λs l g=>?_;subst g;exact⟨⋯,⋯,λZ=>⋯⟩)
  (λd h b p=>by
   have:∃s,s<4/\d=wD s:=xm (by simp only[au,bh,cA]at h;refine nY h ?_ ?_ ?_ ?_<;>simp[gB])
   revert this;refine cW λs l g=>?_;subst g;refine cW (λa c g=>?_) (aG.mp p);subst g;refine⟨⋯,?_,λZ=>⋯⟩;rw[show Hq eR2=[(Hq eR2)[0]?.getD default] by rfl'];refine fZ ?_;rw[oR l];simp only[au,bh,cA]at c;refine Bp c ?_ ?_ ?_ ?_ ?_ ?_<;>rfl') (by rw[f];exact aA (m _) (by decide))
 rw[e,f];congr 2;unfold Ow;rw[List.map_flatMap];congr 1;funext t;rw[aV];rfl
theorem G4:(Rn (k+21)).callF "_law_shelved" [.list (vJ S T U V X Y),.list gB] []=some (.bool true):=by
 have i:=Px S T U V X Y h0 h1 h2 h3 h4 h5;refine gj (f:=iJ) (σ₀:=SH0 S T U V X Y) ⋯ ⋯ ⋯ ⋯ (sg:=Zu S T U V X Y (mj S T U V X Y) (wF (mj S T U V X Y)) ((List.range 4).map (zc S T U V X Y))) (ow:=[]) ?_;rw[bodySh,cu (k+19)];rw[Vc k S T U V X Y h0 h1 h2 h3 h4 h5,U9 k S T U V X Y i.1,Kz k S T U V X Y h0 h1 h2 h3 h4 h5];refine fL (gm ⋯ (du ?_));refine(Cj (k:=k+18) ⋯).trans ?_;rw[show zy (m6 (zG 4))=[Xc 0,Xc 1,Xc 2] by rfl'];rw[and_true,and_true]
 ·show(Rn (k+18)).ev _ (Xc 2)=_
  have j:(Rn (k+17)).ev (Zu S T U V X Y (mj S T U V X Y) (wF (mj S T U V X Y)) ((List.range 4).map (zc S T U V X Y))) eR3=some (.list ((mj S T U V X Y).map CW)):=by
   refine(gn (k:=k+16) (e:=eR3) (ds:=(mj S T U V X Y).map oF) (σs:=fG eR3 (Zu S T U V X Y (mj S T U V X Y) (wF (mj S T U V X Y)) ((List.range 4).map (zc S T U V X Y)))) (c:=λZ=>true) (y:=vM)
    ⋯ ⋯ (gA (d:=.list ((mj S T U V X Y).map oF)) ⋯ ⋯ rfl) (λd g=>?_) (by rw[ak,i.2];decide)).trans ?_
   ·refine cW (λp Z h=>?_) (aG.mp g);subst h
    exact⟨⋯,⋯,λZ=>⋯⟩
   ·rw[filter_true,aV]
    rfl
  rw[qd (k:=k+17) ⋯ (a:=.list ((mj S T U V X Y).map CW)) ⋯ j,show s6 (Xc 2)=.Eq by rfl'];rw[eq_list];have:W7 (.list ((mj S T U V X Y).map CW)) (.list ((mj S T U V X Y).map CW))=some true:=kW (n:=19) λd g=>by refine cW (λp Z h=>?_) (aG.mp g);subst h;exact nq rfl
  rw[this];rfl
 ·rw[qd (k:=k+17) ⋯ (a:=.list ((mj S T U V X Y).map oF)) ⋯ (Ov k h0 h1 h2 h3 h4 h5),show s6 (Xc 1)=.Eq by rfl',row_eq h0 h1 h2 h3 h4 h5]
  rw[eq_list];have:=yW (λp:Rw=>[D.int p.1,wD p.2]) (λa d g=>by simp only[au,bh,cA]at g;refine wH g ?_ ?_<;>rfl) (Ow [S,T,U,V,X,Y])
  unfold oF;rw[this];rfl
 ·rw[qd (k:=k+17) ⋯ (a:=.list (wF (mj S T U V X Y))) (b:=.list ((List.range 4).map (zc S T U V X Y))) ⋯ ⋯,show s6 (Xc 0)=.Eq by rfl',Dn h0 h1 h2 h3 h4 h5]
  rw[eq_list];have:=yW (λt:Nat=>[D.int (Ym [S,T,U,V,X,Y] t),.int (Yn [S,T,U,V,X,Y] t),.int (Ym [S,T,U,V,X,Y] t),.int (Yn [S,T,U,V,X,Y] t)]) (λa d g=>by simp only[au,bh,cA]at g;refine nY g ?_ ?_ ?_ ?_<;>rfl) (List.range 4)
  unfold zc;rw[this];rfl
end
theorem Vz (a b:List D):jh .NotEq (.list a) (.list b)=(W7 (.list a) (.list b)).map not:=rfl
theorem VB (ks c:List Str)(a b:List D):jh .NotEq (.sdict ks a) (.sdict c b)=if ks=c/\a.length=b.length/\ks.length=a.length then(W5 a b).map not else none:=by
 show Option.map not (if ks=c/\a.length=b.length/\ks.length=a.length then W5 a b else none)=_;by_cases h:ks=c/\a.length=b.length/\ks.length=a.length
 ·rw[ao h,ao h]
 ·rw[aq h,aq h];rfl
theorem QR (k:Nat)(hs:List D)(hl:hs.length<=1000):(Rn (k+6)).callF "Headers.items" [.inst hs] []=some (.list hs):=by refine gj (f:=kO) (σ₀:=⟨("self",.inst hs)::ig kO.fd.scope,kO.fd.scope.names⟩) ⋯ ⋯ ⋯ ⋯ (sg:=⟨("self",.inst hs)::ig kO.fd.scope,kO.fd.scope.names⟩) (ow:=[]) ?_;rw[show kO.body=[kO.body[0]?.getD (.Pass default)] by rfl',cu (k+4)];refine fL (gm ⋯ (du ?_));rw[mW (k:=k+3) (d:=.list hs) (a:=none) (b:=none) ⋯ ⋯ ⋯ ⋯];show(if _/\_/\small hs.length=true then some (D.list (jm hs none none))else none)=_;rw[ao ⟨rfl,rfl,dZ (by exact aA ‹_› (by decide))⟩];show some (D.list ((hs.take hs.length).drop 0))=_;rw[List.take_length,List.drop_zero]
noncomputable def notE (x:Expr):Expr:=eUn default x λZ e Z=>e
noncomputable def isNot (x:Expr):Bool:=eUn false x λo Z Z=>o.ctorIdx==1
noncomputable def Wi (x:Expr):Bool:=jj false x λZ Z Z Z=>true
theorem Nu {k:Nat}{σ:Sg}{e:Expr}{b:Bool}(h:isNot e=true)(ht:(Rn k).tst σ (notE e)=some b):(Rn (k+1)).tst σ e=some (!b):=by
 revert ht;refine eUn_i nb h λo e p h ht=>?_
 induction o using UnaryOp.casesOn with
 |Not=>
  have ht:(Rn k).tst σ e=some b:=ht;show((Rn k).tst σ e).map not=_;rw[ht];rfl
 |_=>nomatch h
theorem Ke {k:Nat}{σ:Sg}{e:Expr}{b:Bool}(h:Wi e=true)(ht:(Rn k).ev σ e=some (.bool b)):(Rn (k+1)).tst σ e=some b:=by revert ht;refine jY nb h λf c a p Z ht=>?_;show(oS none ((Rn k).ev σ (.Call f c a p)) λd=>dB none d λb=>some b)=_;rw[ht];rfl
noncomputable def Ul (i:Nat):Expr:=(orL (yI (gr 14)))[i]?.getD default
section
variable (k:Nat)(scr:List Int)(K L M N O P Q R S T U V X Y:Int)(as qs me:List D)(o:Option (D×D))(E F G H I J:Nat)(t0 t1 t2 t3 t4 t5:D)
noncomputable def J1:Sg:=S12 scr K L M N O P Q R S T U V X Y as qs (vJ E F G H I J) me (iC E F G H I J) (iC E F G H I J) ((List.range 4).map λs=>.list (mq E F G H I J s)) o E F G H I J t0 t1 t2 t3 t4 t5 ((List.range 4).map λs=>.list (nu (mask [E,F,G,H,I,J] s)))
theorem law15 (h:E<4)(g:F<4)(h2:G<4)(h3:H<4)(f:I<4)(h5:J<4)(rest:List Stmt):
 fO (Rn (k+31)) tL (J1 scr K L M N O P Q R S T U V X Y as qs me o E F G H I J t0 t1 t2 t3 t4 t5) [] (gr 14::rest)=fO (Rn (k+31)) tL (J1 scr K L M N O P Q R S T U V X Y as qs me o E F G H I J t0 t1 t2 t3 t4 t5) [] rest:=by
 have p:(Rn (k+30)).tst (J1 scr K L M N O P Q R S T U V X Y as qs me o E F G H I J t0 t1 t2 t3 t4 t5) (Ul 0)=some false:=by
  have j:(Rn (k+29)).ev (J1 scr K L M N O P Q R S T U V X Y as qs me o E F G H I J t0 t1 t2 t3 t4 t5) (oU (Ul 0))=some (.list (iC E F G H I J)):=by
   have:(Rn (k+29)).ev (J1 scr K L M N O P Q R S T U V X Y as qs me o E F G H I J t0 t1 t2 t3 t4 t5) (oU (Ul 0))=(Rn (k+28)).callF "Headers.items" [.inst (iC E F G H I J)] []:=by induction o using aK<;>rfl'
   rw[this];exact QR (k+22) _ (by show 6<=1000;decide)
  rw[iy (k:=k+29) ⋯ j (b:=.list (iC E F G H I J)) (by induction o using aK<;>rfl'),show s6 (Ul 0)=.NotEq by rfl',Vz];have:W7 (.list (iC E F G H I J)) (.list (iC E F G H I J))=some true:=kW (n:=19) λd c=>by
   refine cW (λa Z e=>?_) (aG.mp c);subst e;show(if [tM (oY E F G H I J a) (a % 3),Cw (jl E F G H I J a)].length=[tM (oY E F G H I J a) (a % 3),Cw (jl E F G H I J a)].length then H3 (Cp 18) [tM (oY E F G H I J a) (a % 3),Cw (jl E F G H I J a)] [tM (oY E F G H I J a) (a % 3),Cw (jl E F G H I J a)]else none)=_;rw[ao rfl];exact u9 λd c=>by
    simp only[au,bh,cA]at c;refine wH c ?_ ?_
    ·exact nq rfl
    ·exact nq rfl
  rw[this];rfl
 have m:(Rn (k+30)).tst (J1 scr K L M N O P Q R S T U V X Y as qs me o E F G H I J t0 t1 t2 t3 t4 t5) (Ul 1)=some false:=by
  rw[iy (k:=k+29) ⋯ (a:=.sdict kS ((List.range 4).map λs=>.list (mq E F G H I J s))) (b:=.sdict kS ((List.range 4).map λs=>.list (nu (mask [E,F,G,H,I,J] s)))) (by induction o using aK<;>rfl') (by induction o using aK<;>rfl'),show s6 (Ul 1)=.NotEq by rfl'];have eq:((List.range 4).map λs=>D.list (mq E F G H I J s))=(List.range 4).map λs=>.list (nu (mask [E,F,G,H,I,J] s)):=cj λs i=>by rw[yP h g h2 h3 f h5 (bf.mp i)]
  rw[eq,VB];rw[ao ⟨rfl,rfl,⋯⟩];have:W5 ((List.range 4).map λs=>D.list (nu (mask [E,F,G,H,I,J] s))) ((List.range 4).map λs=>.list (nu (mask [E,F,G,H,I,J] s)))=some true:=u9 λd c=>by
   refine cW (λs Z e=>?_) (aG.mp c);subst e;exact kW (n:=19) λd c=>by refine cW (λa Z e=>?_) (aG.mp c);subst e;exact nq rfl
  rw[this];rfl
 have l:(Rn (k+30)).tst (J1 scr K L M N O P Q R S T U V X Y as qs me o E F G H I J t0 t1 t2 t3 t4 t5) (Ul 2)=some false:=by refine Nu (k:=k+29) (b:=true) ⋯ (Ke (k:=k+28) ⋯ ?_);rw[jR (k:=k+27) (ds:=[.list (vJ E F G H I J),.list gB]) ⋯ (by induction o using aK<;>rfl') (by induction o using aK<;>rfl')];exact G4 (k+6) h g h2 h3 f h5
 refine aJ ?_;rw[fP ⋯ (by rw[Nt (k:=k+30) ⋯,show orL (yI (gr 14))=[Ul 0,Ul 1,Ul 2] by rfl',any_false p,any_false m,any_false l];rfl)]
 rfl'
end
noncomputable abbrev eQ:Type:=Nat×Nat
noncomputable def jf (p:eQ):D:=.list [.int p.1,.int p.2]
noncomputable def dO (l:List eQ):D:=.list (l.map jf)
noncomputable def fst2 (x:D):D:=dL .none x λl=>l2 .none l λa Z=>a
noncomputable def f2 (d:D):Int:=intOf (fst2 d)
noncomputable def s2 (d:D):Int:=intOf (vM d)
noncomputable def fJ (l:List Nat):List D:=l.map λ(x:Nat)=>.int x
noncomputable def gh (kd:Nat)(one two:List eQ)(b:Nat):List Nat:=match kd with
 |0=>(one.filter λa=>decide (b<=a.1)).flatMap λa=>(two.filter λc=>decide (a.2<c.1)).map λc=>c.2
 |1=>(one.filter λa=>decide (b<=a.1)).flatMap λa=>(two.filter λc=>decide (b<=c.1)).map λc=>max a.2 c.2
 |_=>((one++two).filter λa=>decide (b<=a.1)).map λa=>a.2
theorem Cu (one two:List eQ)(b:Nat):gh 0 one two b=(one.filter λa=>decide (b<=a.1)).flatMap λa=>(two.filter λc=>decide (a.2<c.1)).map λc=>c.2:=rfl
theorem Cr (one two:List eQ)(b:Nat):gh 1 one two b=(one.filter λa=>decide (b<=a.1)).flatMap λa=>(two.filter λc=>decide (b<=c.1)).map λc=>max a.2 c.2:=rfl
theorem W9 (one two:List eQ)(b:Nat):gh 2 one two b=((one++two).filter λa=>decide (b<=a.1)).map λa=>a.2:=rfl
noncomputable def Ho (l:List Nat):Nat:=l.foldr min 6
theorem vU:∀(r:List Nat)(a:Nat),zO (a:Int) ((r.map λ(x:Nat)=>(x:Int))++[6])=((min a (Ho r):Nat):Int)
 |[],a=>by show(if (6:Int)<a then(6:Int)else a)=((min a 6:Nat):Int);split<;>lia
 |b::r,a=>by
  show zO (if (b:Int)<a then(b:Int)else a) ((r.map λ(x:Nat)=>(x:Int))++[6])=((min a (min b (Ho r)):Nat):Int);by_cases q:(b:Int)<a
  ·rw[ao q,vU r b]
   lia
  ·rw[aq q,vU r a]
   lia
theorem Al:∀l:List Nat,mF (fJ l)=some (l.map λ(x:Nat)=>(x:Int))
 |[]=>rfl
 |a::r=>by show oS none (mF (fJ r)) _=_;rw[Al r];rfl
theorem biRg (a:Int):xG [.int a]=if gC a then some (.rng 0 a)else none:=⋯
theorem PQ (l:List Nat):JV [.list (fJ l++[.int 6])]=some (.int (Ho l:Nat)):=by
 have e:fJ l++[D.int 6]=fJ (l++[6]):=by unfold fJ;rw[bu];rfl
 rw[e];show oS none (mF (fJ (l++[6]))) _=_;rw[Al]
 induction l using gY with
 |nil=>rfl
 |cons a r=>
  rw[List.cons_append,aX,bu];show some (D.int (zO (a:Int) ((r.map λ(x:Nat)=>(x:Int))++[6])))=_;rw[vU];rfl
theorem sJ {p:D->Bool}{q:eQ->Bool}(h:∀a,p (jf a)=q a)(l:List eQ):(l.map jf).filter p=(l.filter q).map jf:=by rw[dY];congr 1;exact dU λa Z=>h a
noncomputable def sT (i:Nat):Stmt:=ju.body[i]?.getD (.Pass default)
theorem Zb:ju.body=[sT 0,sT 1,sT 2,sT 3]:=⋯
noncomputable def ttG:List (Str×D):=ig ju.fd.scope
noncomputable def ttN:List (Str×NameKind):=ju.fd.scope.names
noncomputable abbrev tT:List Str:=ju.turned
noncomputable def nO:List Str:=["nearest"]
noncomputable def bT (i:Nat):Stmt:=(jt (sT 2))[i]?.getD (.Pass default)
theorem bodyTb:jt (sT 2)=[bT 0,bT 1]:=⋯
noncomputable def TG:Stmt:=(q7 (bT 0))[0]?.getD (.Pass default)
noncomputable def Zn:Stmt:=(zH (bT 0))[0]?.getD (.Pass default)
noncomputable def TF:Stmt:=(q7 Zn)[0]?.getD (.Pass default)
noncomputable def Tz:Stmt:=(zH Zn)[0]?.getD (.Pass default)
section
variable (k:Nat)(kd:Nat)(one two:List eQ)
noncomputable def TS:Sg:=⟨("two",dO two)::("one",dO one)::("kind",.int kd)::ttG,ttN⟩
noncomputable def TN (ns:List D):Option (Nat×List D)->Sg
 |none=>⟨("nearest",.list ns)::(TS kd one two).vars,ttN⟩
 |some (b,es)=>⟨("ends",.list es)::("begin",.int b)::("nearest",.list ns)::(TS kd one two).vars,ttN⟩
noncomputable def TB (ns:List D)(b:Nat):Option (List D)->Sg
 |none=>⟨("begin",.int b)::("nearest",.list ns)::(TS kd one two).vars,ttN⟩
 |some es=>TN kd one two ns (some (b,es))
noncomputable def TW (b:Nat):Option (List D)->Sg
 |none=>⟨("begin",.int b)::(TS kd one two).vars,ttN⟩
 |some es=>⟨("ends",.list es)::("begin",.int b)::(TS kd one two).vars,ttN⟩
theorem ur (ns:List D)(b:Nat)(m:Option (List D)):without nO (TB kd one two ns b m)=TW kd one two b m:=by induction m using aK<;>rfl'
theorem ends0 (b:Nat)(m:Option (List D))(hl:one.length<=6/\two.length<=6):(Rn (k+10)).ev (TW 0 one two b m) (dh TG)=some (.list (fJ (gh 0 one two b))):=by
 have f:(((one.map jf).filter λd=>decide ((b:Int)<=f2 d)).flatMap λd=>((two.map jf).filter λc=>decide (s2 d<f2 c)).map vM)=fJ (gh 0 one two b):=by
  rw[sJ (q:=λa=>decide (b<=a.1)) (λa=>by show decide ((b:Int)<=(a.1:Int))=_;exact bI.mpr (by simp)) one,List.flatMap_map]
  unfold fJ;rw[Cu];rw[List.map_flatMap];congr 1;funext a;rw[sJ (q:=λc=>decide (a.2<c.1)) (λc=>by show decide ((a.2:Int)<(c.1:Int))=_;exact bI.mpr (by simp)),aV,aV]
  rfl
 have h:(fJ (gh 0 one two b)).length<=1000000:=by
  unfold fJ;rw[Cu];rw[ak];have:∀l:List eQ,(l.flatMap λa=>(two.filter λc=>decide (a.2<c.1)).map λc=>c.2).length<=l.length * 6:=λl=>by
   induction l with
   |nil=>exact bG _
   |cons a r o=>
    rw[fD,aW,ak,bx];have:=cg (λc:eQ=>decide (a.2<c.1)) two
    lia
  have s:=this (one.filter λa=>decide (b<=a.1));have p:=cg (λa:eQ=>decide (b<=a.1)) one
  lia
 refine(HR (k:=k+9) (e:=dh TG) (σ:=TW 0 one two b m) (ds:=one.map jf) (es:=λZ=>two.map jf) (σ1:=fG (dh TG) (TW 0 one two b m)) (σ2:=λd c=>(gq (V8 (dh TG)) c (fG (dh TG) (TW 0 one two b m) d)).getD ⟨[],[]⟩)
  (c1:=λd=>decide ((b:Int)<=f2 d)) (c2:=λd c=>decide (s2 d<f2 c)) (y:=λZ c=>vM c) ⋯ (by induction m using aK<;>rfl') (gA (d:=dO one) ⋯ (by induction m using aK<;>rfl') rfl)
  (λd i=>?_) (λd i c j=>?_) (by rw[f];exact h)).trans (by rw[f])
 ·refine cW (λa Z g=>?_) (aG.mp i);subst g
  refine⟨by induction m using aK<;>rfl',?_,λZ=>gA (d:=dO two) ⋯ (by induction m using aK<;>rfl') rfl⟩;rw[show vD (dh TG)=[(vD (dh TG))[0]?.getD default] by rfl'];refine fZ ?_
  induction m using aK<;>rfl'
 ·refine cW (λa Z g=>?_) (aG.mp i);subst g
  refine cW (λc Z g=>?_) (aG.mp j);subst g;refine⟨by induction m using aK<;>rfl',?_,λZ=>by induction m using aK<;>rfl'⟩;rw[show Hq (dh TG)=[(Hq (dh TG))[0]?.getD default] by rfl'];refine fZ ?_
  induction m using aK<;>rfl'
theorem ends1 (b:Nat)(m:Option (List D))(hl:one.length<=6/\two.length<=6):(Rn (k+10)).ev (TW 1 one two b m) (dh TF)=some (.list (fJ (gh 1 one two b))):=by
 have f:(((one.map jf).filter λd=>decide ((b:Int)<=f2 d)).flatMap λd=>((two.map jf).filter λc=>decide ((b:Int)<=f2 c)).map λc=>D.int (if s2 c > s2 d then s2 c else s2 d))=fJ (gh 1 one two b):=by
  rw[sJ (q:=λa=>decide (b<=a.1)) (λa=>by show decide ((b:Int)<=(a.1:Int))=_;exact bI.mpr (by simp)) one,List.flatMap_map]
  unfold fJ;rw[Cr];rw[List.map_flatMap];congr 1;funext a;rw[sJ (q:=λc=>decide (b<=c.1)) (λc=>by show decide ((b:Int)<=(c.1:Int))=_;exact bI.mpr (by simp)),aV,aV]
  apply cj;intro c Z;show D.int (if (c.2:Int) > (a.2:Int)then(c.2:Int)else(a.2:Int))=D.int ((max a.2 c.2:Nat):Int);congr 1;split<;>lia
 have h:(fJ (gh 1 one two b)).length<=1000000:=by
  unfold fJ;rw[Cr];rw[ak];have:∀l:List eQ,(l.flatMap λa=>(two.filter λc=>decide (b<=c.1)).map λc=>max a.2 c.2).length<=l.length * 6:=λl=>by
   induction l with
   |nil=>exact bG _
   |cons a r o=>
    rw[fD,aW,ak,bx];have:=cg (λc:eQ=>decide (b<=c.1)) two
    lia
  have s:=this (one.filter λa=>decide (b<=a.1));have p:=cg (λa:eQ=>decide (b<=a.1)) one
  lia
 refine(HR (k:=k+9) (e:=dh TF) (σ:=TW 1 one two b m) (ds:=one.map jf) (es:=λZ=>two.map jf) (σ1:=fG (dh TF) (TW 1 one two b m)) (σ2:=λd c=>(gq (V8 (dh TF)) c (fG (dh TF) (TW 1 one two b m) d)).getD ⟨[],[]⟩)
  (c1:=λd=>decide ((b:Int)<=f2 d)) (c2:=λd c=>decide ((b:Int)<=f2 c)) (y:=λd c=>D.int (if s2 c > s2 d then s2 c else s2 d)) ⋯ (by induction m using aK<;>rfl') (gA (d:=dO one) ⋯ (by induction m using aK<;>rfl') rfl)
  (λd i=>?_) (λd i c j=>?_) (by rw[f];exact h)).trans (by rw[f])
 ·refine cW (λa Z g=>?_) (aG.mp i);subst g
  refine⟨by induction m using aK<;>rfl',?_,λZ=>gA (d:=dO two) ⋯ (by induction m using aK<;>rfl') rfl⟩;rw[show vD (dh TF)=[(vD (dh TF))[0]?.getD default] by rfl'];refine fZ ?_
  induction m using aK<;>rfl'
 ·refine cW (λa Z g=>?_) (aG.mp i);subst g
  refine cW (λc Z g=>?_) (aG.mp j);subst g;refine⟨by induction m using aK<;>rfl',?_,λZ=>by induction m using aK<;>rfl'⟩;rw[show Hq (dh TF)=[(Hq (dh TF))[0]?.getD default] by rfl'];refine fZ ?_
  induction m using aK<;>rfl'
theorem ends2 (b:Nat)(m:Option (List D))(hl:one.length<=6/\two.length<=6):(Rn (k+10)).ev (TW 2 one two b m) (dh Tz)=some (.list (fJ (gh 2 one two b))):=by
 have i:(Rn (k+8)).ev (TW 2 one two b m) (jJ (wK (dh Tz)))=some (dO one):=by induction m using aK<;>rfl'
 have h:(Rn (k+8)).ev (TW 2 one two b m) (mR (wK (dh Tz)))=some (dO two):=by induction m using aK<;>rfl'
 have j:(Rn (k+9)).ev (TW 2 one two b m) (wK (dh Tz))=some (dO (one++two)):=by rw[fQ (k:=k+8) ⋯ i h,show CK (wK (dh Tz))=.Add by rfl'];show(if small ((one.map jf).length+(two.map jf).length)=true then some (D.list (one.map jf++two.map jf))else none)=_;rw[ao (dZ (by rw[ak,ak];lia)),<-bu];rfl
 refine(gn (k:=k+9) (e:=dh Tz) (σ:=TW 2 one two b m) (ds:=(one++two).map jf) (σs:=fG (dh Tz) (TW 2 one two b m)) (c:=λd=>decide ((b:Int)<=f2 d)) (y:=vM) ⋯ (by induction m using aK<;>rfl') (gA (d:=dO (one++two)) ⋯ j rfl)
  (λd g=>?_) (by rw[ak,aW];lia)).trans ?_
 ·refine cW (λa Z f=>?_) (aG.mp g);subst f
  refine⟨by induction m using aK<;>rfl',?_,λZ=>by induction m using aK<;>rfl'⟩;rw[show vD (dh Tz)=[(vD (dh Tz))[0]?.getD default] by rfl'];refine fZ ?_
  induction m using aK<;>rfl'
 ·rw[sJ (q:=λa=>decide (b<=a.1)) (λa=>by
   show decide ((b:Int)<=(a.1:Int))=_;exact bI.mpr (by simp)),aV]
  show _=some (D.list ((((one++two).filter λa=>decide (b<=a.1)).map λa=>a.2).map λ(x:Nat)=>D.int x));rw[aV];rfl
end
noncomputable def ji (kd:Nat)(one two:List eQ)(b:Nat):Nat:=Ho (gh kd one two b)
theorem RZ {one two:List eQ}(h:one.length<=6)(h2:two.length<=6)(kd b:Nat):(gh kd one two b).length<=36:=by
 have e:∀(g:eQ->List Nat),(∀a,(g a).length<=6)->∀l:List eQ,(l.flatMap g).length<=l.length * 6:=λg f l=>by
  induction l with
  |nil=>exact bG _
  |cons a r i=>
   rw[fD,aW,bx];have:=f a
   lia
 have d:∀p:eQ->Bool,(one.filter p).length<=6:=λp=>aA (cg _ _) h;have c:∀p:eQ->Bool,(two.filter p).length<=6:=λp=>aA (cg _ _) h2;unfold gh;split
 ·refine aA (e _ (λa=>by rw[ak];exact c _) _) ?_
  have:=d λa=>decide (b<=a.1)
  lia
 ·refine aA (e _ (λa=>by rw[ak];exact c _) _) ?_
  have:=d λa=>decide (b<=a.1)
  lia
 ·rw[ak]
  refine aA (cg _ _) ?_;rw[aW]
  lia
section
variable (k:Nat)(one two:List eQ)(h1:one.length<=6)(h2:two.length<=6)
include h1 h2
theorem Nx {kd:Nat}(hk:kd<=2)(ns:List D)(b:Nat)(m:Option (List D)):ni (Rn (k+12)) tT (TB kd one two ns b m) nO (bT 0)=some ⟨TN kd one two ns (some (b,fJ (gh kd one two b))),nO,.next⟩:=by
 have:kd=0\/kd=1\/kd=2:=Jv (by first|assumption|exact cz ‹_›);refine or3 this ?_ ?_ ?_
 ·rw[f9 ⋯ (by induction m using aK<;>rfl'),show q7 (bT 0)=[TG] by rfl',cu (k+11)]
  have e:=dg (r:=Rn (k+11)) (tu:=tT) (own:=nO) (σ:=TB 0 one two ns b m) (st:=TG) (own':=nO) ⋯ (by induction m using aK<;>rfl') (iD (by rw[ur];exact ends0 (k+1) one two b m ⟨h1,h2⟩));refine(aJ e).trans ?_
  induction m using aK<;>rfl'
 ·rw[fP ⋯ (by induction m using aK<;>rfl'),show zH (bT 0)=[Zn] by rfl',cu (k+11)]
  have a:ni (Rn (k+11)) tT (TB 1 one two ns b m) nO Zn=some ⟨TN 1 one two ns (some (b,fJ (gh 1 one two b))),nO,.next⟩:=by
   rw[f9 ⋯ (by induction m using aK<;>rfl'),show q7 Zn=[TF] by rfl',cu (k+10)];have e:=dg (r:=Rn (k+10)) (tu:=tT) (own:=nO) (σ:=TB 1 one two ns b m) (st:=TF) (own':=nO) ⋯ (by induction m using aK<;>rfl') (iD (by rw[ur];exact ends1 k one two b m ⟨h1,h2⟩));refine(aJ e).trans ?_
   induction m using aK<;>rfl'
  exact aJ a
 ·rw[fP ⋯ (by induction m using aK<;>rfl'),show zH (bT 0)=[Zn] by rfl',cu (k+11)]
  have a:ni (Rn (k+11)) tT (TB 2 one two ns b m) nO Zn=some ⟨TN 2 one two ns (some (b,fJ (gh 2 one two b))),nO,.next⟩:=by
   rw[fP ⋯ (by induction m using aK<;>rfl'),show zH Zn=[Tz] by rfl',cu (k+10)];have e:=dg (r:=Rn (k+10)) (tu:=tT) (own:=nO) (σ:=TB 2 one two ns b m) (st:=Tz) (own':=nO) ⋯ (by induction m using aK<;>rfl') (iD (by rw[ur];exact ends2 k one two b m ⟨h1,h2⟩));refine(aJ e).trans ?_
   induction m using aK<;>rfl'
  exact aJ a
theorem Kh {kd:Nat}(ns:List D)(b:Nat)(hs:small ns.length=true):ni (Rn (k+12)) tT (TN kd one two ns (some (b,fJ (gh kd one two b)))) nO (bT 1)=some ⟨TN kd one two (ns++[.int (ji kd one two b:Nat)]) (some (b,fJ (gh kd one two b))),nO,.next⟩:=by
 have e:(Rn (k+10)).ev (TW kd one two b (some (fJ (gh kd one two b)))) (jJ ((cY (uo (bT 1)))[0]?.getD default))=some (.list (fJ (gh kd one two b))):=⋯;have a:(Rn (k+10)).ev (TW kd one two b (some (fJ (gh kd one two b)))) (mR ((cY (uo (bT 1)))[0]?.getD default))=some (.list [.int 6]):=⋯;have f:(Rn (k+11)).ev (TW kd one two b (some (fJ (gh kd one two b)))) ((cY (uo (bT 1)))[0]?.getD default)=some (.list (fJ (gh kd one two b)++[.int 6])):=by rw[fQ (k:=k+10) ⋯ e a,show CK ((cY (uo (bT 1)))[0]?.getD default)=.Add by rfl'];show(if small ((fJ (gh kd one two b)).length+1)=true then some (D.list (fJ (gh kd one two b)++[.int 6]))else none)=_;have:=RZ h1 h2 kd b;rw[ao (dZ (by unfold fJ;rw[ak];exact cU ‹_› (by decide)))]
 have c:(Rn (k+12)).ev (TW kd one two b (some (fJ (gh kd one two b)))) (uo (bT 1))=some (.int (ji kd one two b:Nat)):=by rw[j6 (k:=k+11) (ds:=[.list (fJ (gh kd one two b)++[.int 6])]) ⋯ ⋯ (by rw[show cY (uo (bT 1))=[(cY (uo (bT 1)))[0]?.getD default] by rfl'];exact jN f),show jy (uo (bT 1))=Str.ofString "min" by rfl'];exact Eq.trans (b:=JV [.list (fJ (gh kd one two b)++[.int 6])]) ⋯ (PQ _)
 rw[mO (d:=.int (ji kd one two b:Nat)) (own':=nO) (xs:=ns) ⋯ ⋯ ⋯ (iD (by have:without nO (TN kd one two ns (some (b,fJ (gh kd one two b))))=TW kd one two b (some (fJ (gh kd one two b))):=⋯;rw[this];exact c)) ⋯ hs]
 rfl'
theorem GF {kd:Nat}(hk:kd<=2)(ns:List D)(b:Nat)(m:Option (List D))(hs:small ns.length=true):(Rn (k+13)).exs tT (TB kd one two ns b m) nO (jt (sT 2))=some ⟨TN kd one two (ns++[.int (ji kd one two b:Nat)]) (some (b,fJ (gh kd one two b))),nO,.next⟩:=by rw[bodyTb,cu (k+12),aJ (Nx k one two h1 h2 hk ns b m),aJ (Kh k one two h1 h2 ns b hs)];rfl
end
noncomputable def nxt (N:Nat->Nat)(b:Nat):Nat:=if b=5 then 6 else N (b+1)
noncomputable def TP (N:Nat->Nat):List eQ:=((List.range 6).filter λb=>decide (N b<nxt N b)).map λb=>(b,N b)
noncomputable def ns6 (N:Nat->Nat):List D:=[.int (N 0:Nat),.int (N 1:Nat),.int (N 2:Nat),.int (N 3:Nat),.int (N 4:Nat),.int (N 5:Nat)]
noncomputable def Am:List D:=[.int 0,.int 1,.int 2,.int 3,.int 4,.int 5]
noncomputable def eTr:Expr:=m6 (sT 3)
section
variable (k:Nat)(one two:List eQ)(h1:one.length<=6)(h2:two.length<=6)
theorem Kf {kd:Nat}(N:Nat->Nat)(es:List D):(Rn (k+13)).ev (TN kd one two (ns6 N) (some (5,es))) eTr=some (dO (TP N)):=by
 have e:=gn (k:=k+12) (e:=eTr) (σ:=TN kd one two (ns6 N) (some (5,es))) (ds:=Am) (σs:=fG eTr (TN kd one two (ns6 N) (some (5,es)))) (c:=λd=>decide (N (intOf d).toNat<nxt N (intOf d).toNat)) (y:=λd=>.list [d,.int (N (intOf d).toNat:Nat)])
  ⋯ ⋯ ⋯
  (λd f=>by
   refine⟨?_,?_,λZ=>?_⟩
   ·simp only[Am,au,bh,cA]at f
    refine Bp f ?_ ?_ ?_ ?_ ?_ ?_<;>rfl'
   ·rw[show vD eTr=[(vD eTr)[0]?.getD default] by rfl']
    refine fZ ?_;simp only[Am,au,bh,cA]at f;have cast:∀{a b:Nat},(some (decide ((a:Int)<(b:Int))))=some (decide (a<b)):=λ{a b}=>by congr 1;exact bI.mpr (by simp)
    refine Bp f ?_ ?_ ?_ ?_ ?_ ?_
    ·exact Eq.trans (b:=some (decide ((N 0:Int)<(N 1:Int)))) ⋯ cast
    ·exact Eq.trans (b:=some (decide ((N 1:Int)<(N 2:Int)))) ⋯ cast
    ·exact Eq.trans (b:=some (decide ((N 2:Int)<(N 3:Int)))) ⋯ cast
    ·exact Eq.trans (b:=some (decide ((N 3:Int)<(N 4:Int)))) ⋯ cast
    ·exact Eq.trans (b:=some (decide ((N 4:Int)<(N 5:Int)))) ⋯ cast
    ·exact Eq.trans (b:=some (decide ((N 5:Int)<((6:Nat):Int)))) ⋯ cast
   ·simp only[Am,au,bh,cA]at f
    refine Bp f ?_ ?_ ?_ ?_ ?_ ?_<;>rfl') (by decide)
 rw[e];show some (D.list (((([0,1,2,3,4,5]:List Nat).map λ(x:Nat)=>D.int x).filter λd=>decide (N (intOf d).toNat<nxt N (intOf d).toNat)).map λd=>.list [d,.int (N (intOf d).toNat:Nat)]))=some (D.list ((((List.range 6).filter λb=>decide (N b<nxt N b)).map λb=>((b,N b):eQ)).map jf));rw[dY,aV,aV];rfl
include h1 h2
theorem GD {kd:Nat}(hk:kd<=2)(ns:List D)(b:Nat)(m:Option (Nat×List D))(rest:List D)(hs:small ns.length=true):mK (Rn (k+13)) tT (oM (sT 2)) (jt (sT 2)) (.int b::rest) (TN kd one two ns m) nO=
 mK (Rn (k+13)) tT (oM (sT 2)) (jt (sT 2)) rest (TN kd one two (ns++[.int (ji kd one two b:Nat)]) (some (b,fJ (gh kd one two b)))) nO:=
 iU (σ₁:=TB kd one two ns b (m.map (·.2))) (by induction m using aK<;>rfl') (GF k one two h1 h2 hk ns b _ hs)
theorem GJ {kd:Nat}(hk:kd<=2):mK (Rn (k+13)) tT (oM (sT 2)) (jt (sT 2)) Am (TN kd one two [] none) nO=
 some ⟨TN kd one two (ns6 (ji kd one two)) (some (5,fJ (gh kd one two 5))),nO,.next⟩:=by
 have t:=λc b m a d=>GD k one two h1 h2 hk c b m a d;show mK (Rn (k+13)) tT (oM (sT 2)) (jt (sT 2)) (.int (0:Nat)::.int (1:Nat)::.int (2:Nat)::.int (3:Nat)::.int (4:Nat)::.int (5:Nat)::[]) (TN kd one two [] none) nO=_;rw[t _ _ _ _ rfl,t _ _ _ _ rfl,t _ _ _ _ rfl,t _ _ _ _ rfl,t _ _ _ _ rfl,t _ _ _ _ rfl];rfl
theorem Kg {kd:Nat}(hk:kd<=2):(Rn (k+16)).callF "_law_tried" [.int kd,dO one,dO two] []=some (dO (TP (ji kd one two))):=by
 refine gj (f:=ju) (σ₀:=TS kd one two) ⋯ ⋯ ⋯ ⋯ (sg:=TN kd one two (ns6 (ji kd one two)) (some (5,fJ (gh kd one two 5)))) (ow:=[]) ?_;rw[Zb,cu (k+14)];have c:ni (Rn (k+14)) ju.turned (TS kd one two) [] (sT 0)=some ⟨TS kd one two,[],.next⟩:=by have:kd=0\/kd=1\/kd=2:=Jv (by first|assumption|exact cz ‹_›);rw[fP ⋯ (by refine or3 this ?_ ?_ ?_<;>rfl'),show zH (sT 0)=[] by rfl'];rfl
 have b:ni (Rn (k+14)) ju.turned (TS kd one two) [] (sT 1)=some ⟨TN kd one two [] none,nO,.next⟩:=⋯;have a:ni (Rn (k+14)) ju.turned (TN kd one two [] none) nO (sT 2)=some ⟨TN kd one two (ns6 (ji kd one two)) (some (5,fJ (gh kd one two 5))),nO,.next⟩:=by rw[qb (ds:=Am) ⋯ ⋯ ⋯];exact GJ (k+1) one two h1 h2 hk
 rw[aJ c,aJ b,aJ a];exact fL (gm ⋯ (sV ⋯ (Kf (k+1) one two _ _) rfl))
end
noncomputable def T3 (one two:List eQ)(t:Bool):List eQ:=one.filter λa=>(two.any λb=>decide (a.1<=b.1)&&decide (b.2<=a.2))==t
noncomputable def sK:Stmt:=(q7 (sT 0))[0]?.getD (.Pass default)
noncomputable def eK:Expr:=m6 sK
noncomputable def eKc:Expr:=(vD eK)[0]?.getD default
noncomputable def eKi:Expr:=oU eKc
noncomputable def Uo:Expr:=pK eKi
theorem and_false {r:Rec}{σ:Sg}{e e':Expr}{es:List Expr}(h:r.ev σ e=some (.bool false)):CP r σ (e::e'::es)=some (.bool false):=by show(oS none (r.ev σ e) λd=>dB none d λb=>cond b (CP r σ (e'::es)) (some (.bool false)))=_;rw[h];rfl
theorem rB:∀l:List Bool,rC (.bool true) (l.map .bool)=some (l.any id)
 |[]=>rfl
 |true::r=>by show(rC (.bool true) (r.map .bool)).map (λZ=>true)=_;rw[rB r];rfl
 |false::r=>by show rC (.bool true) (r.map .bool)=_;rw[rB r];rfl
section
variable (k:Nat)(one two:List eQ)(h1:one.length<=6)(h2:two.length<=6)
include h2
theorem QB (kd:Nat)(a:eQ):(Rn (k+12)).ev (fG eK (TS kd one two) (jf a)) Uo=some (.list ((two.map λb=>decide (a.1<=b.1)&&decide (b.2<=a.2)).map .bool)):=by
 have e:=gn (k:=k+11) (e:=Uo) (σ:=fG eK (TS kd one two) (jf a)) (ds:=two.map jf) (σs:=fG Uo (fG eK (TS kd one two) (jf a))) (c:=λZ=>true) (y:=λd=>.bool (decide ((a.1:Int)<=f2 d)&&decide (s2 d<=(a.2:Int))))
  ⋯ ⋯ (gA (d:=dO two) ⋯ ⋯ rfl)
  (λd h=>by
   refine cW (λb Z g=>?_) (aG.mp h);subst g;refine⟨⋯,⋯,λZ=>?_⟩;rw[Cj (k:=k+10) ⋯,show zy (iM Uo)=[(zy (iM Uo))[0]?.getD default,(zy (iM Uo))[1]?.getD default] by rfl'];have f:(Rn (k+10)).ev (fG Uo (fG eK (TS kd one two) (jf a)) (jf b)) ((zy (iM Uo))[0]?.getD default)=some (.bool (decide ((a.1:Int)<=(b.1:Int)))):=⋯;have i:(Rn (k+10)).ev (fG Uo (fG eK (TS kd one two) (jf a)) (jf b)) ((zy (iM Uo))[1]?.getD default)=some (.bool (decide ((b.2:Int)<=(a.2:Int)))):=⋯;show _=some (D.bool (decide ((a.1:Int)<=(b.1:Int))&&decide ((b.2:Int)<=(a.2:Int))));by_cases q:(a.1:Int)<=(b.1:Int)
   ·rw[bW q]at f⊢
    rw[and_true f,Bool.true_and,<-i];rfl
   ·rw[bU q]at f⊢
    rw[and_false f];rfl) (by rw[ak];exact aA ‹_› (by decide))
 rw[e,filter_true,aV,aV];congr 2;apply cj;intro b Z;show D.bool (decide ((a.1:Int)<=(b.1:Int))&&decide ((b.2:Int)<=(a.2:Int)))=D.bool (decide (a.1<=b.1)&&decide (b.2<=a.2));rw[show decide ((a.1:Int)<=(b.1:Int))=decide (a.1<=b.1)from bI.mpr (by simp),show decide ((b.2:Int)<=(a.2:Int))=decide (b.2<=a.2)from bI.mpr (by simp)]
include h1
theorem Ny {kd:Nat}(hk:kd=3\/kd=4):(Rn (k+18)).callF "_law_tried" [.int kd,dO one,dO two] []=some (dO (T3 one two (kd==3))):=by
 refine gj (f:=ju) (σ₀:=TS kd one two) ⋯ ⋯ ⋯ ⋯ (sg:=TS kd one two) (ow:=[]) ?_;rw[Zb,cu (k+16)];refine fL ?_;rw[f9 ⋯ (by refine wH hk ?_ ?_<;>rfl'),show q7 (sT 0)=[sK] by rfl',cu (k+15)];refine fL (gm ⋯ (du ?_));have e:=gn (k:=k+14) (e:=eK) (σ:=TS kd one two) (ds:=one.map jf) (σs:=fG eK (TS kd one two)) (c:=λd=>(two.any λb=>decide (f2 d<=(b.1:Int))&&decide ((b.2:Int)<=s2 d))==(kd==3)) (y:=id)
  ⋯ ⋯ (gA (d:=dO one) ⋯ ⋯ rfl)
  (λd h=>by
   refine cW (λa Z g=>?_) (aG.mp h);subst g;refine⟨⋯,?_,λZ=>⋯⟩;rw[show vD eK=[eKc] by rfl'];refine fZ ?_;have j:(Rn (k+13)).ev (fG eK (TS kd one two) (jf a)) eKi=some (.bool (two.any λb=>decide (a.1<=b.1)&&decide (b.2<=a.2))):=by rw[qd (k:=k+12) (a:=.bool true) ⋯ ⋯ (QB k one two h2 kd a),show s6 eKi=.In by rfl'];show(rC (.bool true) _).map D.bool=_;rw[rB,List.any_map];rfl
   have i:(Rn (k+13)).ev (fG eK (TS kd one two) (jf a)) (pK eKc)=some (.bool (kd==3)):=by refine wH hk ?_ ?_<;>rfl'
   rw[iy (k:=k+13) ⋯ j i,show s6 eKc=.Eq by rfl'];show some ((two.any λb=>decide (a.1<=b.1)&&decide (b.2<=a.2))==(kd==3))=some ((two.any λb=>decide ((a.1:Int)<=(b.1:Int))&&decide ((b.2:Int)<=(a.2:Int)))==(kd==3));congr 3;funext b;rw[show decide ((a.1:Int)<=(b.1:Int))=decide (a.1<=b.1)from bI.mpr (by simp),show decide ((b.2:Int)<=(a.2:Int))=decide (b.2<=a.2)from bI.mpr (by simp)]) (by rw[ak];exact aA ‹_› (by decide))
 refine e.trans ?_;rw[sJ (q:=λa=>(two.any λb=>decide (a.1<=b.1)&&decide (b.2<=a.2))==(kd==3)) (λa=>by show((two.any λb=>decide ((a.1:Int)<=(b.1:Int))&&decide ((b.2:Int)<=(a.2:Int)))==(kd==3))=_;congr 2;funext b;rw[show decide ((a.1:Int)<=(b.1:Int))=decide (a.1<=b.1)from bI.mpr (by simp),show decide ((b.2:Int)<=(a.2:Int))=decide (b.2<=a.2)from bI.mpr (by simp)]),List.map_id]
 rfl
end
noncomputable def Uh {β:Type}(z:β)(st:Stmt)(f:Str->Str->Expr->β):β:=
 G8 z st λts e Z=>l1 z ts λt=>R3 z t λl Z Z=>l2 z l λa b=>rm z a λx Z=>rm z b λy Z=>f x y e
noncomputable def ZW {β:Type}(z:β)(e:Expr)(f:Expr->Expr->β):β:=R3 z e λl Z Z=>l2 z l f
noncomputable def isTup2 (st:Stmt):Bool:=Uh false st λx y e=>ZW false e λb a=>!(decide (x=y))&& !(constantsAlone 8 b&&constantsAlone 8 a)
noncomputable def Nr (st:Stmt):Str:=Uh default st λx Z Z=>x
noncomputable def Nq (st:Stmt):Str:=Uh default st λZ y Z=>y
noncomputable def ZZ (st:Stmt):Expr:=Uh default st λZ Z e=>ZW default e λa Z=>a
noncomputable def ZX (st:Stmt):Expr:=Uh default st λZ Z e=>ZW default e λZ b=>b
@[elab_as_elim] theorem X5 {P:Stmt->Prop}{st:Stmt}{f:Str->Str->Expr->Bool}(h:Uh false st f=true)(k:∀x px y py c p e q,f x y e=true->P (.Assign [.Tuple [.Name x px,.Name y py] c p] e q)):P st:=
 Oo nb h λd e q h=>jo nb h λt h=>yX nb h λl c p h=>pH nb h λa b h=>jw nb h λx px h=>jw nb h λy py h=>k x px y py c p e q h
theorem Ry {r:Rec}{tu:List Str}{σ:Sg}{own:List Str}{st:Stmt}{a b:D}(h:isTup2 st=true)(d:σ.holds (Nr st)=true)(c:σ.holds (Nq st)=true)(f:r.ev (without own σ) (ZZ st)=some a)(hb:r.ev (without own σ) (ZX st)=some b):
 ni r tu σ own st=some ⟨(σ.add (Nr st) a).add (Nq st) b,(if tu.contains (Nr st)&&gP (ZZ st)then[Nr st]else[])++(if tu.contains (Nq st)&&gP (ZX st)then[Nq st]else[])++own.filter (λz=>z !=Nr st&&z !=Nq st),.next⟩:=by
 revert d c f hb;refine X5 (st:=st) h λx o y m s p e q h=>yX nb h λl k j h=>pH nb h λi g h d c f hb=>?_
 ·rw[bJ,b8,decide_eq_false_iff_not,b8]at h
  have d:σ.holds x=true:=d;have c:σ.holds y=true:=c;have f:r.ev (without own σ) i=some a:=f;have hb:r.ev (without own σ) g=some b:=hb;show exT2 r tu σ own x y (.Tuple [i,g] k j)=_;refine(aq (by simp[h.1,d,c,h.2])).trans ?_;rw[f,hb];rfl
noncomputable def sH (i:Nat):Stmt:=iV.body[i]?.getD (.Pass default)
theorem Zd:iV.body=[sH 0,sH 1,sH 2,sH 3,sH 4,sH 5,sH 6,sH 7]:=⋯
noncomputable def hG:List (Str×D):=ig iV.fd.scope
noncomputable def hN:List (Str×NameKind):=iV.fd.scope.names
noncomputable abbrev tH:List Str:=iV.turned
noncomputable def Yd (i:Nat):Stmt:=(q7 (sH 1))[i]?.getD (.Pass default)
theorem bodyHk:q7 (sH 1)=[Yd 0,Yd 1,Yd 2]:=⋯
noncomputable def v8 (a:eQ):Nat:=a.1
noncomputable def fX (a:eQ):Nat:=a.2
structure zJ (l:List eQ):Prop where
 b:zW v8 l
 e:zW fX l
 len:l.length<=6
section
variable (k:Nat)(kd:Nat)(one two:List eQ)
noncomputable def H0:Sg:=⟨("two",dO two)::("one",dO one)::("kind",.int kd)::hG,hN⟩
noncomputable def H1:Sg:=⟨("others",.list (fJ (two.map fX)))::("ends",.list (fJ (one.map fX)))::(H0 kd one two).vars,hN⟩
variable (h1:zJ one)(h2:zJ two)
theorem Fy {e:Expr}{σ:Sg}{l:List eQ}(hl:l.length<=6)(b:Ju e=true)(hs:qC (w6 e) (yt e) σ=true)(hi:gH (Rn (k+4)) σ (wK e)=some (l.map jf))(hb:∀a:eQ,gq (lcT e) (jf a) (under (w6 e) σ)=some (fG e σ (jf a)))(h:vD e=[])
 (g:∀a:eQ,(Rn (k+4)).ev (fG e σ (jf a)) (iM e)=some (.int (a.2:Nat))):(Rn (k+5)).ev σ e=some (.list (fJ (l.map fX))):=by
 have j:=gn (k:=k+4) (e:=e) (σ:=σ) (ds:=l.map jf) (σs:=fG e σ) (c:=λZ=>true) (y:=vM) b hs hi (λd i=>by refine cW (λa Z f=>?_) (aG.mp i);subst f;exact⟨hb a,by rw[h];rfl,λZ=>g a⟩) (by rw[ak];exact aA ‹_› (by decide))
 rw[j,filter_true,aV];unfold fJ;rw[aV];rfl
theorem Su {e:Expr}{σ:Sg}{l:List eQ}(hl:l.length<=6)(b:Ju e=true)(hs:qC (w6 e) (yt e) σ=true)(hi:gH (Rn (k+4)) σ (wK e)=some (l.map jf))(hb:∀a:eQ,gq (lcT e) (jf a) (under (w6 e) σ)=some (fG e σ (jf a)))(h:vD e=[])
 (g:∀a:eQ,(Rn (k+4)).ev (fG e σ (jf a)) (iM e)=some (.int (a.1:Nat))):(Rn (k+5)).ev σ e=some (.list (fJ (l.map v8))):=by
 have j:=gn (k:=k+4) (e:=e) (σ:=σ) (ds:=l.map jf) (σs:=fG e σ) (c:=λZ=>true) (y:=fst2) b hs hi (λd i=>by refine cW (λa Z f=>?_) (aG.mp i);subst f;exact⟨hb a,by rw[h];rfl,λZ=>g a⟩) (by rw[ak];exact aA ‹_› (by decide))
 rw[j,filter_true,aV];unfold fJ;rw[aV];rfl
include h1 h2
theorem Jy (rest:List Stmt):fO (Rn (k+5)) tH (H0 kd one two) [] (sH 0::rest)=fO (Rn (k+5)) tH (H1 kd one two) [] rest:=by
 have c:(Rn (k+5)).ev (without [] (H0 kd one two)) (ZZ (sH 0))=some (.list (fJ (one.map fX))):=by rw[j7];exact Fy k h1.len ⋯ ⋯ (gA (d:=dO one) ⋯ ⋯ rfl) (λa=>⋯) ⋯ (λa=>⋯)
 have b:(Rn (k+5)).ev (without [] (H0 kd one two)) (ZX (sH 0))=some (.list (fJ (two.map fX))):=by rw[j7];exact Fy k h2.len ⋯ ⋯ (gA (d:=dO two) ⋯ ⋯ rfl) (λa=>⋯) ⋯ (λa=>⋯)
 refine aJ ?_;rw[Ry ⋯ ⋯ ⋯ c b]
 rfl'
end
theorem su {xs:List D}{i:Nat}(hi:i<=1000):mD (.list xs) (.int (i:Nat))=xs[i]? :=by
 have a:(i:Int)<2 ^ 60:=by lia
 have e:idx xs (i:Nat)=xs[i]? :=by unfold idx;rw[ao ⟨Int.natCast_nonneg i,a⟩,Int.toNat_natCast]
 exact(En idx).trans e
theorem Bs {l:List Nat}{i:Nat}:(fJ l)[i]? =(l[i]?).map λ(x:Nat)=>D.int x:=by unfold fJ;rw[bQ]
theorem m8 (l:List Nat):(fJ l).length=l.length:=by unfold fJ;rw[ak]
theorem Tg {l:List eQ}{f:eQ->Nat}(hs:zW f l){v:Nat}:∀(i:Nat)(d:D),(fJ (l.map f))[i]? =some d->jh .Lt d (.int (v:Nat))=some (decide (i<wu f v l)):=λi d b=>by rw[Bs,bQ,Option.map_map]at b;refine cW (λa e c=>?_) (dq.mp b);subst c;show some (decide (((f a:Nat):Int)<(v:Nat)))=_;congr 1;refine bI.mpr ?_;rw[<-wk hs e];simp
theorem br_nat {l:List eQ}{f:eQ->Nat}(hs:zW f l){v:Nat}:∀(i:Nat)(d:D),(fJ (l.map f))[i]? =some d->jh .Lt (.int (v:Nat)) d=some (decide (qG f v l<=i)):=λi d b=>by
 rw[Bs,bQ,Option.map_map]at b;refine cW (λa e c=>?_) (dq.mp b);subst c;show some (decide (((v:Nat):Int)<((f a:Nat):Int)))=_;congr 1;refine bI.mpr ?_;have:=qj hs e (v:=v)
 lia
theorem XM {r:Rec}{σ:Sg}{e:Expr}:CP r σ [e]=r.ev σ e:=rfl
noncomputable def Dc (two:List eQ)(a:eQ):Nat:=wu v8 a.1 two
noncomputable def zb (two:List eQ)(a:eQ):Bool:=match two[Dc two a]? with
 |some b=>decide (b.2<=a.2)
 |none=>false
noncomputable def eHf:Expr:=dh (Yd 1)
noncomputable def M7:Expr:=m6 (Yd 2)
noncomputable def eHc:Expr:=(vD M7)[0]?.getD default
noncomputable def eHa:Expr:=oU eHc
noncomputable def R4:Expr:=(zy eHa)[0]?.getD default
noncomputable def Mg:Expr:=(zy eHa)[1]?.getD default
section
variable (k:Nat)(kd:Nat)(one two:List eQ)(h1:zJ one)(h2:zJ two)
noncomputable def H2k:Sg:=⟨("begins",.list (fJ (two.map v8)))::(H1 kd one two).vars,hN⟩
noncomputable def Us:Sg:=⟨("firsts",.list (fJ (one.map (Dc two))))::(H2k kd one two).vars,hN⟩
include h2 in
theorem Lw:(Rn (k+5)).ev (H1 kd one two) (dh (Yd 0))=some (.list (fJ (two.map v8))):=
 Su k h2.len ⋯ ⋯ (gA (d:=dO two) ⋯ ⋯ rfl) (λa=>⋯) ⋯ (λa=>⋯)
include h1 h2
omit h1 in
theorem Wt (a:eQ):(Rn (k+13)).ev (fG eHf (H2k kd one two) (jf a)) (iM eHf)=some (.int (Dc two a:Nat)):=by rw[jR (k:=k+12) (ds:=[.list (fJ (two.map v8)),.int (a.1:Nat)]) ⋯ ⋯ ⋯,show jy (iM eHf)=Str.ofString "bisect_left" by rfl'];exact bl0 (k:=k) (xs:=fJ (two.map v8)) (x:=.int (a.1:Nat)) (c:=wu v8 a.1 two) (by rw[m8,ak];have:=h2.len;exact aA ‹_› (by decide)) (by rw[m8,ak];exact lg _ _) (Tg h2.b) rfl
theorem Ls:(Rn (k+14)).ev (H2k kd one two) eHf=some (.list (fJ (one.map (Dc two)))):=by
 have e:=gn (k:=k+13) (e:=eHf) (σ:=H2k kd one two) (ds:=one.map jf) (σs:=fG eHf (H2k kd one two)) (c:=λZ=>true) (y:=λd=>.int (Dc two ((f2 d).toNat,0):Nat))
  ⋯ ⋯ (gA (d:=dO one) ⋯ ⋯ rfl)
  (λd f=>by refine cW (λa Z b=>?_) (aG.mp f);subst b;exact⟨⋯,⋯,λZ=>Wt k kd one two h2 a⟩) (by rw[ak];have:=h1.len;exact aA ‹_› (by decide))
 refine e.trans ?_;rw[filter_true,aV];unfold fJ;rw[aV];rfl
omit h1 h2 in
theorem By {σ:Sg}{e:Expr}{l:List eQ}(hl:l.length<=1000)(hb:isBi e=true)(b:σ.lookup (jy e)=some .glob)(a:jy e=Str.ofString "len")(c:eX (Rn k) σ (cY e)=some [dO l]):(Rn (k+1)).ev σ e=some (.int (l.length:Nat)):=by
 rw[j6 hb b c,a];have d:(if small (l.map jf).length=true then some (D.int ((l.map jf).length:Nat))else none)=some (.int (l.length:Nat)):=by rw[ao (dZ (by rw[ak];exact aA ‹_› (by decide))),ak]
 exact d
omit h1 h2 in
theorem JX {σ:Sg}{e:Expr}{l:List Nat}{i x:Nat}(hi:i<=1000)(hs:Yy e=true)(b:(Rn k).ev σ (subV e)=some (.list (fJ l)))(c:(Rn k).ev σ (Z7 e)=some (.int (i:Nat)))(a:l[i]? =some x):(Rn (k+1)).ev σ e=some (.int (x:Nat)):=by rw[gf hs b c,su hi,Bs,a];rfl
noncomputable abbrev Zt (i:Nat):Sg:=fG M7 (Us kd one two) (.int (i:Nat))
omit h1 h2 in
theorem hk_c1 {i:Nat}{a:eQ}(hi:i<=1000)(b:one[i]? =some a):(Rn (k+3)).ev (Zt kd one two i) (oU R4)=some (.int (Dc two a:Nat)):=
 JX (k+2) hi ⋯ ⋯ ⋯ (by rw[bQ,b];rfl)
omit h1 in
theorem hk_c2 (i:Nat):(Rn (k+3)).ev (Zt kd one two i) (pK R4)=some (.int (two.length:Nat)):=
 By (k+2) (aA h2.len (by decide)) ⋯ ⋯ ⋯ ⋯
omit h1 in
theorem hk_c3 {i:Nat}{a:eQ}(hi:i<=1000)(b:one[i]? =some a):(Rn (k+4)).ev (Zt kd one two i) R4=some (.bool (decide (Dc two a<two.length))):=by rw[qd (k:=k+3) ⋯ (hk_c1 k kd one two hi b) (hk_c2 k kd one two h2 i),show s6 R4=.Lt by rfl'];show some (D.bool (decide (((Dc two a:Nat):Int)<((two.length:Nat):Int))))=_;rw[show decide (((Dc two a:Nat):Int)<((two.length:Nat):Int))=decide (Dc two a<two.length)from bI.mpr (by simp)]
omit h1 h2 in
theorem hk_c4 {i:Nat}{a b:eQ}(hi:i<=1000)(d:Dc two a<=1000)(c:one[i]? =some a)(hb:two[Dc two a]? =some b):(Rn (k+5)).ev (Zt kd one two i) Mg=some (.bool (decide (b.2<=a.2))):=by have g:(Rn (k+3)).ev (Zt kd one two i) (Z7 (oU Mg))=some (.int (Dc two a:Nat)):=JX (k+2) hi ⋯ ⋯ ⋯ (by rw[bQ,c];rfl);have f:(Rn (k+4)).ev (Zt kd one two i) (oU Mg)=some (.int (b.2:Nat)):=JX (k+3) (l:=two.map fX) d ⋯ ⋯ g (by rw[bQ,hb];rfl);have e:(Rn (k+4)).ev (Zt kd one two i) (pK Mg)=some (.int (a.2:Nat)):=JX (k+3) (l:=one.map fX) hi ⋯ ⋯ ⋯ (by rw[bQ,c];rfl);rw[qd (k:=k+4) ⋯ f e,show s6 Mg=.LtE by rfl'];show some (D.bool (decide (((b.2:Nat):Int)<=((a.2:Nat):Int))))=some (D.bool (decide (b.2<=a.2)));rw[show decide (((b.2:Nat):Int)<=((a.2:Nat):Int))=decide (b.2<=a.2)from bI.mpr (by simp)]
theorem Wu {i:Nat}{a:eQ}(c:one[i]? =some a):(Rn (k+6)).ev (Zt kd one two i) eHa=some (.bool (zb two a)):=by
 have j:i<one.length:=by
  refine aC (Nat.lt_or_ge i one.length) (λh=>?_) (λh=>?_)
  ·exact h
  ·rw[List.getElem?_eq_none h]at c;exact nn c
 have g:=h1.len;have f:=h2.len;have l:Dc two a<=two.length:=lg _ _;have d:=hk_c3 (k+1) kd one two h2 (show i<=1000 by lia) c;rw[Cj (k:=k+5) ⋯,show zy eHa=[R4,Mg] by rfl'];unfold zb;by_cases q:Dc two a<two.length
 ·rw[bW q]at d
  rw[and_true d,XM];obtain⟨b,e⟩:∃b,two[Dc two a]? =some b:=⟨two[Dc two a],aR q⟩;rw[e];exact hk_c4 k kd one two (by lia) (by lia) c e
 ·rw[bU q]at d
  rw[and_false d,List.getElem?_eq_none (by exact bc.mp ‹_›)]
end
noncomputable def ptA (l:List eQ)(d:D):eQ:=(l[(intOf d).toNat]?).getD (0,0)
noncomputable def rgD (n:Nat):List D:=(List.range n).map λ(i:Nat)=>.int (0+i)
theorem Vo {p:D->Bool}{q:eQ->Bool}:∀{l:List eQ},(∀d,p d=q (ptA l d))->((rgD l.length).filter p).map (λd=>jf (ptA l d))=(l.filter q).map jf:=λ{l} h=>by
 unfold rgD;have e:((λd=>jf (ptA l d))∘λ(i:Nat)=>D.int (0+i))=λi=>jf (l[i]?.getD (0,0)):=by funext i;show jf ((l[(0+(i:Int)).toNat]?).getD (0,0))=_;rw[show(0+(i:Int)).toNat=i by exact Nat.add_comm _ _]
 rw[dY,aV,e];have f:(p∘λ(i:Nat)=>D.int (0+i))=λi=>q (l[i]?.getD (0,0)):=by funext i;show p (D.int (0+(i:Int)))=_;rw[h];show q ((l[(0+(i:Int)).toNat]?).getD (0,0))=_;rw[show(0+(i:Int)).toNat=i by exact Nat.add_comm _ _]
 rw[f];have c:l=(List.range l.length).map λi=>l[i]?.getD (0,0):=by
  apply List.ext_getElem
  ·rw[ak,List.length_range]
  ·intro i a g
   rw[List.getElem_map,List.getElem_range,aR a];rfl
 have b:((List.range l.length).filter λi=>q (l[i]?.getD (0,0))).map (λi=>jf (l[i]?.getD (0,0)))=(((List.range l.length).map λi=>l[i]?.getD (0,0)).filter q).map jf:=by rw[dY,aV];rfl
 rw[b,<-c]
theorem wy (ds:List D):biD (Str.ofString "range") ds=xG ds:=⋯
theorem pM {n:Nat}(h:n<=1000):gC (n:Nat)=true:=by
 have a:(-2 ^ 60:Int)<(n:Nat):=by lia
 have b:((n:Nat):Int)<2 ^ 60:=by lia
 unfold gC;rw[decide_eq_true_eq];exact⟨a,b⟩
noncomputable def T3h (one two:List eQ)(t:Bool):List eQ:=one.filter λa=>zb two a==t
noncomputable def YZ:Expr:=(cY (wK M7))[0]?.getD default
section
variable (k:Nat)(kd:Nat)(one two:List eQ)(h1:zJ one)(h2:zJ two)
include h1
theorem Q7:gH (Rn (k+6)) (Us kd one two) (wK M7)=some (rgD one.length):=by
 have d:(Rn (k+5)).ev (Us kd one two) YZ=some (.int (one.length:Nat)):=By (k+4) (aA h1.len (by decide)) ⋯ ⋯ ⋯ ⋯;have a:gC (one.length:Nat)=true:=by exact pM (aA h1.len (by decide))
 have b:gC 0=true:=by decide
 have c:(Rn (k+6)).ev (Us kd one two) (wK M7)=some (.rng 0 (one.length:Nat)):=by rw[j6 (k:=k+5) (ds:=[.int (one.length:Nat)]) ⋯ ⋯ (by rw[show cY (wK M7)=[YZ] by rfl'];exact jN d),show jy (wK M7)=Str.ofString "range" by rfl',wy];rw[biRg,ao a]
 refine gA ⋯ c ?_;rw[vY,ao ⟨b,a⟩,show((one.length:Int) - 0).toNat=one.length by rfl];rfl
include h2
theorem hk_ret (hk:kd=3\/kd=4):(Rn (k+8)).ev (Us kd one two) M7=some (dO (T3h one two (kd==3))):=by
 have e:=gn (k:=k+7) (e:=M7) (σ:=Us kd one two) (ds:=rgD one.length) (σs:=λd=>fG M7 (Us kd one two) d) (c:=λd=>zb two (ptA one d)==(kd==3)) (y:=λd=>jf (ptA one d))
  ⋯ ⋯ (Q7 (k+1) kd one two h1)
  (λd l=>by
   refine cW (λi f h=>?_) (aG.mp l);subst h;rw[bf]at f;have hl:=h1.len;have j:(D.int (0+(i:Int)))=D.int (i:Nat):=by rw[Int.zero_add]
   rw[j];have g:one[i]? =some (ptA one (.int (i:Nat))):=by show one[i]? =some ((one[(Int.ofNat i).toNat]?).getD (0,0));rw[show(Int.ofNat i).toNat=i from rfl,aR f];rfl
   refine⟨⋯,?_,λZ=>?_⟩
   ·rw[show vD M7=[eHc] by rfl']
    refine fZ ?_;have m:(Rn (k+6)).ev (fG M7 (Us kd one two) (.int (i:Nat))) (pK eHc)=some (.bool (kd==3)):=by refine wH hk ?_ ?_<;>rfl'
    rw[iy (k:=k+6) ⋯ (Wu k kd one two h1 h2 g) m,show s6 eHc=.Eq by rfl'];rfl
   ·rw[gf (k:=k+6) (a:=dO one) (b:=.int (i:Nat)) ⋯ ⋯ ⋯]
    show mD (.list (one.map jf)) (.int (i:Nat))=_;rw[su (by lia),bQ,g];rfl) (by
    show((List.range one.length).map λ(i:Nat)=>D.int (0+i)).length<=_;rw[ak,List.length_range];have:=h1.len;exact aA ‹_› (by decide))
 refine e.trans ?_;rw[Vo (q:=λa=>zb two a==(kd==3)) (λd=>rfl)];rfl
theorem Ly (hk:kd=3\/kd=4):(Rn (k+20)).callF "_law_halved" [.int kd,dO one,dO two] []=some (dO (T3h one two (kd==3))):=by
 refine gj (f:=iV) (σ₀:=H0 kd one two) ⋯ ⋯ ⋯ ⋯ (sg:=Us kd one two) (ow:=[]) ?_;rw[Zd,cu (k+18)];refine(Jy (k+13) kd one two h1 h2 _).trans ?_;refine fL ?_;rw[f9 ⋯ (by refine wH hk ?_ ?_<;>rfl'),bodyHk,cu (k+17)];have b:ni (Rn (k+17)) tH (H1 kd one two) [] (Yd 0)=some ⟨H2k kd one two,[],.next⟩:=by
  rw[dg ⋯ ⋯ (du (Lw (k+12) kd one two h2))]
  rfl'
 have a:ni (Rn (k+17)) tH (H2k kd one two) [] (Yd 1)=some ⟨Us kd one two,[],.next⟩:=by
  rw[dg ⋯ ⋯ (du (Ls (k+3) kd one two h1 h2))]
  rfl'
 rw[aJ b,aJ a];exact fL (gm ⋯ (du (hk_ret (k+9) kd one two h1 h2 hk)))
end
theorem Mr {two:List eQ}(h:zJ two)(a:eQ):zb two a=two.any λb=>decide (a.1<=b.1)&&decide (b.2<=a.2):=by
 obtain⟨i,d,hl⟩:=h;unfold zb Dc
 induction two with
 |nil=>rfl
 |cons b r f=>
  unfold wu;have e:v8 b=b.1:=rfl;by_cases q:v8 b<a.1
  ·rw[ao q,List.getElem?_cons_succ,f i.2 d.2 (by rw[bx]at hl;exact cD ‹_›),List.any_cons]
   rw[show decide (a.1<=b.1)=false from bU (by simp_all),Bool.false_and,Bool.false_or]
  ·rw[aq q,List.getElem?_cons_zero,List.any_cons,show decide (a.1<=b.1)=true from bW (by exact bc.mp ‹_›),Bool.true_and]
   dsimp only;by_cases w:b.2<=a.2
   ·rw[bW w,Bool.true_or]
   ·rw[bU w,Bool.false_or]
    symm
    rw[List.any_eq_false];intro c g;have:=d.1 c g;have k:fX b=b.2:=rfl;have j:fX c=c.2:=rfl;rw[show decide (c.2<=a.2)=false from bU (by lia),Bool.and_false];simp
theorem T3h_eq {two:List eQ}(h:zJ two)(one:List eQ)(t:Bool):T3h one two t=T3 one two t:=by unfold T3h T3;congr 1;funext a;rw[Mr h]
noncomputable def gRw (p:eQ):Nat:=2 * p.2+p.1
structure Gm (R:List eQ):Prop where
 g:zW gRw R
 f:∀p∈R,p.1<=1
 len:R.length<=60
theorem Dt {α:Type}{f g:α->Nat}:∀{l:List α},(∀a∈l,∀b∈l,g a<=g b->f a<=f b)->zW g l->zW f l
 |[],_,_=>trivial
 |a::r,h,c=>⟨λb d=>h a (.head _) b (.tail _ d) (c.1 b d),Dt (λx i y e=>h x (.tail _ i) y (.tail _ e)) c.2⟩
theorem Gm.e {R:List eQ}(h:Gm R):zW fX R:=Dt (λa d b c q=>by
 have:=h.f a d;have:=h.f b c;have q:2 * a.2+a.1<=2 * b.2+b.1:=q;show a.2<=b.2
 lia) h.g
theorem yD {α:Type}{f g:α->Nat}{x:α}:∀{R:List α},(∀a∈R,(f a<f x<->g a<g x))->iI f x R=iI g x R
 |[],_=>rfl
 |a::r,h=>by
  unfold iI;rw[yD λb c=>h b (.tail _ c)];by_cases q:f a<f x
  ·rw[ao q,ao ((h a (.head _)).mp q)]
  ·rw[aq q,aq λw=>q ((h a (.head _)).mpr w)]
theorem Gm.ins {R:List eQ}(h:Gm R)(e:Nat)(hl:R.length<60):Gm (iI fX (0,e) R):=by
 have b:iI fX (0,e) R=iI gRw (0,e) R:=yD λa c=>by
  have:=h.f a c;show a.2<e<->2 * a.2+a.1<2 * e+0
  lia
 refine⟨?_,λp hp=>?_,?_⟩
 ·rw[b]
  exact BX h.g
 ·rcases uV hp with rfl|hp
  ·exact b7 _
  ·exact h.f p hp
 ·rw[jX]
  assumption
noncomputable def MT (two:List eQ):List eQ:=two.map λb=>(1,b.2)
noncomputable def yz (es:List Nat)(R:List eQ):List eQ:=es.foldl (λR e=>iI fX (0,e) R) R
noncomputable def tO (kd:Nat)(one:List eQ):List Nat:=if kd=0 then[]else one.map fX
noncomputable def fM (kd:Nat)(one two:List eQ):List eQ:=yz (tO kd one) (MT two)
theorem Jh {two:List eQ}(h:zJ two):Gm (MT two):=by
 refine⟨?_,λp g=>?_,?_⟩
 ·have:=h.e
  unfold MT;clear h
  induction two with
  |nil=>trivial
  |cons a r f=>
   refine⟨λb i=>?_,f this.2⟩;refine cW (λc e d=>?_) (aG.mp i);subst d;have:=this.1 c e;show 2 * a.2+1<=2 * c.2+1;have:a.2<=c.2:=this
   lia
 ·refine cW (λc e d=>?_) (aG.mp g);subst d
  exact bG _
 ·unfold MT
  rw[ak];exact aA h.len (by decide)
theorem Jg:∀{es:List Nat}{R:List eQ},Gm R->R.length+es.length<=60->Gm (yz es R)/\(yz es R).length=R.length+es.length
 |[],R,h,_=>⟨h,rfl⟩
 |e::es,R,h,hl=>by rw[bx]at hl;have:=Jg (es:=es) (h.ins e (by lia)) (by rw[jX];lia);rw[jX]at this;exact⟨this.1,by rw[bx];have:=this.2;show(yz es (iI fX (0,e) R)).length=_;lia⟩
theorem wg {kd:Nat}{one:List eQ}(h:zJ one):(tO kd one).length<=6:=by
 unfold tO;split
 ·exact b7 _
 ·rw[ak];exact h.len
theorem xq {kd:Nat}{one two:List eQ}(c:zJ one)(h2:zJ two):Gm (fM kd one two)/\(fM kd one two).length<=12:=by
 have:=Jg (es:=tO kd one) (Jh h2) (by
  have:=wg (kd:=kd) c;have:=h2.len;unfold MT;rw[ak]
  lia)
 refine⟨this.1,?_⟩;have a:=this.2;have:=wg (kd:=kd) c;have:=h2.len;unfold MT at a;rw[ak]at a;show(yz (tO kd one) (two.map λb=>(1,b.2))).length<=12
 lia
theorem Wj (k:Nat){R:List eQ}(h:Gm R)(hl:R.length<60)(e:Nat){y:Str}{bd:Expr}{sc:Scope}(g:jF y sc=true)(hk:∀(j:Nat)(p q:D),(Rn (j+3)).ev ⟨[(y,.list [p,q])],sc.names⟩ bd=some q):
 (Rn (k+17)).callO "insort_left" [dO R,jf (0,e)] (kw (.lam y bd sc))=some (dO (iI fX (0,e) R)):=by
 unfold dO jf
 rewrite [is1 k (kv:=vM) (by rw[ak];exact cD ‹_›) g (λj d hd=>?_) (c:=wu fX e R) (by rw[ak];exact lg _ _) (λi d hd=>?_) rfl]
 ·have:=v5 (f:=fX) ((0,e):eQ) R
  rw[show fX (0,e)=e from rfl]at this;rw[<-this,bu,aX,List.map_take,List.map_drop]
 ·rcases hd with rfl|hd
  ·exact hk j _ _
  ·refine cW (λp Z b=>?_) (aG.mp hd);subst b
   exact hk j _ _
 ·refine cW (λa l b=>?_) (rY hd);subst b
  show some (decide (((a.2:Nat):Int)<(e:Nat)))=_;congr 1;refine bI.mpr ?_;rw[<-wk h.e l];show _<->a.2<e;simp
noncomputable def rO:List Str:=["row"]
noncomputable def je:List Str:=["told"]
noncomputable def coH:Stmt:=(jt (sH 3))[0]?.getD (.Pass default)
section
variable (k:Nat)(kd:Nat)(one two:List eQ)(h1:zJ one)(h2:zJ two)
noncomputable def H2 (R:List eQ):Option Nat->Sg
 |none=>⟨("row",dO R)::(H1 kd one two).vars,hN⟩
 |some e=>⟨("end",.int (e:Nat))::("row",dO R)::(H1 kd one two).vars,hN⟩
include h2 in
theorem hw_row (rest:List Stmt):fO (Rn (k+6)) tH (H1 kd one two) [] (sH 2::rest)=fO (Rn (k+6)) tH (H2 kd one two (MT two) none) rO rest:=by
 have g:=gn (k:=k+5) (e:=dh (sH 2)) (σ:=H1 kd one two) (ds:=fJ (two.map fX)) (σs:=fG (dh (sH 2)) (H1 kd one two)) (c:=λZ=>true) (y:=λd=>.list [.int 1,d])
  ⋯ ⋯ (gA (d:=.list (fJ (two.map fX))) ⋯ ⋯ rfl) (λd a=>by unfold fJ at a;refine cW (λe Z b=>?_) (aG.mp a);subst b;exact⟨⋯,⋯,λZ=>⋯⟩) (by rw[m8,ak];have:=h2.len;exact aA ‹_› (by decide))
 have f:(Rn (k+6)).ev (H1 kd one two) (dh (sH 2))=some (dO (MT two)):=by rw[g,filter_true];unfold fJ dO MT;rw[aV,aV,aV];rfl
 refine aJ ?_;rw[dg ⋯ ⋯ (du f)]
 rfl'
theorem Wo {R:List eQ}(h:Gm R)(hl:R.length<60)(o:Option Nat)(e:Nat)(rest:List D):mK (Rn (k+18)) tH (oM (sH 3)) (jt (sH 3)) (.int (e:Nat)::rest) (H2 kd one two R o) rO=mK (Rn (k+18)) tH (oM (sH 3)) (jt (sH 3)) rest (H2 kd one two (iI fX (0,e) R) (some e)) rO:=by
 refine iU (σ₁:=H2 kd one two R (some e)) (by induction o using aK<;>rfl') ?_;rw[show jt (sH 3)=[coH] by rfl',cu (k+17)];refine aJ ?_;rw[HQ (st:=coH) (a:=dO R) (ds:=[jf (0,e)]) (kds:=kw (lamOf (Uk (coK coH)))) (d:=dO (iI fX (0,e) R)) ⋯ ⋯ ⋯ ⋯ ⋯ ⋯ ⋯
  (by rw[show coF coH=Str.ofString "insort_left" by rfl'];exact Wj k h hl e ⋯ (λj p q=>⋯))]
 rfl'
theorem Es:∀(es:List Nat){R:List eQ},Gm R->R.length+es.length<=60->∀o,∃o',mK (Rn (k+18)) tH (oM (sH 3)) (jt (sH 3)) (fJ es) (H2 kd one two R o) rO=some ⟨H2 kd one two (yz es R) o',rO,.next⟩
 |[],R,_,_,o=>⟨o,rfl⟩
 |e::es,R,h,hl,o=>by rw[bx]at hl;refine yE (λo' a=>?_) (Es es (R:=iI fX (0,e) R) (h.ins e (by lia)) (by rw[jX];lia) (some e));refine⟨o',?_⟩;refine(Wo k kd one two h (by lia) o e (fJ es)).trans ?_;exact a
include h1 h2
theorem hw_for (hk:kd<=2)(rest:List Stmt):∃o,fO (Rn (k+18)) tH (H2 kd one two (MT two) none) rO (sH 3::rest)=fO (Rn (k+18)) tH (H2 kd one two (fM kd one two) o) rO rest:=by
 obtain⟨o,e⟩:=Es k kd one two (tO kd one) (Jh h2) (by
  have:=wg (kd:=kd) h1;have:=h2.len;unfold MT;rw[ak]
  lia) none
 refine⟨o,aJ ?_⟩;rw[qb (ds:=fJ (tO kd one)) ⋯ (by have:kd=0\/kd=1\/kd=2:=Jv (by first|assumption|exact cz ‹_›);refine or3 this ?_ ?_ ?_<;>rfl') ⋯]
 exact e
end
noncomputable def isSoK (x:Expr):Bool:=jj false x λf Z ks Z=>lc false ks λZ Z=>rm false f λx Z=>decide (x=Str.ofString "sorted")
theorem ev_soK {k:Nat}{σ:Sg}{e:Expr}{xs:List D}{y:Str}{bd:Expr}{sc:Scope}{ks:List (List Int)}(h:isSoK e=true)(c:σ.lookup (jy e)=some .glob)(g:eX (Rn k) σ (cY e)=some [.list xs])(hk:jU (Rn k) σ (qz e)=some [(Str.ofString "key",.lam y bd sc)])
 (hl:xs.length<60)(m:jF y sc=true)(hd:tG (Rn k) y bd sc xs=some ks)(j:zu ks=true):(Rn (k+1)).ev σ e=some (.list xs):=by
 revert c g hk;refine jY nb h λf i l p h=>nJ nb h λb a h=>jw nb h λx q h c g hk=>?_
 ·have h:=bw h
  subst h;have c:σ.lookup (Str.ofString "sorted")=some .glob:=c;have g:eX (Rn k) σ i=some [.list xs]:=g;have hk:jU (Rn k) σ (b::a)=some [(Str.ofString "key",.lam y bd sc)]:=hk;show(oS none (σ.lookup (Str.ofString "sorted")) λd=>cond (Nat.beq d.ctorIdx 12) (HY (Rn k) σ (Str.ofString "sorted") i (b::a)) (Y9 none d (Fo (Rn k) σ (Str.ofString "sorted") i (b::a))))=_;rw[c];have o:Str.ofString "sorted"≠Str.ofString "isinstance":=by decide+kernel
  show HY (Rn k) σ (Str.ofString "sorted") i (b::a)=_;unfold HY;rw[aq o,g];show oS none (jU (Rn k) σ (b::a)) _=_;rw[hk];show(if Str.ofString "sorted"=Str.ofString "sorted" then Fj (Rn k) [.list xs] [(Str.ofString "key",.lam y bd sc)]else if gN (Str.ofString "sorted")=true/\Str.ofString "sorted"≠Str.ofString "Headers" then(Rn k).callF (Str.ofString "sorted") [.list xs] [(Str.ofString "key",.lam y bd sc)]else none)=_;rw[ao rfl];show(if Str.ofString "key"=Str.ofString "key"/\xs.length<60/\jF y sc=true then oS none (tG (Rn k) y bd sc xs) (λks=>if zu ks then some (D.list xs)else none)else none)=some (D.list xs);rw[ao ⟨rfl,hl,m⟩,hd];exact ao j
theorem Ai {r:Rec}{y:Str}{bd:Expr}{sc:Scope}(h:∀p q:D,r.ev ⟨[(y,.list [p,q])],sc.names⟩ bd=some (.list [q,p])):∀R:List eQ,tG r y bd sc (R.map jf)=some (R.map λp=>[(p.2:Int),(p.1:Int)])
 |[]=>rfl
 |p::R=>by show(oS none (r.ev ⟨[(y,.list [.int p.1,.int p.2])],sc.names⟩ bd) λv=>dL none v λc=>oS none (mF c) λa=>oS none (tG r y bd sc (R.map jf)) λb=>some (a::b))=_;rw[h,Ai h R];rfl
theorem TX:∀{R:List eQ},Gm R->zu (R.map λp=>[(p.2:Int),(p.1:Int)])=true
 |[],_=>rfl
 |[a],_=>rfl
 |a::b::R,h=>by
  have g:=h.g.1 b (.head _);have f:=h.f a (.head _);have e:=h.f b (.tail _ (.head _));have g:2 * a.2+a.1<=2 * b.2+b.1:=g;have c:=TX (R:=b::R) ⟨h.g.2,λp d=>h.f p (.tail _ d),by have:=h.len;rw[bx]at this;exact cD ‹_›⟩;have lt:ltI [(b.2:Int),(b.1:Int)] [(a.2:Int),(a.1:Int)]=false:=by
   show(if (b.2:Int)=(a.2:Int)then(if (b.1:Int)=(a.1:Int)then false else decide ((b.1:Int)<(a.1:Int)))else decide ((b.2:Int)<(a.2:Int)))=false;by_cases q:(b.2:Int)=(a.2:Int)
   ·rw[ao q]
    by_cases w:(b.1:Int)=(a.1:Int)
    ·rw[ao w]
    ·rw[aq w]
     exact bU (by lia)
   ·rw[aq q]
    exact bU (by lia)
  show(!ltI [(b.2:Int),(b.1:Int)] [(a.2:Int),(a.1:Int)]&&true&&zu ((b::R).map λp=>[(p.2:Int),(p.1:Int)]))=true;rw[lt,c];rfl
theorem eqD_st (l:List eQ):W7 (dO l) (dO l)=some true:=yW (λp:eQ=>[D.int p.1,D.int p.2]) (λa d b=>by simp only[au,bh,cA]at b;refine wH b ?_ ?_<;>rfl) l
noncomputable def eTd:Expr:=dh (sH 4)
noncomputable def H6:Expr:=pK (Hx eTd)
section
variable (k:Nat)(kd:Nat)(one two:List eQ)(R:List eQ)(o:Option Nat)
noncomputable def H4 (b:List D)(a:Int):Sg:=⟨("last",.int a)::("told",.list b)::(H2 kd one two R o).vars,hN⟩
theorem Wq (h:Gm R)(hl:R.length<60)(rest:List Stmt):fO (Rn (k+8)) tH (H2 kd one two R o) rO (sH 4::sH 5::rest)=fO (Rn (k+8)) tH (H4 kd one two R o [] (-1)) je rest:=by
 have c:(Rn (k+6)).ev (H2 kd one two R o) H6=some (dO R):=by
  have d:eX (Rn (k+5)) (H2 kd one two R o) (cY H6)=some [dO R]:=by induction o using aK<;>rfl'
  have eK:jU (Rn (k+5)) (H2 kd one two R o) (qz H6)=some [(Str.ofString "key",lamOf (Uk (qz H6)))]:=by induction o using aK<;>rfl'
  exact ev_soK (k:=k+5) (y:=lamX (Uk (qz H6))) (bd:=lamB (Uk (qz H6))) (sc:=lamS (Uk (qz H6))) ⋯ (by induction o using aK<;>rfl') d eK (by rw[ak];exact hl) ⋯ (Ai (λp q=>⋯) R) (TX h)
 have b:(Rn (k+7)).tst (H2 kd one two R o) (Hx eTd)=some true:=by rw[iy (k:=k+6) (a:=dO R) ⋯ (by induction o using aK<;>rfl') c,show s6 (Hx eTd)=.Eq by rfl'];exact eqD_st R
 have ev:(Rn (k+8)).ev (H2 kd one two R o) eTd=some (.list []):=by
  rw[n7 (k:=k+7) ⋯ b]
  rfl'
 refine(aJ (own':=je) (σ':=⟨("told",.list [])::(H2 kd one two R o).vars,hN⟩) ?_).trans ?_
 ·rw[dg ⋯ (by induction o using aK<;>rfl') (sV (by induction o using aK<;>rfl') ev rfl)]
  induction o using aK<;>rfl'
 ·refine aJ ?_
  induction o using aK<;>rfl'
end
noncomputable def lt (l:List eQ)(c:Nat):Nat:=if c=0 then 0 else(l[c - 1]?.getD (0,0)).1+1
noncomputable def hl (g:Nat):List Nat:=if g=0 then[]else[g - 1]
noncomputable def Gk (kd a b:Nat):Nat:=if kd=1 then min a b else max a b
noncomputable def rA:Nat->List (Nat×Nat)->List eQ
 |_,[]=>[]
 |L,(g,e)::r=>if L<g then(g - 1,e)::rA g r else rA L r
noncomputable def Jr (kd:Nat)(one two R:List eQ)(n:Nat):Nat:=if kd=0 then wu fX (two[n]?.getD (0,0)).1 one else qG fX (R[n]?.getD (0,0)).2 one
noncomputable def Gs (kd:Nat)(two R:List eQ)(n:Nat):Nat:=if kd=0 then 0 else qG fX (R[n]?.getD (0,0)).2 two
noncomputable def CX (kd:Nat)(one two R:List eQ)(n:Nat):Nat×Nat:=(Gk kd (lt one (Jr kd one two R n)) (lt two (Gs kd two R n)),(R[n]?.getD (0,0)).2)
theorem Dy {l:List eQ}{c:Nat}(b:c<=l.length):((l.take c).drop (c - 1)).map v8=hl (lt l c):=by
 unfold lt hl
 induction c using Nat.casesAuxOn with
 |zero=>rfl
 |succ c=>
  rw[aq (Nat.succ_ne_zero c),aq (Nat.succ_ne_zero _)];have a:c<l.length:=by assumption
  have e:l.take (c+1)=l.take c++[l[c]]:=by rw[List.take_append_getElem a]
  rw[Nat.add_sub_cancel,e,List.drop_left' (by rw[List.length_take];lia),aR a];rfl
theorem Dz {l:List D}{c:Nat}(g:c<=l.length)(hs:l.length<=1000):lZ (.list l) (some ((if (1:Int) > (c:Nat)then 1 else((c:Nat):Int)) - 1)) (some (c:Nat))=some (.list ((l.take c).drop (c - 1))):=by
 have f:((if (1:Int) > (c:Nat)then 1 else((c:Nat):Int)) - 1)=((c - 1:Nat):Int):=by split<;>lia
 rw[f];rw[slice_list];have e:Option.all gC (some ((c - 1:Nat):Int))=true:=by have:=pM (n:=c - 1) (by omega);rw[Option.all_some,this]
 have s2:Option.all gC (some ((c:Nat):Int))=true:=by have:=pM (n:=c) (by exact aA ‹_› ‹_›);rw[Option.all_some,this]
 have d:small l.length=true:=dZ (by exact aA ‹_› (by decide));rw[ao ⟨e,s2,d⟩];unfold jm place;dsimp only;rw[aq (by simp),aq (by simp)];have a:min ((c - 1:Nat):Int).toNat l.length=c - 1:=by rw[Int.toNat_natCast];lia
 have b:min ((c:Nat):Int).toNat l.length=c:=by rw[Int.toNat_natCast];simp_all
 rw[a,b]
noncomputable def bH (i:Nat):Stmt:=(jt (sH 6))[i]?.getD (.Pass default)
theorem bodyLH:jt (sH 6)=[bH 0,bH 1,bH 2,bH 3,bH 4]:=⋯
noncomputable abbrev M5:Type:=Option (D×D×D×D×D)
theorem br_st {l:List eQ}{f:eQ->Nat}{g:D->D}(c:∀a,g (jf a)=.int (f a:Nat))(hs:zW f l){v:Nat}:∀(i:Nat)(d:D),(l.map jf)[i]? =some d->jh .Lt (.int (v:Nat)) (g d)=some (decide (qG f v l<=i)):=λi d e=>by
 refine cW (λa h b=>?_) (rY e);subst b;rw[c];show some (decide (((v:Nat):Int)<((f a:Nat):Int)))=_;congr 1;refine bI.mpr ?_;have:=qj hs h (v:=v)
 lia
section
variable (k:Nat)(kd:Nat)(one two:List eQ)(R:List eQ)(o:Option Nat)(T:List eQ)(L:Nat)
noncomputable def Td:List (Str×D):=("last",.int ((L:Int) - 1))::("told",dO T)::(H2 kd one two R o).vars
noncomputable def Q0 (n:Nat):M5->Sg
 |none=>⟨("n",.int n)::Td kd one two R o T L,hN⟩
 |some (_,b,c,d,e)=>⟨("head",e)::("heads",d)::("j",c)::("k",b)::("n",.int n)::Td kd one two R o T L,hN⟩
noncomputable def Q1 (n a:Nat):M5->Sg
 |none=>⟨("k",.int a)::("n",.int n)::Td kd one two R o T L,hN⟩
 |some (_,_,c,d,e)=>⟨("head",e)::("heads",d)::("j",c)::("k",.int a)::("n",.int n)::Td kd one two R o T L,hN⟩
noncomputable def Q2 (n a b:Nat):M5->Sg
 |none=>⟨("j",.int b)::("k",.int a)::("n",.int n)::Td kd one two R o T L,hN⟩
 |some (_,_,_,d,e)=>⟨("head",e)::("heads",d)::("j",.int b)::("k",.int a)::("n",.int n)::Td kd one two R o T L,hN⟩
noncomputable def Q3 (n a b:Nat)(hs:List Nat):M5->Sg
 |none=>⟨("heads",.list (fJ hs))::("j",.int b)::("k",.int a)::("n",.int n)::Td kd one two R o T L,hN⟩
 |some (_,_,_,_,e)=>⟨("head",e)::("heads",.list (fJ hs))::("j",.int b)::("k",.int a)::("n",.int n)::Td kd one two R o T L,hN⟩
noncomputable def TH:M5->Sg
 |none=>⟨Td kd one two R o T L,hN⟩
 |some (a,b,c,d,e)=>⟨("head",e)::("heads",d)::("j",c)::("k",b)::("n",a)::Td kd one two R o T L,hN⟩
noncomputable def m5 (n a b:Nat)(hs:List Nat)(h:Int):M5:=some (.int n,.int a,.int b,.list (fJ hs),.int h)
variable (n a b:Nat)(m:M5)
variable {kd one two R o T L n a b m}
theorem st_k (i:zJ one)(hk:kd<=2)(l:n<R.length)(p:R.length<=60)(hz:kd=0->n<two.length):ni (Rn (k+17)) tH (Q0 kd one two R o T L n m) je (bH 0)=some ⟨Q1 kd one two R o T L n (Jr kd one two R n) m,je,.next⟩:=by
 have j:=i.len;have e:(Rn (k+17)).ev (without je (Q0 kd one two R o T L n m)) (dh (bH 0))=some (.int (Jr kd one two R n:Nat)):=by
  by_cases q:kd=0
  ·subst q
   rw[n7 (k:=k+16) ⋯ (by induction o using aK<;>induction m using aK<;>rfl')];have d:=hz rfl;have h:two[n]? =some (two[n]?.getD (0,0)):=by rw[aR d];rfl
   have g:(Rn (k+14)).ev (without je (Q0 0 one two R o T L n m)) (subV ((cY (yH (dh (bH 0))))[1]?.getD default))=some (jf (two[n]?.getD (0,0))):=by rw[gf (k:=k+13) (a:=dO two) (b:=.int (n:Nat)) ⋯ (by induction o using aK<;>induction m using aK<;>rfl') (by induction o using aK<;>induction m using aK<;>rfl')];show mD (.list (two.map jf)) (.int (n:Nat))=_;rw[su (by lia),bQ,h];rfl
   have f:(Rn (k+15)).ev (without je (Q0 0 one two R o T L n m)) ((cY (yH (dh (bH 0))))[1]?.getD default)=some (.int ((two[n]?.getD (0,0)).1:Nat)):=by rw[gf (k:=k+14) (b:=.int 0) ⋯ g (by induction o using aK<;>induction m using aK<;>rfl')];rfl
   rw[jR (k:=k+15) (ds:=[.list (fJ (one.map fX)),.int ((two[n]?.getD (0,0)).1:Nat)]) ⋯ (by induction o using aK<;>induction m using aK<;>rfl') (by rw[show cY (yH (dh (bH 0)))=[(cY (yH (dh (bH 0))))[0]?.getD default,(cY (yH (dh (bH 0))))[1]?.getD default] by rfl'];exact bO (by induction o using aK<;>induction m using aK<;>rfl') (bO f rfl)),show jy (yH (dh (bH 0)))=Str.ofString "bisect_left" by rfl']
   refine(bl0 (k:=k+3) (c:=wu fX (two[n]?.getD (0,0)).1 one) (by rw[m8,ak];exact aA ‹_› (by decide)) (by rw[m8,ak];exact lg _ _) (Tg i.e) rfl).trans ?_;unfold Jr;rw[ao rfl]
  ·rw[sU (k:=k+16) ⋯ (by
    have:kd=1\/kd=2:=by lia
    refine wH this ?_ ?_<;>induction o using aK<;>induction m using aK<;>rfl')]
   have h:R[n]? =some (R[n]?.getD (0,0)):=by rw[aR l];rfl
   have g:(Rn (k+14)).ev (without je (Q0 kd one two R o T L n m)) (subV ((cY (yG (dh (bH 0))))[1]?.getD default))=some (jf (R[n]?.getD (0,0))):=by rw[gf (k:=k+13) (a:=dO R) (b:=.int (n:Nat)) ⋯ (by induction o using aK<;>induction m using aK<;>rfl') (by induction o using aK<;>induction m using aK<;>rfl')];show mD (.list (R.map jf)) (.int (n:Nat))=_;rw[su (by lia),bQ,h];rfl
   have f:(Rn (k+15)).ev (without je (Q0 kd one two R o T L n m)) ((cY (yG (dh (bH 0))))[1]?.getD default)=some (.int ((R[n]?.getD (0,0)).2:Nat)):=by rw[gf (k:=k+14) (b:=.int 1) ⋯ g (by induction o using aK<;>induction m using aK<;>rfl')];rfl
   rw[jR (k:=k+15) (ds:=[.list (fJ (one.map fX)),.int ((R[n]?.getD (0,0)).2:Nat)]) ⋯ (by induction o using aK<;>induction m using aK<;>rfl') (by rw[show cY (yG (dh (bH 0)))=[(cY (yG (dh (bH 0))))[0]?.getD default,(cY (yG (dh (bH 0))))[1]?.getD default] by rfl'];exact bO (by induction o using aK<;>induction m using aK<;>rfl') (bO f rfl)),show jy (yG (dh (bH 0)))=Str.ofString "bisect_right" by rfl']
   refine(br0 (k:=k+3) (c:=qG fX (R[n]?.getD (0,0)).2 one) (by rw[m8,ak];exact aA ‹_› (by decide)) (by rw[m8,ak];exact mQ _ _) (br_nat i.e) rfl).trans ?_;unfold Jr;rw[aq q]
 rw[dg ⋯ (by induction o using aK<;>induction m using aK<;>rfl') (iD e)]
 induction o using aK<;>induction m using aK<;>rfl'
noncomputable def eJ:Expr:=yG (dh (bH 1))
theorem st_j (hk:kd<=2)(f:Gm R)(u:n<R.length)(v:kd≠0->qG fX (R[n]?.getD (0,0)).2 R=a+Gs kd two R n):ni (Rn (k+17)) tH (Q1 kd one two R o T L n a m) je (bH 1)=some ⟨Q2 kd one two R o T L n a (Gs kd two R n) m,je,.next⟩:=by
 have y:=f.len;have e:(Rn (k+17)).ev (without je (Q1 kd one two R o T L n a m)) (dh (bH 1))=some (.int (Gs kd two R n:Nat)):=by
  by_cases q:kd=0
  ·subst q
   rw[n7 (k:=k+16) ⋯ (by induction o using aK<;>induction m using aK<;>rfl')]
   rfl'
  ·rw[sU (k:=k+16) ⋯ (by
    have:kd=1\/kd=2:=by lia
    refine wH this ?_ ?_<;>induction o using aK<;>induction m using aK<;>rfl')]
   have t:R[n]? =some (R[n]?.getD (0,0)):=by rw[aR u];rfl
   have s:(Rn (k+13)).ev (without je (Q1 kd one two R o T L n a m)) (subV ((cY (jJ eJ))[1]?.getD default))=some (jf (R[n]?.getD (0,0))):=by rw[gf (k:=k+12) (a:=dO R) (b:=.int (n:Nat)) ⋯ (by induction o using aK<;>induction m using aK<;>rfl') (by induction o using aK<;>induction m using aK<;>rfl')];show mD (.list (R.map jf)) (.int (n:Nat))=_;rw[su (by lia),bQ,t];rfl
   have l:(Rn (k+14)).ev (without je (Q1 kd one two R o T L n a m)) ((cY (jJ eJ))[1]?.getD default)=some (.int ((R[n]?.getD (0,0)).2:Nat)):=by rw[gf (k:=k+13) (b:=.int 1) ⋯ s (by induction o using aK<;>induction m using aK<;>rfl')];rfl
   have eK:jU (Rn (k+14)) (without je (Q1 kd one two R o T L n a m)) (qz (jJ eJ))=some (kw (lamOf (Uk (qz (jJ eJ))))):=by induction o using aK<;>induction m using aK<;>rfl'
   have i:(Rn (k+15)).ev (without je (Q1 kd one two R o T L n a m)) (jJ eJ)=some (.int (qG fX (R[n]?.getD (0,0)).2 R:Nat)):=by
    rw[Cg (k:=k+14) (ds:=[dO R,.int ((R[n]?.getD (0,0)).2:Nat)]) (kds:=kw (lamOf (Uk (qz (jJ eJ))))) ⋯ (by induction o using aK<;>induction m using aK<;>rfl') (by rw[show cY (jJ eJ)=[(cY (jJ eJ))[0]?.getD default,(cY (jJ eJ))[1]?.getD default] by rfl'];exact bO (by induction o using aK<;>induction m using aK<;>rfl') (bO l rfl)) eK,show jy (jJ eJ)=Str.ofString "bisect_right" by rfl']
    refine br1 (k:=k+2) (kv:=vM) (c:=qG fX (R[n]?.getD (0,0)).2 R) (by rw[ak];omega) ⋯ (λj d x=>?_) (by rw[ak];exact mQ _ _) (br_st (λa=>rfl) f.e) rfl;refine cW (λp Z g=>?_) (aG.mp x);subst g
    rfl'
   have h:(Rn (k+15)).ev (without je (Q1 kd one two R o T L n a m)) (mR eJ)=some (.int (a:Nat)):=by induction o using aK<;>induction m using aK<;>rfl'
   show(Rn (k+16)).ev _ eJ=_;rw[fQ (k:=k+15) ⋯ i h,show CK eJ=.Sub by rfl',v q];show some (D.int (((a+Gs kd two R n:Nat):Int) - (a:Nat)))=_;rw[show(((a+Gs kd two R n:Nat):Int) - (a:Nat))=(Gs kd two R n:Nat) by lia]
 rw[dg ⋯ (by induction o using aK<;>induction m using aK<;>rfl') (iD e)]
 induction o using aK<;>induction m using aK<;>rfl'
end
noncomputable def eHs:Expr:=dh (bH 2)
noncomputable def eHd:Expr:=dh (bH 3)
noncomputable def sA (i:Nat):Stmt:=(q7 (bH 4))[i]?.getD (.Pass default)
noncomputable def Wr (one two:List eQ)(a b:Nat):List Nat:=hl (lt one a)++hl (lt two b)
theorem Q6 (g:Nat):(hl g).length<=1:=by
 unfold hl;split
 ·exact b7 _
 ·exact bG _
theorem max_hl (A B:Nat):uQ (-1) ((hl A++hl B).map λ(x:Nat)=>(x:Int))=((max A B:Nat):Int) - 1:=by
 unfold hl;by_cases p:A=0<;>by_cases q:B=0
 ·rw[ao p,ao q,p,q];rfl
 ·rw[ao p,aq q]
  show(if ((B - 1:Nat):Int) > -1 then((B - 1:Nat):Int)else -1)=_;split<;>lia
 ·rw[aq p,ao q]
  show(if ((A - 1:Nat):Int) > -1 then((A - 1:Nat):Int)else -1)=_;split<;>lia
 ·rw[aq p,aq q]
  show(if ((B - 1:Nat):Int) > (if ((A - 1:Nat):Int) > -1 then((A - 1:Nat):Int)else -1)then((B - 1:Nat):Int)else(if ((A - 1:Nat):Int) > -1 then((A - 1:Nat):Int)else -1))=_;split<;>split at * <;>lia
noncomputable def minH:List Nat->Int
 |[x,y]=>if (y:Int)<(x:Int)then(y:Int)else(x:Int)
 |_=> -1
theorem min_hl (A B:Nat):minH (hl A++hl B)=((min A B:Nat):Int) - 1:=by
 unfold hl;by_cases p:A=0<;>by_cases q:B=0
 ·rw[ao p,ao q,p,q];rfl
 ·rw[ao p,aq q]
  show(-1:Int)=_;simp_all
 ·rw[aq p,ao q]
  show(-1:Int)=_;simp_all
 ·rw[aq p,aq q]
  show(if ((B - 1:Nat):Int)<((A - 1:Nat):Int)then((B - 1:Nat):Int)else((A - 1:Nat):Int))=_;split<;>lia
section
variable (k:Nat){kd:Nat}{one two:List eQ}{R:List eQ}{o:Option Nat}{T:List eQ}{L:Nat}{n a b:Nat}{m:M5}
theorem st_hs (u:one.length<=6)(h2:two.length<=6)(s:a<=one.length)(hb:b<=two.length):ni (Rn (k+17)) tH (Q2 kd one two R o T L n a b m) je (bH 2)=some ⟨Q3 kd one two R o T L n a b (Wr one two a b) m,je,.next⟩:=by
 have l:(Rn (k+15)).ev (without je (Q2 kd one two R o T L n a b m)) (jJ (wK eHs))=some (.list ((one.map jf).take a |>.drop (a - 1))):=by rw[mW (k:=k+14) (d:=dO one) (a:=some ((if (1:Int) > (a:Nat)then 1 else((a:Nat):Int)) - 1)) (b:=some (a:Nat)) ⋯ (by induction o using aK<;>induction m using aK<;>rfl') (by induction o using aK<;>induction m using aK<;>rfl') (by induction o using aK<;>induction m using aK<;>rfl')];exact Dz (by rw[ak];omega) (by rw[ak];exact aA ‹_› (by decide))
 have j:(Rn (k+15)).ev (without je (Q2 kd one two R o T L n a b m)) (mR (wK eHs))=some (.list ((two.map jf).take b |>.drop (b - 1))):=by rw[mW (k:=k+14) (d:=dO two) (a:=some ((if (1:Int) > (b:Nat)then 1 else((b:Nat):Int)) - 1)) (b:=some (b:Nat)) ⋯ (by induction o using aK<;>induction m using aK<;>rfl') (by induction o using aK<;>induction m using aK<;>rfl') (by induction o using aK<;>induction m using aK<;>rfl')];exact Dz (by rw[ak];omega) (by rw[ak];exact aA ‹_› (by decide))
 have g:((one.take a).drop (a - 1)).length<=6:=by rw[List.length_drop,List.length_take];lia
 have f:((two.take b).drop (b - 1)).length<=6:=by rw[List.length_drop,List.length_take];lia
 have i:(Rn (k+16)).ev (without je (Q2 kd one two R o T L n a b m)) (wK eHs)=some (dO ((one.take a).drop (a - 1)++(two.take b).drop (b - 1))):=by rw[fQ (k:=k+15) ⋯ l j,show CK (wK eHs)=.Add by rfl',<-List.map_take,<-List.map_drop,<-List.map_take,<-List.map_drop];show(if small ((((one.take a).drop (a - 1)).map jf).length+(((two.take b).drop (b - 1)).map jf).length)=true then some (D.list (((one.take a).drop (a - 1)).map jf++((two.take b).drop (b - 1)).map jf))else none)=_;rw[ao (dZ (by rw[ak,ak];lia)),<-bu];rfl
 have e:=gn (k:=k+16) (e:=eHs) (σ:=without je (Q2 kd one two R o T L n a b m)) (ds:=((one.take a).drop (a - 1)++(two.take b).drop (b - 1)).map jf) (σs:=fG eHs (without je (Q2 kd one two R o T L n a b m))) (c:=λZ=>true) (y:=fst2)
  ⋯ (by induction o using aK<;>induction m using aK<;>rfl') (gA (d:=dO ((one.take a).drop (a - 1)++(two.take b).drop (b - 1))) ⋯ i rfl) (λd q=>by refine cW (λp Z h=>?_) (aG.mp q);subst h;exact⟨by induction o using aK<;>induction m using aK<;>rfl',⋯,λZ=>by induction o using aK<;>induction m using aK<;>rfl'⟩) (by rw[ak,aW];lia)
 have t:(Rn (k+17)).ev (without je (Q2 kd one two R o T L n a b m)) eHs=some (.list (fJ (Wr one two a b))):=by
  rw[e,filter_true,aV];have:Wr one two a b=((one.take a).drop (a - 1)++(two.take b).drop (b - 1)).map v8:=by unfold Wr;rw[bu,Dy s,Dy hb]
  rw[this];unfold fJ;rw[aV];rfl
 rw[dg ⋯ (by induction o using aK<;>induction m using aK<;>rfl') (iD t)]
 induction o using aK<;>induction m using aK<;>rfl'
theorem st_hd (hk:kd<=2):ni (Rn (k+17)) tH (Q3 kd one two R o T L n a b (Wr one two a b) m) je (bH 3)=some ⟨TH kd one two R o T L (m5 n a b (Wr one two a b) (((Gk kd (lt one a) (lt two b):Nat):Int) - 1)),je,.next⟩:=by
 have l1:=Q6 (lt one a);have l2:=Q6 (lt two b);have e:(Rn (k+17)).ev (without je (Q3 kd one two R o T L n a b (Wr one two a b) m)) eHd=some (.int (((Gk kd (lt one a) (lt two b):Nat):Int) - 1)):=by
  by_cases q:kd=1
  ·unfold Gk
   rw[ao q,<-min_hl];subst q;rw[sU (k:=k+16) ⋯ (by induction o using aK<;>induction m using aK<;>rfl')];show(Rn (k+16)).ev (without je (Q3 1 one two R o T L n a b (hl (lt one a)++hl (lt two b)) m)) _=_;generalize hl (lt one a)=u at l1⊢;generalize hl (lt two b)=v at l2⊢
   match u,v,l1,l2 with
   |[],[],_,_=>induction o using aK<;>induction m using aK<;>rfl'
   |[x],[],_,_=>induction o using aK<;>induction m using aK<;>rfl'
   |[],[y],_,_=>induction o using aK<;>induction m using aK<;>rfl'
   |[x],[y],_,_=>induction o using aK<;>induction m using aK<;>rfl'
   |_::_::_,_,h,_=>simp at h
   |_,_::_::_,_,h=>simp at h
  ·unfold Gk
   rw[aq q,<-max_hl];rw[n7 (k:=k+16) ⋯ (by
    have:kd=0\/kd=2:=by lia
    refine wH this ?_ ?_<;>induction o using aK<;>induction m using aK<;>rfl')]
   show(Rn (k+16)).ev (without je (Q3 kd one two R o T L n a b (hl (lt one a)++hl (lt two b)) m)) _=_;generalize hl (lt one a)=u at l1⊢;generalize hl (lt two b)=v at l2⊢
   match u,v,l1,l2 with
   |[],[],_,_=>induction o using aK<;>induction m using aK<;>rfl'
   |[x],[],_,_=>induction o using aK<;>induction m using aK<;>rfl'
   |[],[y],_,_=>induction o using aK<;>induction m using aK<;>rfl'
   |[x],[y],_,_=>induction o using aK<;>induction m using aK<;>rfl'
   |_::_::_,_,h,_=>simp at h
   |_,_::_::_,_,h=>simp at h
 rw[dg ⋯ (by induction o using aK<;>induction m using aK<;>rfl') (iD e)]
 induction o using aK<;>induction m using aK<;>rfl'
theorem st_if {g:Nat}{hs:List Nat}(l:n<R.length)(p:R.length<=60)(s:T.length<=1000):ni (Rn (k+17)) tH (TH kd one two R o T L (m5 n a b hs ((g:Int) - 1))) je (bH 4)=some ⟨(if L<g then TH kd one two R o (T++[(g - 1,(R[n]?.getD (0,0)).2)]) g (m5 n a b hs ((g:Int) - 1))else TH kd one two R o T L (m5 n a b hs ((g:Int) - 1))),je,.next⟩:=by
 have c:(Rn (k+17)).tst (TH kd one two R o T L (m5 n a b hs ((g:Int) - 1))) (yI (bH 4))=some (decide ((L:Int) - 1<(g:Int) - 1)):=by induction o using aK<;>rfl'
 by_cases q:L<g
 ·rw[ao q]
  rw[bW (show(L:Int) - 1<(g:Int) - 1 by simp_all)]at c;rw[f9 ⋯ c,show q7 (bH 4)=[sA 0,sA 1] by rfl',cu (k+16)];rw[aJ (σ':=TH kd one two R o T g (m5 n a b hs ((g:Int) - 1))) (own':=je) (by induction o using aK<;>rfl')];refine aJ ?_;have j:R[n]? =some (R[n]?.getD (0,0)):=by rw[aR l];rfl
  have i:(Rn (k+14)).ev (without je (TH kd one two R o T g (m5 n a b hs ((g:Int) - 1)))) (subV ((listE (uo (sA 1)))[1]?.getD default))=some (jf (R[n]?.getD (0,0))):=by rw[gf (k:=k+13) (a:=dO R) (b:=.int (n:Nat)) ⋯ (by induction o using aK<;>rfl') (by induction o using aK<;>rfl')];show mD (.list (R.map jf)) (.int (n:Nat))=_;rw[su (by lia),bQ,j];rfl
  have h:(Rn (k+15)).ev (without je (TH kd one two R o T g (m5 n a b hs ((g:Int) - 1)))) ((listE (uo (sA 1)))[1]?.getD default)=some (.int ((R[n]?.getD (0,0)).2:Nat)):=by rw[gf (k:=k+14) (b:=.int 1) ⋯ i (by induction o using aK<;>rfl')];rfl
  have f:(Rn (k+16)).ev (without je (TH kd one two R o T g (m5 n a b hs ((g:Int) - 1)))) (uo (sA 1))=some (jf (g - 1,(R[n]?.getD (0,0)).2)):=by
   rw[pJ (k:=k+15) (ds:=[.int ((g:Int) - 1),.int ((R[n]?.getD (0,0)).2:Nat)]) ⋯ (by rw[show listE (uo (sA 1))=[(listE (uo (sA 1)))[0]?.getD default,(listE (uo (sA 1)))[1]?.getD default] by rfl'];exact bO (by induction o using aK<;>rfl') (bO h rfl))]
   unfold jf;rw[show(((g - 1:Nat):Int))=(g:Int) - 1 by lia]
  have e:=mO (r:=Rn (k+16)) (tu:=tH) (σ:=TH kd one two R o T g (m5 n a b hs ((g:Int) - 1))) (own:=je) (own':=je) (st:=sA 1) (xs:=T.map jf) (d:=jf (g - 1,(R[n]?.getD (0,0)).2)) ⋯ ⋯ (by induction o using aK<;>rfl') (iD f) ⋯ (dZ (by rw[ak];exact aA ‹_› (by decide)));rw[e];have:dO (T++[(g - 1,(R[n]?.getD (0,0)).2)])=.list (T.map jf++[jf (g - 1,(R[n]?.getD (0,0)).2)]):=by unfold dO;rw[bu];rfl
  unfold TH Td m5;rw[this]
  induction o using aK<;>rfl'
 ·rw[aq q]
  rw[bU (show ¬(L:Int) - 1<(g:Int) - 1 by simp_all)]at c;rw[fP ⋯ c,show zH (bH 4)=[] by rfl'];rfl
end
theorem mY (L g e:Nat)(r:List (Nat×Nat)):rA L ((g,e)::r)=if L<g then(g - 1,e)::rA g r else rA L r:=rfl
theorem Xk {R:List eQ}(h:Gm R)(hl:R.length<60)(e v:Nat):qG fX v (iI fX (0,e) R)=qG fX v R+if e<=v then 1 else 0:=by
 rw[lE (h.ins e hl).e,v7,lE h.e];congr 1;by_cases q:e<=v
 ·rw[ao q]
  exact ao (bW q)
 ·rw[aq q]
  exact aq (by rw[bU (show ¬fX (0,e)<=v from q)];simp)
theorem FZ {v:Nat}:∀{es:List Nat}{R:List eQ},Gm R->R.length+es.length<=60->qG fX v (yz es R)=qG fX v R+es.countP λe=>decide (e<=v)
 |[],R,_,_=>rfl
 |e::es,R,h,hl=>by
  rw[bx]at hl;show qG fX v (yz es (iI fX (0,e) R))=_;rw[FZ (h.ins e (by lia)) (by rw[jX];lia),Xk h (by lia),dH];by_cases q:e<=v
  ·rw[ao q,ao (bW q)];lia
  ·rw[aq q,aq (by rw[bU q];simp)];rfl
theorem Xj {kd:Nat}{one two:List eQ}(a:zJ one)(h2:zJ two)(hk:kd≠0)(v:Nat):qG fX v (fM kd one two)=qG fX v one+qG fX v two:=by have l1:=a.len;have l2:=h2.len;unfold fM tO;rw[aq hk,FZ (Jh h2) (by unfold MT;rw[ak,ak];lia),lE (Jh h2).e,lE a.e,lE h2.e];unfold MT;rw[List.countP_map,List.countP_map,Nat.add_comm];rfl
theorem DK (one two:List eQ):(fM 0 one two).length=two.length:=by show(two.map λb=>((1,b.2):eQ)).length=_;rw[ak]
section
variable (k:Nat){kd:Nat}{one two:List eQ}(h1:zJ one)(h2:zJ two)(hk:kd<=2)
include h1 h2 hk
theorem Ws (o:Option Nat){T:List eQ}{L n:Nat}(m:M5)(a:n<(fM kd one two).length)(f:T.length<=1000)(rest:List D):∃c,mK (Rn (k+18)) tH (oM (sH 6)) (jt (sH 6)) (.int (0+n)::rest) (TH kd one two (fM kd one two) o T L m) je=
 mK (Rn (k+18)) tH (oM (sH 6)) (jt (sH 6)) rest (if L<(CX kd one two (fM kd one two) n).1 then TH kd one two (fM kd one two) o (T++[((CX kd one two (fM kd one two) n).1 - 1,(CX kd one two (fM kd one two) n).2)]) (CX kd one two (fM kd one two) n).1 c else TH kd one two (fM kd one two) o T L c) je:=by
 have b:=xq (kd:=kd) h1 h2;have d:=b.1.len;have l1:=h1.len;have l2:=h2.len;have z:kd=0->n<two.length:=λq=>by subst q;rw[DK]at a;exact a
 have i:Jr kd one two (fM kd one two) n<=one.length:=by
  unfold Jr;split
  ·exact lg _ _
  ·exact mQ _ _
 have h:Gs kd two (fM kd one two) n<=two.length:=by
  unfold Gs;split
  ·exact b7 _
  ·exact mQ _ _
 have e:kd≠0->qG fX ((fM kd one two)[n]?.getD (0,0)).2 (fM kd one two)=Jr kd one two (fM kd one two) n+Gs kd two (fM kd one two) n:=λq=>by unfold Jr Gs;rw[aq q,aq q,Xj h1 h2 q]
 refine⟨m5 n (Jr kd one two (fM kd one two) n) (Gs kd two (fM kd one two) n) (Wr one two (Jr kd one two (fM kd one two) n) (Gs kd two (fM kd one two) n)) (((CX kd one two (fM kd one two) n).1:Int) - 1),?_⟩;rw[show(D.int (0+(n:Int)))=D.int (n:Nat) by rw[Int.zero_add]];generalize j:fM kd one two=R at *;refine iU (σ₁:=Q0 kd one two R o T L n m) (by induction o using aK<;>induction m using aK<;>rfl') ?_;rw[bodyLH,cu (k+17),aJ (st_k k h1 hk a d z),aJ (st_j k hk b.1 a e),aJ (st_hs k l1 l2 i h),aJ (st_hd k hk)];refine(aJ (st_if k (g:=(CX kd one two R n).1) (hs:=Wr one two (Jr kd one two R n) (Gs kd two R n)) a d f)).trans ?_;rfl
theorem Ca (o:Option Nat):∀(ns:List Nat)(T:List eQ)(L:Nat)(m:M5),(∀n∈ns,n<(fM kd one two).length)->T.length+ns.length<=1000->∃f j,mK (Rn (k+18)) tH (oM (sH 6)) (jt (sH 6)) (ns.map λ(n:Nat)=>.int (0+n)) (TH kd one two (fM kd one two) o T L m) je=
 some ⟨TH kd one two (fM kd one two) o (T++rA L (ns.map (CX kd one two (fM kd one two)))) j f,je,.next⟩
 |[],T,L,m,_,_=>⟨m,L,by show _=some (⟨TH kd one two (fM kd one two) o (T++[]) L m,je,.next⟩:Out);rw[List.append_nil];rfl⟩
 |n::ns,T,L,m,e,h=>by
  rw[bx]at h;refine yE (λm1 i=>?_) (Ws k h1 h2 hk o (T:=T) (L:=L) m (e n (.head _)) (by lia) (ns.map λ(n:Nat)=>.int (0+n)));have a:∀n∈ns,n<(fM kd one two).length:=λx g=>e x (.tail _ g);rw[aX,aX,i,show CX kd one two (fM kd one two) n=((CX kd one two (fM kd one two) n).1,(CX kd one two (fM kd one two) n).2)from rfl,mY];by_cases q:L<(CX kd one two (fM kd one two) n).1
  ·refine Az (λb d c=>?_) (Ca o ns (T++[((CX kd one two (fM kd one two) n).1 - 1,(CX kd one two (fM kd one two) n).2)]) (CX kd one two (fM kd one two) n).1 m1 a (by rw[aW,List.length_singleton];lia))
   refine⟨b,d,?_⟩;rw[ao q,ao q,c,cR];rfl
  ·refine Az (λb d c=>?_) (Ca o ns T L m1 a (by exact cD ‹_›))
   refine⟨b,d,?_⟩;rw[aq q,aq q,c]
noncomputable def HP (kd:Nat)(one two:List eQ):List eQ:=rA 0 ((List.range (fM kd one two).length).map (CX kd one two (fM kd one two)))
theorem hl_for (o:Option Nat)(rest:List Stmt):∃m L,fO (Rn (k+18)) tH (H4 kd one two (fM kd one two) o [] (-1)) je (sH 6::rest)=fO (Rn (k+18)) tH (TH kd one two (fM kd one two) o (HP kd one two) L m) je rest:=by
 have f:=xq (kd:=kd) h1 h2;have c:=f.1.len;refine Az (λm L e=>?_) (Ca k h1 h2 hk o (List.range (fM kd one two).length) [] 0 none (λn g=>bf.mp g) (by rw[List.length_range,List.length_nil];lia));refine⟨m,L,aJ ?_⟩;have d:(Rn (k+16)).ev (without je (H4 kd one two (fM kd one two) o [] (-1))) ((cY (uf (sH 6)))[0]?.getD default)=some (.int ((fM kd one two).length:Nat)):=
  By (k+15) (aA c (by decide)) ⋯ (by induction o using aK<;>rfl') ⋯ (by induction o using aK<;>rfl')
 have b:gC ((fM kd one two).length:Nat)=true:=pM (aA c (by decide));have h:gC 0=true:=by decide
 have j:(Rn (k+17)).ev (without je (H4 kd one two (fM kd one two) o [] (-1))) (uf (sH 6))=some (.rng 0 ((fM kd one two).length:Nat)):=by rw[j6 (k:=k+16) (ds:=[.int ((fM kd one two).length:Nat)]) ⋯ (by induction o using aK<;>rfl') (by rw[show cY (uf (sH 6))=[(cY (uf (sH 6)))[0]?.getD default] by rfl'];exact jN d),show jy (uf (sH 6))=Str.ofString "range" by rfl',wy];rw[biRg,ao b]
 have a:(Rn (k+18)).ev (without je (H4 kd one two (fM kd one two) o [] (-1))) (uf (sH 6))=some (.rng 0 ((fM kd one two).length:Nat)):=by
  have d:(Rn (k+17)).ev (without je (H4 kd one two (fM kd one two) o [] (-1))) ((cY (uf (sH 6)))[0]?.getD default)=some (.int ((fM kd one two).length:Nat)):=
   By (k+16) (aA c (by decide)) ⋯ (by induction o using aK<;>rfl') ⋯ (by induction o using aK<;>rfl')
  rw[j6 (k:=k+17) (ds:=[.int ((fM kd one two).length:Nat)]) ⋯ (by induction o using aK<;>rfl') (by rw[show cY (uf (sH 6))=[(cY (uf (sH 6)))[0]?.getD default] by rfl'];exact jN d),show jy (uf (sH 6))=Str.ofString "range" by rfl',wy];rw[biRg,ao b]
 have i:gH (Rn (k+18)) (without je (H4 kd one two (fM kd one two) o [] (-1))) (uf (sH 6))=some (rgD (fM kd one two).length):=by refine gA ⋯ a ?_;rw[vY,ao ⟨h,b⟩,show(((fM kd one two).length:Int) - 0).toNat=(fM kd one two).length by rfl];rfl
 rw[qb ⋯ i ⋯];have:H4 kd one two (fM kd one two) o [] (-1)=TH kd one two (fM kd one two) o [] 0 none:=by induction o using aK<;>rfl'
 rw[this];unfold rgD;rw[e];rfl
theorem Hz:(Rn (k+20)).callF "_law_halved" [.int kd,dO one,dO two] []=some (dO (HP kd one two)):=by
 have a:=xq (kd:=kd) h1 h2;refine yE (λo b=>?_) (hw_for k kd one two h1 h2 hk [sH 4,sH 5,sH 6,sH 7]);refine Az (λm L c=>?_) (hl_for k h1 h2 hk o [sH 7]);refine gj (f:=iV) (σ₀:=H0 kd one two) ⋯ ⋯ ⋯ ⋯ (sg:=TH kd one two (fM kd one two) o (HP kd one two) L m) (ow:=[]) ?_;rw[Zd,cu (k+18)];refine(Jy (k+13) kd one two h1 h2 _).trans ?_;have d:ni (Rn (k+18)) tH (H1 kd one two) [] (sH 1)=some ⟨H1 kd one two,[],.next⟩:=by
  rw[fP ⋯ (by have:kd=0\/kd=1\/kd=2:=Jv (by first|assumption|exact cz ‹_›);refine or3 this ?_ ?_ ?_<;>rfl'),show zH (sH 1)=[] by rfl']
  rfl
 rw[aJ d];refine(hw_row (k+12) kd one two h2 _).trans ?_;refine b.trans ?_;refine(Wq (k+10) kd one two (fM kd one two) o a.1 (by lia) _).trans ?_;refine c.trans ?_;exact fL (gm ⋯ (sV (by induction o using aK<;>induction m using aK<;>rfl') (by induction o using aK<;>induction m using aK<;>rfl') rfl))
end
structure zE (l:List eQ):Prop where
 p:l.Pairwise λa b=>a.1<b.1/\a.2<b.2
 b:∀a∈l,a.1<=5/\a.2<=5
theorem Py:∀{l:List eQ}{m:Nat},m<=6->l.Pairwise (λa b=>a.1<b.1/\a.2<b.2)->(∀a∈l,m<=a.1/\a.1<=5)->l.length+m<=6
 |[],m,f,_,_=>by rw[List.length_nil];simp_all
 |a::r,m,f,d,e=>by
  have g:=e a (.head _);have:=Py (l:=r) (m:=a.1+1) (by simp_all) (List.Pairwise.of_cons d) (λb c=>⟨(List.rel_of_pairwise_cons d c).1,(e b (.tail _ c)).2⟩);rw[bx]
  lia
theorem GQ {α:Type}{f:α->Nat}:∀{l:List α},l.Pairwise (λa b=>f a<=f b)->zW f l
 |[],_=>trivial
 |_::_,h=>⟨λZ c=>List.rel_of_pairwise_cons h c,GQ (List.Pairwise.of_cons h)⟩
theorem zE.s {l:List eQ}(h:zE l):zJ l:=⟨GQ (h.p.imp λq=>cD q.1),GQ (h.p.imp λq=>cD q.2),by have:=Py (m:=0) (by exact b7 _) h.p λa b=>⟨b7 _,(h.b a b).1⟩;omega⟩
theorem zE.filter {l:List eQ}(h:zE l)(q:eQ->Bool):zE (l.filter q):=⟨h.p.filter q,λa b=>h.b a (bV.mp b).1⟩
theorem anti:∀{l:List eQ},l.Pairwise (λa b=>a.1<b.1/\a.2<b.2)->∀{c d:eQ},c∈l->d∈l->d.2<=c.2->d.1<=c.1
 |[],_,_,_,g,_,_=>by cases g
 |a::r,h,c,d,g,j,q=>by
  refine aC (au.mp g) (λk=>?_) (λf=>?_)
  ·refine aC (au.mp j) (λi=>?_) (λe=>?_)
   ·rw[k,i];exact bG _
   ·have:=List.rel_of_pairwise_cons h e
    rw[k]at q⊢
    lia
  ·refine aC (au.mp j) (λi=>?_) (λe=>?_)
   ·have:=List.rel_of_pairwise_cons h f
    rw[i]at q⊢
    lia
   ·exact anti (List.Pairwise.of_cons h) f e q
theorem N7 {α:Type}{f:α->Nat}{l:List α}:zW f l->∀{i j:Nat}{a z:α},i<=j->l[i]? =some a->l[j]? =some z->f a<=f z:=by
 induction l with
 |nil=>intro Z i j a z Z h;nomatch h
 |cons x r g=>
  intro d i j a z b h c
  induction i using Nat.casesAuxOn with
  |zero=>
   have e:x=a:=aH h
   induction j using Nat.casesAuxOn with
   |zero=>exact(e.symm.trans (aH c))▸bG _
   |succ j=>exact e▸d.1 z (aY (l:=r) c)
  |succ i=>
   induction j using Nat.casesAuxOn with
   |zero=>exact absurd b (Nat.not_succ_le_zero _)
   |succ j=>exact g d.2 (cT b) h c
theorem lt_iff {l:List eQ}(hs:zW v8 l){p:eQ->Prop}{c:Nat}(m:c<=l.length)(j:∀(i:Nat)(a:eQ),l[i]? =some a->(p a<->i<c)){b:Nat}:b<lt l c<->∃a∈l,b<=a.1/\p a:=by
 unfold lt;by_cases q:c=0
 ·rw[ao q]
  constructor
  ·intro h;simp_all
  ·rintro ⟨a,k,_,f⟩
   refine yE (λi e=>?_) (List.getElem?_of_mem k);have:=(j i a e).mp f;simp_all
 ·rw[aq q]
  have d:c - 1<l.length:=by lia
  have g:l[c - 1]? =some l[c - 1]:=aR d;rw[g];show b<l[c - 1].1+1<->_;constructor
  ·intro h
   exact⟨l[c - 1],List.getElem_mem d,by exact cT ‹_›,(j _ _ g).mpr (by lia)⟩
  ·rintro ⟨a,k,o,f⟩
   refine yE (λi e=>?_) (List.getElem?_of_mem k);have:=(j i a e).mp f;have:a.1<=l[c - 1].1:=N7 hs (by exact Nat.le_sub_one_of_lt ‹_›) e g
   lia
theorem Jk {l:List eQ}(h:zJ l){b e:Nat}:b<lt l (qG fX e l)<->∃a∈l,b<=a.1/\a.2<=e:=lt_iff h.b (mQ _ _) λZ Z c=>qj h.e c
theorem Yq {l:List eQ}(h:zJ l){b e:Nat}:b<lt l (wu fX e l)<->∃a∈l,b<=a.1/\a.2<e:=lt_iff h.b (lg _ _) λZ Z c=>wk h.e c
theorem VV {b x y:Nat}:b<max x y<->b<x\/b<y:=by lia
theorem VG {b x y:Nat}:min x y<=b<->x<=b\/y<=b:=by lia
noncomputable def Gf (kd:Nat)(one two:List eQ)(e:Nat):Nat:=if kd=0 then(if qG fX e two=0 then 0 else lt one (wu fX (two[qG fX e two - 1]?.getD (0,0)).1 one))else Gk kd (lt one (qG fX e one)) (lt two (qG fX e two))
theorem lC {one two:List eQ}{b x:Nat}:x∈gh 0 one two b<->∃a∈one,b<=a.1/\∃c∈two,a.2<c.1/\c.2=x:=by rw[Cu];simp only[eH,aG,bV,decide_eq_true_eq,and_assoc]
theorem rW {one two:List eQ}{b x:Nat}:x∈gh 1 one two b<->∃a∈one,b<=a.1/\∃c∈two,b<=c.1/\max a.2 c.2=x:=by rw[Cr];simp only[eH,aG,bV,decide_eq_true_eq,and_assoc]
theorem pF {one two:List eQ}{b x:Nat}:x∈gh 2 one two b<->∃a,(a∈one\/a∈two)/\b<=a.1/\a.2=x:=by rw[W9];simp only[aG,bV,decide_eq_true_eq,and_assoc,bj]
section
variable {kd:Nat}{one two:List eQ}(h1:zE one)(h2:zE two)(hk:kd<=2)
include h1 h2 hk
theorem key {b e:Nat}:b<Gf kd one two e<->∃x∈gh kd one two b,x<=e:=by
 have:kd=0\/kd=1\/kd=2:=Jv (by first|assumption|exact cz ‹_›);rcases this with rfl|rfl|rfl
 ·unfold Gf
  rw[ao rfl];by_cases q:qG fX e two=0
  ·rw[ao q]
   constructor
   ·intro h;simp_all
   ·rintro ⟨x,m,d⟩
    refine rP (λa g j c o s l=>?_) (lC.mp m);subst l;refine yE (λi v=>?_) (List.getElem?_of_mem o);have:=(qj h2.s.e v).mp d;simp_all
  ·rw[aq q,Yq h1.s]
   have hl:=mQ (f:=fX) e two;have u:two[qG fX e two - 1]? =some (two[qG fX e two - 1]'(by lia)):=aR (by lia);have A:=aY u;rw[u];constructor
   ·rintro ⟨a,g,j,p⟩
    exact⟨_,lC.mpr ⟨a,g,j,_,A,p,rfl⟩,(qj h2.s.e u).mpr (by lia)⟩
   ·rintro ⟨x,m,d⟩
    refine rP (λa g j c o s l=>?_) (lC.mp m);subst l;refine yE (λi v=>?_) (List.getElem?_of_mem o);have p:=(qj h2.s.e v).mp d;have:=N7 h2.s.b (show i<=qG fX e two - 1 by exact Nat.le_sub_one_of_lt ‹_›) v u;exact⟨a,g,j,d9 s this⟩
 ·unfold Gf Gk
  rw[aq (by decide),ao rfl,Nat.lt_min,Jk h1.s,Jk h2.s];constructor
  ·rintro ⟨⟨a,g,j,t⟩,c,o,k,z⟩
   exact⟨_,rW.mpr ⟨a,g,j,c,o,k,rfl⟩,Nat.max_le.mpr ⟨t,z⟩⟩
  ·rintro ⟨x,m,d⟩
   refine rP (λa g j c o k l=>?_) (rW.mp m);subst l;have:=Nat.max_le.mp d;exact⟨⟨a,g,j,this.1⟩,c,o,k,this.2⟩
 ·unfold Gf Gk
  rw[aq (by decide),aq (by decide),VV,Jk h1.s,Jk h2.s];constructor
  ·rintro (⟨a,g,j,t⟩|⟨a,g,j,t⟩)
   ·exact⟨_,pF.mpr ⟨a,.inl g,j,rfl⟩,t⟩
   ·exact⟨_,pF.mpr ⟨a,.inr g,j,rfl⟩,t⟩
  ·rintro ⟨x,m,d⟩
   refine nF (λa l j y=>aC l (λg=>?_) (λg=>?_)) (pF.mp m)<;>subst y
   ·exact .inl ⟨a,g,j,d⟩
   ·exact .inr ⟨a,g,j,d⟩
omit h1 h2 hk in
theorem VD {x y:Nat}(h:∀b,b<x<->b<y):x=y:=by
 have a:=h x;have b:=h y
 lia
theorem J4 {e e':Nat}(h:e<=e'):Gf kd one two e<=Gf kd one two e':=by refine Nat.le_of_not_lt λq=>?_;refine cW (λx b a=>?_) ((key h1 h2 hk).mp q);have:=(key h1 h2 hk).mpr ⟨x,b,aA a h⟩;exact eY _ ‹_›
theorem W8 {b x:Nat}(d:x∈gh kd one two b):b<=5:=by
 have:kd=0\/kd=1\/kd=2:=Jv (by first|assumption|exact cz ‹_›);rcases this with rfl|rfl|rfl
 ·refine nF (λa c e Z=>?_) (lC.mp d)
  have:=h1.b a c
  lia
 ·refine nF (λa c e Z=>?_) (rW.mp d)
  have:=h1.b a c
  lia
 ·refine nF (λa f e Z=>aC f (λc=>?_) (λc=>?_)) (pF.mp d)
  ·have:=h1.b a c
   lia
  ·have:=h2.b a c
   lia
theorem Gf_bd (e:Nat):Gf kd one two e<=6:=by refine Nat.le_of_not_lt λq=>?_;refine cW (λx a Z=>?_) ((key h1 h2 hk).mp q);have:=W8 h1 h2 hk a;exact eY _ ‹_›
omit h1 h2 hk in
theorem V3 {l:List Nat}{e:Nat}(d:e<=5):Ho l<=e<->∃x∈l,x<=e:=by
 induction l with
 |nil=>
  constructor
  ·intro h
   have h:(6:Nat)<=e:=h
   lia
  ·rintro ⟨x,c,_⟩
   cases c
 |cons a r b=>
  show min a (Ho r)<=e<->_;rw[VG,b];simp only[au,exists_eq_or_imp]
omit h1 h2 hk in
theorem Bx (l:List Nat):Ho l<=6:=by
 induction l with
 |nil=>exact bG _
 |cons a r b=>exact aA (Nat.min_le_right _ _) b
theorem yh {b e:Nat}(a:e<=5):ji kd one two b<=e<->b<Gf kd one two e:=by rw[key h1 h2 hk];exact V3 a
end
noncomputable def O1 (G:Nat->Nat)(es:List Nat):List (Nat×Nat):=es.map λe=>(G e,e)
noncomputable def xn (G:Nat->Nat)(s:Nat):Nat:=if s=0 then 0 else G (s - 1)
theorem compress {G:Nat->Nat}(hG:∀{e e'},e<=e'->G e<=G e'):∀(f:Nat)(es:List Nat)(s n:Nat),es.length+n<=f->es.Pairwise (λa b=>a<=b)->(∀e∈es,e<s+n)->(∀e,s<=e->e<s+n->xn G e<G e->e∈es)->
 rA (xn G s) (O1 G es)=rA (xn G s) (O1 G (List.range' s n)):=by
 intro f
 induction f with
 |zero=>
  intro es s n p Z Z Z;have k:es=[]:=cO.mp (by simp_all);have j:n=0:=by simp_all
  subst k j;rfl
 |succ f o=>
  intro es s n p B t i;have y:xn G (s+1)=G s:=by unfold xn;rw[aq (by exact Nat.succ_ne_zero _),Nat.add_sub_cancel]
  have F:xn G s<=G s:=by
   unfold xn;split
   ·exact b7 _
   ·exact hG (by exact Nat.sub_le _ _)
  match es with
  |[]=>
   induction n using Nat.casesAuxOn with
   |zero=>rfl
   |succ n=>
    have A:¬xn G s<G s:=λq=>by have:=i s (bG _) (by lia) q;cases this
    have C:xn G s=xn G (s+1):=by rw[y];exact Nat.le_antisymm ‹_› (bc.mp ‹_›)
    rw[List.range'_succ];show _=rA (xn G s) ((G s,s)::O1 G (List.range' (s+1) n));rw[mY,aq A,C];exact o [] (s+1) n (by simp at p⊢;omega) List.Pairwise.nil (λe C=>by cases C) (λe k j d=>i e (by exact cD ‹_›) (by lia) d)
  |e::c=>
   have v:c.length+n<=f:=by rw[bx]at p;lia
   have l:=List.Pairwise.of_cons B;by_cases q:e<s
   ·have u:¬xn G s<G e:=by
     unfold xn;rw[aq (by lia)];have:=hG (show e<=s - 1 by exact Nat.le_sub_one_of_lt ‹_›);simp_all
    show rA (xn G s) ((G e,e)::O1 G c)=_;rw[mY,aq u];refine o c s n v l (λx m=>t x (.tail _ m)) (λx k j d=>?_);rcases au.mp (i x k j d)with rfl|h
    ·lia
    ·exact h
   ·have H:=t e (.head _)
    obtain⟨g,rfl⟩:∃g,n=g+1:=⟨n - 1,by lia⟩;rw[List.range'_succ];show _=rA (xn G s) ((G s,s)::O1 G (List.range' (s+1) g));by_cases w:e=s
    ·subst w
     show rA (xn G e) ((G e,e)::O1 G c)=_;rw[mY,mY];have E:rA (G e) (O1 G c)=rA (G e) (O1 G (List.range' (e+1) g)):=by
      rw[<-y];refine o c (e+1) g (by exact cD ‹_›) l (λx m=>by have:=t x (.tail _ m);lia) (λx k j d=>?_);rcases au.mp (i x (by exact cD ‹_›) (by lia) d)with rfl|h
      ·contradiction
      ·exact h
     by_cases z:xn G e<G e
     ·rw[ao z,ao z,E]
     ·rw[aq z,aq z,show xn G e=G e by exact Nat.le_antisymm ‹_› (bc.mp ‹_›),E]
    ·have A:¬xn G s<G s:=λz=>by
      refine aC (au.mp (i s (bG _) (by lia) z)) (λh=>?_) (λh=>?_)
      ·lia
      ·have:=List.rel_of_pairwise_cons B h
       lia
     rw[mY (xn G s) (G s),aq A,show xn G s=xn G (s+1) by rw[y];exact Nat.le_antisymm ‹_› (bc.mp ‹_›)];exact o (e::c) (s+1) g (by rw[bx]at p⊢;exact cT ‹_›) B (λx m=>by have:=t x m;lia) (λx k j d=>i x (by exact cD ‹_›) (by lia) d)
noncomputable def Xh (g:List Nat)(b:Nat):Nat:=g.countP λx=>decide (x<=b)
noncomputable def up6:List (List Nat):=(List.range 7).flatMap λa=>(List.range' a (7 - a)).flatMap λb=>(List.range' b (7 - b)).flatMap λc=>(List.range' c (7 - c)).flatMap λd=>(List.range' d (7 - d)).flatMap λe=>(List.range' e (7 - e)).map λf=>[a,b,c,d,e,f]
noncomputable def six (g:List Nat):List (Nat×Nat):=g.zip [0,1,2,3,4,5]
theorem Z5:(up6.all λg=>rA 0 (six g)==TP (Xh g))=true:=by decide+kernel
theorem mem_up {a b c d e f:Nat}(i:a<=b)(h2:b<=c)(h3:c<=d)(h:d<=e)(h5:e<=f)(g:f<=6):[a,b,c,d,e,f]∈up6:=by unfold up6;simp only[eH,aG,bf,List.mem_range'_1];exact⟨a,by lia,b,by lia,c,by lia,d,by lia,e,by lia,f,by lia,rfl⟩
theorem Ua {N M:Nat->Nat}(h:∀b,b<=5->N b=M b):TP N=TP M:=by
 have c:∀b,b<6->nxt N b=nxt M b:=λb a=>by
  unfold nxt;split
  ·rfl
  ·exact h _ (by lia)
 unfold TP;have e:(List.range 6).filter (λb=>decide (N b<nxt N b))=(List.range 6).filter (λb=>decide (M b<nxt M b)):=dU λb a=>by rw[bf]at a;rw[h b (by exact cT ‹_›),c b a]
 rw[e];refine cj λb a=>?_;have:=bf.mp (bV.mp a).1;rw[h b (by exact cT ‹_›)]
theorem Sx {N:Nat}{g:Nat->Nat}{b:Nat}(hN:N<=6)(h:∀e,e<=5->(N<=e<->b<g e)):N=Xh [g 0,g 1,g 2,g 3,g 4,g 5] b:=by
 have q:∀e,e<=5->decide (g e<=b)=decide (e<N):=λe a=>bI.mpr (by
  have:=h e a
  lia)
 unfold Xh;simp only[dH,List.countP_nil];rw[q 0 (by exact b7 _),q 1 (by exact Nat.succ_pos _),q 2 (by exact Nat.le_add_left _ _),q 3 (by exact Nat.le_add_left _ _),q 4 (by exact cC _),q 5 (by exact bG _)];have:N=0\/N=1\/N=2\/N=3\/N=4\/N=5\/N=6:=in7 (by first|assumption|exact cz ‹_›);rcases this with rfl|rfl|rfl|rfl|rfl|rfl|rfl<;>rfl
theorem six_TP {N G:Nat->Nat}(hG:∀{e e'},e<=e'->G e<=G e')(hb:∀e,G e<=6)(hN:∀b,N b<=6)(h:∀b e,e<=5->(N b<=e<->b<G e)):rA 0 (O1 G (List.range' 0 6))=TP N:=by rw[Ua (M:=Xh [G 0,G 1,G 2,G 3,G 4,G 5]) λb Z=>Sx (hN b) (h b)];have:=aU.mp Z5 _ (mem_up (hG (show 0<=1 by exact b7 _)) (hG (show 1<=2 by exact Nat.succ_pos _)) (hG (show 2<=3 by exact cC _)) (hG (show 3<=4 by exact cC _)) (hG (show 4<=5 by exact cC _)) (hb 5));exact eq_of_beq this
theorem Ac {α β:Type}(f:α->β)(d:α):∀l:List α,(List.range l.length).map (λn=>f (l[n]?.getD d))=l.map f:=λl=>by
 apply List.ext_getElem
 ·rw[ak,ak,List.length_range]
 ·intro i b a
  rw[ak]at a;rw[List.getElem_map,List.getElem_range,List.getElem_map,aR a];rfl
section
variable {kd:Nat}{one two:List eQ}(h1:zE one)(h2:zE two)(hk:kd<=2)
include h1 h2
theorem Gf_at {c:eQ}(j:c∈two):Gf 0 one two c.2=lt one (wu fX c.1 one):=VD λb=>by
 rw[key h1 h2 (by decide),Yq h1.s];constructor
 ·rintro ⟨x,l,e⟩
  refine rP (λa i h d m g k=>?_) (lC.mp l);subst k;exact⟨a,i,h,d9 g (anti h2.p j m e)⟩
 ·rintro ⟨a,i,h,f⟩
  exact⟨_,lC.mpr ⟨a,i,h,c,j,f,rfl⟩,bG _⟩
omit h1 h2 in
theorem uW {x:eQ}:∀{R:List eQ}{b:eQ},b=x\/b∈R->b∈iI fX x R
 |[],b,h=>by
  rcases h with rfl|h
  ·exact .head _
  ·cases h
 |a::r,b,h=>by
  unfold iI;split
  ·rcases h with rfl|h
   ·exact .tail _ (uW (.inl rfl))
   ·rcases au.mp h with rfl|h
    ·exact .head _
    ·exact .tail _ (uW (.inr h))
  ·rcases h with rfl|h
   ·exact .head _
   ·exact .tail _ h
omit h1 h2 in
theorem qY:∀{es:List Nat}{R:List eQ}{e:Nat},e∈es\/(∃p∈R,p.2=e)->∃p∈yz es R,p.2=e
 |[],R,e,h=>by
  revert h;refine yO (λh=>?_) (λh=>?_)
  ·cases h
  ·exact h
 |x::es,R,e,h=>by
  show ∃p∈yz es (iI fX (0,x) R),p.2=e;rcases h with h|⟨p,a,rfl⟩
  ·rcases au.mp h with rfl|h
   ·exact qY (.inr ⟨_,uW (.inl rfl),rfl⟩)
   ·exact qY (.inl h)
  ·exact qY (.inr ⟨p,uW (.inr a),rfl⟩)
omit h1 h2 in
theorem Eo:∀{es:List Nat}{R:List eQ}{p:eQ},p∈yz es R->p.2∈es\/p∈R
 |[],R,p,h=>.inr h
 |x::es,R,p,h=>by
  refine aC (Eo (es:=es) (R:=iI fX (0,x) R) h) (λh=>?_) (λh=>?_)
  ·exact .inl (.tail _ h)
  ·rcases uV h with rfl|h
   ·exact .inl (.head _)
   ·exact .inr h
include hk
theorem Ou {b x:Nat}(i:x∈gh kd one two b):∃p∈fM kd one two,p.2=x:=by
 have h:∀{c:eQ},c∈two->∃p∈fM kd one two,p.2=c.2:=λ{c} j=>qY (.inr ⟨_,aG.mpr ⟨c,j,rfl⟩,rfl⟩);have k:∀{a:eQ},kd≠0->a∈one->∃p∈fM kd one two,p.2=a.2:=λ{a} q e=>by unfold fM tO;rw[aq q];exact qY (.inl (aG.mpr ⟨a,e,rfl⟩))
 have:kd=0\/kd=1\/kd=2:=Jv (by first|assumption|exact cz ‹_›);rcases this with rfl|rfl|rfl
 ·refine rP (λa e l d s o f=>?_) (lC.mp i);subst f
  exact h s
 ·refine rP (λa e l c j m f=>?_) (rW.mp i);subst f
  by_cases q:a.2<=c.2
  ·rw[Nat.max_eq_right q]
   exact h j
  ·rw[Nat.max_eq_left (by lia)]
   exact k (by decide) e
 ·refine nF (λa f l g=>aC f (λe=>?_) (λe=>?_)) (pF.mp i)<;>subst g
  ·exact k (by decide) e
  ·exact h e
theorem row_bd {p:eQ}(c:p∈fM kd one two):p.2<=5:=by
 refine aC (Eo c) (λh=>?_) (λh=>?_)
 ·unfold tO at h
  split at h
  ·cases h
  ·refine cW (λa b e=>?_) (aG.mp h)
   have:=(h1.b a b).2;have e:a.2=p.2:=e;simp_all
 ·refine cW (λa b e=>?_) (aG.mp h)
  have:=(h2.b a b).2;rw[<-e];exact this
theorem row_G:(List.range (fM kd one two).length).map (CX kd one two (fM kd one two))=O1 (Gf kd one two) ((fM kd one two).map fX):=by
 unfold O1;rw[aV];by_cases q:kd=0
 ·subst q
  have e:fM 0 one two=two.map λb=>((1,b.2):eQ):=rfl;rw[DK,e,aV]
  rewrite [<-Ac (((λe=>(Gf 0 one two e,e))∘fX)∘λb=>((1,b.2):eQ)) (0,0) two]
  refine cj λn a=>?_;have a:=bf.mp a;have c:two[n]? =some (two[n]'a):=aR a;have d:(two.map λb=>((1,b.2):eQ))[n]? =some (1,(two[n]'a).2):=by rw[bQ,c];rfl
  unfold CX Jr Gs;rw[ao rfl,ao rfl,d,c];show(Gk 0 (lt one (wu fX (two[n]'a).1 one)) 0,(two[n]'a).2)=(Gf 0 one two (two[n]'a).2,(two[n]'a).2);rw[Gf_at h1 h2 (List.getElem_mem a)];show(max _ 0,_)=_;rw[Nat.max_zero]
 ·rw[<-Ac ((λe=>(Gf kd one two e,e))∘fX) (0,0) (fM kd one two)]
  refine cj λn a=>?_;unfold CX Jr Gs;rw[aq q,aq q];show _=(Gf kd one two ((fM kd one two)[n]?.getD (0,0)).2,((fM kd one two)[n]?.getD (0,0)).2);unfold Gf;rw[aq q]
theorem HP_eq:HP kd one two=TP (ji kd one two):=by
 unfold HP;rw[row_G h1 h2 hk,<-six_TP (N:=ji kd one two) (G:=Gf kd one two) (λh=>J4 h1 h2 hk h) (Gf_bd h1 h2 hk) (λb=>Bx _) (λb e k=>yh h1 h2 hk k)];have o:=(xq (kd:=kd) h1.s h2.s).1;have d:∀{l:List eQ},zW fX l->(l.map fX).Pairwise (λa b=>a<=b):=λ{l}=>by
  induction l with
  |nil=>exact λZ=>List.Pairwise.nil
  |cons a r s=>
   intro h;rw[aX];refine List.Pairwise.cons (λb u=>?_) (s h.2);refine cW (λc t i=>?_) (aG.mp u);subst i;exact h.1 c t
 refine compress (G:=Gf kd one two) (λh=>J4 h1 h2 hk h) _ _ 0 6 (bG _) (d o.e) (λe k=>?_) (λe Z v g=>?_)
 ·refine cW (λp j i=>?_) (aG.mp k);subst i
  have:=row_bd h1 h2 hk j;show p.2<0+6;exact cz ‹_›
 ·refine cW (λx m f=>?_) ((key h1 h2 hk).mp g)
  have:x=e:=by refine Nat.le_antisymm f (Nat.le_of_not_lt λq=>?_);have:xn (Gf kd one two) e<Gf kd one two (e - 1):=(key h1 h2 hk).mpr ⟨x,m,by exact Nat.le_sub_one_of_lt ‹_›⟩;unfold xn at this;rw[aq (by lia)]at this;exact eY _ ‹_›
  subst this;refine cW (λp j e=>?_) (Ou h1 h2 hk m);exact aG.mpr ⟨p,j,e⟩
theorem K1 {b b':Nat}(h:b<=b'):ji kd one two b<=ji kd one two b':=by
 by_cases q:ji kd one two b'<=5
 ·rw[yh h1 h2 hk q]
  have:=(yh h1 h2 hk q (b:=b')).mp (bG _);exact cU ‹_› ‹_›
 ·have:ji kd one two b<=6:=Bx _
  lia
theorem TP_ok:zE (TP (ji kd one two)):=by
 have g:∀b,b<6->ji kd one two b<nxt (ji kd one two) b->ji kd one two b<=5/\∀c,b<c->c<6->ji kd one two b<ji kd one two c:=λb f h=>by
  unfold nxt at h;have o:ji kd one two (b+1)<=6:=Bx _;split at h
  ·exact⟨by exact cT ‹_›,λc h1 h2=>by lia⟩
  ·refine⟨by lia,λc i m=>?_⟩
   have:=K1 h1 h2 hk (show b+1<=c by assumption);exact d9 ‹_› ‹_›
 constructor
 ·unfold TP
  rw[List.pairwise_map];have:((List.range 6).filter λb=>decide (ji kd one two b<nxt (ji kd one two) b)).Pairwise (· < ·):=List.Pairwise.filter _ List.pairwise_lt_range;refine List.Pairwise.imp_of_mem (λ{b c} f i e=>?_) this;have d:=bV.mp f;have k:=bV.mp i;exact⟨e,(g b (bf.mp d.1) (bw d.2)).2 c e (bf.mp k.1)⟩
 ·intro a l
  refine cW (λb f j=>?_) (aG.mp l);subst j;have d:=bV.mp f;exact⟨by have:=bf.mp d.1;show b<=5;exact cT ‹_›,(g b (bf.mp d.1) (bw d.2)).1⟩
end
noncomputable def DQ (kd:Nat)(one two:List eQ):List eQ:=if kd<=2 then TP (ji kd one two)else T3 one two (kd==3)
theorem op_ok {kd:Nat}{one two:List eQ}(a:zE one)(h2:zE two):zE (DQ kd one two):=by
 unfold DQ;split
 ·rename_i hk
  exact TP_ok a h2 hk
 ·exact a.filter _
theorem Nv (k:Nat){kd:Nat}{one two:List eQ}(a:zE one)(h2:zE two)(hk:kd<=4):(Rn (k+20)).callF "_law_tried" [.int kd,dO one,dO two] []=some (dO (DQ kd one two)):=by
 unfold DQ;by_cases q:kd<=2
 ·rw[ao q]
  exact Kg (k+4) one two a.s.len h2.s.len q
 ·rw[aq q]
  exact Ny (k+2) one two a.s.len h2.s.len (by lia)
theorem Lx (k:Nat){kd:Nat}{one two:List eQ}(a:zE one)(h2:zE two)(hk:kd<=4):(Rn (k+20)).callF "_law_halved" [.int kd,dO one,dO two] []=some (dO (DQ kd one two)):=by
 unfold DQ;by_cases q:kd<=2
 ·rw[ao q,<-HP_eq a h2 q]
  exact Hz k a.s h2.s q
 ·rw[aq q,<-T3h_eq h2.s]
  exact Ly k kd one two a.s h2.s (by lia)
inductive Tok where
 |w (s:Nat)
 |o (kd:Nat)
noncomputable def lY (t:Tok):D:=Tok.casesOn t wD λkd=>.int (kd:Nat)
noncomputable def qQ (n:Nat)(l:List Tok):Bool:=@List.rec Tok (λZ=>Nat->Bool) (λZ=>true) (λt Z a n=>Tok.casesOn t (λs=>Nat.ble s 3&&a (n+1)) λkd=>Nat.ble kd 4&&Nat.ble 2 n&&a (n - 1)) l n
noncomputable def KH (W:Nat->List eQ)(l:List Tok)(st T:List (List eQ)):List (List eQ):=@List.rec Tok (λZ=>List (List eQ)->List (List eQ)->List (List eQ)) (λZ T=>T) (λt Z c st T=>Tok.casesOn t (λs=>c (W s::st) (T++[W s])) λkd=>lc T st λb st=>lc T st λa st=>c (DQ kd a b::st) (T++[DQ kd a b])) l st T
noncomputable def KD (i:Nat):Stmt:=oO.body[i]?.getD (.Pass default)
theorem bodyRn:oO.body=[KD 0,KD 1,KD 2]:=⋯
noncomputable def rnG:List (Str×D):=ig oO.fd.scope
noncomputable def Yh:List (Str×NameKind):=oO.fd.scope.names
noncomputable abbrev NB:List Str:=oO.turned
noncomputable def Il (i:Nat):Stmt:=(jt (KD 1))[i]?.getD (.Pass default)
theorem JS:jt (KD 1)=[Il 0,Il 1,Il 2]:=⋯
noncomputable def TJ (i:Nat):Stmt:=(zH (Il 0))[i]?.getD (.Pass default)
noncomputable abbrev MR:Type:=Option (D×D×Option (D×D))
noncomputable def isTA (st:Stmt):Bool:=Uh false st λx y e=>Cv false e λZ Z Z=>decide (x≠y)
noncomputable def taX (st:Stmt):Str:=Uh default st λx Z Z=>x
noncomputable def taY (st:Stmt):Str:=Uh default st λZ y Z=>y
noncomputable def taE (st:Stmt):Expr:=Uh default st λZ Z e=>e
theorem ex1_ta {r:Rec}{tu:List Str}{σ σ':Sg}{own:List Str}{st:Stmt}{a b:D}(h:isTA st=true)(g:r.ev (without own σ) (taE st)=some (.list [a,b]))(f:σ.holds (taX st)=true)(c:σ.holds (taY st)=true)(hs:(σ.add (taX st) a).add (taY st) b=σ'):
 ni r tu σ own st=some ⟨σ',own.filter (λz=>z !=taX st&&z !=taY st),.next⟩:=by
 revert g f c hs;refine X5 (st:=st) h λx l y k o m e p h=>H7 nb h λv i q h g f c hs=>?_
 ·have j:=bw h
  have g:r.ev (without own σ) (.Subscript v i q)=some (.list [a,b]):=g;have f:σ.holds x=true:=f;have c:σ.holds y=true:=c;have hs:(σ.add x a).add y b=σ':=hs;show(if x=y then none else oS none (r.ev (without own σ) (.Subscript v i q)) λd=>(gq (.Tuple [.Name x l,.Name y k] o m) d σ).map λσ'=>(⟨σ',own.filter (λz=>z !=x&&z !=y),.next⟩:Out))=_;rw[aq j,g];show(if (σ.holds x&&σ.holds y)=true then some ((σ.add x a).add y b)else none).map (λσ'=>(⟨σ',own.filter (λz=>z !=x&&z !=y),.next⟩:Out))=_;rw[f,c];show Option.map (λσ'=>(⟨σ',own.filter (λz=>z !=x&&z !=y),.next⟩:Out)) (some ((σ.add x a).add y b))=_;rw[hs];rfl
section
variable (k:Nat)(toks:D)(ds:List D)(hb:Bool)(st T:List D)
noncomputable def rnV:List (Str×D):=("told",.list T)::("stack",.list st)::("halved",.bool hb)::("spots",.sdict kS ds)::("tokens",toks)::rnG
noncomputable def vH:MR->Sg
 |none=>⟨rnV toks ds hb st T,Yh⟩
 |some (t,a,none)=>⟨("answer",a)::("token",t)::rnV toks ds hb st T,Yh⟩
 |some (t,a,some (x,y))=>⟨("two",y)::("one",x)::("answer",a)::("token",t)::rnV toks ds hb st T,Yh⟩
noncomputable def Zv (t:D):MR->Sg
 |none=>⟨("token",t)::rnV toks ds hb st T,Yh⟩
 |some (_,a,none)=>⟨("answer",a)::("token",t)::rnV toks ds hb st T,Yh⟩
 |some (_,a,some (x,y))=>⟨("two",y)::("one",x)::("answer",a)::("token",t)::rnV toks ds hb st T,Yh⟩
variable {toks ds hb st T}
theorem Oz (t:D)(A:List eQ)(o:Option (D×D))(g:st.length<=100)(h2:T.length<=100):fO (Rn (k+22)) NB (vH toks ds hb st T (some (t,dO A,o))) je [Il 1,Il 2]=some ⟨vH toks ds hb (st++[dO A]) (T++[dO A]) (some (t,dO A,o)),je,.next⟩:=by
 have f:(Rn (k+22)).ev (without je (vH toks ds hb st T (some (t,dO A,o)))) (dh (Il 1))=some (.list (st++[dO A])):=by
  have c:(Rn (k+21)).ev (without je (vH toks ds hb st T (some (t,dO A,o)))) (jJ (dh (Il 1)))=some (.list st):=by rcases o with _|⟨x,y⟩<;>rfl'
  have e:(Rn (k+21)).ev (without je (vH toks ds hb st T (some (t,dO A,o)))) (mR (dh (Il 1)))=some (.list [dO A]):=by rcases o with _|⟨x,y⟩<;>rfl'
  rw[fQ (k:=k+21) ⋯ c e,show CK (dh (Il 1))=.Add by rfl'];show(if small (st.length+1)=true then some (D.list (st++[dO A]))else none)=_;rw[ao (dZ (by exact cU ‹_› (by decide)))]
 have b:ni (Rn (k+22)) NB (vH toks ds hb st T (some (t,dO A,o))) je (Il 1)=some ⟨vH toks ds hb (st++[dO A]) T (some (t,dO A,o)),je,.next⟩:=by rw[dg ⋯ (by rcases o with _|⟨x,y⟩<;>rfl') (iD f)];rcases o with _|⟨x,y⟩<;>rfl'
 have a:ni (Rn (k+22)) NB (vH toks ds hb (st++[dO A]) T (some (t,dO A,o))) je (Il 2)=some ⟨vH toks ds hb (st++[dO A]) (T++[dO A]) (some (t,dO A,o)),je,.next⟩:=by rw[mO (xs:=T) (d:=dO A) (own':=je) ⋯ ⋯ (by rcases o with _|⟨x,y⟩<;>rfl') (iD (by rcases o with _|⟨x,y⟩<;>rfl')) ⋯ (dZ (by exact aA ‹_› (by decide)))];rcases o with _|⟨x,y⟩<;>rfl'
 rw[aJ b,aJ a];rfl
theorem Vm {W:Nat->List eQ}(hd:ds=(List.range 4).map λs=>dO (W s)){s:Nat}(hs:s<=3)(M:MR)(c:st.length<=100)(h2:T.length<=100):∃o,(Rn (k+23)).exs NB (Zv toks ds hb st T (wD s) M) je (jt (KD 1))=some ⟨vH toks ds hb (st++[dO (W s)]) (T++[dO (W s)]) (some (wD s,dO (W s),o)),je,.next⟩:=by
 have b:∃o,ni (Rn (k+22)) NB (Zv toks ds hb st T (wD s) M) je (Il 0)=some ⟨vH toks ds hb st T (some (wD s,dO (W s),o)),je,.next⟩:=by
  subst hd;have:s=0\/s=1\/s=2\/s=3:=in4 (by first|assumption|exact cz ‹_›);rcases M with _|⟨t,a,_|⟨x,y⟩⟩
  ·refine⟨none,?_⟩
   refine nY this ?_ ?_ ?_ ?_<;>rfl'
  ·refine⟨none,?_⟩
   refine nY this ?_ ?_ ?_ ?_<;>rfl'
  ·refine⟨some (x,y),?_⟩
   refine nY this ?_ ?_ ?_ ?_<;>rfl'
 revert b;refine yE λo b=>?_;refine⟨o,?_⟩;rw[JS,cu (k+22),aJ b];exact Oz k (wD s) (W s) o c h2
theorem Ku {l:List D}{a b:D}(h:l.length<=100):lZ (.list (l++[a,b])) (some (-2)) none=some (.list [a,b]):=by
 show(if (true=true)/\(true=true)/\small (l++[a,b]).length=true then some (D.list (jm (l++[a,b]) (some (-2)) none))else none)=_;have hl:(l++[a,b]).length=l.length+2:=by rw[aW];rfl
 rw[ao ⟨rfl,rfl,dZ (by lia)⟩];unfold jm place;dsimp only;rw[ao (by decide),hl];have:(((l.length+2:Nat):Int)+ -2).toNat=l.length:=by lia
 rw[this,<-hl,List.take_length,List.drop_left]
theorem G3 {l:List D}{a b:D}(h:l.length<=100):lZ (.list (l++[a,b])) none (some (-2))=some (.list l):=by
 show(if (true=true)/\(true=true)/\small (l++[a,b]).length=true then some (D.list (jm (l++[a,b]) none (some (-2))))else none)=_;have hl:(l++[a,b]).length=l.length+2:=by rw[aW];rfl
 rw[ao ⟨rfl,rfl,dZ (by lia)⟩];unfold jm place;dsimp only;rw[ao (by decide),hl];have:(((l.length+2:Nat):Int)+ -2).toNat=l.length:=by lia
 rw[this,List.take_left,List.drop_zero]
theorem rn_op {kd:Nat}(hk:kd<=4){one two:List eQ}(g:zE one)(f:zE two)(e c:D)(o:Option (D×D))(s:st.length<=90)(h2:T.length<=100):
 (Rn (k+25)).exs NB (Zv toks ds hb (st++[dO one,dO two]) T (.int (kd:Nat)) (some (e,c,o))) je (jt (KD 1))=some ⟨vH toks ds hb (st++[dO (DQ kd one two)]) (T++[dO (DQ kd one two)]) (some (.int (kd:Nat),dO (DQ kd one two),some (dO one,dO two))),je,.next⟩:=by
 have q:(Rn (k+23)).ev (without je (Zv toks ds hb (st++[dO one,dO two]) T (.int (kd:Nat)) (some (e,c,o)))) (taE (TJ 0))=some (.list [dO one,dO two]):=by rw[mW (k:=k+22) (d:=.list (st++[dO one,dO two])) (a:=some (-2)) (b:=none) ⋯ (by rcases o with _|⟨x,y⟩<;>rfl') (by rcases o with _|⟨x,y⟩<;>rfl') (by rcases o with _|⟨x,y⟩<;>rfl')];exact Ku (by exact aA ‹_› (by decide))
 have j:ni (Rn (k+23)) NB (Zv toks ds hb (st++[dO one,dO two]) T (.int (kd:Nat)) (some (e,c,o))) je (TJ 0)=some ⟨vH toks ds hb (st++[dO one,dO two]) T (some (.int (kd:Nat),c,some (dO one,dO two))),je,.next⟩:=by rw[ex1_ta (a:=dO one) (b:=dO two) ⋯ q (by rcases o with _|⟨x,y⟩<;>rfl') (by rcases o with _|⟨x,y⟩<;>rfl') rfl];rcases o with _|⟨x,y⟩<;>rfl'
 have p:(Rn (k+23)).ev (without je (vH toks ds hb (st++[dO one,dO two]) T (some (.int (kd:Nat),c,some (dO one,dO two))))) (dh (TJ 1))=some (.list st):=by rw[mW (k:=k+22) (d:=.list (st++[dO one,dO two])) (a:=none) (b:=some (-2)) ⋯ ⋯ ⋯ ⋯];exact G3 (by exact aA ‹_› (by decide))
 have i:ni (Rn (k+23)) NB (vH toks ds hb (st++[dO one,dO two]) T (some (.int (kd:Nat),c,some (dO one,dO two)))) je (TJ 1)=some ⟨vH toks ds hb st T (some (.int (kd:Nat),c,some (dO one,dO two))),je,.next⟩:=by
  rw[dg ⋯ ⋯ (iD p)]
  rfl'
 have m:(Rn (k+23)).ev (without je (vH toks ds hb st T (some (.int (kd:Nat),c,some (dO one,dO two))))) (dh (TJ 2))=some (dO (DQ kd one two)):=by
  induction hb using fu
  ·rw[sU (k:=k+22) ⋯ ⋯,jR (k:=k+21) (ds:=[.int (kd:Nat),dO one,dO two]) ⋯ ⋯ ⋯,show jy (yG (dh (TJ 2)))=Str.ofString "_law_tried" by rfl']
   exact Nv (k+1) g f hk
  ·rw[n7 (k:=k+22) ⋯ ⋯,jR (k:=k+21) (ds:=[.int (kd:Nat),dO one,dO two]) ⋯ ⋯ ⋯,show jy (yH (dh (TJ 2)))=Str.ofString "_law_halved" by rfl']
   exact Lx (k+1) g f hk
 have h:ni (Rn (k+23)) NB (vH toks ds hb st T (some (.int (kd:Nat),c,some (dO one,dO two)))) je (TJ 2)=some ⟨vH toks ds hb st T (some (.int (kd:Nat),dO (DQ kd one two),some (dO one,dO two))),je,.next⟩:=by
  rw[dg ⋯ ⋯ (iD m)]
  rfl'
 have l:ni (Rn (k+24)) NB (Zv toks ds hb (st++[dO one,dO two]) T (.int (kd:Nat)) (some (e,c,o))) je (Il 0)=some ⟨vH toks ds hb st T (some (.int (kd:Nat),dO (DQ kd one two),some (dO one,dO two))),je,.next⟩:=by rw[fP ⋯ (by rcases o with _|⟨x,y⟩<;>rfl'),show zH (Il 0)=[TJ 0,TJ 1,TJ 2] by rfl',cu (k+23),aJ j,aJ i,aJ h];rfl
 rw[JS,cu (k+24),aJ l];exact Oz (k+2) _ _ _ (by exact aA ‹_› (by decide)) h2
end
section
variable (k:Nat)(toks:D)(hb:Bool){W:Nat->List eQ}(hW:∀s,s<=3->zE (W s))
noncomputable abbrev CV (W:Nat->List eQ):List D:=(List.range 4).map λs=>dO (W s)
include hW
theorem Vn (l:List Tok)(st T:List (List eQ))(M:MR)(ht:qQ st.length l=true)(hs:∀x∈st,zE x)(C:M=none->st=[])(hl:st.length+l.length<=50)(B:T.length+l.length<=50):∃c i,mK (Rn (k+25)) NB (oM (KD 1)) (jt (KD 1)) (l.map lY) (vH toks (CV W) hb (st.reverse.map dO) (T.map dO) M) je=
 some ⟨vH toks (CV W) hb c ((KH W l st T).map dO) i,je,.next⟩:=by
 induction l generalizing st T M with
 |nil=>exact⟨_,M,rfl⟩
 |cons t l u=>
  rw[bx]at hl B
  induction t using Tok.casesOn with
  |w s=>
   refine yA (λj ht=>?_) (az.mp ht);have j:=bL j;refine yE (λo e=>?_) (Vm (k+2) (toks:=toks) (ds:=CV W) (hb:=hb) (st:=st.reverse.map dO) (T:=T.map dO) (W:=W) rfl j M (by rw[ak,List.length_reverse];lia) (by rw[ak];lia));refine Az (λc i h=>⟨c,i,?_⟩) (u (W s::st) (T++[W s]) (some (wD s,dO (W s),o)) ht (λx g=>(au.mp g).elim (λe=>e▸hW s j) (hs x)) (λq=>nomatch q) (by rw[bx];lia) (by rw[aW,List.length_singleton];lia));have d:gq (oM (KD 1)) (wD s) (vH toks (CV W) hb (st.reverse.map dO) (T.map dO) M)=some (Zv toks (CV W) hb (st.reverse.map dO) (T.map dO) (wD s) M):=by rcases M with _|⟨t,a,_|⟨x,y⟩⟩<;>rfl'
   refine(iU d e).trans ?_;rw[List.reverse_cons,bu,bu]at h;exact h
  |o f=>
   refine yA (λE ht=>?_) (az.mp ht);refine yA (λm v=>?_) (az.mp E);have m:=bL m
   induction st using gY with
   |nil=>exact absurd v nb
   |cons b st=>
    induction st using gY with
    |nil=>exact absurd v nb
    |cons a st=>
     induction M using aK with
     |none=>nomatch C rfl
     |some q=>
      obtain⟨t,p,o⟩:=q;have A:=hs a (.tail _ (.head _));have z:=hs b (.head _);rw[bx,bx]at hl;refine Az (λc i h=>⟨c,i,?_⟩) (u (DQ f a b::st) (T++[DQ f a b]) (some (.int (f:Nat),dO (DQ f a b),some (dO a,dO b))) ht (λx g=>(au.mp g).elim (λe=>e▸op_ok A z) λg=>hs x (.tail _ (.tail _ g))) (λq=>nomatch q) (by rw[bx];lia) (by rw[aW,List.length_singleton];lia));have e:=rn_op k (toks:=toks) (ds:=CV W) (hb:=hb) (st:=st.reverse.map dO) (T:=T.map dO) m A z t p o (by rw[ak,List.length_reverse];lia) (by rw[ak];lia);have d:gq (oM (KD 1)) (.int (f:Nat)) (vH toks (CV W) hb (st.reverse.map dO++[dO a,dO b]) (T.map dO) (some (t,p,o)))=some (Zv toks (CV W) hb (st.reverse.map dO++[dO a,dO b]) (T.map dO) (.int (f:Nat)) (some (t,p,o))):=by rcases o with _|⟨x,y⟩<;>rfl'
      rw[show(b::a::st).reverse.map dO=st.reverse.map dO++[dO a,dO b] by rw[List.reverse_cons,List.reverse_cons,bu,bu,cR];rfl];refine(iU d e).trans ?_;rw[List.reverse_cons,bu,bu]at h;exact h
theorem Ja {l:List Tok}(ht:qQ 0 l=true)(hl:l.length<=50):(Rn (k+28)).callF "_law_run" [.list (l.map lY),.sdict kS (CV W),.bool hb] []=some (.list ((KH W l [] []).map dO)):=by
 refine Az (λb c e=>?_) (Vn (k+1) (.list (l.map lY)) hb hW l [] [] none ht (λx d=>by cases d) (λZ=>rfl) (by simpa using hl) (by simpa using hl));refine gj (f:=oO) (σ₀:=⟨("halved",.bool hb)::("spots",.sdict kS (CV W))::("tokens",.list (l.map lY))::rnG,Yh⟩) ⋯ ⋯ ⋯ ⋯ (sg:=vH (.list (l.map lY)) (CV W) hb b ((KH W l [] []).map dO) c) (ow:=[]) ?_;rw[bodyRn,cu (k+26)];have h:ni (Rn (k+26)) oO.turned ⟨("halved",.bool hb)::("spots",.sdict kS (CV W))::("tokens",.list (l.map lY))::rnG,Yh⟩ [] (KD 0)=some ⟨vH (.list (l.map lY)) (CV W) hb [] [] none,je,.next⟩:=⋯;have g:ni (Rn (k+26)) oO.turned (vH (.list (l.map lY)) (CV W) hb [] [] none) je (KD 1)=some ⟨vH (.list (l.map lY)) (CV W) hb b ((KH W l [] []).map dO) c,je,.next⟩:=by rw[qb (ds:=l.map lY) ⋯ ⋯ ⋯];exact e
 rw[aJ h,aJ g];exact fL (gm ⋯ (sV (by rcases c with _|⟨t,a,_|⟨x,y⟩⟩<;>rfl') (by rcases c with _|⟨t,a,_|⟨x,y⟩⟩<;>rfl') rfl))
end
noncomputable def Wm (b:List Nat)(s:Nat):List eQ:=(uL (mask b s)).map λa=>(a,a)
theorem Zo (a:List Nat)(s:Nat):dO (Wm a s)=.list (Hb (mask a s)):=by unfold dO Wm Hb;rw[aV];rfl
theorem Wm_ok (c:List Nat)(s:Nat):zE (Wm c s):=by
 constructor
 ·unfold Wm uL
  rw[List.pairwise_map];exact(List.Pairwise.filter _ List.pairwise_lt_range).imp λh=>⟨h,h⟩
 ·intro a e
  refine cW (λx d b=>?_) (aG.mp e);subst b;have:=bf.mp (bV.mp d).1;exact⟨by show x<=5;exact cT ‹_›,by show x<=5;exact cT ‹_›⟩
noncomputable def Un:Expr:=m6 (gr 15)
noncomputable def eDL:Expr:=(cY (oU Un))[1]?.getD default
theorem W6 (l:List (List eQ)):W7 (.list (l.map dO)) (.list (l.map dO))=some true:=kW (n:=19) λd b=>by
 refine cW (λa Z c=>?_) (aG.mp b);subst c;unfold dO;exact kW (n:=18) λd b=>by
  refine cW (λp Z c=>?_) (aG.mp b);subst c;unfold jf;exact kW (n:=17) λd b=>by simp only[au,bh,cA]at b;refine wH b ?_ ?_<;>exact nq rfl
section
variable (k:Nat)(scr:List Int)(K L M N O P Q R S T U V X Y:Int)(as qs:List D)(o:Option (D×D))(E F G H I J:Nat)(t0 t1 t2 t3 t4 t5:D)
theorem law16 (q:E<4)(p:F<4)(h2:G<4)(h3:H<4)(m:I<4)(h5:J<4){l:List Tok}(ht:qQ 0 l=true)(hl:l.length<=50):
 fO (Rn (k+31)) tL (J1 scr K L M N O P Q R S T U V X Y as qs (l.map lY) o E F G H I J t0 t1 t2 t3 t4 t5) [] [gr 15]=some ⟨J1 scr K L M N O P Q R S T U V X Y as qs (l.map lY) o E F G H I J t0 t1 t2 t3 t4 t5,[],.ret (.bool true)⟩:=by
 have g:∀s,s<=3->zE (Wm [E,F,G,H,I,J] s):=λs Z=>Wm_ok _ s;have t:(Rn (k+29)).ev (J1 scr K L M N O P Q R S T U V X Y as qs (l.map lY) o E F G H I J t0 t1 t2 t3 t4 t5) eDL=some (.sdict kS (CV (Wm [E,F,G,H,I,J]))):=by
  refine(Ci (k:=k+28) (ds:=gB) (x:=strOf) (y:=λd=>dO (Wm [E,F,G,H,I,J] (codeOf d))) (σs:=Dd eDL (J1 scr K L M N O P Q R S T U V X Y as qs (l.map lY) o E F G H I J t0 t1 t2 t3 t4 t5))
   ⋯ (by induction o using aK<;>rfl') (gA (d:=.list gB) ⋯ (by induction o using aK<;>rfl') rfl) (λd f=>?_) ⋯ (by decide)).trans ⋯
  have:∃s,s<4/\d=wD s:=by
   simp only[gB,au,bh,cA]at f;refine nY f ?_ ?_ ?_ ?_
   ·exact⟨0,by decide,rfl⟩
   ·exact⟨1,by decide,rfl⟩
   ·exact⟨2,by decide,rfl⟩
   ·exact⟨3,by decide,rfl⟩
  revert this;refine cW λs b h=>?_;subst h;have a:s=0\/s=1\/s=2\/s=3:=in4 (by first|assumption|lia);have j:mask [E,F,G,H,I,J] s∈masks:=Eg _ _ _ _ _ _;have i:(Rn (k+28)).ev (Dd eDL (J1 scr K L M N O P Q R S T U V X Y as qs (l.map lY) o E F G H I J t0 t1 t2 t3 t4 t5) (wD s)) (dcV eDL)=(Rn (k+27)).callF "_law_led" [.list (mq E F G H I J s)] []:=by refine nY a ?_ ?_ ?_ ?_<;>induction o using aK<;>rfl'
  have z:codeOf (wD s)=s:=by refine nY a ?_ ?_ ?_ ?_<;>rfl'
  refine⟨?_,?_,?_⟩
  ·refine nY a ?_ ?_ ?_ ?_<;>induction o using aK<;>rfl'
  ·refine nY a ?_ ?_ ?_ ?_<;>induction o using aK<;>rfl'
  ·rw[i,yP q p h2 h3 m h5 b,z,Zo]
   exact led_ok (k+15) j
 have c:((List.range 4).map λs=>D.list (sZ E F G H I J s))=CV (Wm [E,F,G,H,I,J]):=cj λs Z=>(Zo _ s).symm;have v:(Rn (k+30)).ev (J1 scr K L M N O P Q R S T U V X Y as qs (l.map lY) o E F G H I J t0 t1 t2 t3 t4 t5) (oU Un)=some (.list ((KH (Wm [E,F,G,H,I,J]) l [] []).map dO)):=by
  rw[jR (k:=k+29) (ds:=[.list (l.map lY),.sdict kS (CV (Wm [E,F,G,H,I,J])),.bool true]) ⋯ (by induction o using aK<;>rfl') (by rw[show cY (oU Un)=[(cY (oU Un))[0]?.getD default,eDL,(cY (oU Un))[2]?.getD default] by rfl'];exact bO (by induction o using aK<;>rfl') (bO t (bO ⋯ rfl))),show jy (oU Un)=Str.ofString "_law_run" by rfl']
  exact Ja (k+1) true g ht hl
 have u:(Rn (k+30)).ev (J1 scr K L M N O P Q R S T U V X Y as qs (l.map lY) o E F G H I J t0 t1 t2 t3 t4 t5) (pK Un)=some (.list ((KH (Wm [E,F,G,H,I,J]) l [] []).map dO)):=by rw[jR (k:=k+29) (ds:=[.list (l.map lY),.sdict kS ((List.range 4).map λs=>D.list (sZ E F G H I J s)),.bool false]) ⋯ (by induction o using aK<;>rfl') (by induction o using aK<;>rfl'),show jy (pK Un)=Str.ofString "_law_run" by rfl',c];exact Ja (k+1) false g ht hl
 refine fL (gm ⋯ (du ?_));rw[show(Rn (k+31)).ev _ (m6 (gr 15))=_ from qd (k:=k+30) (e:=Un) ⋯ v u,show s6 Un=.Eq by rfl',eq_list,W6];rfl
end
section
variable (k:Nat)(scr:List Int)(K L M N O Q R S T U V X Y Z:Int)
noncomputable def askP:List (D×List Nat):=[jL O,jL Q,jL R,jL S,tC K,tC L,tC M]
noncomputable def O2 (r:Nat):List (D×List Nat):=(s8 r).map λs=>(askP K L M O Q R S)[s]?.getD (.none,[])
noncomputable def askT:List Tok:=[.w (O % 4).toNat,.w (Q % 4).toNat,.w (R % 4).toNat,.w (S % 4).toNat,.o (K % 5).toNat,.o (L % 5).toNat,.o (M % 5).toNat]
noncomputable def qsT (r:Nat):List Tok:=(s8 r).map λs=>(askT K L M O Q R S)[s]?.getD (.w 0)
theorem Hg (g:Int):(tC g).1=lY (.o (g % 5).toNat):=by show D.int (g % 5)=.int ((g % 5).toNat:Nat);congr 1;exact zN (by decide)
theorem qs_map {r:Nat}(h:r<3):Bm r (CN K L M O Q R S)=(O2 K L M O Q R S r).map pD:=by have:r=0\/r=1\/r=2:=Jv (by first|assumption|lia);refine or3 this ?_ ?_ ?_<;>rfl
theorem qs_tok {r:Nat}(h:r<3):(O2 K L M O Q R S r).map (·.1)=(qsT K L M O Q R S r).map lY:=by
 have c:=Hg K;have b:=Hg L;have a:=Hg M;have:r=0\/r=1\/r=2:=Jv (by first|assumption|lia);rcases this with rfl|rfl|rfl
 ·show[(jL O).1,(jL Q).1,(tC K).1,(jL R).1,(tC L).1,(jL S).1,(tC M).1]=_
  rw[c,b,a];rfl
 ·show[(jL O).1,(jL Q).1,(tC K).1,(jL R).1,(jL S).1,(tC L).1,(tC M).1]=_
  rw[c,b,a];rfl
 ·show[(jL O).1,(jL Q).1,(jL R).1,(jL S).1,(tC K).1,(tC L).1,(tC M).1]=_
  rw[c,b,a];rfl
theorem wY {n s:Nat}{r:List Tok}(h:Nat.ble s 3=true)(k:qQ (n+1) r=true):qQ n (.w s::r)=true:=az.mpr ⟨h,k⟩
theorem Bq {n kd:Nat}{r:List Tok}(h:Nat.ble kd 4=true)(h2:Nat.ble 2 n=true)(k:qQ (n - 1) r=true):qQ n (.o kd::r)=true:=az.mpr ⟨az.mpr ⟨h,h2⟩,k⟩
theorem qs_ok {r:Nat}(h:r<3):qQ 0 (qsT K L M O Q R S r)=true:=by
 have a:∀g:Int,Nat.ble (g % 4).toNat 3=true:=λg=>Nat.ble_eq_true_of_le (by lia);have b:∀g:Int,Nat.ble (g % 5).toNat 4=true:=λg=>Nat.ble_eq_true_of_le (by lia);refine or3 (Jv h) ?_ ?_ ?_
 ·show qQ 0 [.w (O % 4).toNat,.w (Q % 4).toNat,.o (K % 5).toNat,.w (R % 4).toNat,.o (L % 5).toNat,.w (S % 4).toNat,.o (M % 5).toNat]=true
  exact wY (a _)<|wY (a _)<|Bq (b _) rfl<|wY (a _)<|Bq (b _) rfl<|wY (a _)<|Bq (b _) rfl<|rfl
 ·show qQ 0 [.w (O % 4).toNat,.w (Q % 4).toNat,.o (K % 5).toNat,.w (R % 4).toNat,.w (S % 4).toNat,.o (L % 5).toNat,.o (M % 5).toNat]=true
  exact wY (a _)<|wY (a _)<|Bq (b _) rfl<|wY (a _)<|wY (a _)<|Bq (b _) rfl<|Bq (b _) rfl<|rfl
 ·show qQ 0 [.w (O % 4).toNat,.w (Q % 4).toNat,.w (R % 4).toNat,.w (S % 4).toNat,.o (K % 5).toNat,.o (L % 5).toNat,.o (M % 5).toNat]=true
  exact wY (a _)<|wY (a _)<|wY (a _)<|wY (a _)<|Bq (b _) rfl<|Bq (b _) rfl<|Bq (b _) rfl<|rfl
theorem XC {r:Nat}(h:r<3){p:D×List Nat}(b:p∈O2 K L M O Q R S r):(∃g,p=jL g)\/∃g,p=tC g:=by
 have z:∀l:List (D×List Nat),Ip (λp=>(∃g,p=jL g)\/∃g,p=tC g) l->p∈l->((∃g,p=jL g)\/∃g,p=tC g):=λl a m=>xH (P:=λp=>(∃g,p=jL g)\/∃g,p=tC g) a m;refine z _ ?_ b;clear b z;refine or3 (Jv h) ?_ ?_ ?_
 ·show Ip _ [jL O,jL Q,tC K,jL R,tC L,jL S,tC M]
  exact fV (.inl ⟨_,rfl⟩) (fV (.inl ⟨_,rfl⟩) (fV (.inr ⟨_,rfl⟩) (fV (.inl ⟨_,rfl⟩) (fV (.inr ⟨_,rfl⟩) (fV (.inl ⟨_,rfl⟩) (fV (.inr ⟨_,rfl⟩) trivial))))))
 ·show Ip _ [jL O,jL Q,tC K,jL R,jL S,tC L,tC M]
  exact fV (.inl ⟨_,rfl⟩) (fV (.inl ⟨_,rfl⟩) (fV (.inr ⟨_,rfl⟩) (fV (.inl ⟨_,rfl⟩) (fV (.inl ⟨_,rfl⟩) (fV (.inr ⟨_,rfl⟩) (fV (.inr ⟨_,rfl⟩) trivial))))))
 ·show Ip _ [jL O,jL Q,jL R,jL S,tC K,tC L,tC M]
  exact fV (.inl ⟨_,rfl⟩) (fV (.inl ⟨_,rfl⟩) (fV (.inl ⟨_,rfl⟩) (fV (.inl ⟨_,rfl⟩) (fV (.inr ⟨_,rfl⟩) (fV (.inr ⟨_,rfl⟩) (fV (.inr ⟨_,rfl⟩) trivial))))))
theorem ue:∀{a:List (D×List Nat)},(∀p∈a,(∃g,p=jL g)\/∃g,p=tC g)->iw (a.map (·.2)) (a.map (·.1))
 |[],_=>.nil
 |p::a,h=>by
  refine .cons ?_ (ue λq b=>h q (.tail _ b));rcases h p (.head _)with⟨g,rfl⟩|⟨g,rfl⟩
  ·exact Gz g
  ·exact Vu g
theorem DW {p:D×List Nat}(h:(∃g,p=jL g)\/∃g,p=tC g):flat p.1=true:=by rcases h with⟨g,rfl⟩|⟨g,rfl⟩<;>rfl
theorem Jf {p:D×List Nat}(h:(∃g,p=jL g)\/∃g,p=tC g):p.2.length<=100:=by
 rcases h with⟨g,rfl⟩|⟨g,rfl⟩
 ·exact aA (J9 g) (by decide)
 ·show 1<=100
  decide
theorem Pj {p:D×List Nat}(d:p∈wG T U V X Y Z):(∃g,p=jL g)\/∃g,p=tC g:=by
 unfold wG at d;simp only[au,bh,cA]at d
 (revert d;refine yO (λh=>?_) (λe=>aC e (λh=>?_) (λc=>aC c (λh=>?_) (λb=>aC b (λh=>?_) (λa=>aC a (λh=>?_) (λh=>?_))))))<;>exact .inl ⟨_,h⟩
theorem Wa:∃sg,fO (Rn (k+31)) tL (S1 scr K L M N O Q R S T U V X Y Z) [] [gr 1,gr 2,gr 3,gr 4,gr 5,gr 6,gr 7,gr 8,gr 9,gr 10,gr 11,gr 12,gr 13,gr 14,gr 15]=some ⟨sg,[],.ret (.bool true)⟩:=by
 have t:∃r:Nat,N % 3=(r:Int)/\r<3:=⟨(N % 3).toNat,by exact zN (by decide),by exact qT (by decide)⟩;revert t;refine cW λr t d=>?_;have a:∀g:Int,(g % 4).toNat<4:=λg=>by exact qT (by decide)
 have m:∀p∈O2 K L M O Q R S r,(∃g,p=jL g)\/∃g,p=tC g:=λp b=>XC K L M O Q R S d b;have q:∀p∈wG T U V X Y Z,(∃g,p=jL g)\/∃g,p=tC g:=λp b=>Pj T U V X Y Z b;have u:(O2 K L M O Q R S r).length<=1000:=by unfold O2;rw[ak];have:r=0\/r=1\/r=2:=Jv (by first|assumption|lia);refine or3 this ?_ ?_ ?_<;>decide
 have x:(wG T U V X Y Z).length<=1000:=by show 6<=1000;decide
 rw[law2 (k+1)];have z:=law3 (k+1) scr K L M N O Q R S T U V X Y Z t d (a0:=rT O) (a1:=rT Q) (a2:=rT R) (a3:=rT S) (a4:=wI K) (a5:=wI L) (a6:=wI M) [gr 3,gr 4,gr 5,gr 6,gr 7,gr 8,gr 9,gr 10,gr 11,gr 12,gr 13,gr 14,gr 15];have v:=qs_map K L M O Q R S d;unfold CN at v⊢;rw[z,v];have y:=λ(as qs:List D)(c:List Stmt)=>law4 (k+1) scr K L M N O Q R S T U V X Y Z (as:=as) (qs:=qs) c;rw[y,law5 (k+1) scr K L M N O Q R S T U V X Y Z (ue q) x (λp b=>Jf (q p b)),law6 (k+1) scr K L M N O Q R S T U V X Y Z (ue m) u (λp b=>Jf (m p b))];rw[law7 (k+1) scr K L M N O Q R S T U V X Y Z (λp b=>DW (q p b)) (λp b=>DW (m p b)) x u];have e:(wG T U V X Y Z).map (·.1)=vJ (T % 4).toNat (U % 4).toNat (V % 4).toNat (X % 4).toNat (Y % 4).toNat (Z % 4).toNat:=rfl;rw[e,qs_tok K L M O Q R S d];rw[law8 (k+1),law9 (k+1) scr K L M N O Q R S T U V X Y Z _ _ _ _ _ (w0:=(T % 4).toNat) (w1:=(U % 4).toNat) (w2:=(V % 4).toNat) (w3:=(X % 4).toNat) (w4:=(Y % 4).toNat) (w5:=(Z % 4).toNat) rfl (a _) (a _) (a _) (a _) (a _) (a _)];refine yE (λo l=>?_) (law10 (k+1) scr K L M N O Q R S T U V X Y Z [rT O,rT Q,rT R,rT S,wI K,wI L,wI M] ((O2 K L M O Q R S r).map pD) ((wG T U V X Y Z).map pD) (vJ (T % 4).toNat (U % 4).toNat (V % 4).toNat (X % 4).toNat (Y % 4).toNat (Z % 4).toNat) ((qsT K L M O Q R S r).map lY) (a T) (a U) (a V) (a X) (a Y) (a Z) [gr 10,gr 11,gr 12,gr 13,gr 14,gr 15]);rw[l,law11 (k+1),law12 (k+1) scr K L M N O Q R S T U V X Y Z _ _ _ _ _ _ o (a T) (a U) (a V) (a X) (a Y) (a Z)];have j:=law13 k scr K L M N O Q R S T U V X Y Z [rT O,rT Q,rT R,rT S,wI K,wI L,wI M] ((O2 K L M O Q R S r).map pD) (vJ (T % 4).toNat (U % 4).toNat (V % 4).toNat (X % 4).toNat (Y % 4).toNat (Z % 4).toNat) ((qsT K L M O Q R S r).map lY)
  (iC (T % 4).toNat (U % 4).toNat (V % 4).toNat (X % 4).toNat (Y % 4).toNat (Z % 4).toNat) (iC (T % 4).toNat (U % 4).toNat (V % 4).toNat (X % 4).toNat (Y % 4).toNat (Z % 4).toNat) ((List.range 4).map λs=>.list (mq (T % 4).toNat (U % 4).toNat (V % 4).toNat (X % 4).toNat (Y % 4).toNat (Z % 4).toNat s)) o
  (T % 4).toNat (U % 4).toNat (V % 4).toNat (X % 4).toNat (Y % 4).toNat (Z % 4).toNat (tB (jL T)) (tB (jL U)) (tB (jL V)) (tB (jL X)) (tB (jL Y)) (tB (jL Z)) (a T) (a U) (a V) (a X) (a Y) (a Z) [gr 13,gr 14,gr 15]
 have i:=law14 k scr K L M N O Q R S T U V X Y Z [rT O,rT Q,rT R,rT S,wI K,wI L,wI M] ((O2 K L M O Q R S r).map pD) (vJ (T % 4).toNat (U % 4).toNat (V % 4).toNat (X % 4).toNat (Y % 4).toNat (Z % 4).toNat) ((qsT K L M O Q R S r).map lY) (iC (T % 4).toNat (U % 4).toNat (V % 4).toNat (X % 4).toNat (Y % 4).toNat (Z % 4).toNat) (iC (T % 4).toNat (U % 4).toNat (V % 4).toNat (X % 4).toNat (Y % 4).toNat (Z % 4).toNat) ((List.range 4).map λs=>.list (mq (T % 4).toNat (U % 4).toNat (V % 4).toNat (X % 4).toNat (Y % 4).toNat (Z % 4).toNat s)) o (T % 4).toNat (U % 4).toNat (V % 4).toNat (X % 4).toNat (Y % 4).toNat (Z % 4).toNat (tB (jL T)) (tB (jL U)) (tB (jL V)) (tB (jL X)) (tB (jL Y)) (tB (jL Z)) [gr 14,gr 15];have h:=law15 k scr K L M N O Q R S T U V X Y Z [rT O,rT Q,rT R,rT S,wI K,wI L,wI M] ((O2 K L M O Q R S r).map pD) ((qsT K L M O Q R S r).map lY) o (T % 4).toNat (U % 4).toNat (V % 4).toNat (X % 4).toNat (Y % 4).toNat (Z % 4).toNat (tB (jL T)) (tB (jL U)) (tB (jL V)) (tB (jL X)) (tB (jL Y)) (tB (jL Z)) (a T) (a U) (a V) (a X) (a Y) (a Z) [gr 15];have f:=law16 k scr K L M N O Q R S T U V X Y Z [rT O,rT Q,rT R,rT S,wI K,wI L,wI M] ((O2 K L M O Q R S r).map pD) o (T % 4).toNat (U % 4).toNat (V % 4).toNat (X % 4).toNat (Y % 4).toNat (Z % 4).toNat (tB (jL T)) (tB (jL U)) (tB (jL V)) (tB (jL X)) (tB (jL Y)) (tB (jL Z)) (a T) (a U) (a V) (a X) (a Y) (a Z) (qs_ok K L M O Q R S d) (by unfold qsT;rw[ak];have:r=0\/r=1\/r=2:=Jv (by first|assumption|lia);refine or3 this ?_ ?_ ?_<;>decide)
 exact⟨_,j.trans (i.trans (h.trans f))⟩
end
@[elab_as_elim] theorem n6 {P:List Int->Prop}{n:Nat}{l:List Int}(h:l.length=n+1)(k:∀a r,r.length=n->P (a::r)):P l:=by
 induction l using gY with
 |nil=>nomatch h
 |cons a r=>exact k a r (Nat.succ.inj h)
@[elab_as_elim] theorem len_z {P:List Int->Prop}{l:List Int}(h:l.length=0)(k:P []):P l:=cO.mp h▸k
theorem Wc (k:Nat)(a:List Int)(hl:a.length<=63):(Rn (k+33)).callF "law" [.list (a.map .int)] []=some (.bool true):=by have c:=Lz a;have b:=law1 (k+19) a hl [gr 1,gr 2,gr 3,gr 4,gr 5,gr 6,gr 7,gr 8,gr 9,gr 10,gr 11,gr 12,gr 13,gr 14,gr 15];revert b;generalize uY a=d at c⊢;refine n6 c λK r h=>n6 h λL r h=>n6 h λM r h=>n6 h λN r h=>n6 h λO r h=>n6 h λQ r h=>n6 h λR r h=>n6 h λS r h=>n6 h λT r h=>n6 h λU r h=>n6 h λV r h=>n6 h λX r h=>n6 h λY r h=>n6 h λZ r h=>len_z h λb=>?_;refine yE (λsg e=>?_) (Wa k a K L M N O Q R S T U V X Y Z);refine gj (f:=ug) (σ₀:=L0 a) ⋯ ⋯ ⋯ ⋯ (sg:=sg) (ow:=[]) ?_;rw[Xx,cu (k+31)];exact b.trans e
end Mine
open PySem.Sem (wp)
namespace Hd
open Mine (nn cH sW cdT cdB orC Pr someE j9 wO eqZ nH Tp gQ nb Mi eBin_i eUn eUn_i eBo Y4 Mf eLam_i eIf YX R5 eLC YW H8 R7 jj jY Mh R6 Xb Ft Cv H7 rm jw eLi eLi_i R3 yX eSl YT eDC eDC_i Oj Oi G8 Oo G7 Om sWh Yc G6 Ol sEx I9 dB Ia dI jx dS rz dL lz dT Mm dSd R9 dRg Y7 dIs dIs_i dIn Fx Y9 Sd vI Gy vB vB_i vS vS_i vT Nk vR ZS aQ aQ_i aS aS_i aF aF_i qI qI_i qS qS_i cB cB_i ib qF l0 lc l1 l2 oS lV nJ jo pH Br Eb)
structure JA where
 ns:List Int
 S:Addr
 I:Addr
 Γ:Ctx
 T:BT
 n:Nat
 k:Nat
 p:Pos
inductive RV (α:Type) where
 |ok (a:α)(T:BT)(n k:Nat)(p:Pos)(g:List JA)
 |er (e:Value)(T:BT)(n k:Nat)(p:Pos)(g:List JA)
structure RC where
 r:Result
 T:BT
 n:Nat
 k:Nat
 g:List JA
noncomputable abbrev Ev (β:Type):Type:=Ctx->BT->Nat->Nat->Pos->List JA->Option β
noncomputable abbrev Jmp:Type:=Ctx->BT->Nat->Nat->Pos->Option (BT×Nat×Pos×JA)
noncomputable def fcN {β:Type}(n:Nat)(f:Nat->β):β:=@Nat.rec (λZ=>β) (f 0) (λm Z=>f (m+1)) n
theorem HN {β:Type}(n:Nat)(f:Nat->β):fcN n f=f n:=by induction n using Nat.casesAuxOn<;>rfl
noncomputable def ev {α:Type}(P:Setting)(C:Ev RC)(x:Sem α):Ev (RV α):=
 @Sem.rec α (λZ=>Ev (RV α))
  (pure:=λa Z T n k p g=>some (.ok a T n k p g))
  (raise:=λe Z T n k p g=>some (.er e T n k p g))
  (unsupported:=λZ Z Z Z Z Z Z=>none)
  (finish:=λZ Z Z Z Z Z Z=>none)
  (rule:=λZ Z b=>b ())
  («at»:=λq Z b d T n k Z=>b () d T n k q)
  (load:=λa Z Z b d T n k p g=>match Nat.blt a n with
   |true=>match T.get a with
    |some o=>match alive o with
     |some o'=>b o' d T n k p g
     |none=>none
    |none=>none
   |false=>none)
  (update:=λa Z f Z b d T n k p g=>match Nat.blt a n with
   |true=>match T.get a with
    |some o=>match alive o with
     |some _=>b () d (T.set a f) n k p g
     |none=>none
    |none=>none
   |false=>none)
  (alloc:=λo Z b d T n k p g=>match ((T.ins n o).get n).isSome with
   |true=>fcN (n+1) λi=>b n d (T.ins n o) i k p g
   |false=>none)
  (loadIfAlive:=λa Z b d T n k p g=>match Nat.blt a n with
   |true=>match T.get a with
    |some o=>b (alive o) d T n k p g
    |none=>none
   |false=>b none d T n k p g)
  (point:=λZ Z b=>b ())
  (register:=λZ Z Z Z Z Z Z Z Z=>none)
  (fresh:=λZ b d T n k p g=>fcN (k+1) λk'=>b k d T n k' p g)
  (ask:=λZ b=>b P)
  (choose:=λZ Z Z Z Z Z Z Z Z Z=>none)
  (os:=λZ Z Z Z Z Z Z Z Z Z=>none)
  (call:=λc h Z Z Z b d T n k p g=>match C (d.enter c h p) T n k p g with
   |some ⟨r,l,i,k',j⟩=>b r d l i k' p j
   |none=>none)
  (handled:=λown Z b d=>b (if own then d.own else d.handled) d)
  (newGen:=λZ Z Z Z Z Z Z Z Z=>none)
  (genState:=λZ Z Z Z Z Z Z Z Z=>none)
  (resume:=λZ Z Z Z Z Z Z Z Z Z Z=>none)
  (yield:=λZ Z Z Z Z Z Z Z Z Z Z=>none)
  (stack:=λZ b d T n k p g=>b ((d.code,p)::d.below) d T n k p g)
  (fork:=λZ Z Z Z Z Z Z Z Z=>none)
  (thread:=λZ b=>b 0)
  (await:=λZ Z Z Z Z Z Z Z Z Z Z Z=>none) x
noncomputable def lpC (F:Ev (RV Fin))(J:Jmp)(m:Nat):Ev RC:=
 @Nat.rec (λZ=>Ev RC) (λZ Z Z Z Z Z=>none) (λZ i h T n k p g=>match J h T n k p with
  |some (a,k',p',j)=>fcN k' λk'=>i h a n k' p' (j::g)
  |none=>match F h T n k p g with
   |some (.ok (.done f) a b k' _ d)=>some ⟨.ok f,a,b,k',d⟩
   |some (.ok (.again c) a b k' p' d)=>match c.quiet with
    |true=>i (h.goto c) a b k' p' d
    |false=>none
   |some (.er e a b k' _ d)=>some ⟨.error e,a,b,k',d⟩
   |none=>none) m
noncomputable def W3 (a:Code->Sem Fin)(P:Setting)(J:Jmp)(m d:Nat):Ev RC:=
 @Nat.rec (λZ=>Ev RC) (λZ Z Z Z Z Z=>none) (λZ c=>lpC (λb=>ev P c (a b.code) b) J m) d
structure Bk where
 L:Life
 G:Array GenState
 D:Drawn
 O:OsState
noncomputable def Bk.sh (B:Bk)(T:BT)(n k:Nat):Shared:=⟨absHeap T n B.L,B.G,B.D,k,B.O⟩
section
variable (B:Bk){M:Model}{α:Type}
noncomputable def okP (z:RV α):α->Pos->Shared->Prop:=λa q s=>∃T n k g,z=.ok a T n k q g/\s=B.sh T n k
noncomputable def erP (z:RV α):Value->Pos->Shared->Prop:=λe q s=>∃T n k g,z=.er e T n k q g/\s=B.sh T n k
noncomputable def OkJ (M:Model)(J:Jmp):Prop:=∀a T n k p b k' p' c,J a T n k p=some (b,k',p',c)->∀R,wpCode M a R p' (B.sh b n k')->wpCode M a R p (B.sh T n k)
noncomputable def OkC (M:Model)(C:Ev RC):Prop:=∀a T n k p g r c b k' d,C a T n k p g=some ⟨r,c,b,k',d⟩->Returns M a p (B.sh T n k) r (B.sh c b k')
theorem Bh {T:BT}{n k a:Nat}{o:Obj}(h:a<n)(g:T.get a=some o):(B.sh T n k).heap.get? a=alive o:=abs_get h g
theorem EY {C:Ev RC}(I:OkC B M C)(x:Sem α):∀(b:Ctx)(T:BT)(n k:Nat)(p:Pos)(g:List JA)(z:RV α),ev ⟨M.prog,M.w.params⟩ C x b T n k p g=some z->wp M b x (okP B z) (erP B z) p (B.sh T n k):=by
 induction x with
 |pure a=>intro b T n k p g z h;cases h;exact⟨T,n,k,g,rfl,rfl⟩
 |raise e=>intro b T n k p g z h;cases h;exact⟨T,n,k,g,rfl,rfl⟩
 |unsupported|finish|register|choose|os|newGen|genState|resume|yield|fork|await=>intro b T n k p g z h;nomatch h
 |rule t f d=>intro b T n k p g z h;exact d () b T n k p g z h
 |«at» q f d=>intro b T n k p g z h;exact d () b T n k q g z h
 |point l f d=>intro b T n k p g z h;exact d () b T n k p g z h
 |ask f d=>intro b T n k p g z h;exact d _ b T n k p g z h
 |handled F f d=>intro b T n k p g z h;exact d _ b T n k p g z h
 |stack f d=>intro b T n k p g z h;exact d _ b T n k p g z h
 |thread f d=>intro b T n k p g z h;exact d _ b T n k p g z h
 |fresh f d=>
  intro b T n k p g z h;have h:fcN (k+1) (λu=>ev ⟨M.prog,M.w.params⟩ C (f k) b T n u p g)=some z:=h;rw[HN]at h;exact d k b T n (k+1) p g z h
 |load a q f d=>
  intro b T n k p g z h;have h:(match Nat.blt a n with
   |true=>match T.get a with
    |some o=>match alive o with
     |some m=>ev ⟨M.prog,M.w.params⟩ C (f m) b T n k p g
     |none=>none
    |none=>none
   |false=>none)=some z:=h
  induction e:Nat.blt a n using fu with
  |false=>rw[e]at h;nomatch h
  |true=>
   have lt:a<n:=bL e;rw[e]at h
   induction i:T.get a using aK with
   |none=>rw[i]at h;nomatch h
   |some o=>
    rw[i]at h
    induction j:alive o using aK with
    |none=>simp only[j]at h;nomatch h
    |some m=>
     simp only[j]at h;exact⟨m,(Bh B lt i).trans j,d m b T n k p g z h⟩
 |loadIfAlive a f d=>
  intro b T n k p g z h;have h:(match Nat.blt a n with
   |true=>match T.get a with
    |some o=>ev ⟨M.prog,M.w.params⟩ C (f (alive o)) b T n k p g
    |none=>none
   |false=>ev ⟨M.prog,M.w.params⟩ C (f none) b T n k p g)=some z:=h
  show wp M b (f ((B.sh T n k).heap.get? a)) _ _ p _
  induction e:Nat.blt a n using fu with
  |false=>
   have lt:¬a<n:=λq=>by rw[show Nat.blt a n=true from Nat.ble_eq_true_of_le q]at e;nomatch e
   rw[e]at h;rw[show(B.sh T n k).heap.get? a=none from abs_get_none lt];exact d none b T n k p g z h
  |true=>
   have lt:a<n:=bL e;rw[e]at h
   induction i:T.get a using aK with
   |none=>rw[i]at h;nomatch h
   |some o=>
    rw[i]at h;rw[Bh B lt i];exact d _ b T n k p g z h
 |update a q f G d=>
  intro b T n k p g z h;have h:(match Nat.blt a n with
   |true=>match T.get a with
    |some o=>match alive o with
     |some _=>ev ⟨M.prog,M.w.params⟩ C (G ()) b (T.set a f) n k p g
     |none=>none
    |none=>none
   |false=>none)=some z:=h
  induction e:Nat.blt a n using fu with
  |false=>rw[e]at h;nomatch h
  |true=>
   have lt:a<n:=bL e;rw[e]at h
   induction i:T.get a using aK with
   |none=>rw[i]at h;nomatch h
   |some o=>
    rw[i]at h
    induction j:alive o using aK with
    |none=>simp only[j]at h;nomatch h
    |some m=>
     simp only[j]at h;refine⟨by rw[Bh B lt i,j];rfl,?_⟩;have H:({B.sh T n k with heap:=(B.sh T n k).heap.update a f}:Shared)=B.sh (T.set a f) n k:=by show(⟨(absHeap T n B.L).update a f,B.G,B.D,k,B.O⟩:Shared)=⟨absHeap (T.set a f) n B.L,B.G,B.D,k,B.O⟩;rw[<-absHeap_set (f:=f) i]
     rw[H];exact d () b _ n k p g z h
 |alloc o f d=>
  intro b T n k p g z h;have h:(match ((T.ins n o).get n).isSome with
   |true=>fcN (n+1) λs=>ev ⟨M.prog,M.w.params⟩ C (f n) b (T.ins n o) s k p g
   |false=>none)=some z:=h
  induction e:((T.ins n o).get n).isSome using fu with
  |false=>rw[e]at h;nomatch h
  |true=>
   rw[e]at h;simp only[HN]at h;show wp M b (f (absHeap T n B.L).objs.size) _ _ p ⟨(absHeap T n B.L).push o,B.G,B.D,k,B.O⟩;rw[absHeap_size,<-absHeap_ins e];exact d n b _ (n+1) k p g z h
 |call c E J l f d=>
  intro b T n k p g z h;have h:(match C (b.enter c E p) T n k p g with
   |some ⟨r,A,s,u,v⟩=>ev ⟨M.prog,M.w.params⟩ C (f r) b A s u p v
   |none=>none)=some z:=h
  induction e:C (b.enter c E p) T n k p g using aK with
  |none=>rw[e]at h;nomatch h
  |some y=>
   obtain⟨r,A,s,u,v⟩:=y;rw[e]at h;exact⟨r,_,I _ _ _ _ _ _ _ _ _ _ _ e,d r b A s u p v z h⟩
theorem lpC_ok {F:Ev (RV Fin)}{J:Jmp}(Q:OkJ B M J)(R:∀(d:Ctx)(T:BT)(n k:Nat)(p:Pos)(g:List JA)(z:RV Fin),F d T n k p g=some z->wp M d (M.den d.code) (okP B z) (erP B z) p (B.sh T n k))(m:Nat):OkC B M (lpC F J m):=by
 induction m with
 |zero=>intro d T n k p g r i l b s h;nomatch h
 |succ m P=>
  intro d T n k p g r i l b s h;have h:(match J d T n k p with
   |some (i,b,G,O)=>fcN b λb=>lpC F J m d i n b G (O::g)
   |none=>match F d T n k p g with
    |some (.ok (.done f) i l b _ s)=>some (RC.mk (.ok f) i l b s)
    |some (.ok (.again c) i l b G s)=>match c.quiet with
     |true=>lpC F J m (d.goto c) i l b G s
     |false=>none
    |some (.er e i l b _ s)=>some ⟨.error e,i,l,b,s⟩
    |none=>none)=some ⟨r,i,l,b,s⟩:=h
  have key:wpCode M d (λN u=>N=r/\u=B.sh i l b) p (B.sh T n k):=by
   induction j:J d T n k p using aK with
   |some y=>
    obtain⟨T1,v,C,O⟩:=y;rw[j]at h;simp only[HN]at h;exact Q _ _ _ _ _ _ _ _ _ j _ ⟨_,_,P _ _ _ _ _ _ _ _ _ _ _ h,rfl,rfl⟩
   |none=>
    rw[j]at h;clear j Q;generalize e:F d T n k p g=o at h
    induction o using aK with
    |none=>nomatch h
    |some z=>
     have w:=R _ _ _ _ _ _ _ e;clear e R;rw[wpCode_iff_wp]
     induction z using Hd.RV.casesOn with
     |ok a T1 x v C A=>
      refine Sem.wp_mono M d _ ?_ ?_ _ _ w
      ·rintro X q u ⟨T2,H,I,L,t,rfl⟩
       cases t
       induction a using PySem.Fin.casesOn with
       |done f=>
        have h:some (RC.mk (.ok f) T1 x v A)=some ⟨r,i,l,b,s⟩:=h;cases h;exact⟨rfl,rfl⟩
       |again c=>
        induction K:c.quiet using fu with
        |false=>
         have h:(match c.quiet with|true=>lpC F J m (d.goto c) T1 x v C A|false=>none)=some ⟨r,i,l,b,s⟩:=h;rw[K]at h
         nomatch h
        |true=>
         have h:(match c.quiet with|true=>lpC F J m (d.goto c) T1 x v C A|false=>none)=some ⟨r,i,l,b,s⟩:=h;rw[K]at h;exact⟨K,_,_,P _ _ _ _ _ _ _ _ _ _ _ h,rfl,rfl⟩
      ·rintro V q u ⟨T2,H,I,L,t,rfl⟩
       nomatch t
     |er a T1 x v C A=>
      refine Sem.wp_mono M d _ ?_ ?_ _ _ w
      ·rintro X q u ⟨T2,H,I,L,t,rfl⟩
       nomatch t
      ·rintro V q u ⟨T2,H,I,L,t,rfl⟩
       cases t;have h:some (RC.mk (.error a) T1 x v A)=some ⟨r,i,l,b,s⟩:=h;cases h;exact⟨rfl,rfl⟩
  revert key;refine fW λN u U S E=>?_;subst S;subst E;exact U
theorem Ck {J:Jmp}(c:OkJ B M J)(m d:Nat):OkC B M (W3 M.den ⟨M.prog,M.w.params⟩ J m d):=by
 induction d with
 |zero=>intro a T n k p g r j e f i h;nomatch h
 |succ d b=>exact lpC_ok B c (λa T n k p g z h=>EY B b _ a T n k p g z h) m
end
theorem Ej (h:Heap)(a:Addr)(f:Obj->Obj):(h.update a f).life=h.life:=by induction h using Heap.casesOn;rfl
theorem vN {M:Model}{a:Ctx}{p:Pos}{t:Sem Fin}{b:List Frame}{s s':Shared}{e:End}(h:Runs M a p t b s e s'):s'.heap.life=s.heap.life:=by
 induction h<;>(try simp only[Shared.setGen,Ej,Heap.life_push]at *)<;>simp_all
theorem OD {M:Model}{a:Ctx}{p:Pos}{s s':Shared}{r:Result}(h:Returns M a p s r s'):s'.heap.life=s.heap.life:=vN h
theorem Gx {M:Model}{f:Ctx}{p:Pos}{g:Nat}{r:Resume}{s s':Shared}{c:GenResult}(h:Wakes M f p g r s c s'):s'.heap.life=s.heap.life:=by
 unfold Wakes at h;split at h
 ·exact h.elim
 ·split at h
  ·revert h;refine kh λb a e Z Z d=>?_;subst d;exact(vN e:a.heap.life=(s.setGen g .running).heap.life)
  ·rw[h.2]
  ·rw[h.2];rfl
 ·revert h;refine kh λb a e Z Z d=>?_;subst d;exact(vN e:a.heap.life=(s.setGen g .running).heap.life)
 ·rw[h.2]
 ·rw[h.2]
theorem Ba {α:Type}{M:Model}{C:Ctx}(t:Sem α):∀(Q:α->Pos->Shared->Prop)(p:Pos)(s:Shared),wp M C t Q (λZ Z Z=>False) p s->
 ∃a q s',Q a q s'/\s'.heap.life=s.heap.life/\∀(i:α->Pos->Shared->Prop)(j:Value->Pos->Shared->Prop),i a q s'->wp M C t i j p s:=by
 induction t with
 |pure a=>intro Q p s h;exact⟨a,p,s,h,rfl,λi j I=>I⟩
 |raise e=>intro Q p s h;exact h.elim
 |unsupported|finish|register|yield|fork|await=>intro Q p s h;exact h.elim
 |rule t k b=>intro Q p s h;exact b () Q p s h
 |«at» q k b=>intro Q p s h;exact b () Q q s h
 |point l k b=>intro Q p s h;exact b () Q p s h
 |ask k b=>intro Q p s h;exact b _ Q p s h
 |handled H k b=>intro Q p s h;exact b _ Q p s h
 |stack k b=>intro Q p s h;exact b _ Q p s h
 |thread k b=>intro Q p s h;exact b _ Q p s h
 |loadIfAlive a k b=>intro Q p s h;exact b _ Q p s h
 |newGen c k b=>intro Q p s h;exact b _ Q p _ h
 |os q l k b=>intro Q p s h;exact b _ Q p _ h
 |fresh k b=>intro Q p s h;exact b _ Q p _ h
 |load a q k b=>
  intro Q p s h;revert h;refine cW λo B h=>?_;refine iQ (λz m s' y v u=>?_) (b o Q p s h);exact⟨z,m,s',y,v,λi j x=>⟨o,B,u i j x⟩⟩
 |genState a k b=>
  intro Q p s h;revert h;refine cW λo B h=>?_;refine iQ (λz m s' y v u=>?_) (b _ Q p s h);exact⟨z,m,s',y,v,λi j x=>⟨o,B,u i j x⟩⟩
 |update a q f k b=>
  intro Q p s h;refine iQ (λz m s' y v u=>?_) (b () Q p _ h.2);exact⟨z,m,s',y,v.trans (Ej _ _ _),λi j x=>⟨h.1,u i j x⟩⟩
 |choose G n k b=>
  intro Q p s h;refine iQ (λz m s' y v u=>?_) (b _ Q p _ h.2);exact⟨z,m,s',y,v,λi j x=>⟨h.1,u i j x⟩⟩
 |alloc o k b=>
  intro Q p s h;refine iQ (λz m s' y v u=>?_) (b _ Q p _ h);exact⟨z,m,s',y,v.trans (Heap.life_push _ _),u⟩
 |call c J g l k b=>
  intro Q p s h;revert h;refine mG λr d F h=>?_;refine iQ (λz m s' y v u=>?_) (b r Q p d h);exact⟨z,m,s',y,v.trans (OD F),λi j x=>⟨r,d,F,u i j x⟩⟩
 |resume g r l k b=>
  intro Q p s h;revert h;refine mG λA d E h=>?_;refine iQ (λz m s' y v u=>?_) (b A Q p d h);exact⟨z,m,s',y,v.trans (Gx E),λi j x=>⟨A,d,E,u i j x⟩⟩
noncomputable def Xg (a:Ctx):Around:={handled:=a.handled,depth:=frameCount a.below,units:=unitsOf a.below}
theorem za (a:Ctx):a.Below (Xg a):=⟨rfl,bG _,λZ h=>(nomatch h),λZ h=>(nomatch h),bG _⟩
theorem den_eq {prog:Program}{w:World}{id:String}{args:Args}{b:Builtin}(hb:entryFor table id=some b):(model prog w).den (.builtin id args)=b args:=by show(match entryFor table id with|some b=>b args|none=>unsupported ((withoutEnding? id "#data").getD id))=_;rw[hb]
structure Zr (a b:Addr)(n:Nat)(s s':Shared):Prop where
 at_:s'={s with heap:=s'.heap,toks:=s.toks+n}
 size:s'.heap.objs.size=s.heap.objs.size
 get:∀c,c≠a->c≠b->s'.heap.get? c=s.heap.get? c
 life:s'.heap.life=s.heap.life
section
variable {prog:Program}{w:World}{Γ:Ctx}{S I:Addr}{It:Nat->Heap->Prop}{val:Nat->Int}{d m:Nat}
theorem Lh (y:Γ.code=.builtin "set.update.loop" ⟨[.ref S,.ref I],[]⟩)(F:S≠I)(hb:m+1<scanBound)
 (g:∀i,i<m->∀(s:Shared)(A:Around)(Q:Option Value->Shared->Prop)(E:VP),It i s.heap->
  (∀h' t,It (i+1) h'->Heap.SameBut I s.heap h'->Q (some (.int (val i) t)) {s with heap:=h',toks:=s.toks+d})->wpAny (model prog w) A (pyNext (.ref I)) Q E s)
 (e:∀i h h',It i h->Heap.SameBut S h h'->It i h'){i:Nat}(hi:i<m){p:Pos}{s:Shared}(hI:It i s.heap)
 (hS:s.heap.SetOf (intKind prog w) S (λk'=>(firstMet val i).any (· ==k')) (firstMet val i).length):
 ∃T s1,It (i+1) s1.heap/\s1.heap.SetOf (intKind prog w) S (λk'=>(firstMet val (i+1)).any (· ==k')) (firstMet val (i+1)).length/\Zr S I (d+1) s s1/\
  ∀R,wpCode (model prog w) Γ R T s1->wpCode (model prog w) Γ R p s:=by
 have U:Γ.code.quiet=true:=by rw[y];exact plainId_quiet PyProof.Rows.F.plain_set_update_loop _
 have v:wpAny (model prog w) (Xg Γ).in1 (Builtin.«set.update.loop» ⟨[.ref S,.ref I],[]⟩) (λu b=>u=.again (.builtin "set.update.loop" ⟨[.ref S,.ref I],[]⟩)/\It (i+1) b.heap/\
  b.heap.SetOf (intKind prog w) S (λk'=>(firstMet val (i+1)).any (· ==k')) (firstMet val (i+1)).length/\b={s with heap:=b.heap,toks:=s.toks+(d+1)}/\b.heap.objs.size=s.heap.objs.size/\
  ∀c,c≠S->c≠I->b.heap.get? c=s.heap.get? c) (λZ Z=>False) s:=by
  show wpAny _ _ (pyNext (.ref I) >>= _) _ _ s;refine aj (g i hi s _ _ _ hI λz t J l=>?_);have H:z.SetOf (intKind prog w) S (λk'=>(firstMet val i).any (· ==k')) (firstMet val i).length:=by revert hS;refine qJ λo es ep P V x=>?_;exact⟨o,es,ep,P,(l.2 S F).trans V,x⟩
  show wpAny _ _ (holding [Value.int (val i) t] (setAdd S (.int (val i) t)) >>= _) _ _ _;refine aj (bF ?_);unfold setAdd;refine bF ?_;refine aj ((intKind prog w).pyHash (k:=val i) (intKind_is _ _ _ _) ?_);have f:(firstMet val i).length+1<scanBound:=by have:=firstMet_length_le val i;omega
  refine wpAny_setAddHashed_of (knd:=intKind prog w) (s:={s with heap:=z,toks:=s.toks+d+1}) (intKind_is _ _ _ _) rfl H f λM j G=>?_;refine aB ⟨rfl,e _ _ _ J j,SetOf_congr G (λk'=>by rw[firstMet_succ,step_any]) (by rw[firstMet_succ,step_length]),rfl,j.1.trans l.1,λc L K=>(j.2 c L).trans (l.2 c K)⟩
 have O:wp (model prog w) Γ ((model prog w).den Γ.code) (λu Z b=>u=.again (.builtin "set.update.loop" ⟨[.ref S,.ref I],[]⟩)/\It (i+1) b.heap/\
  b.heap.SetOf (intKind prog w) S (λk'=>(firstMet val (i+1)).any (· ==k')) (firstMet val (i+1)).length/\b={s with heap:=b.heap,toks:=s.toks+(d+1)}/\b.heap.objs.size=s.heap.objs.size/\
  ∀c,c≠S->c≠I->b.heap.get? c=s.heap.get? c) (λZ Z Z=>False) p s:=by
  have C:Γ.In (Xg Γ).in1:=by have:=(za Γ).in;rw[y,Around.under_plainId PyProof.Rows.F.plain_set_update_loop _]at this;exact this
  have Y:(model prog w).den Γ.code=Builtin.«set.update.loop» ⟨[.ref S,.ref I],[]⟩:=by rw[y];exact den_eq PyProof.Rows.F.entry_set_update_loop
  rw[Y];exact v Γ p C
 refine iQ (λa q b N hl X=>xP (λB z M L K h5=>?_) N) (Ba _ _ _ _ O);subst B;refine⟨q,b,z,M,⟨L,K,h5,hl⟩,λR hR=>?_⟩;rw[wpCode_iff_wp];refine X _ _ ⟨y▸U,?_⟩;rw[<-y];exact hR
theorem Aj (x:Γ.code=.builtin "set.update.loop" ⟨[.ref S,.ref I],[]⟩)(e:S≠I)(hb:m+1<scanBound)
 (b:∀i,i<m->∀(s:Shared)(A:Around)(Q:Option Value->Shared->Prop)(E:VP),It i s.heap->
  (∀h' t,It (i+1) h'->Heap.SameBut I s.heap h'->Q (some (.int (val i) t)) {s with heap:=h',toks:=s.toks+d})->wpAny (model prog w) A (pyNext (.ref I)) Q E s)
 (a:∀i h h',It i h->Heap.SameBut S h h'->It i h'):∀(j i:Nat),i+j=m->∀{p:Pos}{s:Shared},It i s.heap->
 s.heap.SetOf (intKind prog w) S (λk'=>(firstMet val i).any (· ==k')) (firstMet val i).length->
 ∃q s1,It m s1.heap/\s1.heap.SetOf (intKind prog w) S (λk'=>(firstMet val m).any (· ==k')) (firstMet val m).length/\Zr S I (j * (d+1)) s s1/\
  ∀R,wpCode (model prog w) Γ R q s1->wpCode (model prog w) Γ R p s
 |0,i,G,p,s,v,u=>by
  obtain rfl:i=m:=by omega
  exact⟨p,s,v,u,⟨by rw[Nat.zero_mul];rfl,rfl,λZ Z Z=>rfl,rfl⟩,λR h=>h⟩
 |j+1,i,G,p,s,v,u=>by
  refine kh (λq s1 o k m1 F=>?_) (Lh x e hb b a (by omega:i<m) (p:=p) v u);refine kh (λB s2 l g f C=>?_) (Aj x e hb b a j (i+1) (by omega) (p:=q) o k);refine⟨B,s2,l,g,⟨?_,f.size.trans m1.size,λc z y=>(f.get c z y).trans (m1.get c z y),f.life.trans m1.life⟩,λR h=>F R (C R h)⟩;have H:=f.at_;have J:=m1.at_;rw[H,J];have:s.toks+(d+1)+j * (d+1)=s.toks+(j+1) * (d+1):=by rw[Nat.add_mul,Nat.one_mul];omega
  simp only[this]
end
structure JR where
 es:Array (Int×Value)
 ep:Nat
 tb:SetTable
 bd:Option Addr
 bs:Array (Option Value)
 p:Pos
noncomputable def jn (r:JR):Obj:=⟨.type "set",none,.set r.es r.ep r.tb,#[]⟩
noncomputable def jb (T:BT)(n:Nat):Bool:=(List.range n).all λi=>match T.get i with
 |some o=>(alive o).isSome
 |none=>false
theorem T8 {o o':Obj}(h:alive o=some o'):o'=o:=by
 obtain⟨c,d,a,b⟩:=o
 induction a using Data.casesOn<;>first|(cases h;rfl)|nomatch h
theorem ik {T:BT}{n i:Nat}(h:jb T n=true)(hi:i<n):∃o,T.get i=some o/\alive o=some o:=by
 have:=aU.mp h i (bf.mpr hi)
 induction e:T.get i using aK with
 |none=>rw[e]at this;nomatch this
 |some o=>
  rw[e]at this;refine yE (λb a=>?_) (bz.mp this);exact⟨o,rfl,by rw[a,T8 a]⟩
theorem lR {h:Heap}{c:Addr}{o:Obj}(e:h.get? c=some o):h.objs[c]? =some o:=by
 unfold Heap.get? at e;split at e
 ·nomatch e
 ·exact e
theorem rebuild {T:BT}{n:Nat}{L:Life}{S I:Addr}{a b:Obj}{d:Heap}(g:jb T n=true)(hS:S<n)(t:I<n)(size:d.objs.size=n)(f:d.life=L)
 (get:∀c,c≠S->c≠I->d.get? c=(absHeap T n L).get? c)(oS:d.get? S=some a)(q:d.get? I=some b):d=absHeap ((T.set S λZ=>a).set I λZ=>b) n L:=by
 have:d.objs=(absHeap ((T.set S λZ=>a).set I λZ=>b) n L).objs:=by
  apply Array.ext_getElem?;intro c;rw[absHeap_at];by_cases i:c<n
  ·rw[ao i,BT.get_set,BT.get_set,BT.get_set]
   refine cW (λo h k=>?_) (ik g i);by_cases l:c=I
   ·subst l
    rw[ao rfl,lR q];by_cases e:c=S
    ·rw[ao e]
     refine cW (λs j Z=>?_) (ik g hS);rw[j];rfl
    ·rw[aq e,h];rfl
   ·rw[aq l]
    by_cases e:c=S
    ·subst e
     rw[ao rfl,lR oS,h];rfl
    ·rw[aq e,h]
     exact lR ((get c e l).trans ((abs_get i h).trans k))
  ·rw[aq i]
   exact dM (by simp_all)
 obtain⟨p,m⟩:=d;subst f;show Heap.mk p m=Heap.mk _ _;exact bD (Heap.mk · m) this
noncomputable def eqS (a b:String):Bool:=Nat.beq (PySem.W.S.codeS a) (PySem.W.S.codeS b)
theorem Cm {a b:String}(h:eqS a b=true):a=b:=PySem.code_inj _ _ (by rw[PySem.W.S.code_S,PySem.W.S.code_S];exact bN h)
noncomputable def YF (l:List Value):Option (List Int):=@List.rec Value (λZ=>Option (List Int)) (some []) (λv Z a=>vI none v λi Z=>oS none a λr=>some (i::r)) l
theorem Li {l:List Value}:∀{ns:List Int},YF l=some ns->PyProof.Rows.IntsAre l ns:=by
 induction l with
 |nil=>intro ns h;injection h with h;exact h▸.nil
 |cons v l a=>
  intro ns h;refine Gy cH h λi t h=>?_;refine cW (λr e h=>?_) (Eb cH h);injection h with h;exact h▸.cons _ _ (a e)
structure JC where
 ns:List Int
 li:JR->Obj
 d:Nat
noncomputable def QJ (T:BT)(n:Nat)(S I l:Addr)(b c:String):Option JC:=
 oS none (T.get l) λo=>vT none o.cls λd=>aQ none o.data λitems Z=>ib none (eqS d b)<|oS none (YF items.toList) λxs=>lc none xs λx r=>
  ib none (!(Nat.beq S l||Nat.beq I l|| !Nat.blt l n))<|some ⟨x::r,λa=>⟨.type c,a.bd,.fields #[.ref l,.int (x::r).length 0],a.bs⟩,0⟩
noncomputable def jI1 (T:BT)(n:Nat)(S I:Addr)(e d:String)(o:Obj)(a:Value)(t:List Value):Option JC:=
 vR none a λl=>l1 none t λb=>vI none b λi k=>ib none (decide (i=0/\k=0))<|vT none o.cls λc=>ib none (eqS c d)<|QJ T n S I l e d
noncomputable def jI2 (d:String)(o:Obj)(a:Value)(t:List Value):Option JC:=
 vI none a λi g=>l2 none t λb c=>vI none b λm f=>vI none c λu e=>ib none (decide ((g=0/\f=0)/\(e=0/\u=1)/\0<=i/\0<m)&&o.dict.isNone&&o.slots.toList.isEmpty)<|vT none o.cls λc=>
  ib none (eqS c d)<|some ⟨(List.range (m.toNat - 1+1)).map λ(j:Nat)=>(i.toNat:Int)+j,λZ=>⟨.type d,none,.fields #[rawInt (i.toNat+(m.toNat - 1+1:Nat)),rawInt 0,rawInt 1],#[]⟩,1⟩
noncomputable def QL (T:BT)(n:Nat)(S I:Addr)(c d b:String):Option JC:=
 oS none (T.get I) λo=>aF none o.data λvs=>lc none vs.toList λa t=>cond (Nat.beq a.ctorIdx 10) (jI1 T n S I c d o a t) (jI2 b o a t)
noncomputable def jSet (T:BT)(S:Addr)(ts:String):Bool:=
 oS false (T.get S) λo=>vT false o.cls λc=>aS false o.data λes k tb=>eqS c ts&&(o.dict.isNone&&(o.slots.toList.isEmpty&&(es.toList.isEmpty&&(Nat.beq k 0&&(Nat.beq tb.mask 7&&(tb.place.toList.isEmpty&&tb.dummies.toList.isEmpty))))))
noncomputable def Hu (e f d ts:String)(c:Ctx)(T:BT)(n:Nat):Option (Addr×Addr×JC):=
 cB none c.code λid as=>l2 none as.pos λa b=>vR none a λS=>vR none b λI=>l0 none as.kw<|ib none (Nat.beq (PySem.W.S.codeS id) 589010082235415537506245985091020404)<|
  oS none (QL T n S I e f d) λjc=>ib none (jSet T S ts&& !Nat.beq S I&&Nat.blt S n&&Nat.blt I n&&Nat.blt (jc.ns.length+1) 4096&&jb T n)<|some (S,I,jc)
noncomputable def lst:String:="list"
noncomputable def lit:String:="list_iterator"
noncomputable def Yi:String:="range_iterator"
noncomputable def Ui:String:="set"
noncomputable def jmp (A:JA->JR):Jmp:=λa T n k p=>match Hu lst lit Yi Ui a T n with
 |some (S,I,jc)=>some ((T.set S λZ=>jn (A ⟨jc.ns,S,I,a,T,n,k,p⟩)).set I λZ=>jc.li (A ⟨jc.ns,S,I,a,T,n,k,p⟩),k+jc.ns.length * (jc.d+1),(A ⟨jc.ns,S,I,a,T,n,k,p⟩).p,⟨jc.ns,S,I,a,T,n,k,p⟩)
 |none=>none
theorem vo {α:Type}{a:Array α}(h:a.toList.isEmpty=true):a=#[]:=Array.toList_eq_nil_iff.mp (List.isEmpty_iff.mp h)
theorem Jc {α:Type}{a:Option α}(h:a.isNone=true):a=none:=Option.isNone_iff_eq_none.mp h
theorem aa {a b:Bool}(h:(a&&b)=true):a=true/\b=true:=az.mp h
theorem UT {tb:SetTable}(m:tb.mask=7)(p:tb.place=#[])(d:tb.dummies=#[]):tb=⟨7,#[],#[],tb.finger,tb.led,tb.moves,tb.plain⟩:=by obtain⟨a,b,c,h,e,f,g⟩:=tb;rw[show a=7 from m,show b=#[]from p,show c=#[]from d]
theorem Jt {T:BT}{S:Addr}{ts:String}(h:jSet T S ts=true):∃s b q p,T.get S=some ⟨.type ts,none,.set #[] 0 ⟨7,#[],#[],s,b,q,p⟩,#[]⟩:=by obtain⟨⟨v,t,u,o⟩,e,h⟩:=Eb nb h;rw[e];refine Nk (x:=v) nb h λc h=>aS_i (x:=u) nb h λy k a h=>?_;have m:=aa h;have l:=aa m.2;have j:=aa l.2;have i:=aa j.2;have g:=aa i.2;have f:=aa g.2;have d:=aa f.2;exact⟨a.finger,a.led,a.moves,a.plain,by rw[Cm m.1,show t=none from Jc l.1,show o=#[]from vo j.1,vo i.1,bN g.1,<-UT (bN f.1) (vo d.1) (vo d.2)]⟩
theorem QH {T:BT}{n:Nat}{S I l:Addr}{i j:String}{jc:JC}(h:QJ T n S I l i j=some jc):l<n/\S≠l/\I≠l/\jc.d=0/\jc.ns≠[]/\(∃dl items d b,T.get l=some ⟨.type i,dl,.seq items d,b⟩/\PyProof.Rows.IntsAre items.toList jc.ns)/\
 ∀f,jc.li f=⟨.type j,f.bd,.fields #[.ref l,.int jc.ns.length 0],f.bs⟩:=by
 obtain⟨⟨s,o,p,b⟩,e,h⟩:=Eb cH h;rw[e];refine Nk (x:=s) cH h λc h=>aQ_i (x:=p) cH h λitems d h=>?_;have m:=qF cH h;refine cW (λt g h=>?_) (Eb cH m.2);revert g;refine nJ cH h λx r h g=>?_;have k:=qF cH h;have h:=k.2;injection h with h;have a:=k.1;rw[b8,fc,fc,Bool.not_eq_false']at a;rw[<-h];exact⟨bL a.2,λq=>Nat.ne_of_beq_eq_false a.1.1 q,λq=>Nat.ne_of_beq_eq_false a.1.2 q,rfl,nofun,⟨o,items,d,b,by rw[Cm m.1],Li g⟩,λZ=>rfl⟩
theorem QK {T:BT}{n:Nat}{S I:Addr}{A s p:String}{jc:JC}(h:QL T n S I A s p=some jc):
 (∃l f E,T.get I=some ⟨.type s,f,.fields #[.ref l,.int 0 0],E⟩/\QJ T n S I l A s=some jc)\/
 (∃x m:Nat,T.get I=some ⟨.type p,none,.fields #[rawInt x,rawInt (m+1:Nat),rawInt 1],#[]⟩/\jc=⟨(List.range (m+1)).map λ(i:Nat)=>(x:Int)+i,λZ=>⟨.type p,none,.fields #[rawInt (x+(m+1:Nat)),rawInt 0,rawInt 1],#[]⟩,1⟩):=by
 obtain⟨⟨y,f,F,v⟩,e,h⟩:=Eb cH h;rw[e];refine aF_i (x:=F) cH h λz h=>?_;obtain⟨z⟩:=z;refine nJ (l:=z) cH h λa t h=>?_
 induction q:Nat.beq a.ctorIdx 10 using fu with
 |true=>
  have h:cond (Nat.beq a.ctorIdx 10) (jI1 T n S I A s ⟨y,f,.fields ⟨a::t⟩,v⟩ a t) _=some jc:=h;rw[q]at h;refine ZS cH h λl h=>jo cH h λb h=>Gy cH h λi k h=>?_;have o:=qF cH h;refine Nk (x:=y) cH o.2 λc h=>?_;have j:=qF cH h;have g:=bw o.1;exact .inl ⟨l,f,v,by rw[Cm j.1,g.1,g.2],j.2⟩
 |false=>
  have h:cond (Nat.beq a.ctorIdx 10) _ (jI2 p ⟨y,f,.fields ⟨a::t⟩,v⟩ a t)=some jc:=h;rw[q]at h;refine Gy cH h λi J h=>pH cH h λb c h=>Gy cH h λm H h=>Gy cH h λu G h=>?_;have o:=qF cH h;refine Nk (x:=y) cH o.2 λc h=>?_;have j:=qF cH h;have C:=aa o.1;have g:=aa C.1;have d:=bw g.1;have B:=j.2;injection B with B;have m1:(m.toNat - 1+1:Nat)=m.toNat:=Nat.succ_pred_eq_of_pos (Int.pos_iff_toNat_pos.mp d.2.2.2);exact .inr ⟨i.toNat,m.toNat - 1,by rw[Cm j.1,d.1.1,d.1.2,d.2.1.1,d.2.1.2,show f=none from Jc g.2,show v=#[]from vo C.2,m1];show _=some (⟨_,_,.fields #[.int (i.toNat:Int) 0,.int (m.toNat:Int) 0,_],_⟩:Obj);rw[Int.toNat_of_nonneg d.2.2.1,Int.toNat_of_nonneg (Int.le_of_lt d.2.2.2)];rfl,B.symm⟩
noncomputable def uI (prog:Program)(w:World)(ns:List Int)(r:JR):Prop:=
 (jn r).SetObjOf (intKind prog w) (λx=>(firstMet (λi=>ns.getD i 0) ns.length).any (· ==x)) (firstMet (λi=>ns.getD i 0) ns.length).length
section
variable (B:Bk){prog:Program}{w:World}{Γ:Ctx}{T:BT}{n:Nat}
theorem Em {S I:Addr}{jc:JC}{It:Nat->Heap->Prop}(k:Nat)(p:Pos)(X:Γ.code=.builtin "set.update.loop" ⟨[.ref S,.ref I],[]⟩)(q:S≠I)(hS:S<n)(hI:I<n)(hl:jc.ns.length+1<4096)(m:jb T n=true)
 (a:∃C d z y,T.get S=some ⟨.type Ui,none,.set #[] 0 ⟨7,#[],#[],C,d,z,y⟩,#[]⟩)
 (c:∀i,i<jc.ns.length->∀(s:Shared)(A:Around)(Q:Option Value->Shared->Prop)(E:VP),It i s.heap->
  (∀h' t,It (i+1) h'->Heap.SameBut I s.heap h'->Q (some (.int (jc.ns.getD i 0) t)) {s with heap:=h',toks:=s.toks+jc.d})->wpAny (model prog w) A (pyNext (.ref I)) Q E s)
 (b:∀i h h',It i h->Heap.SameBut S h h'->It i h')(h0:It 0 (absHeap T n B.L))
 (j:∀h,It jc.ns.length h->∃bd bs,∀es ep tb p,h.get? I=some (jc.li ⟨es,ep,tb,bd,bs,p⟩)):
 ∃r:JR,uI prog w jc.ns r/\∀R,wpCode (model prog w) Γ R r.p (B.sh ((T.set S λZ=>jn r).set I λZ=>jc.li r) n (k+jc.ns.length * (jc.d+1)))->wpCode (model prog w) Γ R p (B.sh T n k):=by
 revert a;refine xM λC d z y a=>?_;have v:(B.sh T n k).heap.SetOf (intKind prog w) S (λO=>(firstMet (λi=>jc.ns.getD i 0) 0).any (· ==O)) (firstMet (λi=>jc.ns.getD i 0) 0).length:=by refine Obj.SetObjOf.setOf (o:=⟨.type Ui,none,.set #[] 0 ⟨7,#[],#[],C,d,z,y⟩,#[]⟩) ⟨⟨rfl,rfl,rfl⟩,#[],0,_,rfl,λe V=>by simp at V,λk=>by simp[firstMet_zero],rfl,by rfl⟩ ?_ (by rw[firstMet_zero];decide);exact(Bh B hS a).trans rfl
 refine kh (λf F x u m1 N=>?_) (Aj (prog:=prog) (w:=w) X q (by show jc.ns.length+1<scanBound;exact hl) c b jc.ns.length 0 (by exact Nat.add_comm _ _) (p:=p) (s:=B.sh T n k) h0 v);refine cW (λo P l=>?_) u.objOf;refine Az (λbd bs Y=>?_) (j _ x);have g:=l;revert g;refine ZK λM es ep tb G Z=>uA (λL K J=>?_) M;have H:o=jn ⟨es,ep,tb,bd,bs,f⟩:=by obtain⟨a1,a2,a3,a4⟩:=o;simp only at L K J G;subst L K J G;rfl
 refine⟨⟨es,ep,tb,bd,bs,f⟩,by unfold uI;rw[<-H];exact l,λR hR=>N R ?_⟩;have U:F.heap=absHeap ((T.set S λZ=>jn ⟨es,ep,tb,bd,bs,f⟩).set I λZ=>jc.li ⟨es,ep,tb,bd,bs,f⟩) n B.L:=
  rebuild m hS hI (m1.size.trans (absHeap_size _ _ _)) m1.life m1.get (H▸P) (Y _ _ _ _)
 have:F=B.sh ((T.set S λZ=>jn ⟨es,ep,tb,bd,bs,f⟩).set I λZ=>jc.li ⟨es,ep,tb,bd,bs,f⟩) n (k+jc.ns.length * (jc.d+1)):=by rw[m1.at_,U];rfl
 rw[this];exact hR
theorem Wh {S I:Addr}{jc:JC}(h:Hu lst lit Yi Ui Γ T n=some (S,I,jc)):Γ.code=.builtin "set.update.loop" ⟨[.ref S,.ref I],[]⟩/\QL T n S I lst lit Yi=some jc/\(jSet T S Ui&& !Nat.beq S I&&Nat.blt S n&&Nat.blt I n&&Nat.blt (jc.ns.length+1) 4096&&jb T n)=true:=by
 refine cB_i cH h λid q h=>?_;obtain⟨i,j⟩:=q;refine pH (l:=i) cH h λa b h=>ZS cH h λs h=>ZS cH h λt h=>lV (l:=j) cH h λh=>?_;have f:=qF cH h;refine cW (λg k h=>?_) (Eb cH f.2);have d:=qF cH h;have e:=d.2;injection e with e;injection e with p e;injection e with o m;rw[<-p,<-o,<-m];have c:id="set.update.loop":=PySem.code_inj _ _ (by rw[PySem.W.S.code_S,PySem.W.S.code_S];exact(bN f.1).trans ⋯)
 exact⟨by rw[c],k,d.1⟩
theorem BL {S I:Addr}{jc:JC}(h:Hu lst lit Yi Ui Γ T n=some (S,I,jc))(k:Nat)(p:Pos):
 ∃r:JR,uI prog w jc.ns r/\∀R,wpCode (model prog w) Γ R r.p (B.sh ((T.set S λZ=>jn r).set I λZ=>jc.li r) n (k+jc.ns.length * (jc.d+1)))->wpCode (model prog w) Γ R p (B.sh T n k):=by
 refine uA (λf ej ec=>?_) (Wh h);simp only[bJ,b8]at ec;revert ec;refine yA λy c6=>yA (λM c5=>yA (λL c4=>yA (λK c3=>yA (λc1 c2=>?_) K) L) M) y;have u:S≠I:=Nat.ne_of_beq_eq_false c2;have hS:S<n:=bL c3;have J:I<n:=bL c4;have hl:jc.ns.length+1<4096:=bL c5;rcases QK ej with⟨l,dd,ss,Y,hj⟩|⟨x,m,Y,rfl⟩
 ·refine uz (λN U V hd hne y O=>qJ (λdl c nl sl P d=>?_) y) (QH hj)
  refine Em B (It:=λi h=>h.IsListIter I l i/\h.IsList l c) k p f u hS J hl c6 (Jt c1) (λi g s A Q E a hQ=>?_) (λi h F a G=>?_) ?_ (λh a=>?_)
  ·have C:c.toList.length=jc.ns.length:=PyProof.Rows.IntsAre.length d
   have hx:i<c.size:=by rw[<-cX,C];exact g
   refine yE (λt ht=>?_) (PyProof.Rows.IntsAre.int_at d i c[i] (by rw[Array.getElem?_toList,Array.getElem?_eq_getElem hx]));refine wpAny_pyNext_list_item a.1 a.2 (Array.getElem?_eq_getElem hx) λF v j=>?_;rw[ht];have:=hQ F t ⟨v,a.2.extBut (λb o hb e=>(j.2 b hb).trans e) (Ne.symm V)⟩ j;rw[hd]at this;exact this
  ·revert a;refine yA λy z=>nF (λo X H q=>?_) y
   exact⟨⟨o,(G.2 I (Ne.symm u)).trans X,H,q⟩,z.extBut (λb o hb e=>(G.2 b hb).trans e) (Ne.symm U)⟩
  ·exact⟨⟨_,(abs_get J Y).trans rfl,rfl,rfl⟩,⟨_,(abs_get N P).trans rfl,rfl,_,rfl⟩⟩
  ·revert a;refine yA λy Z=>nF (λo X H q=>?_) y
   obtain⟨a1,a2,a3,a4⟩:=o;simp only at H q;subst H q;exact⟨a2,a4,λes ep tb p=>by rw[X,O];rfl⟩
 ·refine Em B (It:=λi h=>i<=m+1/\IsRangeIter h I ((x:Int)+(i:Nat)) (((m+1 - i:Nat):Int)) 1) k p f u hS J hl c6 (Jt c1) (λi g s A Q E a hQ=>?_) (λi h F a G=>⟨a.1,(G.2 I (Ne.symm u)).trans a.2⟩) ⟨by exact Nat.le_max_left _ _,?_⟩ (λh a=>?_)
  ·have g:i<m+1:=by simpa using g
   refine wpAny_pyNext_range_item a.2 (by omega) λF v j=>?_;have e:((List.range (m+1)).map λ(i:Nat)=>(x:Int)+i).getD i 0=(x:Int)+(i:Nat):=by rw[List.getD_eq_getElem?_getD,bQ,List.getElem?_range g];rfl
   have:=hQ F s.toks ⟨by assumption,by rw[show((x:Int)+((i+1:Nat):Int))=(x:Int)+(i:Nat)+1 by rfl,show(((m+1 - (i+1):Nat)):Int)=((m+1 - i:Nat):Int) - 1 by omega];exact v⟩ j
   rw[e]at this;exact this
  ·rw[show(m+1 - 0:Nat)=m+1 by rfl,show((x:Int)+((0:Nat):Int))=(x:Int) by rfl]
   exact(abs_get J Y).trans rfl
  ·refine⟨none,#[],λes ep tb p=>?_⟩
   have:=a.2;dsimp only at this;rw[ak,List.length_range,Nat.sub_self]at this;exact this
end
noncomputable def oW:List (Int×Value)->List (Int×Str)->Prop
 |[],[]=>True
 |(k,v)::r,(i,x)::a=>k=i/\(∃t,v=.str x t)/\oW r a
 |_,_=>False
theorem oW.app:∀{a:List (Int×Value)}{b:List (Int×Str)}{c:List (Int×Value)}{d:List (Int×Str)},oW a b->oW c d->oW (a++c) (b++d)
 |[],[],_,_,_,h=>h
 |(k,v)::r,(i,x)::f,_,_,h,e=>⟨h.1,h.2.1,oW.app h.2.2 e⟩
 |[],_::_,_,_,h,_=>h.elim
 |_::_,[],_,_,h,_=>h.elim
theorem oW.keys:∀{a:List (Int×Value)}{b:List (Int×Str)},oW a b->a.map (·.1)=b.map (·.1)
 |[],[],_=>rfl
 |(k,v)::r,(i,x)::c,h=>by rw[aX,aX,oW.keys h.2.2];show k::_=i::_;rw[h.1]
 |[],_::_,h=>h.elim
 |_::_,[],h=>h.elim
theorem oW.len {a:List (Int×Value)}{b:List (Int×Str)}(h:oW a b):a.length=b.length:=by
 have:=bD List.length h.keys
 rwa [ak,ak]at this
theorem Rg {kvs:List (Int×Value)}{k:Int}{v:Value}{r:List Int}(c:(kvs.map (·.1)++k::r).Nodup):stored kvs k v=kvs++[(k,v)]:=by
 unfold stored;rw[aq];rw[List.any_eq_true]
 rintro ⟨b,a,d⟩
 have e:b.1=k:=bw d;rw[cZ]at c;exact c.2.2 b.1 (aG.mpr ⟨b,a,rfl⟩) k (.head _) e
section
variable {prog:Program}{w:World}
structure Iu (prog:Program)(w:World)(p:Sem Value×Sem Value)(q:Int×Str):Prop where
 key:∀(A:Around)(E:VP)(s:Shared)(Q:VP),Q (.int q.1 s.toks) {s with toks:=s.toks+1}->wpAny (model prog w) A p.1 Q E s
 val:∀(A:Around)(E:VP)(s:Shared)(Q:VP),Q (.str q.2 s.toks) {s with toks:=s.toks+1}->wpAny (model prog w) A p.2 Q E s
inductive jO (prog:Program)(w:World):List (Sem Value×Sem Value)->List (Int×Str)->Prop
 |nil:jO prog w [] []
 |cons {p q ps qs}:Iu prog w p q->jO prog w ps qs->jO prog w (p::ps) (q::qs)
theorem jO.len {a qs} (h:jO prog w a qs):a.length=qs.length:=by
 induction h with
 |nil=>rfl
 |cons _ _ b=>rw[bx,bx,b]
theorem jO.snoc {a qs p q} (h:jO prog w a qs)(x:Iu prog w p q):jO prog w (a++[p]) (qs++[q]):=by
 induction h with
 |nil=>exact .cons x .nil
 |cons y _ b=>exact .cons y b
variable {A:Around}{E:VP}
theorem evp_ok {a:List (Sem Value×Sem Value)}{qs:List (Int×Str)}(h:jO prog w a qs):∀(s:Shared)(Q:List (Value×Value)->Shared->Prop),
 (∀vs kvs,Carries (intKind prog w) vs kvs->oW kvs qs->Q vs {s with toks:=s.toks+2 * qs.length})->wpAny (model prog w) A (evalPairs a) Q E s:=by
 induction h with
 |nil=>intro s Q b;exact evalPairs_nil (b [] [] trivial trivial)
 |@cons p q a qs x _ c=>
  intro s Q b;obtain⟨f,e⟩:=p;refine evalPairs_cons (x.key _ _ _ _ (x.val _ _ _ _ (c _ _ λvs kvs d hl=>?_)));have:=b ((.int q.1 s.toks,.str q.2 (s.toks+1))::vs) ((q.1,.str q.2 (s.toks+1))::kvs) ⟨intKind_is _ _ _ _,rfl,d⟩ ⟨rfl,⟨_,rfl⟩,hl⟩;rw[bx]at this;simp only[show s.toks+1+1+2 * qs.length=s.toks+2 * (qs.length+1) by omega];exact this
theorem NP {s:Shared}{B:List (Sem Value×Sem Value)}{qs:List (Int×Str)}(h:jO prog w B qs)(C:(qs.map (·.1)).Nodup)(v:qs.length<=17){Q:Addr->Shared->Prop}
 (F:∀h' kvs,oW kvs qs->h'.DictOf (intKind prog w) s.heap.objs.size kvs->h'.objs.size=s.heap.objs.size+1->(∀c,c<s.heap.objs.size->h'.get? c=s.heap.get? c)->
  Q s.heap.objs.size {s with heap:=h',toks:=s.toks+3 * qs.length}):wpAny (model prog w) A (subDict B) Q E s:=by
 by_cases g:B.length<=15
 ·refine wpAny_subDict (knd:=intKind prog w) g (evp_ok h _ _ λH kvs I hl=>⟨kvs,I,Heap.DictOf.new _,λh' j i=>?_⟩)
  have e:merged [] kvs=kvs:=merged_nil_of_nodup kvs (by rw[hl.keys];exact C);rw[e]at j;have L:H.length=qs.length:=by rw[<-hl.len,I.length]
  have:=F h' kvs hl j (by rw[i.1,dW]) (λc a=>(i.2 c (bY a)).trans (Heap.get?_push_ne _ _ _ (bY a)));show Q s.heap.objs.size {s with heap:=h',toks:=s.toks+2 * qs.length+H.length};rw[L,show s.toks+2 * qs.length+qs.length=s.toks+3 * qs.length by omega];exact this
 ·unfold subDict
  refine aj (wpAny_alloc ?_);refine aj (bF ?_);rw[aq g];refine aj (wpAny_rule ?_);refine aj (wpAny_forIn_list _ (λf Z y=>∃kvs l1 l2 h',qs=l1++l2/\jO prog w f l2/\oW kvs l1/\y={s with heap:=h',toks:=s.toks+3 * l1.length}/\
   h'.DictOf (intKind prog w) s.heap.objs.size kvs/\Heap.SameBut s.heap.objs.size (s.heap.push {cls:=.type "dict",data:=.dict #[]}) h') _ ?_ ?_ _ _ ⟨[],[],qs,_,rfl,h,trivial,rfl,Heap.DictOf.new _,Heap.SameBut.refl _ _⟩)
  ·intro p f b y
   refine tU λkvs l1 l2 h' e m hl G j i=>?_;subst G;clear h F g;obtain⟨N,M⟩:=p;cases m with
   |@cons _ q _ l2 x m=>
    obtain⟨l,o⟩:=q;have u:(kvs.map (·.1)++l::l2.map (·.1)).Nodup:=by rw[hl.keys];rw[e,bu]at C;exact C
    refine aj (x.key _ _ _ _ (aj (bF (x.val _ _ _ _ (aj (bF ?_))))));have K:kvs.length<=sizeLine:=by rw[hl.len,sizeLine_eq];rw[e,aW]at v;omega
    refine wpAny_dictSet_pairs (hsz:=K) (intKind_is _ _ _ _) j λJ k t=>?_;rw[Rg u]at k;refine aB ⟨_,l1++[(l,o)],l2,J,by rw[e];simp,m,hl.app (d:=[(l,o)]) (show oW [(l,Value.str o _)] [(l,o)]from⟨rfl,⟨_,rfl⟩,trivial⟩),?_,k,i.trans t⟩;rw[aW];show _=({s with heap:=J,toks:=s.toks+3 * (l1.length+1)}:Shared);rw[show s.toks+3 * (l1.length+1)=s.toks+3 * l1.length+1+1+1 by rfl]
  ·intro b y
   refine tU λkvs l1 l2 h' e m hl G j i=>?_;subst G;cases m;rw[List.append_nil]at e;subst e;have z:=F h' kvs hl j (by rw[i.1,dW]) (λc a=>(i.2 c (bY a)).trans (Heap.get?_push_ne _ _ _ (bY a)));exact aB (aB z)
end
section
variable {prog:Program}{w:World}{K:Type} [DecidableEq K] {knd:KeyKind prog w K}{A:Around}{E:VP}{s:Shared}
theorem Xd {d:Addr}{kvs:List (K×Value)}{k:K}{key v:Value}{Q:Unit->Shared->Prop}(c:knd.is k key=true)(y:s.heap.DictOf knd d kvs)(h:k∉kvs.map (·.1))(hsz:kvs.length<=sizeLine)
 (F:∀h',h'.DictOf knd d (kvs++[(k,v)])->Heap.SameBut d s.heap h'->Q () {s with heap:=h'}):wpAny (model prog w) A (dictPut d (knd.hash k) key v) Q E s:=by
 revert y;refine oZ λo f G t B i hk q x=>?_;have m:f.size<=sizeLine:=by
  have I:=q.length;have H:f.toList.length=f.size:=by simp
  simp_all
 unfold dictPut;refine aj (wpAny_dictFind_of c t i hk ?_);have g:(f.findIdx? λe=>knd.is k e.key)=kvs.findIdx? λp=>decide (p.1=k):=by rw[<-q.findIdx k];obtain⟨l⟩:=f;simp
 have z:(f.findIdx? λe=>knd.is k e.key)=none:=by rw[g,List.findIdx?_eq_none_iff];intro p j;rw[decide_eq_false_iff_not];exact λe=>h (aG.mpr ⟨p,j,e⟩)
 rw[z];refine wpAny_updateDictKeys (hz:=m) t i (F _ ⟨_,_,G+1,Heap.get?_update_self _ t (Obj.isFreed_of_dict (Obj.data_mapDictKeys i _)),
  B.mapDictKeys _,Obj.data_mapDictKeys i _,hk.push c _,?_,?_⟩ (Heap.SameBut.update ..))
 ·have:=q.append c (knd.hash k) v
  obtain⟨l⟩:=f;simpa using this
 ·rw[bu,cZ]
  refine⟨x,by simp,?_⟩;intro a C b u;simp only[aX,List.map_nil,dj]at u;subst u;exact λe=>h (e▸C)
theorem Qa {d o:Addr}{kvs c:List (K×Value)}{Q:Unit->Shared->Prop}(hdo:d≠o)(X:(o==sysModules)=false)(hd:s.heap.DictOf knd d kvs)(V:s.heap.DictOf knd o c)(hne:kvs≠[])
 (hn:(kvs.map (·.1)++c.map (·.1)).Nodup)(hsz:kvs.length+c.length<=sizeLine)
 (hQ:∀h',h'.DictOf knd d (kvs++c)->Heap.SameBut d s.heap h'->Q () {s with heap:=h'}):wpAny (model prog w) A (mergeMapping d (.ref o) false) Q E s:=by
 refine oZ (λod esd epd O hcd S hkd N hnd=>?_) (id hd);refine oZ (λoo a epo H hco f hko M Y=>?_) (id V);have t:c.length=a.size:=by rw[<-M.length];simp
 have R:esd.isEmpty=false:=by rw[Array.isEmpty_eq_false_iff];intro e;have:=N.length;rw[e]at this;exact hne (cO.mp (by simpa using this.symm))
 unfold mergeMapping;refine aj (wpAny_isInstance V.typeIs isSubtype_dict_dict ?_);rw[ao rfl];refine aj (wpAny_specialOf V.typeIs F.slot_dict_iter.lookup (aj (aB ?_)));rw[show(some (Value.builtin "dict.__iter__")==some (Value.builtin "dict.__iter__"))=true from dF _];dsimp only;rw[aq (by rw[X];exact Bool.false_ne_true)];refine aj (wpAny_dictEntries O S ?_);rw[R,aq Bool.false_ne_true];refine aj (wpAny_dictEntries H f ?_);refine aj (wpAny_dictEpoch H f ?_);refine aj (wpAny_forIn_list _
  (λj Z s'=>∃h' i,s'={s with heap:=h'}/\j=List.range' i (a.size - i)/\i<=a.size/\h'.DictOf knd d (kvs++c.take i)/\h'.get? o=some oo/\Heap.SameBut d s.heap h')
  _ ?_ ?_ _ _ ⟨s.heap,0,rfl,by rw[List.range_eq_range',Nat.sub_zero],b7 _,by simpa using hd,H,Heap.SameBut.refl _ _⟩)
 ·intro x j b s'
  refine uy λh' i e y hi p l G=>?_;subst e;clear hd V hQ R O hcd S hkd N hnd Y;have m:i<a.size:=by
   refine aC (Nat.lt_or_ge i a.size) (λh=>?_) (λh=>?_)
   ·exact h
   ·rw[Nat.sub_eq_zero_of_le h]at y;simp at y
  have ex:x=i/\j=List.range' (i+1) (a.size - (i+1)):=by rw[show a.size - i=(a.size - (i+1))+1 by omega,List.range'_succ]at y;exact⟨(List.cons.inj y).1,(List.cons.inj y).2⟩
  revert ex;refine yA λex z=>?_;subst ex;refine aj (wpAny_dictEntries l f ?_);rw[Array.getElem?_eq_getElem m];refine Az (λk v P=>?_) (show ∃k v,c[x]? =some (k,v)from⟨_,_,aR (by rw[t];exact m)⟩);refine yA (λu I=>?_) (M.get? (e:=a[x]) (by simp[m]) P);refine cW (λU B C=>?_) (hko a[x] (Array.getElem_mem m));have ek:U=k:=knd.inj _ _ _ B u;subst ek;show wpAny _ _ (holding [a[x].key,a[x].val] (dictPut d a[x].hash a[x].key a[x].val) >>= _) _ _ _;rw[C,I];have L:c.take (x+1)=c.take x++[(U,v)]:=by rw[List.take_add_one,P];rfl
  have hfr:U∉(kvs++c.take x).map (·.1):=by
   have h1:((kvs++c.take (x+1)).map (·.1)).Nodup:=by rw[bu];refine List.Sublist.nodup ?_ hn;exact List.Sublist.append_left (List.Sublist.map _ (List.take_sublist _ _)) _
   rw[L,<-cR,bu,cZ]at h1;intro hm;exact h1.2.2 U hm U (by simp) rfl
  have hmx:(kvs++c.take x).length<=sizeLine:=by rw[aW,List.length_take];omega
  refine aj (bF (Xd u p hfr hmx λT J q=>?_));have g:T.get? o=some oo:=(q.2 o (Ne.symm hdo)).trans l;refine aj (wpAny_dictEpoch g f ?_);rw[aq (by simp)];exact aB ⟨T,x+1,rfl,z,m,by rw[L,<-cR];exact J,g,G.trans q⟩
 ·intro b s'
  refine uy λh' i e y hi p l G=>?_;subst e;have hin:i=a.size:=by
   refine aC (Nat.lt_or_ge i a.size) (λh=>?_) (λh=>?_)
   ·have e:a.size - i=(a.size - (i+1))+1:=by omega
    rw[e,List.range'_succ]at y;exact nomatch y
   ·exact Nat.le_antisymm hi h
  refine aB (hQ h' ?_ G);rw[hin,<-t,List.take_length]at p;exact p
end
inductive iw (prog:Program)(w:World):List (Option (Sem Value)×Sem Value)->List (Int×Str)->Prop
 |nil:iw prog w [] []
 |cons {k v q ps qs}:Iu prog w (k,v) q->iw prog w ps qs->iw prog w ((some k,v)::ps) (q::qs)
section
variable {prog:Program}{w:World}{A:Around}{E:VP}{s:Shared}
structure Part (prog:Program)(w:World)(s:Shared)(l0:List (Int×Str))(j:Nat)(h':Heap):Prop where
 len:l0.length<=17 * j/\17 * j<l0.length+17
 size:h'.objs.size=s.heap.objs.size+j
 low:∀c,c<s.heap.objs.size->h'.get? c=s.heap.get? c
 main:0<j->∃kvs,oW kvs l0/\h'.DictOf (intKind prog w) s.heap.objs.size kvs
 subs:∀c,s.heap.objs.size<c->c<s.heap.objs.size+j->∃kvs,h'.DictOf (intKind prog w) c kvs
noncomputable def Rm (run:List (Sem Value×Sem Value))(main:Option Addr):Sem (Option Addr):=
 if run.isEmpty=true then pure main
 else match main with
  |none=>do
   let x<-subDict run
   pure (some x)
  |some d=>do
   let sub<-holding [Value.ref d] (subDict run)
   (holding [Value.ref d,Value.ref sub] (mergeMapping d (Value.ref sub) false)).onRaise λx=>do
    let _<-holding [Value.ref d,x] (runValue (Code.builtin "proto.let_go" {}))
    pure ()
   pure (some d)
theorem Ez {l0 b:List (Int×Str)}{j:Nat}{h':Heap}{run:List (Sem Value×Sem Value)}{main:Option Addr}(P:Part prog w s l0 j h')(G:jO prog w run b)(q:b≠[])(t:b.length<=17)
 (I:((l0++b).map (·.1)).Nodup)(h2:l0.length=17 * j)(x:main=if j=0 then none else some s.heap.objs.size)(hz:(l0++b).length<=sizeLine)(hS:sysModules<s.heap.objs.size){Q:Option Addr->Shared->Prop}
 (N:∀h2,Part prog w s (l0++b) (j+1) h2->Q (some s.heap.objs.size) {s with heap:=h2,toks:=s.toks+3 * (l0++b).length}):wpAny (model prog w) A (Rm run main) Q E {s with heap:=h',toks:=s.toks+3 * l0.length}:=by
 have z:run.isEmpty=false:=by
  cases G with
  |nil=>exact absurd rfl q
  |cons=>rfl
 have M:0<b.length:=List.length_pos_iff.mpr q;have m:(b.map (·.1)).Nodup:=by rw[bu,cZ]at I;exact I.2.1
 have k:(l0++b).length<=17 * (j+1)/\17 * (j+1)<(l0++b).length+17:=by rw[aW];omega
 unfold Rm;rw[z,aq Bool.false_ne_true];by_cases J:j=0
 ·subst J
  rw[ao rfl]at x;subst x;obtain rfl:l0=[]:=cO.mp (by omega);refine aj (NP G m t λh2 kvs hl u f a=>aB ?_);have e:h'.objs.size=s.heap.objs.size:=P.size;dsimp only at u f a;rw[e]at u f a;have:=N h2 ⟨k,f,λc i=>(a c i).trans (P.low c i),λZ=>⟨kvs,hl,u⟩,λc O v=>absurd v (by omega)⟩;show Q (some h'.objs.size) {s with heap:=h2,toks:=s.toks+3 * 0+3 * b.length};rw[e,show s.toks+3 * 0+3 * b.length=s.toks+3 * ([]++b).length by simp];exact this
 ·rw[aq J]at x
  subst x;refine cW (λkvs hl u=>?_) (P.main (by exact Nat.pos_of_ne_zero ‹_›));refine aj (bF (NP G m t λh2 R l h f a=>?_));have e:h'.objs.size=s.heap.objs.size+j:=P.size;dsimp only at h f a⊢;rw[e]at h f a⊢;have F:h2.DictOf (intKind prog w) s.heap.objs.size kvs:=by revert u;refine qK λo K L H r=>?_;exact⟨o,K,L,(a _ (by omega)).trans H,r⟩
  have hk:kvs≠[]:=by
   rintro rfl
   have:=hl.len;rw[List.length_nil]at this;omega
  refine aj (wpAny_onRaise (bF (Qa (s:={s with heap:=h2,toks:=s.toks+3 * l0.length+3 * b.length}) (d:=s.heap.objs.size) (o:=s.heap.objs.size+j) (bY (Nat.lt_add_of_pos_right (Nat.pos_of_ne_zero J))) ?_ F h hk ?_ ?_ λO C g=>?_)))
  ·exact beq_eq_false_iff_ne.mpr (eO (d9 hS (Nat.le_add_right _ _)))
  ·rw[hl.keys,l.keys,<-bu];exact I
  ·rw[hl.len,l.len,<-aW];exact hz
  ·refine aB ?_
   have:=N O ⟨k,by rw[g.1,f];rfl,λc i=>(g.2 c (bY i)).trans ((a c (d9 i (Nat.le_add_right _ _))).trans (P.low c i)),λZ=>⟨_,hl.app l,C⟩,λc v S=>?_⟩
   ·rw[aW]at this
    rw[show s.toks+3 * (l0.length+b.length)=s.toks+3 * l0.length+3 * b.length by omega]at this;exact this
   ·by_cases i:c=s.heap.objs.size+j
    ·subst i
     exact⟨_,h.sameBut g (eO v)⟩
    ·have p:c<s.heap.objs.size+j:=Nat.lt_of_le_of_ne (Nat.le_of_lt_succ S) i
     refine yE (λy B=>?_) (P.subs c v p);revert B;refine qK λo K L H r=>?_;exact⟨y,o,K,L,(g.2 c (eO v)).trans ((a c p).trans H),r⟩
noncomputable def DispI (prog:Program)(w:World)(s:Shared)(qs:List (Int×Str))(rest:List (Option (Sem Value)×Sem Value))(b:Option Addr×List (Sem Value×Sem Value))(l0 a l2:List (Int×Str))(j:Nat)(h':Heap):Prop:=
 qs=l0++(a++l2)/\iw prog w rest l2/\jO prog w b.2 a/\a.length<17/\l0.length=17 * j/\b.1=(if j=0 then none else some s.heap.objs.size)/\Part prog w s l0 j h'
theorem Xe {items:List (Option (Sem Value)×Sem Value)}{qs:List (Int×Str)}(hi:iw prog w items qs)(y:(qs.map (·.1)).Nodup)(L:qs.length % 17≠0)(H:17<qs.length)(hz:qs.length<=sizeLine)(hS:sysModules<s.heap.objs.size){Q:VP}
 (z:∀h' kvs,oW kvs qs->h'.DictOf (intKind prog w) s.heap.objs.size kvs->h'.objs.size=s.heap.objs.size+(qs.length / 17+1)->(∀c,c<s.heap.objs.size->h'.get? c=s.heap.get? c)->
  (∀c,s.heap.objs.size<c->c<s.heap.objs.size+(qs.length / 17+1)->∃kvs,h'.DictOf (intKind prog w) c kvs)->Q (.ref s.heap.objs.size) {s with heap:=h',toks:=s.toks+3 * qs.length}):wpAny (model prog w) A (dictDisplay items) Q E s:=by
 unfold dictDisplay;dsimp only;refine aj (wpAny_forIn_list _ (λd b u=>∃l0 a l2 h' j,u={s with heap:=h',toks:=s.toks+3 * l0.length}/\DispI prog w s qs d b l0 a l2 j h') _ ?_ ?_ _ _ ?_)
 ·intro x d b u
  refine IV λl0 a l2 h' j e q=>?_;subst e;obtain⟨main,run⟩:=b;revert q;refine uz λi f l G g m P=>?_;clear z hi;cases f with
  |@cons k v q M qs' I p=>
  dsimp only at m l⊢;have o:=l.snoc I;have hl:(run++[(k,v)]).length=a.length+1:=by rw[aW,l.len];rfl
  by_cases h:a.length+1=17
  ·rw[ao (by rw[hl,h];rfl)]
   refine aj (Ez (run:=run++[(k,v)]) (main:=main) P o (by simp) (by rw[aW];exact Nat.le_of_eq h) ?_ g m ?_ hS λB P3=>aB ⟨l0++(a++[q]),[],qs',B,j+1,rfl,by rw[i];simp,p,.nil,by decide,?_,rfl,P3⟩)
   ·have C:qs=(l0++(a++[q]))++qs':=by rw[i];simp
    rw[C,bu,cZ]at y;exact y.1
   ·have C:qs=(l0++(a++[q]))++qs':=by rw[i];simp
    rw[C,aW]at hz;omega
   ·rw[aW,aW,g]
    show 17 * j+(a.length+1)=_;omega
  ·rw[aq (by rw[hl];simp;simp_all)]
   refine aB ⟨l0,a++[q],qs',h',j,rfl,by rw[i];simp,p,o,by rw[aW];show a.length+1<17;omega,g,m,P⟩
 ·intro b u
  refine IV λl0 a l2 h' j e q=>?_;subst e;obtain⟨main,run⟩:=b;revert q;refine uz λi f l G g m P=>?_;cases f;dsimp only at m l⊢;rw[List.append_nil]at i;subst i;have t:a≠[]:=by
   rintro rfl
   rw[List.append_nil]at L;simp_all
  have F:0<a.length:=List.length_pos_iff.mpr t;have J:(l0++a).length / 17=j:=by rw[aW];omega
  rw[J]at z;refine aj (Ez (run:=run) (main:=main) P l t (by exact cD ‹_›) y g m hz hS λB P3=>aB ?_);refine cW (λkvs hl K=>?_) (P3.main (by exact Nat.succ_pos _));exact z B kvs hl K P3.size P3.low P3.subs
 ·exact⟨[],[],qs,s.heap,0,rfl,rfl,hi,.nil,by decide,rfl,rfl,⟨by decide,rfl,λZ Z=>rfl,λh=>absurd h (by decide),λc G g=>absurd g (by omega)⟩⟩
end
noncomputable abbrev pT:Program:=PySem.Challenge.pw_ti0078_01
noncomputable abbrev NK:Code->Sem Fin:=PySem.W.Fast.tw11892475500146522536 PySem.W.Fast.tw14364793385576792824
theorem xj (w:World)(p:Program):(model p w).den=NK:=by show denote table=_;rw[table_eq_tree,PySem.W.Fast.te11892475500146522536,PySem.W.Fast.te14364793385576792824]
noncomputable def noJ:Jmp:=λZ Z Z Z Z=>none
theorem PB (B:Bk)(M:Model):OkJ B M noJ:=λZ Z Z Z Z Z Z Z Z h=>nomatch h
noncomputable def bB:Bk:=⟨{},#[],{},{stdin:=(opening pT).given.stdin.toArray}⟩
noncomputable def JQ (P:Params):Option (RV Fin):=ev ⟨opening pT,P⟩ (W3 NK ⟨opening pT,P⟩ noJ 3000 60) (PySem.W.Fast.tw2477092760451715423 (opening pT)) (Ctx.of (.builtin "boot" {}) []) .nil 0 1 default []
noncomputable def treeOf {α:Type}:Option (RV α)->BT
 |some (.ok _ T _ _ _ _)=>T
 |_=>.nil
noncomputable def posOf {α:Type}:Option (RV α)->Pos
 |some (.ok _ _ _ _ p _)=>p
 |_=>default
noncomputable def logOf {α:Type}:Option (RV α)->List JA
 |some (.ok _ _ _ _ _ g)=>g
 |_=>[]
noncomputable def zm (P:Params):BT:=treeOf (JQ P)
theorem Xo (P:Params):JQ P=some (.ok (.again (.builtin "proto.exit.begin" ⟨[rawInt mainGlobals],[]⟩)) (zm P) 28 276 (posOf (JQ P)) (logOf (JQ P))):=⋯
theorem Xn (w:World):wp (model (opening pT) w) (Ctx.of (.builtin "boot" {}) []) (boot (opening pT)) (λb Z s'=>b=.again (.builtin "proto.exit.begin" ⟨[rawInt mainGlobals],[]⟩)/\s'=bB.sh (zm w.params) 28 276/\s'.gens=#[]) (λZ Z Z=>False) default (start (opening pT)).1:=by
 have h:=EY bB (M:=model (opening pT) w) (C:=W3 (model (opening pT) w).den ⟨opening pT,w.params⟩ noJ 3000 60) (Ck bB (PB _ _) 3000 60) (boot (opening pT)) (Ctx.of (.builtin "boot" {}) []) .nil 0 1 default [] _ (by rw[xj,PySem.W.Fast.te2477092760451715423];exact Xo w.params)
 refine Sem.wp_mono _ _ _ ?_ ?_ _ _ h
 ·rintro a q s' ⟨T,n,k,g,e,rfl⟩
  cases e;exact⟨rfl,rfl,rfl⟩
 ·rintro e q s' ⟨T,n,k,g,c,rfl⟩
  nomatch c
theorem Lr (w:World):(∃s,AfterRun (opening pT) w s)/\∀s,AfterRun (opening pT) w s->s=bB.sh (zm w.params) 28 276:=AfterImport.of_wp (P:=λs=>s=bB.sh (zm w.params) 28 276) (Xn w)
noncomputable def fenS (P:Params):Option Shared:=PySem.W.Fast.tw14289696077712309145 pT (bB.sh (zm P) 28 276)
noncomputable def fenO (P:Params):Obj:=match fenS P with
 |some s=>(s.heap.get? 11).getD default
 |none=>default
noncomputable def T0 (P:Params):BT:=(zm P).set 11 λZ=>fenO P
theorem Rq (w:World):fenceModules? pT (bB.sh (zm w.params) 28 276)=some (bB.sh (T0 w.params) 28 276):=by
 rw[PySem.W.Fast.te14289696077712309145];generalize w.params=P
 rfl'
noncomputable def fol (b:Bool)(f:String->Bool)(r:String):Bool:=@Bool.rec (λZ=>Bool) (f r) b (Nat.beq (PySem.W.S.codeS r) 10139888712337904147300001983332972444938612)
theorem Rj (f:String->Bool):fol (f "special-get-raises") f=f:=by
 funext r;unfold fol
 induction h:Nat.beq (PySem.W.S.codeS r) 10139888712337904147300001983332972444938612 using fu with
 |false=>rfl
 |true=>
  have:r="special-get-raises":=PySem.code_inj _ _ (by rw[PySem.W.S.code_S,PySem.W.S.code_S];exact(bN h).trans ⋯)
  rw[this]
noncomputable def Pf (b:Bool)(P:Params):Params:={P with followText:=fol b P.followText}
theorem mU (P:Params):Pf (P.followText "special-get-raises") P=P:=by unfold Pf;rw[Rj]
noncomputable abbrev tX:List Stmt->Env->Sem Flow:=PySem.W.Fast.tw12563942051412417395
noncomputable abbrev lW:List Stmt:=behindTheImports pT
noncomputable abbrev Γ0:Ctx:=Ctx.of (.builtin "claim.caller" {}) []
noncomputable def Vs:Sem (Value×Addr):=do
 let code<-moduleCode pT.main
 let frame<-newBodyFrame code mainNs mainNs
 pure (code,frame)
noncomputable def preR (P:Params):Option (RV (Value×Addr)):=ev ⟨pT,P⟩ (W3 NK ⟨pT,P⟩ noJ 3000 60) Vs Γ0 (T0 P) 28 276 default []
noncomputable def T1 (P:Params):BT:=treeOf (preR P)
theorem pre_ev (P:Params):preR P=some (.ok (.ref 30,31) (T1 P) 32 282 default (logOf (preR P))):=⋯
noncomputable def env0:Env:={scope:=pT.main.scope,locals:=mainNs,globals:=mainNs,cells:=[],code:=.ref 30,frame:=some 31}
noncomputable def Γ1:Ctx:=Γ0.enter (.body lW env0) none default
theorem Mw:blockStart lW env0=pure ():=⋯
noncomputable def r1 (A:JA->JR)(P:Params):Option (RV Flow):=ev ⟨pT,P⟩ (W3 NK ⟨pT,P⟩ (jmp A) 3000 60) (tX (lW.take 14) env0) Γ1 (T1 P) 32 282 default []
noncomputable def T2 (A:JA->JR)(P:Params):BT:=treeOf (r1 A P)
structure DE where
 es:Array DictEntry
 ep:Nat
noncomputable def oh (e:DE):Obj:=⟨.type "dict",none,.dict e.es e.ep,#[]⟩
noncomputable def oK (T:BT)(n:Nat)(f:Nat->DE)(j:Nat):BT:=@Nat.rec (λZ=>BT) T (λj t=>t.ins (n+j) (oh (f (n+j)))) j
@[irreducible] noncomputable def nC:Stmt:=lW[14]?.getD (.Pass default)
noncomputable def uF (st:Stmt):Str:=G8 default st λts Z Z=>l1 default ts λt=>rm default t λx Z=>x
noncomputable def xR (st:Stmt):Pos:=G8 default st λts Z Z=>l1 default ts λt=>rm default t λZ p=>p
noncomputable def lK (st:Stmt):List (Option Expr):=G8 [] st λZ e Z=>R5 [] e λks Z Z=>ks
noncomputable def lJ (st:Stmt):List Expr:=G8 [] st λZ e Z=>R5 [] e λZ vs Z=>vs
noncomputable def uh (st:Stmt):Pos:=G8 default st λZ e Z=>R5 default e λZ Z p=>p
noncomputable def zr (st:Stmt):Pos:=G8 default st λZ Z p=>p
theorem stB_eq:nC=.Assign [.Name (uF nC) (xR nC)] (.Dict (lK nC) (lJ nC) (uh nC)) (zr nC):=⋯
theorem Xw:lW=lW.take 14++nC::lW.drop 15:=⋯
noncomputable def Ql (ks:List (Option Expr)):List Expr->Option (List (Int×Str)):=
 @List.rec (Option Expr) (λZ=>List Expr->Option (List (Int×Str))) (λvs=>l0 none vs (some [])) (λk Z a vs=>oS none k λk=>Mh none k λc Z Z=>qI none c λi=>lc none vs λv vs=>Mh none v λc Z Z=>qS none c λx=>oS none (a vs) λr=>some ((i,x)::r)) ks
@[irreducible] noncomputable def qt:List (Int×Str):=(Ql (lK nC) (lJ nC)).getD []
noncomputable def Gh:List (Int×Str)->Bool
 |(a,_)::r=>match r with
  |(b,_)::_=>decide (a<b)&&Gh r
  |[]=>true
 |[]=>true
theorem J0:∀{l:List (Int×Str)}{a:Int×Str},Gh (a::l)=true->∀b∈l,a.1<b.1
 |[],_,_,_,h=>nomatch h
 |(b,y)::r,(a,x),h,c,hc=>by
  have h:(decide (a<b)&&Gh ((b,y)::r))=true:=h;rw[bJ,decide_eq_true_eq]at h;rcases au.mp hc with rfl|hc
  ·exact h.1
  ·have:=J0 h.2 c hc
   exact Int.lt_trans h.1 this
theorem MJ {l:List (Int×Str)}{a:Int×Str}(h:Gh (a::l)=true):Gh l=true:=by
 induction l using gY with
 |nil=>rfl
 |cons b r=>
  obtain⟨a,x⟩:=a;obtain⟨b,y⟩:=b;have h:(decide (a<b)&&Gh ((b,y)::r))=true:=h;rw[bJ]at h;exact h.2
theorem zx:∀{l:List (Int×Str)},Gh l=true->(l.map (·.1)).Nodup
 |[],_=>.nil
 |a::l,h=>by rw[aX,List.nodup_cons];refine⟨λc=>?_,zx (MJ h)⟩;refine cW (λb d e=>?_) (aG.mp c);have:=J0 h b d;simp_all
theorem yp:Ql (lK nC) (lJ nC)=some qt:=⋯
theorem K8:Gh qt=true:=⋯
theorem rZ:qt.length=650:=⋯
section
variable {prog:Program}{w:World}{env:Env}{pos:Pos}
theorem K9 {ks:List (Option Expr)}:∀{vs:List Expr}{qs:List (Int×Str)},Ql ks vs=some qs->
 iw prog w ((evalEachOpt ks env).zip ((evalEach vs env).map λv=>do let x<-v;standAt pos;pure x)) qs:=by
 induction ks with
 |nil=>exact λh=>lV cH h λh=>by injection h with h;exact h▸.nil
 |cons k ks g=>
  intro vs qs h;refine Br cH h λk h=>R6 cH h λc f d h=>qI_i cH h λi h=>nJ cH h λv vs h=>R6 cH h λc e b h=>qS_i cH h λx h=>?_;refine cW (λr j h=>?_) (Eb cH h);injection h with h;rw[<-h];refine iw.cons (k:=eval (.Constant (.int i) f d) env) (v:=do let x<-eval (.Constant (.str x) e b) env;standAt pos;pure x) (q:=(i,x)) ⟨λA E s Q a=>?_,λA E s Q a=>?_⟩ (g j)
  ·show wpAny _ _ (eval (.Constant (.int i) f d) env) _ _ _
   exact wpAny_Constant_int a
  ·show wpAny _ _ (do let x<-eval (.Constant (.str x) e b) env;standAt pos;pure x) _ _ _
   exact aj (wpAny_Constant_str (aj (bR (aB a))))
end
noncomputable def Er (T:BT)(n:Nat)(f:Nat->DE)(j:Nat):Bool:=(List.range j).all λi=>((oK T n f (i+1)).get (n+i)).isSome
noncomputable def qP (b:Bool)(A:JA->JR)(f:Nat->DE)(P:Params):Prop:=(r1 A (Pf b P),jb (T2 A (Pf b P)) 232,Er (T2 A (Pf b P)) 232 f 39)=
 (some (.ok .next (T2 A (Pf b P)) 232 664 (posOf (r1 A (Pf b P))) (logOf (r1 A (Pf b P)))),true,true)
theorem Og (A:JA->JR)(f:Nat->DE)(P:Params):qP false A f P:=by delta qP;rfl'
theorem Oe (A:JA->JR)(f:Nat->DE)(P:Params):qP true A f P:=by delta qP;rfl'
theorem Oh (b:Bool)(A:JA->JR)(f:Nat->DE)(P:Params):(r1 A (Pf b P),jb (T2 A (Pf b P)) 232,Er (T2 A (Pf b P)) 232 f 39)=
 (some (.ok .next (T2 A (Pf b P)) 232 664 (posOf (r1 A (Pf b P))) (logOf (r1 A (Pf b P)))),true,true):=
 Bool.casesOn (motive:=λb=>qP b A f P) b (Og A f P) (Oe A f P)
noncomputable def T3 (A:JA->JR)(f:Nat->DE)(P:Params):BT:=oK (T2 A P) 232 f 39
noncomputable def tailX (rest:List Stmt):Sem Flow:=do
 standAt (xR nC)
 bindName env0 (uF nC) (.ref 232)
 tX rest env0
noncomputable def r2 (A:JA->JR)(f:Nat->DE)(q:Pos)(P:Params):Option (RV Flow):=ev ⟨pT,P⟩ (W3 NK ⟨pT,P⟩ (jmp A) 3000 60) (tailX (lW.drop 15)) Γ1 (T3 A f P) 271 2614 q []
noncomputable def T4 (A:JA->JR)(f:Nat->DE)(q:Pos)(P:Params):BT:=treeOf (r2 A f q P)
noncomputable def uJ (b:Bool)(A:JA->JR)(f:Nat->DE)(q:Pos)(P:Params):Prop:=r2 A f q (Pf b P)=some (.ok .next (T4 A f q (Pf b P)) 412 3027 (posOf (r2 A f q (Pf b P))) (logOf (r2 A f q (Pf b P))))
theorem Vh (A:JA->JR)(f:Nat->DE)(q:Pos)(P:Params):uJ false A f q P:=by delta uJ;rfl'
theorem Vg (A:JA->JR)(f:Nat->DE)(q:Pos)(P:Params):uJ true A f q P:=by delta uJ;rfl'
theorem Vj (b:Bool)(A:JA->JR)(f:Nat->DE)(q:Pos)(P:Params):r2 A f q (Pf b P)=some (.ok .next (T4 A f q (Pf b P)) 412 3027 (posOf (r2 A f q (Pf b P))) (logOf (r2 A f q (Pf b P)))):=
 Bool.casesOn (motive:=λb=>uJ b A f q P) b (Vh A f q P) (Vg A f q P)
noncomputable def JA.ok (a:JA):Prop:=∃jc,Hu lst lit Yi Ui a.Γ a.T a.n=some (a.S,a.I,jc)/\jc.ns=a.ns
noncomputable def eU (prog:Program)(w:World)(a:JA):JR:=by
 classical
 exact if h:a.ok then Classical.choose (BL (prog:=prog) (w:=w) bB h.choose_spec.1 a.k a.p)else⟨#[],0,.fresh 0 0 true,none,#[],default⟩
theorem yc (prog:Program)(w:World)(a:JA)(h:a.ok):uI prog w a.ns (eU prog w a)/\∀jc,Hu lst lit Yi Ui a.Γ a.T a.n=some (a.S,a.I,jc)->∀R,wpCode (model prog w) a.Γ R (eU prog w a).p
 (bB.sh ((a.T.set a.S λZ=>jn (eU prog w a)).set a.I λZ=>jc.li (eU prog w a)) a.n (a.k+jc.ns.length * (jc.d+1)))->wpCode (model prog w) a.Γ R a.p (bB.sh a.T a.n a.k):=by
 have e:eU prog w a=Classical.choose (BL (prog:=prog) (w:=w) bB h.choose_spec.1 a.k a.p):=by unfold eU;rw[dif_pos h]
 have b:=Classical.choose_spec (BL (prog:=prog) (w:=w) bB h.choose_spec.1 a.k a.p);rw[<-e]at b;refine⟨by rw[<-h.choose_spec.2];exact b.1,λjc c R d=>?_⟩;have f:h.choose=jc:=by have:=h.choose_spec.1.symm.trans c;simpa using this
 rw[f]at b;exact b.2 R d
theorem QG (prog:Program)(w:World):OkJ bB (model prog w) (jmp (eU prog w)):=by
 intro a T n k p i f d g h R c;unfold jmp at h;generalize e:Hu lst lit Yi Ui a T n=o at h
 induction o using aK with
 |none=>nomatch h
 |some y=>
  induction y using Prod.casesOn with|mk S y=>
  induction y using Prod.casesOn with|mk I b=>
  have h:=aH h;exact(yc prog w ⟨b.ns,S,I,a,T,n,k,p⟩ ⟨b,e,rfl⟩).2 b e R (@rwE _ _ _ (λz=>wpCode (model prog w) a R z.2.2.1 (bB.sh z.1 n z.2.1)) h c)
theorem uB {M:Model}{a:Ctx}{env:Env}{Q:Flow->Pos->Shared->Prop}{E:Value->Pos->Shared->Prop}(r:List Stmt):∀(l:List Stmt)(p:Pos)(s:Shared),
 wp M a (execs l env) (λf q s'=>f=.next/\wp M a (execs r env) Q E q s') E p s->wp M a (execs (l++r) env) Q E p s
 |[],p,s,h=>by have h:wp M a (pure .next:Sem Flow) (λf q s'=>f=.next/\wp M a (execs r env) Q E q s') E p s:=h;rw[Sem.wp_pure']at h;exact h.2
 |st::l,p,s,h=>by
  have h:wp M a (exec st env >>= λf=>match f with|.next=>execs l env|f=>pure f) (λf q s'=>f=.next/\wp M a (execs r env) Q E q s') E p s:=h;show wp M a (exec st env >>= λf=>match f with|.next=>execs (l++r) env|f=>pure f) Q E p s;rw[Sem.wp_bind']at h⊢;refine Sem.wp_mono M a _ (λf q s' b=>?_) (λZ Z Z h=>h) p s h
  induction f using Flow.casesOn with
  |next=>exact uB r l q s' b
  |_=>
   rw[Sem.wp_pure']at b
   nomatch b.1
theorem yC {T:BT}{n:Nat}{f:Nat->DE}:∀(j:Nat),(∀i,i<j->((oK T n f (i+1)).get (n+i)).isSome=true)->∀c,(oK T n f j).get c=if n<=c/\c<n+j then some (oh (f c))else T.get c
 |0,_,c=>by rw[aq (by simp_all)];rfl
 |j+1,h,c=>by
  show((oK T n f j).ins (n+j) (oh (f (n+j)))).get c=_;have a:(((oK T n f j).ins (n+j) (oh (f (n+j)))).get (n+j)).isSome=true:=h j (by exact eF _);rw[BT.get_ins _ _ _ a];by_cases e:c=n+j
  ·rw[ao e,ao (by simp_all),e]
  ·rw[aq e,yC j (λi b=>h i (by exact Nat.lt_succ_of_lt ‹_›)) c]
   by_cases q:n<=c/\c<n+j
   ·rw[ao q,ao (by omega)]
   ·rw[aq q,aq (by omega)]
theorem OJ {T:BT}{n j:Nat}{L:Life}{f:Nat->DE}{b:Heap}(h:jb T n=true)(e:∀i,i<j->((oK T n f (i+1)).get (n+i)).isSome=true)(size:b.objs.size=n+j)(d:b.life=L)
 (low:∀c,c<n->b.get? c=(absHeap T n L).get? c)(new:∀c,n<=c->c<n+j->b.get? c=some (oh (f c))):b=absHeap (oK T n f j) (n+j) L:=by
 have:b.objs=(absHeap (oK T n f j) (n+j) L).objs:=by
  apply Array.ext_getElem?;intro c;rw[absHeap_at,yC j e c];by_cases k:c<n
  ·rw[ao (by exact Nat.le_add_right_of_le ‹_›),aq (by omega)]
   refine cW (λo m g=>?_) (ik h k);rw[m];exact lR ((low c k).trans ((abs_get k m).trans g))
  ·by_cases a:c<n+j
   ·rw[ao a,ao ⟨by exact bc.mp ‹_›,a⟩]
    exact lR (new c (by exact bc.mp ‹_›) a)
   ·rw[aq a]
    exact dM (by simp_all)
 obtain⟨p,l⟩:=b;subst d;show Heap.mk p l=Heap.mk _ _;exact bD (Heap.mk · l) this
noncomputable def kZ (w:World)(e:DE):Prop:=∃kvs,oW kvs qt/\KeysOf (intKind pT w) e.es/\Pairs (intKind pT w) e.es.toList kvs/\(kvs.map (·.1)).Nodup
theorem ru {h:Heap}{w:World}{c:Addr}{kvs:List (Int×Value)}(hd:h.DictOf (intKind pT w) c kvs):∃e:DE,h.get? c=some (oh e)/\KeysOf (intKind pT w) e.es/\Pairs (intKind pT w) e.es.toList kvs/\(kvs.map (·.1)).Nodup:=by revert hd;refine rM λo i j g f hd r=>uA (λd b a=>?_) f;obtain⟨p,m,l,k⟩:=o;simp only at d b a hd;subst d b a hd;exact⟨⟨i,j⟩,g,r⟩
theorem Mp {a b:DE}(h:oh a=oh b):a=b:=by obtain⟨x,y⟩:=a;obtain⟨z,u⟩:=b;have c:Data.dict x y=Data.dict z u:=bD Obj.data h;cases c;rfl
theorem Z6:sysModules<232:=by decide
theorem Xf {prog:Program}{w:World}{B:Around}{E:VP}{ks:List (Option Expr)}{vs:List Expr}{dp:Pos}{env:Env}{qs:List (Int×Str)}{s:Shared}{Q:VP}(b:Ql ks vs=some qs)(d:(qs.map (·.1)).Nodup)(f:qs.length % 17≠0)(a:17<qs.length)(hz:qs.length<=sizeLine)
 (hS:sysModules<s.heap.objs.size)(e:∀h' kvs,oW kvs qs->h'.DictOf (intKind prog w) s.heap.objs.size kvs->h'.objs.size=s.heap.objs.size+(qs.length / 17+1)->(∀c,c<s.heap.objs.size->h'.get? c=s.heap.get? c)->
  (∀c,s.heap.objs.size<c->c<s.heap.objs.size+(qs.length / 17+1)->∃kvs,h'.DictOf (intKind prog w) c kvs)->Q (.ref s.heap.objs.size) {s with heap:=h',toks:=s.toks+3 * qs.length}):wpAny (model prog w) B (eval (.Dict ks vs dp) env) Q E s:=by
 rw[arm_eval_Dict];exact aj (bR (Xe (K9 b) d f a hz hS e))
theorem Eh:(qt.map (·.1)).Nodup:=zx K8
theorem lenB1:qt.length % 17≠0:=by rw[rZ];decide
theorem lenB2:17<qt.length:=by rw[rZ];decide
theorem lenB3:qt.length<=sizeLine:=by rw[rZ,sizeLine_eq];decide
theorem b3_key (w:World)(B:Around)(s:Shared)(hsz:s.heap.objs.size=232):wpAny (model pT w) B (eval (.Dict (lK nC) (lJ nC) (uh nC)) env0) (λv s'=>v=.ref 232/\∃kvs,oW kvs qt/\s'.heap.DictOf (intKind pT w) 232 kvs/\s'.heap.objs.size=271/\
 (∀c,c<232->s'.heap.get? c=s.heap.get? c)/\(∀c,232<c->c<271->∃kvs,s'.heap.DictOf (intKind pT w) c kvs)/\s'={s with heap:=s'.heap,toks:=s.toks+1950}) (λZ Z=>False) s:=by
 have f:sysModules<s.heap.objs.size:=by rw[hsz];exact Z6
 refine Xf (prog:=pT) (w:=w) (ks:=lK nC) (vs:=lJ nC) (dp:=uh nC) (env:=env0) (qs:=qt) yp Eh lenB1 lenB2 lenB3 f λg kvs hl e d b a=>?_;rw[hsz]at e d b a⊢;rw[rZ]at d a⊢;exact⟨rfl,kvs,hl,e,d,b,a,rfl⟩
section
variable (w:World)(A:JA->JR)
theorem b3_wp (B:jb (T2 A w.params) 232=true)(j:∀f,Er (T2 A w.params) 232 f 39=true)(p:Pos):∃f q,kZ w (f 232)/\
 ∀(Q:Value->Pos->Shared->Prop)(E:Value->Pos->Shared->Prop),Q (.ref 232) q (bB.sh (T3 A f w.params) 271 2614)->wp (model pT w) Γ1 (eval (.Dict (lK nC) (lJ nC) (uh nC)) env0) Q E p (bB.sh (T2 A w.params) 232 664):=by
 have x:(bB.sh (T2 A w.params) 232 664).heap.objs.size=232:=absHeap_size _ _ _;have key:=b3_key w ((Xg Γ1).under Γ1.code) (bB.sh (T2 A w.params) 232 664) x;refine iQ (λv q o H d J=>Dg (λt u hl C I h g z=>?_) H) (Ba _ _ _ _ (key Γ1 p (za Γ1).in));subst t;have k:∀c:Nat,∃e:DE,232<=c->c<271->o.heap.get? c=some (oh e):=λc=>by
  by_cases m:232<=c/\c<271
  ·by_cases s:c=232
   ·subst s
    refine cW (λe l Z=>?_) (ru C);exact⟨e,λZ Z=>l⟩
   ·refine yE (λG y=>?_) (g c (Nat.lt_of_le_of_ne m.1 (Ne.symm s)) m.2)
    refine cW (λe l Z=>?_) (ru y);exact⟨e,λZ Z=>l⟩
  ·exact⟨⟨#[],0⟩,λa b=>absurd ⟨a,b⟩ m⟩
 obtain⟨f,k⟩:∃f:Nat->DE,∀c,232<=c->c<271->o.heap.get? c=some (oh (f c)):=⟨λc=>Classical.choose (k c),λc=>Classical.choose_spec (k c)⟩;refine⟨f,q,?_,λQ E F=>J Q E ?_⟩
 ·refine xN (λe l m s M=>?_) (ru C)
  have N:f 232=e:=Mp (aH ((k 232 (bG _) (by decide)).symm.trans l));rw[N];exact⟨u,hl,m,s,M⟩
 ·have L:o.heap=absHeap (oK (T2 A w.params) 232 f 39) (232+39) bB.L:=
   OJ B (λi K=>aU.mp (j f) i (bf.mpr K)) I d h k
  have e:o=bB.sh (T3 A f w.params) 271 2614:=by refine z.trans ?_;rw[L];rfl
  rw[<-e]at F;exact F
end
theorem R8 (p:Program)(w:World)(b:List Stmt)(env:Env):(model p w).den (.body b env)=(blockStart b env).bind λZ=>((execs b env).onRaise (leaving env)).bind λf=>(Sem.pure (Fin.done f):Sem Fin):=rfl
theorem Rt:exec nC env0=(do
 standAt (zr nC)
 let v<-eval (.Dict (lK nC) (lJ nC) (uh nC)) env0
 standAt (xR nC)
 bindName env0 (uF nC) v
 return .next):=by
 conv=>lhs;rw[stB_eq]
 exact exec_Assign_Name _ _ _ _ _ rfl
section
variable (w:World)
theorem Vk (A:JA->JR)(m:OkJ bB (model pT w) (jmp A))(f:Nat->DE){Q:Flow->Pos->Shared->Prop}{E:Value->Pos->Shared->Prop}(l:jb (T2 A w.params) 232=true->(∀f,Er (T2 A w.params) 232 f 39=true)->∀q,Q .next q (bB.sh (T2 A w.params) 232 664)):
 wp (model pT w) Γ1 (execs (lW.take 14) env0) Q E default (bB.sh (T1 w.params) 32 282):=by
 have h:=λf=>Oh (w.params.followText "special-get-raises") A f w.params;rw[mU]at h;have d:=bD Prod.fst (h f);have c:=bD (λx=>x.2.1) (h f);have b:=λf=>bD (λx=>x.2.2) (h f);dsimp only at d c b;have j:=EY bB (M:=model pT w) (C:=W3 (model pT w).den ⟨pT,w.params⟩ (jmp A) 3000 60) (Ck bB m 3000 60) (execs (lW.take 14) env0) Γ1 (T1 w.params) 32 282 default [] _ (by rw[xj,PySem.W.Fast.te12563942051412417395];exact d)
 refine Sem.wp_mono _ _ _ ?_ ?_ _ _ j
 ·rintro a q i ⟨T,n,k,g,e,rfl⟩
  cases e;exact l c b _
 ·rintro e q i ⟨T,n,k,g,o,rfl⟩
  nomatch o
theorem Vi (A:JA->JR)(i:OkJ bB (model pT w) (jmp A))(f:Nat->DE)(p:Pos){Q:Flow->Pos->Shared->Prop}{E:Value->Pos->Shared->Prop}(d:∀q,Q .next q (bB.sh (T4 A f p w.params) 412 3027)):
 wp (model pT w) Γ1 (do standAt (xR nC);bindName env0 (uF nC) (.ref 232);execs (lW.drop 15) env0) Q E p (bB.sh (T3 A f w.params) 271 2614):=by
 have h:=Vj (w.params.followText "special-get-raises") A f p w.params;rw[mU]at h;have c:=EY bB (M:=model pT w) (C:=W3 (model pT w).den ⟨pT,w.params⟩ (jmp A) 3000 60) (Ck bB i 3000 60) (do standAt (xR nC);bindName env0 (uF nC) (.ref 232);execs (lW.drop 15) env0) Γ1 (T3 A f w.params) 271 2614 p [] _ (by rw[xj,PySem.W.Fast.te12563942051412417395];exact h)
 refine Sem.wp_mono _ _ _ ?_ ?_ _ _ c
 ·rintro a q b ⟨T,n,k,g,e,rfl⟩
  cases e;exact d _
 ·rintro e q b ⟨T,n,k,g,j,rfl⟩
  nomatch j
theorem pre_wp {Q:Value×Addr->Pos->Shared->Prop}{E:Value->Pos->Shared->Prop}(d:Q (.ref 30,31) default (bB.sh (T1 w.params) 32 282)):wp (model pT w) Γ0 Vs Q E default (bB.sh (T0 w.params) 28 276):=by
 have c:=EY bB (M:=model pT w) (C:=W3 (model pT w).den ⟨pT,w.params⟩ noJ 3000 60) (Ck bB (PB _ _) 3000 60) Vs Γ0 (T0 w.params) 28 276 default [] _ (by rw[xj];exact pre_ev w.params)
 refine Sem.wp_mono _ _ _ ?_ ?_ _ _ c
 ·rintro a q b ⟨T,n,k,g,e,rfl⟩
  cases e;exact d
 ·rintro e q b ⟨T,n,k,g,f,rfl⟩
  nomatch f
end
theorem NQ:(topStub pT).cur=(moduleCode pT.main >>= λcode=>newBodyFrame code mainNs mainNs >>= λframe=>run (.body lW {scope:=pT.main.scope,locals:=mainNs,globals:=mainNs,cells:=[],code:=code,frame:=some frame}) >>= λZ=>ret .none):=rfl
section
variable (w:World)
theorem Xv:∃f q,kZ w (f 232)/\∀(R:Result->Shared->Prop),R (.ok .next) (bB.sh (T4 (eU pT w) f q w.params) 412 3027)->wpCode (model pT w) Γ1 R default (bB.sh (T1 w.params) 32 282):=by
 have m:∃p f q,kZ w (f 232)/\(∀(Q:Flow->Pos->Shared->Prop)(E:Value->Pos->Shared->Prop),Q .next p (bB.sh (T2 (eU pT w) w.params) 232 664)->wp (model pT w) Γ1 (execs (lW.take 14) env0) Q E default (bB.sh (T1 w.params) 32 282))/\
  ∀(Q:Value->Pos->Shared->Prop)(E:Value->Pos->Shared->Prop),Q (.ref 232) q (bB.sh (T3 (eU pT w) f w.params) 271 2614)->wp (model pT w) Γ1 (eval (.Dict (lK nC) (lJ nC) (uh nC)) env0) Q E (zr nC) (bB.sh (T2 (eU pT w) w.params) 232 664):=by
  have h:=Vk w (eU pT w) (QG pT w) (λZ=>⟨#[],0⟩) (Q:=λa q i=>a=.next/\i=bB.sh (T2 (eU pT w) w.params) 232 664/\jb (T2 (eU pT w) w.params) 232=true/\∀f,Er (T2 (eU pT w) w.params) 232 f 39=true) (E:=λZ Z Z=>False) λc b q=>⟨rfl,rfl,c,b⟩;refine iQ (λa p i j Z l=>sY (λe d c b=>?_) j) (Ba _ _ _ _ h);subst e;subst d;refine mG (λf q g k=>?_) (b3_wp w (eU pT w) c b (zr nC));exact⟨p,f,q,g,λQ E s=>l Q E s,k⟩
 revert m;refine iQ λp f q g c b=>?_;refine⟨f,q,g,λR o=>?_⟩;rw[wpCode_iff_wp];show wp (model pT w) Γ1 ((model pT w).den (.body lW env0)) _ _ _ _;rw[R8,Sem.wp_bind,Mw,Sem.wp_pure',Sem.wp_bind,Sem.wp_onRaise,Xw];refine uB _ _ _ _ (c _ _ ⟨rfl,?_⟩);show wp (model pT w) Γ1 (exec nC env0 >>= λf=>match f with|.next=>execs (lW.drop 15) env0|f=>pure f) _ _ _ _;rw[Rt];simp only[bind_assoc];show wp (model pT w) Γ1 (eval (.Dict (lK nC) (lJ nC) (uh nC)) env0 >>= _) _ _ (zr nC) _;rw[Sem.wp_bind'];refine b _ _ ?_;refine Vi w (eU pT w) (QG pT w) f q λt=>?_;exact o
theorem Z4:∃f q,kZ w (f 232)/\wp (model pT w) Γ0 (topStub pT).cur (λa Z s'=>a=.done (.ret .none)/\s'=bB.sh (T4 (eU pT w) f q w.params) 412 3027) (λZ Z Z=>False) default (bB.sh (T0 w.params) 28 276):=by
 refine mG (λf q c d=>?_) (Xv w);refine⟨f,q,c,?_⟩;rw[NQ];have b:=pre_wp w (Q:=λx p s=>wp (model pT w) Γ0 (run (.body lW {scope:=pT.main.scope,locals:=mainNs,globals:=mainNs,cells:=[],code:=x.1,frame:=some x.2}) >>= λZ=>ret .none) (λa Z s'=>a=.done (.ret .none)/\s'=bB.sh (T4 (eU pT w) f q w.params) 412 3027) (λZ Z Z=>False) p s) (E:=λZ Z Z=>False) ?_
 ·unfold Vs at b
  simp only[Sem.wp_bind',Sem.wp_pure']at b⊢;exact b
 ·rw[Sem.wp_bind']
  show wpCode (model pT w) Γ1 _ default _;refine d _ ?_;exact⟨rfl,rfl⟩
end
theorem DG {p:Program}{w:World}{t:Sem Fin}{c:Code}{g:Pos}{s s1:Shared}(E:s.asleep)(C:s1.gens=#[])
 (h:wp (model p w) (Ctx.of c []) t (λx Z s'=>x=.done (.ret .none)/\s'=s1) (λZ Z Z=>False) g s):
 ∃n z,schedN (denote table) p w n (.single s ⟨t,c,g,[]⟩)=.running (.single s1 z)/\through z=true:=by
 refine Nf (λn s' σ B i F I hl=>?_) (wp_reaches h);refine qK (λs2 A d j u=>yE (λm G=>?_) j) (wp_comes (Ctx.fits_of c []) t _ _ g s h);have L:i=.pure (.done (.ret .none))/\s'=s1:=by
  rcases hl with⟨a,rfl,rfl,rfl⟩|⟨e,_,y⟩
  ·exact⟨rfl,rfl⟩
  ·exact y.elim
 have K:d=.pure (.done (.ret .none))/\s2=s1:=by
  rcases u with⟨a,rfl,rfl,rfl⟩|⟨e,_,y⟩
  ·exact⟨rfl,rfl⟩
  ·exact y.elim
 revert L;refine yA λj f=>?_;subst j;subst f;revert K;refine yA λj f=>?_;subst j;subst f;obtain rfl:=Shared.eq_of_forget_eq I C;have H:runNI (denote table) p w (m+1) s ⟨t,c,g,[]⟩=.halted (.done (.ret .none)) σ:=by have:=runN_snoc (M:=model p w) G;rw[show(model p w).step σ ⟨.pure (.done (.ret .none)),(Ctx.of c []).code,A,[]⟩=PySem.finish (outcomeOf (.ok (.ret .none))) σ from step_leaf_nil (model p w) σ c A (.ok (.ret .none))]at this;unfold PySem.finish at this;rw[C,show leftWithCleanup #[]=false from by decide+kernel]at this;exact this
 refine nF (λl hk Z J=>?_) (runNI_real (denote table) p w H rfl);have o:∀k s₂,runN (denote table) p w k s ⟨t,c,g,[]⟩≠.halted (.unsupported "lifetime:generator-with-cleanup-left-suspended") s₂:=by
  intro k s₂ v;have a:=runN_mono (denote table) p w (m+1) k s _ _ l hk;have b:=runN_mono (denote table) p w k (m+1) s _ _ s₂ v;rw[Nat.add_comm,b]at a;injection a with N _
  nomatch N
 refine⟨n,⟨.pure (.done (.ret .none)),c,B,[]⟩,(schedN_eq_runN (denote table) p w s ⟨t,c,g,[]⟩ E ⟨J,o⟩ n).trans ?_,rfl⟩;have q:runN (denote table) p w n s ⟨t,c,g,[]⟩=.running σ ⟨.pure (.done (.ret .none)),c,B,[]⟩:=F;rw[q];rfl
theorem Kl (w:World):∃f q,kZ w (f 232)/\∃n a,schedN (denote table) pT w n (.single (bB.sh (T0 w.params) 28 276) (topStub pT))=.running (.single (bB.sh (T4 (eU pT w) f q w.params) 412 3027) a)/\through a=true:=by refine mG (λf q b h=>?_) (Z4 w);exact⟨f,q,b,DG (t:=(topStub pT).cur) ⟨rfl,rfl⟩ rfl h⟩
noncomputable def keepL:List Nat:=[0,1,3,4,5,7,14,16,17,18,20,22,24,26,28,29,30,31,32,33,34,35,36,37]
noncomputable def qV:Program:=view pT keepL
noncomputable def qU:List Str:=["tspecials","_name_disallowed_re","_value_disallowed_re","_formatparam","bisect_right","insort_left","bisect_left","b1_set","b3_exceptions","c6_set","c7_set","c8_set","c9_set"].map Str.ofString
noncomputable def S4 (A:JA->JR)(f:Nat->DE)(q:Pos)(P:Params):Shared:=bB.sh (T4 A f q P) 412 3027
noncomputable def S0 (P:Params):Shared:=bB.sh (T0 P) 28 276
noncomputable def ym (b:Bool)(A:JA->JR)(f:Nat->DE)(q:Pos)(P:Params):Prop:=(staticsOk (importedModules pT.main.body) (S0 (Pf b P)).heap (S4 A f q (Pf b P)).heap,namesBound pT (S4 A f q (Pf b P)).heap,laidKept (S0 (Pf b P)).heap (S4 A f q (Pf b P)).heap,
 PySem.W.Fast.tw4187177175401517315 qV qU (importedModules pT.main.body) (λZ=>true) true (S4 A f q (Pf b P)))=(true,true,true,openGood qV qU)
theorem looksF (A:JA->JR)(f:Nat->DE)(q:Pos)(P:Params):ym false A f q P:=by delta ym;rfl'
theorem looksT (A:JA->JR)(f:Nat->DE)(q:Pos)(P:Params):ym true A f q P:=by delta ym;rfl'
theorem looks (b:Bool)(A:JA->JR)(f:Nat->DE)(q:Pos)(P:Params):(staticsOk (importedModules pT.main.body) (S0 (Pf b P)).heap (S4 A f q (Pf b P)).heap,namesBound pT (S4 A f q (Pf b P)).heap,laidKept (S0 (Pf b P)).heap (S4 A f q (Pf b P)).heap,
 PySem.W.Fast.tw4187177175401517315 qV qU (importedModules pT.main.body) (λZ=>true) true (S4 A f q (Pf b P)))=(true,true,true,openGood qV qU):=
 Bool.casesOn (motive:=λb=>ym b A f q P) b (looksF A f q P) (looksT A f q P)
noncomputable def J5 (p q:Program)(loose:List Str)(YP:World->Heap->Prop):Prop:=∀w:World,(∃s,AfterRun (opening p) w s)/\∀s,AfterRun (opening p) w s->∃a,fenceModules? p s=some a/\a.gens=#[]/\∃s₁,TopRan p w a s₁/\s₁.asleep/\s₁.gens=#[]/\s₁.heap.isNs mainGlobals=true/\
 Ground q loose [] (λZ Z=>True) w s₁ (s₁.heap.nsMap mainGlobals) (s₁.heap.nsMap builtinsNs) s₁.heap/\YP w s₁.heap
theorem BZ {r:OpenRow}{q:Program}{loose:List Str}{YP:World->Heap->Prop}{d:DefRec}{kwd:List (Str×Expr)}(B:J5 r.prog q loose YP)(m:r.records=[])(T:∀w h h',YP w h->(∀b o,h.get? b=some o->h'.get? b=some o)->YP w h')
 (H:defOf q r.name=some (d,kwd))(hp:r.prog.theDef r.name=some (d.params,d.body,d.scope))(hk:kwWritten? d.params.kwonlyargs d.params.kw_defaults=some kwd)
 (k1:r.wellSaid=true)(ow:opensWell r.prog=true)(fr:frees r.toRowW=true)(wi:r.within.isEmpty=true)(hb:r.prog.bare)(hw:r.toRowW.promised)
 (call:∀(w:World)(l s₁:Shared)(mg mb:Str->Option Value),Ground q loose r.records (λZ Z=>True) w l mg mb s₁.heap->YP w s₁.heap->∀(args:List WData)(vs:List Value)(as:List Addr),
  r.claim.pre args=true->WData.layableAll args=true->Laid r.records w l s₁ args vs as->sysModules<l.heap.objs.size->∃f,mg r.name=some f/\
   wpAny (model r.prog w) callerA (PySem.call f vs) (λv s'=>GoodWG r.claim (classAt l.heap) (ExcName.means l.heap) args s₁ (.ok (.ret v)) s')
    (λe s'=>GoodWG r.claim (classAt l.heap) (ExcName.means l.heap) args s₁ (.error e) s') s₁):r.Holds:=by
 refine⟨k1,hw,?_⟩;refine qM (λj hu ha S hm=>?_) (frees_parts fr);refine⟨⟨hb,ow,by show r.makers.map _=[];rw[hm];rfl⟩,hw.witness,λw=>⟨(B w).1,λs' M=>?_⟩⟩;refine Gw (λl V R s X hz k U G0 y=>?_) ((B w).2 s' M);have Y:RecFacts r.records s.heap:=recFacts_nil m;refine⟨l,V,R,s,X,λn hn=>?_,Y.1,Y.2.1,?_⟩
 ·obtain rfl:n=r.name:=by split at hn<;>simp_all
  exact pinned_of_view U G0 H hp hk
 ·have G:Ground q loose r.records (λZ Z=>True) w s _ _ s.heap:=Y.ground G0
  refine ClaimW.callFrom_of_specG (c:=r.claim) hz k λargs p u ord t=>?_;obtain⟨⟨vs,s₁⟩,i⟩:=bz.mp (layAllW_isSome (P:=w.params) (ord:=ord) G.has args r.args s (pre_splitW p).1);have a:=layAllW_keeps _ _ _ i;have K:=layAllW_rest _ _ _ i;refine nF (λas N O F=>?_) (reads_layAllW t _ _ _ i u s₁.heap (λZ Z e=>e));have L:Laid r.records w s s₁ args vs as:=⟨⟨ord,t,i⟩,N,O,F,a,K.1.trans k,K.2.2.1⟩;have G1:=G.keeps (λZ Z Z x Z=>x) a;refine cW (λf V h=>?_) (call w s s₁ _ _ G1 (T _ _ _ y a) args vs as p u L G.low);have hi:=ident_freeW hu ha S;have J:r.claim.within=[]:=List.isEmpty_iff.mp wi;have I:(!r.writes||r.records.isEmpty)=true:=by rw[m];simp
  have C:∀(Q:Fin->Shared->Prop)(E:VP),wpAny (model r.prog w) callerA (PySem.call f vs) (λv s'=>Q (.done (.ret v)) s') E s₁->wpAny (model r.prog w) callerA (callStub r.name vs).cur Q E s₁:=λQ E A=>by show wpAny _ _ (nsGet mainNs r.name >>= _) _ _ _;refine aj (wpAny_nsGet G1.T.g ?_);rw[V];exact aj (bC A (λZ Z x=>aB x) λZ Z x=>x)
  exact⟨vs,s₁,i,C _ _ (bC h (λv s' g=>⟨_,rfl,have z:=g.laid (c:=r.claim) j J hi L;⟨z.1,z.2.1,z.2.2,λq=>⟨namesKept_of X U r.keeps a g.2.1.old,noTable I q⟩⟩⟩) λe s' g=>have z:=g.laid (c:=r.claim) j J hi L;⟨z.1,z.2.1,z.2.2,λq=>⟨namesKept_of X U r.keeps a g.2.1.old,noTable I q⟩⟩)⟩
noncomputable def V1:List Nat:=[0,1,4,5,7,8,9,10,11,12,13,14,15,16,17,18,19,20,21,22,23,24,25,26,27]
theorem Eu (b:Bool)(A:JA->JR)(f:Nat->DE)(q:Pos)(P:Params):(V1.map (T4 A f q (Pf b P)).get,jb (T4 A f q (Pf b P)) 412,globalOf (S0 (Pf b P)).heap "__annotations__")=(V1.map (T0 (Pf b P)).get,true,some (.ref 6)):=by induction b using fu<;>rfl'
noncomputable def Kept (w:World)(h:Heap):Prop:=∃f q,kZ w (f 232)/\∀b o,(S4 (eU pT w) f q w.params).heap.get? b=some o->h.get? b=some o
theorem Mt:chainsOk qV=true:=⋯
theorem V0 {b:Nat}(h:b<28)(a:b≠2)(h2:b≠3)(h3:b≠6):b∈V1:=by
 have:∀b:Fin 28,b.val≠2->b.val≠3->b.val≠6->b.val∈V1:=by decide
 exact this ⟨b,h⟩ a h2 h3
theorem I8 (B:Bk)(T:BT)(n k:Nat):(B.sh T n k).heap.life=B.L:=rfl
theorem Vb (B:Bk)(T b:BT)(n a k k':Nat):(B.sh T n k).rest=(B.sh b a k').rest:=rfl
theorem Bj (B:Bk)(T:BT)(n k:Nat):(B.sh T n k).gens=B.G:=rfl
theorem Va (B:Bk)(T:BT)(n k:Nat):(B.sh T n k).heap.objs.size=n:=absHeap_size _ _ _
theorem KC (T:BT)(n k:Nat):(bB.sh T n k).asleep:=⟨rfl,rfl⟩
theorem G9 (A:JA->JR)(f:Nat->DE)(q:Pos)(P:Params){b:Nat}{o:Obj}(h:b<412)(g:(T4 A f q P).get b=some o):(S4 A f q P).heap.get? b=alive o:=abs_get h g
theorem s0_get (P:Params){b:Nat}{o:Obj}(h:b<28)(g:(T0 P).get b=some o):(S0 P).heap.get? b=alive o:=abs_get h g
theorem MF:J5 pT qV qU Kept:=by
 intro w;refine yA (λt h=>?_) (Lr w);refine⟨t,λs C=>?_⟩;obtain rfl:=h s C;refine⟨S0 w.params,Rq w,Bj _ _ _ _,?_⟩;refine mG (λf q H d=>?_) (Kl w);have L:=looks (w.params.followText "special-get-raises") (eU pT w) f q w.params;have Fr:=Eu (w.params.followText "special-get-raises") (eU pT w) f q w.params;rw[mU]at L Fr;have l1:=bD Prod.fst L;have l2:=bD (λx=>x.2.1) L;have z:=bD (λx=>x.2.2.1) L;have y:=bD (λx=>x.2.2.2) L;have B:=bD Prod.fst Fr;have f2:=bD (λx=>x.2.1) Fr;have A:=bD (λx=>x.2.2) Fr;dsimp only at l1 l2 z y B f2 A;rw[<-PySem.W.Fast.te4187177175401517315]at y;refine uz (λG Z m J p I v=>?_) (ground_of_open (q:=qV) (loose:=qU) (XP:=λZ Z=>True) (w:=w) (s:=S4 (eU pT w) f q w.params) (λZ Z=>trivial) Mt y);refine⟨S4 (eU pT w) f q w.params,⟨d,(I8 _ _ _ _).trans (I8 _ _ _ _).symm,Vb _ _ _ _ _ _ _,λb o k a=>?_,J,statics_of_ok l1,p,I,v,λg m=>?_,names_of_bound l2,laid_of_kept z⟩,KC _ _ _,Bj _ _ _ _,m,G,f,q,H,λZ Z e=>e⟩
 ·have c:b<28:=by
   have:=aZ k
   rwa [show(S0 w.params).heap.objs.size=28 from Va _ _ _ _]at this
  have N:b≠2:=λe=>a (.inr (.inl e));have M:b≠3:=λe=>a (.inl e);have K:b≠6:=λe=>a (.inr (.inr (e▸A)));have e:(T4 (eU pT w) f q w.params).get b=(T0 w.params).get b:=by have E:=V0 c N M K;obtain⟨i,F,u⟩:=List.getElem_of_mem E;have:=bD (λl=>l[i]?) B;simp only[bQ,aR F,Option.map_some,u]at this;exact aH this
  induction g:(T0 w.params).get b using aK with
  |none=>
   refine cW (λQ j Z=>?_) (ik f2 (Nat.lt_trans c (by decide)));rw[e,g]at j
   nomatch j
  |some R=>
   have P:=s0_get w.params c g;have O:=G9 (eU pT w) f q w.params (Nat.lt_trans c (by decide)) (e.trans g);rw[O,<-P];exact k
 ·rw[show(S4 (eU pT w) f q w.params).gens=#[]from Bj _ _ _ _]at m
  simp at m
end Hd
namespace Jn
open Hd
open Mine (Tb TabAt Wd D RD fB gD gTab xK Ue Hk qH m9 gN gO Iv Ub Ed uniq argNames BK Sg gV P0 Rn Ext fj jd qp jK eE dJ xJ small nn cH sW cdT cdB orC Pr someE j9 wO eqZ nH Tp gQ nb Mi eBin_i eUn eUn_i eBo Y4 Mf eLam_i eIf YX R5 eLC YW H8 R7 jj jY Mh R6 Xb Ft Cv H7 rm jw eLi eLi_i R3 yX eSl YT eDC eDC_i Oj Oi G8 Oo G7 Om sWh Yc G6 Ol sEx I9 dB Ia dI jx dS rz dL lz dT Mm dSd R9 dRg Y7 dIs dIs_i dIn Fx Y9 Sd vI Gy vB vB_i vS vS_i vT Nk vR ZS aQ aQ_i aS aS_i aF aF_i qI qI_i qS qS_i cB cB_i ib qF l0 lc l1 l2 oS lV nJ jo pH Br Eb)
noncomputable def YM:List Nat:=[3,0,2,4,182,181,76,75,83,82,121,120,146,145,179,178,48,53,47,52,69,187,188,195,194,196,197,204,203,205,206,213,212,231,230,277,276,284,283,291,290,303,302,315,314,339,338,357,356,362,361,369,368,374,373,379,378,384,383,389,388,394,393,399,398,406,405,411,410]
noncomputable def KF (A:JA->JR)(f:Nat->DE)(q:Pos)(P:Params):Frag:=YM.filterMap λa=>((T4 A f q P).get a).map λo=>(a,o)
noncomputable def yQ (f:Mine.Fn):Obj:=⟨.type "function",none,.func f.fd,#[]⟩
noncomputable def jG:Mine.Fn:=Mine.lU 76 (Mine.fdOf (Mine.yj 0) "Headers.__init__" (.ref 69) .none Mine.PN 289 75) [] [] [] []
noncomputable def iW:Mine.Fn:=Mine.lU 83 (Mine.fdOf (Mine.yj 1) "Headers._convert_string_type" .none .none Mine.PN 289 82) [] [] [] []
noncomputable def gb:Mine.Fn:=Mine.lU 179 (Mine.fdOf (Mine.yj 16) "Headers.add_header" .none .none Mine.PN 289 178) [] [] [] []
noncomputable def fns:List Mine.Fn:=jG::iW::gb::Mine.m9.map (·.2)
noncomputable def C0:Addr:=182
noncomputable def Q5:List Str:=["__getattribute__","__getattr__","__init__","__setattr__","get_all","items","add_header","_convert_string_type","_headers"].map Str.ofString
noncomputable def Jw:List (Option (Option Value)):=[some (some (.builtin "object.__getattribute__")),some none,some (some (.ref 76)),some (some (.builtin "object.__setattr__")),some (some (.ref 121)),some (some (.ref 146)),some (some (.ref 179)),some (some (.ref 83)),some none]
noncomputable def Ie (K:Frag):Bool:=keepIn K (.ref 182)&&makesIn K 182&&plainOver K 182&&hasDictIn K 182&& !(clsIn K 182).all (λa=>a.mro.isEmpty)
noncomputable def Q8 (K:Frag)(c P:Addr):Bool:=oS false (K.lookup c) λo=>vT false o.cls λt=>aF false o.data λvs=>ib false (t== "code")<|ib false (vs[11]? ==some (.ref P))<|
 vS false (vs.getD 18 .none) λZ Z=>vI false (vs.getD 7 .none) λZ Z=>vB false (vs.getD 9 .none) λZ=>vI false (vs.getD 10 .none) λZ Z=>true
noncomputable def Ib (K:Frag)(g:Mine.Fn):Bool:=match g.fd.code with
 |.ref c=>(K.lookup c).any λo=>o.cls== .type "code"
 |_=>false
noncomputable def mz (K:Frag)(a:Addr)(x:Str):Option (Option Value):=(K.lookup a).bind λo=>lookIn x o
noncomputable def nsOk (K:Frag)(a:Addr):Bool:=match K.lookup a with
 |some ⟨_,_,.dict es _,_⟩=>es.toList.all λe=>match e.key with
  |.str _ _=>true
  |_=>false
 |_=>false
noncomputable def HF:List Str:=(["_name_disallowed_re","_value_disallowed_re","Headers","__builtins__","b1_set","b3_exceptions","c6_set","c7_set","c8_set","c9_set"]++["bisect_right","insort_left","bisect_left","in_table_b1","map_table_b3","in_table_c11",
 "in_table_c4","in_table_c6","in_table_c7","in_table_c8","in_table_c9","_law_spelled","_law_operator","_law_read","_law_laid","_law_led","_law_shelved","_law_halved","_law_tried","_law_run","law"]).map Str.ofString
noncomputable def Rc:List (Option (Option Value)):=[48,53,182,4,221,232,293,305,329,347,195,204,213,231,277,284,291,303,315,339,357,362,369,374,379,384,389,394,399,406,411].map λ(a:Nat)=>some (some (.ref a))
noncomputable def Z3 (K:Frag):=(Q5.map (findIn K (.ref C0)),[121,146,179,83,76].map (λ(a:Nat)=>typeIn K (.ref a)),Ie K,takerIn K 182 (Str.ofString "_headers"),fns.map (λg=>codeIn K g.fd.code g.fd.qualname&&Ib K g),Q8 K 388 386&&Q8 K 393 391)
noncomputable def Z2 (K:Frag):=(HF.map (mz K 3),Mine.ie.map (λp=>(mz K 3 p.1,mz K 0 p.1)),nsOk K 3&&nsOk K 0&&nsOk K 2&&nsOk K 188&&nsOk K 197&&nsOk K 206,[188,197,206].map (λa=>mz K a (Str.ofString "key")),mz K 2 (Str.ofString "sys.recursionlimit"),
 [69,187,196,205,4].map (λ(a:Nat)=>K.lookup a))
noncomputable def jC (vs:Array Value):Obj:=⟨.type "tuple",none,.seq vs,#[]⟩
noncomputable def vW (j:JA):=(Hu lst lit Yi Ui j.Γ j.T j.n).map λx=>(x.1,x.2.1,x.2.2.ns)
noncomputable def Z1 (A:JA->JR)(f:Nat->DE)(q:Pos)(P:Params):=((logOf (r1 A P)).map (·.ns),(logOf (r2 A f q P)).map (·.ns),(logOf (r1 A P)).map vW,(logOf (r2 A f q P)).map vW,[221,347,329,305,293,232,386,391].map (T4 A f q P).get)
noncomputable def qy (P:Params)(t:Nat):Obj:=⟨.type "dict",none,.dict #[⟨PyData.keyHash P (Str.ofString "key"),.str (Str.ofString "key") t,.none⟩] 1,#[]⟩
noncomputable def rawL (l:List Int):Array Value:=(l.map λi=>rawInt i).toArray
noncomputable def o47:Obj:=jC (rawL [14,10,4,1,1,22,0,31,16,127,0,13,7,22,0,31,16,127,0,1])
noncomputable def o52:Obj:=jC (rawL [14,14,4,1,1,9,4294966783,0,0,2147483648,0,0,0,0,0,13,11,9,4294966783,0,0,2147483648,0,0,0,0,0,1])
noncomputable def o48:Obj:=⟨.type "re.Pattern",none,.fields #[.str ⟨#[91,92,120,48,48,45,92,120,49,70,92,120,55,70,93]⟩ 326,.int 32 349,rawInt 0,.none,.none,.ref 47,rawInt 0],#[]⟩
noncomputable def o53:Obj:=⟨.type "re.Pattern",none,.fields #[.str ⟨#[91,92,120,48,48,45,92,120,48,56,92,120,48,65,45,92,120,49,70,92,120,55,70,93]⟩ 352,.int 32 383,rawInt 0,.none,.none,.ref 52,rawInt 0],#[]⟩
noncomputable def KR:Frag:=[(47,o47),(48,o48),(52,o52),(53,o53)]
noncomputable def Z0 (K:Frag):=([188,197,206].map (λ(a:Nat)=>K.lookup a),[47,48,52,53].map (λ(a:Nat)=>K.lookup a),mz K 3 (Str.ofString "type"),mz K 0 (Str.ofString "type"))
theorem p5 {α β i g ε:Type}{a f:α}{b b':β}{c c':i}{d d':g}{e e':ε}(h:(a,b,c,d,e)=(f,b',c',d',e')):a=f/\b=b'/\c=c'/\d=d'/\e=e':=by simpa only[Prod.mk.injEq]using h
noncomputable def wz (b:Bool)(A:JA->JR)(f:Nat->DE)(q:Pos)(P:Params):Prop:=(fns.map (λg=>(KF A f q (Pf b P)).lookup g.addr),Z3 (KF A f q (Pf b P)),Z2 (KF A f q (Pf b P)),Z0 (KF A f q (Pf b P)),Z1 A f q (Pf b P))=
 (fns.map (λg=>some (yQ g)),
 (Jw,[121,146,179,83,76].map (λ(a:Nat)=>some (.type "function")),true,some none,fns.map (λZ=>true),true),
 (Rc,Mine.ie.map (λp=>(some none,some (some p.2))),true,[188,197,206].map (λZ=>some (some .none)),some none,
 [some (jC #[.none]),some (jC #[.int 0 554,.none]),some (jC #[.int 0 568,.none]),some (jC #[.int 0 581,.none]),some ⟨.type "module",some 0,.plain,#[]⟩]),
 ([some (qy (Pf b P) 555),some (qy (Pf b P) 569),some (qy (Pf b P) 582)],[some o47,some o48,some o52,some o53],some none,some (some (.type "type"))),
 ([Mine.pP],[Mine.tY,Mine.pO,Mine.tZ,Mine.t6],(logOf (r1 A (Pf b P))).map (λj=>some (j.S,j.I,j.ns)),(logOf (r2 A f q (Pf b P))).map (λj=>some (j.S,j.I,j.ns)),
 (logOf (r1 A (Pf b P))).map (λj=>some (jn (A j)))++(logOf (r2 A f q (Pf b P))).map (λj=>some (jn (A j)))++[some (oh (f 232)),some ⟨.none,none,.fields #[],#[]⟩,some ⟨.none,none,.fields #[],#[]⟩]))
theorem allevF (A:JA->JR)(f:Nat->DE)(q:Pos)(P:Params):wz false A f q P:=by delta wz;rfl'
theorem allevT (A:JA->JR)(f:Nat->DE)(q:Pos)(P:Params):wz true A f q P:=by delta wz;rfl'
theorem zz (b:Bool)(A:JA->JR)(f:Nat->DE)(q:Pos)(P:Params):wz b A f q P:=
 Bool.casesOn (motive:=λb=>wz b A f q P) b (allevF A f q P) (allevT A f q P)
theorem fns_ev (b:Bool)(A:JA->JR)(f:Nat->DE)(q:Pos)(P:Params):fns.map (λg=>(KF A f q (Pf b P)).lookup g.addr)=fns.map (λg=>some (yQ g)):=(p5 (zz b A f q P)).1
theorem cls_ev (b:Bool)(A:JA->JR)(f:Nat->DE)(q:Pos)(P:Params):Z3 (KF A f q (Pf b P))=(Jw,[121,146,179,83,76].map (λ(a:Nat)=>some (.type "function")),true,some none,fns.map (λZ=>true),true):=(p5 (zz b A f q P)).2.1
theorem ns_ev (b:Bool)(A:JA->JR)(f:Nat->DE)(q:Pos)(P:Params):Z2 (KF A f q (Pf b P))=(Rc,Mine.ie.map (λp=>(some none,some (some p.2))),true,[188,197,206].map (λZ=>some (some .none)),some none,
 [some (jC #[.none]),some (jC #[.int 0 554,.none]),some (jC #[.int 0 568,.none]),some (jC #[.int 0 581,.none]),some ⟨.type "module",some 0,.plain,#[]⟩]):=(p5 (zz b A f q P)).2.2.1
theorem kw_ev (b:Bool)(A:JA->JR)(f:Nat->DE)(q:Pos)(P:Params):Z0 (KF A f q (Pf b P))=([some (qy (Pf b P) 555),some (qy (Pf b P) 569),some (qy (Pf b P) 582)],[some o47,some o48,some o52,some o53],some none,some (some (.type "type"))):=(p5 (zz b A f q P)).2.2.2.1
theorem Vd (b:Bool)(A:JA->JR)(f:Nat->DE)(q:Pos)(P:Params):Z1 A f q (Pf b P)=([Mine.pP],[Mine.tY,Mine.pO,Mine.tZ,Mine.t6],(logOf (r1 A (Pf b P))).map (λj=>some (j.S,j.I,j.ns)),(logOf (r2 A f q (Pf b P))).map (λj=>some (j.S,j.I,j.ns)),
 (logOf (r1 A (Pf b P))).map (λj=>some (jn (A j)))++(logOf (r2 A f q (Pf b P))).map (λj=>some (jn (A j)))++[some (oh (f 232)),some ⟨.none,none,.fields #[],#[]⟩,some ⟨.none,none,.fields #[],#[]⟩]):=(p5 (zz b A f q P)).2.2.2.2
section
variable (w:World)(f:Nat->DE)(q:Pos)
noncomputable abbrev TW:BT:=T4 (eU pT w) f q w.params
noncomputable abbrev KW:Frag:=KF (eU pT w) f q w.params
structure SH (h:Heap):Prop where
 obj:∀a o,a<412->a∉Tb->(TW w f q).get a=some o->h.get? a=some o
 size:412<=h.objs.size
 tab:∀P∈Tb,∃ps,TabAt h P ps
theorem vV {g:Nat->Option Obj}:∀{l:List Nat}{a:Nat}{o:Obj},(l.filterMap λa=>(g a).map λo=>(a,o)).lookup a=some o->a∈l/\g a=some o
 |[],a,o,h=>by cases h
 |b::l,a,o,h=>by
  rw[List.filterMap_cons]at h;cases e:g b with
  |none=>
   rw[e]at h;have:=vV (l:=l) h;exact⟨.tail _ this.1,this.2⟩
  |some c=>
   rw[e]at h;have h:((b,c)::l.filterMap λa=>(g a).map λo=>(a,o)).lookup a=some o:=h;rw[List.lookup_cons]at h;by_cases q:a==b
   ·rw[q]at h
    have h:some c=some o:=h;cases h;rw[dz.mp q];exact⟨.head _,e⟩
   ·rw[Bool.not_eq_true]at q
    rw[q]at h;have:=vV (l:=l) h;exact⟨.tail _ this.1,this.2⟩
theorem Rh:(YM.all λa=>decide (a<412)&& !Tb.contains a)=true:=by decide
variable {w f q}
theorem KW_get {a:Addr}{o:Obj}(h:(KW w f q).lookup a=some o):a<412/\a∉Tb/\(TW w f q).get a=some o:=by
 refine yA (λc b=>?_) (vV h);have:=aU.mp Rh a c;rw[bJ]at this;exact⟨bw this.1,λq=>by have t:=this.2;rw[b8,List.contains_eq_mem]at t;exact absurd q (of_decide_eq_false t),b⟩
theorem SH.k {h:Heap}(S:SH w f q h):(KW w f q).In h:=λa o e=>by refine uA (λd c b=>?_) (KW_get e);exact S.obj a o d c b
theorem wA:jb (TW w f q) 412=true:=by have Fr:=Eu (w.params.followText "special-get-raises") (eU pT w) f q w.params;rw[mU]at Fr;exact bD (λx=>x.2.1) Fr
theorem tW:(logOf (r1 (eU pT w) w.params)).map (·.ns)=[Mine.pP]/\(logOf (r2 (eU pT w) f q w.params)).map (·.ns)=[Mine.tY,Mine.pO,Mine.tZ,Mine.t6]/\
 (logOf (r1 (eU pT w) w.params)).map vW=(logOf (r1 (eU pT w) w.params)).map (λj=>some (j.S,j.I,j.ns))/\(logOf (r2 (eU pT w) f q w.params)).map vW=(logOf (r2 (eU pT w) f q w.params)).map (λj=>some (j.S,j.I,j.ns))/\
 [221,347,329,305,293,232,386,391].map (TW w f q).get=(logOf (r1 (eU pT w) w.params)).map (λj=>some (jn (eU pT w j)))++(logOf (r2 (eU pT w) f q w.params)).map (λj=>some (jn (eU pT w j)))++[some (oh (f 232)),some ⟨.none,none,.fields #[],#[]⟩,some ⟨.none,none,.fields #[],#[]⟩]:=by
 have ev:=Vd (w.params.followText "special-get-raises") (eU pT w) f q w.params;rw[mU]at ev;unfold Z1 at ev;refine qM (λe d c b a=>?_) (p5 ev);exact⟨e,d,c,b,a⟩
theorem Qo {α:Type}:∀{l:List α},l.length=4->∃b c d e,l=[b,c,d,e]
 |[b,c,d,e],_=>⟨b,c,d,e,rfl⟩
theorem Ig {g:Nat->Option Obj}{F:JA->Option Obj}{L1 j:List JA}{z x y:Option Obj}(l1:L1.length=1)(l2:j.length=4)(h:[221,347,329,305,293,232,386,391].map g=L1.map F++j.map F++[z,x,y]):
 ∃a b c d e,L1=[a]/\j=[b,c,d,e]/\g 221=F a/\g 347=F b/\g 329=F c/\g 305=F d/\g 293=F e/\g 232=z/\g 386=x/\g 391=y:=by
 refine yE (λa i=>?_) (List.length_eq_one_iff.mp l1);subst i;refine xM (λb c d e i=>?_) (Qo l2);subst i;rw[aX,aX,aX,aX,aX,aX,aX,aX,List.map_nil]at h;have h:[g 221,g 347,g 329,g 305,g 293,g 232,g 386,g 391]=[F a,F b,F c,F d,F e,z,x,y]:=h;injection h with u h;injection h with t h;injection h with s h;injection h with p h;injection h with o h;injection h with m h;injection h with l h;injection h with k h;exact⟨a,b,c,d,e,rfl,rfl,u,t,s,p,o,m,l,k⟩
theorem SH.start {h:Heap}(k:∀b o,(S4 (eU pT w) f q w.params).heap.get? b=some o->h.get? b=some o):SH w f q h:=by
 have t:∀a o,a<412->(TW w f q).get a=some o->h.get? a=some o:=λa o l g=>by
  refine cW (λu j p=>?_) (ik (wA (w:=w) (f:=f) (q:=q)) l);have:u=o:=by rw[g]at j;exact(aH j).symm
  subst this;exact k a u ((G9 _ _ _ _ l g).trans p)
 refine qM (λC B F E A=>?_) (tW (w:=w) (f:=f) (q:=q));have l1:(logOf (r1 (eU pT w) w.params)).length=1:=by
  have:=bD List.length C
  rwa [ak]at this
 have l2:(logOf (r2 (eU pT w) f q w.params)).length=4:=by
  have:=bD List.length B
  rwa [ak]at this
 refine⟨λa o l Z g=>t a o l g,?_,λP v=>?_⟩
 ·refine cW (λo g Z=>?_) (ik (wA (w:=w) (f:=f) (q:=q)) (show 411<412 by decide))
  have:=aZ (t 411 o (by decide) g);exact this
 ·have i:(TW w f q).get P=some ⟨.none,none,.fields #[],#[]⟩:=by
   have s:P=386\/P=391:=by simpa[Tb]using v
   obtain⟨a,b,c,d,e,_,_,_,_,_,_,_,_,z,y⟩:=Ig l1 l2 A;rcases s with rfl|rfl
   ·exact z
   ·exact y
  have m:P<412:=Mine.kj P v;exact⟨#[],t P _ m i,trivial,λx G e=>by cases e⟩
end
theorem Vw (ns:List Int):(List.range ns.length).map (λi=>ns.getD i 0)=ns:=by
 apply List.ext_getElem
 ·rw[ak,List.length_range]
 ·intro i b a
  rw[List.getElem_map,List.getElem_range,List.getD_eq_getElem?_getD,aR a];rfl
theorem XK (xs:List Int)(k:Int):xs.any (· ==k)=decide (k∈xs):=by
 by_cases q:k∈xs
 ·rw[bW q,List.any_eq_true]
  exact⟨k,q,dF k⟩
 ·rw[bU q,List.any_eq_false]
  intro x a e;exact q (dz.mp e▸a)
section
variable {w:World}{f:Nat->DE}{q:Pos}{h:Heap}{bad:List Addr}
theorem uT {j:JA}{xs:List Int}{a:Addr}(S:SH w f q h)(l:a<412)(hb:∀b∈bad,b∈Tb\/412<=b)(ht:a∉Tb)(s:(TW w f q).get a=some (jn (eU pT w j)))(g:j.ns=xs)(i:vW j=some (j.S,j.I,j.ns))(hl:xs.length<4096):RD pT w bad h (.ref a) (.iset xs):=by
 have o:j.ok:=by unfold vW at i;obtain⟨⟨x,y,p⟩,v,d⟩:=dq.mp i;injection d with d c;injection c with c u;exact⟨p,by rw[v,<-d,<-c],u⟩
 have e:=(yc pT w j o).1;unfold uI at e;refine .iset (λm=>?_) (S.obj _ _ l ht s) e (cU (firstMet_length_le _ _) (by rw[g];exact hl)) (λk=>?_)
 ·refine aC (hb a m) (λt=>?_) (λt=>?_)
  ·exact ht t
  ·exact absurd l (bc.mpr t)
 ·rw[firstMet_any,Vw,g]
  exact XK xs k
noncomputable def Ys:Option (List Int×List D):=(Ql (lK nC) (lJ nC)).map λl=>(l.map (·.1),l.map λp=>.str p.2)
theorem Qm:Ys=some (Mine.dictKeys (Mine.jP 15),Mine.rn (Mine.jP 15)):=⋯
theorem Jm:Mine.dictKeys (Mine.jP 15)=qt.map (·.1)/\Mine.rn (Mine.jP 15)=qt.map λp=>.str p.2:=by have e:=Qm;unfold Ys at e;rw[yp]at e;injection e with e;injection e with b a;exact⟨b.symm,a.symm⟩
theorem Jl:∀{kvs:List (Int×Value)}{l:List (Int×Str)},oW kvs l->fB pT w bad h (kvs.map (·.2)) (l.map λp=>.str p.2)
 |[],[],_=>.nil
 |(k,v)::r,(i,x)::d,e=>by revert e;refine uA λZ a b=>yE (λt c=>?_) a;subst c;exact .cons (.str x t) (Jl b)
 |[],_::_,e=>by cases e
 |_::_,[],e=>by cases e
theorem M9:∀kvs:List (Int×Value),(kvs.map (·.1)).zip (kvs.map (·.2))=kvs
 |[]=>rfl
 |(a,b)::r=>by rw[aX,aX,cI,M9 r]
theorem b3_rd (S:SH w f q h)(hd:kZ w (f 232))(hb:∀b∈bad,b∈Tb\/412<=b)(g:(TW w f q).get 232=some (oh (f 232))):RD pT w bad h (.ref 232) (.idict (Mine.dictKeys (Mine.jP 15)) (Mine.rn (Mine.jP 15))):=by
 revert hd;refine xN λa hl hk d e=>?_;have i:Mine.dictKeys (Mine.jP 15)=a.map (·.1):=by rw[Jm.1,hl.keys]
 rw[i,Jm.2];have c:(232:Addr)∉Tb:=by decide
 refine .idict (vs:=a.map (·.2)) (λm=>?_) (by decide) (by rw[ak,ak]) ?_ (Jl hl)
 ·refine aC (hb 232 m) (λt=>?_) (λt=>?_)
  ·exact c t
  ·exact absurd t (by decide)
 ·rw[M9]
  exact⟨_,_,_,S.obj 232 _ (by decide) c g,⟨rfl,rfl,rfl⟩,rfl,hk,d,e⟩
theorem Je {α β:Type}{g:α->β}{a:α}{b:β}(h:[a].map g=[b]):g a=b:=by injection h
theorem Ex {α β:Type}{g:α->β}{a b c d:α}{x y z u:β}(h:[a,b,c,d].map g=[x,y,z,u]):g a=x/\g b=y/\g c=z/\g d=u:=by rw[aX,aX,aX,aX,List.map_nil]at h;injection h with k h;injection h with j h;injection h with i h;injection h with e h;exact⟨k,j,i,e⟩
theorem U5 (S:SH w f q h)(hd:kZ w (f 232))(hb:∀b∈bad,b∈Tb\/412<=b):RD pT w bad h (.ref 221) (.iset Mine.pP)/\RD pT w bad h (.ref 347) (.iset Mine.tY)/\RD pT w bad h (.ref 329) (.iset Mine.pO)/\RD pT w bad h (.ref 305) (.iset Mine.tZ)/\RD pT w bad h (.ref 293) (.iset Mine.t6)/\
 RD pT w bad h (.ref 232) (.idict (Mine.dictKeys (Mine.jP 15)) (Mine.rn (Mine.jP 15))):=by
 refine qM (λi g k j A=>?_) (tW (w:=w) (f:=f) (q:=q));have l1:(logOf (r1 (eU pT w) w.params)).length=1:=by
  have:=bD List.length i
  rwa [ak]at this
 have l2:(logOf (r2 (eU pT w) f q w.params)).length=4:=by
  have:=bD List.length g
  rwa [ak]at this
 obtain⟨a,b,c,d,e,m,l,z,y,x,g4,v,u,_,_⟩:=Ig l1 l2 A;rw[m]at i k;rw[l]at g j;refine sY (λt s p o=>?_) (Ex g);refine sY (λF E C B=>?_) (Ex j);exact⟨uT S (by decide) hb (by decide) z (Je i) (Je k) (by decide),uT S (by decide) hb (by decide) y t F (by decide),uT S (by decide) hb (by decide) x s E (by decide),uT S (by decide) hb (by decide) g4 p C (by decide),uT S (by decide) hb (by decide) v o B (by decide),b3_rd S hd hb u⟩
end
section
variable {w:World}{f:Nat->DE}{q:Pos}
theorem SH.low {h h':Heap}(S:SH w f q h)(k:∀b o,(b<412\/Ue o)->h.get? b=some o->h'.get? b=some o):SH w f q h':=by
 refine⟨λa o j u x=>k a o (.inl j) (S.obj a o j u x),?_,λP l=>?_⟩
 ·refine cW (λo v Z=>?_) (ik (wA (w:=w) (f:=f) (q:=q)) (show 411<412 by decide))
  exact aZ (k 411 o (.inl (by decide)) (S.obj 411 o (by decide) (by decide) v))
 ·refine nF (λs A z y=>?_) (S.tab P l)
  refine⟨s,k P _ (.inl (Mine.kj P l)) A,z,λd F e=>?_⟩;refine rK (λc i g t E C p m B=>?_) (y d F e);exact⟨c,i,g,t,E,k c i (.inr ⟨p,g,m⟩) C,p,m,B⟩
theorem SH.grow {h h':Heap}{P:Addr}{u:Array Value}(S:SH w f q h)(m:P∈Tb)(k:∀b o,b≠P->h.get? b=some o->h'.get? b=some o)(t:TabAt h' P u):SH w f q h':=by
 refine nF (λz A Q O=>?_) (S.tab P m);refine⟨λa o F y E=>k a o (λe=>y (e▸m)) (S.obj a o F y E),?_,λs j=>?_⟩
 ·refine cW (λo C Z=>?_) (ik (wA (w:=w) (f:=f) (q:=q)) (show 411<412 by decide))
  have x:(411:Addr)∉Tb:=by decide
  exact aZ (k 411 o (λe=>x (e▸m)) (S.obj 411 o (by decide) x C))
 ·by_cases e:s=P
  ·subst e
   exact⟨u,t⟩
  ·refine nF (λg I H G=>?_) (S.tab s j)
   refine⟨g,k s _ e I,H,λi N J=>?_⟩;refine rK (λc v B tk M d p L K=>?_) (G i N J);refine⟨c,v,B,tk,M,k c v (λl=>?_) d,p,L,K⟩;rw[l,A]at d;injection d with d;rw[<-d]at p;cases p
theorem SH.move {h₁ h:Heap}(b:SH w f q h₁)(S:SH w f q h){a:Addr}{o:Obj}(d:a<412)(ht:a∉Tb)(e:h₁.get? a=some o):h.get? a=some o:=by refine cW (λg c Z=>?_) (ik (wA (w:=w) (f:=f) (q:=q)) d);have:=b.obj a g d ht c;rw[this]at e;injection e with e;rw[<-e];exact S.obj a g d ht c
theorem SH.ns {h₁ h:Heap}(b:SH w f q h₁)(S:SH w f q h){a:Addr}{m:Str->Option Value}(d:a<412)(ht:a∉Tb)(n:h₁.Ns a m):h.Ns a m:=by revert n;refine qK λo e g c r=>?_;exact⟨o,e,g,b.move S d ht c,r⟩
theorem ns_see {h:Heap}{a:Addr}{m:Str->Option Value}{o:Obj}{x:Str}{r:Option Value}(n:h.Ns a m)(d:h.get? a=some o)(e:lookIn x o=some r):m x=r:=by
 revert n;refine rM λj k l b i Z g=>?_;rw[d]at b;injection b with b;subst b;rw[<-g x];unfold lookIn at e;rw[i]at e;dsimp only at e;unfold nsFind findBy;rw[<-Array.find?_toList];split at e
 ·rename_i p c
  rw[c];injection e
 ·rename_i c
  rw[c];split at e
  ·cases e
  ·injection e
theorem xW {h:Heap}(S:SH w f q h){a:Addr}{m:Str->Option Value}(n:h.Ns a m){x:Str}{r:Option Value}(e:mz (KW w f q) a x=some r):m x=r:=by unfold mz at e;refine cW (λo c b=>?_) (Option.bind_eq_some_iff.mp e);exact ns_see n (S.k a o c) b
theorem p6 {α β k j ε i:Type}{a g:α}{b b':β}{c c':k}{d d':j}{e e':ε}{z z':i}(h:(a,b,c,d,e,z)=(g,b',c',d',e',z')):a=g/\b=b'/\c=c'/\d=d'/\e=e'/\z=z':=by simpa only[Prod.mk.injEq]using h
theorem qR:HF.map (mz (KW w f q) 3)=Rc/\Mine.ie.map (λp=>(mz (KW w f q) 3 p.1,mz (KW w f q) 0 p.1))=Mine.ie.map (λp=>(some none,some (some p.2)))/\
 (nsOk (KW w f q) 3&&nsOk (KW w f q) 0&&nsOk (KW w f q) 2&&nsOk (KW w f q) 188&&nsOk (KW w f q) 197&&nsOk (KW w f q) 206)=true/\[188,197,206].map (λa=>mz (KW w f q) a (Str.ofString "key"))=[188,197,206].map (λZ=>some (some Value.none))/\mz (KW w f q) 2 (Str.ofString "sys.recursionlimit")=some none/\
 [69,187,196,205,4].map (λ(a:Nat)=>(KW w f q).lookup a)=[some (jC #[.none]),some (jC #[.int 0 554,.none]),some (jC #[.int 0 568,.none]),some (jC #[.int 0 581,.none]),some ⟨.type "module",some 0,.plain,#[]⟩]:=by
 have ev:=ns_ev (w.params.followText "special-get-raises") (eU pT w) f q w.params;rw[mU]at ev;unfold Z2 at ev;exact p6 ev
theorem lD:Q5.map (findIn (KW w f q) (.ref C0))=Jw/\[121,146,179,83,76].map (λ(a:Nat)=>typeIn (KW w f q) (.ref a))=[121,146,179,83,76].map (λ(a:Nat)=>some (.type "function"))/\Ie (KW w f q)=true/\takerIn (KW w f q) 182 (Str.ofString "_headers")=some none/\
 fns.map (λg=>codeIn (KW w f q) g.fd.code g.fd.qualname&&Ib (KW w f q) g)=fns.map (λZ=>true)/\(Q8 (KW w f q) 388 386&&Q8 (KW w f q) 393 391)=true:=by
 have ev:=cls_ev (w.params.followText "special-get-raises") (eU pT w) f q w.params;rw[mU]at ev;unfold Z3 at ev;exact p6 ev
theorem LC:fns.map (λg=>(KW w f q).lookup g.addr)=fns.map (λg=>some (yQ g)):=by
 have ev:=fns_ev (w.params.followText "special-get-raises") (eU pT w) f q w.params
 rwa [mU]at ev
theorem mH {α β:Type}{g c:α->β}:∀{l:List α},l.map g=l.map c->∀{a:α},a∈l->g a=c a
 |b::l,h,a,hm=>by
  rw[aX,aX]at h;injection h with e d;rcases au.mp hm with rfl|hm
  ·exact e
  ·exact mH d hm
 |[],_,a,hm=>by cases hm
theorem jM {α β:Type}{g:α->β}{l:List α}{c:List β}(h:l.map g=c){i:Nat}{a:α}{b:β}(d:l[i]? =some a)(hb:c[i]? =some b):g a=b:=by rw[<-h,bQ,d]at hb;injection hb
theorem Ce {g:Mine.Fn}(a:g∈fns):(KW w f q).lookup g.addr=some (yQ g):=mH LC a
theorem JF {g:Mine.Fn}(a:g∈fns):codeIn (KW w f q) g.fd.code g.fd.qualname=true/\Ib (KW w f q) g=true:=by have:=mH (lD (w:=w) (f:=f) (q:=q)).2.2.2.2.1 a;exact az.mp this
end
noncomputable def gAddrs:List Addr:=[48,53,182,4,221,232,293,305,329,347,195,204,213,231,277,284,291,303,315,339,357,362,369,374,379,384,389,394,399,406,411]
noncomputable def Rf:List (Str×Addr):=HF.zip gAddrs
theorem Jj {α β d:Type}{g:α->d}{k:β->d}:∀{l:List α}{c:List β},l.map g=c.map k->∀{a:α}{b:β},(a,b)∈l.zip c->g a=k b
 |[],_,_,a,b,h=>by rw[List.zip_nil_left]at h;nomatch h
 |x::l,[],e,_,_,_=>by cases e
 |x::l,y::c,e,a,b,h=>by
  rw[aX,aX]at e;injection e with m j;rw[cI]at h;refine aC (au.mp h) (λh=>?_) (λh=>?_)
  ·injection h with i f
   rw[i,f];exact m
  ·exact Jj j h
noncomputable def fA (x:Str):Option Addr:=if x=Str.ofString "Headers" then some 182 else if x=Str.ofString "Headers._convert_string_type" then some 83 else if x=Str.ofString "Headers.add_header" then some 179 else(qH x).map (·.addr)
structure Base (w:World) where
 f:Nat->DE
 q:Pos
 hd:kZ w (f 232)
 h₁:Heap
 S₁:SH w f q h₁
 mg:Str->Option Value
 mb:Str->Option Value
 g:h₁.Ns mainGlobals mg
 b:h₁.Ns builtinsNs mb
 l:h₁.NoLimit
section
variable {w:World}(B:Base w)
theorem Base.at {x:Str}{a:Addr}(m:(x,a)∈Rf):B.mg x=some (.ref a):=by have e:=(qR (w:=w) (f:=B.f) (q:=B.q)).1;exact xW B.S₁ B.g (Jj (k:=λ(a:Addr)=>some (some (Value.ref a))) e m)
theorem Base.bi {p:Str×Value}(m:p∈Mine.ie):B.mg p.1=none/\B.mb p.1=some p.2:=by have e:=mH (qR (w:=w) (f:=B.f) (q:=B.q)).2.1 m;injection e with b a;exact⟨xW B.S₁ B.g b,xW B.S₁ B.b a⟩
theorem Base.mod:B.mg "__builtins__"=some (.ref 4):=B.at (by decide+kernel)
noncomputable def Base.W:Wd pT w gD where
 S:=SH w B.f B.q
 low:=λS k=>S.low k
 size:=λS=>S.size
 nolim:=λS=>by refine cW (λl o h2=>?_) B.l;exact⟨l,B.S₁.ns S (by decide) (by decide) o,h2⟩
 tab:=λS=>S.tab
 grow:=λS j k t=>S.grow j k t
 mg:=B.mg
 mb:=B.mb
 g:=λS=>B.S₁.ns S (by decide) (by decide) B.g
 b:=λS=>B.S₁.ns S (by decide) (by decide) B.b
 bat:=λ{h P} S j=>by have e:=(qR (w:=w) (f:=B.f) (q:=B.q)).2.2.2.2.2;have m:(KW w B.f B.q).lookup 4=some ⟨.type "module",some 0,.plain,#[]⟩:=jM (i:=4) e rfl rfl;exact⟨4,_,B.mod,by decide,by decide,λx=>by subst x;revert j;decide,S.k 4 _ m,rfl,rfl,rfl⟩
 stat:=λ{x d} e=>by
  have e:gTab.lookup x=some d:=e;have c:=mem_of_lookup e;unfold gTab at c;have a:=λ{h:Heap}{bad:List Addr}(S:SH w B.f B.q h)(hb:∀b∈bad,b∈Tb\/412<=b)=>U5 S B.hd hb;simp only[au,bh,cA,Prod.mk.injEq]at c;rcases c with⟨rfl,rfl⟩|⟨rfl,rfl⟩|⟨rfl,rfl⟩|⟨rfl,rfl⟩|⟨rfl,rfl⟩|⟨rfl,rfl⟩
  ·exact⟨.ref 232,B.at (by decide+kernel),λS hb=>(a S hb).2.2.2.2.2⟩
  ·exact⟨.ref 221,B.at (by decide+kernel),λS hb=>(a S hb).1⟩
  ·exact⟨.ref 293,B.at (by decide+kernel),λS hb=>(a S hb).2.2.2.2.1⟩
  ·exact⟨.ref 305,B.at (by decide+kernel),λS hb=>(a S hb).2.2.2.1⟩
  ·exact⟨.ref 329,B.at (by decide+kernel),λS hb=>(a S hb).2.2.1⟩
  ·exact⟨.ref 347,B.at (by decide+kernel),λS hb=>(a S hb).2.1⟩
end
theorem QD {K:Frag}{M:Model}{h:Heap}{a:Addr}(e:keepIn K (.ref a)=true)(b:(clsIn K a).isSome=true)(X:K.In h):Looks M h (keeperOf (.ref a)) .machine:=by
 unfold keepIn at e;dsimp only at e;split at e
 ·rename_i q
  unfold clsIn at b;rw[q]at b;cases b
 ·rename_i q
  exact(Looks.ld (part:=none) (X _ _ q)).andThen ((looks_specialIn X (dz.mp e)).andThen .now)
 ·cases e
section
variable {w:World}{f:Nat->DE}{q:Pos}
theorem hook {i:Nat}{x:Str}{r:Option (Option Value)}(a:Q5[i]? =some x)(b:Jw[i]? =some r):findIn (KW w f q) (.ref 182) x=r:=jM (lD (w:=w) (f:=f) (q:=q)).1 a b
theorem chk:keepIn (KW w f q) (.ref 182)=true/\makesIn (KW w f q) 182=true/\plainOver (KW w f q) 182=true/\(clsIn (KW w f q) 182).any (·.hasDict)=true/\(clsIn (KW w f q) 182).isSome=true:=by
 have e:=(lD (w:=w) (f:=f) (q:=q)).2.2.1;unfold Ie at e;simp only[bJ]at e;revert e;refine yA λj Z=>yA (λi d=>yA (λg c=>yA (λa b=>?_) g) i) j;refine⟨a,b,c,d,?_⟩;unfold hasDictIn at d;cases h:clsIn (KW w f q) 182 with
 |none=>rw[h]at d;exact absurd d nb
 |some k=>rfl
theorem JD {a:Addr}(h:a∈[121,146,179,83,76]):typeIn (KW w f q) (.ref a)=some (.type "function"):=mH (lD (w:=w) (f:=f) (q:=q)).2.1 h
theorem YG {h:Heap}{bad:List Addr}{a l:Addr}(I:Mine.InstAt bad h a l):∃d od,PySem.W.InstAt h a (instObj 182 d) 182 (some od)/\lookIn (Str.ofString "_headers") od=some (some (.ref l))/\(∀x∈gO,lookIn x od=some none)/\h.get? d=some od/\d∉bad:=by revert I;refine Df λZ d od c i b g e=>?_;exact⟨d,od,⟨i,rfl,rfl,b⟩,g,e,b,c⟩
theorem Rp {od:Obj}{l:Addr}(h:lookIn (Str.ofString "_headers") od=some (some (.ref l))):findObj (KW w f q) 182 (some od) (Str.ofString "_headers")=some (.value (.ref l)):=by
 refine qM (λZ Z Z a b=>?_) (chk (w:=w) (f:=f) (q:=q));unfold findObj;cases c:clsIn (KW w f q) 182 with
 |none=>rw[c]at b;exact absurd b nb
 |some d=>
  rw[c]at a;have a:d.hasDict=true:=a;rw[Option.bind_some,hook (i:=8) rfl rfl,Option.bind_some];dsimp only;rw[Option.bind_some,Option.bind_some];dsimp only;unfold PySem.W.ownOf;rw[ao a];dsimp only;rw[h];rfl
theorem LK:(m9.all λp=>!gN p.1||Rf.contains (p.1,p.2.addr))=true:=by decide+kernel
variable (B:Base w)
theorem fA_fn {x:Str}{a:Addr}(h:fA x=some a)(e:x≠Str.ofString "Headers"):∃g∈fns,g.addr=a:=by
 unfold fA at h;rw[aq e]at h;by_cases c:x=Str.ofString "Headers._convert_string_type"
 ·rw[ao c]at h
  injection h with h;exact⟨iW,.tail _ (.head _),h⟩
 ·rw[aq c]at h
  by_cases b:x=Str.ofString "Headers.add_header"
  ·rw[ao b]at h
   injection h with h;exact⟨gb,.tail _ (.tail _ (.head _)),h⟩
  ·rw[aq b]at h
   refine cW (λg i d=>?_) (dq.mp h);subst d;have:=mem_of_lookup (show m9.lookup x=some g from i);exact⟨g,.tail _ (.tail _ (.tail _ (aG.mpr ⟨_,this,rfl⟩))),rfl⟩
theorem VK {m:Str}{fa:Addr}(b:m∈gO)(a:fA (Str.ofString "Headers."++m)=some fa):fa∈[121,146,179,83,76]/\findIn (KW w f q) (.ref 182) m=some (some (.ref fa)):=by
 unfold gO at b;simp only[au,bh,cA]at b;rcases b with rfl|rfl|rfl|rfl
 ·have e:fA (Str.ofString "Headers."++Str.ofString "get_all")=some 121:=by decide+kernel
  have:some fa=some 121:=a.symm.trans e;injection this with this;subst this;exact⟨by decide,hook (i:=4) rfl rfl⟩
 ·have e:fA (Str.ofString "Headers."++Str.ofString "items")=some 146:=by decide+kernel
  have:some fa=some 146:=a.symm.trans e;injection this with this;subst this;exact⟨by decide,hook (i:=5) rfl rfl⟩
 ·have e:fA (Str.ofString "Headers."++Str.ofString "add_header")=some 179:=by decide+kernel
  have:some fa=some 179:=a.symm.trans e;injection this with this;subst this;exact⟨by decide,hook (i:=6) rfl rfl⟩
 ·have e:fA (Str.ofString "Headers."++Str.ofString "_convert_string_type")=some 83:=by decide+kernel
  have:some fa=some 83:=a.symm.trans e;injection this with this;subst this;exact⟨by decide,hook (i:=7) rfl rfl⟩
theorem hk:Hk B.W fA where
 bi:=λp m=>B.bi m
 fn:=λx a h b=>by
  by_cases e:x=Str.ofString "Headers"
  ·subst e
   have:fA (Str.ofString "Headers")=some 182:=by decide+kernel
   rw[this]at h;injection h with h;subst h;exact B.at (by decide+kernel)
  ·unfold fA at h
   rw[aq e]at h;by_cases z:x=Str.ofString "Headers._convert_string_type"
   ·subst z
    exact absurd b (by decide+kernel)
   ·rw[aq z]at h
    by_cases y:x=Str.ofString "Headers.add_header"
    ·subst y
     exact absurd b (by decide+kernel)
    ·rw[aq y]at h
     refine cW (λg u t=>?_) (dq.mp h);subst t;have j:=mem_of_lookup (show m9.lookup x=some g from u);have c:=aU.mp LK _ j;rw[Bool.or_eq_true]at c;revert c;refine yO (λc=>?_) (λc=>?_)
     ·rw[b8]at c
      rw[c]at b;cases b
     ·exact B.at (dC.mp c)
 attr:=λ{A o s a l Q E v} S I k=>by refine gW (λd C J K Z Z Z=>?_) (YG I);exact get_value (SH.k S) J (hook (i:=0) rfl rfl) (Rp K) rfl (k _)
 meth:=λ{m T A o s a l Q E R} j G S I k=>by refine gW (λd C J Z H Z Z=>?_) (YG I);refine yA (λN L=>?_) (VK (w:=w) (f:=B.f) (q:=B.q) j G);exact method_fn (SH.k S) J (hook (i:=0) rfl rfl) (hook (i:=1) rfl rfl) L (JD N) (by unfold shadowIn;dsimp only;rw[H m j];rfl) k
 kp:=λa h M F S=>by
  have:fA (Str.ofString "Headers")=some 182:=by decide+kernel
  rw[this]at h;injection h with h;subst h;refine qM (λP Z Z Z O=>?_) (chk (w:=w) (f:=B.f) (q:=B.q));exact QD P O (SH.k S)
 fo:=λx a h b=>by refine cW (λg u t=>?_) (fA_fn h b);subst t;exact⟨yQ g,g.fd,rfl,λF S=>SH.k S _ _ (Ce u)⟩
end
theorem p4 {α β g f:Type}{a e:α}{b b':β}{c c':g}{d d':f}(h:(a,b,c,d)=(e,b',c',d')):a=e/\b=b'/\c=c'/\d=d':=by simpa only[Prod.mk.injEq]using h
theorem yu {w:World}{f:Nat->DE}{q:Pos}:[188,197,206].map (λ(a:Nat)=>(KW w f q).lookup a)=[some (qy w.params 555),some (qy w.params 569),some (qy w.params 582)]/\[47,48,52,53].map (λ(a:Nat)=>(KW w f q).lookup a)=[some o47,some o48,some o52,some o53]/\mz (KW w f q) 3 (Str.ofString "type")=some none/\mz (KW w f q) 0 (Str.ofString "type")=some (some (.type "type")):=by have ev:=kw_ev (w.params.followText "special-get-raises") (eU pT w) f q w.params;rw[mU]at ev;unfold Z0 at ev;exact p4 ev
theorem Jx {K:Frag}{h:Heap}{c P:Addr}(X:K.In h)(e:Q8 K c P=true)(d:c≠P):CodeHd h c P:=by obtain⟨⟨s,v,q,u⟩,hl,e⟩:=Eb nb e;revert hl;refine Nk (x:=s) nb e λt e=>aF_i (x:=q) nb e λi e hl=>?_;have l:=qF nb e;have k:=qF nb l.2;have p:=dz.mp l.1;have j:i[11]? =some (.ref P):=dz.mp k.1;refine mG (λZ Z f e=>?_) (vS_i (P:=λx=>∃a b,x=.str a b/\_=true) nb k.2 λa b e=>⟨a,b,rfl,e⟩);refine mG (λZ Z o e=>?_) (Gy (P:=λx=>∃a b,x=.int a b/\_=true) nb e λa b e=>⟨a,b,rfl,e⟩);refine cW (λZ m e=>?_) (vB_i (P:=λx=>∃a,x=.bool a/\_=true) nb e λa e=>⟨a,rfl,e⟩);refine mG (λZ Z g Z=>?_) (Gy (P:=λx=>∃a b,x=.int a b/\_=true) nb e λa b e=>⟨a,b,rfl,e⟩);rw[p]at hl;refine⟨_,i,_,_,_,_,_,_,_,X _ _ hl,rfl,rfl,j,?_,f,o,m,g,d⟩;rw[Array.getD_eq_getD_getElem?,j];rfl
noncomputable def YQ (g:Mine.Fn):Bool:=g.fd.scope.isCoroutine==false&&g.fd.scope.isGenerator==false&&g.fd.scope.kind== .function&&uniq g.fd.scope.names&&(g.fd.scope.names.all λp=>p.2 != .free)&&
 ((argNames g.fd.params++BK g.fd.params).all λx=>Sg.holds ⟨Mine.ig g.fd.scope,g.fd.scope.names⟩ x)&&(!Ed g.fd.scope.names||g.addr==389||g.addr==394)
theorem LQ:((m9.map (·.2)).all YQ)=true:=by decide+kernel
theorem Rk:∀g∈m9.map (·.2),g.fd.body=.stmts g.body/\g.fd.closure=[]/\g.fd.globals=mainGlobals/\g.fd.builtins=builtinsNs:=λg=>xH (P:=λg:Mine.Fn=>g.fd.body=.stmts g.body/\g.fd.closure=[]/\g.fd.globals=mainGlobals/\g.fd.builtins=builtinsNs) (by
 unfold m9
 repeat (first|exact trivial|refine fV ⟨⋯,⋯,⋯,⋯⟩ ?_))
theorem VF:(m9.map (·.2)).filter (λg=>Ed g.fd.scope.names)=[Mine.iJ,Mine.iV]:=⋯
theorem VL {α:Type}{a b x:α}(h:x∈[a,b]):x=a\/x=b:=(au.mp h).imp id dj.mp
theorem Gd {f:Mine.Fn}{ds:List D}{kds L:List (Str×D)}(h:Mine.bindL f ds kds=some L):∀x∈L.map (·.1),x∈argNames f.fd.params++BK f.fd.params:=by
 have i:∀{l:List Str}{g:Str->Option (Str×D)}{r:List (Str×D)},(∀x y,g x=some y->y.1=x)->l.mapM g=some r->∀x∈r.map (·.1),x∈l:=λ{l}=>by
  induction l with
  |nil=>
   intro g r Z e x hx;rw[List.mapM_nil]at e;injection e with e;subst e;cases hx
  |cons a l m=>
   intro g r j e x hx;rw[List.mapM_cons]at e;refine cW (λy c e=>?_) (Option.bind_eq_some_iff.mp e);refine cW (λt o e=>?_) (Option.bind_eq_some_iff.mp e);injection e with e;subst e;rw[aX]at hx;rcases au.mp hx with rfl|hx
   ·rw[j a y c];exact .head _
   ·exact .tail _ (m j o x hx)
 refine gQ h λa s h=>gQ h λb q h=>someE h λx hx=>?_;rw[bu,bu]at hx;refine aC (bj.mp hx) (λhx=>(bj.mp hx).elim (λhx=>?_) λhx=>?_) λhx=>aD _ (i (λx y e=>nH e λd Z=>rfl) q x hx)
 ·refine cW (λp c k=>?_) (aG.mp hx);subst k
  exact bK _ (List.of_mem_zip c).1
 ·exact bK _ (List.mem_of_mem_drop (i (λx y e=>nH e λd Z=>rfl) s x hx))
noncomputable abbrev jq (f:Mine.Fn){w:World}(W:Wd pT w gD):Prop:=∀{ds:List D}{kds L:List (Str×D)}{A:Around}{vs kvs:List Value}{s:Shared}{Q:List (Str×Value)->Shared->Prop}{E:VP},f.shapes.contains (ds.length,kds.map (·.1))=true->Mine.bindL f ds kds=some L->
 W.S s.heap->vs.length=ds.length->kvs.length=kds.length->(∀rest restD,L.map (·.2)=ds++restD->(∀bad,gV bad s.heap->fB pT w bad s.heap kvs (kds.map (·.2))->fB pT w bad s.heap rest restD)->Q ((L.map (·.1)).zip (vs++rest)) s)->wpAny (model pT w) A (bindArgs f.fd ⟨vs,(kds.map (·.1)).zip kvs⟩) Q E s
section
variable {w:World}(B:Base w)
theorem fn_ok {g:Mine.Fn}(b:g∈m9.map (·.2))(a:jq g B.W):Iv B.W g:=by
 have m:g∈fns:=.tail _ (.tail _ (.tail _ b));have c:=aU.mp LQ g b;unfold YQ at c;simp only[bJ]at c;revert c;refine yA λH v=>yA (λj y=>yA (λi z=>yA (λe A=>yA (λd C=>yA (λF E=>?_) d) e) i) j) H;refine sY (λp s2 o s4=>?_) (Rk g b);exact{
  obj:=⟨yQ g,rfl,λh S=>SH.k S _ _ (Ce m)⟩
  body:=p
  clo:=s2
  glob:=o
  blt:=s4
  co:=dz.mp F
  gen:=dz.mp E
  kind:=dz.mp C
  uq:=A
  free:=λx l=>by have:=aU.mp z _ l;simp at this
  code:=λh S=>codeRec_of (SH.k S) (JF m).1
  mkl:=λs N u t=>by
   rw[s]at v;have I:=(lD (w:=w) (f:=B.f) (q:=B.q)).2.2.2.2.2;refine yA (λM K=>?_) (az.mp I);clear p s2 o s4 F E C A z y v m a;have k:g=Mine.iJ\/g=Mine.iV:=VL (VF▸bV.mpr ⟨b,s⟩);rcases k with rfl|rfl
   ·exact⟨388,386,u.trans ⋯,by decide,by rw[t];rfl',λh S=>Jx (SH.k S) M (by decide)⟩
   ·exact⟨393,391,u.trans ⋯,by decide,by rw[t];rfl',λh S=>Jx (SH.k S) K (by decide)⟩
  holds:=λO G L Z J x l=>aU.mp y x (Gd J x l)
  bind:=a}
end
section
variable {w:World}(B:Base w)
theorem Ky {n m:Nat}{ks:List Str}(h:([(n,[])]:List (Nat×List Str)).contains (m,ks)=true):m=n/\ks=[]:=by have h:=dC.mp h;rw[dj]at h;injection h with b a;exact⟨b,a⟩
theorem yl {α β:Type}{g:α->β}{l:List α}(h:l.map g=[]):l=[]:=by
 cases l with
 |nil=>rfl
 |cons a r=>cases h
theorem IK {α β:Type}:∀{l:List α}{r:List β},l.length=r.length->(l.zip r).map (·.1)=l/\(l.zip r).map (·.2)=r
 |[],[],_=>⟨rfl,rfl⟩
 |a::l,b::r,h=>by have:=IK (l:=l) (r:=r) (by simpa using h);rw[cI,aX,aX,this.1,this.2];exact⟨rfl,rfl⟩
 |[],_::_,h=>by cases h
 |_::_,[],h=>by cases h
theorem um {g:Mine.Fn}{n:Nat}(hs:g.shapes=[(n,[])])(m:(argNames g.fd.params).length=n)(hl:∀ds:List D,ds.length=n->Mine.bindL g ds []=some ((argNames g.fd.params).zip ds))(j:∀vs:List Value,vs.length=n->bindArgs g.fd ⟨vs,[]⟩=pure ((argNames g.fd.params).zip vs)):jq g B.W:=by intro ds f L A vs b s Q E e a S h i k;rw[hs]at e;refine yA (λd hk=>?_) (Ky e);have hk:=yl hk;subst hk;have c:b=[]:=cO.mp i;subst c;rw[hl ds d]at a;injection a with a;subst a;have z:=IK (l:=argNames g.fd.params) (r:=ds) (by rw[m,d]);have:=k [] [] (by rw[z.2,List.append_nil]) (λZ Z Z=>.nil);rw[z.1,List.append_nil]at this;show wpAny _ _ (bindArgs g.fd ⟨vs,[]⟩) _ _ _;rw[j vs (by rw[h,d])];exact aB this
theorem V6 {α:Type}:∀{l:List α},l.length=1->∃a,l=[a]
 |[a],_=>⟨a,rfl⟩
theorem Ld {α:Type}:∀{l:List α},l.length=2->∃a b,l=[a,b]
 |[a,b],_=>⟨a,b,rfl⟩
theorem len3 {α:Type}:∀{l:List α},l.length=3->∃a b c,l=[a,b,c]
 |[a,b,c],_=>⟨a,b,c,rfl⟩
theorem bind1 {g:Mine.Fn}(hs:g.shapes=[(1,[])])(d:(argNames g.fd.params).length=1)(hl:∀a:D,Mine.bindL g [a] []=some ((argNames g.fd.params).zip [a]))(c:∀a:Value,bindArgs g.fd ⟨[a],[]⟩=pure ((argNames g.fd.params).zip [a])):jq g B.W:=
 um B hs d (λf h=>by(refine yE (λa b=>?_) (V6 h);subst b);exact hl a) (λe h=>by(refine yE (λa b=>?_) (V6 h);subst b);exact c a)
theorem Ze {g:Mine.Fn}(hs:g.shapes=[(2,[])])(e:(argNames g.fd.params).length=2)(hl:∀a b:D,Mine.bindL g [a,b] []=some ((argNames g.fd.params).zip [a,b]))(d:∀a b:Value,bindArgs g.fd ⟨[a,b],[]⟩=pure ((argNames g.fd.params).zip [a,b])):jq g B.W:=
 um B hs e (λi h=>by(refine Az (λa b c=>?_) (Ld h);subst c);exact hl a b) (λf h=>by(refine Az (λa b c=>?_) (Ld h);subst c);exact d a b)
theorem Tu {g:Mine.Fn}(hs:g.shapes=[(3,[])])(f:(argNames g.fd.params).length=3)(hl:∀a b c:D,Mine.bindL g [a,b,c] []=some ((argNames g.fd.params).zip [a,b,c]))(e:∀a b c:Value,bindArgs g.fd ⟨[a,b,c],[]⟩=pure ((argNames g.fd.params).zip [a,b,c])):jq g B.W:=
 um B hs f (λj h=>by(refine ZG (λa b c d=>?_) (len3 h);subst d);exact hl a b c) (λi h=>by(refine ZG (λa b c d=>?_) (len3 h);subst d);exact e a b c)
noncomputable def KB (P:Params):Frag:=[(187,jC #[.int 0 554,.none]),(196,jC #[.int 0 568,.none]),(205,jC #[.int 0 581,.none]),(188,qy P 555),(197,qy P 569),(206,qy P 582)]
theorem kI:∀{K:Frag}{a:Addr}{o:Obj},K.lookup a=some o->(a,o)∈K
 |[],_,_,e=>by cases e
 |(b,x)::r,a,o,e=>by
  rw[List.lookup_cons]at e;by_cases q:a==b
  ·rw[q]at e
   injection e with e;subst e;rw[dz.mp q];exact .head _
  ·rw[Bool.not_eq_true]at q
   rw[q]at e;exact .tail _ (kI e)
theorem KB_in {f:Nat->DE}{q:Pos}{h:Heap}(S:SH w f q h):(KB w.params).In h:=by
 have c:=(qR (w:=w) (f:=f) (q:=q)).2.2.2.2.2;have b:=(yu (w:=w) (f:=f) (q:=q)).1;have m:(KW w f q).lookup 187=_:=jM (i:=1) c rfl rfl;have l:(KW w f q).lookup 196=_:=jM (i:=2) c rfl rfl;have k:(KW w f q).lookup 205=_:=jM (i:=3) c rfl rfl;have j:(KW w f q).lookup 188=_:=jM (i:=0) b rfl rfl;have g:(KW w f q).lookup 197=_:=jM (i:=1) b rfl rfl;have d:(KW w f q).lookup 206=_:=jM (i:=2) b rfl rfl;intro a o e;have:=kI e;unfold KB at this;simp only[au,bh,cA,Prod.mk.injEq]at this;rcases this with⟨rfl,rfl⟩|⟨rfl,rfl⟩|⟨rfl,rfl⟩|⟨rfl,rfl⟩|⟨rfl,rfl⟩|⟨rfl,rfl⟩
 ·exact S.k _ _ m
 ·exact S.k _ _ l
 ·exact S.k _ _ k
 ·exact S.k _ _ j
 ·exact S.k _ _ g
 ·exact S.k _ _ d
theorem pB {K:Frag}{s:Shared}{fd:FuncData}{args:Args}{binds:List (Str×Value)}(X:K.In s.heap)(e:∀S,peek K S (bindArgs fd args)=some binds):BindsTo s fd args binds:=λM Z Z Z k=>(Looks.of_peek (M:=M) X (e _)).here k
noncomputable def kwJ (c:D):List (Str×D):=[(Str.ofString "key",c)]
noncomputable def kyL:List Str:=["key"].map Str.ofString
noncomputable def Yl:List Str:=["a","x","lo","hi","key"].map Str.ofString
theorem Yx {kds:List (Str×D)}(e:kds.map (·.1)=kyL):∃c,kds=kwJ c:=by
 cases kds with
 |nil=>nomatch e
 |cons p r=>
  cases r with
  |nil=>
   obtain⟨y,c⟩:=p;have e:y=Str.ofString "key":=(List.cons.inj e).1;subst e;exact⟨c,rfl⟩
  |cons q r=>nomatch (List.cons.inj e).2
theorem Tq {g:Mine.Fn}(t:Tok)(hs:∀p∈g.shapes,p=(2,[])\/p=(2,kyL)\/p=(4,[])\/p=(4,kyL))(l1:∀a b:D,Mine.bindL g [a,b] []=some (Yl.zip [a,b,.int 0,.none,.none]))(l2:∀a b c:D,Mine.bindL g [a,b] (kwJ c)=some (Yl.zip [a,b,.int 0,.none,c]))
 (M:∀a b c d:D,Mine.bindL g [a,b,c,d] []=some (Yl.zip [a,b,c,d,.none]))(K:∀a b c d e:D,Mine.bindL g [a,b,c,d] (kwJ e)=some (Yl.zip [a,b,c,d,e]))
 (J:∀(P:Params)(S:Setting)(a b:Value),peek (KB P) S (bindArgs g.fd ⟨[a,b],[]⟩)=some (Yl.zip [a,b,.int 0 t,.none,.none]))(I:∀(P:Params)(S:Setting)(a b c:Value),peek (KB P) S (bindArgs g.fd ⟨[a,b],[(Str.ofString "key",c)]⟩)=some (Yl.zip [a,b,.int 0 t,.none,c]))
 (H:∀(P:Params)(S:Setting)(a b c d:Value),peek (KB P) S (bindArgs g.fd ⟨[a,b,c,d],[]⟩)=some (Yl.zip [a,b,c,d,.none]))(G:∀(P:Params)(S:Setting)(a b c d e:Value),peek (KB P) S (bindArgs g.fd ⟨[a,b,c,d],[(Str.ofString "key",e)]⟩)=some (Yl.zip [a,b,c,d,e])):jq g B.W:=by
 intro U F L A T q s Q E O h S u v k;have X:=KB_in S;have N:=hs _ (dC.mp O)
 (revert N;refine yO (λe=>?_) (λf=>aC f (λe=>?_) (λy=>aC y (λe=>?_) (λe=>?_))))<;>injection e with i x
 ·have hk:=yl x
  subst hk;have j:q=[]:=cO.mp v;subst j;refine Az (λa b f=>?_) (Ld i);subst f;refine Az (λm l f=>?_) (Ld (u.trans i));subst f;rw[l1]at h;injection h with h;subst h;exact pB X (λSt=>J w.params St m l) _ _ _ _ (k [.int 0 t,.none,.none] [.int 0,.none,.none] rfl (λZ Z Z=>.cons (.int 0 t) (.cons .none (.cons .none .nil))))
 ·refine yE (λc f=>?_) (Yx x);subst f
  refine yE (λo f=>?_) (V6 (v.trans rfl));subst f;refine Az (λa b f=>?_) (Ld i);subst f;refine Az (λm l f=>?_) (Ld (u.trans i));subst f;rw[l2]at h;injection h with h;subst h;exact pB X (λSt=>I w.params St m l o) _ _ _ _ (k [.int 0 t,.none,o] [.int 0,.none,c] rfl (λZ Z r=>.cons (.int 0 t) (.cons .none r)))
 ·have hk:=yl x
  subst hk;have j:q=[]:=cO.mp v;subst j;refine xM (λa b c d f=>?_) (Qo i);subst f;refine xM (λm l o z f=>?_) (Qo (u.trans i));subst f;rw[M]at h;injection h with h;subst h;exact pB X (λSt=>H w.params St m l o z) _ _ _ _ (k [.none] [.none] rfl (λZ Z Z=>.cons .none .nil))
 ·refine yE (λR f=>?_) (Yx x);subst f
  refine yE (λC f=>?_) (V6 (v.trans rfl));subst f;refine xM (λa b c d f=>?_) (Qo i);subst f;refine xM (λm l o z f=>?_) (Qo (u.trans i));subst f;rw[K]at h;injection h with h;subst h;exact pB X (λSt=>G w.params St m l o z C) _ _ _ _ (k [C] [R] rfl (λZ Z r=>r))
end
section
variable {w:World}(B:Base w)
theorem bs (l:List (Nat×List Str))(c:Bool)(h:(l.all λp=>p==(2,[])||p==(2,kyL)||p==(4,[])||p==(4,kyL))=true):∀p∈l,p=(2,[])\/p=(2,kyL)\/p=(4,[])\/p=(4,kyL):=λp d=>by
 have:=aU.mp h p d;simp only[Bool.or_eq_true,dz]at this;revert this;refine yO (λb=>aC b (λa=>aC a (λh=>?_) (λh=>?_)) (λh=>?_)) (λh=>?_)
 ·exact .inl h
 ·exact .inr (.inl h)
 ·exact .inr (.inr (.inl h))
 ·exact .inr (.inr (.inr h))
theorem b_br:jq Mine.fK B.W:=Tq B 554 (bs _ true (by decide+kernel)) (λZ Z=>⋯) (λZ Z Z=>⋯) (λZ Z Z Z=>⋯) (λZ Z Z Z Z=>⋯)
 (λZ Z Z Z=>⋯) (λZ Z Z Z Z=>⋯) (λZ Z Z Z Z Z=>⋯) (λZ Z Z Z Z Z Z=>⋯)
theorem b_il:jq Mine.fU B.W:=Tq B 568 (bs _ true (by decide+kernel)) (λZ Z=>⋯) (λZ Z Z=>⋯) (λZ Z Z Z=>⋯) (λZ Z Z Z Z=>⋯)
 (λZ Z Z Z=>⋯) (λZ Z Z Z Z=>⋯) (λZ Z Z Z Z Z=>⋯) (λZ Z Z Z Z Z Z=>⋯)
theorem b_bl:jq Mine.eV B.W:=Tq B 581 (bs _ true (by decide+kernel)) (λZ Z=>⋯) (λZ Z Z=>⋯) (λZ Z Z Z=>⋯) (λZ Z Z Z Z=>⋯)
 (λZ Z Z Z=>⋯) (λZ Z Z Z Z=>⋯) (λZ Z Z Z Z Z=>⋯) (λZ Z Z Z Z Z Z=>⋯)
theorem b_ga:jq Mine.j5 B.W:=Ze B ⋯ ⋯ (λZ Z=>⋯) (λZ Z=>⋯)
theorem b_it:jq Mine.kO B.W:=bind1 B ⋯ ⋯ (λZ=>⋯) (λZ=>⋯)
theorem b_sh:jq Mine.iJ B.W:=Ze B ⋯ ⋯ (λZ Z=>⋯) (λZ Z=>⋯)
theorem b_ha:jq Mine.iV B.W:=Tu B ⋯ ⋯ (λZ Z Z=>⋯) (λZ Z Z=>⋯)
theorem b_tr:jq Mine.ju B.W:=Tu B ⋯ ⋯ (λZ Z Z=>⋯) (λZ Z Z=>⋯)
theorem b_ru:jq Mine.oO B.W:=Tu B ⋯ ⋯ (λZ Z Z=>⋯) (λZ Z Z=>⋯)
theorem Tj:∀g∈m9.map (·.2),jq g B.W:=λg=>xH (P:=λg=>jq g B.W) (by
 unfold m9;refine fV (b_ga B) ?_;refine fV (b_it B) ?_;refine fV (b_br B) ?_;refine fV (b_il B) ?_;refine fV (b_bl B) ?_
 iterate 13 refine fV (bind1 B ⋯ ⋯ (λZ=>⋯) (λZ=>⋯)) ?_
 refine fV (b_sh B) ?_;refine fV (b_ha B) ?_;refine fV (b_tr B) ?_;refine fV (b_ru B) ?_;refine fV (bind1 B ⋯ ⋯ (λZ=>⋯) (λZ=>⋯)) ?_;exact trivial)
theorem fA_tab:(m9.all λp=>decide (fA p.1=some p.2.addr))=true:=by decide+kernel
theorem ft_ok:∀x g,qH x=some g->Iv B.W g/\fA x=some g.addr:=λx g h=>by have a:=PySem.mem_of_lookup (show m9.lookup x=some g from h);have b:g∈m9.map (·.2):=aG.mpr ⟨_,a,rfl⟩;exact⟨fn_ok B b (Tj B g b),bw (aU.mp fA_tab _ a)⟩
end
noncomputable def kY (g:Mine.Fn)(L:Addr):Env:=newEnv g.fd.scope L mainGlobals [] (g.fd.qualname++".<locals>.") (some g.addr) g.fd.code none builtinsNs
noncomputable def Yk (g:Mine.Fn):Bool:=g.fd.scope.isCoroutine==false&&g.fd.scope.isGenerator==false&&g.fd.scope.kind== .function&&(g.fd.scope.names.all λp=>p.2 != .cell)
noncomputable def vq (g:Mine.Fn):Prop:=g∈fns/\Yk g=true/\g.fd.body=.stmts g.body/\g.fd.closure=[]/\g.fd.globals=mainGlobals/\g.fd.builtins=builtinsNs
theorem Vt:vq jG:=⟨.head _,by decide+kernel,⋯,⋯,⋯,⋯⟩
theorem Ph:vq iW:=⟨.tail _ (.head _),by decide+kernel,⋯,⋯,⋯,⋯⟩
theorem pl_add:vq gb:=⟨.tail _ (.tail _ (.head _)),by decide+kernel,⋯,⋯,⋯,⋯⟩
section
variable {w:World}(B:Base w){A:Around}{s:Shared}{Q:VP}{E:VP}
noncomputable def retV:Flow->Value
 |.ret v=>v
 |_=>.none
theorem zg {g:Mine.Fn}(t:vq g)(hd:A.depth<recursionLimit){vs:List Value}{kw:List (Str×Value)}{binds:List (Str×Value)}{s₁:Shared}{R:Result->Shared->Prop}(S:SH w B.f B.q s.heap)
 (hb:∀(j:List (Str×Value)->Shared->Prop)(J:VP),j binds s₁->wpAny (model pT w) A.in1 (bindArgs g.fd ⟨vs,kw⟩) j J s)(l:∀b o,s.heap.get? b=some o->s₁.heap.get? b=some o)(hl:∀x∈binds,g.fd.scope.names.lookup x.1=some .local)
 (h:∀h',SH w B.f B.q h'->h'.Ns s₁.heap.objs.size (λx=>binds.reverse.lookup x)->(∀b o,s₁.heap.get? b=some o->h'.get? b=some o)->wpAny (model pT w) (A.deeper (kY g s₁.heap.objs.size)) (execs g.body (kY g s₁.heap.objs.size)) (λfl s'=>R (.ok (.ret (retV fl))) s') (λZ Z=>False) (zs s₁ h' (s₁.toks+binds.length))):
 codeAny (model pT w) A (.call (.ref g.addr) ⟨vs,kw⟩) R s:=by
 revert t;refine xP λf c C z y v=>?_;unfold Yk at c;simp only[bJ]at c;revert c;refine yA λk F=>yA (λa G=>yA (λI H=>?_) a) k;refine codeAny_call_function hd (S.k _ _ (Ce f)) rfl (dz.mp I) (dz.mp H) C (codeRec_of S.k (JF f).1) (hb _ _ ?_);rw[y,z,v];refine wpAny_newFunctionEnv (λx p=>?_) hl (λh' n m=>?_) (dz.mp G)
 ·have:=aU.mp F x p
  simpa using this
 ·have d:∀b o,s₁.heap.get? b=some o->h'.get? b=some o:=λb o e=>(m.2 b (bY (aZ e))).trans (aP _ e)
  have i:SH w B.f B.q h':=S.low λb o Z e=>d b o (l b o e);refine⟨B.W.nolim i,codeAny_func (bC (h h' i n d) (λfl s' q=>?_) λe s' u=>u.elim)⟩;cases fl<;>exact q
theorem Av {g:Mine.Fn}(d:vq g)(hd:A.depth<recursionLimit){vs:List Value}{kw:List (Str×Value)}{binds:List (Str×Value)}{s₁:Shared}(S:SH w B.f B.q s.heap)
 (hb:∀(a:List (Str×Value)->Shared->Prop)(e:VP),a binds s₁->wpAny (model pT w) A.in1 (bindArgs g.fd ⟨vs,kw⟩) a e s)(c:∀b o,s.heap.get? b=some o->s₁.heap.get? b=some o)(hl:∀x∈binds,g.fd.scope.names.lookup x.1=some .local)
 (h:∀h',SH w B.f B.q h'->h'.Ns s₁.heap.objs.size (λx=>binds.reverse.lookup x)->(∀b o,s₁.heap.get? b=some o->h'.get? b=some o)->wpAny (model pT w) (A.deeper (kY g s₁.heap.objs.size)) (execs g.body (kY g s₁.heap.objs.size)) (λfl s'=>Q (retV fl) s') (λZ Z=>False) (zs s₁ h' (s₁.toks+binds.length))):
 wpAny (model pT w) A (call (.ref g.addr) vs kw) Q E s:=wpAny_call (zg B d hd S hb c hl h)
variable {g:Mine.Fn}{L:Addr}{m:Str->Option Value}
theorem jD {x:Str}{p:Pos}{v:Value}(hk:g.fd.scope.kind=.function)(a:g.fd.scope.names.lookup x=some .local)(n:s.heap.Ns L m)(b:m x=some v)(hd:(x==("__debug__":Str))=false)(c:Q v s):wpAny (model pT w) A (eval (.Name x p) (kY g L)) Q E s:=
 wpAny_Name (wpAny_loadName_local hk a n b c) hd
theorem Qq {x:Str}{p:Pos}{a:Addr}(hk:g.fd.scope.kind=.function)(b:g.fd.scope.names.lookup x=some .globalImplicit)(S:SH w B.f B.q s.heap)(d:(x,a)∈Rf)(hd:(x==("__debug__":Str))=false)(c:Q (.ref a) s):wpAny (model pT w) A (eval (.Name x p) (kY g L)) Q E s:=by refine wpAny_Name ?_ hd;rw[loadName_read (env:=kY g L) hk b];unfold loadGlobal;refine aj (wpAny_nsGet (B.W.g S) ?_);rw[show B.W.mg x=some (.ref a)from B.at d];exact aB c
theorem Jp {x:Str}{p:Pos}{v:Value}(hk:g.fd.scope.kind=.function)(b:g.fd.scope.names.lookup x=some .globalImplicit)(S:SH w B.f B.q s.heap)(a:B.mg x=none/\B.mb x=some v)(hd:(x==("__debug__":Str))=false)(c:Q v s):wpAny (model pT w) A (eval (.Name x p) (kY g L)) Q E s:=by refine wpAny_Name ?_ hd;rw[loadName_read (env:=kY g L) hk b];unfold loadGlobal;refine aj (wpAny_nsGet (B.W.g S) ?_);rw[show B.W.mg x=none from a.1];refine aj (wpAny_nsGet (B.W.b S) ?_);rw[show B.W.mb x=some v from a.2];exact aB c
end
theorem nW:Slot "re.Pattern" "search" "re.Pattern.search":=
 .of (owner:="re.Pattern") (n:="search") (by rw[typeLookup_type,builtinLookup_eq_fast];rfl') (by decide+kernel) (by decide+kernel) (by decide+kernel)
  (by first|exact .inl (by decide+kernel)|exact .inr (by decide+kernel)) (by rw[isSubtype_type];rfl')
theorem Cq:entryFor table "re.Pattern.search"=some Builtin.«re.Pattern.search»:=entryFor_of_tree ⋯
theorem Gi (a b:Value):argsOk "re.Pattern.search" ⟨[a,b],[]⟩:=by unfold argsOk;rfl'
theorem Pk:PlainAttrs "re.Pattern":=⟨⟨"object.__getattribute__",by rw[typeLookup_type,builtinLookup_eq_fast];rfl',by decide+kernel⟩,by rw[typeLookup_type,builtinLookup_eq_fast];rfl'⟩
theorem zZ:typeOf (.builtin "re.Pattern.search")=pure (.type "method_descriptor"):=by show builtinType _=_;rw[builtinType_eq_fast];rfl'
theorem srch48 (S:Setting)(t:Tok):eE.map (λx=>peek KR S (Builtin.«re.Pattern.search» ⟨[.ref 48,.str x t],[]⟩))=eE.map (λZ=>some (.done (.ret .none))):=⋯
theorem srch53 (S:Setting)(t:Tok):eE.map (λx=>peek KR S (Builtin.«re.Pattern.search» ⟨[.ref 53,.str x t],[]⟩))=eE.map (λZ=>some (.done (.ret .none))):=⋯
section
variable {w:World}{f:Nat->DE}{q:Pos}{A:Around}{s:Shared}{Q:VP}{E:VP}
theorem Zz {h:Heap}(S:SH w f q h):KR.In h:=by
 have e:=(yu (w:=w) (f:=f) (q:=q)).2.1;have g:(KW w f q).lookup 47=_:=jM (i:=0) e rfl rfl;have d:(KW w f q).lookup 48=_:=jM (i:=1) e rfl rfl;have c:(KW w f q).lookup 52=_:=jM (i:=2) e rfl rfl;have b:(KW w f q).lookup 53=_:=jM (i:=3) e rfl rfl;intro a o e;have:=kI e;unfold KR at this;simp only[au,bh,cA,Prod.mk.injEq]at this;rcases this with⟨rfl,rfl⟩|⟨rfl,rfl⟩|⟨rfl,rfl⟩|⟨rfl,rfl⟩
 ·exact S.k _ _ g
 ·exact S.k _ _ d
 ·exact S.k _ _ c
 ·exact S.k _ _ b
theorem FJ (S:SH w f q s.heap){a:Addr}(c:a=48\/a=53){x:Str}{t:Tok}(b:x∈eE)(d:Q .none s):wpAny (model pT w) A (call (.builtin "re.Pattern.search") [.ref a,.str x t]) Q E s:=by
 have X:=Zz S;have g:s.TypeIs (.ref a) "re.Pattern":=by
  rcases c with rfl|rfl
  ·exact⟨_,X 48 o48 rfl,rfl⟩
  ·exact⟨_,X 53 o53 rfl,rfl⟩
 refine wpAny_call (codeAny_call_builtin nW.plain Cq (nW.check _ _ _ _ _ _ _ _ g (Gi _ _) ?_));have e:peek KR ⟨pT,w.params⟩ (Builtin.«re.Pattern.search» ⟨[.ref a,.str x t],[]⟩)=some (.done (.ret .none)):=by
  rcases c with rfl|rfl
  ·exact mH (srch48 ⟨pT,w.params⟩ t) b
  ·exact mH (srch53 ⟨pT,w.params⟩ t) b
 exact(Looks.of_peek (M:=model pT w) X e).here d
theorem HB (S:SH w f q s.heap){a:Addr}(d:a=48\/a=53){c:Sem Bool}{Q:Value×List Value->Shared->Prop}(b:Q (.builtin "re.Pattern.search",[.ref a]) s):wpAny (model pT w) A (getMethod (.ref a) (Str.ofString "search") c) Q E s:=by
 have X:=Zz S;rcases d with rfl|rfl
 ·exact getMethod_builtin (T:="re.Pattern") ⟨_,X 48 o48 rfl,rfl⟩ Pk nW zZ (λa e=>by injection e with e;subst e;exact⟨_,X 48 o48 rfl,rfl⟩) b
 ·exact getMethod_builtin (T:="re.Pattern") ⟨_,X 53 o53 rfl,rfl⟩ Pk nW zZ (λa e=>by injection e with e;subst e;exact⟨_,X 53 o53 rfl,rfl⟩) b
theorem zU {x:Str}{u:Tok}(a:Q (.type "str") s):wpAny (model pT w) A (call (.type "type") [.str x u]) Q E s:=by refine wpAny_call (codeAny_of_tree ?_);show wpAny _ _ (callAny (.type "type") _) _ _ _;refine aB ⟨Code.quiet_builtin _ (by decide+kernel),codeAny_builtin F.entry_type_call ?_⟩;rw[show Builtin.«type.__call__» ⟨[.type "type",.str x u],[]⟩=pure (.done (.ret (.type "str"))) by rfl'];exact aB a
end
theorem Sq {G:Prop}(k:∀s q p p4 p5 p6 o m l j i c b h a g f e d r c1,iW.body=[.If (.Compare (.Call (.Name (Str.ofString "type") s) [.Name (Str.ofString "value") q] [] p) [.Is] [.Name (Str.ofString "str") p4] p5)
 [.Assign [.Name (Str.ofString "regex") p6] (.IfExp (.Name (Str.ofString "name") o) (.Name (Str.ofString "_name_disallowed_re") m) (.Name (Str.ofString "_value_disallowed_re") l) j) i,
  .If (.Call (.Attribute (.Name (Str.ofString "regex") c) (Str.ofString "search") b) [.Name (Str.ofString "value") h] [] a) r [] g,.Return (some (.Name (Str.ofString "value") f)) e] [] d,c1]->Mine.dJ (.Name (Str.ofString "regex") c) b a 1=true->G):G:=k _ _ _ _ _ _ _ _ _ _ _ _ _ _ _ _ _ _ _ _ _ rfl rfl
section
variable {w:World}(B:Base w){A:Around}{s:Shared}{Q:VP}{E:VP}
theorem X4:B.mg (Str.ofString "type")=none/\B.mb (Str.ofString "type")=some (.type "type"):=by refine sY (λZ Z b a=>?_) (yu (w:=w) (f:=B.f) (q:=B.q));exact⟨xW B.S₁ B.g b,xW B.S₁ B.b a⟩
theorem Z8:B.mg (Str.ofString "str")=none/\B.mb (Str.ofString "str")=some (.type "str"):=B.bi (p:=(Str.ofString "str",.type "str")) (by unfold Mine.ie;simp)
theorem V4:B.mg (Str.ofString "list")=none/\B.mb (Str.ofString "list")=some (.type "list"):=B.bi (p:=(Str.ofString "list",.type "list")) (by unfold Mine.ie;simp)
theorem SH.but {f:Nat->DE}{q:Pos}{h h2:Heap}{L:Addr}{m:Str->Option Value}(S:SH w f q h)(n:h.Ns L m)(k:412<=L)(i:Heap.SameBut L h h2):SH w f q h2:=by
 refine S.low λb o c g=>(i.2 b λe=>?_).trans g;subst e;revert n;refine iQ λp t u a j Z=>?_;rw[g]at a;injection a with a;subst a;revert c;refine yO (λc=>?_) (yAE λZ l d=>?_)
 ·exact absurd c (bc.mpr k)
 ·rw[j]at d
  cases d
noncomputable def mC (vi:Value)(x:Str)(t:Tok)(b:Bool):Str->Option Value:=λy=>[(Str.ofString "self",vi),(Str.ofString "value",.str x t),(Str.ofString "name",.bool b)].reverse.lookup y
theorem Sh (hd:A.depth+1<recursionLimit)(S:SH w B.f B.q s.heap){vi:Value}{x:Str}{t:Tok}{b:Bool}(V:x∈eE)(X:∀h' tk,SH w B.f B.q h'->(∀b o,s.heap.get? b=some o->h'.get? b=some o)->Q (.str x t) (zs s h' tk)):
 wpAny (model pT w) A (call (.ref 83) [vi,.str x t] [(Str.ofString "name",.bool b)]) Q E s:=by
 refine Av (g:=iW) B Ph (by exact cD ‹_›) (binds:=[(Str.ofString "self",vi),(Str.ofString "value",.str x t),(Str.ofString "name",.bool b)]) (s₁:=s) S (λQ' E' R=>(pB (K:=[]) (λa o e=>nomatch e) (λSt=>⋯)) _ _ _ _ R) (λZ Z e=>e)
  (λy I=>by simp only[au,bh,cA]at I;rcases I with rfl|rfl|rfl<;>rfl') (λh' c n T=>?_)
 refine Sq λp1 p2 p3 p4 p5 p6 p7 p8 p9 P O p l k j i h f N r c1 hb Y=>?_;rw[hb];have u:412<=s.heap.objs.size:=S.size;have q:∀b o,s.heap.get? b=some o->b≠s.heap.objs.size:=λb o e=>bY (aZ e);generalize s.heap.objs.size=L at *;have n:h'.Ns L (mC vi x t b):=n;refine bZ (wpAny_If (wpAny_isTrue_Compare1 (Call_Name1 (Jp B (g:=iW) ⋯ ⋯ c (X4 B) ⋯ (callWith_type1 (rest:=[]) (cP (jD (g:=iW) (m:=mC vi x t b) (v:=.str x t) ⋯ ⋯ n ⋯ ⋯ (dm (zU (Jp B (g:=iW) ⋯ ⋯ c (Z8 B) ⋯ ?_))))))))));rw[show compareOp .Is (.type "str") (.type "str")=pure (.bool true) by rfl'];refine aB (dw ?_);rw[ao rfl];have go:∀(G:Flow->Shared->Prop),(∀d,Q (.str x t) d->G (.ret (.str x t)) d)->∀a:Addr,(a=48\/a=53)->wpAny (model pT w) (A.deeper (kY iW L)) (storeName (kY iW L) (Str.ofString "regex") (.ref a)) (λZ d=>wpAny (model pT w) (A.deeper (kY iW L)) (execs [.If (.Call (.Attribute (.Name (Str.ofString "regex") p) (Str.ofString "search") l) [.Name (Str.ofString "value") k] [] j) r [] i,.Return (some (.Name (Str.ofString "value") h)) f] (kY iW L))
  G (λZ Z=>False) d) (λZ Z=>False) (zs s h' (s.toks+3)):=λG C a J=>by
  refine wpAny_storeName_local ⋯ n (λM F H=>?_) ⋯;have S2:=c.but n u H;have U:∀b o,s.heap.get? b=some o->M.get? b=some o:=λb o e=>(H.2 b (q b o e)).trans (T b o e);refine bZ (wpAny_If (isTrue_plain (Mine.jk Y (by rfl) (jD (g:=iW) (v:=.ref a) ⋯ ⋯ F ⋯ ⋯ (λpl=>HB S2 J (callWith_method1 (cP (jD (g:=iW) (v:=.str x t) ⋯ ⋯ F ⋯ ⋯ (dm (FJ S2 J V (truthy_none ?_)))))))))));refine dX ?_;exact bZ (wpAny_Return_some (jD (g:=iW) (v:=.str x t) ⋯ ⋯ F ⋯ ⋯ (C _ (X M _ S2 U))))
 refine bZ (wpAny_Assign_Name (wpAny_IfExp (isTrue_plain (jD (g:=iW) (m:=mC vi x t b) (v:=.bool b) ⋯ ⋯ n ⋯ ⋯ (dw ?_)))));cases b
 ·exact Qq B (g:=iW) (a:=53) ⋯ ⋯ c (by decide+kernel) ⋯ (bC (go _ (λZ z=>z) 53 (.inr rfl)) (λZ Z z=>z) λZ Z z=>z)
 ·exact Qq B (g:=iW) (a:=48) ⋯ ⋯ c (by decide+kernel) ⋯ (bC (go _ (λZ z=>z) 48 (.inl rfl)) (λZ Z z=>z) λZ Z z=>z)
end
noncomputable def gU:Str:=Str.ofString "_headers"
noncomputable def pU (P:Params)(tk:Tok)(v:Value):Obj:=Obj.putName gU (PyData.keyHash P gU) (.str gU tk) v emptyDict
theorem pI (P:Params)(tk:Tok)(v:Value):pU P tk v=⟨.type "dict",none,.dict #[⟨PyData.keyHash P gU,.str gU tk,v⟩] 1,#[]⟩:=⋯
theorem wM (P:Params)(tk:Tok)(v:Value):lookIn gU (pU P tk v)=some (some v):=by rw[pI];rfl'
theorem yN (P:Params)(tk:Tok)(v:Value):gO.map (λx=>lookIn x (pU P tk v))=gO.map (λZ=>some none):=by rw[pI];rfl'
section
variable {w:World}(B:Base w){A:Around}{s:Shared}{E:VP}
theorem Pq {x d:Addr}{v:Value}{tk:Tok}{R:Result->Shared->Prop}(S:SH w B.f B.q s.heap)(e:s.heap.get? x=some (instObj 182 d))(hd:s.heap.get? d=some emptyDict)
 (h:R (.ok (.ret .none)) (zs s (s.heap.update d (Obj.putName gU (PyData.keyHash w.params gU) (.str gU s.toks) v)) (s.toks+1))):codeAny (model pT w) A (.call (.builtin "object.__setattr__") ⟨[.ref x,.str gU tk,v],[]⟩) R s:=by
 have X:=S.k;have I:PySem.W.InstAt s.heap x (instObj 182 d) 182 (some emptyDict):=⟨e,rfl,rfl,hd⟩;refine qM (λZ Z j i m=>?_) (chk (w:=w) (f:=B.f) (q:=B.q));refine osa_open X I j (lD (w:=w) (f:=B.f) (q:=B.q)).2.2.2.1 λb=>?_;refine cW (λl g c=>?_) (any_some i);have k:(s.heap.update d (Obj.putName gU (PyData.keyHash w.params gU) (.str gU s.toks) v)).get? d=some (pU w.params s.toks v):=Heap.get?_update_self _ hd (by rw[show Obj.putName gU (PyData.keyHash w.params gU) (.str gU s.toks) v emptyDict=pU w.params s.toks v from rfl,pI];rfl);refine aj (aB (aj (aj (wpAny_loadPart e (aj ((looks_clsIn X g).here ?_))))));rw[c];refine aB (a:=some d) (aj (aB (aj ?_)));unfold nsSet;refine aj (aj (wpAny_askSetting (aB (aj (wpAny_mkText (aj (wpAny_loadPart hd ?_)))))));dsimp only;rw[aRefKeyMayBeTheName_at,aq (by simp)];refine wpAny_updatePart (s:={s with toks:=s.toks+1}) hd ?_;refine aj (wpAny_lookBehind k (by rw[pI];exact pastItsLine_dict (by rw[sizeLine_eq];show 1<=_;decide)) ?_);exact aB h
theorem Od {x d:Addr}{v:Value}{Q:Unit->Shared->Prop}(S:SH w B.f B.q s.heap)(a:s.heap.get? x=some (instObj 182 d))(hd:s.heap.get? d=some emptyDict)
 (h:Q () (zs s (s.heap.update d (Obj.putName gU (PyData.keyHash w.params gU) (.str gU (s.toks+1)) v)) (s.toks+1+1))):wpAny (model pT w) A (setAttr (.ref x) gU v) Q E s:=by
 have I:PySem.W.InstAt s.heap x (instObj 182 d) 182 (some emptyDict):=⟨a,rfl,rfl,hd⟩;exact set_plain S.k I (hook (i:=3) rfl rfl) (Pq B (s:={s with toks:=s.toks+1}) S a hd h)
end
theorem Lq {G:Prop}(k:∀z y x p4 p5 p6 v u t q p o m l j i h g f r bd a e s d c b,jG.body=[.Assign [.Name (Str.ofString "headers") z] (.IfExp (.Compare (.Name (Str.ofString "headers") y) [.IsNot] [.Constant .none x p4] p5) (.Name (Str.ofString "headers") p6) (.List [] v) u) t,
 .If (.Compare (.Call (.Name (Str.ofString "type") q) [.Name (Str.ofString "headers") p] [] o) [.IsNot] [.Name (Str.ofString "list") m] l) r [] j,
 .Assign [.Attribute (.Name (Str.ofString "self") i) (Str.ofString "_headers") h] (.Name (Str.ofString "headers") g) f,
 .If (.Constant (.bool true) s e) [.For a (.Name (Str.ofString "headers") d) bd [] c] [] b]->G):G:=k _ _ _ _ _ _ _ _ _ _ _ _ _ _ _ _ _ _ _ _ _ _ _ _ _ _ _ rfl
noncomputable def K69:Frag:=[(69,jC #[.none])]
section
variable {w:World}(B:Base w){A:Around}{s:Shared}{E:VP}
theorem K69_in {f:Nat->DE}{q:Pos}{h:Heap}(S:SH w f q h):K69.In h:=λa o e=>by have g:=(qR (w:=w) (f:=f) (q:=q)).2.2.2.2.2;have d:(KW w f q).lookup 69=_:=jM (i:=0) g rfl rfl;have:=kI e;unfold K69 at this;simp only[au,bh,cA,Prod.mk.injEq]at this;revert this;refine yA λc b=>?_;subst c;subst b;exact S.k _ _ d
theorem Ri {e a:Expr}{bd:List Stmt}{p:Pos}{ε:Env}{l:Addr}{Q:Flow->Shared->Prop}(j:A.handled=none)(hl:s.heap.PlainList l #[])(g:∀f:VP,f (.ref l) s->wpAny (model pT w) A (eval e ε) f E s)
 (hs:∀x,foldedSetIterable e ε x=pure x)(k:∀h5,(∀b o,s.heap.get? b=some o->h5.get? b=some o)->Q .next {s with heap:=h5}):wpAny (model pT w) A (exec (.For a e bd [] p) ε) Q E s:=by
 refine wpAny_For (g _ (wpAny_pyIter_list hl.isList ?_)) hs;refine codeAny_forLoop_any (λZ c=>c={s with heap:=s.heap.push {cls:=.type "list_iterator",data:=.fields #[.ref l,.int 0 0]}}) ?_ 0 rfl;intro n c h;subst h;refine wpAny_pyNext_list_end (i:=0) j ⟨_,aL _ rfl,rfl,rfl⟩ (hl.at λo e=>aP _ e).isList rfl λq m=>?_;exact dX (k q λb o d=>m b o (bY (aZ d)) (aP _ d))
theorem zf {l:Addr}{items:Array Value}{Q:VP}(hl:s.heap.PlainList l items)(a:Q (.type "list") s):wpAny (model pT w) A (call (.type "type") [.ref l]) Q E s:=by refine wpAny_call (codeAny_of_tree ?_);show wpAny _ _ (callAny (.type "type") _) _ _ _;refine aB ⟨Code.quiet_builtin _ (by decide+kernel),codeAny_builtin F.entry_type_call ?_⟩;rw[show Builtin.«type.__call__» ⟨[.type "type",.ref l],[]⟩=(shownTypeOf (.ref l) >>= λv=>pure (.done (.ret v))) by rfl'];revert hl;refine yE λb hl=>?_;unfold shownTypeOf;refine aj (aj (aj (wpAny_loadPart hl (aB ?_))));dsimp only;rw[aq (show ¬(Value.type "list" ==Value.type "builtin_function_or_method")=true by decide+kernel)];exact aB (aB a)
end
structure NewHd (w:World)(h h':Heap)(x d l:Addr)(tk:Tok):Prop where
 keep:∀b o,h.get? b=some o->h'.get? b=some o
 nx:h.get? x=none
 nd:h.get? d=none
 nl:h.get? l=none
 xd:x≠d
 xl:l≠x
 dl:l≠d
 hx:h'.get? x=some (instObj 182 d)
 hd:h'.get? d=some (pU w.params tk (.ref l))
 hl:h'.PlainList l #[]
section
variable {w:World}(B:Base w){A:Around}{s:Shared}{E:VP}
noncomputable def mI0 (x:Addr):Str->Option Value:=λy=>[(Str.ofString "self",Value.ref x),(Str.ofString "headers",.none)].reverse.lookup y
theorem Wn {x d:Addr}{R:Result->Shared->Prop}(hr:A.depth<recursionLimit)(hh:A.handled=none)(S:SH w B.f B.q s.heap)(hx:s.heap.get? x=some (instObj 182 d))(hd:s.heap.get? d=some emptyDict)(hdx:d≠x)(V:412<=d)
 (hq:∀h' l tk F,SH w B.f B.q h'->(∀b o,b≠d->s.heap.get? b=some o->h'.get? b=some o)->s.heap.get? l=none->l≠x->l≠d->h'.get? d=some (pU w.params tk (.ref l))->h'.PlainList l #[]->R (.ok (.ret .none)) (zs s h' F)):
 codeAny (model pT w) A (.call (.ref 76) ⟨[.ref x],[]⟩) R s:=by
 refine zg (g:=jG) B Vt hr (binds:=[(Str.ofString "self",.ref x),(Str.ofString "headers",.none)]) (s₁:=s) S (λQ' E' q'=>(pB (K:=K69) (K69_in S) (λSt=>⋯)) _ _ _ _ q') (λZ Z e=>e)
  (λy hy=>by simp only[au,bh,cA]at hy;rcases hy with rfl|rfl<;>rfl') (λh' S' n kk=>?_)
 refine Lq λp1 p2 p3 p4 p5 p6 p7 p8 p9 p10 p11 p12 p13 p14 p15 p16 p17 p18 p19 r bd G N O M J I c=>?_;rw[c];have Q:412<=s.heap.objs.size:=S.size;have lt:∀{b o},s.heap.get? b=some o->b≠s.heap.objs.size:=λe=>bY (aZ e);have a:∀{b},s.heap.objs.size<b->s.heap.get? b=none:=λ{b} c=>by
  cases e:s.heap.get? b with
  |none=>rfl
  |some o=>exact absurd (aZ e) (bc.mpr (cD c))
 have H:∀{b o},s.heap.get? b=some o->b<s.heap.objs.size:=λe=>aZ e;generalize s.heap.objs.size=L at *;have n:h'.Ns L (mI0 x):=n;have t:L<h'.objs.size:=n.lt;refine bZ (wpAny_Assign_Name (wpAny_IfExp (wpAny_isTrue_Compare1 (jD (g:=jG) (m:=mI0 x) (v:=.none) ⋯ ⋯ n ⋯ ⋯ (wpAny_Constant_none ?_)))));rw[show compareOp .IsNot .none .none=pure (.bool false) by rfl'];refine aB (dw ?_);rw[aq (by decide),arm_eval_List];refine aj (bR (aj (dm (wpAny_newList ?_))));have k1:∀b o,h'.get? b=some o->(h'.push {cls:=.type "list",data:=.seq ([]:List Value).toArray}).get? b=some o:=λb o e=>aP _ e;have U:(h'.push {cls:=.type "list",data:=.seq ([]:List Value).toArray}).PlainList h'.objs.size #[]:=⟨0,aL _ rfl⟩;have S1:=S'.low λb o Z e=>k1 b o e;have n1:=n.keeps k1;generalize hLl:h'.objs.size=l at *;generalize h'.push {cls:=.type "list",data:=.seq ([]:List Value).toArray}=h1 at *;refine wpAny_storeName_local ⋯ n1 (λC p Y=>?_) ⋯;have S2:=S1.but n1 Q Y;have lL:l≠L:=eO t;have j:C.PlainList l #[]:=U.at λo e=>(Y.2 l lL).trans e;have k2:∀b o,s.heap.get? b=some o->C.get? b=some o:=λb o e=>(Y.2 b (lt e)).trans (k1 b o (kk b o e));refine bZ (wpAny_If (wpAny_isTrue_Compare1 (Call_Name1 (Jp B (g:=jG) ⋯ ⋯ S2 (X4 B) ⋯ (callWith_type1 (rest:=[]) (cP (jD (g:=jG) (v:=.ref l) ⋯ ⋯ p ⋯ ⋯ (dm (zf j (Jp B (g:=jG) ⋯ ⋯ S2 (V4 B) ⋯ ?_))))))))));rw[show compareOp .IsNot (.type "list") (.type "list")=pure (.bool false) by rfl'];refine aB (dw ?_);rw[aq (by decide)];refine dX ?_;have P:=k2 _ _ hx;have f:=k2 _ _ hd;refine bZ (plainObj_wpAny_Assign_Attribute (jD (g:=jG) (v:=.ref l) ⋯ ⋯ p ⋯ ⋯ (jD (g:=jG) (v:=.ref x) ⋯ ⋯ p ⋯ ⋯ (Od B S2 P f ?_))));have dL:d≠L:=bY (H hd);have X:∀(tk:Tok)(s3:Shared),s3.heap=C.update d (Obj.putName gU (PyData.keyHash w.params gU) (.str gU tk) (.ref l))->(∀h,R (.ok (.ret .none)) (zs s h s3.toks)->R (.ok (.ret .none)) {s3 with heap:=h})->
  wpAny (model pT w) (A.deeper (kY jG L)) (execs [.If (.Constant (.bool true) O N) [.For G (.Name (Str.ofString "headers") M) bd [] J] [] I] (kY jG L)) (λfl s'=>R (.ok (.ret (retV fl))) s') (λZ Z=>False) s3:=λtk s3 e3 hR=>by
  have u:∀b,b≠d->s3.heap.get? b=C.get? b:=λb c=>by rw[e3];exact Heap.get?_update_ne _ _ _ _ c
  have ud:s3.heap.get? d=some (pU w.params tk (.ref l)):=by rw[e3];exact Heap.get?_update_self _ f (by rw[show Obj.putName gU (PyData.keyHash w.params gU) (.str gU tk) (.ref l) emptyDict=pU w.params tk (.ref l)from rfl,pI];rfl)
  have S3:SH w B.f B.q s3.heap:=S2.low λb o c k=>(u b λe=>by
   subst e;rw[f]at k;injection k with k;revert c;refine yO (λc=>?_) (yAE λZ vs hv=>?_)
   ·exact absurd c (bc.mpr V)
   ·rw[<-k]at hv
    cases hv).trans k
  revert p;refine qK λoL es ep T r2=>?_;have n3:=(⟨oL,es,ep,(u L (Ne.symm dL)).trans T,r2⟩:s3.heap.Ns L _);have ld:l≠d:=λe=>by subst e;have:s.heap.get? l=none:=a t;rw[hd]at this;cases this
  have i:s3.heap.PlainList l #[]:=j.at λo e=>(u l ld).trans e;refine bZ (wpAny_If (isTrue_plain (Constant_bool (dw ?_))));rw[ao rfl];refine bZ (Ri (A:=A.deeper (kY jG L)) hh i (λQ' q'=>jD (g:=jG) (v:=.ref l) ⋯ ⋯ n3 ⋯ ⋯ q') (λZ=>rfl) λh q=>?_);refine dX (dX (hR h (hq h l tk _ (S3.low λb o Z e=>q b o e) (λb o c e=>q b o ((u b c).trans (k2 b o e))) (a t) (λe=>?_) ld (q _ _ ud) (i.at λo e=>q _ _ e))));subst e;have:s.heap.get? l=none:=a t;rw[hx]at this;cases this
 exact X _ _ rfl λh z=>z
end
section
variable {w:World}(B:Base w){A:Around}{s:Shared}{E:VP}
theorem yL (N:A.depth+3<recursionLimit)(F:A.handled=none)(S:SH w B.f B.q s.heap){Q:VP}
 (C:∀h' x d l tk c,SH w B.f B.q h'->NewHd w s.heap h' x d l tk->412<=d->412<=x->Q (.ref x) (zs s h' c)):wpAny (model pT w) A (call (.ref 182) [] []) Q E s:=by
 obtain⟨a,J,K,u,j⟩:=s;have X:=S.k;refine qM (λZ L Z Z Z=>?_) (chk (w:=w) (f:=B.f) (q:=B.q));refine wpAny_call (make_core (makes_of X L) (looks_findIn X (hook (i:=2) rfl rfl)) (λh=>bind_fn X h (JD (by simp))) (.inl rfl) ?_);have g:412<=a.objs.size:=S.size;have p:∀b o,a.get? b=some o->((a.push emptyDict).push (instObj 182 a.objs.size)).get? b=some o:=λb o e=>aP _ (aP _ e);have t:((a.push emptyDict).push (instObj 182 a.objs.size)).get? (a.objs.size+1)=some (instObj 182 a.objs.size):=by
  have:=aL (o:=instObj 182 a.objs.size) (a.push emptyDict) rfl
  rwa [dW]at this
 have G:((a.push emptyDict).push (instObj 182 a.objs.size)).get? a.objs.size=some emptyDict:=aP _ (aL _ rfl);have nn:∀{b},a.objs.size<=b->a.get? b=none:=λ{b} H=>by
  cases e:a.get? b with
  |none=>rfl
  |some o=>exact absurd (aZ e) (bc.mpr H)
 refine Wn B (A:=A.under _) (s:=⟨(a.push emptyDict).push (instObj 182 a.objs.size),J,K,u,j⟩) ?_ F (S.low λb o Z e=>p b o e) t G (bY (eF _)) g (λh' l tk c M k y z ld I v=>⟨rfl,?_⟩)
 ·show A.depth+Code.weight (.builtin "type.__call__" ⟨[.ref 182],[]⟩)<_
  have:Code.weight (.builtin "type.__call__" ⟨[.ref 182],[]⟩)<=2:=by decide+kernel
  lia
 ·have m:a.get? l=none:=by
   cases e:a.get? l with
   |none=>rfl
   |some o=>exact nomatch y.symm.trans (p l o e)
  exact C h' (a.objs.size+1) a.objs.size l tk c M ⟨λb o e=>k b o (bY (aZ e)) (p b o e),nn (cC _),nn (bG _),m,eO (eF _),z,ld,k _ _ (eO (eF _)) t,I,v⟩ g (fC g)
end
noncomputable def Cy:Str:=Str.ofString "_convert_string_type"
noncomputable def adA (s q p p4 u t p5 p6 o m l j k g i h f e d c b a):=([.Assign [.Name (Str.ofString "parts") s] (.List [] q) p,
 .If (.Compare (.Name (Str.ofString "_value") p4) [.IsNot] [.Constant .none u t] p5) [.Assign [.Name (Str.ofString "_value") p6] (.Call (.Attribute (.Name (Str.ofString "self") o) Cy m) [.Name (Str.ofString "_value") l] [⟨some (Str.ofString "name"),.Constant (.bool false) k g,j⟩] i) h,
  .Expr (.Call (.Attribute (.Name (Str.ofString "parts") f) (Str.ofString "append") e) [.Name (Str.ofString "_value") d] [] c) b] [] a]:List Stmt)
noncomputable def adB (d c b a h g f bd e):=(.For (.Tuple [.Name (Str.ofString "k") d,.Name (Str.ofString "v") c] b a) (.Call (.Attribute (.Name (Str.ofString "_params") h) (Str.ofString "items") g) [] [] f) bd [] e:Stmt)
noncomputable def adC (p o m p4 p5 p6 q j l k i d h g f e c b a):=(.Expr (.Call (.Attribute (.Attribute (.Name (Str.ofString "self") p) (Str.ofString "_headers") o) (Str.ofString "append") m)
 [.Tuple [.Call (.Attribute (.Name (Str.ofString "self") p4) Cy p5) [.Name (Str.ofString "_name") p6] [⟨some (Str.ofString "name"),.Constant (.bool true) q j,l⟩] k,.Call (.Attribute (.Constant (.str (Str.ofString "; ")) i d) (Str.ofString "join") h) [.Name (Str.ofString "parts") g] [] f] e c] [] b) a:Stmt)
theorem add_fA {G:Prop}(k:∀t s q p4 v u p5 p6 o m p j l h d i c b g a f e,gb.body.take 2=adA t s q p4 v u p5 p6 o m p j l h d i c b g a f e->dJ (.Name (Str.ofString "self") o) m d 2=true->dJ (.Name (Str.ofString "parts") c) b a 1=true->G):G:=k _ _ _ _ _ _ _ _ _ _ _ _ _ _ _ _ _ _ _ _ _ _ rfl rfl rfl
theorem add_fB {G:Prop}(k:∀f e d c h b a bd g,(gb.body.drop 2).take 1=[adB f e d c h b a bd g]->(b.endLine==a.line)=true->G):G:=k _ _ _ _ _ _ _ _ _ rfl rfl
theorem add_fC {G:Prop}(k:∀o m l p4 p5 p6 s p q j e b d i c h g a f,(gb.body.drop 2).drop 1=[adC o m l p4 p5 p6 s p q j e b d i c h g a f]->dJ (.Attribute (.Name (Str.ofString "self") o) (Str.ofString "_headers") m) l a 1=true->dJ (.Name (Str.ofString "self") p4) p5 j 2=true->dJ (.Constant (.str (Str.ofString "; ")) e b) d c 1=true->G):G:=k _ _ _ _ _ _ _ _ _ _ _ _ _ _ _ _ _ _ _ rfl rfl rfl rfl
theorem MP:gb.body=gb.body.take 2++((gb.body.drop 2).take 1++(gb.body.drop 2).drop 1):=by rw[List.take_append_drop,List.take_append_drop]
section
variable {w:World}(B:Base w){A:Around}{s:Shared}{Q:VP}{E:VP}{g:Mine.Fn}{L:Addr}{m:Str->Option Value}
theorem JP (y:A.depth+1<recursionLimit)(c:g.fd.scope.kind=.function){v:Str}{f h q j i p:Pos}{k:Nat}{b:Bool}(C:dJ (.Name (Str.ofString "self") f) h p 2=true)(S:SH w B.f B.q s.heap)(n:s.heap.Ns L m)(ks:g.fd.scope.names.lookup (Str.ofString "self")=some .local)(kv:g.fd.scope.names.lookup v=some .local)
 (e:(v==("__debug__":Str))=false){x l:Addr}(a:m (Str.ofString "self")=some (.ref x))(I:Mine.InstAt [] s.heap x l){t:Str}{tk:Tok}(ht:t∈eE)(u:m v=some (.str t tk))(z:∀h' d,SH w B.f B.q h'->(∀b o,s.heap.get? b=some o->h'.get? b=some o)->Q (.str t tk) (zs s h' d)):
 wpAny (model pT w) A (eval (.Call (.Attribute (.Name (Str.ofString "self") f) Cy h) [.Name v q] [⟨some (Str.ofString "name"),.Constant (.bool b) k j,i⟩] p) (kY g L)) Q E s:=by
 refine Mine.wW C (by rfl) (by rfl) (jD (v:=.ref x) c ks n a ⋯ λF=>(hk B).meth (m:=Cy) (fa:=83) (by decide+kernel) (by decide+kernel) S I ?_);dsimp only;refine callWith_function_kw (o:=yQ iW) (fd:=iW.fd) (evalArgs_kw2 (by rfl) (cP (jD (v:=.str t tk) c kv n u e (dm ?_))));refine kwAll_cons (Constant_bool (kwAll_nil ⟨⟨S.k _ _ (Ce Ph.1),rfl⟩,?_⟩));exact Sh B (vi:=.ref x) y S ht z
end
structure ZC (m:Str->Option Value)(x D:Addr)(a:Str)(ta:Tok):Prop where
 self:m (Str.ofString "self")=some (.ref x)
 name:m (Str.ofString "_name")=some (.str a ta)
 par:m (Str.ofString "_params")=some (.ref D)
theorem ZC.put {m:Str->Option Value}{x D:Addr}{a:Str}{ta:Tok}(M:ZC m x D a ta){y:Str}{v:Value}(b:(Str.ofString "self":Str)≠y)(h2:(Str.ofString "_name":Str)≠y)(h3:(Str.ofString "_params":Str)≠y):ZC (λz=>if z=y then some v else m z) x D a ta:=
 ⟨by rw[aq b];exact M.self,by rw[aq h2];exact M.name,by rw[aq h3];exact M.par⟩
structure Ur (h:Heap)(x d l:Addr)(od:Obj):Prop where
 hx:h.get? x=some (instObj 182 d)
 hd:h.get? d=some od
 at_:lookIn (Str.ofString "_headers") od=some (some (.ref l))
 no:∀y∈gO,lookIn y od=some none
theorem Ur.inst {h:Heap}{x d l:Addr}{od:Obj}(I:Ur h x d l od):Mine.InstAt [] h x l:=⟨by simp,d,od,by simp,I.hx,I.hd,I.at_,I.no⟩
theorem Ur.to {h h':Heap}{x d l:Addr}{od:Obj}(I:Ur h x d l od){L:Addr}(a:x≠L)(dL:d≠L)(k:∀b o,b≠L->h.get? b=some o->h'.get? b=some o):Ur h' x d l od:=⟨k _ _ a I.hx,k _ _ dL I.hd,I.at_,I.no⟩
section
variable {w:World}(B:Base w){A:Around}{s:Shared}{E:VP}{L:Addr}{m:Str->Option Value}
theorem addA (hr:A.depth+1<recursionLimit) {p1 p2 p3 p4 G k2 p5 p6 p7 p8 p9 T V Q u R t q O p N K} (f1:dJ (.Name (Str.ofString "self") p7) p8 u 2=true)(f2:dJ (.Name (Str.ofString "parts") t) q p 1=true)(S:SH w B.f B.q s.heap)(n:s.heap.Ns L m)(hL:412<=L)
 {x D d l:Addr}{od:Obj}{a b:Str}{ta tb:Tok}(M:ZC m x D a ta)(hv:m (Str.ofString "_value")=some (.str b tb))(hb:b∈eE)(I:Ur s.heap x d l od)(xL:x≠L)(dL:d≠L){rest:List Stmt}{Qf:Flow->Shared->Prop}
 (k:∀h' tk m' P,SH w B.f B.q h'->h'.Ns L m'->ZC m' x D a ta->m' (Str.ofString "parts")=some (.ref P)->h'.PlainList P #[.str b tb]->s.heap.get? P=none->P≠L->(∀c o,c≠L->s.heap.get? c=some o->h'.get? c=some o)->
  wpAny (model pT w) A (execs rest (kY gb L)) Qf (λZ Z=>False) (zs s h' tk)):
 wpAny (model pT w) A (execs (adA p1 p2 p3 p4 G k2 p5 p6 p7 p8 p9 T V Q u R t q O p N K++rest) (kY gb L)) Qf (λZ Z=>False) s:=by
 have F:L<s.heap.objs.size:=n.lt;unfold adA;refine bZ (wpAny_Assign_Name ?_);rw[arm_eval_List];refine aj (bR (aj (dm (wpAny_newList ?_))));have G:∀b o,s.heap.get? b=some o->(s.heap.push {cls:=.type "list",data:=.seq ([]:List Value).toArray}).get? b=some o:=λb o e=>aP _ e;have hl1:(s.heap.push {cls:=.type "list",data:=.seq ([]:List Value).toArray}).PlainList s.heap.objs.size #[]:=⟨0,aL _ rfl⟩;have S1:=S.low λb o Z e=>G b o e;have n1:=n.keeps G;have hP:s.heap.get? s.heap.objs.size=none:=Mine.Wd.jT;generalize s.heap.objs.size=P at *;generalize s.heap.push {cls:=.type "list",data:=.seq ([]:List Value).toArray}=h1 at *;have J:P≠L:=eO F;refine wpAny_storeName_local ⋯ n1 (λh2 n2 sb=>?_) ⋯;have S2:=S1.but n1 hL sb;have hl2:h2.PlainList P #[]:=hl1.at λo e=>(sb.2 P J).trans e;have z:∀c o,c≠L->s.heap.get? c=some o->h2.get? c=some o:=λc o f e=>(sb.2 c f).trans (G c o e);have M2:=M.put (y:=Str.ofString "parts") (v:=.ref P) (by decide+kernel) (by decide+kernel) (by decide+kernel);have I2:=(I.to xL dL z).inst;refine bZ (wpAny_If (wpAny_isTrue_Compare1 (jD (g:=gb) (v:=.str b tb) ⋯ ⋯ n2 (by rw[aq (by decide+kernel)];exact hv) ⋯ (wpAny_Constant_none ?_))));rw[show compareOp .IsNot (.str b tb) .none=pure (.bool true) by rfl'];refine aB (dw ?_);rw[ao rfl];refine bZ (wpAny_Assign_Name (JP B (g:=gb) (l:=l) hr ⋯ f1 S2 n2 ⋯ ⋯ ⋯ M2.self I2 hb (by rw[aq (by decide+kernel)];exact hv) λh3 t3 S3 k3=>?_));have n3:=n2.keeps k3;have Y:h3.PlainList P #[]:=hl2.at λo e=>k3 _ _ e;refine wpAny_storeName_local ⋯ n3 (λh4 n4 i=>?_) ⋯;have S4:=S3.but n3 hL i;have j:h4.PlainList P #[]:=Y.at λo e=>(i.2 P J).trans e;have U:∀c o,c≠L->s.heap.get? c=some o->h4.get? c=some o:=λc o f e=>(i.2 c f).trans (k3 c o (z c o f e));have M4:=M2.put (y:=Str.ofString "_value") (v:=.str b tb) (by decide+kernel) (by decide+kernel) (by decide+kernel);refine bZ (wpAny_Expr (Mine.jk f2 (by rfl) (jD (g:=gb) (v:=.ref P) ⋯ ⋯ n4 ⋯ ⋯ λpl=>Mine.uR slot_list_append type_list_append j (callWith_method1 (cP (jD (g:=gb) (v:=.str b tb) ⋯ ⋯ n4 ⋯ ⋯ (dm (wpAny_list_append_plain j (λh5 X h=>?_)))))))));have S5:SH w B.f B.q h5:=S4.low λc o f H=>(h.2 c λe=>by
  subst e;revert j;refine yE λep hp=>?_;rw[hp]at H;injection H with H;revert f;refine yO (λf=>?_) (yAE λZ vs C=>?_)
  ·exact absurd (d9 f hL) (bc.mpr (cD F))
  ·rw[<-H]at C
   cases C).trans H
 have n5:h5.Ns L _:=n4.sameBut h (Ne.symm J);refine dX (k h5 _ _ P S5 n5 M4 ⋯ X hP J λc o f e=>(h.2 c λe'=>?_).trans (U c o f e));subst e';rw[hP]at e;cases e
end
theorem Pu:(eE.all λt=>Nat.ble t.length 100)=true:=by decide+kernel
section
variable {w:World}(B:Base w){A:Around}{s:Shared}{E:VP}{L:Addr}{m:Str->Option Value}
theorem addB (N:A.handled=none) {G F C z I l j bd H} (T:(l.endLine==j.line)=true)(S:SH w B.f B.q s.heap)(n:s.heap.Ns L m){x D:Addr}{a:Str}{ta:Tok}(M:ZC m x D a ta)(R:s.heap.get? D=some emptyDict)(V:D≠L)(X:412<=D)(U:412<=L){rest:List Stmt}{y:Flow->Shared->Prop}
 (k:∀h' tk,SH w B.f B.q h'->h'.Ns L m->(∀c o,c≠L->s.heap.get? c=some o->h'.get? c=some o)->wpAny (model pT w) A (execs rest (kY gb L)) y (λZ Z=>False) (zs s h' tk)):
 wpAny (model pT w) A (execs (adB G F C z I l j bd H::rest) (kY gb L)) y (λZ Z=>False) s:=by
 unfold adB;have Q:(D==sysModules)=false:=by rw[beq_eq_false_iff_ne];intro e;subst e;exact absurd X (by decide)
 refine bZ (wpAny_For_items_locals (knd:=strKind pT w) (d:=D) (kvs:=[]) (ep:=0) (m:=m) N ⋯ ⋯ ⋯ V Q ⟨_,#[],R,⟨rfl,rfl,rfl⟩,rfl,λe O=>by simp at O,.nil,List.nodup_nil⟩ n (Mine.vm rfl) T
  (λQ' J=>jD (g:=gb) (v:=.ref D) ⋯ ⋯ n M.par ⋯ J) (λZ p=>p=m) rfl (λi k' v' key m1 h e=>by simp at e) (λh' tk p K e q=>?_))
 subst e;refine k h' tk (S.low λc o f u=>q c o (λe=>?_) u) K q;revert n;refine iQ λo' es ep b P Z=>?_;have e:c=L:=e;subst e;rw[u]at b;injection b with b;subst b;revert f;refine yO (λf=>?_) (yAE λZ Y t=>?_)
 ·exact absurd f (bc.mpr U)
 ·rw[P]at t
  cases t
theorem hd_ev {g:Mine.Fn}(a:g.fd.scope.kind=.function)(ks:g.fd.scope.names.lookup (Str.ofString "self")=some .local){q p:Pos}(S:SH w B.f B.q s.heap)(n:s.heap.Ns L m){x l:Addr}(hs:m (Str.ofString "self")=some (.ref x))(I:Mine.InstAt [] s.heap x l){Q:VP}(b:∀t,Q (.ref l) {s with toks:=t}):
 wpAny (model pT w) A (eval (.Attribute (.Name (Str.ofString "self") q) (Str.ofString "_headers") p) (kY g L)) Q E s:=by
 rw[arm_eval_Attribute,Mine.vm rfl];refine aj (jD (v:=.ref x) a ks n hs ⋯ ?_);exact aj (bR (aj (bF ((hk B).attr S I λt=>aj (wpAny_letTemporaryGo (aB (b t)))))))
theorem addC (hr:A.depth+1<recursionLimit) {p1 p2 p3 p4 p5 p6 k9 p9 p7 p8 C u z U y R Q q O} (f4:dJ (.Attribute (.Name (Str.ofString "self") p1) (Str.ofString "_headers") p2) p3 q 1=true)(f5:dJ (.Name (Str.ofString "self") p4) p5 p8 2=true)(f6:dJ (.Constant (.str (Str.ofString "; ")) C u) z y 1=true)
 (S:SH w B.f B.q s.heap)(n:s.heap.Ns L m)(hL:412<=L){x D d l P:Addr}{od:Obj}{a b:Str}{ta tb:Tok}(M:ZC m x D a ta)(ha:a∈eE)(hb:b∈eE)(I:Ur s.heap x d l od)(hP:m (Str.ofString "parts")=some (.ref P))(p:s.heap.PlainList P #[.str b tb]){items:Array Value}(hl:s.heap.PlainList l items)(hz:items.size<=1000000)(l4:412<=l){Qf:Flow->Shared->Prop}
 (k:∀h' tk T N,SH w B.f B.q h'->(∀c o,c≠l->s.heap.get? c=some o->h'.get? c=some o)->s.heap.get? T=none->h'.IsTuple T #[.str a ta,.str b N]->h'.PlainList l (items.push (.ref T))->Qf .next (zs s h' tk)):
 wpAny (model pT w) A (execs [adC p1 p2 p3 p4 p5 p6 k9 p9 p7 p8 C u z U y R Q q O] (kY gb L)) Qf (λZ Z=>False) s:=by
 unfold adC;refine bZ (wpAny_Expr (Mine.jk f4 (by rfl) (hd_ev B (g:=gb) ⋯ ⋯ S n M.self I.inst λt pl=>Mine.uR slot_list_append type_list_append hl (callWith_method1 (cP ?_)))));rw[arm_eval_Tuple];refine aj (bR (aj (cP (JP B (s:={s with toks:=t}) (g:=gb) (l:=l) hr ⋯ f5 S n ⋯ ⋯ ⋯ M.self I.inst ha M.name λf t1 S1 J=>cP (Mine.jk f6 (by rfl) (Constant_str λpl=>?_))))));have X:f.PlainList P #[.str b tb]:=p.at λo e=>J _ _ e;have H:f.PlainList l items:=hl.at λo e=>J _ _ e;have n1:=n.keeps J;refine PySem.GM.join (callWith_method1 (cP (jD (g:=gb) (v:=.ref P) ⋯ ⋯ n1 hP ⋯ (dm (Mine.Js (ts:=[b]) X.isList (.cons b tb .nil) (show 1<=1000 by decide) ?_ (by decide+kernel) λj k'=>dm (wpAny_newTuple ?_))))))
 ·rw[List.all_cons,List.all_nil,Bool.and_true]
  exact aU.mp Pu b hb
 have Y:∀c o,f.get? c=some o->(f.push {cls:=.type "tuple",data:=.seq [Value.str a ta,Value.str (Str.join (Str.ofString "; ") [b]) j].toArray}).get? c=some o:=λc o e=>aP _ e;have hT:(f.push {cls:=.type "tuple",data:=.seq [Value.str a ta,Value.str (Str.join (Str.ofString "; ") [b]) j].toArray}).IsTuple f.objs.size #[.str a ta,.str b j]:=⟨_,aL _ rfl,rfl,0,rfl⟩;have nT:f.get? f.objs.size=none:=Mine.Wd.jT;have S2:=S1.low λb o Z e=>Y b o e;have G:(f.push {cls:=.type "tuple",data:=.seq [Value.str a ta,Value.str (Str.join (Str.ofString "; ") [b]) j].toArray}).PlainList l items:=H.at λo e=>Y _ _ e;refine dm ?_;refine wpAny_list_append_plain (s:={s with heap:=f.push {cls:=.type "tuple",data:=.seq [Value.str a ta,Value.str (Str.join (Str.ofString "; ") [b]) j].toArray},toks:=k'}) G (λh3 V h=>?_) (aA hz (by rw[sizeLine_eq];decide));have S3:SH w B.f B.q h3:=S2.low λc o K i=>(h.2 c λe=>by
  subst e;revert G;refine yE λep p=>?_;rw[p]at i;injection i with i;revert K;refine yO (λK=>?_) (yAE λZ vs F=>?_)
  ·exact absurd K (bc.mpr l4)
  ·rw[<-i]at F
   cases F).trans i
 have Tl:f.objs.size≠l:=λe=>by revert H;refine yE λep p=>?_;rw[<-e,nT]at p;cases p
 refine dX (k h3 _ f.objs.size j S3 (λc o K e=>(h.2 c K).trans (Y c o (J c o e))) ?_ ?_ V)
 ·cases e:s.heap.get? f.objs.size with
  |none=>rfl
  |some o=>
   have:=J _ _ e;rw[nT]at this;cases this
 ·revert hT;refine cW λo i r=>?_
  exact⟨o,(h.2 _ Tl).trans i,r⟩
end
section
variable {w:World}(B:Base w){A:Around}{s:Shared}{E:VP}
noncomputable def TQ (x:Addr)(a b:Str)(ta tb:Tok)(D:Addr):List (Str×Value):=[(Str.ofString "self",.ref x),(Str.ofString "_name",.str a ta),(Str.ofString "_value",.str b tb),(Str.ofString "_params",.ref D)]
theorem add_ok (hr:A.depth+3<recursionLimit)(hh:A.handled=none)(S:SH w B.f B.q s.heap){x d l:Addr}{od:Obj}(I:Ur s.heap x d l od)(l4:412<=l){items:Array Value}(hl:s.heap.PlainList l items)(hz:items.size<=1000000){a b:Str}{ta tb:Tok}(ha:a∈eE)(hb:b∈eE){Q:VP}
 (hq:∀h' tk T k,SH w B.f B.q h'->(∀c o,c≠l->s.heap.get? c=some o->h'.get? c=some o)->s.heap.get? T=none->h'.IsTuple T #[.str a ta,.str b k]->h'.PlainList l (items.push (.ref T))->Q .none (zs s h' tk)):
 wpAny (model pT w) A (call (.ref 179) [.ref x,.str a ta,.str b tb] []) Q E s:=by
 have j:∀c o,s.heap.get? c=some o->(s.heap.push emptyDict).get? c=some o:=λc o e=>aP _ e;refine Av (g:=gb) B pl_add (by omega) (binds:=TQ x a b ta tb s.heap.objs.size) (s₁:={s with heap:=s.heap.push emptyDict}) S (λQ' E' q'=>by
  rw[show bindArgs gb.fd ⟨[.ref x,.str a ta,.str b tb],[]⟩=(alloc emptyDict >>= λD=>pure (TQ x a b ta tb D)) by rfl'];exact aj (wpAny_alloc (aB q'))) j
  (λy U=>by unfold TQ at U;simp only[au,bh,cA]at U;rcases U with rfl|rfl|rfl|rfl<;>rfl') (λh' S' n i=>?_)
 refine add_fA λp1 p2 p3 p4 k_1 k_2 p5 p6 p7 p8 p9 p10 k13 p13 p11 p12 p14 p15 p16 p17 p18 p19 e1 f1 f2=>?_;refine add_fB λt1 t2 t3 t4 q1 q2 q3 bd q4 e2 f3=>?_;refine add_fC λr1 r2 r3 r4 r5 r6 k9 r9 r7 r8 k14 r14 r10 r11 r12 r13 r15 r16 r17 e3 f4 f5 f6=>?_;rw[MP,e1,e2,e3];have Z:(s.heap.push emptyDict).get? s.heap.objs.size=some emptyDict:=aL _ rfl;have m:412<=s.heap.objs.size:=S.size;have G:(s.heap.push emptyDict).objs.size=s.heap.objs.size+1:=dW ..;have V:412<=(s.heap.push emptyDict).objs.size:=by rw[G];exact fC m
 have f:∀{c o},s.heap.get? c=some o->c≠(s.heap.push emptyDict).objs.size:=λ{c o} e=>bY (aZ (j c o e));have DL:s.heap.objs.size≠(s.heap.push emptyDict).objs.size:=bY (aZ Z);have v:∀{c},(s.heap.push emptyDict).get? c=none->s.heap.get? c=none:=λ{c} e=>by
  cases q:s.heap.get? c with
  |none=>rfl
  |some o=>exact nn (e.symm.trans (j c o q))
 have n:h'.Ns (s.heap.push emptyDict).objs.size (λy=>(TQ x a b ta tb s.heap.objs.size).reverse.lookup y):=n;have i:∀c o,(s.heap.push emptyDict).get? c=some o->h'.get? c=some o:=i;have O:=i _ _ Z;show wpAny (model pT w) (A.deeper (kY gb (s.heap.push emptyDict).objs.size)) (execs _ (kY gb (s.heap.push emptyDict).objs.size)) _ _ _;generalize (s.heap.push emptyDict).objs.size=L at *;generalize s.heap.objs.size=D at *;have I':Ur h' x d l od:=⟨i _ _ (j _ _ I.hx),i _ _ (j _ _ I.hd),I.at_,I.no⟩;have R:=f I.hx;have dL:=f I.hd;have Y:l≠L:=by revert hl;refine yE λep h=>?_;exact f h
 have M:h'.PlainList l items:=hl.at λo e=>i _ _ (j _ _ e);have M0:ZC (λy=>(TQ x a b ta tb D).reverse.lookup y) x D a ta:=⟨⋯,⋯,⋯⟩;have p:(A.deeper (kY gb L)).depth+1<recursionLimit:=by show A.depth+1+1<_;exact cD ‹_›
 refine addA B (A:=A.deeper (kY gb L)) p f1 f2 (s:=(zs s h' _)) S' n V (l:=l) (b:=b) (tb:=tb) M0 ⋯ hb I' R dL λh2 F m2 P S2 n2 M2 N H nP PL u=>?_;refine addB B (A:=A.deeper (kY gb L)) hh f3 (s:=(zs s h2 F)) S2 n2 M2 (u _ _ DL O) DL m V λX C S3 n3 t=>?_;have I3:Ur X x d l od:=(I'.to R dL u).to R dL t;have K:X.PlainList l items:=(M.at λo e=>u _ _ Y e).at λo e=>t _ _ Y e;refine addC B (A:=A.deeper (kY gb L)) p f4 f5 f6 (s:=(zs s X C)) S3 n3 V M2 ha hb I3 N (H.at λo e=>t _ _ PL e) K hz l4 λh4 z T k S4 k4 nT hT J=>?_;refine hq h4 z T k S4 (λc o hc e=>k4 c o hc (t c o (f e) (u c o (f e) (i c o (j c o e))))) ?_ hT J;cases e:s.heap.get? T with
 |none=>rfl
 |some o=>
  have:=t T o (f e) (u T o (f e) (i T o (j T o e)));rw[nT]at this;cases this
end
theorem P0F {x:Str}{ds:List D}{kds:List (Str×D)}{d:D}(e:P0.callF x ds kds=some d):(x=Str.ofString "Headers"/\ds=[]/\kds=[]/\d=.inst [])\/(x=Str.ofString "Headers._convert_string_type"/\∃hs t b,ds=[.inst hs,.str t]/\kds=[(Str.ofString "name",.bool b)]/\t∈eE/\d=.str t):=by
 by_cases c:x=Str.ofString "Headers"
 ·have e:l0 none ds (l0 none kds (some (.inst [])))=some d:=(ao c).symm.trans e
  refine lV (l:=ds) cH e λe=>lV (l:=kds) cH e λe=>?_;injection e with e;exact .inl ⟨c,rfl,rfl,e.symm⟩
 ·have e:=(aq c).symm.trans e
  by_cases f:x=Str.ofString "Headers._convert_string_type"
  ·have e:=(ao f).symm.trans e
   refine pH (l:=ds) cH e λa b e=>Fx (x:=a) cH e λhs e=>rz (x:=b) cH e λt e=>jo (l:=kds) cH e λp e=>?_;obtain⟨n,p⟩:=p;refine Ia (x:=p) cH e λb e=>?_;by_cases h:n=Str.ofString "name"/\eE.contains t
   ·have e:=(ao h).symm.trans e
    injection e with e;exact .inr ⟨f,hs,t,b,rfl,by rw[h.1],dC.mp h.2,e.symm⟩
   ·exact nn ((aq h).symm.trans e)
  ·exact nn ((aq f).symm.trans e)
theorem P0O {x:Str}{ds:List D}{kds:List (Str×D)}{d:D}(e:P0.callO x ds kds=some d):x=Str.ofString "Headers.add_header"/\∃hs a b,ds=[.inst hs,.str a,.str b]/\kds=[]/\a∈eE/\b∈eE/\small hs.length=true/\d=.inst (hs++[.tuple [.str a,.str b]]):=by
 by_cases c:x=Str.ofString "Headers.add_header"
 ·have e:=(ao c).symm.trans e
  refine nJ (l:=ds) cH e λo ds e=>pH (l:=ds) cH e λa b e=>Fx (x:=o) cH e λhs e=>rz (x:=a) cH e λa e=>rz (x:=b) cH e λb e=>lV (l:=kds) cH e λe=>?_;by_cases h:eE.contains a/\eE.contains b/\small hs.length
  ·have e:=(ao h).symm.trans e
   injection e with e;exact⟨c,hs,a,b,rfl,rfl,dC.mp h.1,dC.mp h.2.1,h.2.2,e.symm⟩
  ·exact nn ((aq h).symm.trans e)
 ·exact nn ((aq c).symm.trans e)
@[elab_as_elim] theorem Zx {C:Str->List D->List (Str×D)->D->Prop}{x:Str}{ds:List D}{kds:List (Str×D)}{d:D}(e:P0.callF x ds kds=some d)(c:C (Str.ofString "Headers") [] [] (.inst []))(h2:∀hs t b,t∈eE->C (Str.ofString "Headers._convert_string_type") [.inst hs,.str t] [(Str.ofString "name",.bool b)] (.str t)):C x ds kds d:=by
 rcases P0F e with⟨rfl,rfl,rfl,rfl⟩|⟨rfl,hs,t,b,rfl,rfl,a,rfl⟩
 ·exact c
 ·exact h2 hs t b a
@[elab_as_elim] theorem Zw {C:Str->List D->List (Str×D)->D->Prop}{x:Str}{ds:List D}{kds:List (Str×D)}{d:D}(e:P0.callO x ds kds=some d)(h:∀hs a b,a∈eE->b∈eE->small hs.length=true->C (Str.ofString "Headers.add_header") [.inst hs,.str a,.str b] [] (.inst (hs++[.tuple [.str a,.str b]]))):C x ds kds d:=by obtain⟨rfl,hs,a,b,rfl,rfl,g,f,c,rfl⟩:=P0O e;exact h hs a b g f c
@[elab_as_elim] theorem osE {α:Type}{C:α->Prop}{o:Option α}{a b:α}(h:o=some b)(e:o=some a)(k:C b):C a:=aH (h.symm.trans e)▸k
section
variable {p:Program}{w:World}{bad:List Addr}{h:Heap}
@[elab_as_elim] theorem nilV {C:List Value->Prop}{vs:List Value}(r:fB p w bad h vs [])(k:C []):C vs:=by cases r;exact k
@[elab_as_elim] theorem oneV {C:List Value->Prop}{vs:List Value}{a:D}(r:fB p w bad h vs [a])(k:∀u,RD p w bad h u a->C [u]):C vs:=by cases r with|cons x r=>cases r;exact k _ x
@[elab_as_elim] theorem twoV {C:List Value->Prop}{vs:List Value}{a b:D}(r:fB p w bad h vs [a,b])(k:∀u v,RD p w bad h u a->RD p w bad h v b->C [u,v]):C vs:=by cases r with|cons x r=>exact oneV r λZ y=>k _ _ x y
@[elab_as_elim] theorem Z9 {C:Value->Prop}{v:Value}{x:Str}(r:RD p w bad h v (.str x))(k:∀t,C (.str x t)):C v:=by cases r;exact k _
@[elab_as_elim] theorem boolV {C:Value->Prop}{v:Value}{b:Bool}(r:RD p w bad h v (.bool b))(k:C (.bool b)):C v:=by cases r;exact k
end
theorem fA_h:fA (Str.ofString "Headers")=some 182:=by decide+kernel
theorem fA_c:fA (Str.ofString "Headers._convert_string_type")=some 83:=by decide+kernel
theorem fA_a:fA (Str.ofString "Headers.add_header")=some 179:=by decide+kernel
section
variable {w:World}(B:Base w)
theorem Jz {h:Heap}(S:SH w B.f B.q h){l:Addr}(e:h.get? l=none):412<=l:=by
 refine Nat.le_of_not_lt λq=>?_;by_cases t:l∈Tb
 ·refine cW (λc a Z=>?_) (S.tab l t)
  rw[e]at a;cases a
 ·refine cW (λo b Z=>?_) (ik (wA (w:=w) (f:=B.f) (q:=B.q)) q)
  have:=S.obj l o q t b;rw[e]at this;cases this
theorem vQ {bad:List Addr}{h:Heap}(a:gV bad h){b:Addr}(e:h.get? b=none):b∉bad:=λq=>by have:=(a.old b q).1.alive;rw[e]at this;cases this
theorem O9:xJ B.W fA P0 where
 domF:=λx J m d e=>Zx e ⟨_,fA_h⟩ λZ Z Z Z=>⟨_,fA_c⟩
 domO:=λx J m d e=>Zw e λZ Z Z Z Z Z=>⟨_,fA_a⟩
 callF:=λ{x J m d a A bad vs L s Q E} e=>by
  refine Zx e (λu=>osE fA_h u λR S g F=>nilV F λH=>nilV H λG=>?_) (λV t b ht u=>osE fA_c u λR S g F=>twoV F λv1 v2 r1 r2=>Z9 r2 λtk H=>oneV H λv3 r3=>boolV r3 λG=>?_)
  ·have X:=R.depth
   refine yL B (by lia) R.hd S λi x d l tk j v N d4 x4=>G (.ref x) i j ?_ (λb o Z e=>N.keep b o e) v;exact .inst ⟨vQ g N.nx,d,_,vQ g N.nd,N.hx,N.hd,wM _ _ _,λy U=>mH (yN w.params tk (.ref l)) U⟩ (vQ g N.nl) N.hl .nil
  ·have X:=R.depth
   exact Sh B (by omega) S ht λi tk v k=>G _ i tk (.str _ _) (λb o Z e=>k b o e) v
 hd:=λ{d a A bad s Q E} e=>by
  refine osE (show P0.callF (Str.ofString "Headers") [] []=some (.inst []) by rfl') e λu=>osE fA_h u λR S g G=>?_;have X:=R.depth;refine yL B (by lia) R.hd S λi x d l tk j v N d4 x4=>G (.ref x) l i j N.nl (Jz B S N.nl) ?_ (λb o Z e=>N.keep b o e) v;have nb:∀{b},b∉bad->l≠b->b∉l::bad:=λh1 h2 q=>by
   refine aC (au.mp q) (λq=>?_) (λq=>?_)
   ·exact h2 q.symm
   ·exact h1 q
  refine⟨.head _,λq=>?_,#[],[],N.hl,.nil,.inr ⟨rfl,x,rfl,nb (vQ g N.nx) N.xl,d,_,nb (vQ g N.nd) N.dl,N.hx,N.hd,wM _ _ _,λy U=>mH (yN w.params tk (.ref l)) U⟩⟩;exact absurd (Mine.kj l q) (bc.mpr (Jz B S N.nl))
 callO:=λ{x z J m d a l A bad v0 vs L s Q E} e=>by
  generalize hD:z::J=D at e;revert hD;refine Zw e λV p q hp hq M hD=>?_;cases hD;refine λu=>osE fA_a u λR S g O F=>twoV F λv1 v2 r1 r2=>Z9 r1 λta=>Z9 r2 λtb H=>nilV H λG=>?_;have X:=R.depth;revert O;refine rQ λC lt f hs' hl rs c=>?_;revert c;refine yO (yA λh Z=>nomatch h) (nG λh x e I=>?_);cases h;cases e;have l4:412<=l:=((g.old l C).2).resolve_left lt;revert I;refine Df λxb d od db e1 e2 e3 e4=>?_;have hz:f.size<=1000000:=by have:=rs.length;rw[cX]at this;rw[this];exact Mine.gR M
  refine add_ok B (by lia) R.hd S ⟨e1,e2,e3,e4⟩ l4 hl hz hp hq λi tk T K v k nT hT P=>G i tk ?_ (λb o Z Y e=>k b o Y e) v;have xl:x≠l:=λe=>xb (e▸C);have dl:d≠l:=λe=>db (e▸C);have kb:∀b o,b∉bad->s.heap.get? b=some o->i.get? b=some o:=λb o Y e=>k b o (λq=>Y (q▸C)) e;refine⟨C,lt,f.push (.ref T),V++[.tuple [.str p,.str q]],P,?_,.inr ⟨rfl,x,rfl,xb,d,od,db,k _ _ xl e1,k _ _ dl e2,e3,e4⟩⟩;have:fB pT w bad i (f.toList++[.ref T]) (V++[.tuple [.str p,.str q]]):=(rs.mono kb).append (.cons (.tuple (vQ g nT) hT (.cons (.str p ta) (.cons (.str q K) .nil))) .nil);simpa using this
end
theorem yw {R:WRecords}:∀{xs:List WData},WShape.hasItems R xs .int=true->∃a:List Int,xs=a.map .int
 |[],_=>⟨[],rfl⟩
 |x::xs,h=>by
  have h:(WShape.has R x .int&&WShape.hasItems R xs .int)=true:=by simpa[WShape.hasItems]using h
  refine yA (λd c=>?_) (az.mp h);refine yE (λi b=>?_) (hasW_int d);subst b;refine yE (λa b=>?_) (yw c);subst b;exact⟨i::a,rfl⟩
theorem lay_ints {R:WRecords}{c:Str->Option Addr}{P:Params}{ord:List DictEntry->List DictEntry}{bad:List Addr}{w:World}{h:Heap}:∀{a:List Int}{s s':Shared}{vs:List Value},layAllW R c P ord (a.map .int) s=some (vs,s')->fB pT w bad h vs (a.map .int)
 |[],s,s',vs,e=>by have e:some (([]:List Value),s)=some (vs,s'):=e;injection e with e;injection e with b d;subst b;exact .nil
 |i::a,s,s',vs,e=>by
  have e:(match layAllW R c P ord (a.map .int) {s with toks:=s.toks+1}with
   |some r=>some ((.int i s.toks::r.1,r.2):List Value×Shared)
   |none=>none)=some (vs,s'):=e
  cases q:layAllW R c P ord (a.map .int) {s with toks:=s.toks+1}with
  |none=>rw[q]at e;exact nn e
  |some r=>
   rw[q]at e;injection e with e;injection e with b d;subst b;exact .cons (.int i _) (lay_ints (s':=r.2) q)
theorem Qs {R:WRecords}{c:Str->Option Addr}{P:Params}{ord:List DictEntry->List DictEntry}{w:World}{b:List Int}{s s':Shared}{vs:List Value}(e:layAllW R c P ord [.list (b.map .int)] s=some (vs,s')):
 ∃a items,vs=[.ref a]/\s'.heap.PlainList a items/\∀bad h,fB pT w bad h items.toList (b.map .int):=by
 have e:(match (match layAllW R c P ord (b.map .int) s with
  |some r=>some ((.ref r.2.heap.objs.size,{r.2 with heap:=r.2.heap.push {cls:=.type "list",data:=.seq r.1.toArray}}):Value×Shared)
  |none=>none)with
  |some a=>some (([a.1],a.2):List Value×Shared)
  |none=>none)=some (vs,s'):=e
 cases q:layAllW R c P ord (b.map .int) s with
 |none=>rw[q]at e;exact nn e
 |some r=>
  rw[q]at e;injection e with e;injection e with f d;subst f d;exact⟨_,r.1.toArray,rfl,⟨0,aL _ rfl⟩,λbad h=>by simpa using lay_ints (s':=r.2) q⟩
theorem Ht (w:World)(h h':Heap)(K:Kept w h)(k:∀b o,h.get? b=some o->h'.get? b=some o):Kept w h':=by revert K;refine mG λf q a e=>?_;exact⟨f,q,a,λb o x=>k b o (e b o x)⟩
section
variable {w:World}(B:Base w)
theorem old_ok {h h':Heap}(S:SH w B.f B.q h)(d:∀P∈Tb,h.get? P=some (tabObj #[]))(X:Ext h h')(i:SH w B.f B.q h'):OldK h h':=by
 have j:=(lD (w:=w) (f:=B.f) (q:=B.q)).2.2.2.2.2;refine yA (λl k=>?_) (az.mp j);have tab:∀P∈Tb,isCodeTable h P:=λP a=>by
  have:P=386\/P=391:=by simpa[Tb]using a
  rcases this with rfl|rfl
  ·exact((Jx S.k l (by decide)).tab (d _ a)).isCodeTable
  ·exact((Jx S.k k (by decide)).tab (d _ a)).isCodeTable
 refine⟨λb o e=>?_,λb o e=>?_⟩
 ·by_cases t:b∈Tb
  ·rw[d b t]at e
   injection e with e;subst e;refine cW (λg c Z=>?_) (i.tab b t);exact .inr (.inl ⟨tab b t,rfl,#[],g,rfl,by rw[c];simp⟩)
  ·exact .inl (X b o t e)
 ·by_cases t:b∈Tb
  ·refine cW (λg c Z=>?_) (i.tab b t)
   exact⟨_,c⟩
  ·exact⟨o,X b o t e⟩
theorem room:fj 37 callerA:=⟨rfl,by decide+kernel,by decide+kernel⟩
end
noncomputable abbrev oJ:OpenRow:=PySem.Challenge.rw_ti0078_01.row
theorem tabs0 {w:World}{f:Nat->DE}{q:Pos}{h:Heap}(k:∀b o,(S4 (eU pT w) f q w.params).heap.get? b=some o->h.get? b=some o):∀P∈Tb,h.get? P=some (tabObj #[]):=λP l=>by
 refine qM (λu t x v s=>?_) (tW (w:=w) (f:=f) (q:=q));have l1:(logOf (r1 (eU pT w) w.params)).length=1:=by
  have:=bD List.length u
  rwa [ak]at this
 have l2:(logOf (r2 (eU pT w) f q w.params)).length=4:=by
  have:=bD List.length t
  rwa [ak]at this
 obtain⟨a,b,c,d,e,_,_,_,_,_,_,_,_,p,m⟩:=Ig l1 l2 s;have g:(TW w f q).get P=some ⟨.none,none,.fields #[],#[]⟩:=by
  have j:P=386\/P=391:=by simpa[Tb]using l
  rcases j with rfl|rfl
  ·exact p
  ·exact m
 have i:P<412:=Mine.kj P l;exact k P _ ((G9 _ _ _ _ i g).trans rfl)
theorem Vq (xs:List WData):(WTm.lt (.lit (.int 63)) (.len (.arg 0))).value oJ.records {args:=[.list xs]}=some (.bool (decide ((63:Int)<(xs.length:Int)))):=⋯
theorem Pa:oJ.pre=.and (.not (.lt (.lit (.int 63)) (.len (.arg 0)))) (.lit (.bool true)):=⋯
theorem XN {R:WRecords}{a b:WTm}{e:WCtx}(h:a.value R e=some (.bool true)):(WTm.and (.not a) b).holds R e=false:=by simp only[WTm.holds,WTm.value,h];rfl
theorem Vr {xs:List WData}(h:oJ.pre.holds oJ.records {args:=[.list xs]}=true):xs.length<=63:=by
 rw[Pa]at h;have v:=Vq xs;by_cases q:(63:Int)<(xs.length:Int)
 ·rw[bW q]at v
  rw[XN v]at h;cases h
 ·omega
theorem noHead:qH (Str.ofString "Headers")=none:=by decide+kernel
theorem fA_law:fA (Str.ofString "law")=some 411:=by decide+kernel
theorem Xi (w:World)(i s₁:Shared)(mg mb:Str->Option Value)(G:Ground qV qU oJ.records (λZ Z=>True) w i mg mb s₁.heap)(K:Kept w s₁.heap)(args:List WData)(vs:List Value)(as:List Addr)(j:oJ.claim.pre args=true)(C:WData.layableAll args=true)
 (L:Laid oJ.records w i s₁ args vs as)(F:sysModules<i.heap.objs.size):∃f,mg oJ.name=some f/\wpAny (model oJ.prog w) callerA (PySem.call f vs) (λv s'=>GoodWG oJ.claim (classAt i.heap) (ExcName.means i.heap) args s₁ (.ok (.ret v)) s')
  (λe s'=>GoodWG oJ.claim (classAt i.heap) (ExcName.means i.heap) args s₁ (.error e) s') s₁:=by
 revert K;refine mG λf q M k=>?_;have B:Σ' (B:Base w),B.f=f/\B.q=q/\B.h₁=s₁.heap/\B.mg=mg:=⟨⟨f,q,M,s₁.heap,SH.start k,mg,mb,G.T.g,G.T.b,G.T.nolimit⟩,rfl,rfl,rfl,rfl⟩;obtain⟨B,rfl,rfl,Y,J⟩:=B;have S:SH w B.f B.q s₁.heap:=SH.start k;refine⟨.ref 411,by rw[<-J];exact B.at (by decide+kernel),?_⟩;refine yA (λs I=>?_) (pre_splitW j);refine fW (λd r h P x=>?_) (hasAllW_cons s);subst h;have x:=hasAllW_nil x;subst x;refine cW (λV h O=>?_) (hasW_list P);subst h;refine yE (λm h=>?_) (yw O);subst h;have l:m.length<=63:=by
  have:=Vr I
  rwa [ak]at this
 refine cW (λE z hl=>?_) L.laid;refine fW (λa p h g u=>?_) (Qs (w:=w) hl);subst h;have R:=Mine.Oq (hk B) (ft_ok B) (O9 B) noHead 33;have y:=tabs0 k;have H:a∉Tb:=λt=>by revert g;refine yE λep g=>?_;rw[y a t]at g;injection g with g;cases g
 have U:gV Tb s₁.heap:=⟨λb o=>o,λb o=>⟨⟨_,y b o,λc=>by cases c.1⟩,.inl o⟩⟩;refine R.callF (A:=callerA) (bad:=Tb) (kds:=[]) (kvs:=[]) (Mine.Wc 0 m l) fA_law room S U (.cons (.list H g (u _ _)) .nil) .nil λv h' tk T X Q=>?_;cases T;exact⟨.inl ⟨_,.bool true,[],rfl,λZ=>rfl,.bool true,⋯,λZ=>⟨List.nodup_nil,λa N=>by cases N⟩⟩,old_ok B S y X Q,rfl,.of_eq L.gens⟩
theorem Wb:(defOf qV (Str.ofString "law")).isSome=true:=⋯
noncomputable def dk:DefRec×List (Str×Expr):=(defOf qV (Str.ofString "law")).get Wb
theorem law_at:defOf qV oJ.name=some (dk.1,dk.2):=⋯
theorem V9:oJ.prog.theDef oJ.name=some (dk.1.params,dk.1.body,dk.1.scope):=⋯
theorem law_kw:kwWritten? dk.1.params.kwonlyargs dk.1.params.kw_defaults=some dk.2:=⋯
theorem Qu:frees oJ.toRowW=true:=by decide+kernel
theorem Lf:opensWell oJ.prog=true:=⋯
theorem Qv:oJ.prog.bare:=⟨rfl,rfl,rfl,rfl,rfl,by decide+kernel⟩
theorem Qt:oJ.toRowW.promised:=by refine⟨[.list [.int 3,.int 1]],?_,?_⟩<;>decide+kernel
theorem row_holds (said:oJ.wellSaid=true):oJ.Holds:=
 BZ (r:=oJ) (q:=qV) (loose:=qU) (YP:=Kept) (d:=dk.1) (kwd:=dk.2) MF rfl Ht law_at V9 law_kw said Lf Qu rfl Qv Qt Xi
end Jn
set_option maxHeartbeats 8000000 in
theorem PySem.Challenge.cw_ti0078_01_holds : PySem.Challenge.rw_ti0078_01.Holds := by
  exact holds_law Y.said Jn.row_holds
