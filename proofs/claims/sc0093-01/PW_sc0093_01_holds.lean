import PyProof.Rows.All
import PySem.Builtin.Re_Pattern.W2All
import PyProof.TableCode
import PyProof.NeData
import PyProof.StrLawsIn
import PyProof.SliceStr2
import PyProof.StrLawsChain
import PyProof.StrLawsOcc
import PyProof.P3In
import PyProof.Rows.StrJoin2
import PyProof.Rows.StrSplitMax
import PyProof.StrCalls6
import PyProof.TupleOps
import PyProof.Rows.TupMore
import PyProof.SliceMore
import PyProof.Rows.StrCase
import PyProof.Rows.SeqMore2
import PyProof.Rows.SumAny
import PyProof.TypeOfCall
import PyProof.TupleOfSeq
import PyProof.StrReplace2
import PyProof.Rows.SortStr
import PyProof.Rows.SetFrom
import PyProof.Rows.ExtendIn
import KE.KCallOwn
import KE.KEqDict
import KE.KIntText
import KE.KSortTup
import KE.KxPercentT
import Wide.FinOn
import OpenK.AllK
import Wide.All
import Lean
import PySem.Challenge.RW_sc0093_01
set_option genSizeOf false
set_option genInjectivity false
set_option genCtorIdx false
set_option backward.match.sparseCases false
set_option bootstrap.genMatcherCode false
set_option tactic.hygienic false
set_option linter.all false
open Nat (lt_one_iff le_of_succ_le le_succ_of_le le_of_not_lt succ_add_eq_add_succ lt_succ_self le_succ sub_le succ_pos lt_succ_of_le le_of_lt_succ lt_of_not_le lt_succ_of_lt lt_of_succ_lt_succ le_zero not_le_of_lt lt_of_succ_lt add_mul mul_le_mul add_sub_cancel' le_add_left add_right_comm add_sub_cancel_left min_eq_right mul_add zero_mul mul_zero mul_assoc sub_self mod_lt)
open List (find?_cons_of_pos find?_cons_of_neg mem_cons size_toArray mem_append length_append length_replicate any_cons getElem?_toArray getElem?_eq_getElem getElem?_eq_none mem_singleton drop_take length_drop mem_of_mem_take mem_of_mem_drop take_nil length_map length_range map_cons any_map map_map getElem?_map map_append getElem?_append_left getElem?_append_right getD_eq_getElem?_getD mem_range map_id cons_lt_cons_iff pairwise_map length_eq_zero_iff length_cons length_filter_le mem_cons_of_mem length_take length_nil forIn_cons append_nil append_assoc drop_of_length_le reverse_reverse take_length drop_left sum_cons mem_reverse getElem?_drop lookup_cons getElem?_of_mem length_set mem_filter reverse_cons find?_eq_none take_left filter_cons_of_pos filter_cons_of_neg nodup_iff_pairwise_ne nodup_nil nodup_append append_inj' head_eq_of_cons_eq mem_flatMap flatMap_cons count_cons length_singleton getElem?_set_self nil_append drop_eq_nil_of_le map_nil any_eq_true cons_ne_nil set_set map_take)
open Array (toList_inj toList_map)
open Bool (or_eq_false_iff or_eq_true eq_false_iff not_eq_true' and_eq_true)
open Int (natCast_nonneg ofNat_le ofNat_sub ofNat_inj ofNat_lt toNat_natCast natCast_add)
open Option (isSome_iff_exists map_eq_some_iff)
open Decidable (of_not_not)
namespace Mine
noncomputable section
abbrev aa:=List Nat
abbrev aq:=PySem.Value
abbrev ay:=PySem.Shared
abbrev az:=PySem.Addr
abbrev cJ:=PySem.Value->PySem.Shared->Prop
abbrev ax:=@Option.some.inj
abbrev cx:=@Bool.false_ne_true
abbrev aD:=@Nat.le_refl
abbrev cW:=@PySem.Heap.lt_size
abbrev cg:=@Nat.not_lt
abbrev af:=@Nat.le_trans
abbrev bx:=@Nat.lt_of_lt_of_le
abbrev cp:=@List.not_mem_nil
abbrev cr:=@Nat.le_of_eq
abbrev f9:=@Bool.and_eq_true_iff
abbrev dA:=@List.all_eq_true
abbrev f':=@PySem.Heap.get?_push_of_some
abbrev bz:=@Nat.le_add_right
abbrev fh:=@PySem.Heap.get?_push_size
abbrev bA:=@List.mem_cons
abbrev dJ:=@Nat.lt_trans
abbrev dZ:=@Nat.lt_of_le_of_lt
abbrev eI:=@Nat.add_le_add
abbrev bD:=@List.mem_append
abbrev bN:=@Nat.zero_le
abbrev dh:=@Nat.succ_le_succ
abbrev cX:=@Nat.ne_of_lt
abbrev dN:=@Nat.add_le_add_right
abbrev cC:=@List.mem_singleton
abbrev ez:=@List.mem_of_getElem?
abbrev dK:=@Nat.lt_irrefl
abbrev eR:=@List.map_congr_left
abbrev bu:=@List.mem_map
abbrev cY:=@Nat.ne_of_gt
abbrev fB:=@List.getElem?_eq_some_iff
abbrev dc:=@Nat.add_le_add_left
abbrev fO:=@Nat.mul_le_mul_left
abbrev cE:=@List.mem_append_left
abbrev cj:=@List.mem_append_right
abbrev eS:=@List.nodup_cons
abbrev dk:=@List.forall_mem_cons
abbrev ae:=@congrArg
abbrev an:=@PySem.wpAny_bind
abbrev aQ:=@PySem.wpAny_pure
abbrev aj:=@absurd
abbrev bB:=@beq_iff_eq
abbrev cm:=@of_decide_eq_true
abbrev fj:=@decide_eq_true
abbrev di:=@PySem.wpAny_mono
abbrev eU:=@beq_eq_false_iff_ne
abbrev bv:=@if_pos
abbrev bK:=@if_neg
abbrev dT:=@PySem.wpAny_holding
abbrev mr:=@decide_eq_false
def aT{P0 P1:Prop}{G:Prop}(h:P0/\P1)(k:P0->P1->G):G:=k h.1 h.2
def fC{P0 P1 P2:Prop}{G:Prop}(h:P0/\P1/\P2)(k:P0->P1->P2->G):G:=k h.1 h.2.1 h.2.2
def km{P0 P1 P2 P3:Prop}{G:Prop}(h:P0/\P1/\P2/\P3)(k:P0->P1->P2->P3->G):G:=k h.1 h.2.1 h.2.2.1 h.2.2.2
def pV{P0 P1 P2 P3 P4:Prop}{G:Prop}(h:P0/\P1/\P2/\P3/\P4)(k:P0->P1->P2->P3->P4->G):G:=k h.1 h.2.1 h.2.2.1 h.2.2.2.1 h.2.2.2.2
def b6{A0:Sort _}{P0:A0->Prop}{G:Prop}(h:∃a,P0 a)(k:∀a,P0 a->G):G:=h.elim λa h0=>k a h0
def bt{A0:Sort _}{P0 P1:A0->Prop}{G:Prop}(h:∃a,P0 a/\P1 a)(k:∀a,P0 a->P1 a->G):G:=h.elim λa h0=>k a h0.1 h0.2
def d4{A0:Sort _}{P0 P1 P2:A0->Prop}{G:Prop}(h:∃a,P0 a/\P1 a/\P2 a)(k:∀a,P0 a->P1 a->P2 a->G):G:=h.elim λa h0=>k a h0.1 h0.2.1 h0.2.2
def nU{A0:Sort _}{P0 P1 P2 P3:A0->Prop}{G:Prop}(h:∃a,P0 a/\P1 a/\P2 a/\P3 a)(k:∀a,P0 a->P1 a->P2 a->P3 a->G):G:=h.elim λa h0=>k a h0.1 h0.2.1 h0.2.2.1 h0.2.2.2
def rP{A0:Sort _}{P0 P1 P2 P3 P4:A0->Prop}{G:Prop}(h:∃a,P0 a/\P1 a/\P2 a/\P3 a/\P4 a)(k:∀a,P0 a->P1 a->P2 a->P3 a->P4 a->G):G:=h.elim λa h0=>k a h0.1 h0.2.1 h0.2.2.1 h0.2.2.2.1 h0.2.2.2.2
def nV{A0:Sort _}{A1:Sort _}{P0:A0->A1->Prop}{G:Prop}(h:∃a b,P0 a b)(k:∀a b,P0 a b->G):G:=h.elim λa h0=>h0.elim λb H=>k a b H
def lu{A0:Sort _}{A1:Sort _}{P0 P1:A0->A1->Prop}{G:Prop}(h:∃a b,P0 a b/\P1 a b)(k:∀a b,P0 a b->P1 a b->G):G:=h.elim λa h0=>h0.elim λb H=>k a b H.1 H.2
def du{A0:Sort _}{A1:Sort _}{P0 P1 P2:A0->A1->Prop}{G:Prop}(h:∃a b,P0 a b/\P1 a b/\P2 a b)(k:∀a b,P0 a b->P1 a b->P2 a b->G):G:=h.elim λa h0=>h0.elim λb H=>k a b H.1 H.2.1 H.2.2
def kn{A0:Sort _}{A1:Sort _}{P0 P1 P2 P3:A0->A1->Prop}{G:Prop}(h:∃a b,P0 a b/\P1 a b/\P2 a b/\P3 a b)(k:∀a b,P0 a b->P1 a b->P2 a b->P3 a b->G):G:=h.elim λa h0=>h0.elim λb H=>k a b H.1 H.2.1 H.2.2.1 H.2.2.2
def eV{A0:Sort _}{A1:Sort _}{P0 P1 P2 P3 P4:A0->A1->Prop}{G:Prop}(h:∃a b,P0 a b/\P1 a b/\P2 a b/\P3 a b/\P4 a b)(k:∀a b,P0 a b->P1 a b->P2 a b->P3 a b->P4 a b->G):G:=h.elim λa h0=>h0.elim λb H=>k a b H.1 H.2.1 H.2.2.1 H.2.2.2.1 H.2.2.2.2
def rQ{A0:Sort _}{A1:Sort _}{P0 P1 P2 P3 P4 P5:A0->A1->Prop}{G:Prop}(h:∃a b,P0 a b/\P1 a b/\P2 a b/\P3 a b/\P4 a b/\P5 a b)(k:∀a b,P0 a b->P1 a b->P2 a b->P3 a b->P4 a b->P5 a b->G):G:=h.elim λa h0=>h0.elim λb H=>k a b H.1 H.2.1 H.2.2.1 H.2.2.2.1 H.2.2.2.2.1 H.2.2.2.2.2
def rR{A0:Sort _}{A1:Sort _}{A2:Sort _}{P0:A0->A1->A2->Prop}{G:Prop}(h:∃a b c,P0 a b c)(k:∀a b c,P0 a b c->G):G:=h.elim λa h0=>h0.elim λb H=>H.elim λc I=>k a b c I
def CS{A0:Sort _}{A1:Sort _}{A2:Sort _}{P0 P1:A0->A1->A2->Prop}{G:Prop}(h:∃a b c,P0 a b c/\P1 a b c)(k:∀a b c,P0 a b c->P1 a b c->G):G:=h.elim λa h0=>h0.elim λb H=>H.elim λc I=>k a b c I.1 I.2
def xR{A0:Sort _}{A1:Sort _}{A2:Sort _}{P0 P1 P2 P3:A0->A1->A2->Prop}{G:Prop}(h:∃a b c,P0 a b c/\P1 a b c/\P2 a b c/\P3 a b c)(k:∀a b c,P0 a b c->P1 a b c->P2 a b c->P3 a b c->G):G:=h.elim λa h0=>h0.elim λb H=>H.elim λc I=>k a b c I.1 I.2.1 I.2.2.1 I.2.2.2
def uA{A0:Sort _}{A1:Sort _}{A2:Sort _}{P0 P1 P2 P3 P4:A0->A1->A2->Prop}{G:Prop}(h:∃a b c,P0 a b c/\P1 a b c/\P2 a b c/\P3 a b c/\P4 a b c)(k:∀a b c,P0 a b c->P1 a b c->P2 a b c->P3 a b c->P4 a b c->G):G:=h.elim λa h0=>h0.elim λb H=>H.elim λc I=>k a b c I.1 I.2.1 I.2.2.1 I.2.2.2.1 I.2.2.2.2
def xS{A0:Sort _}{A1:Sort _}{A2:Sort _}{A3:Sort _}{P0 P1:A0->A1->A2->A3->Prop}{G:Prop}(h:∃a b c d,P0 a b c d/\P1 a b c d)(k:∀a b c d,P0 a b c d->P1 a b c d->G):G:=h.elim λa h0=>h0.elim λb H=>H.elim λc I=>I.elim λd h3=>k a b c d h3.1 h3.2
def CT{A0:Sort _}{A1:Sort _}{A2:Sort _}{A3:Sort _}{P0 P1 P2:A0->A1->A2->A3->Prop}{G:Prop}(h:∃a b c d,P0 a b c d/\P1 a b c d/\P2 a b c d)(k:∀a b c d,P0 a b c d->P1 a b c d->P2 a b c d->G):G:=h.elim λa h0=>h0.elim λb H=>H.elim λc I=>I.elim λd h3=>k a b c d h3.1 h3.2.1 h3.2.2
def KZ{A0:Sort _}{A1:Sort _}{A2:Sort _}{A3:Sort _}{A4:Sort _}{P0 P1 P2:A0->A1->A2->A3->A4->Prop}{G:Prop}(h:∃a b c d e,P0 a b c d e/\P1 a b c d e/\P2 a b c d e)(k:∀a b c d e,P0 a b c d e->P1 a b c d e->P2 a b c d e->G):G:=h.elim λa h0=>h0.elim λb H=>H.elim λc I=>I.elim λd h3=>h3.elim λe h4=>k a b c d e h4.1 h4.2.1 h4.2.2
def K0{A0:Sort _}{A1:Sort _}{A2:Sort _}{A3:Sort _}{A4:Sort _}{A5:Sort _}{P0 P1 P2:A0->A1->A2->A3->A4->A5->Prop}{G:Prop}(h:∃a b c d e f,P0 a b c d e f/\P1 a b c d e f/\P2 a b c d e f)(k:∀a b c d e f,P0 a b c d e f->P1 a b c d e f->P2 a b c d e f->G):G:=h.elim λa h0=>h0.elim λb H=>H.elim λc I=>I.elim λd h3=>h3.elim λe h4=>h4.elim λf h5=>k a b c d e f h5.1 h5.2.1 h5.2.2
def K3{A0:Sort _}{A1:Sort _}{A2:Sort _}{A3:Sort _}{A4:Sort _}{A5:Sort _}{P0 P1 P2 P3 P4 P5:A0->A1->A2->A3->A4->A5->Prop}{G:Prop}(h:∃a b c d e f,P0 a b c d e f/\P1 a b c d e f/\P2 a b c d e f/\P3 a b c d e f/\P4 a b c d e f/\P5 a b c d e f)(k:∀a b c d e f,P0 a b c d e f->P1 a b c d e f->P2 a b c d e f->P3 a b c d e f->P4 a b c d e f->P5 a b c d e f->G):G:=h.elim λa h0=>h0.elim λb H=>H.elim λc I=>I.elim λd h3=>h3.elim λe h4=>h4.elim λf h5=>k a b c d e f h5.1 h5.2.1 h5.2.2.1 h5.2.2.2.1 h5.2.2.2.2.1 h5.2.2.2.2.2
def CU{P:Nat->Prop}(h0:P 0):∀{n:Nat},n<1->P n
 |0,_=>h0
def xT{P:Nat->Prop}(h0:P 0)(H:P 1){n:Nat}(h:n<2):P n:=(Nat.lt_succ_iff_lt_or_eq.mp h).elim (λh=>lt_one_iff.mp h▸h0) λe=>e▸H
def ms{P:Nat->Prop}(h0:P 0)(H:P 1)(I:P 2){n:Nat}(h:n<3):P n:=(Nat.lt_succ_iff_lt_or_eq.mp h).elim (λh=>(Nat.lt_succ_iff_lt_or_eq.mp h).elim (λh=>lt_one_iff.mp h▸h0) λe=>e▸H) λe=>e▸I
def mv{P:Nat->Prop}(h0:P 0)(H:P 1)(I:P 2)(h3:P 3){n:Nat}(h:n<4):P n:=
 (Nat.lt_succ_iff_lt_or_eq.mp h).elim (λh=>(Nat.lt_succ_iff_lt_or_eq.mp h).elim (λh=>(Nat.lt_succ_iff_lt_or_eq.mp h).elim (λh=>lt_one_iff.mp h▸h0) λe=>e▸H) λe=>e▸I) λe=>e▸h3
def av{α:Type _}{x:α}{G:Prop}(h:none=some x):G:=nomatch h
def δ{α:Type _}{x:α}{G:Prop}(h:some x=none):G:=nomatch h
def mw{α β:Type _}{a c:α}{b d:β}(h:some (a,b)=some (c,d)):a=c/\b=d:=Prod.mk.inj (ax h)
def K4{α β γ:Type _}{a c:α}{b d:β}{x y:γ}(h:some (a,b,x)=some (c,d,y)):a=c/\b=d/\x=y:=⟨(mw h).1,Prod.mk.inj (mw h).2⟩
open PySem PySem.W PySem.Calls PyProof.Rows
set_option Elab.async false
set_option maxRecDepth 100000
set_option linter.unusedVariables false
inductive ab where
 |none
 |bool (b:Bool)
 |int (i:Int)
 |str (s:aa)
 |list (J:List ab)
 |tup (J:List ab)
 |dict (al:List (aa×ab))
 |rng (a b:Int)
noncomputable abbrev mk (l:aa):Str:=⟨l.toArray⟩
abbrev iR(a b:Int):Prop:=(0<=a/\a<1000000)/\ -1000000<b/\b<1000000
noncomputable def lim:Nat:=16777216
def lx:lim=sizeLine:=by rw [sizeLine_eq];rfl
structure Wd where
 prog:Program
 w:World
 hb:Heap
 mg:Str->Option aq
 mb:Str->Option aq
 C:az
 patA:Nat->az
noncomputable abbrev Wd.M (O:Wd):Model:=model O.prog O.w
section
variable(O:Wd)
mutual
noncomputable def bn (h:Heap) (X:az->Prop) (v:aq):ab->Prop
 |.none=>v=.none
 |.bool b=>v=.bool b
 |.int i=>∃t,v=.int i t
 |.str s=>(∃t,v=.str (mk s) t)/\s.length<=lim/\∀c∈s,c<1114112
 |.list J=>∃a D,v=.ref a/\¬X a/\h.PlainList a D.toArray/\J.length<=lim/\aR h X D J
 |.tup J=>∃a D,v=.ref a/\¬X a/\IsTup h a D.toArray/\J.length<=lim/\aR h X D J
 |.dict ds=>∃a al,v=.ref a/\¬X a/\(a==sysModules)=false/\h.DictOf (strKind O.prog O.w) a al/\ds.length<=lim/\bR h X al ds
 |.rng a b=>∃c t u u',v=.ref c/\¬X c/\IsRange h c a b 1 t u u'/\iR a b
noncomputable def aR (h:Heap) (X:az->Prop) (D:List aq):List ab->Prop
 |[]=>D=[]
 |d::ds=>∃v ws,D=v::ws/\bn h X v d/\aR h X ws ds
noncomputable def rT (h:Heap) (X:az->Prop) (p:Str×aq):aa×ab->Prop
 |(k,d)=>p.1=mk k/\k.length<=lim/\(∀c∈k,c<1114112)/\bn h X p.2 d
noncomputable def bR (h:Heap) (X:az->Prop) (al:List (Str×aq)):List (aa×ab)->Prop
 |[]=>al=[]
 |d::ds=>∃p ws,al=p::ws/\rT h X p d/\bR h X ws ds
end
end
section
variable{O:Wd}{h:Heap}{X:az->Prop}
def bn.int(i t):bn O h X (.int i t) (.int i):=⟨t,rfl⟩
def bn.str(t)(H:s.length<=lim)(I:∀c∈s,c<1114112):bn O h X (.str (mk s) t) (.str s):=⟨⟨t,rfl⟩,H,I⟩
def bn.list(H:¬X a)(I:h.PlainList a D.toArray)(h3:J.length<=lim)(h4:aR O h X D J):bn O h X (.ref a) (.list J):=⟨_,_,rfl,H,I,h3,h4⟩
def bn.tup(H:¬X a)(I:IsTup h a D.toArray)(h3:J.length<=lim)(h4:aR O h X D J):bn O h X (.ref a) (.tup J):=⟨_,_,rfl,H,I,h3,h4⟩
def bn.dict(H:¬X a)(I:(a==sysModules)=false)(h3:h.DictOf (strKind O.prog O.w) a al)(h4:ds.length<=lim)(h5:bR O h X al ds):bn O h X (.ref a) (.dict ds):=⟨_,_,rfl,H,I,h3,h4,h5⟩
def bn.rng(H:¬X c)(I:IsRange h c a b 1 t u v)(h3:iR a b):bn O h X (.ref c) (.rng a b):=⟨_,_,_,_,rfl,H,I,h3⟩
def aR.nil:aR O h X [] []:=rfl
def aR.cons(H:bn O h X v d)(I:aR O h X D ds):aR O h X (v::D) (d::ds):=⟨_,_,rfl,H,I⟩
def bR.nil:bR O h X [] []:=rfl
def bR.cons(H:k.length<=lim)(I:∀c∈k,c<1114112)(h3:bn O h X v d)(h4:bR O h X al ds):bR O h X ((mk k,v)::al) ((k,d)::ds):=⟨_,_,rfl,⟨rfl,H,I,h3⟩,h4⟩
def bR.inv(r:bR O h X al ((k,d)::ds)):∃v ws,al=(mk k,v)::ws/\k.length<=lim/\(∀c∈k,c<1114112)/\bn O h X v d/\bR O h X ws ds:=by
 obtain ⟨⟨k',v⟩,ws,rfl,⟨e,H,I,h3⟩,h4⟩:=r;subst e;exact ⟨v,ws,rfl,H,I,h3,h4⟩
end
section
variable{O:Wd}
mutual
theorem bn.step(hk:∀a o,¬X a->h.get? a=some o->h'.get? a=some o)(hx:∀a o,¬X a->h.get? a=some o->¬X' a):
  ∀{v:aq}{d:ab},bn O h X v d->bn O h' X' v d
 |_,.none,r=>r
 |_,.bool _,r=>r
 |_,.int _,r=>r
 |_,.str _,r=>r
 |_,.list J,r=>by
  obtain ⟨a,D,e,hn,⟨n,ho⟩,hz,r⟩:=r;exact ⟨a,D,e,hx _ _ hn ho,⟨n,hk _ _ hn ho⟩,hz,aR.step hk hx r⟩
 |_,.tup J,r=>by
  obtain ⟨a,D,e,hn,⟨o,ho,q⟩,hz,r⟩:=r;exact ⟨a,D,e,hx _ o hn ho,⟨o,hk _ o hn ho,q⟩,hz,aR.step hk hx r⟩
 |_,.dict ds,r=>by
  obtain ⟨a,D,e,hn,ly,⟨o,es,ep,ho,q⟩,hz,r⟩:=r;exact ⟨a,D,e,hx _ o hn ho,ly,⟨o,es,ep,hk _ o hn ho,q⟩,hz,bR.step hk hx r⟩
 |_,.rng a b,r=>by
  obtain ⟨c,t,u,u',e,hn,ho,hb⟩:=r;exact ⟨c,t,u,u',e,hx _ _ hn ho,hk _ _ hn ho,hb⟩
theorem aR.step(hk:∀a o,¬X a->h.get? a=some o->h'.get? a=some o)(hx:∀a o,¬X a->h.get? a=some o->¬X' a):
  ∀{v:List aq}{d:List ab},aR O h X v d->aR O h' X' v d
 |_,[],r=>r
 |_,_::_,r=>r.imp λZ z=>z.imp λZ z=>⟨z.1,bn.step hk hx z.2.1,aR.step hk hx z.2.2⟩
theorem rT.step(hk:∀a o,¬X a->h.get? a=some o->h'.get? a=some o)(hx:∀a o,¬X a->h.get? a=some o->¬X' a):
  ∀{p:Str×aq}{d:aa×ab},rT O h X p d->rT O h' X' p d
 |_,(_,_),r=>⟨r.1,r.2.1,r.2.2.1,bn.step hk hx r.2.2.2⟩
theorem bR.step(hk:∀a o,¬X a->h.get? a=some o->h'.get? a=some o)(hx:∀a o,¬X a->h.get? a=some o->¬X' a):
  ∀{v:List (Str×aq)}{d:List (aa×ab)},bR O h X v d->bR O h' X' v d
 |_,[],r=>r
 |_,_::_,r=>r.imp λZ z=>z.imp λZ z=>⟨z.1,rT.step hk hx z.2.1,bR.step hk hx z.2.2⟩
end
end
inductive PV where
 |d (x:ab)
 |ref (k:Nat)
 |hdr (j:Nat)
 |tup (D:List PV)
 |pat (k:Nat)
 |raw (a:az)
 |lit (x:aa)
inductive aV where
 |list (J:List ab)
 |dict (al:List (aa×ab))
 |tab (al:List (Int×Nat))
 |lk (o:aV)
noncomputable def aV.isTab:aV->Bool
 |.tab _=>true
 |.lk o=>o.isTab
 |_=>false
noncomputable def aV.isLk:aV->Bool
 |.lk _=>true
 |_=>false
def aV.no_lk{o:aV}(h:o.isLk=false)(q:aV)(e:o=.lk q):False:=cx (h.symm.trans (ae aV.isLk e))
structure ah where
 Y:Nat->Option aV
 own:aa
noncomputable def ak (Y:Nat->Option aV) (k:Nat) (o:Option aV):Nat->Option aV:=λj=>if j=k then o else Y j
def ah.put(s:ah)(k:Nat)(o:aV):ah:={s with Y:=ak s.Y k (some o)}
structure Mp where
 f:Nat->Option az
 L:Nat->Prop
 W:Nat->Prop
def aC(P:List az)(m:Mp)(a:az):Prop:=a∈P\/∃k,m.f k=some a
section
variable(O:Wd)
def ga(h:Heap)(X:az->Prop)(x l:az):Prop:=
 ∃dx t n,¬X x/\¬X dx/\h.get? x=some (instObj O.C dx)/\h.get? dx=some (dictOf [⟨PyData.keyHash O.w.params (Str.ofString "_headers"),.str (Str.ofString "_headers") t,.ref l⟩] n)
mutual
noncomputable def ai (h:Heap) (P:List az) (m:Mp) (v:aq):PV->Prop
 |.d x=>bn O h (aC P m) v x
 |.ref k=>∃a,v=.ref a/\m.f k=some a
 |.hdr j=>∃x l,v=.ref x/\m.f j=some l/\ga O h (aC P m) x l
 |.tup J=>∃a D,v=.ref a/\¬aC P m a/\IsTup h a D.toArray/\J.length<=lim/\bL h P m D J
 |.pat k=>v=.ref (O.patA k)
 |.raw w=>v=.ref w
 |.lit x=>∃t,t≠0/\v=.str (mk x) t/\∀c∈x,c<1114112
noncomputable def bL (h:Heap) (P:List az) (m:Mp) (D:List aq):List PV->Prop
 |[]=>D=[]
 |d::ds=>∃v ws,D=v::ws/\ai h P m v d/\bL h P m ws ds
end
def cO(h:Heap)(P:List az)(m:Mp)(a:az):aV->Prop
 |.list J=>∃D n,h.get? a=some (listOf D.toArray n)/\J.length<=lim/\aR O h (aC P m) D J
 |.dict ds=>∃al,h.DictOf (strKind O.prog O.w) a al/\ds.length<=lim/\bR O h (aC P m) al ds
 |.tab ts=>∃al,h.DictOf (intKind O.prog O.w) a al/\ts.length<=lim/\al.map (·.1)=ts.map (·.1)/\
   ∀(i:Nat)(t:Int×Nat),ts[i]?=some t->100<=t.2/\∃l,m.f t.2=some l/\al[i]?=some (t.1,Value.ref l)
 |.lk o=>cO h P m a o
structure SR(P:List az)(m:Mp)(ac:ah)(h:Heap):Prop where
 base:∀a o,O.hb.get? a=some o->h.get? a=some o
 size:O.hb.objs.size<=h.objs.size
 sm:sysModules<O.hb.objs.size
 prv:∀a∈P,O.hb.objs.size<=a/\a<h.objs.size
 mem:∀k a,m.f k=some a->O.hb.objs.size<=a/\a<h.objs.size/\a∉P
 dom:∀k,(m.f k).isSome=(ac.Y k).isSome
 inj:∀k k' a,m.f k=some a->m.f k'=some a->k=k'
 obj:∀k a o,m.f k=some a->ac.Y k=some o->cO O h P m a o
 lck:∀k,m.L k->∃o,ac.Y k=some (.lk o)
 wk:∀k,m.W k->(m.f k).isSome/\k∉ac.own
 tb:∀k o,ac.Y k=some o->o.isTab=true->k=30
noncomputable def bO (sc:Scope):List Str:=(sc.names.filter λp=>(p.2==.local||p.2==.cell||p.2==.free)&&p.1 !=(".0" :Str)).map (·.1)
structure fP(sc:Scope)(ro:Bool)(env:Env)(own P:List az)(vals:List (Option aq))(h:Heap):Prop where
 kind:env.scope.kind=.function
 glob:env.globals=mainGlobals
 blt:env.builtins=builtinsNs
 nodup:(bO sc).Nodup
 len:vals.length=(bO sc).length
 gk:∀x,sc.names.lookup x=some .globalImplicit->env.kindOf x=some .globalImplicit
 lk:∀x,sc.names.lookup x=some .local->env.kindOf x=some .local
 ck:∀x,sc.names.lookup x=some .cell->env.kindOf x=some .cell
 fk:∀x,sc.names.lookup x=some .free->env.kindOf x=some .cell\/env.kindOf x=some .free
 loc:∃mp,h.Ns env.locals mp/\∀(i:Nat) x v,(bO sc)[i]?=some x->vals[i]?=some (some v)->env.kindOf x=some .local->mp x=some v
 locOwn:env.locals∈own
 cell:∀(i:Nat) x,(bO sc)[i]?=some x->(env.kindOf x=some .cell\/env.kindOf x=some .free)->∃c v0,env.cells.lookup x=some c/\c≠env.locals/\c∈P/\(ro=false->c∈own)/\h.IsCell c v0/\∀v,vals[i]?=some (some v)->v0=some v
 apart:∀x y c,env.cells.lookup x=some c->env.cells.lookup y=some c->x=y
 known:∀x∈bO sc,env.kindOf x=some .local\/env.kindOf x=some .cell\/env.kindOf x=some .free
 rw:ro=false->∀x∈bO sc,env.kindOf x=some .local\/env.kindOf x=some .cell
structure aK(own:List az)(fr:Bool)(m m':Mp)(s V:ay):Prop where
 keep:∀a o,a∉own->(∀k,m.f k=some a->m.L k)->s.heap.get? a=some o->V.heap.get? a=some o
 new:∀k a,m'.f k=some a->m.f k=some a\/s.heap.objs.size<=a
 size:s.heap.objs.size<=V.heap.objs.size
 live:∀k a,(fr=false\/m.W k\/m.L k)->m.f k=some a->m'.f k=some a
 L:m'.L=m.L
 W:m'.W=m.W
 gens:V.gens=s.gens
 os:V.os=s.os
def ko(h:Heap)(P:List az)(m:Mp)(vals:List (Option aq))(vars:List (Option PV)):Prop:=
 vals.length=vars.length/\∀(i:Nat)(pv:PV),vars[i]?=some (some pv)->∃v,vals[i]?=some (some v)/\ai O h P m v pv
end
section
variable{O:Wd}
section
variable{h:Heap}{P:List az}{m:Mp}
def ai.d(r:bn O h (aC P m) v x):ai O h P m v (.d x):=r
def ai.ref(e:m.f k=some a):ai O h P m (.ref a) (.ref k):=⟨a,rfl,e⟩
def ai.tup(H:¬aC P m a)(I:IsTup h a D.toArray)(h3:J.length<=lim)(h4:bL O h P m D J):ai O h P m (.ref a) (.tup J):=⟨_,_,rfl,H,I,h3,h4⟩
def bL.nil:bL O h P m [] []:=rfl
def bL.cons(H:ai O h P m v d)(I:bL O h P m D ds):bL O h P m (v::D) (d::ds):=⟨_,_,rfl,H,I⟩
def cO.list(H:h.get? a=some (listOf D.toArray n))(I:J.length<=lim)(h3:aR O h (aC P m) D J):cO O h P m a (.list J):=⟨_,_,H,I,h3⟩
def cO.dict(H:h.DictOf (strKind O.prog O.w) a al)(I:ds.length<=lim)(h3:bR O h (aC P m) al ds):cO O h P m a (.dict ds):=⟨_,H,I,h3⟩
def cO.tab(H:h.DictOf (intKind O.prog O.w) a al)(I:ts.length<=lim)(h3:al.map (·.1)=ts.map (·.1))(h4:∀(i:Nat) (t:Int×Nat),ts[i]?=some t->100<=t.2/\∃l,m.f t.2=some l/\al[i]?=some (t.1,Value.ref l)):cO O h P m a (.tab ts):=⟨_,H,I,h3,h4⟩
def cO.lk(H:cO O h P m a o):cO O h P m a (.lk o):=H
end
def aK.refl:aK own fr m m s s:=
 ⟨λZ Z Z Z h=>h,λZ Z h=>.inl h,aD _,λZ Z Z h=>h,rfl,rfl,rfl,rfl⟩
def aK.trans(x:aK own fr mx K5 bq cw)(y:aK own fr K5 K6 cw rU):aK own fr mx K6 bq rU where
 keep a o H I h3:=y.keep a o H (λk e=>by
  rcases x.new k a e with q|q
  ·rw [x.L];exact I k q
  ·exact aj (cW h3) (cg.mpr q)) (x.keep a o H I h3)
 new k a h:=by
  rcases y.new k a h with q|q
  ·exact x.new k a q
  ·exact .inr (af x.size q)
 size:=af x.size y.size
 live k a H I:=y.live k a (by rw [x.L,x.W];exact H) (x.live k a H I)
 L:=y.L.trans x.L
 W:=y.W.trans x.W
 gens:=y.gens.trans x.gens
 os:=y.os.trans x.os
def aK.weaken(x:aK own fr m m' s V)(ho:∀a∈own,a∈pW):aK pW fr m m' s V:=
 ⟨λa o H I h3=>x.keep a o (λq=>H (ho a q)) I h3,x.new,x.size,x.live,x.L,x.W,x.gens,x.os⟩
def aK.loose(x:aK own false m m' s V):aK own fr m m' s V:=
 ⟨x.keep,x.new,x.size,λk a Z h=>x.live k a (.inl rfl) h,x.L,x.W,x.gens,x.os⟩
def aK.fresh(x:aK own fr m m' s V)(ho:∀a∈own,s.heap.objs.size<=a):aK [] fr m m' s V:=
 ⟨λa o Z I h3=>x.keep a o (λq=>aj (cW h3) (cg.mpr (ho a q))) I h3,x.new,x.size,x.live,x.L,x.W,x.gens,x.os⟩
def aK.of_grow(hk:∀a o,s.heap.get? a=some o->V.heap.get? a=some o)(hz:s.heap.objs.size<=V.heap.objs.size)(hg:V.gens=s.gens)(ho:V.os=s.os):aK own fr m m s V:=
 ⟨λa o Z Z h=>hk a o h,λZ Z h=>.inl h,hz,λZ Z Z h=>h,rfl,rfl,hg,ho⟩
def aC.of_adv(x:aK own fr m m' s V)(hx:¬aC P m a)(h:s.heap.get? a=some o):¬aC P m' a:=by
 rintro (q|⟨k,q⟩)
 ·exact hx (.inl q)
 ·rcases x.new k a q with z|z
  ·exact hx (.inr ⟨k,z⟩)
  ·exact aj (cW h) (cg.mpr z)
def bn.adv(x:aK own fr m m' s V)(ho:∀a∈own,a∈P)(r:bn O s.heap (aC P m) v d):bn O V.heap (aC P m') v d:=
 bn.step (λa o hn h=>x.keep a o (λq=>hn (.inl (ho a q))) (λk q=>aj (.inr ⟨k,q⟩) hn) h) (λZ Z hn h=>aC.of_adv x hn h) r
def aR.adv(x:aK own fr m m' s V)(ho:∀a∈own,a∈P)(r:aR O s.heap (aC P m) v d):aR O V.heap (aC P m') v d:=
 aR.step (λa o hn h=>x.keep a o (λq=>hn (.inl (ho a q))) (λk q=>aj (.inr ⟨k,q⟩) hn) h) (λZ Z hn h=>aC.of_adv x hn h) r
def ga.step(hk:∀a o,¬X a->h.get? a=some o->h'.get? a=some o)(hx:∀a o,¬X a->h.get? a=some o->¬X' a):ga O h X x l->ga O h' X' x l:=
 λz=>z.imp λZ z=>z.imp λZ z=>z.imp λZ z=>⟨hx _ _ z.1 z.2.2.1,hx _ _ z.2.1 z.2.2.2,hk _ _ z.1 z.2.2.1,hk _ _ z.2.1 z.2.2.2⟩
mutual
theorem ai.step(hk:∀a o,¬aC P m a->h.get? a=some o->h'.get? a=some o)(hx:∀a o,¬aC P m a->h.get? a=some o->¬aC P' m' a)
  (hm:∀k a,m.f k=some a->m'.f k=some a):∀{v:aq}{d:PV},ai O h P m v d->ai O h' P' m' v d
 |_,.d _,r=>bn.step hk hx r
 |_,.ref _,r=>r.imp λZ z=>⟨z.1,hm _ _ z.2⟩
 |_,.hdr _,r=>r.imp λZ z=>z.imp λZ z=>⟨z.1,hm _ _ z.2.1,ga.step hk hx z.2.2⟩
 |_,.tup _,r=>r.imp λZ z=>z.imp λZ z=>⟨z.1,z.2.2.1.elim λo q=>hx _ o z.2.1 q.1,z.2.2.1.imp λo q=>⟨hk _ o z.2.1 q.1,q.2⟩,z.2.2.2.1,bL.step hk hx hm z.2.2.2.2⟩
 |_,.pat _,r=>r
 |_,.raw _,r=>r
 |_,.lit _,r=>r
theorem bL.step(hk:∀a o,¬aC P m a->h.get? a=some o->h'.get? a=some o)(hx:∀a o,¬aC P m a->h.get? a=some o->¬aC P' m' a)
  (hm:∀k a,m.f k=some a->m'.f k=some a):∀{v:List aq}{d:List PV},bL O h P m v d->bL O h' P' m' v d
 |_,[],r=>r
 |_,_::_,r=>r.imp λZ z=>z.imp λZ z=>⟨z.1,ai.step hk hx hm z.2.1,bL.step hk hx hm z.2.2⟩
end
def ai.adv(x:aK own false m m' s V)(ho:∀a∈own,a∈P){d:PV}(r:ai O s.heap P m v d):ai O V.heap P m' v d:=
 ai.step (λa o hn h=>x.keep a o (λq=>hn (.inl (ho a q))) (λk q=>aj (.inr ⟨k,q⟩) hn) h) (λZ Z hn h=>aC.of_adv x hn h) (λk a e=>x.live k a (.inl rfl) e) r
def bL.adv(x:aK own false m m' s V)(ho:∀a∈own,a∈P)(r:bL O s.heap P m v d):bL O V.heap P m' v d:=
 bL.step (λa o hn h=>x.keep a o (λq=>hn (.inl (ho a q))) (λk q=>aj (.inr ⟨k,q⟩) hn) h) (λZ Z hn h=>aC.of_adv x hn h) (λk a e=>x.live k a (.inl rfl) e) r
def fP.keep(x:fP sc ro env own P vals h)(ho:∀a∈own,a∈P)(hk:∀a o,a∈P->h.get? a=some o->h'.get? a=some o):fP sc ro env own P vals h':=
 {x with
  loc:=by
   obtain ⟨mp,⟨o,es,ep,H,I⟩,q⟩:=x.loc;exact ⟨mp,⟨o,es,ep,hk _ _ (ho _ x.locOwn) H,I⟩,q⟩
  cell:=λi n hi hc=>by
   obtain ⟨c,v0,a1,a2,a3,a4,⟨o,a5,a6⟩,a7⟩:=x.cell i n hi hc;exact ⟨c,v0,a1,a2,a3,a4,⟨o,hk _ _ a3 a5,a6⟩,a7⟩}
theorem cO.step(hk:∀a o,¬aC P m a->h.get? a=some o->h'.get? a=some o)(hx:∀a o,¬aC P m a->h.get? a=some o->¬aC P' m' a)
  (hm:∀k a,m.f k=some a->m'.f k=some a) (r:cO O h P m a o) (ha:∀o,h.get? a=some o->h'.get? a=some o):cO O h' P' m' a o:=by
 induction o with
 |list J=>obtain ⟨D,n,e,z,r⟩:=r;exact ⟨D,n,ha _ e,z,aR.step hk hx r⟩
 |dict ds=>obtain ⟨al,⟨o,es,ep,ho,q⟩,z,r⟩:=r;exact ⟨al,⟨o,es,ep,ha _ ho,q⟩,z,bR.step hk hx r⟩
 |tab ts=>
  obtain ⟨al,⟨o,es,ep,ho,q⟩,z,q1,q2⟩:=r;exact ⟨al,⟨o,es,ep,ha _ ho,q⟩,z,q1,λi t ht=>let ⟨a0,l,a1,a2⟩:=q2 i t ht;⟨a0,l,hm _ _ a1,a2⟩⟩
 |lk o ih=>exact ih r
def SR.grow(x:SR O P m ac h)(hk:∀a o,h.get? a=some o->h'.get? a=some o)(hz:h.objs.size<=h'.objs.size):SR O P m ac h' where
 base a o e:=hk a o (x.base a o e)
 size:=af x.size hz
 sm:=x.sm
 prv a ha:=⟨(x.prv a ha).1,bx (x.prv a ha).2 hz⟩
 mem k a e:=⟨(x.mem k a e).1,bx (x.mem k a e).2.1 hz,(x.mem k a e).2.2⟩
 dom:=x.dom
 inj:=x.inj
 obj k a o e1 e2:=cO.step (λa o Z h=>hk a o h) (λZ Z q Z=>q) (λZ Z h=>h) (x.obj k a o e1 e2) (λo h=>hk a o h)
 lck:=x.lck
 wk:=x.wk
 tb:=x.tb
def SR.new(x:SR O P m ac h)(ha:h.objs.size<=a):¬aC P m a:=by
 rintro (q|⟨k,q⟩)
 ·exact aj (x.prv a q).2 (cg.mpr ha)
 ·exact aj (x.mem k a q).2.1 (cg.mpr ha)
end
section
variable(O:Wd)
structure Cx where
 sc:Scope
 ro:Bool
 env:Env
 own:List az
 P:List az
 vals:List (Option aq)
 vars:List (Option PV)
structure aw(c:Cx)(m:Mp)(ac:ah)(s:ay):Prop where
 sr:SR O c.P m ac s.heap
 en:fP c.sc c.ro c.env c.own c.P c.vals s.heap
 vr:ko O s.heap c.P m c.vals c.vars
 op:∀a∈c.own,a∈c.P
 tk:0<s.toks
end
section
variable{O:Wd}{c:Cx}{own P:List az}{vals:List (Option aq)}{vars:List (Option PV)}{m m':Mp}{ac ao:ah}{s V:ay}
def ko.adv(x:ko O s.heap P m vals vars)(a:aK own false m m' s V)(ho:∀a∈own,a∈P):ko O V.heap P m' vals vars:=
 ⟨x.1,λi pv h=>let ⟨v,H,I⟩:=x.2 i pv h;⟨v,H,I.adv a ho⟩⟩
def iv{P:az->Prop}:∀a∈([]:List az),P a:=λZ h=>aj h cp
def aw.adv0(x:aw O c m ac s)(a:aK [] false m m' s V)(r:SR O c.P m' ao V.heap)(t:s.toks<=V.toks):aw O c m' ao V:=
 ⟨r,x.en.keep x.op λb o hb h=>a.keep b o (λq=>aj q cp) (λk q=>aj hb (x.sr.mem k b q).2.2) h,x.vr.adv a iv,x.op,bx x.tk t⟩
def aw.grow(x:aw O c m ac s)(hk:∀a o,s.heap.get? a=some o->V.heap.get? a=some o)(hz:s.heap.objs.size<=V.heap.objs.size)(hg:V.gens=s.gens)(ho:V.os=s.os)(ht:s.toks<=V.toks):
  aw O c m ac V:=x.adv0 (.of_grow hk hz hg ho) (x.sr.grow hk hz) ht
def aw.tok(x:aw O c m ac s)(t:Nat)(ht:s.toks<=t):aw O c m ac {s with toks:=t}:=⟨x.sr,x.en,x.vr,x.op,bx x.tk ht⟩
def aK.tok(t:Nat):aK own fr m m s {s with toks:=t}:=⟨λZ Z Z Z h=>h,λZ Z h=>.inl h,aD _,λZ Z Z h=>h,rfl,rfl,rfl,rfl⟩
end
def CV(h:Runs M O p t fs s e V):s.heap.objs.size<=V.heap.objs.size:=by
 induction h<;>first|exact aD _|exact a_ih|exact af (cr (Heap.size_update ..).symm) a_ih|exact le_of_succ_le (af (cr (Heap.size_push ..).symm) a_ih)|exact af a_ih a_ih_1|lia
def K7(h:Returns M O p s r V):s.heap.objs.size<=V.heap.objs.size:=CV h
def CW{s V:ay}(h:∃uB bq,Runs M O p t fs (s.setGen g .running) uB bq/\uB.quiet=true/\res=uB.result/\V=bq.setGen g uB.genState):s.heap.objs.size<=V.heap.objs.size:=
 h.elim λZ h=>h.elim λbq h=>h.2.2.2▸(CV h.1:(s.setGen g .running).heap.objs.size<=bq.heap.objs.size)
set_option backward.match.sparseCases true in
def K8{r:Resume}{X aY:Prop}{C:aq->Prop}(h:match r with|.send .none=>X|.send _=>aY|.throw x=>C x):X\/aY\/∃x,C x:=by
 cases r with
 |throw x=>exact .inr (.inr ⟨x,h⟩)
 |send v=>cases v<;>first|exact .inr (.inl h)|exact .inl h
def K9(h:Wakes M O p g r s res V):s.heap.objs.size<=V.heap.objs.size:=by
 delta Wakes at h
 generalize s.gens[g]?=o at h;rcases o with _|o
 ·exact h.elim
 cases o with
 |fresh c=>exact (K8 h).elim CW λh=>h.elim (λh:_/\V=s=>h.2▸aD _) λh=>h.elim λx (h:_/\V=s.setGen g .finished)=>h.2▸aD _
 |suspended=>exact CW h
 |_=>exact h.2▸aD _
def La(M:Model)(O:Ctx)(n:Nat)(t:Sem α):∀(Q:α->Pos->ay->Prop)(E:aq->Pos->ay->Prop)(p:Pos)(s:ay),n<=s.heap.objs.size->Sem.wp M O t Q E p s->
  Sem.wp M O t (λa p' V=>n<=V.heap.objs.size/\Q a p' V) (λe p' V=>n<=V.heap.objs.size/\E e p' V) p s:=by
 induction t<;>intro Q E p s hn h
 case load=>exact h.imp λo h=>⟨h.1,k_ih o _ _ _ _ hn h.2⟩
 case update=>exact ⟨h.1,k_ih () _ _ _ _ (by rw [Heap.size_update];exact hn) h.2⟩
 case alloc=>exact k_ih _ _ _ _ _ (by show n<=(s.heap.push _).objs.size;rw [Heap.size_push];exact le_succ_of_le hn) h
 case choose=>exact ⟨h.1,k_ih _ _ _ _ _ hn h.2⟩
 case call=>exact h.imp λr h=>h.imp λV h=>⟨h.1,k_ih r _ _ _ _ (af hn (K7 h.1)) h.2⟩
 case genState=>exact h.imp λo h=>⟨h.1,k_ih _ _ _ _ _ hn h.2⟩
 case resume=>exact h.imp λr h=>h.imp λV h=>⟨h.1,k_ih r _ _ _ _ (af hn (K9 h.1)) h.2⟩
 all_goals first|exact h|exact ⟨hn,h⟩|exact k_ih _ _ _ _ _ hn h
section
def iS(h:wpAny M A t (λa V=>s.heap.objs.size<=V.heap.objs.size->Q a V) E s):wpAny M A t Q E s:=
 di (Q:=λa V=>s.heap.objs.size<=V.heap.objs.size/\(s.heap.objs.size<=V.heap.objs.size->Q a V)) (E:=λe V=>s.heap.objs.size<=V.heap.objs.size/\E e V)
  (λO p Lb=>La M O _ t _ _ p s (aD _) (h O p Lb)) (λZ Z x=>x.2 x.1) (λZ Z x=>x.2)
end
inductive Lc(u:Unit) where
 |add|sub|mul|fdiv|mod|pow|fmt
noncomputable abbrev BO:=Lc ()
inductive Ld(u:Unit) where
 |eq|ne|lt|gt|le|ge|isN|notN|isIn|notIn
noncomputable abbrev CO:=Ld ()
inductive Le(u:Unit) where
 |len|lenSet|max1|sum1|sorted1|chr1|ord1|strI|intS|tupL|join|find|lstrip|lower|replace|split|split1|append|extend|index|count|dget|search|resub
noncomputable abbrev BI:=Le ()
inductive xU where
 |c (n:Nat)
 |lin (i j:Nat)
set_option genSizeOfSpec false
set_option genInjectivity false
mutual
inductive PE where
 |cI (i:Int) (p:Pos)
 |cS (s:aa) (p:Pos)
 |cL (s:aa) (p:Pos)
 |cN (p:Pos)
 |cB (b:Bool) (p:Pos)
 |v (i:Nat) (p:Pos)
 |g (k:Nat) (p:Pos)
 |bin (o:BO) (a b:PE) (p:Pos)
 |neg (a:PE) (p:Pos)
 |rng (a b:PE) (q p:Pos)
 |cmp (o:CO) (a b:PE) (p:Pos)
 |ite (t:PT) (a b:PE) (p:Pos)
 |idx (a i:PE) (p:Pos)
 |sl (a:PE) (lo hi:PB) (q p:Pos)
 |tup (es:List PE) (p:Pos)
 |lst (h:Option Nat) (es:List PE) (p:Pos)
 |dct (h:Option xU) (es:List PE) (p:Pos)
 |mtab (p:Pos)
 |comp (h:Option Nat) (bX tg:aa) (nl:Nat) (it:IT) (cs:List PT) (e:PE) (sc:Scope) (tq:List Pos) (p:Pos)
 |call (f:Nat) (args:List PE) (q p:Pos)
 |meth (f:Nat) (o:PE) (args:List PE) (q p:Pos)
 |methK (f:Nat) (o a kw:PE) (kp q p:Pos)
 |lenH (o:PE) (q p:Pos)
 |strH (o:PE) (q p:Pos)
 |bi (b:BI) (a:PE) (q p:Pos)
 |lenS (a:PE) (q' p' q p:Pos)
 |me (b:BI) (o:PE) (args:List PE) (q p:Pos)
 |attr (o:PE) (p:Pos)
 |newH0 (k:Nat) (q p:Pos)
 |newH (a:PE) (q p:Pos)
 |qrep (o z:PE) (lp rq rp fq fp:Pos)
inductive PB where
 |no
 |at_ (e:PE)
inductive PT where
 |cmp (o:CO) (a b:PE) (p:Pos)
 |and (ts:List PT) (p:Pos)
 |or (ts:List PT) (p:Pos)
 |not (t:PT) (p:Pos)
 |e (x:PE)
 |isStr (x:PE) (q1 p1 q p:Pos)
 |notList (x:PE) (q1 p1 q p:Pos)
inductive IT where
 |val (e:PE)
 |range (a:PE) (q p:Pos)
 |range2 (a b:PE) (q p:Pos)
 |enum (e:PE) (q p:Pos)
 |zip (a b:PE) (q p:Pos)
 |items (e:PE) (q p:Pos)
end
noncomputable def IT.pairs:IT->Bool
 |.enum _ _ _=>true
 |.zip _ _ _ _=>true
 |.items _ _ _=>true
 |_=>false
inductive PS where
 |asg (i:Nat) (e:PE) (q p:Pos)
 |aug (i:Nat) (e:PE) (q p:Pos)
 |asgT (is:aa) (e:PE) (tq:List Pos) (tp p:Pos)
 |setI (o k e:PE) (q p:Pos)
 |setI2 (o1 k1 o2 k2 e:PE) (q1 q2 q p:Pos)
 |ex (e:PE) (p:Pos)
 |ite (t:PT) (a b:List PS) (p:Pos)
 |whl (t:PT) (b:List PS) (p:Pos)
 |for1 (i:Nat) (it:IT) (b:List PS) (q p:Pos)
 |forT (is:aa) (it:IT) (b:List PS) (tq:List Pos) (tp p:Pos)
 |ret (e:PE) (p:Pos)
 |frz (i:Nat)
 |fail (s:List Stmt)
noncomputable abbrev aI:=List (Option PV)
inductive Fl where
 |next
 |ret (v:PV)
noncomputable def o2 {α β γ:Type}(a:Option α) (b:Option β) (f:α->β->Option γ) (g:Option γ):Option γ:=match a with
 |some x=>(match b with
  |some y=>f x y
  |none=>g)
 |none=>g
noncomputable def o1 {α γ:Type}(a:Option α) (f:α->Option γ) (g:Option γ):Option γ:=match a with
 |some x=>f x
 |none=>g
noncomputable def dU:PV->Option ab
 |.d x=>some x
 |_=>none
noncomputable def ab.int?:ab->Option Int
 |.int i=>some i
 |_=>.none
noncomputable def ab.str?:ab->Option aa
 |.str x=>some x
 |_=>.none
noncomputable def ab.list?:ab->Option (List ab)
 |.list x=>some x
 |_=>.none
noncomputable def ab.tup?:ab->Option (List ab)
 |.tup x=>some x
 |_=>.none
noncomputable def pX {α:Type}:List α->Option (α×α)
 |[a,b]=>some (a,b)
 |_=>none
noncomputable def ab.dict?:ab->Option (List (aa×ab))
 |.dict x=>some x
 |_=>.none
noncomputable def ab.rng?:ab->Option (Int×Int)
 |.rng a b=>some (a,b)
 |_=>.none
noncomputable def ab.nil?:ab->Option Unit
 |.none=>some ()
 |_=>.none
noncomputable def jd:PV->Option Nat
 |.ref k=>some k
 |_=>none
noncomputable def aV.list?:aV->Option (List ab)
 |.list J=>some J
 |_=>none
noncomputable def aV.dict?:aV->Option (List (aa×ab))
 |.dict J=>some J
 |_=>none
noncomputable def aV.tab?:aV->Option (List (Int×Nat))
 |.tab J=>some J
 |_=>none
def iT(s:ah)(k:Nat):Option (List ab):=(s.Y k).bind aV.list?
def dictAt(s:ah)(k:Nat):Option (List (aa×ab)):=(s.Y k).bind aV.dict?
def rV(s:ah)(k:Nat):Option (List (Int×Nat)):=(s.Y k).bind aV.tab?
noncomputable def uC:aa->Option Nat
 |[c]=>some c
 |_=>none
noncomputable def uD:PV->Option (List PV)
 |.tup J=>some J
 |_=>none
def rW(l:List ab):Option (aa×aa):=(pX l).bind λq=>q.1.str?.bind λa=>q.2.str?.map λb=>(a,b)
mutual
noncomputable def ab.plainN:Nat->ab->Bool
 |_,.none=>true
 |_,.bool _=>false
 |_,.int _=>true
 |_,.str _=>true
 |0,.list _=>false
 |0,.tup _=>false
 |n+1,.list J=>ab.plainsN n J
 |n+1,.tup J=>ab.plainsN n J
 |_,.dict _=>false
 |_,.rng _ _=>false
noncomputable def ab.plainsN:Nat->List ab->Bool
 |_,[]=>true
 |n,x::J=>ab.plainN n x&&ab.plainsN n J
end
abbrev ab.plain:ab->Bool:=ab.plainN 8
abbrev ab.plains:List ab->Bool:=ab.plainsN 8
noncomputable def ab.ints (al:List (aa×ab)):Bool:=al.all λp=>p.2.int?.isSome
def ab.dictI(x:ab):Bool:=x.dict?.any ab.ints
def ab.dictL(x:ab):Bool:=x.list?.any λJ=>J.all ab.dictI
noncomputable def dget (al:List (aa×ab)) (k:aa):Option ab:=(al.find? λp=>p.1==k).map (·.2)
def xV(x:ab)(y:Option ab):Bool:=(o2 x.int? (y.bind ab.int?) (λi j=>some (i==j)) none).any id
def lz(a b:List (aa×ab)):Bool:=a.length==b.length&&a.all λp=>xV p.2 (dget b p.1)
mutual
noncomputable def fD:ab->ab->Bool
 |.none,y=>y.nil?.isSome
 |.int i,y=>y.int?.any (i==·)
 |.str a,y=>y.str?.any (a==·)
 |.list J,y=>y.list?.any (kr J ·)
 |.tup J,y=>y.tup?.any (kr J ·)
 |.dict a,y=>y.dict?.any (lz a ·)
 |_,_=>false
noncomputable def kr:List ab->List ab->Bool
 |[],ys=>ys.isEmpty
 |x::J,ys=>ys.head?.any (fD x ·)&&kr J ys.tail
end
noncomputable def gm:List ab->Option (List aa)
 |[]=>some []
 |x::J=>x.str?.bind λs=>(gm J).map (s::·)
noncomputable def gD:List ab->Option (List Int)
 |[]=>some []
 |x::J=>x.int?.bind λs=>(gD J).map (s::·)
def rX:List ab->Option (List (aa×aa))
 |[]=>some []
 |x::J=>(x.tup?.bind rW).bind λq=>(rX J).map (q::·)
noncomputable abbrev jw (n:Nat) (k:Int):Nat:=clipAt n k
noncomputable def bV (n:Nat) (k:Int):Option Nat:=seqIndex? k n
noncomputable def pY (a b:aa):Bool:=decide (a<=b)
noncomputable def pZ (a b:aa×aa):Bool:=if a.1=b.1 then decide (a.2<=b.2) else decide (a.1<=b.1)
noncomputable def d5 (a:aa):aa->Nat->Int
 |[],i=>if a.isEmpty then i else -1
 |c::r,i=>if a.isPrefixOf (c::r) then i else d5 a r (i+1)
noncomputable def d6 (n:Nat):aa:=(toString n).toList.map Char.toNat
noncomputable def uE:aa->Option Nat
 |[]=>none
 |l=>l.foldl (λacc c=>acc.bind λn=>if 48<=c/\c<=57 then some (10*n+(c - 48)) else none) (some 0)
noncomputable def bZ (aA:aa):List aa->aa
 |[]=>[]
 |[a]=>a
 |a::r=>a++aA++bZ aA r
noncomputable def fE (c:Nat):Bool:=c==32
noncomputable def my (c:Nat):Nat:=if 65<=c/\c<=90 then c+32 else c
noncomputable def cZ (aA:aa):aa->aa->Nat->List aa
 |acc,[],_=>[acc.reverse]
 |acc,_::r,k+1=>cZ aA acc r k
 |acc,c::r,0=>if aA.isPrefixOf (c::r) then acc.reverse::cZ aA [] r (aA.length - 1) else cZ aA (c::acc) r 0
noncomputable def lA (s:aa):Bool:=s.all λc=>decide (31<c)&& !(c==127)
noncomputable def mz (s:aa):Bool:=s.all λc=>(decide (31<c)||c==9)&& !(c==127)
def Lf(q:aa×aa):Bool:=lA q.1&&mz q.2
def nW(l:List ab):Bool:=l.all λx=>(x.tup?.bind rW).any Lf
noncomputable def dC:aa->aa
 |[]=>[]
 |c::r=>if c=13\/c=10 then 13::10::(if c=13/\r.head?=some 10 then (dC r).drop 2 else dC r) else c::dC r
noncomputable def eJ:Bool->aa->aa
 |_,[]=>[]
 |st,c::r=>if st&&c==46 then 46::46::eJ false r else c::eJ (c==10) r
noncomputable def fQ (al:List (aa×ab)) (k:aa) (v:ab):List (aa×ab):=
 if al.any (λp=>p.1==k) then al.map (λp=>if p.1==k then (p.1,v) else p) else al++[(k,v)]
noncomputable def ky (al:List (Int×Nat)) (k:Int):Option Nat:=(al.find? λp=>p.1==k).map (·.2)
noncomputable def lB (al:List (Int×Nat)) (k:Int) (v:Nat):List (Int×Nat):=
 if al.any (λp=>p.1==k) then al.map (λp=>if p.1==k then (p.1,v) else p) else al++[(k,v)]
def eW(s:ah)(x:PV):Option (List ab):=o1 ((dU x).bind ab.list?) some ((jd x).bind (iT s))
def gn(s:ah)(x:PV):Option (List (aa×ab)):=o1 ((dU x).bind ab.dict?) some ((jd x).bind (dictAt s))
def dn(x:PV):Option Int:=(dU x).bind ab.int?
def strOf(x:PV):Option aa:=(dU x).bind ab.str?
def listOf(x:PV):Option (List ab):=(dU x).bind ab.list?
def lC(x:PV):Option (List ab):=(dU x).bind ab.tup?
def CX(x:PV):Option (ab×ab):=(lC x).bind pX
noncomputable def nX:PV->Option Nat
 |.hdr j=>some j
 |_=>none
def mA(s:ah)(x:PV):Option (Nat×List ab):=(jd x).bind λk=>(iT s k).map λJ=>(k,J)
noncomputable def CY:PV->Bool
 |.d .none=>true
 |.d (.str _)=>true
 |_=>false
def mB(f:Int->Int->Option Int)(x y:PV):Option PV:=o2 (dn x) (dn y) (λi j=>(f i j).map λk=>.d (.int k)) none
def uF(x y:PV)(s:ah):Option PV:=o2 (strOf x) (strOf y) (λa b=>if (a++b).length<=lim then some (.d (.str (a++b))) else none)
 (o2 (eW s x) (eW s y) (λJ ys=>if (J++ys).length<=lim then some (.d (.list (J++ys))) else none) (mB (λi j=>some (i+j)) x y))
def uG(x y:PV):Option PV:=o2 ((strOf x).bind uC) (dn y) (λc j=>if 0<=j/\j<=100 then some (.d (.str (List.replicate j.toNat c))) else none)
 (mB (λi j=>if i.natAbs<2 ^ 30/\j.natAbs<2 ^ 30 then some (i*j) else none) x y)
def CZ(x y:PV):Option PV:=o2 (strOf x) ((lC y).bind rW) (λf q=>if f=[37,115,58,32,37,115]/\q.1.length<=1000000/\q.2.length<=1000000 then some (.d (.str (q.1++[58,32]++q.2))) else none) none
def lD(o:BO)(x y:PV)(s:ah):Option PV:=match o with
 |.add=>uF x y s
 |.sub=>mB (λi j=>some (i - j)) x y
 |.mul=>uG x y
 |.fdiv=>mB (λi j=>if 0<j/\j<2 ^ 30 then some (i / j) else none) x y
 |.mod=>mB (λi j=>if 0<j/\j<2 ^ 30 then some (i % j) else none) x y
 |.pow=>mB (λi j=>if i=2/\0<=j/\j<=10 then some (2 ^ j.toNat) else none) x y
 |.fmt=>CZ x y
def rY(f:Int->Int->Bool)(x y:PV):Option Bool:=o2 (dn x) (dn y) (λi j=>some (f i j)) none
def xW(x y:PV):Option Bool:=o2 (dU x) (dU y) (λa b=>if a.plain&&b.plain then some (fD a b) else none) none
def qa(x y:PV):Option Bool:=o2 (dU x) (dU y) (λa b=>if a.plain&&b.plain then some (!fD a b) else if (a.dictL&&b.dictL)&&fD a b then some false else none) none
noncomputable def ab.isN0:ab->Option Bool
 |.none=>some true
 |.bool _=>.none
 |_=>some false
def isN0(x:PV):Option Bool:=o1 (dU x) ab.isN0 (some false)
def xX(x y:PV):Option Bool:=((dU y).bind ab.nil?).bind λZ=>isN0 x
def jU(x c:PV)(s:ah):Option Bool:=(dU x).bind λx=>o1 (eW s c) (λJ=>if x.plain&&ab.plains J then some (J.any λy=>fD y x) else none)
 (x.str?.bind λk=>o1 (gn s c) (λal=>some (dget al k).isSome) ((strOf c).bind λb=>(uC k).bind λz=>some (decide (z∈b))))
def uH(o:CO)(x y:PV)(s:ah):Option Bool:=match o with
 |.eq=>xW x y
 |.ne=>qa x y
 |.lt=>rY (λi j=>decide (i<j)) x y
 |.gt=>rY (λi j=>decide (i>j)) x y
 |.le=>rY (λi j=>decide (i<=j)) x y
 |.ge=>rY (λi j=>decide (i>=j)) x y
 |.isN=>xX x y
 |.notN=>(xX x y).map (!·)
 |.isIn=>jU x y s
 |.notIn=>(jU x y s).map (!·)
def uI(s:ah)(x:PV):Option (List (Int×Nat)):=(jd x).bind (rV s)
def nY{α:Type}(J:List α)(y:PV):Option α:=(dn y).bind λk=>(bV J.length k).bind (J[·]?)
def C4(x y:PV)(s:ah):Option PV:=o1 (uD x) (nY · y)<|o1 (lC x) (λJ=>(nY J y).map .d)<|o1 (strOf x) (λJ=>(nY J y).map λc=>.d (.str [c]))<|
 o1 (eW s x) (λJ=>(nY J y).map .d)<|o1 (gn s x) (λal=>(strOf y).bind λk=>(dget al k).map .d)<|(uI s x).bind λts=>(dn y).bind λk=>(ky ts k).map .ref
noncomputable def slc {α:Type}(l:List α) (lo hi:Nat):List α:=(l.take hi).drop lo
def C5(a:PV)(lo hi:Nat->Nat)(s:ah):Option PV:=o1 (strOf a) (λJ=>some (.d (.str (slc J (lo J.length) (hi J.length)))))<|
 o1 (lC a) (λJ=>if hi J.length - lo J.length<J.length then some (.d (.tup (slc J (lo J.length) (hi J.length)))) else none)<|(eW s a).map λJ=>.d (.list (slc J (lo J.length) (hi J.length)))
def ah.new(s:ah)(k:Nat)(o:aV):Option (PV×ah):=if (s.Y k).isNone=true then some (.ref k,⟨ak s.Y k (some o),k::s.own⟩) else none
def xY(a:PV)(s:ah):Option ab:=o1 (strOf a) (λJ=>some (.int J.length))<|o1 (lC a) (λJ=>some (.int J.length))<|(eW s a).map λJ=>.int J.length
noncomputable def C6:List Int->Option ab
 |x::r=>some (.int (r.foldl max x))
 |[]=>none
def qb(J:List ab):Option ab:=if J.length<64 then (match gm J with
 |some l=>some (.list ((l.mergeSort pY).map .str))
 |none=>(rX J).map λl=>.list ((l.mergeSort pZ).map λp=>.tup [.str p.1,.str p.2])) else none
noncomputable def C7:aa->Option ab
 |[c]=>some (.int c)
 |_=>none
def uJ(s:ah)(a:PV):Option (List ab):=o1 (lC a) some (eW s a)
noncomputable def rZ:PV->Option Nat
 |.pat k=>some k
 |_=>none
def nZ(b:BI)(a:PV)(s:ah):Option ab:=match b with
 |.len=>xY a s
 |.lenSet=>((listOf a).bind gm).map λl=>.int l.eraseDups.length
 |.max1=>((listOf a).bind gD).bind C6
 |.sum1=>((listOf a).bind gD).map λl=>.int l.sum
 |.sorted1=>(listOf a).bind qb
 |.chr1=>(dn a).bind λi=>if 0<=i/\i<1000 then some (.str [i.toNat]) else none
 |.ord1=>(strOf a).bind C7
 |.strI=>(dn a).bind λi=>if 0<=i/\i<100000000 then some (.str (d6 i.toNat)) else none
 |.intS=>(strOf a).bind λx=>if x.length<=9 then (uE x).map λ(n:Nat)=>.int n else none
 |.tupL=>(listOf a).map .tup
 |.lstrip=>(strOf a).bind λx=>if x.all (λc=>decide (32<=c/\c<127)) then some (.str (x.dropWhile fE)) else none
 |.lower=>(strOf a).bind λx=>if x.all (λc=>decide (c<128)) then some (.str (x.map my)) else none
 |_=>none
def xZ(aA:aa)(l:List aa):Option ab:=if l.length*(aA.length+1)<=8000000/\(l.map List.length).sum<=8000000 then some (.str (bZ aA l)) else none
def C8(b:BI)(o a:PV)(s:ah):Option ab:=match b with
 |.join=>(strOf o).bind λaA=>((uJ s a).bind gm).bind (xZ aA)
 |.find=>(strOf o).bind λx=>(strOf a).bind λy=>if 0<y.length then some (.int (d5 y x 0)) else none
 |.split=>(strOf o).bind λx=>(strOf a).bind λaA=>if 0<aA.length/\x.length+2<=lim/\aA.all (λc=>decide (c<256))=true then some (.list ((cZ aA [] x 0).map .str)) else none
 |.index=>((listOf o).bind gD).bind λl=>(dn a).bind λi=>if i∈l then some (.int (l.idxOf i)) else none
 |.count=>((listOf o).bind gD).bind λl=>(dn a).map λi=>.int (l.count i)
 |.search=>(rZ o).bind λk=>(strOf a).bind λx=>if (k=2/\lA x=true)\/(k=3/\mz x=true) then some .none else none
 |_=>none
def C9(b:BI)(o a c:PV)(s:ah):Option ab:=match b with
 |.split1=>(strOf o).bind λx=>(strOf a).bind λaA=>(dn c).bind λn=>if (0<aA.length/\n=1)/\x.length+2<=lim/\aA.all (λc=>decide (c<256))=true then (match d5 aA x 0 with
  |.ofNat i=>some (.list [.str (x.take i),.str (x.drop (i+aA.length))])
  |_=>some (.list [.str x])) else none
 |.dget=>(gn s o).bind λal=>(strOf a).bind λk=>(dU c).map λd=>(dget al k).getD d
 |.resub=>(rZ o).bind λk=>(strOf a).bind λy=>(strOf c).bind λx=>if x.length<=1000000 then (if k=1/\y=[13,10] then some (.str (dC x)) else if k=0/\y=[46,46] then some (.str (eJ true x)) else none) else none
 |_=>none
def Lg(l:List PV)(s:ah):Option ah:=(pX l).bind λq=>(jd q.1).bind λk=>(dU q.2).bind λx=>(iT s k).bind λJ=>if J.length+1<=lim then some (s.put k (.list (J++[x]))) else none
def Lh(l:List PV)(s:ah):Option ah:=(pX l).bind λq=>(jd q.1).bind λk=>(listOf q.2).bind λys=>(iT s k).bind λJ=>if J.length+ys.length<=lim then some (s.put k (.list (J++ys))) else none
def Li(b:BI)(l:List PV)(s:ah):Option ab:=match l with
 |[a]=>nZ b a s
 |[o,a]=>C8 b o a s
 |[o,a,c]=>C9 b o a c s
 |_=>none
def x0:BI->Bool
 |.append=>true
 |_=>false
def uK:BI->Bool
 |.extend=>true
 |_=>false
def n5(b:BI)(l:List PV)(s:ah):Option (PV×ah):=cond (x0 b) ((Lg l s).map λs=>(.d .none,s)) (cond (uK b) ((Lh l s).map λs=>(.d .none,s)) ((Li b l s).map λd=>(.d d,s)))
noncomputable def ya:BI->Nat
 |.join|.find|.lstrip|.lower|.split|.split1=>0
 |.append|.extend=>1
 |.index|.count=>2
 |.dget=>3
 |.search|.resub=>4
 |_=>5
def C'(k:Nat)(x:PV)(s:ah):Option String:=match k with
 |0=>(strOf x).map λZ=> "str"
 |1=>(mA s x).map λZ=> "list"
 |2=>(eW s x).map λZ=> "list"
 |3=>(gn s x).map λZ=> "dict"
 |4=>(rZ x).bind λk=>if k<4 then some "re.Pattern" else none
 |_=>none
abbrev mC(b:BI)(x:PV)(s:ah):Option String:=C' (ya b) x s
noncomputable def dO (i:Nat) (x:PV) (D:aI):aI:=D.set i (some x)
noncomputable def lE:aa->List PV->aI->Option aI
 |[],[],D=>some D
 |i::is,x::J,D=>lE is J (dO i x D)
 |_,_,_=>none
def gp(tg:aa)(x:ab)(D:aI):Option aI:=o1 (uC tg) (λi=>some (dO i (.d x) D)) (x.tup?.bind λys=>lE tg (ys.map .d) D)
def Da(x:PV):Option (List PV):=o1 (lC x) (λJ=>some (J.map .d)) (uD x)
def mD(o k x:PV)(s:ah):Option ah:=(jd o).bind λr=>
 o2 (strOf k) (dU x) (λk x=>(dictAt s r).bind λal=>if al.length+1<=lim then some (s.put r (.dict (fQ al k x))) else none)<|
 o2 (dn k) (jd x) (λk j=>(rV s r).bind λts=>if ts.length+1<=lim/\r∈s.own/\100<=j then some (s.put r (.tab (lB ts k j))) else none) none
def uL(a:PV)(s:ah):Option (List ab×Option Nat):=o1 (listOf a) (λJ=>some (J,none))<|o1 (lC a) (λJ=>some (J,none))<|
 o1 ((dU a).bind ab.rng?) (λq=>some ((List.range (q.2.toNat - q.1.toNat)).map λ(i:Nat)=>ab.int (q.1+(i:Int)),none))<|
 (jd a).bind λk=>o1 (iT s k) (λJ=>some (J,some k)) ((dictAt s k).map λal=>(al.map λp=>.str p.1,some k))
def Db(a:PV)(s:ah):Option (List ab×Option Nat):=o1 ((dU a).bind ab.dict?) (λal=>some (al.map λp=>.tup [.str p.1,p.2],none))<|
 (jd a).bind λk=>(dictAt s k).map λal=>(al.map λp=>.tup [.str p.1,p.2],some k)
noncomputable def mE (a b:Int):Option (List ab×Option Nat):=if iR a b then some ((List.range (b.toNat - a.toNat)).map λ(i:Nat)=>ab.int (a+(i:Int)),none) else none
noncomputable def mF:Int->List ab->List ab
 |_,[]=>[]
 |i,x::J=>.tup [.int i,x]::mF (i+1) J
noncomputable def lF:List ab->List ab->List ab
 |x::J,y::ys=>.tup [x,y]::lF J ys
 |_,_=>[]
noncomputable def ah.lock (s:ah):Option Nat->ah
 |none=>s
 |some k=>match s.Y k with|some o=>s.put k (.lk o)|none=>s
noncomputable def ah.unlock (s:ah):Option Nat->ah
 |none=>s
 |some k=>match s.Y k with|some (.lk o)=>s.put k o|_=>s
noncomputable def bS {α β:Type}(o:Option (α×ah)) (f:α->ah->Option β):Option β:=match o with
 |some (x,s)=>f x s
 |none=>none
noncomputable def pS {α:Type}(o:Option α) (s:ah):Option (α×ah):=match o with
 |some x=>some (x,s)
 |none=>none
abbrev RS:=Option (Fl×aI×ah)
noncomputable def b3 {β:Type}(o:RS) (f:Fl->aI->ah->Option β):Option β:=match o with
 |some (x,D,s)=>f x D s
 |none=>none
noncomputable def Fl.go (f:Fl) (D:aI) (s:ah) (k:RS):RS:=match f with
 |.next=>k
 |.ret v=>some (.ret v,D,s)
def gU(body:ab->ah->Option (Option ab×ah)):List ab->List ab->ah->Option (List ab×ah)
 |[],acc,s=>some (acc,s)
 |x::J,acc,s=>bS (body x s) λy s=>gU body J (acc++y.toList) s
noncomputable def dD (body:ab->aI->ah->RS):List ab->aI->ah->RS
 |[],D,s=>some (.next,D,s)
 |x::J,D,s=>b3 (body x D s) λf D s=>f.go D s (dD body J D s)
noncomputable def lG (f:aI->ah->Option (Option Fl×aI×ah)):Nat->aI->ah->RS
 |0,_,_=>none
 |n+1,D,s=>(f D s).bind λq=>q.1.elim (lG f n q.2.1 q.2.2) λfl=>some (fl,q.2)
open Classical in
def pick(P:Fl×aI×ah->Prop):RS:=if h:∃r,P r then some h.choose else none
def gb(f:aI->ah->Option (Option Fl×aI×ah))(D:aI)(s:ah):RS:=pick λr=>∃n,lG f n D s=some r
mutual
noncomputable def jV (k:Nat):PV->Bool
 |.d _=>true
 |.ref j=>j !=k
 |.hdr j=>j !=k
 |.tup D=>yb k D
 |.pat _=>true
 |.raw _=>true
 |.lit _=>true
noncomputable def yb (k:Nat):List PV->Bool
 |[]=>true
 |x::J=>jV k x&&yb k J
end
def n6(i:Nat)(D:aI)(s:ah):Option (aI×ah):=((D[i]?).join.bind jd).bind λk=>
  if k∈s.own/\k<100/\(D.set i none).all (λx=>match x with|some p=>jV k p|none=>true)=true then
   o1 (iT s k) (λJ=>some (D.set i (some (.d (.list J))),⟨ak s.Y k none,s.own.filter (· !=k)⟩)) ((dictAt s k).map λal=>(D.set i (some (.d (.dict al))),⟨ak s.Y k none,s.own.filter (· !=k)⟩)) else none
structure je where
 g:Nat->Option PV
 fn:Nat->List PV->ah->Option (PV×ah)
 hd:Bool
def n7:List PV->Option (List ab)
 |[]=>some []
 |x::r=>(dU x).bind λd=>(n7 r).map (d::·)
def yc(l:List PV):PV:=match n7 l with
 |some ds=>.d (.tup ds)
 |none=>.tup l
noncomputable def n8 (D:aI) (bX:aa):aI:=bX.map λi=>(D[i]?).getD none
def Lj:xU->aI->Option Nat
 |.c n,_=>some n
 |.lin i j,D=>((D[i]?).join.bind dn).bind λa=>((D[j]?).join.bind dn).map λb=>100+(9*a+b).toNat
noncomputable def ab.truth:ab->Option Bool
 |.bool b=>some b
 |.none=>some false
 |_=>.none
def truth(x:PV):Option Bool:=(dU x).bind ab.truth
noncomputable def r4 (h:Option Nat) (o:aV) (s:ah):Option (PV×ah):=match h with
 |some k=>s.new k o
 |none=>match o with
  |.list J=>some (.d (.list J),s)
  |.dict al=>some (.d (.dict al),s)
  |_=>none
noncomputable def uM:List (aa×ab)->Bool
 |[]=>true
 |p::r=>r.all (λq=>q.1 !=p.1)&&uM r
def mG(lH:aI->ah->Option (Bool×ah))(lI:aI->ah->Option (PV×ah))(tg:aa)(D:aI)(x:ab)(s:ah):Option (Option ab×ah):=
 (gp tg x D).bind λaS=>
 bS (lH aS s) λc s=>
 cond c (bS (lI aS s) λy s=>pS ((dU y).map some) s) (some (none,s))
def yd:Option xU->aI->Option (Option Nat)
 |none,_=>some none
 |some g,D=>(Lj g D).map some
noncomputable def dL (lo:Option Int) (n:Nat):Nat:=lo.elim 0 (clipAt n)
noncomputable def eB (hi:Option Int) (n:Nat):Nat:=hi.elim n (clipAt n)
def Dc(x y:PV):Option PV:=(dn x).bind λi=>(dn y).bind λj=>if iR i j then some (.d (.rng i j)) else none
def Lk(n:Int):Option PV:=if 0<=n/\n<=lim then some (.d (.int n)) else none
def Ll(x y:PV)(s:ah):Option (List ab×Option Nat):=(listOf y).bind λys=>o1 (listOf x) (λJ=>some (lF J ys,none)) ((mA s x).map λq=>(lF q.2 ys,some q.1))
noncomputable def Dd:PV->Option aa
 |.lit x=>some x
 |_=>none
open Classical in
noncomputable def uN {α:Type}(x y:Option α):Option α:=if x=y then x else none
section
variable(F:je)
mutual
noncomputable def ev:PE->aI->ah->Option (PV×ah)
 |.cI i _,_,s=>some (.d (.int i),s)
 |.cS x _,_,s=>some (.d (.str x),s)
 |.cL x _,_,s=>some (.lit x,s)
 |.cN _,_,s=>some (.d .none,s)
 |.cB b _,_,s=>some (.d (.bool b),s)
 |.v i _,D,s=>pS (D[i]?).join s
 |.g k _,_,s=>pS (F.g k) s
 |.bin o a b _,D,s=>
  bS (ev a D s) λx s=>
  bS (ev b D s) λy s=>
  pS (lD o x y s) s
 |.neg a _,D,s=>
  bS (ev a D s) λx s=>
  pS ((dn x).map λi=>.d (.int (-i))) s
 |.rng a b _ _,D,s=>
  bS (ev a D s) λx s=>
  bS (ev b D s) λy s=>
  pS (Dc x y) s
 |.cmp o a b _,D,s=>
  bS (ev a D s) λx s=>
  bS (ev b D s) λy s=>
  pS ((uH o x y s).map λr=>.d (.bool r)) s
 |.ite t a b _,D,s=>
  bS (bP t D s) λc s=>
  cond c (ev a D s) (ev b D s)
 |.idx a i _,D,s=>
  bS (ev a D s) λx s=>
  bS (ev i D s) λy s=>
  pS (C4 x y s) s
 |.sl a lo hi _ _,D,s=>
  bS (ev a D s) λx s=>
  bS (ye lo D s) λl s=>
  bS (ye hi D s) λh s=>
  pS (C5 x (dL l) (eB h) s) s
 |.tup es _,D,s=>
  bS (iw es D s) λl s=>
  some (yc l,s)
 |.lst h es _,D,s=>
  bS (iw es D s) λl s=>
  (n7 l).bind λds=>
  r4 h (.list ds) s
 |.dct g es _,D,s=>
  (yd g D).bind λh=>
  bS (r5 es D s) λl s=>
  if uM l=true then r4 h (.dict l) s else none
 |.mtab _,_,s=>s.new 30 (.tab [])
 |.comp h bX tg nl it cs e _ _ _,D,s=>
  bS (gE it D s) λq s=>
  if q.1.length<=lim then
  bS (gU (mG (lJ cs) (ev e) tg (List.replicate nl none++n8 D bX)) q.1 [] (s.lock q.2)) λr s=>
  r4 h (.list r) (s.unlock q.2)
  else none
 |.call f args _ _,D,s=>
  bS (iw args D s) λl s=>
  F.fn f l s
 |.meth f o args _ _,D,s=>
  bS (ev o D s) λx s=>
  bS (iw args D s) λl s=>
  (nX x).bind λj=>
  F.fn f (.hdr j::l) s
 |.methK f o a kw _ _ _,D,s=>
  bS (ev o D s) λx s=>
  bS (ev a D s) λy s=>
  bS (ev kw D s) λz s=>
  (nX x).bind λj=>
  F.fn f [.hdr j,y,z] s
 |.lenH o _ _,D,s=>
  bS (ev o D s) λx s=>
  (nX x).bind λj=>
  bS (F.fn 20 [.hdr j] s) λy s=>
  pS ((dn y).bind Lk) s
 |.strH o _ _,D,s=>
  bS (ev o D s) λx s=>
  (nX x).bind λj=>
  bS (F.fn 21 [.hdr j] s) λy s=>
  pS ((strOf y).map λn=>.d (.str n)) s
 |.bi b a _ _,D,s=>
  bS (ev a D s) λx s=>
  pS ((nZ b x s).map .d) s
 |.lenS a _ _ _ _,D,s=>
  bS (ev a D s) λx s=>
  pS (((listOf x).bind gm).bind λl=>if l.length<4000 then some (.d (.int l.eraseDups.length)) else none) s
 |.me b o args _ _,D,s=>
  bS (ev o D s) λx s=>
  (mC b x s).bind λt=>
  bS (iw args D s) λl s=>
  if mC b x s=some t then n5 b (x::l) s else none
 |.attr o _,D,s=>
  bS (ev o D s) λx s=>
  pS ((nX x).map .ref) s
 |.newH0 k _ _,_,s=>if F.hd=true then bS (s.new k (.list [])) λZ s=>some (.hdr k,s) else none
 |.newH a _ _,D,s=>if F.hd=true then
  bS (ev a D s) λx s=>
  (mA s x).bind λq=>
  if nW q.2=true then some (.hdr q.1,s) else none
  else none
 |.qrep o z _ _ _ _ _,D,s=>
  bS (ev o D s) λx s=>
  bS (ev z D s) λy s=>
  (strOf x).bind λa=>
  (Dd y).bind λe=>
  if a.length<=1000000/\e.length<=4 then uN (F.fn 0 [.d (.str a)] s) (F.fn 0 [.d (.str (bZ e (cZ [13,10] [] a 0)))] s) else none
noncomputable def ye:PB->aI->ah->Option (Option Int×ah)
 |.no,_,s=>some (none,s)
 |.at_ e,D,s=>
  bS (ev e D s) λx s=>
  pS ((dn x).map some) s
noncomputable def iw:List PE->aI->ah->Option (List PV×ah)
 |[],_,s=>some ([],s)
 |e::es,D,s=>
  bS (ev e D s) λx s=>
  bS (iw es D s) λl s=>
  some (x::l,s)
noncomputable def r5:List PE->aI->ah->Option (List (aa×ab)×ah)
 |k::e::es,D,s=>
  bS (ev k D s) λx s=>
  (strOf x).bind λa=>
  bS (ev e D s) λy s=>
  (dU y).bind λd=>
  bS (r5 es D s) λl s=>
  some ((a,d)::l,s)
 |[],_,s=>some ([],s)
 |_,_,_=>none
noncomputable def bP:PT->aI->ah->Option (Bool×ah)
 |.cmp o a b _,D,s=>
  bS (ev a D s) λx s=>
  bS (ev b D s) λy s=>
  pS (uH o x y s) s
 |.and ts _,D,s=>lJ ts D s
 |.or ts _,D,s=>yf ts D s
 |.not t _,D,s=>
  bS (bP t D s) λc s=>
  some (!c,s)
 |.e x,D,s=>
  bS (ev x D s) λx s=>
  pS (truth x) s
 |.isStr x _ _ _ _,D,s=>
  bS (ev x D s) λx s=>
  pS ((strOf x).map λZ=>true) s
 |.notList x _ _ _ _,D,s=>
  bS (ev x D s) λx s=>
  pS ((mA s x).map λZ=>false) s
noncomputable def lJ:List PT->aI->ah->Option (Bool×ah)
 |[],_,s=>some (true,s)
 |t::ts,D,s=>
  bS (bP t D s) λc s=>
  cond c (lJ ts D s) (some (false,s))
noncomputable def yf:List PT->aI->ah->Option (Bool×ah)
 |[],_,s=>some (false,s)
 |t::ts,D,s=>
  bS (bP t D s) λc s=>
  cond c (some (true,s)) (yf ts D s)
noncomputable def gE:IT->aI->ah->Option ((List ab×Option Nat)×ah)
 |.val e,D,s=>
  bS (ev e D s) λx s=>
  pS (uL x s) s
 |.range a _ _,D,s=>
  bS (ev a D s) λx s=>
  pS ((dn x).bind (mE 0)) s
 |.range2 a b _ _,D,s=>
  bS (ev a D s) λx s=>
  bS (ev b D s) λy s=>
  pS ((dn x).bind λi=>(dn y).bind (mE i)) s
 |.enum e _ _,D,s=>
  bS (ev e D s) λx s=>
  pS ((listOf x).map λJ=>(mF 0 J,none)) s
 |.zip a b _ _,D,s=>
  bS (ev a D s) λx s=>
  bS (ev b D s) λy s=>
  pS (Ll x y s) s
 |.items e _ _,D,s=>
  bS (ev e D s) λx s=>
  pS (Db x s) s
end
end
section
variable(F:je)
def gV(lH:aI->ah->Option (Bool×ah))(body:aI->ah->RS)(D:aI)(s:ah):Option (Option Fl×aI×ah):=
 bS (lH D s) λc s=>
 cond c (b3 (body D s) λf D s=>match f with
  |.next=>some (none,D,s)
  |.ret v=>some (some (.ret v),D,s)) (some (some .next,D,s))
def yg(tg:aa)(it:aI->ah->Option ((List ab×Option Nat)×ah))(body:aI->ah->RS)(D:aI)(s:ah):RS:=
 bS (it D s) λq s=>
 b3 (dD (λx D s=>(gp tg x D).bind λD=>body D s) q.1 D (s.lock q.2)) λfl D s=>
 some (fl,D,s.unlock q.2)
mutual
noncomputable def ex:PS->aI->ah->RS
 |.asg i e _ _,D,s=>
  bS (ev F e D s) λx s=>
  some (.next,dO i x D,s)
 |.aug i e _ _,D,s=>
  ((D[i]?).join.bind dn).bind λa=>
  bS (ev F e D s) λx s=>
  (dn x).bind λb=>
  some (.next,dO i (.d (.int (a+b))) D,s)
 |.asgT is e _ _ _,D,s=>
  bS (ev F e D s) λx s=>
  ((Da x).bind λps=>lE is ps D).bind λD=>
  some (.next,D,s)
 |.setI o k e _ _,D,s=>
  bS (ev F e D s) λx s=>
  bS (ev F o D s) λo s=>
  bS (ev F k D s) λk s=>
  (mD o k x s).bind λs=>
  some (.next,D,s)
 |.setI2 o1 k1 o2 k2 e _ _ _ _,D,s=>
  bS (ev F e D s) λx s=>
  (CX x).bind λq=>
  bS (ev F o1 D s) λo s=>
  bS (ev F k1 D s) λk s=>
  (mD o k (.d q.1) s).bind λs=>
  bS (ev F o2 D s) λo s=>
  bS (ev F k2 D s) λk s=>
  (mD o k (.d q.2) s).bind λs=>
  some (.next,D,s)
 |.ex e _,D,s=>
  bS (ev F e D s) λx s=>
  if CY x=true then some (.next,D,s) else none
 |.ite t a b _,D,s=>
  bS (bP F t D s) λc s=>
  cond c (bo a D s) (bo b D s)
 |.whl t b _,D,s=>gb (gV (bP F t) (bo b)) D s
 |.for1 i it b _ _,D,s=>yg [i] (gE F it) (bo b) D s
 |.forT is it b _ _ _,D,s=>yg is (gE F it) (bo b) D s
 |.ret e _,D,s=>
  bS (ev F e D s) λx s=>
  some (.ret x,D,s)
 |.frz i,D,s=>(n6 i D s).map λq=>(.next,q.1,q.2)
 |.fail _,_,_=>none
noncomputable def bo:List PS->aI->ah->RS
 |[],D,s=>some (.next,D,s)
 |t::ts,D,s=>b3 (ex t D s) λf D s=>f.go D s (bo ts D s)
end
noncomputable def Fl.val:Fl->PV
 |.ret v=>v
 |.next=>.d .none
noncomputable def jf (own:aa) (Y:Nat->Option aV):Nat->Option aV:=λk=>if k∈own then none else Y k
def dv(body:List PS)(nv:Nat)(keep:Bool)(args:List PV)(s:ah):Option (PV×ah):=
 b3 (bo F body (args.map some++List.replicate (nv - args.length) none) ⟨s.Y,[]⟩) λf Z t=>
 if keep=true then some (f.val,⟨t.Y,t.own++s.own⟩) else
 if t.own=[]\/(t.Y 30).isNone=true\/30∈t.own then pS ((dU f.val).map .d) ⟨jf t.own t.Y,s.own⟩ else none
end
def lK(x:aa):Prop:=∀d∈x,d≠13/\d≠10
def Lm(h:c≠13/\c≠10):dC (c::r)=c::dC r:=bK λq=>q.elim h.1 h.2
def yh(r:aa):dC (10::r)=13::10::dC r:=(bv (.inr rfl)).trans (ae (13::10::·) (bK λq=>aj q.1 (by decide)))
def De(h:r.head?≠some 10):dC (13::r)=13::10::dC r:=(bv (.inl rfl)).trans (ae (13::10::·) (bK λq=>h q.2))
def Dg(r:aa):dC (13::10::r)=13::10::dC r:=(bv (.inl rfl)).trans (ae (13::10::·) ((bv ⟨rfl,rfl⟩).trans (ae (List.drop 2) (yh r))))
theorem r6:∀(x rest:aa),lK x->dC (x++rest)=x++dC rest
 |[],_,_=>rfl
 |d::x,rest,h=>(Lm (h d (.head _))).trans (ae (d::·) (r6 x rest λe he=>h e (.tail _ he)))
def uO{s:ah}(h:s.Y k=some o):s.lock (some k)=s.put k (.lk o):=by
 show (match s.Y k with|some o=>s.put k (.lk o)|none=>s)=_;rw [h]
def uP{s:ah}(h:s.Y k=some (.lk o)):s.unlock (some k)=s.put k o:=by
 show (match s.Y k with|some (.lk o)=>s.put k o|_=>s)=_;rw [h]
noncomputable def nth (l:List Str) (k:Nat):Str:=(l[k]?).getD ""
def qc(k:Nat):Str:=nth ["CRLF", "EXACT_TOKEN_TYPES", "NT_OFFSET", "ENDMARKER", "_twin_re_1", "_twin_re_2", "_name_disallowed_re", "_value_disallowed_re"] k
def lL(k:Nat):Str:=nth ["quotedata", "ISTERMINAL", "ISNONTERMINAL", "ISEOF", "_law_rules", "_law_read", "_law_place", "_law_table", "_law_onto", "_law_runs", "_law_counts", "_law_trees", "_law_due", "_law_told", "law"] k
def kz(k:Nat):Str:=nth ["__len__", "__str__", "_convert_string_type", "get_all", "get", "items", "setdefault", "add_header", "__init__"] (k - 20)
def n9:BI->Option (Str×aq)
 |.len=>some ("len",.builtin "len")|.max1=>some ("max",.builtin "max")|.sum1=>some ("sum",.builtin "sum")|.sorted1=>some ("sorted",.builtin "sorted")|.chr1=>some ("chr",.builtin "chr")|.ord1=>some ("ord",.builtin "ord")
 |.strI=>some ("str",.type "str")|.intS=>some ("int",.type "int")|.tupL=>some ("tuple",.type "tuple")|_=>none
noncomputable def oe:BI->Option Str
 |.join=>some "join" |.find=>some "find" |.lstrip=>some "lstrip" |.lower=>some "lower" |.split=>some "split" |.split1=>some "split" |.append=>some "append"
 |.extend=>some "extend" |.index=>some "index" |.count=>some "count" |.dget=>some "get" |.search=>some "search" |.resub=>some "sub" |_=>none
def Dh:BO->Operator
 |.add=>.Add|.sub=>.Sub|.mul=>.Mult|.fdiv=>.FloorDiv|.mod=>.Mod|.pow=>.Pow|.fmt=>.Mod
def yi:CO->CmpOp
 |.eq=>.Eq|.ne=>.NotEq|.lt=>.Lt|.gt=>.Gt|.le=>.LtE|.ge=>.GtE|.isN=>.Is|.notN=>.IsNot|.isIn=>.In|.notIn=>.NotIn
noncomputable def uQ (x:Str):Bool:= !(x==("__debug__" :Str))&& !(x==("__classdict__" :Str))
def eK(sc:Scope)(x:Str):Bool:=sc.names.lookup x==some .globalImplicit&&uQ x
def kA(sc:Scope)(i:Nat)(x:Str):Bool:=(bO sc)[i]?==some x&&uQ x
def d7(sc:Scope)(i:Nat):Str:=nth (bO sc) i
def gW(sc:Scope)(i:Nat):Bool:=kA sc i (d7 sc i)
noncomputable def uR (l:aa):Bool:=decide (l.length<200)&&l.all λc=>decide (c<1114112)
noncomputable def dE:Expr->Bool
 |.Starred _ _=>false
 |_=>true
noncomputable def r7:Expr->Bool
 |.Set _ _ _=>true
 |_=>false
noncomputable def yj:Expr->Bool
 |.ListComp ..=>false
 |.SetComp ..=>false
 |.DictComp ..=>false
 |_=>true
noncomputable def lM:Expr->Bool
 |.Call _ [] _ _=>false
 |_=>true
noncomputable def Di:Expr->Bool
 |.Name _ _=>true
 |.Constant _ _ _=>true
 |.BinOp _ _ _ _=>true
 |.UnaryOp _ _ _=>true
 |.Subscript _ _ _=>true
 |.Call _ _ _ _=>true
 |_=>false
noncomputable def Dj:Expr->Bool
 |.Name _ _=>true
 |.Constant _ _ _=>true
 |.Call _ _ _ _=>true
 |_=>false
noncomputable def Ln:Expr->Bool
 |.Tuple D _ _=> !(D.all (constantsAlone 8))
 |_=>true
def d8(sc:Scope)(is:aa)(ps:List Pos):List Expr:=List.zipWith (λi p=>.Name (d7 sc i) p) is ps
def uS(sc:Scope)(tg:aa)(tq:List Pos):Expr:=match tq with
 |[p]=>.Name (d7 sc (tg.headD 0)) p
 |p::ps=>.Tuple (d8 sc tg ps) 0 p
 |[]=>.Tuple [] 0 default
mutual
noncomputable def aE (sc:Scope):PE->Expr
 |.cI i p=>.Constant (.int i) 0 p
 |.cS s p=>.Constant (.str (mk s)) 0 p
 |.cL s p=>.Constant (.str (mk s)) 0 p
 |.cN p=>.Constant .none 0 p
 |.cB b p=>.Constant (.bool b) 0 p
 |.v i p=>.Name (d7 sc i) p
 |.g k p=>.Name (qc k) p
 |.bin o a b p=>.BinOp (aE sc a) (Dh o) (aE sc b) p
 |.neg a p=>.UnaryOp .USub (aE sc a) p
 |.rng a b q p=>.Call (.Name "range" q) [aE sc a,aE sc b] [] p
 |.cmp o a b p=>.Compare (aE sc a) [yi o] [aE sc b] p
 |.ite t a b p=>.IfExp (mH sc t) (aE sc a) (aE sc b) p
 |.idx a i p=>.Subscript (aE sc a) (aE sc i) p
 |.sl a lo hi q p=>.Subscript (aE sc a) (.Slice (yk sc lo) (yk sc hi) none q) p
 |.tup es p=>.Tuple (gX sc es) 0 p
 |.lst _ es p=>.List (gX sc es) p
 |.dct _ es p=>.Dict (r8 sc es) (uT sc es) p
 |.mtab p=>.Dict [] [] p
 |.comp _ _ tg _ it cs e aU tq p=>.ListComp (aE aU e) [⟨uS aU tg tq,kB sc it,jW aU cs,0⟩] aU p
 |.call f as q p=>.Call (.Name (lL f) q) (gX sc as) [] p
 |.meth f o as q p=>.Call (.Attribute (aE sc o) (kz f) q) (gX sc as) [] p
 |.methK f o a kw kp q p=>.Call (.Attribute (aE sc o) (kz f) q) [aE sc a] [⟨some "name",aE sc kw,kp⟩] p
 |.lenH o q p=>.Call (.Name "len" q) [aE sc o] [] p
 |.strH o q p=>.Call (.Name "str" q) [aE sc o] [] p
 |.bi b a q p=>.Call (.Name ((n9 b).elim "" (·.1)) q) [aE sc a] [] p
 |.lenS a q' p' q p=>.Call (.Name "len" q) [.Call (.Name "set" q') [aE sc a] [] p'] [] p
 |.me b o as q p=>.Call (.Attribute (aE sc o) ((oe b).getD "") q) (gX sc as) [] p
 |.attr o p=>.Attribute (aE sc o) "_headers" p
 |.newH0 _ q p=>.Call (.Name "Headers" q) [] [] p
 |.newH a q p=>.Call (.Name "Headers" q) [aE sc a] [] p
 |.qrep o z lp rq rp fq fp=>.Call (.Name "quotedata" fq) [.Call (.Attribute (aE sc o) "replace" rq) [.Constant (.str (mk [13,10])) 0 lp,aE sc z] [] rp] [] fp
noncomputable def yk (sc:Scope):PB->Option Expr
 |.no=>none
 |.at_ e=>some (aE sc e)
noncomputable def gX (sc:Scope):List PE->List Expr
 |[]=>[]
 |e::es=>aE sc e::gX sc es
noncomputable def r8 (sc:Scope):List PE->List (Option Expr)
 |k::_::es=>some (aE sc k)::r8 sc es
 |_=>[]
noncomputable def uT (sc:Scope):List PE->List Expr
 |_::v::es=>aE sc v::uT sc es
 |_=>[]
noncomputable def mH (sc:Scope):PT->Expr
 |.cmp o a b p=>.Compare (aE sc a) [yi o] [aE sc b] p
 |.and ts p=>.BoolOp .And (jW sc ts) p
 |.or ts p=>.BoolOp .Or (jW sc ts) p
 |.not t p=>.UnaryOp .Not (mH sc t) p
 |.e x=>aE sc x
 |.isStr x q1 p1 q p=>.Compare (.Call (.Name "type" q1) [aE sc x] [] p1) [.Is] [.Name "str" q] p
 |.notList x q1 p1 q p=>.Compare (.Call (.Name "type" q1) [aE sc x] [] p1) [.IsNot] [.Name "list" q] p
noncomputable def jW (sc:Scope):List PT->List Expr
 |[]=>[]
 |e::es=>mH sc e::jW sc es
noncomputable def kB (sc:Scope):IT->Expr
 |.val e=>aE sc e
 |.range a q p=>.Call (.Name "range" q) [aE sc a] [] p
 |.range2 a b q p=>.Call (.Name "range" q) [aE sc a,aE sc b] [] p
 |.enum e q p=>.Call (.Name "enumerate" q) [aE sc e] [] p
 |.zip a b q p=>.Call (.Name "zip" q) [aE sc a,aE sc b] [] p
 |.items e q p=>.Call (.Attribute (aE sc e) "items" q) [] [] p
end
def Dk(sc aU:Scope)(nl:Nat)(bX:aa):Bool:=
 aU.kind==.function&&(aU.names.all λp=>aU.names.lookup p.1==some p.2&& !(p.2==.cell)&& !(p.1==(".0" :Str)&&p.2==.free))&& !aU.isGenerator&& !aU.isCoroutine&&decide (bO aU).Nodup&&decide ((bO aU).length=nl+bX.length)&&
 (((bO aU).take nl).all λx=>aU.names.lookup x==some .local)&&
 (((bO aU).drop nl).zip bX).all λp=>aU.names.lookup p.1==some .free&&sc.names.lookup p.1==some .cell&&kA sc p.2 p.1
def Dl(aU:Scope)(tg:aa)(tq:List Pos):Bool:=
 (tg.all λi=>gW aU i&&aU.names.lookup (d7 aU i)==some .local)&&(decide (tg.length=1/\tq.length=1)||decide (2<=tg.length/\tq.length=tg.length+1))
noncomputable def og (q p:Pos):Bool:=q.endLine==p.line
mutual
noncomputable def ok (sc:Scope):PE->Bool
 |.cI _ _=>true
 |.cS s _=>uR s
 |.cL s _=>uR s
 |.cN _=>true
 |.cB _ _=>true
 |.v i _=>gW sc i
 |.g k _=>eK sc (qc k)
 |.bin _ a b _=>ok sc a&&ok sc b
 |.neg a _=>ok sc a
 |.rng a b _ _=>eK sc "range" &&((dE (aE sc a)&&ok sc a)&&(dE (aE sc b)&&ok sc b))
 |.cmp _ a b _=> !r7 (aE sc b)&&(ok sc a&&ok sc b)
 |.ite t a b _=>qd sc t&&(ok sc a&&ok sc b)
 |.idx a i _=>Di (aE sc i)&&(ok sc a&&ok sc i)
 |.sl a lo hi _ _=>ok sc a&&(yl sc lo&&yl sc hi)
 |.tup es _=>decide (es.length<=100)&&jx sc es
 |.lst _ es _=>decide (es.length<=100)&&jx sc es
 |.dct _ es _=>decide (es.length<=30)&&jx sc es
 |.mtab _=>true
 |.comp _ bX tg nl it cs e aU tq _=>Dk sc aU nl bX&&(Dl aU tg tq&&((decide (2<=tg.length)|| !it.pairs)&&(qe sc it&&(oh aU cs&&ok aU e))))
 |.call f as _ _=>eK sc (lL f)&&(decide (f<15)&&jx sc as)
 |.meth f o as q p=>decide (20<=f/\f<28/\f≠22)&&(og q p&&(lM (aE sc o)&&(decide (as.length<20)&&(ok sc o&&jx sc as))))
 |.methK f o a kw _ q p=>f==22&&(og q p&&(lM (aE sc o)&&(ok sc o&&((dE (aE sc a)&&ok sc a)&&ok sc kw))))
 |.lenH o _ _=>eK sc "len" &&(dE (aE sc o)&&ok sc o)
 |.strH o _ _=>eK sc "str" &&(dE (aE sc o)&&ok sc o)
 |.bi b a _ _=>eK sc ((n9 b).elim "" (·.1))&&((n9 b).isSome&&(dE (aE sc a)&&ok sc a))
 |.lenS a _ _ _ _=>eK sc "len" &&(eK sc "set" &&(dE (aE sc a)&&ok sc a))
 |.me b o as q p=>(oe b).isSome&&(og q p&&(lM (aE sc o)&&(decide (as.length<20)&&(ok sc o&&jx sc as))))
 |.attr o _=>lM (aE sc o)&&ok sc o
 |.newH0 _ _ _=>eK sc "Headers"
 |.newH a _ _=>eK sc "Headers" &&(dE (aE sc a)&&ok sc a)
 |.qrep o z _ rq rp _ _=>eK sc "quotedata" &&(og rq rp&&(lM (aE sc o)&&(dE (aE sc z)&&(ok sc o&&ok sc z))))
noncomputable def yl (sc:Scope):PB->Bool
 |.no=>true
 |.at_ e=>ok sc e
noncomputable def jx (sc:Scope):List PE->Bool
 |[]=>true
 |e::es=>(dE (aE sc e)&&ok sc e)&&jx sc es
noncomputable def qd (sc:Scope):PT->Bool
 |.cmp _ a b _=> !r7 (aE sc b)&&(ok sc a&&ok sc b)
 |.and ts _=>oh sc ts
 |.or ts _=>oh sc ts
 |.not t _=>qd sc t
 |.e x=>Dj (aE sc x)&&ok sc x
 |.isStr x _ _ _ _=>eK sc "type" &&(eK sc "str" &&(dE (aE sc x)&&ok sc x))
 |.notList x _ _ _ _=>eK sc "type" &&(eK sc "list" &&(dE (aE sc x)&&ok sc x))
noncomputable def oh (sc:Scope):List PT->Bool
 |[]=>true
 |e::es=>qd sc e&&oh sc es
noncomputable def qe (sc:Scope):IT->Bool
 |.val e=> !r7 (aE sc e)&&ok sc e
 |.range a _ _=>eK sc "range" &&(dE (aE sc a)&&ok sc a)
 |.range2 a b _ _=>eK sc "range" &&((dE (aE sc a)&&ok sc a)&&(dE (aE sc b)&&ok sc b))
 |.enum e _ _=>eK sc "enumerate" &&(dE (aE sc e)&&ok sc e)
 |.zip a b _ _=>eK sc "zip" &&((dE (aE sc a)&&ok sc a)&&(dE (aE sc b)&&ok sc b))
 |.items e q p=>og q p&&(lM (aE sc e)&&ok sc e)
end
noncomputable def PS.put (p:PS) (st:Stmt) (r:List Stmt):List Stmt:=match p with
 |.frz _=>r
 |.fail s=>s
 |_=>st::r
mutual
noncomputable def toS (sc:Scope):PS->Stmt
 |.asg i e q p=>.Assign [.Name (d7 sc i) q] (aE sc e) p
 |.aug i e q p=>.AugAssign (.Name (d7 sc i) q) .Add (aE sc e) p
 |.asgT is e tq tp p=>.Assign [.Tuple (d8 sc is tq) 0 tp] (aE sc e) p
 |.setI o k e q p=>.Assign [.Subscript (aE sc o) (aE sc k) q] (aE sc e) p
 |.setI2 o1 k1 o2 k2 e q1 q2 q p=>.Assign [.Tuple [.Subscript (aE sc o1) (aE sc k1) q1,.Subscript (aE sc o2) (aE sc k2) q2] 0 q] (aE sc e) p
 |.ex e p=>.Expr (aE sc e) p
 |.ite t a b p=>.If (mH sc t) (jg sc a) (jg sc b) p
 |.whl t b p=>.While (mH sc t) (jg sc b) [] p
 |.for1 i it b q p=>.For (.Name (d7 sc i) q) (kB sc it) (jg sc b) [] p
 |.forT is it b tq tp p=>.For (.Tuple (d8 sc is tq) 0 tp) (kB sc it) (jg sc b) [] p
 |.ret e p=>.Return (some (aE sc e)) p
 |_=>.Pass default
noncomputable def jg (sc:Scope):List PS->List Stmt
 |[]=>[]
 |p::ps=>p.put (toS sc p) (jg sc ps)
end
def ym(sc:Scope)(is:aa)(tq:List Pos):Bool:=decide (2<=is.length/\tq.length=is.length)&&(decide is.Nodup&&is.all (gW sc))
mutual
noncomputable def qf (sc:Scope):PS->Bool
 |.asg i e _ _=>gW sc i&&ok sc e
 |.aug i e _ _=>gW sc i&&ok sc e
 |.asgT is e tq _ _=>ym sc is tq&&(Ln (aE sc e)&&ok sc e)
 |.setI o k e _ _=>dE (aE sc k)&&(ok sc o&&(ok sc k&&ok sc e))
 |.setI2 o1 k1 o2 k2 e _ _ _ _=>ok sc o1&&(ok sc k1&&(ok sc o2&&(ok sc k2&&ok sc e)))
 |.ex e _=>yj (aE sc e)&&ok sc e
 |.ite t a b _=>qd sc t&&(kC sc a&&kC sc b)
 |.whl t b _=>qd sc t&&kC sc b
 |.for1 i it b _ _=>gW sc i&&(!it.pairs&&(qe sc it&&kC sc b))
 |.forT is it b tq _ _=>ym sc is tq&&(qe sc it&&kC sc b)
 |.ret e _=>ok sc e
 |_=>true
noncomputable def kC (sc:Scope):List PS->Bool
 |[]=>true
 |p::ps=>qf sc p&&kC sc ps
end
noncomputable def U (l a b:Nat):Pos:=⟨l,a,l,b⟩
noncomputable def fR (l:List (Str×NameKind)):Scope:={kind:=.function,names:=(".0",.local)::l,isGenerator:=false,isCoroutine:=false}
noncomputable def Lo (l c:Nat):Stmt->Bool
 |.Raise _ _ p=>p.line==l&&p.col==c
 |.Assign _ _ p=>p.line==l&&p.col==c
 |_=>false
noncomputable def Dm:Stmt->List Stmt
 |.FunctionDef _ _ b _ _ _ _ _ _ _=>b
 |.ClassDef _ _ _ b _ _ _ _ _ _ _=>b
 |.If _ a _ _=>a
 |.For _ _ b _ _=>b
 |_=>[]
def yn(l c:Nat):Nat->List Stmt->List Stmt
 |n+1,st::r=>match Lo l c st with
  |true=>st::r
  |false=>match yn l c n (Dm st) with
   |[]=>yn l c n r
   |x=>x
 |_,_=>[]
def uU(l c:Nat):List Stmt:=yn l c 300 PySem.Challenge.pw_sc0093_01.main.body
noncomputable def defOf (n:Str):Stmt->Option (Arguments×List Stmt×Scope)
 |.FunctionDef m a b _ _ _ sc _ _ _=>if m==n then some (a,b,sc) else none
 |_=>none
def Dn(f:Nat):Option (Arguments×List Stmt×Scope):=PySem.Challenge.pw_sc0093_01.main.body.findSome? λst=>if f<20 then defOf (lL f) st else (Dm st).findSome? (defOf (kz f))
def kD(f:Nat):Arguments:=match Dn f with
 |some (a,_,_)=>a
 |none=>⟨[],[],none,[],[],none,[]⟩
def fF(f:Nat):Scope:=match Dn f with
 |some (_,_,sc)=>sc
 |none=>fR []
def Do:List PS:=
 [.ret (.me .resub (.g 4 (U 7 11 21)) [(.cS [46,46] (U 7 26 30)),(.me .resub (.g 5 (U 7 32 42)) [(.g 0 (U 7 47 51)),(.v 0 (U 7 53 57))] (U 7 32 46) (U 7 32 58))] (U 7 11 25) (U 7 11 59)) (U 7 4 59)]
def Dp:List PS:=
 [.ret (.cmp .lt (.v 0 (U 61 11 12)) (.g 2 (U 61 15 24)) (U 61 11 24)) (U 61 4 24)]
def Dq:List PS:=
 [.ret (.cmp .ge (.v 0 (U 63 11 12)) (.g 2 (U 63 16 25)) (U 63 11 25)) (U 63 4 25)]
def Dr:List PS:=
 [.ret (.cmp .eq (.v 0 (U 65 11 12)) (.g 3 (U 65 16 25)) (U 65 11 25)) (U 65 4 25)]
def oi(k:Nat):PS:=.asg 1 (.ite (.cmp .notN (.v 1 (U 82 29 36)) (.cN (U 82 44 48)) (U 82 29 48)) (.v 1 (U 82 18 25)) (.lst (some k) [] (U 82 54 56)) (U 82 18 56)) (U 82 8 15) (U 82 8 56)
def qg:PS:=.ite (.notList (.v 1 (U 83 16 23)) (U 83 11 15) (U 83 11 24) (U 83 32 36) (U 83 11 36)) [.fail (uU 84 12)] [] ⟨83,8,84,74⟩
def oj:PS:=.ite (.e (.cB true (U 86 11 20))) [.forT [2,3] (.val (.v 1 (U 87 24 31))) [.ex (.methK 22 (.v 0 (U 88 16 20)) (.v 2 (U 88 42 43)) (.cB true (U 88 50 54)) (U 88 45 54) (U 88 16 41) (U 88 16 55)) (U 88 16 55),.ex (.methK 22 (.v 0 (U 89 16 20)) (.v 3 (U 89 42 43)) (.cB false (U 89 50 55)) (U 89 45 55) (U 89 16 41) (U 89 16 56)) (U 89 16 56)] [(U 87 16 17),(U 87 19 20)] (U 87 16 20) ⟨87,12,89,56⟩] [] ⟨86,8,89,56⟩
def r9(sc:Scope):List Stmt:=[toS sc (oi 0),toS sc qg,.Assign [.Attribute (.Name (d7 sc 0) (U 85 8 12)) "_headers" (U 85 8 21)] (.Name (d7 sc 1) (U 85 24 31)) (U 85 8 31),toS sc oj]
def Ds:List PS:=
 [.ite (.isStr (.v 1 (U 92 16 21)) (U 92 11 15) (U 92 11 22) (U 92 26 29) (U 92 11 29)) [.asg 3 (.ite (.e (.v 2 (U 93 43 47))) (.g 6 (U 93 20 39)) (.g 7 (U 93 53 73)) (U 93 20 73)) (U 93 12 17) (U 93 12 73),.ite (.e (.me .search (.v 3 (U 94 15 20)) [(.v 1 (U 94 28 33))] (U 94 15 27) (U 94 15 34))) [.fail (uU 95 16)] [] ⟨94,12,95,77⟩,.ret (.v 1 (U 96 19 24)) (U 96 12 24)] [] ⟨92,8,96,24⟩,.fail (uU 97 8)]
def Dt:List PS:=
 [.ret (.bi .len (.attr (.v 0 (U 100 19 23)) (U 100 19 32)) (U 100 15 18) (U 100 15 33)) (U 100 8 33)]
def Du:List PS:=
 [.asg 1 (.methK 22 (.v 0 (U 117 15 19)) (.me .lower (.v 1 (U 117 41 45)) [] (U 117 41 51) (U 117 41 53)) (.cB true (U 117 60 64)) (U 117 55 64) (U 117 15 40) (U 117 15 65)) (U 117 8 12) (U 117 8 65),.ret (.comp none [1] [0] 1 (.val (.attr (.v 0 (U 118 32 36)) (U 118 32 45))) [(.cmp .eq (.me .lower (.idx (.v 0 (U 118 49 51)) (.cI 0 (U 118 52 53)) (U 118 49 54)) [] (U 118 49 60) (U 118 49 62)) (.v 1 (U 118 66 70)) (U 118 49 70))] (.idx (.v 0 (U 118 16 18)) (.cI 1 (U 118 19 20)) (U 118 16 21)) (fR [("kv",.local),("name",.free)]) [(U 118 26 28)] (U 118 15 71)) (U 118 8 71)]
def Dv:List PS:=
 [.asg 1 (.methK 22 (.v 0 (U 121 15 19)) (.me .lower (.v 1 (U 121 41 45)) [] (U 121 41 51) (U 121 41 53)) (.cB true (U 121 60 64)) (U 121 55 64) (U 121 15 40) (U 121 15 65)) (U 121 8 12) (U 121 8 65),.forT [3,4] (.val (.attr (.v 0 (U 122 20 24)) (U 122 20 33))) [.ite (.cmp .eq (.me .lower (.v 3 (U 123 15 16)) [] (U 123 15 22) (U 123 15 24)) (.v 1 (U 123 28 32)) (U 123 15 32)) [.ret (.v 4 (U 124 23 24)) (U 124 16 24)] [] ⟨123,12,124,24⟩] [(U 122 12 13),(U 122 15 16)] (U 122 12 16) ⟨122,8,124,24⟩,.ret (.v 2 (U 125 15 22)) (U 125 8 22)]
def Dw:List PS:=
 [.ret (.sl (.attr (.v 0 (U 134 15 19)) (U 134 15 28)) .no .no (U 134 29 30) (U 134 15 31)) (U 134 8 31)]
def Dx:List PS:=
 [.ret (.me .join (.cS [13,10] (U 140 15 21)) [(.bin .add (.comp none [] [0] 1 (.val (.attr (.v 0 (U 140 52 56)) (U 140 52 65))) [] (.bin .fmt (.cS [37,115,58,32,37,115] (U 140 28 36)) (.v 0 (U 140 39 41)) (U 140 28 41)) (fR [("kv",.local)]) [(U 140 46 48)] (U 140 27 66)) (.lst none [(.cS [] (U 140 70 72)),(.cS [] (U 140 74 76))] (U 140 69 77)) (U 140 27 77))] (U 140 15 26) (U 140 15 78)) (U 140 8 78)]
def Dy:List PS:=
 [.asg 3 (.meth 24 (.v 0 (U 146 17 21)) [(.v 1 (U 146 26 30))] (U 146 17 25) (U 146 17 31)) (U 146 8 14) (U 146 8 31),.ite (.cmp .isN (.v 3 (U 147 11 17)) (.cN (U 147 21 25)) (U 147 11 25)) [.ex (.me .append (.attr (.v 0 (U 148 12 16)) (U 148 12 25)) [(.tup [(.methK 22 (.v 0 (U 148 34 38)) (.v 1 (U 148 60 64)) (.cB true (U 148 71 75)) (U 148 66 75) (U 148 34 59) (U 148 34 76)),(.methK 22 (.v 0 (U 148 78 82)) (.v 2 (U 148 104 109)) (.cB false (U 148 116 121)) (U 148 111 121) (U 148 78 103) (U 148 78 122))] (U 148 33 123))] (U 148 12 32) (U 148 12 124)) (U 148 12 124),.ret (.v 2 (U 149 19 24)) (U 149 12 24)] [.ret (.v 3 (U 151 19 25)) (U 151 12 25)] ⟨147,8,151,25⟩]
def Dz:List PS:=
 [.asg 4 (.lst (some 16) [] (U 154 16 18)) (U 154 8 13) (U 154 8 18),.ite (.cmp .notN (.v 2 (U 155 11 17)) (.cN (U 155 25 29)) (U 155 11 29)) [.asg 2 (.methK 22 (.v 0 (U 156 21 25)) (.v 2 (U 156 47 53)) (.cB false (U 156 60 65)) (U 156 55 65) (U 156 21 46) (U 156 21 66)) (U 156 12 18) (U 156 12 66),.ex (.me .append (.v 4 (U 157 12 17)) [(.v 2 (U 157 25 31))] (U 157 12 24) (U 157 12 32)) (U 157 12 32)] [] ⟨155,8,157,32⟩,.forT [5,6] (.items (.v 3 (U 158 20 27)) (U 158 20 33) (U 158 20 35)) [.fail (uU 159 12)] [(U 158 12 13),(U 158 15 16)] (U 158 12 16) ⟨158,8,164,66⟩,.ex (.me .append (.attr (.v 0 (U 165 8 12)) (U 165 8 21)) [(.tup [(.methK 22 (.v 0 (U 165 30 34)) (.v 1 (U 165 56 61)) (.cB true (U 165 68 72)) (U 165 63 72) (U 165 30 55) (U 165 30 73)),(.me .join (.cS [59,32] (U 165 75 79)) [(.v 4 (U 165 85 90))] (U 165 75 84) (U 165 75 91))] (U 165 29 92))] (U 165 8 28) (U 165 8 93)) (U 165 8 93)]
def qh:List PS:=
 [.asgT [3,4] (.tup [(.lst (some 2) [] (U 168 20 22)),(.newH0 1 (U 168 24 31) (U 168 24 33))] (U 168 19 34)) [(U 168 4 9),(U 168 11 16)] (U 168 4 16) (U 168 4 34),.forT [5,6] (.enum (.v 0 (U 169 35 42)) (U 169 25 34) (U 169 25 43)) [.asg 7 (.bin .mod (.v 6 (U 170 15 21)) (.cI 2250 (U 170 24 28)) (U 170 15 28)) (U 170 8 12) (U 170 8 28),.asg 8 (.ite (.cmp .gt (.v 5 (U 171 27 32)) (.cI 0 (U 171 35 36)) (U 171 27 36)) (.bin .mod (.v 7 (U 171 15 19)) (.cI 3 (U 171 22 23)) (U 171 15 23)) (.cI 0 (U 171 42 43)) (U 171 15 43)) (U 171 8 12) (U 171 8 43),.asg 9 (.sl (.lst none [(.bin .mod (.bin .fdiv (.v 7 (U 172 19 23)) (.cI 9 (U 172 27 28)) (U 172 19 28)) (.cI 5 (U 172 31 32)) (U 172 19 32)),(.bin .mod (.bin .fdiv (.v 7 (U 172 34 38)) (.cI 45 (U 172 42 44)) (U 172 34 44)) (.cI 5 (U 172 47 48)) (U 172 34 48)),(.bin .mod (.bin .fdiv (.v 7 (U 172 50 54)) (.cI 225 (U 172 58 61)) (U 172 50 61)) (.cI 5 (U 172 64 65)) (U 172 50 65))] (U 172 18 66)) .no (.at_ (.bin .add (.cI 1 (U 172 68 69)) (.bin .mod (.bin .fdiv (.v 7 (U 172 72 76)) (.cI 3 (U 172 80 81)) (U 172 72 81)) (.cI 3 (U 172 84 85)) (U 172 72 85)) (U 172 68 85))) (U 172 67 85) (U 172 18 86)) (U 172 8 15) (U 172 8 86),.ite (.cmp .eq (.bi .len (.v 9 (U 173 15 22)) (U 173 11 14) (U 173 11 23)) (.cI 1 (U 173 27 28)) (U 173 11 28)) [.asg 9 (.lst none [(.bin .mod (.idx (.v 9 (U 174 23 30)) (.cI 0 (U 174 31 32)) (U 174 23 33)) (.cI 2 (U 174 36 37)) (U 174 23 37))] (U 174 22 38)) (U 174 12 19) (U 174 12 38)] [] ⟨173,8,174,38⟩,.asg 10 (.me .join (.cS [] (U 175 16 18)) [(.comp none [1] [0] 1 (.val (.v 9 (U 175 53 60))) [] (.idx (.v 1 (U 175 25 30)) (.v 0 (U 175 31 37)) (U 175 25 38)) (fR [("figure",.local),("signs",.free)]) [(U 175 43 49)] (U 175 24 61))] (U 175 16 23) (U 175 16 62)) (U 175 8 13) (U 175 8 62),.asg 11 (.me .join (.cS [32] (U 176 15 18)) [(.comp none [2] [0] 1 (.val (.v 9 (U 176 53 60))) [] (.idx (.v 1 (U 176 25 30)) (.v 0 (U 176 31 37)) (U 176 25 38)) (fR [("figure",.local),("texts",.free)]) [(U 176 43 49)] (U 176 24 61))] (U 176 15 23) (U 176 15 62)) (U 176 8 12) (U 176 8 62),.ite (.cmp .notIn (.tup [(.idx (.v 1 (U 177 12 17)) (.bin .add (.cI 2 (U 177 18 19)) (.v 8 (U 177 22 26)) (U 177 18 26)) (U 177 12 27)),(.v 10 (U 177 29 34)),(.v 11 (U 177 36 40))] (U 177 11 41)) (.v 3 (U 177 49 54)) (U 177 11 54)) [.ex (.me .append (.v 3 (U 178 12 17)) [(.tup [(.idx (.v 1 (U 178 26 31)) (.bin .add (.cI 2 (U 178 32 33)) (.v 8 (U 178 36 40)) (U 178 32 40)) (U 178 26 41)),(.v 10 (U 178 43 48)),(.v 11 (U 178 50 54))] (U 178 25 55))] (U 178 12 24) (U 178 12 56)) (U 178 12 56)] [] ⟨177,8,178,56⟩,.ite (.cmp .notIn (.v 11 (U 179 11 15)) (.meth 23 (.v 4 (U 179 23 28)) [(.idx (.cS [83,65,66] (U 179 37 42)) (.v 8 (U 179 43 47)) (U 179 37 48))] (U 179 23 36) (U 179 23 49)) (U 179 11 49)) [.ex (.meth 27 (.v 4 (U 180 12 17)) [(.idx (.cS [83,65,66,115,97,98] (U 180 29 37)) (.bin .add (.v 8 (U 180 38 42)) (.bin .mul (.cI 3 (U 180 45 46)) (.bin .fdiv (.v 7 (U 180 50 54)) (.cI 1125 (U 180 58 62)) (U 180 50 62)) (U 180 45 63)) (U 180 38 63)) (U 180 29 64)),(.v 11 (U 180 66 70))] (U 180 12 28) (U 180 12 71)) (U 180 12 71)] [] ⟨179,8,180,71⟩] [(U 169 8 13),(U 169 15 21)] (U 169 8 21) ⟨169,4,180,71⟩,.frz 3,.ret (.tup [(.v 3 (U 181 12 17)),(.v 4 (U 181 19 24))] (U 181 11 25)) (U 181 4 25)]
def uV:List PS:=
 [.asg 1 (.lst (some 10) [] (U 183 14 16)) (U 183 4 11) (U 183 4 16),.whl (.cmp .ne (.v 0 (U 184 10 14)) (.cS [] (U 184 18 20)) (U 184 10 20)) [.asg 2 (.bi .max1 (.bin .add (.lst none [(.cI 1 (U 185 20 21))] (U 185 19 22)) (.comp none [0] [0] 1 (.val (.tup [(.cI 2 (U 185 38 39)),(.cI 3 (U 185 41 42))] (U 185 37 43))) [(.cmp .isIn (.sl (.v 1 (U 185 47 51)) .no (.at_ (.v 0 (U 185 53 54))) (U 185 52 54) (U 185 47 55)) (.g 1 (U 185 59 76)) (U 185 47 76))] (.v 0 (U 185 26 27)) (fR [("k",.local),("EXACT_TOKEN_TYPES",.globalImplicit),("text",.free)]) [(U 185 32 33)] (U 185 25 77)) (U 185 19 77)) (U 185 15 18) (U 185 15 78)) (U 185 8 12) (U 185 8 78),.ex (.me .append (.v 1 (U 186 8 15)) [(.me .dget (.g 1 (U 186 23 40)) [(.sl (.v 0 (U 186 45 49)) .no (.at_ (.v 2 (U 186 51 55))) (U 186 50 55) (U 186 45 56)),(.bin .add (.cI 256 (U 186 58 61)) (.me .find (.cS [83,65,66] (U 186 64 69)) [(.sl (.v 0 (U 186 75 79)) .no (.at_ (.v 2 (U 186 81 85))) (U 186 80 85) (U 186 75 86))] (U 186 64 74) (U 186 64 87)) (U 186 58 87))] (U 186 23 44) (U 186 23 88))] (U 186 8 22) (U 186 8 89)) (U 186 8 89),.asg 0 (.me .lstrip (.sl (.v 0 (U 187 15 19)) (.at_ (.v 2 (U 187 20 24))) .no (U 187 20 25) (U 187 15 26)) [] (U 187 15 33) (U 187 15 35)) (U 187 8 12) (U 187 8 35)] ⟨184,4,187,35⟩,.ret (.bin .add (.v 1 (U 188 11 18)) (.lst none [(.cI 0 (U 188 22 23))] (U 188 21 24)) (U 188 11 24)) (U 188 4 24)]
def DA:List PS:=
 [.asg 1 (.call 5 [(.v 0 (U 190 24 27))] (U 190 14 23) (U 190 14 28)) (U 190 4 11) (U 190 4 28),.asg 2 (.me .index (.v 1 (U 191 12 19)) [(.cI 11 (U 191 26 28))] (U 191 12 25) (U 191 12 29)) (U 191 4 9) (U 191 4 29),.asg 3 (.bin .add (.bin .mul (.cI 3 (U 192 11 12)) (.me .count (.sl (.v 1 (U 192 15 22)) .no (.at_ (.v 2 (U 192 24 29))) (U 192 23 29) (U 192 15 30)) [(.cI 52 (U 192 37 39))] (U 192 15 36) (U 192 15 40)) (U 192 11 40)) (.me .count (.sl (.v 1 (U 192 43 50)) .no (.at_ (.v 2 (U 192 52 57))) (U 192 51 57) (U 192 43 58)) [(.cI 23 (U 192 65 67))] (U 192 43 64) (U 192 43 68)) (U 192 11 68)) (U 192 4 8) (U 192 4 68),.ret (.tup [(.idx (.v 1 (U 193 12 19)) (.bin .add (.v 2 (U 193 20 25)) (.v 3 (U 193 28 32)) (U 193 20 32)) (U 193 12 33)),(.idx (.v 1 (U 193 35 42)) (.bin .sub (.v 2 (U 193 43 48)) (.cI 1 (U 193 51 52)) (U 193 43 52)) (U 193 35 53)),(.bin .sub (.v 3 (U 193 55 59)) (.cI 1 (U 193 62 63)) (U 193 55 63))] (U 193 11 64)) (U 193 4 64)]
def ol:List PS:=
 [.asg 5 (.newH (.comp (some 11) [] [0] 1 (.val (.v 0 (U 195 58 64))) [] (.bi .tupL (.me .split1 (.v 0 (U 195 27 30)) [(.cS [58,32] (U 195 37 41)),(.cI 1 (U 195 43 44))] (U 195 27 36) (U 195 27 45)) (U 195 21 26) (U 195 21 46)) (fR [("row",.local),("tuple",.globalImplicit)]) [(U 195 51 54)] (U 195 20 65)) (U 195 12 19) (U 195 12 66)) (U 195 4 9) (U 195 4 66),.asg 6 (.lst (some 12) [] (U 196 13 15)) (U 196 4 10) (U 196 4 15),.whl (.cmp .lt (.bi .len (.v 6 (U 197 14 20)) (U 197 10 13) (U 197 10 21)) (.lenH (.v 5 (U 197 28 33)) (U 197 24 27) (U 197 24 34)) (U 197 10 34)) [.asg 4 (.me .join (.cS [58,32] (U 198 14 18)) [(.idx (.meth 25 (.v 5 (U 198 24 29)) [] (U 198 24 35) (U 198 24 37)) (.bi .len (.v 6 (U 198 42 48)) (U 198 38 41) (U 198 38 49)) (U 198 24 50))] (U 198 14 23) (U 198 14 51)) (U 198 8 11) (U 198 8 51),.ite (.cmp .notIn (.v 4 (U 199 11 14)) (.v 3 (U 199 22 27)) (U 199 11 27)) [.setI (.v 3 (U 200 12 17)) (.v 4 (U 200 18 21)) (.call 6 [(.v 4 (U 200 36 39))] (U 200 25 35) (U 200 25 40)) (U 200 12 22) (U 200 12 40)] [] ⟨199,8,200,40⟩,.asg 7 (.idx (.idx (.v 3 (U 201 16 21)) (.v 4 (U 201 22 25)) (U 201 16 26)) (.cI 0 (U 201 27 28)) (U 201 16 29)) (U 201 8 13) (U 201 8 29),.ex (.me .append (.v 6 (U 202 8 14)) [(.idx (.v 3 (U 202 22 27)) (.v 4 (U 202 28 31)) (U 202 22 32))] (U 202 8 21) (U 202 8 33)) (U 202 8 33),.ite (.and [(.e (.call 2 [(.v 7 (U 203 25 30))] (U 203 11 24) (U 203 11 31))),(.cmp .isN (.meth 24 (.v 5 (U 203 36 41)) [(.bin .add (.cS [46] (U 203 46 49)) (.idx (.cS [83,65,66] (U 203 52 57)) (.bin .sub (.v 7 (U 203 58 63)) (.cI 256 (U 203 66 69)) (U 203 58 69)) (U 203 52 70)) (U 203 46 70))] (U 203 36 45) (U 203 36 71)) (.cN (U 203 75 79)) (U 203 36 79))] (U 203 11 79)) [.for1 8 (.val (.meth 23 (.v 2 (U 204 24 29)) [(.idx (.cS [83,65,66] (U 204 38 43)) (.bin .sub (.v 7 (U 204 44 49)) (.cI 256 (U 204 52 55)) (U 204 44 55)) (U 204 38 56))] (U 204 24 37) (U 204 24 57))) [.ex (.meth 27 (.v 5 (U 205 16 21)) [(.bin .add (.cS [46] (U 205 33 36)) (.idx (.cS [83,65,66] (U 205 39 44)) (.bin .sub (.v 7 (U 205 45 50)) (.cI 256 (U 205 53 56)) (U 205 45 56)) (U 205 39 57)) (U 205 33 57)),(.v 8 (U 205 59 63))] (U 205 16 32) (U 205 16 64)) (U 205 16 64)] (U 204 16 20) ⟨204,12,205,64⟩] [] ⟨203,8,205,64⟩] ⟨197,4,205,64⟩,.asg 9 (.strH (.v 5 (U 206 15 20)) (U 206 11 14) (U 206 11 21)) (U 206 4 8) (U 206 4 21),.asg 10 (.me .split (.qrep (.v 9 (U 207 21 25)) (.v 1 (U 207 42 45)) (U 207 34 40) (U 207 21 33) (U 207 21 46) (U 207 11 20) (U 207 11 47)) [(.cS [13,10] (U 207 54 60))] (U 207 11 53) (U 207 11 61)) (U 207 4 8) (U 207 4 61),.asg 11 (.comp none [] [0,1,2] 3 (.val (.v 6 (U 208 51 57))) [(.and [(.e (.call 3 [(.v 0 (U 208 67 73))] (U 208 61 66) (U 208 61 74))),(.e (.call 2 [(.v 1 (U 208 93 97))] (U 208 79 92) (U 208 79 98)))] (U 208 61 98))] (.tup [(.v 1 (U 208 13 17)),(.v 2 (U 208 19 23))] (U 208 12 24)) (fR [("symbol",.local),("left",.local),("size",.local),("ISEOF",.globalImplicit),("ISNONTERMINAL",.globalImplicit)]) [(U 208 29 47),(U 208 29 35),(U 208 37 41),(U 208 43 47)] (U 208 11 99)) (U 208 4 8) (U 208 4 99),.asg 12 (.comp none [] [0,1] 2 (.zip (.v 6 (U 209 55 61)) (.v 10 (U 209 63 67)) (U 209 51 54) (U 209 51 68)) [(.e (.call 1 [(.idx (.v 0 (U 209 83 88)) (.cI 0 (U 209 89 90)) (U 209 83 91))] (U 209 72 82) (U 209 72 92)))] (.tup [(.idx (.v 0 (U 209 16 21)) (.cI 0 (U 209 22 23)) (U 209 16 24)),(.v 1 (U 209 26 30))] (U 209 15 31)) (fR [("place",.local),("line",.local),("ISTERMINAL",.globalImplicit)]) [(U 209 36 47),(U 209 36 41),(U 209 43 47)] (U 209 14 93)) (U 209 4 11) (U 209 4 93),.asg 13 (.comp none [] [0,1] 2 (.zip (.v 6 (U 210 53 59)) (.v 10 (U 210 61 65)) (U 210 49 52) (U 210 49 66)) [(.not (.e (.call 1 [(.idx (.v 0 (U 210 85 90)) (.cI 0 (U 210 91 92)) (U 210 85 93))] (U 210 74 84) (U 210 74 94))) (U 210 70 94))] (.tup [(.idx (.v 0 (U 210 14 19)) (.cI 0 (U 210 20 21)) (U 210 14 22)),(.v 1 (U 210 24 28))] (U 210 13 29)) (fR [("place",.local),("line",.local),("ISTERMINAL",.globalImplicit)]) [(U 210 34 45),(U 210 34 39),(U 210 41 45)] (U 210 12 95)) (U 210 4 9) (U 210 4 95),.ret (.tup [(.me .split (.v 9 (U 211 12 16)) [(.cS [13,10] (U 211 23 29))] (U 211 12 22) (U 211 12 30)),(.v 10 (U 211 32 36)),(.v 11 (U 211 38 42)),(.v 12 (U 211 44 51)),(.v 13 (U 211 53 58))] (U 211 11 59)) (U 211 4 59)]
def jh:List PS:=
 [.asgT [4,5,6,7,8,9] (.v 3 (U 213 48 52)) [(U 213 4 9),(U 213 11 16),(U 213 18 24),(U 213 26 30),(U 213 32 39),(U 213 41 45)] (U 213 4 45) (U 213 4 52),.asg 10 (.bin .add (.v 0 (U 214 13 17)) (.bi .chr1 (.v 1 (U 214 24 30)) (U 214 20 23) (U 214 20 31)) (U 214 13 31)) (U 214 4 10) (U 214 4 31),.ite (.cmp .isIn (.v 10 (U 215 7 13)) (.v 7 (U 215 17 21)) (U 215 7 21)) [.ret (.lst none [(.v 10 (U 216 16 22))] (U 216 15 23)) (U 216 8 23)] [] ⟨215,4,216,23⟩,.asg 11 (.bi .sorted1 (.comp none [1] [0,1] 2 (.val (.v 2 (U 217 45 50))) [(.cmp .eq (.v 0 (U 217 54 59)) (.v 2 (U 217 63 69)) (U 217 54 69))] (.v 1 (U 217 21 25)) (fR [("ahead",.local),("line",.local),("symbol",.free)]) [(U 217 30 41),(U 217 30 35),(U 217 37 41)] (U 217 20 70)) (U 217 13 19) (U 217 13 71)) (U 217 4 10) (U 217 4 71),.ite (.cmp .eq (.v 11 (U 218 7 13)) (.lst none [] (U 218 17 19)) (U 218 7 19)) [.ret (.lst none [] (U 219 15 17)) (U 219 8 17)] [] ⟨218,4,219,17⟩,.setI (.v 7 (U 220 4 8)) (.v 10 (U 220 9 15)) (.bi .intS (.meth 26 (.v 8 (U 220 23 30)) [(.me .join (.cS [95] (U 220 42 45)) [(.v 11 (U 220 51 57))] (U 220 42 50) (U 220 42 58)),(.bi .strI (.bi .len (.v 6 (U 220 68 74)) (U 220 64 67) (U 220 64 75)) (U 220 60 63) (U 220 60 76))] (U 220 23 41) (U 220 23 77)) (U 220 19 22) (U 220 19 78)) (U 220 4 16) (U 220 4 78),.ite (.cmp .eq (.idx (.v 7 (U 221 7 11)) (.v 10 (U 221 12 18)) (U 221 7 19)) (.bi .len (.v 6 (U 221 27 33)) (U 221 23 26) (U 221 23 34)) (U 221 7 34)) [.ex (.me .append (.v 6 (U 222 8 14)) [(.call 7 [(.v 11 (U 222 33 39)),(.idx (.tup [(.cL [10] (U 222 42 46)),(.cL [13] (U 222 48 52)),(.cL [13,10] (U 222 54 60))] (U 222 41 61)) (.bin .mod (.bin .add (.v 9 (U 222 63 67)) (.bi .len (.v 6 (U 222 74 80)) (U 222 70 73) (U 222 70 81)) (U 222 63 81)) (.cI 3 (U 222 85 86)) (U 222 62 86)) (U 222 41 87)),(.v 4 (U 222 89 94)),(.v 5 (U 222 96 101))] (U 222 22 32) (U 222 22 102))] (U 222 8 21) (U 222 8 103)) (U 222 8 103)] [] ⟨221,4,222,103⟩,.ret (.lst none [(.v 10 (U 223 12 18))] (U 223 11 19)) (U 223 4 19)]
def yo:List PS:=
 [.asgT [2,3] (.tup [(.idx (.v 1 (U 225 20 24)) (.cI 2 (U 225 25 26)) (U 225 20 27)),(.idx (.v 1 (U 225 29 33)) (.cI 3 (U 225 34 35)) (U 225 29 36))] (U 225 19 37)) [(U 225 4 10),(U 225 12 16)] (U 225 4 16) (U 225 4 37),.asg 4 (.lst (some 13) [(.lst none [(.cS [] (U 226 14 16))] (U 226 13 17))] (U 226 12 18)) (U 226 4 9) (U 226 4 18),.whl (.not (.e (.call 3 [(.idx (.v 0 (U 227 20 24)) (.bin .sub (.bi .len (.v 4 (U 227 29 34)) (U 227 25 28) (U 227 25 35)) (.cI 1 (U 227 38 39)) (U 227 25 39)) (U 227 20 40))] (U 227 14 19) (U 227 14 41))) (U 227 10 41)) [.asg 5 (.lst (some 14) [] (U 228 15 17)) (U 228 8 12) (U 228 8 17),.for1 6 (.val (.idx (.v 4 (U 229 20 25)) (.neg (.cI 1 (U 229 27 28)) (U 229 26 28)) (U 229 20 29))) [.ex (.me .extend (.v 5 (U 230 12 16)) [(.call 8 [(.v 6 (U 230 34 38)),(.idx (.v 0 (U 230 40 44)) (.bin .sub (.bi .len (.v 4 (U 230 49 54)) (U 230 45 48) (U 230 45 55)) (.cI 1 (U 230 58 59)) (U 230 45 59)) (U 230 40 60)),(.idx (.idx (.v 2 (U 230 62 68)) (.idx (.v 3 (U 230 69 73)) (.v 6 (U 230 74 78)) (U 230 69 79)) (U 230 62 80)) (.cI 3 (U 230 81 82)) (U 230 62 83)),(.v 1 (U 230 85 89))] (U 230 24 33) (U 230 24 90))] (U 230 12 23) (U 230 12 91)) (U 230 12 91)] (U 229 12 16) ⟨229,8,230,91⟩,.asg 7 (.cI 0 (U 231 16 17)) (U 231 8 13) (U 231 8 17),.whl (.cmp .lt (.v 7 (U 232 14 19)) (.bi .len (.v 5 (U 232 26 30)) (U 232 22 25) (U 232 22 31)) (U 232 14 31)) [.asg 6 (.idx (.v 5 (U 233 19 23)) (.v 7 (U 233 24 29)) (U 233 19 30)) (U 233 12 16) (U 233 12 30),.forT [8,9] (.val (.idx (.idx (.v 2 (U 234 30 36)) (.idx (.v 3 (U 234 37 41)) (.v 6 (U 234 42 46)) (U 234 37 47)) (U 234 30 48)) (.cI 2 (U 234 49 50)) (U 234 30 51))) [.asg 10 (.sl (.v 6 (U 235 24 28)) .no (.at_ (.bin .sub (.bi .len (.v 6 (U 235 34 38)) (U 235 30 33) (U 235 30 39)) (.v 9 (U 235 42 46)) (U 235 30 46))) (U 235 29 46) (U 235 24 47)) (U 235 16 21) (U 235 16 47),.ex (.me .extend (.v 5 (U 236 16 20)) [(.call 8 [(.v 10 (U 236 38 43)),(.v 8 (U 236 45 49)),(.idx (.idx (.v 2 (U 236 51 57)) (.idx (.v 3 (U 236 58 62)) (.v 10 (U 236 63 68)) (U 236 58 69)) (U 236 51 70)) (.cI 4 (U 236 71 72)) (U 236 51 73)),(.v 1 (U 236 75 79))] (U 236 28 37) (U 236 28 80))] (U 236 16 27) (U 236 16 81)) (U 236 16 81)] [(U 234 16 20),(U 234 22 26)] (U 234 16 26) ⟨234,12,236,81⟩,.aug 7 (.cI 1 (U 237 21 22)) (U 237 12 17) (U 237 12 22)] ⟨232,8,237,22⟩,.frz 5,.ex (.me .append (.v 4 (U 238 8 13)) [(.v 5 (U 238 21 25))] (U 238 8 20) (U 238 8 26)) (U 238 8 26)] ⟨227,4,238,26⟩,.frz 4,.ret (.v 4 (U 239 11 16)) (U 239 4 16)]
def yp:List PS:=
 [.asg 1 (.dct (some (.c 15)) [] (U 241 13 15)) (U 241 4 10) (U 241 4 15),.for1 2 (.val (.v 0 (U 242 16 20))) [.setI (.v 1 (U 243 8 14)) (.v 2 (U 243 15 19)) (.bin .add (.me .dget (.v 1 (U 243 23 29)) [(.v 2 (U 243 34 38)),(.cI 0 (U 243 40 41))] (U 243 23 33) (U 243 23 42)) (.cI 1 (U 243 45 46)) (U 243 23 46)) (U 243 8 20) (U 243 8 46)] (U 242 8 12) ⟨242,4,243,46⟩,.frz 1,.ret (.v 1 (U 244 11 17)) (U 244 4 17)]
def DB:List PS:=
 [.ite (.cmp .eq (.bi .len (.v 0 (U 246 11 15)) (U 246 7 10) (U 246 7 16)) (.cI 1 (U 246 20 21)) (U 246 7 21)) [.ret (.me .dget (.idx (.v 3 (U 247 15 20)) (.bin .add (.bin .mul (.cI 8 (U 247 21 22)) (.v 1 (U 247 25 30)) (U 247 21 30)) (.v 2 (U 247 33 37)) (U 247 21 37)) (U 247 15 38)) [(.v 0 (U 247 43 47)),(.cI 0 (U 247 49 50))] (U 247 15 42) (U 247 15 51)) (U 247 8 51)] [] ⟨246,4,247,51⟩,.asg 4 (.rng (.bin .sub (.bin .add (.v 1 (U 248 17 22)) (.bi .len (.v 0 (U 248 29 33)) (U 248 25 28) (U 248 25 34)) (U 248 17 34)) (.cI 1 (U 248 37 38)) (U 248 17 38)) (.v 2 (U 248 40 44)) (U 248 11 16) (U 248 11 45)) (U 248 4 8) (U 248 4 45),.ret (.bi .sum1 (.comp none [1,2,3,0] [0] 1 (.val (.v 4 (U 249 109 113))) [] (.bin .mul (.call 11 [(.sl (.v 4 (U 249 27 31)) .no (.at_ (.neg (.cI 1 (U 249 34 35)) (U 249 33 35))) (U 249 32 35) (U 249 27 36)),(.v 1 (U 249 38 43)),(.v 0 (U 249 45 48)),(.v 3 (U 249 50 55))] (U 249 16 26) (U 249 16 56)) (.me .dget (.idx (.v 3 (U 249 59 64)) (.bin .add (.bin .mul (.cI 8 (U 249 65 66)) (.v 0 (U 249 69 72)) (U 249 65 72)) (.v 2 (U 249 75 79)) (U 249 65 79)) (U 249 59 80)) [(.idx (.v 4 (U 249 85 89)) (.neg (.cI 1 (U 249 91 92)) (U 249 90 92)) (U 249 85 93)),(.cI 0 (U 249 95 96))] (U 249 59 84) (U 249 59 97)) (U 249 16 97)) (fR [("cut",.local),("_law_trees",.globalImplicit),("first",.free),("last",.free),("spans",.free),("tops",.free)]) [(U 249 102 105)] (U 249 15 114)) (U 249 11 14) (U 249 11 115)) (U 249 4 115)]
def mI:List PS:=
 [.asg 3 (.me .dget (.dct none [(.cS [] (U 251 14 16)),(.lst none [(.tup [(.cS [46,58,32,83] (U 251 20 26)),(.bi .chr1 (.cI 256 (U 251 32 35)) (U 251 28 31) (U 251 28 36))] (U 251 19 37))] (U 251 18 38)),(.bi .chr1 (.cI 256 (U 251 44 47)) (U 251 40 43) (U 251 40 48)),(.lst none [(.tup [(.cS [46,46,58,32,83] (U 251 52 59)),(.cS [] (U 251 61 63))] (U 251 51 64))] (U 251 50 65))] (U 251 13 66)) [(.v 0 (U 251 71 75)),(.lst none [] (U 251 77 79))] (U 251 13 70) (U 251 13 80)) (U 251 4 10) (U 251 4 80),.forT [4,5,6] (.val (.v 2 (U 252 29 34))) [.for1 7 (.range2 (.cI 1 (U 253 23 24)) (.bin .add (.bi .len (.v 5 (U 253 30 35)) (U 253 26 29) (U 253 26 36)) (.cI 1 (U 253 39 40)) (U 253 26 40)) (U 253 17 22) (U 253 17 41)) [.ite (.and [(.cmp .eq (.sl (.v 0 (U 254 15 19)) (.at_ (.neg (.v 7 (U 254 21 22)) (U 254 20 22))) .no (U 254 20 23) (U 254 15 24)) (.sl (.v 5 (U 254 28 33)) .no (.at_ (.v 7 (U 254 35 36))) (U 254 34 36) (U 254 28 37)) (U 254 15 37)),(.cmp .isIn (.v 4 (U 254 42 46)) (.idx (.v 1 (U 254 50 55)) (.sl (.v 0 (U 254 56 60)) .no (.at_ (.neg (.v 7 (U 254 63 64)) (U 254 62 64))) (U 254 61 64) (U 254 56 65)) (U 254 50 66)) (U 254 42 66))] (U 254 15 66)) [.asg 3 (.bin .add (.v 3 (U 255 25 31)) (.lst none [(.tup [(.bin .add (.bin .add (.bin .add (.bin .mul (.cS [46] (U 255 36 39)) (.bin .add (.v 7 (U 255 43 44)) (.cI 1 (U 255 47 48)) (U 255 43 48)) (U 255 36 49)) (.idx (.cS [83,65,66] (U 255 52 57)) (.bin .sub (.bi .ord1 (.v 4 (U 255 62 66)) (U 255 58 61) (U 255 58 67)) (.cI 256 (U 255 70 73)) (U 255 58 73)) (U 255 52 74)) (U 255 36 74)) (.cS [58,32] (U 255 77 81)) (U 255 36 81)) (.v 6 (U 255 84 88)) (U 255 36 88)),(.sl (.v 5 (U 255 90 95)) (.at_ (.v 7 (U 255 96 97))) (.at_ (.bin .add (.v 7 (U 255 98 99)) (.cI 1 (U 255 102 103)) (U 255 98 103))) (U 255 96 103) (U 255 90 104))] (U 255 35 105))] (U 255 34 106)) (U 255 25 106)) (U 255 16 22) (U 255 16 106)] [] ⟨254,12,255,106⟩] (U 253 12 13) ⟨253,8,255,106⟩] [(U 252 8 12),(U 252 14 19),(U 252 21 25)] (U 252 8 25) ⟨252,4,255,106⟩,.asg 3 (.bi .sorted1 (.v 3 (U 256 20 26)) (U 256 13 19) (U 256 13 27)) (U 256 4 10) (U 256 4 27),.asg 8 (.comp none [] [0,1] 2 (.val (.v 3 (U 257 33 39))) [] (.v 0 (U 257 12 15)) (fR [("row",.local),("sign",.local)]) [(U 257 20 29),(U 257 20 23),(U 257 25 29)] (U 257 11 40)) (U 257 4 8) (U 257 4 40),.asg 9 (.me .join (.cS [] (U 258 14 16)) [(.comp none [] [0,1] 2 (.val (.v 3 (U 258 45 51))) [] (.v 1 (U 258 23 27)) (fR [("row",.local),("sign",.local)]) [(U 258 32 41),(U 258 32 35),(U 258 37 41)] (U 258 22 52))] (U 258 14 21) (U 258 14 53)) (U 258 4 11) (U 258 4 53),.asg 10 (.cI 0 (U 259 12 13)) (U 259 4 9) (U 259 4 13),.whl (.cmp .lt (.v 10 (U 260 10 15)) (.bi .len (.v 9 (U 260 22 29)) (U 260 18 21) (U 260 18 30)) (U 260 10 30)) [.ite (.and [(.cmp .gt (.bi .ord1 (.idx (.v 9 (U 261 15 22)) (.v 10 (U 261 23 28)) (U 261 15 29)) (U 261 11 14) (U 261 11 30)) (.cI 255 (U 261 33 36)) (U 261 11 36)),(.cmp .notIn (.idx (.v 9 (U 261 41 48)) (.v 10 (U 261 49 54)) (U 261 41 55)) (.sl (.v 9 (U 261 63 70)) .no (.at_ (.v 10 (U 261 72 77))) (U 261 71 77) (U 261 63 78)) (U 261 41 78))] (U 261 11 78)) [.forT [4,5,6] (.val (.v 2 (U 262 37 42))) [.ite (.cmp .eq (.v 4 (U 263 19 23)) (.idx (.v 9 (U 263 27 34)) (.v 10 (U 263 35 40)) (U 263 27 41)) (U 263 19 41)) [.asg 8 (.bin .add (.v 8 (U 264 27 31)) (.lst none [(.bin .add (.bin .add (.bin .add (.cS [46] (U 264 35 38)) (.idx (.cS [83,65,66] (U 264 41 46)) (.bin .sub (.bi .ord1 (.v 4 (U 264 51 55)) (U 264 47 50) (U 264 47 56)) (.cI 256 (U 264 59 62)) (U 264 47 62)) (U 264 41 63)) (U 264 35 63)) (.cS [58,32] (U 264 66 70)) (U 264 35 70)) (.v 6 (U 264 73 77)) (U 264 35 77))] (U 264 34 78)) (U 264 27 78)) (U 264 20 24) (U 264 20 78),.asg 9 (.bin .add (.v 9 (U 265 30 37)) (.idx (.v 5 (U 265 40 45)) (.cI 0 (U 265 46 47)) (U 265 40 48)) (U 265 30 48)) (U 265 20 27) (U 265 20 48)] [] ⟨263,16,265,48⟩] [(U 262 16 20),(U 262 22 27),(U 262 29 33)] (U 262 16 33) ⟨262,12,265,48⟩] [] ⟨261,8,265,48⟩,.aug 10 (.cI 1 (U 266 17 18)) (U 266 8 13) (U 266 8 18)] ⟨260,4,266,18⟩,.ret (.tup [(.v 8 (U 267 12 16)),(.v 9 (U 267 18 25))] (U 267 11 26)) (U 267 4 26)]
def qi:List PS:=
 [.asgT [2,3,4,5] (.tup [(.mtab (U 269 31 33)),(.dct (some (.c 31)) [] (U 269 35 37)),(.dct (some (.c 32)) [] (U 269 39 41)),(.lst (some 33) [(.dct none [(.cS [] (U 269 45 47)),(.cI 1 (U 269 49 50))] (U 269 44 51))] (U 269 43 52))] (U 269 30 53)) [(U 269 4 9),(U 269 11 15),(U 269 17 22),(U 269 24 27)] (U 269 4 27) (U 269 4 53),.for1 6 (.range2 (.cI 1 (U 270 22 23)) (.bin .add (.bi .len (.v 0 (U 270 29 36)) (U 270 25 28) (U 270 25 37)) (.cI 1 (U 270 40 41)) (U 270 25 41)) (U 270 16 21) (U 270 16 42)) [.for1 7 (.range (.bin .sub (.bin .add (.bi .len (.v 0 (U 271 31 38)) (U 271 27 30) (U 271 27 39)) (.cI 1 (U 271 42 43)) (U 271 27 43)) (.v 6 (U 271 46 50)) (U 271 27 50)) (U 271 21 26) (U 271 21 51)) [.asg 8 (.ite (.cmp .eq (.v 6 (U 272 42 46)) (.cI 1 (U 272 50 51)) (U 272 42 51)) (.dct (some (.lin 7 6)) [(.idx (.v 0 (U 272 20 27)) (.v 7 (U 272 28 33)) (U 272 20 34)),(.cI 1 (U 272 36 37))] (U 272 19 38)) (.dct (some (.lin 7 6)) [] (U 272 57 59)) (U 272 19 59)) (U 272 12 16) (U 272 12 59),.setI (.v 2 (U 273 12 17)) (.bin .add (.bin .mul (.cI 9 (U 273 18 19)) (.v 7 (U 273 22 27)) (U 273 18 27)) (.v 6 (U 273 30 34)) (U 273 18 34)) (.v 8 (U 273 38 42)) (U 273 12 35) (U 273 12 42),.forT [9,10,11] (.val (.v 1 (U 274 37 42))) [.setI (.v 8 (U 275 16 20)) (.v 9 (U 275 21 25)) (.bin .add (.me .dget (.v 8 (U 275 29 33)) [(.v 9 (U 275 38 42)),(.cI 0 (U 275 44 45))] (U 275 29 37) (U 275 29 46)) (.call 11 [(.v 10 (U 275 60 65)),(.v 7 (U 275 67 72)),(.bin .add (.v 7 (U 275 74 79)) (.v 6 (U 275 82 86)) (U 275 74 86)),(.v 2 (U 275 88 93))] (U 275 49 59) (U 275 49 94)) (U 275 29 94)) (U 275 16 26) (U 275 16 94)] [(U 274 16 20),(U 274 22 27),(U 274 29 33)] (U 274 16 33) ⟨274,12,275,94⟩] (U 271 12 17) ⟨271,8,275,94⟩] (U 270 8 12) ⟨270,4,275,94⟩,.setI2 (.v 3 (U 276 4 8)) (.cS [] (U 276 9 11)) (.v 4 (U 276 14 19)) (.cS [] (U 276 20 22)) (.call 12 [(.cS [] (U 276 35 37)),(.v 4 (U 276 39 44)),(.v 1 (U 276 46 51))] (U 276 26 34) (U 276 26 52)) (U 276 4 12) (U 276 14 23) (U 276 4 23) (U 276 4 52),.for1 12 (.range2 (.cI 1 (U 277 22 23)) (.bin .add (.bi .len (.v 0 (U 277 29 36)) (U 277 25 28) (U 277 25 37)) (.cI 1 (U 277 40 41)) (U 277 25 41)) (U 277 16 21) (U 277 16 42)) [.asg 8 (.dct (some (.c 34)) [] (U 278 15 17)) (U 278 8 12) (U 278 8 17),.for1 7 (.range (.v 12 (U 279 27 31)) (U 279 21 26) (U 279 21 32)) [.forT [13,14] (.items (.idx (.v 5 (U 280 30 33)) (.v 7 (U 280 34 39)) (U 280 30 40)) (U 280 30 46) (U 280 30 48)) [.forT [15,16] (.items (.idx (.v 2 (U 281 37 42)) (.bin .add (.bin .mul (.cI 8 (U 281 43 44)) (.v 7 (U 281 47 52)) (U 281 43 52)) (.v 12 (U 281 55 59)) (U 281 43 59)) (U 281 37 60)) (U 281 37 66) (U 281 37 68)) [.ite (.and [(.cmp .gt (.v 16 (U 282 23 28)) (.cI 0 (U 282 31 32)) (U 282 23 32)),(.cmp .isIn (.v 15 (U 282 37 43)) (.idx (.v 4 (U 282 47 52)) (.v 13 (U 282 53 57)) (U 282 47 58)) (U 282 37 58))] (U 282 23 58)) [.setI (.v 8 (U 283 24 28)) (.bin .add (.v 13 (U 283 29 33)) (.v 15 (U 283 36 42)) (U 283 29 42)) (.bin .add (.me .dget (.v 8 (U 283 46 50)) [(.bin .add (.v 13 (U 283 55 59)) (.v 15 (U 283 62 68)) (U 283 55 68)),(.cI 0 (U 283 70 71))] (U 283 46 54) (U 283 46 72)) (.bin .mul (.v 14 (U 283 75 79)) (.v 16 (U 283 82 87)) (U 283 75 87)) (U 283 46 87)) (U 283 24 43) (U 283 24 87)] [] ⟨282,20,283,87⟩] [(U 281 20 26),(U 281 28 33)] (U 281 20 33) ⟨281,16,283,87⟩] [(U 280 16 20),(U 280 22 26)] (U 280 16 26) ⟨280,12,283,87⟩] (U 279 12 17) ⟨279,8,283,87⟩,.for1 13 (.val (.v 8 (U 284 20 24))) [.ite (.cmp .notIn (.v 13 (U 285 15 19)) (.v 3 (U 285 27 31)) (U 285 15 31)) [.setI2 (.v 3 (U 286 16 20)) (.v 13 (U 286 21 25)) (.v 4 (U 286 28 33)) (.v 13 (U 286 34 38)) (.call 12 [(.v 13 (U 286 51 55)),(.v 4 (U 286 57 62)),(.v 1 (U 286 64 69))] (U 286 42 50) (U 286 42 70)) (U 286 16 26) (U 286 28 39) (U 286 16 39) (U 286 16 70)] [] ⟨285,12,286,70⟩] (U 284 12 16) ⟨284,8,286,70⟩,.frz 8,.ex (.me .append (.v 5 (U 287 8 11)) [(.v 8 (U 287 19 23))] (U 287 8 18) (U 287 8 24)) (U 287 8 24)] (U 277 8 12) ⟨277,4,287,24⟩,.frz 5,.frz 3,.ret (.tup [(.v 5 (U 288 12 15)),(.v 3 (U 288 17 21))] (U 288 11 22)) (U 288 4 22)]
def jX:List PS:=
 [.asg 1 (.me .split (.cS [40,32,41,32,91,32,93,32,58,32,44,32,59,32,43,32,45,32,42,32,47,32,124,32,38,32,60,32,62,32,61,32,46,32,37,32,123,32,125,32,61,61,32,33,61,32,60,61,32,62,61,32,126,32,94,32,60,60,32,62,62,32,42,42,32,43,61,32,45,61,32,42,61,32,47,61,32,37,61,32,38,61,32,124,61,32,94,61,32,60,60,61,32,62,62,61,32,42,42,61,32,47,47,32,47,47,61,32,64,32,64,61,32,45,62,32,46,46,46,32,58,61,32,33] (U 290 16 142)) [(.cS [32] (U 290 149 152))] (U 290 16 148) (U 290 16 153)) (U 290 4 13) (U 290 4 153),.asg 2 (.bin .add (.sl (.v 0 (U 291 14 20)) .no (.at_ (.cI 6 (U 291 22 23))) (U 291 21 23) (U 291 14 24)) (.sl (.lst none [(.cI 6765 (U 291 28 32)),(.cI 519 (U 291 34 37)),(.cI 1125 (U 291 39 43)),(.cI 528 (U 291 45 48)),(.cI 1126 (U 291 50 54)),(.cI 11 (U 291 56 58))] (U 291 27 59)) (.at_ (.bi .len (.sl (.v 0 (U 291 64 70)) .no (.at_ (.cI 6 (U 291 72 73))) (U 291 71 73) (U 291 64 74)) (U 291 60 63) (U 291 60 75))) .no (U 291 60 76) (U 291 27 77)) (U 291 14 77)) (U 291 4 11) (U 291 4 77),.asg 3 (.bin .mod (.idx (.v 2 (U 292 11 18)) (.cI 0 (U 292 19 20)) (U 292 11 21)) (.cI 54144 (U 292 24 29)) (U 292 11 29)) (U 292 4 8) (U 292 4 29),.asg 4 (.bin .mod (.v 3 (U 293 10 14)) (.cI 48 (U 293 17 19)) (U 293 10 19)) (U 293 4 7) (U 293 4 19),.asg 5 (.bin .mod (.bin .add (.bin .add (.v 4 (U 294 13 16)) (.cI 1 (U 294 19 20)) (U 294 13 20)) (.bin .mod (.bin .fdiv (.v 3 (U 294 23 27)) (.cI 48 (U 294 31 33)) (U 294 23 33)) (.cI 47 (U 294 36 38)) (U 294 23 38)) (U 294 13 38)) (.cI 48 (U 294 42 44)) (U 294 12 44)) (U 294 4 9) (U 294 4 44),.asg 6 (.bin .add (.bin .add (.bin .add (.bin .add (.bi .chr1 (.bin .add (.cI 7 (U 295 16 17)) (.v 4 (U 295 20 23)) (U 295 16 23)) (U 295 12 15) (U 295 12 24)) (.bi .chr1 (.bin .add (.cI 7 (U 295 31 32)) (.v 5 (U 295 35 40)) (U 295 31 40)) (U 295 27 30) (U 295 27 41)) (U 295 12 41)) (.bi .chr1 (.cI 256 (U 295 48 51)) (U 295 44 47) (U 295 44 52)) (U 295 12 52)) (.bi .chr1 (.cI 257 (U 295 59 62)) (U 295 55 58) (U 295 55 63)) (U 295 12 63)) (.bi .chr1 (.cI 258 (U 295 70 73)) (U 295 66 69) (U 295 66 74)) (U 295 12 74)) (U 295 4 9) (U 295 4 74),.asg 7 (.lst none [(.idx (.v 1 (U 296 13 22)) (.v 4 (U 296 23 26)) (U 296 13 27)),(.idx (.v 1 (U 296 29 38)) (.v 5 (U 296 39 44)) (U 296 29 45)),(.cS [83] (U 296 47 50)),(.cS [65] (U 296 52 55)),(.cS [66] (U 296 57 60))] (U 296 12 61)) (U 296 4 9) (U 296 4 61),.asg 8 (.comp none [3] [0] 1 (.range (.cI 3 (U 297 54 55)) (U 297 48 53) (U 297 48 56)) [] (.bin .mod (.bin .fdiv (.bin .fdiv (.v 1 (U 297 12 16)) (.cI 2256 (U 297 20 24)) (U 297 12 24)) (.bin .pow (.cI 2 (U 297 28 29)) (.v 0 (U 297 33 34)) (U 297 28 34)) (U 297 12 34)) (.cI 2 (U 297 37 38)) (U 297 12 38)) (fR [("k",.local),("head",.free)]) [(U 297 43 44)] (U 297 11 57)) (U 297 4 8) (U 297 4 57),.asg 9 (.bin .fdiv (.v 3 (U 298 11 15)) (.cI 18048 (U 298 19 24)) (U 298 11 24)) (U 298 4 8) (U 298 4 24),.asgT [10,11] (.call 4 [(.sl (.v 2 (U 299 30 37)) (.at_ (.cI 1 (U 299 38 39))) .no (U 299 38 40) (U 299 30 41)),(.v 6 (U 299 43 48)),(.v 7 (U 299 50 55))] (U 299 19 29) (U 299 19 56)) [(U 299 4 9),(U 299 11 16)] (U 299 4 16) (U 299 4 56),.asg 12 (.dct (some (.c 3)) [] (U 300 12 14)) (U 300 4 9) (U 300 4 14),.asg 13 (.lst (some 4) [(.call 7 [(.lst none [(.cS [46,58,32,83] (U 301 26 32))] (U 301 25 33)),(.idx (.tup [(.cL [10] (U 301 36 40)),(.cL [13] (U 301 42 46)),(.cL [13,10] (U 301 48 54))] (U 301 35 55)) (.v 9 (U 301 56 60)) (U 301 35 61)),(.v 11 (U 301 63 68)),(.v 12 (U 301 70 75))] (U 301 14 24) (U 301 14 76))] (U 301 13 77)) (U 301 4 10) (U 301 4 77),.asg 14 (.dct (some (.c 5)) [(.cS [] (U 302 12 14)),(.cI 0 (U 302 16 17))] (U 302 11 18)) (U 302 4 8) (U 302 4 18),.asg 15 (.tup [(.v 11 (U 303 12 17)),(.v 12 (U 303 19 24)),(.v 13 (U 303 26 32)),(.v 14 (U 303 34 38)),(.newH (.lst (some 6) [(.tup [(.cS [46,58,32,83] (U 303 50 56)),(.cS [48] (U 303 58 61))] (U 303 49 62))] (U 303 48 63)) (U 303 40 47) (U 303 40 64)),(.v 9 (U 303 66 70))] (U 303 11 71)) (U 303 4 8) (U 303 4 71),.asg 16 (.call 9 [(.call 5 [(.me .join (.cS [32] (U 304 32 35)) [(.comp none [7] [0] 1 (.val (.v 8 (U 304 64 68))) [] (.idx (.v 1 (U 304 42 47)) (.v 0 (U 304 48 51)) (U 304 42 52)) (fR [("bit",.local),("texts",.free)]) [(U 304 57 60)] (U 304 41 69))] (U 304 32 40) (U 304 32 70))] (U 304 22 31) (U 304 22 71)),(.v 15 (U 304 73 77))] (U 304 12 21) (U 304 12 78)) (U 304 4 9) (U 304 4 78),.asgT [17,18] (.call 13 [(.me .join (.cS [] (U 305 26 28)) [(.comp none [6] [0] 1 (.val (.v 8 (U 305 57 61))) [] (.idx (.v 1 (U 305 35 40)) (.v 0 (U 305 41 44)) (U 305 35 45)) (fR [("bit",.local),("signs",.free)]) [(U 305 50 53)] (U 305 34 62))] (U 305 26 33) (U 305 26 63)),(.v 10 (U 305 65 70))] (U 305 16 25) (U 305 16 71)) [(U 305 4 7),(U 305 9 13)] (U 305 4 13) (U 305 4 71),.ite (.cmp .ne (.comp none [] [0] 1 (.val (.v 16 (U 306 38 43))) [] (.call 10 [(.v 0 (U 306 20 24))] (U 306 8 19) (U 306 8 25)) (fR [("line",.local),("_law_counts",.globalImplicit)]) [(U 306 30 34)] (U 306 7 44)) (.v 17 (U 306 48 51)) (U 306 7 51)) [.ret (.cB false (U 307 15 20)) (U 307 8 20)] [] ⟨306,4,307,20⟩,.forT [19,20] (.items (.v 14 (U 308 24 28)) (U 308 24 34) (U 308 24 36)) [.asgT [21,22] (.sl (.idx (.v 13 (U 309 21 27)) (.v 20 (U 309 28 34)) (U 309 21 35)) .no (.at_ (.cI 2 (U 309 37 38))) (U 309 36 38) (U 309 21 39)) [(U 309 8 12),(U 309 14 18)] (U 309 8 18) (U 309 8 39),.ite (.or [(.cmp .ne (.v 21 (U 310 11 15)) (.bin .add (.idx (.v 18 (U 310 19 23)) (.v 19 (U 310 24 28)) (U 310 19 29)) (.lst none [(.cS [] (U 310 33 35)),(.cS [] (U 310 37 39))] (U 310 32 40)) (U 310 19 40)) (U 310 11 40)),(.cmp .ne (.v 22 (U 310 44 48)) (.comp none [] [0] 1 (.val (.v 21 (U 310 95 99))) [] (.ite (.cmp .ne (.v 0 (U 310 66 69)) (.cS [] (U 310 73 75)) (U 310 66 75)) (.bin .add (.cS [46] (U 310 53 56)) (.v 0 (U 310 59 62)) (U 310 53 62)) (.cS [] (U 310 81 83)) (U 310 53 83)) (fR [("row",.local)]) [(U 310 88 91)] (U 310 52 100)) (U 310 44 100))] (U 310 11 100)) [.ret (.cB false (U 311 19 24)) (U 311 12 24)] [] ⟨310,8,311,24⟩] [(U 308 8 12),(U 308 14 20)] (U 308 8 20) ⟨308,4,311,24⟩,.ret (.cmp .eq (.lenS (.comp none [] [0] 1 (.val (.v 13 (U 312 52 58))) [] (.me .join (.cS [95] (U 312 20 23)) [(.idx (.v 0 (U 312 29 34)) (.cI 0 (U 312 35 36)) (U 312 29 37))] (U 312 20 28) (U 312 20 38)) (fR [("table",.local)]) [(U 312 43 48)] (U 312 19 59)) (U 312 15 18) (U 312 15 60) (U 312 11 14) (U 312 11 61)) (.bi .len (.v 13 (U 312 69 75)) (U 312 65 68) (U 312 65 76)) (U 312 11 76)) (U 312 4 76)]
section
variable{C:Prop}{s V:ah}
def bj(h:bS o f=some r)(k:∀x s,o=some (x,s)->f x s=some r->C):C:=by
 cases o with
 |none=>exact av h
 |some q=>exact k q.1 q.2 rfl h
def qk(h:pS o s=some (r,V))(k:o=some r->s=V->C):C:=by
 cases o with
 |none=>exact av h
 |some x=>exact k (ae some (mw h).1) (mw h).2
def aG{o:Option α}{f:α->Option β}(h:o.bind f=some r)(k:∀x,o=some x->f x=some r->C):C:=by
 cases o with
 |none=>exact av h
 |some x=>exact k x rfl h
def cK{o:Option α}{f:α->β}(h:o.map f=some r)(k:∀x,o=some x->f x=r->C):C:=by
 cases o with
 |none=>exact av h
 |some x=>exact k x rfl (ax h)
def b8[Decidable c](h:(if c then o else none)=some r)(k:c->o=some r->C):C:=by
 by_cases hc:c
 ·exact k hc ((bv hc).symm.trans h)
 ·exact av ((bK hc).symm.trans h)
def fm(h:o1 a f g=some r)(k1:∀x,a=some x->f x=some r->C)(k0:g=some r->C):C:=by
 cases a with
 |none=>exact k0 h
 |some x=>exact k1 x rfl h
def kE{γ:Type}{a:Option α}{b:Option β}{f:α->β->Option γ}{g:Option γ}{r:γ}(h:o2 a b f g=some r)(k1:∀x y,a=some x->b=some y->f x y=some r->C)(k0:g=some r->C):C:=by
 cases a with
 |none=>exact k0 h
 |some x=>
  cases b with
  |none=>exact k0 h
  |some y=>exact k1 x y rfl rfl h
def gq(h:o.any f=true)(k:∀x,o=some x->f x=true->C):C:=by
 cases o with
 |none=>exact aj h cx
 |some x=>exact k x rfl h
def Lp(h:o.join=some x):o=some (some x):=by
 cases o with
 |none=>exact av h
 |some y=>exact ae some h
def uW(h:p a=true):((a::l).find? p).map f=some (f a):=ae (Option.map f) (find?_cons_of_pos h)
def uX(h:¬p a=true):((a::l).find? p).map f=(l.find? p).map f:=ae (Option.map f) (find?_cons_of_neg h)
def jy(h:dU x=some i):x=.d i:=
 (show dU x=some i->x=.d i from PV.casesOn x (λd h=>ae PV.d (ax h)) (λZ=>av) (λZ=>av) (λZ=>av) (λZ=>av) (λZ=>av) λZ=>av) h
def lN{g:α->ab}(hf:∀{d},f d=some i->d=g i)(h:(dU x).bind f=some i):x=.d (g i):=aG h λZ e1 e2=>(jy e1).trans (ae PV.d (hf e2))
def ab.int_inv{d:ab}(h:d.int?=some i):d=.int i:=(show d.int?=some i->d=.int i from ab.casesOn d av (λZ=>av) (λZ h=>ae ab.int (ax h)) (λZ=>av) (λZ=>av) (λZ=>av) (λZ=>av) λZ Z=>av) h
def ab.str_inv{d:ab}(h:d.str?=some i):d=.str i:=(show d.str?=some i->d=.str i from ab.casesOn d av (λZ=>av) (λZ=>av) (λZ h=>ae ab.str (ax h)) (λZ=>av) (λZ=>av) (λZ=>av) λZ Z=>av) h
def ab.list_inv{d:ab}(h:d.list?=some i):d=.list i:=(show d.list?=some i->d=.list i from ab.casesOn d av (λZ=>av) (λZ=>av) (λZ=>av) (λZ h=>ae ab.list (ax h)) (λZ=>av) (λZ=>av) λZ Z=>av) h
def ab.tup_inv{d:ab}(h:d.tup?=some i):d=.tup i:=(show d.tup?=some i->d=.tup i from ab.casesOn d av (λZ=>av) (λZ=>av) (λZ=>av) (λZ=>av) (λZ h=>ae ab.tup (ax h)) (λZ=>av) λZ Z=>av) h
def fo(h:dn x=some i):x=.d (.int i):=lN ab.int_inv h
def dw(h:strOf x=some i):x=.d (.str i):=lN ab.str_inv h
def om(h:listOf x=some i):x=.d (.list i):=lN ab.list_inv h
def oo(h:lC x=some i):x=.d (.tup i):=lN ab.tup_inv h
def Lq(h:uD x=some i):x=.tup i:=
 (show uD x=some i->x=.tup i from PV.casesOn x (λZ=>av) (λZ=>av) (λZ=>av) (λZ h=>ae PV.tup (ax h)) (λZ=>av) (λZ=>av) λZ=>av) h
def sd(h:nX x=some i):x=.hdr i:=
 (show nX x=some i->x=.hdr i from PV.casesOn x (λZ=>av) (λZ=>av) (λZ h=>ae PV.hdr (ax h)) (λZ=>av) (λZ=>av) (λZ=>av) λZ=>av) h
def uY(h:rZ x=some i):x=.pat i:=
 (show rZ x=some i->x=.pat i from PV.casesOn x (λZ=>av) (λZ=>av) (λZ=>av) (λZ=>av) (λZ h=>ae PV.pat (ax h)) (λZ=>av) λZ=>av) h
def uZ(h:uC l=some c):l=[c]:=by
 cases l with
 |nil=>exact av h
 |cons a l=>
  cases l with
  |nil=>exact ae (λc=>[c]) (ax h)
  |cons b l=>exact av h
def yq{q:α×α}(h:pX l=some q):l=[q.1,q.2]:=by
 cases l with
 |nil=>exact av h
 |cons a l=>
  cases l with
  |nil=>exact av h
  |cons b l=>
   cases l with
   |nil=>exact ae (λq:α×α=>[q.1,q.2]) (ax h)
   |cons c l=>exact av h
def DC(h:rW l=some q):l=[.str q.1,.str q.2]:=aG h λp e1 e2=>aG e2 λa e3 e4=>cK e4 λb e5 e6=>by
 subst e6;rw [yq e1,ab.str_inv e3,ab.str_inv e5]
def Lr(h:CX x=some q):x=.d (.tup [q.1,q.2]):=aG h λl e1 e2=>yq e2▸oo e1
def ab.dict_inv{d:ab}(h:d.dict?=some i):d=.dict i:=(show d.dict?=some i->d=.dict i from ab.casesOn d av (λZ=>av) (λZ=>av) (λZ=>av) (λZ=>av) (λZ=>av) (λZ h=>ae ab.dict (ax h)) λZ Z=>av) h
def ab.rng_inv{d:ab}(h:d.rng?=some q):d=.rng q.1 q.2:=(show d.rng?=some q->d=.rng q.1 q.2 from ab.casesOn d av (λZ=>av) (λZ=>av) (λZ=>av) (λZ=>av) (λZ=>av) (λZ=>av) λZ Z h=>ae (λq:Int×Int=>ab.rng q.1 q.2) (ax h)) h
def ab.nil_inv{d:ab}(h:d.nil?=some u):d=.none:=(show d.nil?=some u->d=.none from ab.casesOn d (λZ=>rfl) (λZ=>av) (λZ=>av) (λZ=>av) (λZ=>av) (λZ=>av) (λZ=>av) λZ Z=>av) h
def jz(h:jd x=some k):x=.ref k:=
 (show jd x=some k->x=.ref k from PV.casesOn x (λZ=>av) (λZ h=>ae PV.ref (ax h)) (λZ=>av) (λZ=>av) (λZ=>av) (λZ=>av) λZ=>av) h
def aV.list_inv{o:aV}(h:o.list?=some J):o=.list J:=(show o.list?=some J->o=.list J from aV.casesOn o (λZ h=>ae aV.list (ax h)) (λZ=>av) (λZ=>av) λZ=>av) h
def aV.dict_inv{o:aV}(h:o.dict?=some J):o=.dict J:=(show o.dict?=some J->o=.dict J from aV.casesOn o (λZ=>av) (λZ h=>ae aV.dict (ax h)) (λZ=>av) λZ=>av) h
def aV.tab_inv{o:aV}(h:o.tab?=some J):o=.tab J:=(show o.tab?=some J->o=.tab J from aV.casesOn o (λZ=>av) (λZ=>av) (λZ h=>ae aV.tab (ax h)) λZ=>av) h
def ql(h:iT s k=some J):s.Y k=some (.list J):=aG h λZ e1 e2=>e1.trans (ae some (aV.list_inv e2))
def se(h:dictAt s k=some J):s.Y k=some (.dict J):=aG h λZ e1 e2=>e1.trans (ae some (aV.dict_inv e2))
def DE(h:rV s k=some J):s.Y k=some (.tab J):=aG h λZ e1 e2=>e1.trans (ae some (aV.tab_inv e2))
def oq(h:s.Y k=some (.list J)):iT s k=some J:=ae (Option.bind · aV.list?) h
def u0(h:s.Y k=some (.dict J)):dictAt s k=some J:=ae (Option.bind · aV.dict?) h
def DF(h:s.Y k=some (.tab J)):rV s k=some J:=ae (Option.bind · aV.tab?) h
def DG(h:mA s x=some (k,J))(c:x=.ref k->s.Y k=some (.list J)->C):C:=aG h λj e1 e2=>cK e2 λys e3 e4=>aT (Prod.mk.inj e4) λq1 q2=>by
 subst q1 q2;exact c (jz e1) (ql e3)
def u3(h:mA s x=some (k,J)):x=.ref k/\s.Y k=some (.list J):=DG h And.intro
def Lu(h:eW s x=some J)(c1:x=.d (.list J)->C)(c2:∀k,x=.ref k->s.Y k=some (.list J)->C):C:=fm h (λys e1 e2=>c1 (lN ab.list_inv (e1.trans e2))) λe=>aG e λk e1 e2=>c2 k (jz e1) (ql e2)
def Lv(h:gn s x=some J)(c1:x=.d (.dict J)->C)(c2:∀k,x=.ref k->s.Y k=some (.dict J)->C):C:=fm h (λys e1 e2=>c1 (lN ab.dict_inv (e1.trans e2))) λe=>aG e λk e1 e2=>c2 k (jz e1) (se e2)
def Lw(h:uI s x=some J)(c2:∀k,x=.ref k->s.Y k=some (.tab J)->C):C:=aG h λk e1 e2=>c2 k (jz e1) (DE e2)
def DH(h:s.Y k=some (.list J)):uL (.ref k) s=some (J,some k):=by
 show o1 (iT s k) _ _=_;rw [oq h]
 rfl
def Lx(h:s.Y k=some (.dict al)):Db (.ref k) s=some (al.map λp=>ab.tup [.str p.1,p.2],some k):=by
 show (dictAt s k).map _=_;rw [u0 h]
 rfl
def sf(h:s.Y k=some (.list J)):mA s (.ref k)=some (k,J):=ae (Option.map (k,·)) (oq h)
def u4(h:s.Y k=some (.list J)):eW s (.ref k)=some J:=oq h
def Ly(h0:strOf x=none)(hx:eW s x=some J)(hy:eW s y=some ys)(hl:(J++ys).length<=lim):uF x y s=some (.d (.list (J++ys))):=by
 rw [uF,h0,hx,hy];exact bv hl
def DI(h:s.Y k=some (.list J)):xY (.ref k) s=some (.int J.length):=ae (Option.map λJ:List ab=>ab.int J.length) (oq h)
def qm(h:s.Y k=some (.dict J)):gn s (.ref k)=some J:=u0 h
def DJ(h:s.Y k=some (.dict J)):eW s (.ref k)=none:=ae (Option.bind · aV.list?) h
def gf(h:s.Y k=none):s.new k o=some (.ref k,⟨ak s.Y k (some o),k::s.own⟩):=bv (ae Option.isNone h)
def aB(h:(a&&b)=true)(k:a=true->b=true->C):C:=k (f9.mp h).1 (f9.mp h).2
def ot(h:b3 o f=some r)(k:∀x D s,o=some (x,D,s)->f x D s=some r->C):C:=by
 cases o with
 |none=>exact av h
 |some q=>exact k q.1 q.2.1 q.2.2 rfl h
def DK(h:some (x,s)=some (y,V))(k:x=y->s=V->C):C:=k (ae Prod.fst (ax h)) (ae Prod.snd (ax h))
end
def dP(h:(a&&b)=true):a=true/\b=true:=f9.mp h
def DL(h:uR l=true):l.length<=lim/\∀c∈l,c<1114112:=
 aB h λH I=>⟨af (Nat.le_of_lt (cm H)) (by decide),λc hc=>cm (dA.mp I c hc)⟩
structure bw(n:Nat)(A:Around):Prop where
 depth:A.depth+10*n<=900
 units:A.units+100*n<=9000
 hd:A.handled=none
noncomputable def br:cJ:=λZ Z=>False
section
variable(O:Wd)
abbrev aJ(P:List az)(m:Mp)(s:ay)(ao:ah)(r:PV):cJ:=
 λv V=>∃m',SR O P m' ao V.heap/\aK [] false m m' s V/\ai O V.heap P m' v r
noncomputable abbrev dQ (P:List az) (m:Mp) (s:ay) (ac:ah) (r:Bool):cJ:=
 λv V=>v=.bool r/\SR O P m ac V.heap/\aK [] false m m s V
end
noncomputable def sg:Option Int->aq->Prop
 |none,v=>v=.none
 |some k,v=>∃t,v=.int k t
section
variable{s:ay}
def aJ.tok(R:SR O P m ac s.heap)(p:ai O s.heap P m v r)(t:Nat):aJ O P m s ac r v {s with toks:=t}:=⟨m,R,aK.tok t,p⟩
def aJ.here(R:SR O P m ac s.heap)(p:ai O s.heap P m v r):aJ O P m s ac r v s:=⟨m,R,aK.refl,p⟩
def aJ.grown(R:SR O P m ac s.heap)(hk:∀a o,s.heap.get? a=some o->h'.get? a=some o)(hz:s.heap.objs.size<=h'.objs.size)(p:ai O h' P m v r):aJ O P m s ac r v {s with heap:=h',toks:=t}:=
 ⟨m,R.grow hk hz,.of_grow hk hz rfl rfl,p⟩
def fS(o:Obj):∀a x,s.heap.get? a=some x->(s.heap.push o).get? a=some x:=λZ Z e=>f' _ e
def gF(o:Obj):s.heap.objs.size<=(s.heap.push o).objs.size:=by rw [Heap.size_push];exact (bz _ _)
def aR.up(hk:∀a o,h.get? a=some o->h'.get? a=some o)(r:aR O h (aC P m) v d):aR O h' (aC P m) v d:=aR.step (λa o Z e=>hk a o e) (λZ Z q Z=>q) r
def aR.len{h:Heap}{X:az->Prop}{D:List aq}{J:List ab}(r:aR O h X D J):D.length=J.length:=by
 induction J generalizing D with
 |nil=>exact ae List.length r
 |cons x J ih=>obtain ⟨_,_,rfl,_,b⟩:=r;exact ae Nat.succ (ih b)
def aR.app(r:aR O h X ws ys){D:List aq}{J:List ab}(e:aR O h X D J):aR O h X (D++ws) (J++ys):=by
 induction J generalizing D with
 |nil=>cases e;exact r
 |cons x J ih=>obtain ⟨_,_,rfl,a,b⟩:=e;exact .cons a (ih b)
def u5(R:SR O P m ac s.heap)(r:aR O s.heap (aC P m) D J)(hl:J.length<=lim):bn O (s.heap.push {cls:=.type "list",data:=.seq D.toArray n}) (aC P m) (.ref s.heap.objs.size) (.list J):=
 .list (R.new (aD _)) ⟨n,fh s.heap rfl⟩ hl (r.up (fS _))
def DM(R:SR O P m ac s.heap)(r:aR O s.heap (aC P m) D J)(hl:J.length<=lim):bn O (s.heap.push {cls:=.type "tuple",data:=.seq D.toArray n,slots:=sl}) (aC P m) (.ref s.heap.objs.size) (.tup J):=
 .tup (R.new (aD _)) ⟨_,fh s.heap rfl,rfl,n,rfl⟩ hl (r.up (fS _))
def u6(R:SR O P m ac s.heap)(p:ai O s.heap P m v x)(h:eW ac x=some J):∃a D,v=.ref a/\s.heap.PlainList a D.toArray/\aR O s.heap (aC P m) D J/\J.length<=lim:=
 Lu h (λe=>eV (e▸p) λa D e Z hl hz r=>⟨a,D,e,hl,r,hz⟩) λk e1 e2=>bt (show ai O s.heap P m v (.ref k) from e1▸p) λa e hm=>du (R.obj k _ _ hm e2) λD n q z r=>⟨a,D,e,⟨n,q⟩,r,z⟩
def si(R:SR O P m ac s.heap)(p:ai O s.heap P m v x)(h:eW ac x=some J):∃a D,v=.ref a/\s.heap.IsList a D.toArray/\aR O s.heap (aC P m) D J/\J.length<=lim:=
 let ⟨a,D,e,H,I⟩:=u6 R p h;⟨a,D,e,H.isList,I⟩
end
section
variable{s V:ay}{d:az}
def aC.cons:aC (d::P) m a↔a=d\/aC P m a:=by
 constructor
 ·rintro (q|q)
  ·rcases bA.mp q with q|q
   ·exact .inl q
   ·exact .inr (.inl q)
  ·exact .inr (.inr q)
 ·rintro (q|q|q)
  ·exact .inl (by rw [q];exact .head _)
  ·exact .inl (.tail _ q)
  ·exact .inr q
def SR.hide(x:SR O P m ac s.heap)(hk:∀a o,s.heap.get? a=some o->V.heap.get? a=some o)(H:s.heap.objs.size<=d)(I:d<V.heap.objs.size):SR O (d::P) m ac V.heap where
 base a o e:=hk a o (x.base a o e)
 size:=af x.size (af H (Nat.le_of_lt I))
 sm:=x.sm
 prv a ha:=by
  rcases bA.mp ha with rfl|q
  ·exact ⟨af x.size H,I⟩
  ·exact ⟨(x.prv a q).1,dJ (x.prv a q).2 (dZ H I)⟩
 mem k a e:=⟨(x.mem k a e).1,dJ (x.mem k a e).2.1 (dZ H I),λq=>by
  rcases bA.mp q with rfl|q
  ·exact aj (x.mem k a e).2.1 (cg.mpr H)
  ·exact (x.mem k a e).2.2 q⟩
 dom:=x.dom
 inj:=x.inj
 obj k a o e1 e2:=cO.step (λa o Z h=>hk a o h) (λa o q h z=>by
  rcases aC.cons.mp z with rfl|z
  ·exact aj (cW h) (cg.mpr H)
  ·exact q z) (λZ Z h=>h) (x.obj k a o e1 e2) (λo h=>hk a o h)
 lck:=x.lck
 wk:=x.wk
 tb:=x.tb
def SR.unhide(x:SR O (d::P) m ac h)(hs:Heap.SameBut d h h'):SR O P m ac h' where
 base a o e:=(hs.2 a (λq=>aj (cW e) (cg.mpr (q▸(x.prv d (.head _)).1)))).trans (x.base a o e)
 size:=by rw [hs.1];exact x.size
 sm:=x.sm
 prv a ha:=by rw [hs.1];exact x.prv a (.tail _ ha)
 mem k a e:=⟨(x.mem k a e).1,by rw [hs.1];exact (x.mem k a e).2.1,λq=>(x.mem k a e).2.2 (.tail _ q)⟩
 dom:=x.dom
 inj:=x.inj
 obj k a o e1 e2:=cO.step (λa o q h=>(hs.2 a (λz=>q (aC.cons.mpr (.inl z)))).trans h) (λa o q Z z=>q (aC.cons.mpr (.inr z))) (λZ Z h=>h) (x.obj k a o e1 e2)
  (λo h=>(hs.2 a (λz=>(x.mem k a e1).2.2 (by rw [z];exact .head _))).trans h)
 lck:=x.lck
 wk:=x.wk
 tb:=x.tb
noncomputable def gg (m:Mp) (k:Nat) (d:az):Mp:={m with f:=λj=>if j=k then some d else m.f j}
def aC.adopt(hn:m.f k=none):aC P (gg m k d) a↔aC (d::P) m a:=by
 rw [aC.cons];constructor
 ·rintro (q|⟨j,q⟩)
  ·exact .inr (.inl q)
  ·simp only [gg] at q
   split at q
   ·exact .inl (ax q).symm
   ·exact .inr (.inr ⟨j,q⟩)
 ·rintro (q|q|⟨j,q⟩)
  ·exact .inr ⟨k,by simp [gg,q]⟩
  ·exact .inl q
  ·refine .inr ⟨j,?_⟩
   simp only [gg];rw [if_neg (λz=>by rw [z,hn] at q;exact av q)];exact q
def sj(hn:m.f k=none)(h:m.f j=some a):(gg m k d).f j=some a:=by
 simp only [gg];rw [if_neg (λz=>by rw [z,hn] at h;exact av h)];exact h
theorem SR.adopt(x:SR O (d::P) m ac h)(hk:ac.Y k=none)(hd:d∉P)(hs:Heap.SameBut d h h')(ho:cO O h' P (gg m k d) d o)(yr:∀j∈ow,j=k\/j∈ac.own)(sk:o.isTab=true->k=30):
  SR O P (gg m k d) ⟨ak ac.Y k (some o),ow⟩ h':=by
 have hm:m.f k=none:=by
  have:=x.dom k;rw [hk] at this;cases q:m.f k with
  |none=>rfl
  |some _=>rw [q] at this;exact aj this.symm cx
 have y:=SR.unhide x hs;refine ⟨y.base,y.size,y.sm,y.prv,λj a e=>?_,λj=>?_,λj j' a e e'=>?_,λj a o' e1 e2=>?_,λj hj=>?_,λj hj=>?_,λj o' e1 e2=>?_⟩
 ·simp only [gg] at e
  split at e
  ·obtain rfl:=ax e
   exact ⟨(x.prv d (.head _)).1,by rw [hs.1];exact (x.prv d (.head _)).2,hd⟩
  ·exact y.mem j a e
 ·simp only [gg,ak]
  split
  ·rfl
  ·exact x.dom j
 ·simp only [gg] at e e'
  split at e<;>split at e'
  ·rename_i p q;exact p.trans q.symm
  ·obtain rfl:=ax e;exact aj (List.Mem.head _) (x.mem j' d e').2.2
  ·cases e';exact aj (List.Mem.head _) (x.mem j d e).2.2
  ·exact x.inj j j' a e e'
 ·simp only [gg] at e1
  simp only [ak] at e2
  split at e1
  ·rename_i q
   rw [if_pos q] at e2;obtain rfl:=ax e1;obtain rfl:=ax e2;exact ho
  ·rename_i q
   rw [if_neg q] at e2;exact cO.step (λa o q h=>(hs.2 a (λz=>q (aC.cons.mpr (.inl z)))).trans h) (λa o q Z z=>q ((aC.adopt hm).mp z)) (λZ Z h=>sj hm h) (x.obj j a o' e1 e2)
    (λo h=>(hs.2 a (λz=>(x.mem j a e1).2.2 (by rw [z];exact .head _))).trans h)
 ·refine b6 (x.lck j hj) λo' jY=>?_
  refine ⟨o',?_⟩;simp only [ak];rw [if_neg (λz=>by rw [z,hk] at jY;cases jY)];exact jY
 ·refine aT (x.wk j hj) λH I=>?_
  have ix:j≠k:=λz=>by rw [z,hm] at H;exact aj H cx
  refine ⟨?_,λq=>(yr j q).elim ix I⟩;simp only [gg];rw [if_neg ix];exact H
 ·simp only [ak] at e1
  split at e1
  ·rename_i q
   obtain rfl:=ax e1;rw [q];exact sk e2
  ·exact x.tb j o' e1 e2
def DN(x:SR O P m ac h)(hk:ac.Y k=none):m.f k=none:=by
 have:=x.dom k;rw [hk] at this;cases q:m.f k with
 |none=>rfl
 |some _=>rw [q] at this;exact aj this.symm cx
end
def yu(a b:aa):mk a++mk b=mk (a++b):=by
 have:(mk a++mk b).cps=(mk (a++b)).cps:=by rw [Str.cps_append];simp [mk]
 exact ae Str.mk this
def qn(a:aa):(mk a).length=a.length:=size_toArray ..
def Lz{C:Prop}(h:mB f x y=some r)(c:∀i j k,x=.d (.int i)->y=.d (.int j)->f i j=some k->.d (.int k)=r->C):C:=
 kE h (λi j e1 e2 e=>cK e λk e3 e4=>c i j k (fo e1) (fo e2) e3 e4) av
section
open Builtin Builtin.Str
def LA{K:Bool->Option Str->Bool->Sem α}(ht:IsTup s.heap a items)
  (h:(∀{Q:Option (Array aq)->ay->Prop},Q (some items) s->wpAny M A (seqItems? (.ref a)) Q E s)->∀z,wpAny M A (K true none z) Q E s):
  wpAny M A (isInstance (.ref a) (.type "tuple")>>=λx=>asStr? (.ref a)>>=λy=>fillsMappingSlot (.ref a)>>=λz=>K x y z) Q E s:=
 an (wpAny_isInstance ht.typeIs KPt.sub_tt (an (ht.elim λo p=>p.2.2.elim λn hd=>KPt.asStr_ref p.1 hd (an (KPt.fills_ref ht.typeIs (h (wpAny_seqItems p.1 hd)))))))
noncomputable def yv {α:Type}(u:String) (r0:aa) (aW:List aq×Writer×aa->Unit->Sem (ForInStep (List aq×Writer×aa))) (c6:List aq×Writer×aa->Sem α) (p:List aq):Sem α:=
 forIn [:6] (p,({}:Writer),r0) (λZ b=>if tooLong b.2.1.total=true then unsupported u>>=aW b else aW b ())>>=c6
def LB
  {aW:Bool->Option Str->Bool->List aq×Writer×aa->Unit->Sem (ForInStep (List aq×Writer×aa))}{c6:Bool->Option Str->Bool->List aq×Writer×aa->Sem α}(ht:IsTup s.heap a items)
  (g1:KPc.Good w1 T1 N1) (n1:N1<=16777216) (g2:KPc.Good w2 T2 N2) (n2:N2<=16777216) (g3:KPc.Good w3 T3 N3) (n3:N3<=16777216)
  (h0:∀z {Q:ForInStep (List aq×Writer×aa)->ay->Prop},Q (.yield (p1,w1,r1)) s->wpAny M A (aW true none z (items.toList,{},r0) ()) Q E s)
  (H:∀z,aW true none z (p1,w1,r1) ()=pure (.yield (p2,w2,r2)))
  (I:∀z {Q:ForInStep (List aq×Writer×aa)->ay->Prop},Q (.yield (p3,w3,r3)) s->wpAny M A (aW true none z (p2,w2,r2) ()) Q E s)
  (h3:∀z,aW true none z (p3,w3,r3) ()=pure (.done (p3,w3,r3))) (h:∀z,wpAny M A (c6 true none z (p3,w3,r3)) Q E s):
  wpAny M A (isInstance (.ref a) (.type "tuple")>>=λx=>asStr? (.ref a)>>=λy=>fillsMappingSlot (.ref a)>>=λz=>
   if x=true then seqItems? (.ref a)>>=λr=>match r with
    |some J=>pure J.toList>>=λp=>yv u1 r0 (aW x y z) (c6 x y z) p
    |none=>unsupported u2>>=λp=>yv u1 r0 (aW x y z) (c6 x y z) p
   else pure [.ref a]>>=λp=>yv u1 r0 (aW x y z) (c6 x y z) p) Q E s:=by
 refine LA ht λhq z=>wpAny_ite (KPc.ite_yes rfl (an (hq (an (aQ (an ?_))))));rw [KPc.range_list];refine KPc.turn (wpAny_ite (KPc.ite_no cx (h0 z (KPc.turn (wpAny_ite (KPc.ite_no (KPc.short_good g1 n1) ?_))))));rw [H];refine aQ (KPc.turn (wpAny_ite (KPc.ite_no (KPc.short_good g2 n2) (I z (KPc.turn (wpAny_ite (KPc.ite_no (KPc.short_good g3 n3) ?_)))))));rw [h3];exact aQ (h z)
def DO{G:aa×Option aq×Bool->Sem α}(hk:k (.str v t)=pure (v.cps.toList,some (.str v t),false))
  (hG:G (v.cps.toList,some (.str v t),false)=pure r) (h:Q r s):wpAny M A (holding [.str v t] (Builtin.Str.strOf (.str v t)>>=k)>>=G) Q E s:=by
 refine an (dT (an (wpAny_of_eq (KPc.strOf_str _ _) ?_)));rw [hk];refine aQ ?_;rw [hG];exact aQ h
def LC(a b:Str)(t ta tb:Tok)(la:a.length<=1000000)(lb:b.length<=1000000):Meets («str.__mod__» ⟨[.str ⟨#[37,115,58,32,37,115]⟩ t,.ref T],[]⟩)
  (λZ R s=>IsTup s.heap T #[.str a ta,.str b tb]/\∀t' k,R (.ok (.ret (.str (a++ ": " ++b) t'))) {s with toks:=k}):=by
 have ea:(⟨a.cps.toList.toArray⟩:Str)=a:=ae Str.mk (Array.toArray_toList ..);have eb:(⟨b.cps.toList.toArray⟩:Str)=b:=ae Str.mk (Array.toArray_toList ..);have g1:KPc.Good (({}:Writer).add ⟨a.cps.toList.toArray⟩ none) (Str.empty++a) (0+a.length):=by rw [ea];exact KPc.good_add KPc.good0 (KPc.obj_none rfl)
 have g2:=KPc.good_add (x:=⟨#[58,32]⟩) g1 (KPc.obj_none (o:=none) rfl);have g3:KPc.Good (((({}:Writer).add ⟨a.cps.toList.toArray⟩ none).add ⟨#[58,32]⟩ none).add ⟨b.cps.toList.toArray⟩ (some (.str b tb))) (Str.empty++a++⟨#[58,32]⟩++b) (0+a.length+2+b.length):=by rw [eb];exact KPc.good_add g2 (KPc.obj_some rfl)
 have n3:0+a.length+2+b.length<=16777216:=af (eI (eI (eI (aD 0) la) (aD 2)) lb) (by decide);have n2:=af (bz _ _) n3;have n1:=af (bz _ _) n2;refine KPt.meets_tup λZ Z A s Q E ht hQ=>?_;rw [KPt.entry_is_r]
 delta percentFormat
 apply LB (p1:=[.str b tb]) (r1:=[58,32,37,115]) (p2:=[.str b tb]) (r2:=[37,115]) (p3:=[]) (r3:=[]) ht g1 n1 g2 n2 g3 n3 (λZ Z h=>by refine DO ?_ ?_ h<;>rfl) (λZ=>Eq.refl (pure _)) (λZ Z h=>by refine DO ?_ ?_ h<;>rfl) (λZ=>Eq.refl (pure _)) λZ=>?_;exact KPc.finish_ok g3 n3 (by rw [KPc.empty_app];rfl) hQ
end
section
variable{O:Wd}
def ai.int(p:ai O h P m v (.d (.int i))):∃t,v=.int i t:=p
def ai.str(p:ai O h P m v (.d (.str x))):(∃t,v=.str (mk x) t)/\x.length<=lim/\∀c∈x,c<1114112:=p
@[elab_as_elim] theorem ai.int_el{motive:aq->Prop}(p:ai O h P m v (.d (.int i)))(k:∀t,motive (.int i t)):motive v:=p.int.elim λt e=>e.symm▸k t
@[elab_as_elim] theorem ai.str_el{motive:aq->Prop}(p:ai O h P m v (.d (.str x)))(k:∀t,x.length<=lim->(∀c∈x,c<1114112)->motive (.str (mk x) t)):motive v:=p.str.1.elim λt e=>e.symm▸k t p.str.2.1 p.str.2.2
def aJ.tokE(R:SR O P m ac s.heap)(e:r'=r)(p:ai O s.heap P m v r')(t:Nat):aJ O P m s ac r v {s with toks:=t}:=aJ.tok R (e▸p) t
def LD(R:SR O P m ac s.heap)(ra:ai O s.heap P m a (.d (.int i))):
  wpAny O.M A (unaryOp .USub a) (aJ O P m s ac (.d (.int (-i)))) br s:=ra.int_el λt=>PySem.P.neg_int (aJ.tok R (.d (.int _ _)) _)
def LE{D ws:List aq}(hl:s.heap.IsList l D.toArray)(hb:s.heap.IsList b ws.toArray)
  (h:Q (.ref s.heap.objs.size) {s with heap:=s.heap.push {cls:=.type "list",data:=.seq (D++ws).toArray}}) (hsz:D.length+ws.length<=sizeLine):
  wpAny O.M A (binaryOp .Add (.ref l) (.ref b)) Q E s:=by
 obtain ⟨⟨cls,dd,data,sl⟩,ho,hc,n,hd⟩:=hl;obtain ⟨⟨ε,LF,data2,LG⟩,DP,kF,n2,LH⟩:=hb;subst hc hd kF LH;exact concat_meets ⟨_,ho,rfl⟩ ⟨_,DP,rfl⟩ noFill_list_add seq_list_add PySem.F.slot_list_add PySem.F.entry_list_add (PySem.F.args_list_add_2 _ _) (list_addW l b D.toArray ws.toArray n n2 dd LF sl LG hsz) ⟨ho,DP,(List.append_toArray D ws).symm▸h⟩
def yw{u v:aa}(I:∀c∈u,c<n)(h4:∀c∈v,c<n):∀c∈u++v,c<n:=λc hc=>(bD.mp hc).elim (I c) (h4 c)
def qo(R:SR O P m ac s.heap)(ra:ai O s.heap P m a x)(rb:ai O s.heap P m b y)(h:mB f x y=some r)
  (hf:∀{i j k:Int}{t t':Tok},f i j=some k->∀Q:cJ,(∀DQ n,Q (.int k DQ) {s with toks:=n})->wpAny O.M A (binaryOp o (.int i t) (.int j t')) Q br s):
  wpAny O.M A (binaryOp o a b) (aJ O P m s ac r) br s:=
 Lz h λi j k e1 e2 e e3=>ai.int_el (e1▸ra:ai O s.heap P m a (.d (.int i))) λt=>ai.int_el (e2▸rb:ai O s.heap P m b (.d (.int j))) λt'=>hf e _ λDQ n=>aJ.tokE R e3 (.d (.int _ _)) _
def LI(R:SR O P m ac s.heap)(ra:ai O s.heap P m a x)(rb:ai O s.heap P m b y)(h:uF x y ac=some r):
  wpAny O.M A (binaryOp .Add a b) (aJ O P m s ac r) br s:=
 kE h (λu v e1 e2 e=>b8 e λhl e=>ai.str_el (dw e1▸ra:ai O s.heap P m a (.d (.str u))) λt H I=>ai.str_el (dw e2▸rb:ai O s.heap P m b (.d (.str v))) λt' h3 h4=>
  add_str (λt' tk=>aJ.tokE R (ax e) (yu u v▸.d (.str _ hl (yw I h4))) _) (by rw [qn,qn,<-length_append];exact hl)) λh=>
 kE h (λJ ys e1 e2 e=>b8 e λhl e=>kn (si R ra e1) λl D ea q1 q2 Z=>kn (si R rb e2) λl' ws eb q4 q5 Z=>by
  subst ea eb;refine LE q1 q4 (ax e▸aJ.grown R (fS _) (gF _) (.d (u5 R (q5.app q2) hl))) ?_;rw [q2.len,q5.len,<-length_append];exact hl) λh=>qo R ra rb h λe Q q=>by
   cases e;exact PyProof.Rows.add_int (q _ _)
def LJ(c:Nat)(j:Int):Txt.mul (mk [c]) j=mk (List.replicate j.toNat c):=Str.ext' (toList_inj.mp (mul_one_list c j))
def LK(R:SR O P m ac s.heap)(ra:ai O s.heap P m a x)(rb:ai O s.heap P m b y)(h:uG x y=some r):
  wpAny O.M A (binaryOp .Mult a b) (aJ O P m s ac r) br s:=
 kE h (λc j e1 e2 e=>aG e1 λu e3 e4=>b8 e λhl e=>ai.str_el (uZ e4▸dw e3▸ra:ai O s.heap P m a (.d (.str [c]))) λt H I=>ai.int_el (fo e2▸rb:ai O s.heap P m b (.d (.int j))) λt'=>by
  refine PySem.SB.mul (mulOk_of 1 100 (aD 1) hl.2 (Int.le_trans (by decide) hl.1) (by decide) (by decide)) λt' k=>aJ.tokE R (ax e) (.d ?_) _;rw [LJ];refine .str _ ?_ λd hd=>by rw [(List.mem_replicate.mp hd).2];exact I c (.head _)
  rw [length_replicate];exact af (Int.toNat_le.mpr hl.2:j.toNat<=100) (by decide)) λh=>qo R ra rb h λe Q q=>b8 e λhl e=>by
   cases e;exact PyProof.Rows.mul_int (q _ _) (PySem.IntMulOk.of_left (PySem.intBits_le_64 (by lia) (by lia)))
def LL(R:SR O P m ac s.heap)(ra:ai O s.heap P m a x)(rb:ai O s.heap P m b y)(h:CZ x y=some r):
  wpAny O.M A (binaryOp .Mod a b) (aJ O P m s ac r) br s:=
 kE h (λf q e1 e2 e=>aG e2 λl e3 e4=>b8 e λhl e=>ai.str_el (hl.1▸dw e1▸ra:ai O s.heap P m a (.d (.str [37,115,58,32,37,115]))) λt Z Z=>by
  obtain ⟨T,_,rfl,hn,ht,hz,_,_,rfl,⟨⟨ta,rfl⟩,q1,q2⟩,_,_,rfl,⟨⟨tb,rfl⟩,q3,q4⟩,rfl⟩:=(DC e4▸oo e3▸rb:ai O s.heap P m b (.d (.tup [.str q.1,.str q.2])))
  refine KPt.bin_left (by decide) (typeIs_str s _ t) ht.typeIs F.fills_str_mod KPt.fills_tuple F.slot_str_mod
   (call_meets F.slot_str_mod (typeIs_str s _ t) F.entry_str_mod (F.args_str_mod_2 _ _) (LC (mk q.1) (mk q.2) t ta tb hl.2.1 hl.2.2) ⟨ht,λt' k=>⟨(λe=>nomatch e),aJ.tokE R (ax e) (.d ?_) _⟩⟩)
  rw [show (": " :Str)=mk [58,32] from rfl,yu,yu];refine .str _ ?_ (yw (yw q2 (by decide)) q4);rw [length_append,length_append];exact af (eI (eI hl.2.1 (aD 2)) hl.2.2) (by decide)) av
def LM(hr:bw 1 A)(R:SR O P m ac s.heap)(ra:ai O s.heap P m a x)(rb:ai O s.heap P m b y)(h:lD o x y ac=some r):
  wpAny O.M A (binaryOp (Dh o) a b) (aJ O P m s ac r) br s:=by
 cases o with
 |add=>exact LI R ra rb h
 |sub=>exact qo R ra rb h λe Q q=>PyProof.Rows.sub_int ((ax e).symm▸q _ _)
 |mul=>exact LK R ra rb h
 |fdiv=>exact qo R ra rb h λe Q q=>b8 e λhl e=>floordiv_int (Int.ne_of_gt hl.1) (((Int.fdiv_eq_ediv_of_nonneg _ (Int.le_of_lt hl.1)).trans (ax e)).symm▸q _ _)
 |mod=>exact qo R ra rb h λe Q q=>b8 e λhl e=>mod_int (Int.ne_of_gt hl.1) (((Int.fmod_eq_emod_of_nonneg _ (Int.le_of_lt hl.1)).trans (ax e)).symm▸q _ _)
 |pow=>
  exact qo R ra rb h λe Q q=>b8 e λhl e2=>by
   obtain ⟨rfl,h0,H⟩:=hl;exact pow_int h0 (Int.le_trans (Int.mul_le_mul_of_nonneg_left H (by decide)) (by decide)) ((ax e2).symm▸q _ _)
 |fmt=>exact LL R ra rb h
def LN(R:SR O P m ac s.heap)(ra:ai O s.heap P m a (.d (.int i)))(rb:ai O s.heap P m b (.d (.int j))):
  wpAny O.M A (inplaceOp .Add a b) (aJ O P m s ac (.d (.int (i+j)))) br s:=ra.int_el λt=>rb.int_el λt'=>PyProof.Rows.iadd_int (aJ.tok R (.d (.int _ _)) _)
end
mutual
noncomputable def ab.toP:ab->PyData
 |.none=>.none
 |.bool b=>.bool b
 |.int i=>.int i
 |.str x=>.str (mk x)
 |.list J=>.list (ab.toPs J)
 |.tup J=>.tuple (ab.toPs J)
 |.dict _=>.none
 |.rng _ _=>.none
noncomputable def ab.toPs:List ab->List PyData
 |[]=>[]
 |x::J=>ab.toP x::ab.toPs J
end
def qp:mk a=mk b↔a=b:=⟨λh=>ae (λx:Str=>x.cps.toList) h,λh=>ae mk h⟩
def ab.plain_ind{P:Nat->ab->Prop}{Q:Nat->List ab->Prop}(hn:∀n,P n .none)(hi:∀n i,P n (.int i))(hs:∀n s,P n (.str s))(hl:∀n J,Q n J->P (n+1) (.list J))(ht:∀n J,Q n J->P (n+1) (.tup J))(h0:∀n,Q n [])(H:∀n x J,P n x->Q n J->Q n (x::J)):
  (∀n x,ab.plainN n x=true->P n x)/\∀n J,ab.plainsN n J=true->Q n J:=by
 have key:∀x n,ab.plainN n x=true->P n x:=λx=>ab.rec (motive_2:=λJ=>∀n,ab.plainsN n J=true->Q n J) (motive_3:=λZ=>True) (motive_4:=λZ=>True)
  (λn Z=>hn n) (λZ Z h=>aj h cx) (λi n Z=>hi n i) (λs n Z=>hs n s)
  (λJ ih n h=>by
   cases n with
   |zero=>exact aj h cx
   |succ n=>exact hl n J (ih n h))
  (λJ ih n h=>by
   cases n with
   |zero=>exact aj h cx
   |succ n=>exact ht n J (ih n h))
  (λZ Z Z h=>aj h cx) (λZ Z Z h=>aj h cx) (λn Z=>h0 n) (λx J i1 i2 n h=>aB h λa b=>H n x J (i1 n a) (i2 n b)) trivial (λZ Z Z Z=>trivial) (λZ Z Z=>trivial) x
 refine ⟨λn x=>key x n,λn J=>?_⟩;induction J with
 |nil=>exact λZ=>h0 n
 |cons x J ih=>exact λh=>aB h λa b=>H n x J (key x n a) (ih b)
def LO:(∀n x,ab.plainN n x=true->x.toP.depth<=n)/\∀n J,ab.plainsN n J=true->PyData.depthAll (ab.toPs J)<=n:=
 ab.plain_ind (λZ=>bN _) (λZ Z=>bN _) (λZ Z=>bN _) (λZ Z h=>dh h) (λZ Z h=>dh h) (λZ=>bN _) λZ Z Z H I=>Nat.max_le.mpr ⟨H,I⟩
@[elab_as_elim] theorem ab.plain_cases{motive:ab->Prop}(h:ab.plainN n y=true)(hn:motive .none)(hi:∀i,motive (.int i))(hs:∀s,motive (.str s))(hl:∀n J,ab.plainsN n J=true->motive (.list J))(ht:∀n J,ab.plainsN n J=true->motive (.tup J)):motive y:=by
 cases y with
 |none=>exact hn
 |int i=>exact hi i
 |str s=>exact hs s
 |list J=>
  cases n with
  |zero=>exact aj h cx
  |succ n=>exact hl n J h
 |tup J=>
  cases n with
  |zero=>exact aj h cx
  |succ n=>exact ht n J h
 |_=>exact aj h cx
def DR:(∀n x,ab.plainN n x=true->∀k y,ab.plainN k y=true->PyData.eqv x.toP y.toP=fD x y)/\∀n J,ab.plainsN n J=true->∀k ys,ab.plainsN k ys=true->PyData.eqvAll (ab.toPs J) (ab.toPs ys)=kr J ys:=
 ab.plain_ind (λZ k y h=>ab.plain_cases h rfl (λZ=>rfl) (λZ=>rfl) (λZ Z Z=>rfl) λZ Z Z=>rfl)
  (λZ i k y h=>ab.plain_cases h rfl (λZ=>rfl) (λZ=>rfl) (λZ Z Z=>rfl) λZ Z Z=>rfl)
  (λZ a k y h=>ab.plain_cases h rfl (λZ=>rfl) (λb=>Bool.eq_iff_iff.mpr (bB.trans (qp.trans bB.symm))) (λZ Z Z=>rfl) λZ Z Z=>rfl)
  (λZ J ih k y h=>ab.plain_cases h rfl (λZ=>rfl) (λZ=>rfl) (λk ys h=>ih k ys h) λZ Z Z=>rfl)
  (λZ J ih k y h=>ab.plain_cases h rfl (λZ=>rfl) (λZ=>rfl) (λZ Z Z=>rfl) λk ys h=>ih k ys h)
  (λZ k ys Z=>by cases ys<;>rfl)
  λZ x J i1 i2 k ys h=>by
   cases ys with
   |nil=>rfl
   |cons y ys=>
    obtain ⟨a,b⟩:=f9.mp h;show (PyData.eqv x.toP y.toP&&PyData.eqvAll (ab.toPs J) (ab.toPs ys))=(fD x y&&kr J ys);rw [i1 k y a,i2 k ys b]
section
variable{O:Wd}{A:Around}{s:ay}
def u7:(∀n x,ab.plainN n x=true->∀v,bn O h X v x->(∃as,Reads h v x.toP as)/\x.toP.canLay0=true)/\∀n J,ab.plainsN n J=true->∀D,aR O h X D J->(∃as,ReadsAll h D (ab.toPs J) as)/\PyData.canLayAll0 (ab.toPs J)=true:=
 ab.plain_ind (λZ v r=>⟨⟨[],(r).symm▸Reads.none⟩,rfl⟩) (λZ i v r=>b6 (r) λt e=>⟨⟨[],e.symm▸Reads.int i t⟩,rfl⟩)
  (λZ l v r=>fC (r) λq H I=>q.elim λt e=>⟨⟨[],e.symm▸Reads.str _ t⟩,(List.all_toArray ..).trans (dA.mpr λc hc=>fj (I c hc))⟩)
  (λZ J ih v r=>eV (r) λa D e Z hl Z r=>b6 hl λk hd=>aT (ih D r) λq c=>q.elim λas q=>⟨⟨a::as,e.symm▸Reads.list hd rfl rfl q⟩,c⟩)
  (λZ J ih v r=>eV (r) λa D e Z hl Z r=>d4 hl λo ho hc hd=>hd.elim λk hd=>aT (ih D r) λq c=>q.elim λas q=>⟨⟨as,e.symm▸Reads.tuple ho hc hd q⟩,c⟩)
  (λZ D r=>⟨⟨[],(r).symm▸ReadsAll.nil⟩,rfl⟩)
  λZ x J i1 i2 D r=>du (r) λv ws e a b=>aT (i1 v a) λq1 c1=>aT (i2 ws b) λq2 c2=>q1.elim λas q1=>q2.elim λbs q2=>⟨⟨as++bs,e.symm▸ReadsAll.cons q1 q2⟩,f9.mpr ⟨c1,c2⟩⟩
theorem DS:∀{J:List ab},(∀x∈J,f x.toP=g x)->(ab.toPs J).any f=J.any g
 |[],_=>rfl
 |x::J,h=>by
  rw [any_cons,<-h x (.head _),<-DS λy hy=>h y (.tail _ hy)]
  rfl
theorem DT:∀{J:List ab},ab.plainsN n J=true->∀x∈J,ab.plainN n x=true
 |x::J,h,y,hy=>aB h λa b=>(bA.mp hy).elim (λe=>e▸a) (DT b y)
theorem bR.len:∀{al:List (Str×aq)}{ds:List (aa×ab)},bR O h X al ds->al.length=ds.length
 |_,[],r=>ae List.length (r)
 |_,_::_,r=>du (r) λZ Z e Z b=>(ae List.length e).trans (ae (·+1) (bR.len b))
def dQ.here(R:SR O P m ac s.heap)(t:Nat):dQ O P m s ac r (.bool r) {s with toks:=t}:=⟨rfl,R,aK.tok t⟩
def dQ.is(e:r'=r)(R:SR O P m ac s.heap)(t:Nat):dQ O P m s ac r (.bool r') {s with toks:=t}:=⟨ae Value.bool e,R,aK.tok t⟩
theorem u9(k:aa):∀{al:List (Str×aq)}{ds:List (aa×ab)},bR O h X al ds->(valueAt al (mk k)=none/\dget ds k=none)\/∃v d,valueAt al (mk k)=some v/\dget ds k=some d/\bn O h X v d
 |_,[],r=>.inl ⟨(ae (λl=>valueAt l (mk k)) (r)),rfl⟩
 |_,(k',d')::ds,r=>eV r.inv λv ws e H I hv r2=>by
  subst e;by_cases q:k'=k
  ·exact .inr ⟨v,d',uW (fj (qp.mpr q)),uW (bB.mpr q),hv⟩
  ·have e1:valueAt ((mk k',v)::ws) (mk k)=valueAt ws (mk k):=uX λz=>q (qp.mp (cm z))
   have e2:dget ((k',d')::ds) k=dget ds k:=uX λz=>q (bB.mp z);rw [e1,e2];exact u9 k r2
def DU(r:bR O h X al ds)(e:dget ds k=some d):∃v,valueAt al (mk k)=some v/\bn O h X v d:=
 (u9 k r).elim (λq=>av (q.2.symm.trans e)) λq=>du q λv d' e1 e2 hr=>⟨v,e1,ax (e2.symm.trans e)▸hr⟩
def so(x:Str)(t:Tok):(strKind O.prog O.w).is x (.str x t)=true:=fj (rfl:x=x)
def LP(r:bR O h X al ds):(valueAt al (mk k)).isSome=(dget ds k).isSome:=
 (u9 k r).elim (λq=>(ae Option.isSome q.1).trans (ae Option.isSome q.2).symm) λq=>du q λv d' e1 e2 Z=>(ae Option.isSome e1).trans (ae Option.isSome e2).symm
def SR.notSys(R:SR O P m ac s.heap)(hm:m.f k=some a):(a==sysModules)=false:=eU.mpr λq=>aj R.sm (cg.mpr (q▸(R.mem k a hm).1))
def vc(R:SR O P m ac s.heap)(p:ai O s.heap P m v x)(h:gn ac x=some al):
  ∃a ks,v=.ref a/\(a==sysModules)=false/\s.heap.DictOf (strKind O.prog O.w) a ks/\bR O s.heap (aC P m) ks al/\al.length<=lim:=
 Lv h (λe=>rQ (e▸p) λa ks e Z hm hl hz r=>⟨a,ks,e,hm,hl,r,hz⟩)
  λk e1 e2=>bt (show ai O s.heap P m v (.ref k) from e1▸p) λa e hm=>d4 (R.obj k _ _ hm e2) λks q z r=>⟨a,ks,e,R.notSys hm,q,r,z⟩
def DV(p:ai O h P m a x)(hx:isN0 x=some false):a≠ .none:=λea=>by
 subst ea;cases x with
 |d x=>
  cases x with
  |none=>exact aj (ax hx) Bool.noConfusion
  |bool b=>exact av hx
  |int i=>exact (p).elim λZ e=>Value.noConfusion e
  |str i=>exact (p).1.elim λZ e=>Value.noConfusion e
  |rng i j=>exact xS (p) λZ Z Z Z e Z=>Value.noConfusion e
  |_=>exact lu (p) λZ Z e Z=>Value.noConfusion e
 |ref k=>exact (p).elim λZ e=>Value.noConfusion e.1
 |hdr j=>exact lu (p) λZ Z e Z=>Value.noConfusion e
 |tup j=>exact lu (p) λZ Z e Z=>Value.noConfusion e
 |pat k=>exact Value.noConfusion (p)
 |raw k=>exact Value.noConfusion (p)
 |lit x=>exact (p).elim λZ e=>Value.noConfusion e.2.1
def DW(O:Wd)(A:Around)(s:ay)(y x:aq):Prop:=∀(E:cJ)(Q:Bool->ay->Prop),Q true s->wpAny O.M A (eqBool y x) Q E s
def vd(O:Wd)(l b:az)(D us:List aq)(n n2:Nat)(A:Around)(R:Result->ay->Prop)(s:ay):Prop:=s.heap.get? l=some {cls:=.type "list",data:=.seq D.toArray n}/\s.heap.get? b=some {cls:=.type "list",data:=.seq us.toArray n2}/\(∀(j:Nat) v u,D[j]?=some v->us[j]?=some u->DW O A.in1 s v u)/\R (.ok (.ret (.bool false))) s
open MeetsSeq MeetsSeq2 MeetsSeq3 in
open AutoSeq1 (wpAny_loadPart') in
def DX(hsz:D.length=us.length)(i:Nat)(hn:i<D.length->MeetsIn O.prog O.w (Builtin.«list.__eq__.loop» ⟨[.ref l,.ref b,rawInt (i+1:Nat),rawInt 3],[]⟩) (vd O l b D us n n2)):
  MeetsIn O.prog O.w (Builtin.«list.__eq__.loop» ⟨[.ref l,.ref b,rawInt i,rawInt 3],[]⟩) (vd O l b D us n n2):=by
 intro A R s h;obtain ⟨hp,g,d,tk,os⟩:=s;obtain ⟨hl,hb,he,h⟩:=h
 wp_walk using wpAny_loadPart' hl,wpAny_loadPart' hb
 rw [show D.toArray[((i:Nat):Int).toNat]?=D[i]? from getElem?_toArray ..,show us.toArray[((i:Nat):Int).toNat]?=us[i]? from getElem?_toArray ..];by_cases H:i<D.length
 ·have e1:=getElem?_eq_getElem H
  have e2:=getElem?_eq_getElem (hsz▸H:i<us.length);rw [e1,e2];refine an (he i _ _ e1 e2 _ _ ?_)
  wp_walk
  refine ⟨plainId_quiet plain_eq_loop _,codeAny_builtin entry_eq_loop ?_⟩;rw [Around.under_plainId plain_eq_loop _];exact hn H A R _ ⟨hl,hb,he,h⟩
 ·rw [getElem?_eq_none (le_of_not_lt H)]
  wp_walk using wpAny_loadPart' hl,wpAny_loadPart' hb
  show R (.ok (.ret (.bool (D.toArray.size !=us.toArray.size)))) _;rw [size_toArray,size_toArray,hsz,bne_self_eq_false];exact h
theorem DY(hsz:D.length=us.length):∀(k i:Nat),i+k=D.length->MeetsIn O.prog O.w (Builtin.«list.__eq__.loop» ⟨[.ref l,.ref b,rawInt i,rawInt 3],[]⟩) (vd O l b D us n n2)
 |0,i,hk=>DX hsz i λh=>aj hk (cX h)
 |k+1,i,hk=>DX hsz i λZ=>DY hsz k (i+1) ((succ_add_eq_add_succ i k).trans hk)
open MeetsSeq MeetsSeq2 MeetsSeq3 in
open AutoSeq1 (wpAny_loadPart') in
def LQ(hsz:D.length=us.length):
  MeetsIn O.prog O.w (Builtin.«list.__ne__» ⟨[.ref l,.ref b],[]⟩) (vd O l b D us n n2):=by
 intro A R s h;obtain ⟨hp,g,d,tk,os⟩:=s;obtain ⟨hl,hb,he,h⟩:=h
 have f3:=AutoSeq1.sub_list_list;have ix:¬(D.toArray.size !=us.toArray.size)=true:=by rw [size_toArray,size_toArray,hsz,bne_self_eq_false];exact cx
 wp_walk using wpAny_loadPart' hl,wpAny_loadPart' hb
 refine ⟨plainId_quiet plain_eq_loop _,codeAny_builtin entry_eq_loop ?_⟩;rw [Around.under_plainId plain_eq_loop _];exact DY hsz _ 0 (Nat.zero_add _) A R _ ⟨hl,hb,he,h⟩
theorem DZ(rb:bR O s.heap X kb db):∀{ka:List (Str×aq)}{da:List (aa×ab)},bR O s.heap X ka da->(da.all λp=>xV p.2 (dget db p.1))=true->KeqHits A s kb ka true
 |_,[],e,_=>(e)▸.nil
 |_,(k,d)::ds,r,hi=>eV r.inv λv ws e H I hv rr=>aB hi λq1 q2=>gq q1 λt e1 e2=>kE e1 (λi j e3 e4 e5=>aG e4 λy e6 e7=>bt (DU rb e6) λu hu hr=>by
  cases ab.int_inv e3;cases ab.int_inv e7;obtain ⟨t1,rfl⟩:=hv;obtain ⟨t2,rfl⟩:=hr;have:=KeqHits.hit hu (SeqAt.EqAt.int_int i t1 j t2) (DZ rb rr q2);rw [(Option.some.inj e5).trans (e2)] at this;exact e▸this) λe=>av e
def LR(hu:A.in1.units<cLine)(ra:bn O s.heap X a x)(rb:bn O s.heap X b y)(hx:x.dictI=true)(hy:y.dictI=true)(he:fD x y=true):DW O A s a b:=
 gq hx λds e1 Z=>gq hy λes e2 Z=>by
  cases ab.dict_inv e1;cases ab.dict_inv e2;obtain ⟨a,ks,rfl,LS,LT,ou,LU,r1⟩:=ra;obtain ⟨b,js,rfl,LV,yx,gY,su,r2⟩:=rb;intro E Q h;refine dT (wpAny_ite_split (λZ=>an (wpAny_rule (aQ h))) λZ=>?_);obtain ⟨g1,g2⟩:=f9.mp (he);refine an (keq_eq LT yx ou gY (dJ (lt_succ_self _) hu) (λZ=>DZ r2 r1 g2) (wpAny_truthy_bool ?_));rw [r1.len,r2.len,g1];exact h
def LW:∀{ys:List ab}{D us:List aq},aR O h X D J->aR O h X us ys->kr J ys=true->J.all ab.dictI=true->ys.all ab.dictI=true->D.length=us.length/\∀(j:Nat) v u,D[j]?=some v->us[j]?=some u->∃x y,bn O h X v x/\bn O h X u y/\x.dictI=true/\y.dictI=true/\fD x y=true:=by
 induction J with
 |nil=>
  intro ys D us r1 r2 e _ _;cases ys with
  |nil=>
   subst r1 r2;exact ⟨rfl,λZ Z Z=>av⟩
  |cons y ys=>exact aj e cx
 |cons x J ih=>
  intro ys D us r1 r2 e H I;cases ys with
  |nil=>exact aj e cx
  |cons y ys=>
   refine du (r1) λv ws e1 a s1=>du (r2) λu zs e2 b s2=>aB e λq1 q2=>aB H λd1 LX=>aB I λd2 LY=>aT (ih s1 s2 q2 LX LY) λi1 i2=>?_;rw [e1,e2];refine ⟨ae (·+1) i1,λj v' u' g1 g2=>?_⟩;cases j with
   |zero=>exact ⟨x,y,ax g1▸a,ax g2▸b,d1,d2,q1⟩
   |succ j=>exact i2 j v' u' g1 g2
def LZ(hr:bw 1 A)(R:SR O P m ac s.heap)(ra:bn O s.heap (aC P m) a x)(rb:bn O s.heap (aC P m) b y)(hx:x.dictL=true)(hy:y.dictL=true)(he:fD x y=true):
  wpAny O.M A (compareOp .NotEq a b) (dQ O P m s ac false) br s:=
 gq hx λJ e1 H=>gq hy λys e2 I=>by
  cases ab.list_inv e1;cases ab.list_inv e2;obtain ⟨l,D,rfl,LS,⟨n1,ou⟩,LU,r1⟩:=ra;obtain ⟨l',us,rfl,LV,⟨n2,gY⟩,su,r2⟩:=rb;obtain ⟨hsz,hv⟩:=LW r1 r2 he H I;have hu:A.units+1+1<cLine:=dZ (dN (af (bz _ _) hr.units) 2) (by decide);exact wpAny_richCompare_same_room (op:=.NotEq) ⟨_,ou,rfl⟩ ⟨_,gY,rfl⟩ F.slot_list_ne (call_meetsIn F.slot_list_ne ⟨_,ou,rfl⟩ F.entry_list_ne (F.args_list_ne_2 _ _) (LQ hsz)
   ⟨ou,gY,λj v u q1 q2=>eV (hv j v u q1 q2) λx y a b d1 d2 d3=>LR hu a b d1 d2 d3,⟨(λx=>nomatch x),dQ.here R s.toks⟩⟩) (dZ (bz _ 2) hu)
def ve{o:CmpOp}{f:Int->Int->Bool}{a b:aq}{x y:PV}{r:Bool}(R:SR O P m ac s.heap)(ra:ai O s.heap P m a x)(rb:ai O s.heap P m b y)(h:rY f x y=some r)
  (hf:∀{i j:Int}{t t':Tok}(Q:cJ),Q (.bool (f i j)) s->wpAny O.M A (compareOp o (.int i t) (.int j t')) Q br s):
  wpAny O.M A (compareOp o a b) (dQ O P m s ac r) br s:=
 kE h (λi j e1 e2 e=>ai.int_el (fo e1▸ra:ai O s.heap P m a (.d (.int i))) λt=>ai.int_el (fo e2▸rb:ai O s.heap P m b (.d (.int j))) λt'=>hf _ (dQ.is (ax e) R s.toks)) av
def D4{x y:PV}{f:ab->ab->Option Bool}{r:Bool}{a b:aq}{C:Prop}(h:o2 (dU x) (dU y) f none=some r)(ra:ai O s.heap P m a x)(rb:ai O s.heap P m b y)(k:∀u v,bn O s.heap (aC P m) a u->bn O s.heap (aC P m) b v->f u v=some r->C):C:=
 kE h (λu v e1 e2 e=>k u v (jy e1▸ra:ai O s.heap P m a (.d u)) (jy e2▸rb:ai O s.heap P m b (.d v)) e) av
def D5{u:ab}(hr:bw 1 A)(hp:u.plain=true):A.units+1+min u.toP.depth k<cLine:=
 dZ (eI (dN (af (bz _ _) hr.units) 1) (af (Nat.min_le_left _ _) (LO.1 8 _ hp))) (by decide)
def D6(hr:bw 1 A)(R:SR O P m ac s.heap)(ra:bn O s.heap (aC P m) a u)(rb:bn O s.heap (aC P m) b v)(hp:(u.plain&&v.plain)=true):
  wpAny O.M A (compareOp .Eq a b) (dQ O P m s ac (fD u v)) br s/\wpAny O.M A (compareOp .NotEq a b) (dQ O P m s ac (!fD u v)) br s:=
 aB hp λp1 p2=>aT (u7.1 8 u p1 a ra) λq1 c1=>aT (u7.1 8 v p2 b rb) λq2 c2=>q1.elim λas q1=>q2.elim λbs q2=>by
  have hu:=dZ (dN (le_succ A.units) _) (D5 (k:=v.toP.depth) hr p1);rw [<-DR.1 8 _ p1 8 _ p2];exact ⟨SeqAt.compareEq_reads q1 q2 c1 c2 hu (dQ.here R _),SeqAt.compareNe_reads q1 q2 c1 c2 hu (dQ.here R _)⟩
def D7(R:SR O P m ac s.heap)(ra:ai O s.heap P m a x)(rb:ai O s.heap P m b y)(h:xX x y=some r):
  wpAny O.M A (compareOp .Is a b) (dQ O P m s ac r) br s/\wpAny O.M A (compareOp .IsNot a b) (dQ O P m s ac (!r)) br s:=
 aG h λZ e1 e2=>by
  obtain rfl:b=.none:=(lN (g:=λZ=>ab.none) ab.nil_inv e1▸rb:ai O s.heap P m b (.d .none))
  cases r with
  |false=>exact ⟨is_none_ne (DV ra e2) (dQ.here R _),isnot_none_ne (DV ra e2) (dQ.here R _)⟩
  |true=>
   have ha:a=.none:=fm e2 (λd e3 e4=>by
    rw [jy e3] at ra;cases d with
    |none=>exact ra
    |bool b=>exact av e4
    |_=>exact aj (ax e4) cx) λe=>aj (ax e) cx
   subst ha;exact ⟨is_none_gen (dQ.here R _),isnot_none_gen (dQ.here R _)⟩
def L0(hr:bw 1 A)(R:SR O P m ac s.heap)(ra:bn O s.heap (aC P m) a x)(rb:ai O s.heap P m b y)(e1:eW ac y=some J)(hp:(x.plain&&ab.plains J)=true)(hq:(J.any λy=>fD y x)=r):
  wpAny O.M A (compareOp .In a b) (dQ O P m s ac r) br s/\wpAny O.M A (compareOp .NotIn a b) (dQ O P m s ac (!r)) br s:=
 aB hp λp1 p2=>kn (u6 R rb e1) λl D eb hl q2 q3=>aT (u7.1 8 x p1 a ra) λr1 c1=>aT (u7.2 8 J p2 D q2) λr2 c2=>r1.elim λas r1=>r2.elim λbs r2=>hl.elim λk hd=>by
  have hu:A.units+1+min (PyData.depthAll (ab.toPs J)) x.toP.depth<cLine:=Nat.min_comm ..▸D5 hr p1;subst eb;rw [<-hq,<-DS (f:=λy=>PyData.eqv y x.toP) λy hy=>DR.1 8 y (DT p2 y hy) 8 x p1];exact ⟨SeqAt.in_list_reads (.list hd rfl rfl r2) r1 c2 c1 hu (dQ.here R _),SeqAt.notIn_list_reads (.list hd rfl rfl r2) r1 c2 c1 hu (dQ.here R _)⟩
def D8(hr:bw 1 A)(R:SR O P m ac s.heap)(ra:ai O s.heap P m a x)(rb:ai O s.heap P m b y)(h:jU x y ac=some r):
  wpAny O.M A (compareOp .In a b) (dQ O P m s ac r) br s/\wpAny O.M A (compareOp .NotIn a b) (dQ O P m s ac (!r)) br s:=
 aG h λu e0 h=>fm h (λJ e1 e=>b8 e λhp e=>L0 hr R (jy e0▸ra:ai O s.heap P m a (.d u)) rb e1 hp (ax e)) λh=>aG h λk e1 h=>by
  refine ai.str_el (ab.str_inv e1▸jy e0▸ra:ai O s.heap P m a (.d (.str k))) λt H I=>fm h (λal e2 e=>?_) λh=>aG h λv e2 h=>aG h λz e3 h=>?_
  ·refine eV (vc R rb e2) λd ks eb q1 q2 q3 q4=>?_
   subst eb;have e:=(LP q3).trans (ax e);exact ⟨wpAny_in_of (so _ _) q1 q2.mapOf (dQ.is e R _),wpAny_notIn_of (so _ _) q1 q2.mapOf (dQ.is (ae (!·) e) R _)⟩
  ·cases uZ e3
   have e:=(StrLaws.found_one (x:=mk v) (c:=z)).trans (ax h);exact ai.str_el (dw e2▸rb:ai O s.heap P m b (.d (.str v))) λt' Z Z=>⟨PyProof.Rows.in_str (dQ.is e R _),PyProof.Rows.notIn_str (dQ.is (ae (!·) e) R _)⟩
def D9(hr:bw 1 A)(R:SR O P m ac s.heap)(ra:ai O s.heap P m a x)(rb:ai O s.heap P m b y)(h:uH o x y ac=some r):
  wpAny O.M A (compareOp (yi o) a b) (dQ O P m s ac r) br s:=by
 cases o with
 |eq=>exact D4 h ra rb λu v pa pb e=>b8 e λhp e=>ax e▸(D6 hr R pa pb hp).1
 |ne=>
  refine D4 h ra rb λu v pa pb e=>?_;by_cases hp:(u.plain&&v.plain)=true
  ·exact ax ((bv hp).symm.trans e)▸(D6 hr R pa pb hp).2
  ·exact b8 ((bK hp).symm.trans e) λhp e=>aB hp λhd he=>aB hd λH I=>ax e▸LZ hr R pa pb H I he
 |lt=>exact ve R ra rb h λQ q=>PyProof.Rows.lt_int q
 |gt=>exact ve R ra rb h λQ q=>PyProof.Rows.gt_int q
 |le=>exact ve R ra rb h λQ q=>PyProof.Rows.le_int q
 |ge=>exact ve R ra rb h λQ q=>PyProof.Rows.ge_int q
 |isN=>exact (D7 R ra rb h).1
 |notN=>exact cK h λc e1 e2=>e2▸(D7 R ra rb e1).2
 |isIn=>exact (D8 hr R ra rb h).1
 |notIn=>exact cK h λc e1 e2=>e2▸(D8 hr R ra rb e1).2
end
section
variable{O:Wd}{m:Mp}
def L3{C:Prop}(h:bV n k=some j)(hz:n<=lim)(c1:0<=k->k.toNat=j->C)(c2:k<0-> -(n:Int)<=k->(k+n).toNat=j->C):C:=by
 by_cases q:k<0
 ·have h:(if (0<=(if k<0 then k+n else k)&&(if k<0 then k+n else k)<n)=true then some (if k<0 then k+n else k).toNat else none)=some j:=h
  rw [if_pos q] at h;exact b8 h λa e=>aB a λa Z=>c2 q (by have:=cm a;lia) (ax e)
 ·have h:(if (0<=(if k<0 then k+n else k)&&(if k<0 then k+n else k)<n)=true then some (if k<0 then k+n else k).toNat else none)=some j:=h
  rw [if_neg q] at h;exact b8 h λZ e=>c1 (Int.not_lt.mp q) (ax e)
def sv(h:bV n k=some j)(hz:n<=lim): -(2 ^ 63)<=k/\k<2 ^ 63:=by
 have hz:n<=16777216:=hz;have h:(if (0<=(if k<0 then k+n else k)&&(if k<0 then k+n else k)<n)=true then some (if k<0 then k+n else k).toNat else none)=some j:=h;exact b8 h λa Z=>aB a λa b=>by
  have a:=cm a;have b:=cm b;omega
def Ea:∀{D:List aq}{j:Nat}{x:ab},aR O hp X D J->J[j]?=some x->∃v,D[j]?=some v/\bn O hp X v x:=by
 induction J with
 |nil=>exact λZ=>av
 |cons d ds ih=>
  intro D j x r e;refine du (show aR O hp X D (d::ds) from r) λv ws q a b=>?_;rw [q];cases j with
  |zero=>exact ⟨v,rfl,ax e▸a⟩
  |succ j=>exact ih (D:=ws) (j:=j) b e
def bL.nth:∀{D:List aq}{j:Nat}{x:PV},bL O hp P m D J->J[j]?=some x->∃v,D[j]?=some v/\ai O hp P m v x:=by
 induction J with
 |nil=>exact λZ=>av
 |cons d ds ih=>
  intro D j x r e;refine du (show bL O hp P m D (d::ds) from r) λv ws q a b=>?_;rw [q];cases j with
  |zero=>exact ⟨v,rfl,ax e▸a⟩
  |succ j=>exact ih (D:=ws) (j:=j) b e
theorem bL.size:∀{D:List aq}{J:List PV},bL O hp P m D J->D.length=J.length
 |_,[],r=>ae List.length (show _=[] from r)
 |_,_::_,r=>du (show∃p ws,_=p::ws/\_/\_ from r) λZ Z e Z b=>(ae List.length e).trans (ae (·+1) (bL.size b))
def L4{P:List az}:∀{al:List (Int×aq)},al.map (·.1)=ts.map (·.1)->(∀(i:Nat)(t:Int×Nat),ts[i]?=some t->100<=t.2/\∃l,m.f t.2=some l/\al[i]?=some (t.1,Value.ref l))->ky ts k=some j->
  ∃l,m.f j=some l/\valueAt al k=some (.ref l):=by
 induction ts with
 |nil=>exact λZ Z=>av
 |cons p ts ih=>
  intro al q1 q2 hg;cases al with
  |nil=>exact aj q1 nofun
  |cons q al=>
   refine bt (q2 0 p rfl).2 λl a1 a2=>?_;have a2:q=(p.1,Value.ref l):=ax a2;subst a2;by_cases e:p.1=k
   ·have hg:=ax ((uW (f:=Prod.snd) (p:=λq:Int×Nat=>q.1==k) (l:=ts) (bB.mpr e)).symm.trans hg)
    exact ⟨l,hg▸a1,uW (p:=λq:Int×aq=>decide (q.1=k)) (a:=(p.1,Value.ref l)) (fj e)⟩
   ·have hg:ky ts k=some j:=(uX (f:=Prod.snd) (p:=λq:Int×Nat=>q.1==k) (l:=ts) λz=>e (bB.mp z)).symm.trans hg
    exact bt (ih (List.cons.inj q1).2 (λi t ht=>q2 (i+1) t ht) hg) λl' g1 g2=>⟨l',g1,(uX (f:=Prod.snd) (p:=λq:Int×aq=>decide (q.1=k)) (a:=(p.1,Value.ref l)) (l:=al) λz=>e (cm z)).trans g2⟩
def Eb(k:Int)(u:Tok):(intKind O.prog O.w).is k (.int k u)=true:=beq_self_eq_true k
def vf{C:Prop}(rb:ai O hp P m b y)(h:nY J y=some v)(c:∀k j t,b=.int k t->bV J.length k=some j->J[j]?=some v->C):C:=
 aG h λk e1 e2=>aG e2 λj e3 e4=>(show∃t,b=.int k t from (fo e1▸rb:ai O hp P m b (.d (.int k)))).elim λt e=>c k j t e e3 e4
def Ec{D:List aq}(hl:IsTup s.heap l D.toArray)(en:D.length=n)(hz:n<=lim)(hj:bV n k=some j)(hv:D[j]?=some v)(q:Q v s)
  (hs:subscripted sx false (.ref l) (.int k t)=operate [.ref l,.int k t] (getItem (.ref l) (.int k t))):wpAny O.M A (subscriptTail value sx (.ref l) (.int k t)) Q br s:=
 tail_any hl.typeIs slot_tuple_getitem.lookup (getItem_tuple hl (sv hj hz).1 (sv hj hz).2 (by rw [size_toArray,en];exact hj) (getElem?_toArray.trans hv) q) hs
def L5(hr:bw 1 A)(R:SR O P m ac s.heap)(ra:ai O s.heap P m a x)(rb:ai O s.heap P m b y)(h:C4 x y ac=some r)
  (hs:subscripted sx false a b=operate [a,b] (getItem a b)):
  wpAny O.M A (subscriptTail value sx a b) (aJ O P m s ac r) br s:=by
 refine fm h (λJ e1 e=>vf rb e λk j t eb hj hx=>?_) λh=>fm h (λJ e1 e=>cK e λd e e2=>vf rb e λk j t eb hj hx=>?_) λh=>fm h (λJ e1 e=>cK e λc e e2=>vf rb e λk j t eb hj hx=>?_) λh=>
  fm h (λJ e1 e=>cK e λd e e2=>vf rb e λk j t eb hj hx=>?_) λh=>fm h (λal e1 e=>aG e λk e3 e=>cK e λd hd e2=>?_) λh=>aG h λts e1 e=>aG e λk e3 e=>cK e λj hj e2=>?_
 ·refine eV (Lq e1▸ra:ai O s.heap P m a (.tup J)) λl D ea hn hl hz rr=>bt (rr.nth hx) λv hv kG=>?_
  subst ea eb;exact Ec hl rr.size hz hj hv (aJ.here R kG) hs
 ·refine eV (oo e1▸ra:ai O s.heap P m a (.d (.tup J))) λl D ea hn hl hz rr=>bt (Ea rr hx) λv hv kG=>?_
  subst ea eb e2;exact Ec hl rr.len hz hj hv (aJ.here R (.d kG)) hs
 ·obtain ⟨⟨t,rfl⟩,H,I⟩:=(dw e1▸ra:ai O s.heap P m a (.d (.str J)))
  subst eb;have hf:=sv hj H;refine tail_any (typeIs_str s _ t) slot_str_getitem.lookup (PyProof.Rows.getItem_str (c:=c) (or_eq_false_iff.mpr ⟨mr (Int.not_lt.mpr hf.1),mr (Int.not_le.mpr hf.2)⟩) ?_ (aJ.tokE R e2 (.d (.str (s:=[c]) _ (show 1<=16777216 by decide) λd hd=>I _ (cC.mp hd▸ez hx))) _)) hs;rw [qn,show seqIndex? k J.length=some j from hj];exact getElem?_toArray.trans hx
 ·refine kn (si R ra e1) λl D ea hl q hz=>bt (Ea q hx) λv hv kG=>?_
  subst ea eb;refine tail_any hl.typeIs slot_list_getitem.lookup ?_ hs;have hq:aJ O P m s ac r v s:=aJ.here R (e2▸.d kG);rw [<-q.len] at hj hz;have hv:D.toArray[j]?=some v:=getElem?_toArray.trans hv;refine L3 hj hz (λh0 hk=>?_) λh0 H hk=>?_
  ·exact wpAny_getItem_list hl h0 (sv hj hz).2 (hk▸hv) hq
  ·exact wpAny_getItem_list_neg hl h0 H (sv hj hz).1 (hk▸hv) hq
 ·refine eV (vc R ra e1) λt ks ea q1 q2 q3 q4=>bt (DU q3 hd) λv hv kG=>?_
  obtain ⟨⟨t,rfl⟩, -, -⟩:=(dw e3▸rb:ai O s.heap P m b (.d (.str k)))
  subst ea;exact tail_any q2.typeIs slot_dict_getitem.lookup (wpAny_getItem_of (so _ _) q2.mapOf hv (aJ.tokE R e2 (.d kG) _)) hs
 ·refine Lw e1 λi ex de=>bt (ex▸ra:ai O s.heap P m a (.ref i)) λa ea hm=>nU (R.obj _ _ _ hm de) λks e z q1 q2=>bt (L4 (P:=P) q1 q2 hj) λl hl hv=>?_
  obtain ⟨t,rfl⟩:=(fo e3▸rb:ai O s.heap P m b (.d (.int k)))
  subst ea;exact tail_any e.typeIs slot_dict_getitem.lookup (wpAny_getItem_of (knd:=intKind O.prog O.w) (Eb _ _) e.mapOf hv (aJ.tokE R e2 (.ref hl) _)) hs
end
def L6(n:Nat)(k:Int):clipAt n k<=n:=Int.toNat_le.mpr (Int.max_le.mpr ⟨natCast_nonneg n,Int.min_le_right _ _⟩)
def L7(hi:Option Int)(n:Nat):eB hi n<=n:=by
 cases hi with
 |none=>exact aD n
 |some k=>exact L6 n k
def vg(l:List α)(a b:Nat):slc l a b=(l.drop a).take (b - a):=drop_take ..
def L8(lo hi:Option Int)(n:Nat):Builtin.Str.strSliceIndices lo hi 1 n=(List.range (eB hi n - dL lo n)).map (dL lo n+·):=by
 refine Eq.trans ?_ (sliceRange_one (dL lo n) (eB hi n));have e:∀k,max 0 (min (if k<0 then k+(n:Int) else k) n)=((clipAt n k:Nat):Int):=λk=>(clipAt_cast n k).symm;cases lo with
 |none=>
  cases hi with
  |none=>rfl
  |some k=>exact ae (λb=>sliceRange 0 b 1) (e k)
 |some i=>
  cases hi with
  |none=>exact ae (λa=>sliceRange a n 1) (e i)
  |some k=>exact (ae (λa=>sliceRange a _ 1) (e i)).trans (ae (λb=>sliceRange _ b 1) (e k))
def L9(hb:b<=l.length)(h:b - a=l.length):slc l a b=l:=by
 have e:=Nat.le_antisymm hb (h▸sub_le b a);rw [vg,h,List.take_of_length_le ((length_drop ..).symm▸sub_le ..)];cases a with
 |zero=>rfl
 |succ a=>
  cases l with
  |nil=>rfl
  |cons x l=>exact aj (h.trans e.symm) (cX (Nat.sub_lt (e▸succ_pos _) (succ_pos a)))
def Ma(h:x∈slc l a b):x∈l:=mem_of_mem_take (mem_of_mem_drop h)
def vi(l:List α)(a b:Nat):(slc l a b).length<=l.length:=((List.drop_sublist ..).trans (List.take_sublist ..)).length_le
section
variable{O:Wd}{n:Nat}
def aR.takeN:∀{D:List aq},aR O hp X D J->∀b,aR O hp X (D.take b) (J.take b):=by
 induction J with
 |nil=>
  intro D r b;rw [r,take_nil,take_nil];exact .nil
 |cons x J ih=>
  intro D r b;refine du (r) λv ws e a s=>?_;rw [e];cases b with
  |zero=>exact .nil
  |succ b=>exact .cons a (ih s b)
def aR.dropN:∀{D:List aq},aR O hp X D J->∀b,aR O hp X (D.drop b) (J.drop b):=by
 induction J with
 |nil=>
  intro D r b;rw [r,List.drop_nil,List.drop_nil];exact .nil
 |cons x J ih=>
  intro D r b;refine du (r) λv ws e a s=>?_;rw [e];cases b with
  |zero=>exact .cons a s
  |succ b=>exact ih s b
def aR.slc(r:aR O hp X D J)(a b:Nat):aR O hp X (Mine.slc D a b) (Mine.slc J a b):=aR.dropN (aR.takeN r b) a
def vj(h:sg k v):IsPart v k:=by
 cases k with
 |none=>exact (h).symm▸.none
 |some i=>exact (h).elim λt e=>e.symm▸.int i t
def Ed(h:sg k v):∃l:Option (Int×Tok),v=partValue l/\l.map (·.1)=k:=by
 cases k with
 |none=>exact ⟨none,h,rfl⟩
 |some i=>exact (h).elim λt e=>⟨some (i,t),e,rfl⟩
def Mb(lo hi:Option Int)(n:Nat):Builtin.Slice.sliceAdjust lo hi 1 (n:Int)=((dL lo n:Int),(eB hi n:Int)):=by
 have c:∀k:Int,(if k<0 then max (k+n) 0 else min k (n:Int))=((clipAt n k:Nat):Int):=λk=>by
  rw [clipAt_cast];by_cases h:k<0
  ·rw [if_pos h,if_pos h,Int.min_eq_left (by omega),Int.max_comm]
  ·rw [if_neg h,if_neg h,Int.max_eq_right (by omega)]
 cases lo with
 |none=>
  cases hi with
  |none=>rfl
  |some k=>exact ae (Prod.mk (0:Int)) (c k)
 |some i=>
  cases hi with
  |none=>exact ae (Prod.mk · (n:Int)) (c i)
  |some k=>exact (ae (Prod.mk · _) (c i)).trans (ae (Prod.mk _) (c k))
def Mc(a b:Nat):Builtin.Slice.slicePlaces (a:Int) (b:Int) 1=b - a:=by
 show (if (a:Int)<b then ((b:Int) - a - 1) / 1+1 else 0).toNat=b - a;by_cases h:(a:Int)<b
 ·rw [if_pos h,Int.ediv_one,Int.sub_add_cancel]
  exact Int.toNat_sub b a
 ·rw [if_neg h]
  exact (Nat.sub_eq_zero_of_le (ofNat_le.mp (Int.not_lt.mp h))).symm
def Ee(hv:IsPart v k)(h:Q k s):wpAny O.M A (Builtin.Slice.slicePartIndex v) Q E s:=by
 cases hv with
 |none=>exact slicePart_none h
 |int i t=>exact slicePart_int h
def Md{lo hi:Option Int}(hs:s.heap.IsSliceOf sl lv hv .none)(hl:IsPart lv lo)(hh:IsPart hv hi)(h:Q ((dL lo n:Int),1,eB hi n - dL lo n) s):
  wpAny O.M A (Builtin.Slice.sliceApplied (.ref sl) (pure (n:Int))) Q E s:=
 d4 hs λos yy gG yz=>by
  refine an (m:=Builtin.Slice.sliceFields (.ref sl)) (an (wpAny_field yy yz (x:=lv) rfl (an (wpAny_field yy yz (x:=hv) rfl (an (wpAny_field yy yz (x:=.none) rfl (aQ ?_)))))));refine an (slicePart_none (an (Ee hl (an (Ee hh (an (aQ ?_)))))));show wpAny _ _ (match Builtin.Slice.sliceAdjust lo hi 1 (n:Int) with|(lo,hi)=>pure (lo,(1:Int),Builtin.Slice.slicePlaces lo hi 1)) _ _ s;rw [Mb];exact aQ ((Mc (dL lo n) (eB hi n)).symm▸h)
def Me{D:List aq}:((List.range (b - a)).filterMap λ(k:Nat)=>D.toArray[((a:Nat)+(k:Int)*1).toNat]?)=slc D a b:=by
 have e:(λ(k:Nat)=>D.toArray[(((a:Nat):Int)+(k:Int)*1).toNat]?)=(λx=>D.toArray[x]?)∘(a+·):=funext λk=>ae (λz:Int=>D.toArray[((a:Int)+z).toNat]?) (Int.mul_one (k:Int));rw [e,<-List.filterMap_map,pick_run,vg]
noncomputable abbrev Ef (lv hv:aq):Obj:={cls:=.type "slice",data:=.fields #[lv,hv,.none]}
def Mf{lo hi:Option Int}(hr:bw 1 A)(R:SR O P m ac s.heap)(ra:ai O s.heap P m a x)(hl:sg lo lv)(hh:sg hi hv)
  (h:C5 x (dL lo) (eB hi) ac=some r) (hs:∀i,subscripted sx false a i=operate [i,a] (getItem a i)):
  wpAny O.M A (newFields "slice" [lv,hv,.none]) (λi V=>wpAny O.M A (subscriptTail value sx a i) (aJ O P m s ac r) br V) br s:=by
 refine wpAny_newObj_type ?_ (by show (3:Nat)<=_;decide);generalize hS:({s with heap:=s.heap.push (Ef lv hv)}:ay)=S;have k1:∀a o,s.heap.get? a=some o->S.heap.get? a=some o:=hS▸fS (s:=s) _;have z1:s.heap.objs.size<=S.heap.objs.size:=hS▸gF _;have c6:∀{h':Heap}{t:Nat}{v:aq}{r:PV},(∀a o,S.heap.get? a=some o->h'.get? a=some o)->S.heap.objs.size<=h'.objs.size->ai O h' P m v r->aJ O P m s ac r v {S with heap:=h',toks:=t}:=λk2 z2 p=>by
  subst hS;exact aJ.grown R (λa o e=>k2 a o (k1 a o e)) (af z1 z2) p
 refine fm h (λJ e1 e=>?_) λh=>fm h (λJ e1 e=>b8 e λmJ e=>?_) λh=>cK h λJ e1 e=>?_
 ·obtain ⟨⟨t,rfl⟩,H,I⟩:=(dw e1▸ra:ai O s.heap P m a (.d (.str J)))
  refine bt (Ed hl) λl e2 el=>bt (Ed hh) λu e3 eu=>?_;refine tail_any (typeIs_str _ _ t) slot_str_getitem.lookup (wpAny_getItem_str_slice (l:=l) (u:=u) (st:=none) ⟨Ef lv hv,hS▸fh _ rfl,rfl,e2▸e3▸rfl⟩ rfl ?_) (hs _);have hp:slicePicked (mk J) l u none=(List.range (eB hi J.length - dL lo J.length)).map (dL lo J.length+·):=by
   delta slicePicked
   rw [el,eu,qn];exact L8 lo hi J.length
  have hz:=af (vi J (dL lo J.length) (eB hi J.length)) H;have kG:∀tt,ai O S.heap P m (.str (mk (slc J (dL lo J.length) (eB hi J.length))) tt) r:=λtt=>ax e▸.d (.str tt hz λc hc=>I c (Ma hc))
  delta sliceMade
  rw [hp];by_cases hq:((((none:Option (Int×Tok)).map (·.1)).getD 1==1&&((List.range (eB hi J.length - dL lo J.length)).map (dL lo J.length+·)).length==(mk J).length)=true)
  ·rw [if_pos hq]
   have hq:eB hi J.length - dL lo J.length=J.length:=by
    rw [length_map,length_range,qn] at hq;exact bB.mp hq
   have:=kG t;rw [L9 (L7 hi _) hq] at this;exact c6 (λZ Z e=>e) (aD _) this
  ·rw [if_neg hq,pick_run,(vg J _ _).symm]
   exact ⟨(qn (slc J _ _)).symm▸hz,c6 (λZ Z e=>e) (aD _) (kG _)⟩
 ·obtain ⟨T,D,rfl,hn,ht,hz,rr⟩:=(oo e1▸ra:ai O s.heap P m a (.d (.tup J)))
  have gH:=ht.keeps k1;have ji:S.heap.IsSliceOf s.heap.objs.size lv hv .none:=hS▸.new _ _ _ _;have hsz:=(size_toArray ..).trans rr.len;refine tail_any gH.typeIs slot_tuple_getitem.lookup ?_ (hs _);refine dT (an (wpAny_sequenceKey gH.typeIs (by decide) (an (wpAny_callSpecial?_slot gH.typeIs slot_tuple_getitem
   (wpAny_call_entry slot_tuple_getitem gH.typeIs entry_tuple_getitem ?_ (args_tuple_getitem _ _))))))
  show wpAny _ _ (Builtin.Tuple.tupleItemsOf (.ref T)>>=_) _ _ _;refine an (tupleItemsOf_ gH (an (wpAny_typeOf (d4 ji λos a b Z=>⟨os,a,b⟩) ?_)));rw [if_pos (by decide)];refine an (Md ji (vj hl) (vj hh) ?_);rw [hsz];show wpAny _ _ (if (((dL lo J.length:Nat):Int)==0&&(1:Int)==1&&(eB hi J.length - dL lo J.length)==J.length)=true then _ else _) _ _ _;rw [if_neg (λq=>Nat.ne_of_lt mJ (beq_iff_eq.mp (Bool.and_eq_true_iff.mp q).2)),Me];have hp:ai O (S.heap.push {cls:=.type "tuple",data:=.seq (slc D (dL lo J.length) (eB hi J.length)).toArray}) P m (.ref S.heap.objs.size) r:=ax e▸ai.d (DM (R.grow k1 z1) ((rr.up k1).slc (dL lo J.length) (eB hi J.length)) (af (vi ..) hz));have vm:=c6 (fS _) (gF _) (t:=S.toks) hp;have eC:sizeOk (.seq (slc D (dL lo J.length) (eB hi J.length)).toArray):=af (cr (size_toArray ..)) (af (vi ..) (rr.len.symm▸hz))
  first
   |exact an (wpAny_newObj_type (aQ ⟨_,rfl,aQ vm⟩) eC)
   |exact an (an (wpAny_newObj_type (aQ (aQ ⟨_,rfl,aQ vm⟩)) eC))
 ·refine kn (u6 R ra e1) λl D ea q1 q2 q3=>?_
  subst ea e;have Eg:=(q1.at λo=>k1 l o).isList;refine tail_any (Heap.IsList.typeIs Eg) slot_list_getitem.lookup (wpAny_getItem_list_slice Eg (hS▸.new _ _ _ _) (vj hl) (vj hh) .none nofun ?_ (by rw [size_toArray,q2.len];exact q3)) (hs _);have hsz:=(size_toArray ..).trans q2.len;rw [slicePick_plain,hsz];exact c6 (fS _) (gF _) (.d ((vg D (dL lo J.length) (eB hi J.length))▸u5 (R.grow k1 z1) ((q2.up k1).slc _ _) (af (vi _ _ _) q3)))
end
section
variable{O:Wd}{ac ao:ah}
def Eh(hr:bw 1 A)(R:SR O P m ac s.heap)(ra:ai O s.heap P m a (.d (.int i)))(rb:ai O s.heap P m b (.d (.int j)))(h:iR i j):
  wpAny O.M A (call (.type "range") [a,b] []) (aJ O P m s ac (.d (.rng i j))) br s:=
 ra.int_el λt=>rb.int_el λt'=>call_range_2 (aJ.grown R (fS _) (gF _) (.d (.rng (R.new (aD _)) (fh s.heap rfl) h)))
def yA:∀{D:List aq}{ds:List ab},bL O hp P m D l->n7 l=some ds->aR O hp (aC P m) D ds/\ds.length=l.length:=by
 induction l with
 |nil=>exact λr h=>ax h▸⟨r,rfl⟩
 |cons d l ih=>exact λ{D ds} r h=>du (r) λv ws e hv r=>aG h λx e1 h=>cK h λζ e2 e3=>aT (ih r e2) λq1 q2=>e3▸e.symm▸⟨.cons (jy e1▸hv:ai O hp P m v (.d x)) q1,ae (·+1) q2⟩
def Mg(h:n<=lim):n<=sizeLine:=h
def ox(h:n<=100):n<=lim:=af h (show 100<=16777216 by decide)
def Mh(R:SR O P m ac s.heap)(ra:bL O s.heap P m D l)(h:l.length<=100):
  wpAny O.M A (newTuple D) (aJ O P m s ac (yc l)) br s:=by
 refine wpAny_newTuple (aJ.grown R (fS _) (gF _) ?_) (ra.size.symm▸ox h);rw [yc];cases e:n7 l with
 |some ds=>exact aT (yA ra e) λr hl=>.d (DM R r (hl▸ox h))
 |none=>exact .tup (R.new (aD _)) ⟨_,fh s.heap rfl,rfl,_,rfl⟩ (ox h) (bL.step (λa o Z e=>fS _ a o e) (λZ Z q Z=>q) (λZ Z e=>e) ra)
def Mi(R:SR O P m ac s.heap)(ra:bL O s.heap P m D l)(h:l.length<=100)(hd:n7 l=some ds):
  wpAny O.M A (newList D) (aJ O P m s ac (.d (.list ds))) br s:=
 aT (yA ra hd) λr hl=>wpAny_newList (aJ.grown R (fS _) (gF _) (.d (u5 R r (hl▸ox h)))) (ra.size.symm▸ox h)
def Ei{C:Prop}(h:ac.new k o=some (r,ao))(c:ac.Y k=none->.ref k=r->⟨ak ac.Y k (some o),k::ac.own⟩=ao->C):C:=b8 h λq e=>c (Option.isNone_iff_eq_none.mp q) (mw e).1 (mw e).2
def Ej(R:SR O P m ac s.heap)(hn:ac.new k o=some (r,ao))(sk:o.isTab=true->k=30)(ho:(∀{a o},¬aC P m a->s.heap.get? a=some o->¬aC P (gg m k s.heap.objs.size) a)->cO O (s.heap.push ob) P (gg m k s.heap.objs.size) s.heap.objs.size o):
  aJ O P m s ao r (.ref s.heap.objs.size) {s with heap:=s.heap.push ob,toks:=t}:=
 Ei hn λhk er es=>by
  subst er es;have hm:=DN R hk;have R1:=SR.hide (V:={s with heap:=s.heap.push ob}) R (fS ob) (aD _) (Nat.lt_of_lt_of_eq (lt_succ_self _) (Heap.size_push ..).symm);refine ⟨gg m k s.heap.objs.size,R1.adopt hk (λq=>aj (R.prv _ q).2 (dK _)) (.refl ..) (ho λhx ho z=>(aC.cons.mp ((aC.adopt hm).mp z)).elim (λq=>aj (cW ho) (q▸dK _)) hx) (λj hj=>bA.mp hj) sk,⟨λa x Z Z e=>fS ob a x e,λj a e=>?_,gF ob,λj a Z e=>sj hm e,rfl,rfl,rfl,rfl⟩,.ref (bv rfl)⟩;by_cases q:j=k
  ·exact .inr (cr (ax ((bv q).symm.trans e)))
  ·exact .inl ((bK q).symm.trans e)
def Mj(R:SR O P m ac s.heap)(ra:bL O s.heap P m D l)(h:l.length<=100)(hd:n7 l=some ds)(hn:ac.new k (.list ds)=some (r,ao)):
  wpAny O.M A (newList D) (aJ O P m s ao r) br s:=
 aT (yA ra hd) λq hl=>wpAny_newList (Ej R hn (λq=>aj q cx) λhx=>.list (fh s.heap rfl) (hl▸ox h) (aR.step (λa o Z e=>fS _ a o e) (λa o=>hx) q)) (ra.size.symm▸ox h)
def Mk(R:SR O P m ac s.heap)(ho:o=.dict []\/(o=.tab []/\k=30))(hn:ac.new k o=some (r,ao)):
  wpAny O.M A newDict (aJ O P m s ao r) br s:=by
 refine wpAny_newObj_type (Ej R hn (λq=>ho.elim (λe=>aj (show (aV.dict []).isTab=true from e▸q) cx) (·.2)) λZ=>?_) (bN _);rcases ho with rfl|⟨rfl,rfl⟩
 ·exact .dict (.new _) (bN _) .nil
 ·exact .tab (.new _) (bN _) rfl λi t=>av
def Ml(R:SR O P m ac s.heap)(ra:ai O s.heap P m a (.d (.str x)))(h:Q (.type "str") s):
  wpAny O.M A (call (.type "type") [a] []) Q br s:=ra.str_el λt Z Z=>call_type_of rfl (by decide+kernel) h
def Mm(R:SR O P m ac s.heap)(ra:ai O s.heap P m a (.ref k))(hk:ac.Y k=some (.list J))(h:Q (.type "list") s):
  wpAny O.M A (call (.type "type") [a] []) Q br s:=
 bt (ra) λl e hm=>du (R.obj _ _ _ hm hk) λD n q Z Z=>e.symm▸call_type_of ⟨_,q,rfl⟩ (by decide+kernel) h
def Mn(R:SR O P m ac s.heap)(ra:ai O s.heap P m a x)(h:truth x=some b):
  wpAny O.M A (truthy a) (λc V=>c=b/\V=s) br s:=
 aG h λd e1 e2=>by
  rw [jy e1] at ra;cases d with
  |none=>exact (ra).symm▸truthy_none ⟨ax e2,rfl⟩
  |bool c=>exact (ra).symm▸wpAny_truthy_bool ⟨ax e2,rfl⟩
  |_=>exact av e2
def Ek(hr:bw 1 A):wpAny O.M A (compareOp .Is (.type T) (.type Uu)) (λv V=>v=.bool (T==Uu)/\V=s) br s/\wpAny O.M A (compareOp .IsNot (.type T) (.type Uu)) (λv V=>v=.bool (!(T==Uu))/\V=s) br s:=by
 have e:(Value.type T==Value.type Uu)=(T==Uu):=by rw [Bool.eq_iff_iff];simp
 exact ⟨aQ ⟨ae _ e,rfl⟩,isnot_type ⟨ae (λb=>Value.bool (!b)) e,rfl⟩⟩
end
section
def El{C:Prop}(e:ak Y r (some o') k=some x)(c1:k=r->o'=x->C)(c2:k≠r->Y k=some x->C):C:=by
 by_cases q:k=r
 ·exact c1 q (ax ((bv q).symm.trans e))
 ·exact c2 q ((bK q).symm.trans e)
def SR.change(R:SR O P m ac h)(hm:m.f r=some a)(ho:ac.Y r=some o)(lO:∀q,o≠ .lk q)(hs:Heap.SameBut a h h')(jY:cO O h' P m a o')(sk:o'.isTab=true->r=30):
  SR O P m (ac.put r o') h' where
 base b x e:=(hs.2 b (λq=>aj (cW e) (cg.mpr (q▸(R.mem r a hm).1)))).trans (R.base b x e)
 size:=hs.1.symm▸R.size
 sm:=R.sm
 prv b hb:=hs.1.symm▸R.prv b hb
 mem k b e:=hs.1.symm▸R.mem k b e
 dom k:=by
  show (m.f k).isSome=(ak ac.Y r (some o') k).isSome;by_cases q:k=r
  ·rw [q,hm,ak,if_pos rfl];rfl
  ·rw [ak,if_neg q];exact R.dom k
 inj:=R.inj
 obj k b x e1 e2:=El e2 (λq e=>by
   subst q e;rw [hm] at e1;exact ax e1▸jY) λq e=>cO.step (λc y hx e=>(hs.2 c (λz=>hx (.inr ⟨r,z▸hm⟩))).trans e) (λZ Z q Z=>q) (λZ Z e=>e) (R.obj k b x e1 e) (λy e=>(hs.2 b λz=>q (R.inj k r a (z▸e1) hm)).trans e)
 lck k hk:=(R.lck k hk).elim λq hq=>⟨q,(bK λz:k=r=>lO q (ax (ho.symm.trans (z▸hq)))).trans hq⟩
 wk:=R.wk
 tb k x e1 e2:=El e1 (λq e=>q.trans (sk (e▸e2))) λq e=>R.tb k x e e2
def aK.change(R:SR O P m ac s.heap)(hm:m.f r=some a)(ho:ac.Y r=some o)(lO:∀q,o≠ .lk q)(hs:Heap.SameBut a s.heap h'):aK [] false m m s {s with heap:=h',toks:=t}:=
 ⟨λb x Z hb e=>(hs.2 b (λq=>(R.lck r (hb r (q▸hm))).elim λz hz=>lO z (ax (ho.symm.trans hz)))).trans e,λZ Z e=>.inl e,cr hs.1.symm,λZ Z Z e=>e,rfl,rfl,rfl,rfl⟩
def Em(hm:m.f r=some a)(hs:Heap.SameBut a h h')(p:bn O h (aC P m) v x):bn O h' (aC P m) v x:=
 bn.step (λc y hx e=>(hs.2 c (λz=>hx (.inr ⟨r,z▸hm⟩))).trans e) (λZ Z q Z=>q) p
def yB(hm:m.f r=some a)(hs:Heap.SameBut a h h')(p:aR O h (aC P m) v x):aR O h' (aC P m) v x:=
 aR.step (λc y hx e=>(hs.2 c (λz=>hx (.inr ⟨r,z▸hm⟩))).trans e) (λZ Z q Z=>q) p
def Mo(hm:m.f r=some a)(hs:Heap.SameBut a h h')(p:bR O h (aC P m) v x):bR O h' (aC P m) v x:=
 bR.step (λc y hx e=>(hs.2 c (λz=>hx (.inr ⟨r,z▸hm⟩))).trans e) (λZ Z q Z=>q) p
def Mq(k:aa):∀{al:List (Str×aq)},bR O h X al ds->al.any (λkv=>decide (kv.1=mk k))=ds.any (λp=>p.1==k):=by
 induction ds with
 |nil=>exact λr=>ae (List.any · _) (r)
 |cons p ds ih=>
  intro al r;refine eV r.inv λv ws e Z Z Z rr=>?_;rw [e,any_cons,any_cons,ih rr];exact ae (·||_) (Bool.eq_iff_iff.mpr (decide_eq_true_iff.trans (qp.trans bB.symm)))
def Mr(H:k.length<=lim)(I:∀c∈k,c<1114112)(hx:bn O h X v x):∀{al:List (Str×aq)},bR O h X al ds->bR O h X (al++[(mk k,v)]) (ds++[(k,x)]):=by
 induction ds with
 |nil=>exact λr=>(r).symm▸bR.cons H I hx .nil
 |cons p ds ih=>exact λr=>du (r) λq ws e a b=>e.symm▸⟨q,_,rfl,a,ih b⟩
def Ms(hx:bn O h X v x):∀{al:List (Str×aq)},bR O h X al ds->bR O h X (al.map λkv=>if kv.1=mk k then (kv.1,v) else kv) (ds.map λp=>if p.1==k then (p.1,x) else p):=by
 induction ds with
 |nil=>exact λr=>(r).symm▸bR.nil
 |cons p ds ih=>
  intro al r;refine eV r.inv λv' ws e a b c d=>?_;rw [e,map_cons,map_cons];by_cases q:p.1=k
  ·rw [if_pos (qp.mpr q),if_pos (beq_iff_eq.mpr q)]
   exact .cons a b hx (ih d)
  ·rw [if_neg (λz=>q (qp.mp z)),if_neg (λz=>q (beq_iff_eq.mp z))]
   exact .cons a b c (ih d)
def Mt(H:k.length<=lim)(I:∀c∈k,c<1114112)(hx:bn O h X v x)(r:bR O h X al ds):bR O h X (stored al (mk k) v) (fQ ds k x):=by
 rw [stored,fQ,Mq k r];by_cases q:(ds.any λp=>p.1==k)=true
 ·rw [if_pos q,if_pos q];exact Ms hx r
 ·rw [if_neg q,if_neg q];exact Mr H I hx r
def Mu(ds:List (aa×ab))(k:aa)(x:ab):(fQ ds k x).length<=ds.length+1:=by
 rw [fQ];by_cases q:(ds.any λp=>p.1==k)=true
 ·rw [if_pos q,length_map];exact le_succ _
 ·rw [if_neg q,length_append];exact aD _
def Mv(ts:List (Int×Nat))(k:Int)(x:Nat):(lB ts k x).length<=ts.length+1:=by
 rw [lB];by_cases q:(ts.any λp=>p.1==k)=true
 ·rw [if_pos q,length_map];exact le_succ _
 ·rw [if_neg q,length_append];exact aD _
noncomputable def En (m:Mp):List (Int×aq)->List (Int×Nat)->Prop
 |al,ts=>al.map (·.1)=ts.map (·.1)/\∀(i:Nat)(t:Int×Nat),ts[i]?=some t->100<=t.2/\∃l,m.f t.2=some l/\al[i]?=some (t.1,Value.ref l)
def Mw(hj:100<=j)(hv:m.f j=some l)(q:En m al ts):En m (stored al k (.ref l)) (lB ts k j):=by
 have hlen:al.length=ts.length:=(length_map (·.1)).symm.trans ((ae List.length q.1).trans (length_map ..));have Mx:al.any (λkv=>decide (kv.1=k))=ts.any (λp=>p.1==k):=(any_map (p:=λz=>decide (z=k))).symm.trans ((ae (List.any · _) q.1).trans ((any_map ..).trans rfl));rw [stored,lB,Mx];by_cases c:(ts.any λp=>p.1==k)=true
 ·rw [if_pos c,if_pos c]
  refine ⟨?_,λi t ht=>?_⟩
  ·rw [map_map,map_map]
   refine (eR λp Z=>?_).trans (q.1.trans (eR λp Z=>?_))
   ·show (if p.1=k then (p.1,Value.ref l) else p).1=p.1
    rw [apply_ite Prod.fst];exact ite_self _
   ·show p.1=(if (p.1==k)=true then (p.1,j) else p).1
    rw [apply_ite Prod.fst];exact (ite_self _).symm
  ·rw [getElem?_map] at ht
   refine cK ht λp hp e=>aT (q.2 i p hp) λa0 a=>bt a λl' a1 a2=>?_;rw [getElem?_map,a2];by_cases z:p.1=k
   ·rw [if_pos (beq_iff_eq.mpr z)] at e
    subst e;exact ⟨hj,l,hv,ae some (bv z)⟩
   ·rw [if_neg λy=>z (beq_iff_eq.mp y)] at e
    subst e;exact ⟨a0,l',a1,ae some (bK z)⟩
 ·rw [if_neg c,if_neg c]
  refine ⟨(map_append ..).trans ((ae (·++[k]) q.1).trans (map_append (l₂:=[(k,j)])).symm),λi t ht=>?_⟩;by_cases hi:i<ts.length
  ·rw [getElem?_append_left hi] at ht
   rw [getElem?_append_left (hlen.symm▸hi)];exact q.2 i t ht
  ·rw [getElem?_append_right (le_of_not_lt hi)] at ht
   rw [getElem?_append_right (hlen.symm▸le_of_not_lt hi),hlen];cases e:i - ts.length with
   |zero=>rw [e] at ht;exact ax ht▸⟨hj,l,hv,rfl⟩
   |succ i=>rw [e] at ht;exact av ht
def Eo(hr:bw 1 A)(R:SR O P m ac s.heap)(ra:ai O s.heap P m a x)(rb:ai O s.heap P m b y)(rv:ai O s.heap P m v z)(h:mD x y z ac=some ao):
  wpAny O.M A (setItem a b v) (λZ V=>SR O P m ao V.heap/\aK [] false m m s V) br s:=by
 refine aG h λr ex h=>kE h (λk d e1 e2 e=>aG e λal de e=>b8 e λhl e=>?_) λh=>kE h (λk j e1 e2 e=>aG e λts de e=>b8 e λhl e=>?_) av
 all_goals
  refine bt (jz ex▸ra:ai O s.heap P m a (.ref r)) λda ea hm=>?_;subst ea;rw [<-Option.some.inj e]
 ·have de:=se de
  obtain ⟨⟨t,rfl⟩,H,I⟩:=(dw e1▸rb:ai O s.heap P m b (.d (.str k)))
  refine d4 (R.obj _ _ _ hm de) λks e hz q=>wpAny_setItem_pairs (so _ _) e (λh' hd hs=>?_) (q.len.symm▸hz);exact ⟨R.change hm de (aV.no_lk rfl) hs (.dict hd (af (Mu _ _ _) hl) (Mt H I (Em hm hs (jy e2▸rv:ai O s.heap P m v (.d d))) (Mo hm hs q))) (λq=>aj q cx),aK.change R hm de (aV.no_lk rfl) hs⟩
 ·have de:=DE de
  obtain ⟨u,rfl⟩:=(fo e1▸rb:ai O s.heap P m b (.d (.int k)))
  obtain ⟨l,rfl,hv⟩:=(jz e2▸rv:ai O s.heap P m v (.ref j))
  refine nU (R.obj _ _ _ hm de) λal e hz q1 q2=>wpAny_setItem_pairs (Eb _ _) e (λh' hd hs=>?_) ?_
  ·have q:=Mw hl.2.2 hv ⟨q1,q2⟩ (k:=k)
   exact ⟨R.change hm de (aV.no_lk rfl) hs (.tab hd (af (Mv _ _ _) hl.1) q.1 q.2) λZ=>R.tb r _ de rfl,aK.change R hm de (aV.no_lk rfl) hs⟩
  ·exact (show al.length=ts.length from (length_map (·.1)).symm.trans ((ae List.length q1).trans (length_map ..)))▸hz
end
section
def vn:∀{D:List aq}{l:List Int},aR O h X D J->gD J=some l->∃ps:List (Int×Tok),D=ps.map (λp=>Value.int p.1 p.2)/\ps.map (·.1)=l:=by
 induction J with
 |nil=>exact λr hl=>⟨[],r,ax hl⟩
 |cons x J ih=>exact λ{D l} r hl=>du (r) λv ws e hv r=>aG hl λi e0 hl=>cK hl λl' e1 e2=>bt (ih r e1) λps H I=>((ab.int_inv e0▸hv:bn O h X v (.int i))).elim λt ev=>⟨(i,t)::ps,e.trans (ev▸H▸rfl),(ae (i::·) I).trans e2⟩
def My:∀{D:List aq}{l:List aa},aR O h X D J->gm J=some l->StrsAre D (l.map mk)/\∀x∈l,x.length<=lim/\∀c∈x,c<1114112:=by
 induction J with
 |nil=>
  intro D l r hl;rw [r,<-Option.some.inj hl];exact ⟨.nil,λZ h=>aj h cp⟩
 |cons x J ih=>
  intro D l r hl;refine du (r) λv ws e hv r=>aG hl λi e0 hl=>cK hl λl' e1 e2=>aT (ih r e1) λH I=>aT ((ab.str_inv e0▸hv:bn O h X v (.str i))) λev q=>ev.elim λt ev=>?_;rw [e,ev,<-e2];exact ⟨.cons _ t H,λy hy=>(bA.mp hy).elim (λe=>e▸q) (I y)⟩
def qq(ra:ai O h P m a y)(e:listOf y=some J):∃c D,a=.ref c/\¬aC P m c/\h.IsList c D.toArray/\J.length<=lim/\aR O h (aC P m) D J:=
 eV (om e▸ra:ai O h P m a (.d (.list J))) λc D H I h3 h4 h5=>⟨c,D,H,I,h3.isList,h4,h5⟩
def yC(h:n<=lim):((n:Nat):Int)<2 ^ 63:=Int.lt_of_le_of_lt (ofNat_le.mpr h) (show ((16777216:Nat):Int)<2 ^ 63 by decide)
def Mz(R:SR O P m ac s.heap)(ra:ai O s.heap P m a y)(e:xY y ac=some d):wpAny O.M A (call (.builtin "len") [a] []) (aJ O P m s ac (.d d)) br s:=
 fm e (λx e1 e=>ai.str_el (dw e1▸ra:ai O s.heap P m a (.d (.str x))) λt hz Z=>len_str (Int.not_le.mpr (yC hz)) (ax e▸aJ.tok R (.d (.int _ _)) _)) λe=>
 fm e (λJ e1 e=>eV (oo e1▸ra:ai O s.heap P m a (.d (.tup J))) λc D ea Z ht hz r=>by
  have hs:=(size_toArray ..).trans r.len;exact ea▸len_tuple ht (hs.symm▸yC hz) (hs.symm▸ax e▸aJ.tok R (.d (.int _ _)) _)) λe=>
 cK e λJ e1 e2=>kn (si R ra e1) λc D ea hl r hz=>by
  have hs:=(size_toArray ..).trans r.len;exact ea▸PyProof.Rows.len_list hl (hs.symm▸yC hz) (hs.symm▸e2▸aJ.tok R (.d (.int _ _)) _)
def MA{l:List Int}:∀x,x<=l.foldl max x/\(∀y∈l,y<=l.foldl max x)/\(l.foldl max x=x\/l.foldl max x∈l):=by
 induction l with
 |nil=>exact λx=>⟨Int.le_refl _,(λZ h=>aj h cp),.inl rfl⟩
 |cons y l ih=>
  intro x;refine fC (ih (max x y)) λH I h3=>⟨Int.le_trans (Int.le_max_left x y) H,λz hz=>(bA.mp hz).elim (λe=>Int.le_trans (Int.le_of_eq e) (Int.le_trans (Int.le_max_right x y) H)) (I z),h3.elim (λh3=>?_) λh3=>.inr (.tail _ h3)⟩
  rcases Int.le_total x y with q|q
  ·exact .inr (bA.mpr (.inl (h3.trans (Int.max_eq_right q))))
  ·exact .inl (h3.trans (Int.max_eq_left q))
def MB(hr:bw 1 A)(R:SR O P m ac s.heap)(ra:ai O s.heap P m a y)(e:((listOf y).bind gD).bind C6=some d):wpAny O.M A (call (.builtin "max") [a] []) (aJ O P m s ac (.d d)) br s:=
 aG e λl e1 e2=>aG e1 λJ e3 e4=>eV (qq ra e3) λc D ea hn hl hz r=>bt (vn r e4) λps ev e5=>by
  subst ea ev;have hl:s.heap.IsList c (intItems ps.toArray):=(show (ps.map λp=>Value.int p.1 p.2).toArray=intItems ps.toArray from (List.map_toArray ..).symm)▸hl;cases l with
  |nil=>exact av e2
  |cons x l=>
   have hsz:ps.toArray.size=l.length+1:=(size_toArray ..).trans ((length_map (·.1)).symm.trans (ae List.length e5));refine iS (max_intList hr.hd hl (hsz▸succ_pos _) λv h' tk hv hk gZ=>(intItems_at hv).elim λt ev=>?_);obtain ⟨H,I⟩:=argBest_gt (numAt ps.toArray) (ps.toArray.size - 1);generalize argBest (λi j=>decide (numAt ps.toArray i>numAt ps.toArray j)) (ps.toArray.size - 1)=aY at H I ev;rw [hsz] at H I;refine fC (MA (l:=l) x) λg1 g2 g3=>?_;have Ep:∀j (h:j<(x::l).length),numAt ps.toArray j=(x::l)[j]:=λj h=>by rw [numAt_eq,e5,getD_eq_getElem?_getD,getElem?_eq_getElem h];rfl
   have hb:=lt_succ_of_le H;have em:numAt ps.toArray aY=l.foldl max x:=by
    refine Int.le_antisymm ?_ ?_
    ·rw [Ep _ hb]
     exact (bA.mp (List.getElem_mem hb)).elim (λe=>e.symm▸g1) (g2 _)
    ·obtain ⟨j,hj,ej⟩:=List.getElem_of_mem (bA.mpr g3)
     exact ej▸Ep j hj▸I j (le_of_lt_succ hj)
   rw [ev,em];exact ax e2▸aJ.grown R hk gZ (.d (.int _ _))
end
section
def MC(hr:bw 1 A)(R:SR O P m ac s.heap)(ra:ai O s.heap P m a y)(e:(((listOf y).bind gD).map λl=>ab.int l.sum)=some d):wpAny O.M A (call (.builtin "sum") [a] []) (aJ O P m s ac (.d d)) br s:=by
 refine cK e λl e1 e2=>aG e1 λJ e3 e4=>?_;obtain ⟨c,D,rfl,hn,hl,hz,r⟩:=qq ra e3;obtain ⟨ps,rfl,e5⟩:=vn r e4;rw [show (ps.map λp=>Value.int p.1 p.2).toArray=intItems ps.toArray by simp [intItems]] at hl;refine iS (sum_intListG hr.hd hl λh' tk t' hk gZ=>?_);rw [preSum_eq,List.take_of_length_le (by simp),<-e2];rw [e5];exact aJ.grown R hk gZ (.d (.int _ _))
def MD(R:SR O P m ac s.heap)(ra:ai O s.heap P m a y)(e:((dn y).bind λi=>if 0<=i/\i<1000 then some (ab.str [i.toNat]) else none)=some d):wpAny O.M A (call (.builtin "chr") [a] []) (aJ O P m s ac (.d d)) br s:=by
 refine aG e λi e1 e2=>b8 e2 λhi e2=>?_;obtain rfl:=ax e2;rw [fo e1] at ra;obtain ⟨t,rfl⟩:=ra;refine PySem.P.chr_of_int (by simp only [or_eq_false_iff,decide_eq_false_iff_not];lia) (aJ.tok R (.d (.str _ (by show 1<=lim;decide) λc hc=>?_)) _);rw [mem_singleton.mp hc];lia
def ME(R:SR O P m ac s.heap)(ra:ai O s.heap P m a y)(e:((strOf y).bind C7)=some d):wpAny O.M A (call (.builtin "ord") [a] []) (aJ O P m s ac (.d d)) br s:=by
 refine aG e λx e1 e2=>?_;rw [dw e1] at ra;obtain ⟨⟨t,rfl⟩,_⟩:=ra
 match x,e2 with
 |[c],e2=>
  obtain rfl:=ax e2;exact PySem.P.ord_of_char (aJ.tok R (.d (.int _ _)) _)
def MF(n:Nat):mk (d6 n)=PySem.Str.ofString (toString (n:Int)):=by
 have:(PySem.Str.ofString (toString (n:Int))).cps.toList=d6 n:=by rw [KIN.signs_num];show _=(Nat.repr n).toList.map Char.toNat;rw [Nat.toList_repr]
 rw [<-this]
def Er(n:Nat):d6 n=(Nat.toDigits 10 n).map Char.toNat:=by show (Nat.repr n).toList.map Char.toNat=_;rw [Nat.toList_repr]
def MG(n:Nat):∀c∈d6 n,48<=c/\c<=57:=λc hc=>by
 rw [Er] at hc;refine bt (bu.mp hc) λch oy e=>?_;rw [<-e];exact PyProof.Rows.digit_range (Nat.isDigit_of_mem_toDigits (by decide) (by decide) oy)
def MH(R:SR O P m ac s.heap)(ra:ai O s.heap P m a y)(e:((dn y).bind λi=>if 0<=i/\i<100000000 then some (ab.str (d6 i.toNat)) else none)=some d):wpAny O.M A (call (.type "str") [a] []) (aJ O P m s ac (.d d)) br s:=by
 refine aG e λi e1 e2=>b8 e2 λhi e2=>?_;obtain rfl:=ax e2;rw [fo e1] at ra;obtain ⟨t,rfl⟩:=ra;obtain ⟨k,rfl⟩:=Int.eq_ofNat_of_zero_le hi.1;have hk:k<10 ^ 8:=by have:=hi.2;lia
 refine PySem.P.str_of_int ?_ ?_
 ·show (k.log2)<1920
  exact dZ (le_of_lt_succ (lt_succ_of_le (Nat.log2_le_self k|>λZ=>by
   rcases Nat.eq_zero_or_pos k with h|h
   ·rw [h];decide
   ·exact le_of_lt_succ ((Nat.log2_lt ((cY h))).mpr (dJ hk (by decide:10 ^ 8<2 ^ 28)))))) (by decide:27<1920)
 ·show aJ _ _ _ _ _ _ (.str (PySem.Str.ofString (toString ((k:Nat):Int))) s.toks) _
  rw [<-MF];refine aJ.tok R (.d (.str _ ?_ λc hc=>?_)) _
  ·show (d6 k).length<=lim
   rw [Er,length_map];exact af ((Nat.length_toDigits_le_iff (by decide) (by decide:0<8)).mpr hk) (by decide)
  ·have:=(MG k c hc).2
   lia
theorem Es:∀(l:aa)(k n:Nat),l.foldl (λacc c=>acc.bind λn=>if 48<=c/\c<=57 then some (10*n+(c - 48)) else none) (some k)=some n->PySem.NumText.AllDigits l/\l.foldl (λacc c=>acc*10+(c - 48)) k=n
 |[],k,n,h=>⟨(λZ h=>aj h cp),ax h⟩
 |c::l,k,n,h=>by
  rw [List.foldl_cons] at h;by_cases hc:48<=c/\c<=57
  ·rw [Option.bind_some,if_pos hc] at h
   refine aT (Es l _ n h) λH I=>?_;refine ⟨λd hd=>(bA.mp hd).elim (λe=>by rw [e];exact hc) (H d),?_⟩;rw [List.foldl_cons,Nat.mul_comm k 10];exact I
  ·rw [Option.bind_some,if_neg hc] at h
   have:∀l:aa,l.foldl (λacc c=>acc.bind λn=>if 48<=c/\c<=57 then some (10*n+(c - 48)) else none) (none:Option Nat)=none:=λl=>by
    induction l with
    |nil=>rfl
    |cons c l ih=>exact ih
   rw [this] at h;exact av h
def MI(R:SR O P m ac s.heap)(ra:ai O s.heap P m a y)(e:((strOf y).bind λx=>if x.length<=9 then (uE x).map λ(n:Nat)=>ab.int n else none)=some d):wpAny O.M A (call (.type "int") [a] []) (aJ O P m s ac (.d d)) br s:=by
 refine aG e λx e1 e2=>b8 e2 λhx e2=>cK e2 λn e3 e4=>?_;subst e4;rw [dw e1] at ra;obtain ⟨⟨t,rfl⟩,_⟩:=ra;cases x with
 |nil=>exact av e3
 |cons c l=>
  refine aT (Es (c::l) 0 n e3) λH I=>?_;have h3:=I;refine KIN.call_text ?_ ?_ (aJ.tok R (.d (.int _ _)) _)
  ·have:=intText_digits (x:=mk (c::l)) H (λq=>nomatch q) (by exact (af hx (by decide:9<=4300)))
   rw [this];exact ae (λk:Nat=>some (k:Int)) h3
  ·show (c::l).length<=640;exact (af hx (by decide:9<=640))
def MJ(it:az)(ho:s.heap.get? it=some o)(hc:o.cls=.type "list")(hd:o.data=.seq items n)(hsz:items.size<=sizeLine)
  (hQ:∀h',(∀b o',s.heap.get? b=some o'->h'.get? b=some o')->s.heap.objs.size<=h'.objs.size->Q items.toList {s with heap:=h'}):wpAny (model prog w) A (collect (.ref it)) Q E s:=
 iS (wpAny_collect_seq (hsz:=hsz) it (.inl rfl) ho hc hd λh' hk hz=>hQ h' hk hz)
def MK(hc:o.cls=.type "list")(hd:o.data=.seq items n)(hz:items.size<=sizeLine):
  Meets (Builtin.«tuple.__new__» ⟨[.type "tuple",.ref l],[]⟩)
   (λZ R s=>s.heap.get? l=some o/\∀h':Heap,(∀b o',s.heap.get? b=some o'->h'.get? b=some o')->s.heap.objs.size<=h'.objs.size->R (.ok (.ret (.ref h'.objs.size))) {s with heap:=h'.push {cls:=.type "tuple",data:=.seq items}}):=
 .of_wp λprog w A R s h=>by
  obtain ⟨hp,g,d,tk,os⟩:=s;refine aT (h) λht h=>?_;have ML:=sub_tuple_self;have η:=init_tuple_lookup;have θ:=madeHere_tuple;have hT:Shared.TypeIs ⟨hp,g,d,tk,os⟩ (.ref l) "list" :=⟨o,ht,hc⟩
  wp_walk using AutoSeq1.wpAny_loadPart' ht,wpAny_typeOf hT,MJ l ht hc hd hz
  intro h' hk gZ;show wpAny _ _ (Builtin.Tuple.tupleExact items.toList.toArray>>=λv=>ret v) _ _ _;refine an (wpAny_newObj_type ?_ (show items.toList.toArray.size<=sizeLine by simpa using hz));refine aQ ⟨_,rfl,?_⟩;exact h h' hk gZ
def MM(R:SR O P m ac s.heap)(ra:ai O s.heap P m a y)(e:(listOf y).map ab.tup=some d):wpAny O.M A (call (.type "tuple") [a] []) (aJ O P m s ac (.d d)) br s:=by
 refine cK e λJ e1 e2=>?_;subst e2;obtain ⟨c,D,rfl,hn,⟨o,ho,hc,n,hd⟩,hz,r⟩:=qq ra e1;exact callType_new F.called_tuple (by decide) (F.typeCall_tuple_1 _) (F.newCall_tuple_1 _) (λobj=>F.args_object_init_2 obj _) F.entry_tuple_new
  (MK hc hd (Mg (by rw [size_toArray,r.len];exact hz))) ⟨ho,λh' hk gZ=>⟨⟨_,fh _ rfl,rfl⟩,
   aJ.grown R (λa o e=>f' _ (hk a o e)) (by rw [Heap.size_push];exact (af gZ (bz _ _))) (.d (.tup (R.new gZ) ⟨_,fh _ rfl,rfl,_,rfl⟩ hz (aR.step (λa o Z e=>f' _ (hk a o e)) (λZ Z q Z=>q) r)))⟩⟩
end
noncomputable def yD {α:Type}(lt:Nat->Nat->Bool):KasT α->α
 |.ret a=>a
 |.ask i j k=>yD lt (k (lt i j))
noncomputable def g5 {α:Type}(N:Nat) (G:α->Prop):KasT α->Prop
 |.ret a=>G a
 |.ask i j k=>i<N/\j<N/\∀b,g5 N G (k b)
def sy{G G':α->Prop}(h:∀a,G a->G' a)(t:KasT α)(q:g5 N G t):g5 N G' t:=by
 induction t with
 |ret a=>exact h a q
 |ask i j k ih=>exact ⟨q.1,q.2.1,λb=>ih b (q.2.2 b)⟩
def sA(t:KasT α)(q:g5 N (λa=>g5 N G (f a)) t):g5 N G (t.bind f):=by
 induction t with
 |ret a=>exact q
 |ask i j k ih=>exact ⟨q.1,q.2.1,λb=>ih b (q.2.2 b)⟩
abbrev In(N:Nat)(p:Array Nat):Prop:=0<N/\∀x∈p,x<N
def In.get(h:In N p)(i:Nat):p.getD i 0<N:=by
 rw [Array.getD_eq_getD_getElem?];cases e:p[i]? with
 |none=>exact h.1
 |some x=>exact h.2 x (Array.mem_of_getElem? e)
def In.perm(h:In N p)(hp:q.Perm p):In N q:=⟨h.1,λx hx=>h.2 x ((Array.Perm.mem_iff hp).mp hx)⟩
def In.rev(h:In N p)(i j:Nat):In N (kas_rev p i j):=h.perm (mirror_perm _ _ _ _)
theorem yE(h:In N p):∀f n,g5 N (λZ=>True) (kas_asc p f n)
 |0,_=>trivial
 |f+1,n=>⟨h.get _,h.get _,λb=>by cases b<;>first|trivial|exact yE h f (n+1)⟩
theorem vo:∀(f:Nat){p:Array Nat}(h:In N p)(n q:Nat),g5 N (λr=>In N r.1) (kas_desc f p n q)
 |0,p,h,_,_=>h
 |f+1,p,h,n,q=>⟨h.get _,h.get _,λb=>by
  cases b with
  |true=>
   show g5 N _ (if q>0 then _ else _)
   split
   ·exact vo f (h.rev _ _) _ _
   ·exact vo f h _ _
  |false=>exact ⟨h.get _,h.get _,λb=>by cases b<;>first|exact h|exact vo f h _ _⟩⟩
def Et(h:In N p)(n k:Nat):g5 N (λr=>In N r.2) (kas_tail3 n k p):=sA _ (sy (λZ Z=>h.rev _ _) _ (yE (h.rev _ _) _ _))
def Eu(h:In N p)(n k:Nat):g5 N (λr=>In N r.2) (kas_descPart n k p):=sA _ (sy (λr hr=>by
 split
 ·exact Et (hr.rev _ _) _ _
 ·exact Et hr _ _) _ (vo _ h _ _))
def MN(h:In N p)(k:Nat):g5 N (λr=>In N r.2) (kas_count k p):=sA _ (sy (λn Z=>by
 split
 ·exact h
 ·split
  ·exact ⟨h.get _,h.get _,λb=>by cases b<;>first|exact h|exact Eu (h.rev _ _) _ _⟩
  ·exact Eu h _ _) _ (yE h _ _))
theorem Ev(h:In N p)(k:Nat):∀f l r,g5 N (λZ=>True) (kas_place p k f l r)
 |0,_,_=>trivial
 |f+1,l,r=>by
  unfold kas_place
  split
  ·trivial
  ·exact ⟨h.get _,h.get _,λb=>by cases b<;>exact Ev h k f _ _⟩
theorem Ew:∀(f:Nat){p:Array Nat}(h:In N p)(k:Nat),g5 N (λZ=>True) (kas_bin f p k)
 |0,_,_,_=>trivial
 |f+1,p,h,k=>sA _ (sy (λl Z=>Ew f (h.perm (bubble_perm _ _ _)) _) _ (Ev h k _ _ _))
def Ex(h:0<N):g5 N (λZ=>True) (kas_sort N):=by
 have hp:In N (List.toArray (List.range N)):=⟨h,λx hx=>mem_range.mp (List.mem_toArray.mp hx)⟩
 refine sA _ (sy (λr hr=>?_) _ (MN hp N))
 split
 ·exact Ew _ hr _
 ·trivial
def Ey(t:KasT α)(q:g5 N P t)
  (hc:∀i j (C:Bool->ay->Prop),i<N->j<N->C (lt i j) s->cmp i j C s) (h:G (yD lt t) s):t.kasWp cmp G s:=by
 induction t with
 |ret a=>exact h
 |ask i j k ih=>exact hc i j _ q.1 q.2.1 (ih _ (q.2.2 _) h)
noncomputable abbrev qr (ks:List aa) (i j:Nat):Bool:=decide (ks.getD i []<ks.getD j [])
def eX(ks:List aa):Array Nat:=yD (qr ks) (kas_sort ks.length)
noncomputable def qt (n:Nat) (q:Keyed):Nat:=match q.1 with
 |.str _ t=>t
 |_=>n
def MO{aY C:α->Prop}(hE:∀e V,¬E e V)(H:wpAny M callerA t (λa Z=>aY a) E s)(I:wpAny M callerA t (λa Z=>C a) E s):∃a,aY a/\C a:=by
 classical
 have go:∀{R:Result->ay->Prop},wpAny M callerA t (λa V=>R (.ok (.ret (if aY a then .none else .bool true))) V) (λe V=>R (.error e) V) s->
   ∃r V,Reach M [] s (t>>=λa=>pure (Fin.done (.ret (if aY a then .none else .bool true)))) (.builtin "claim.caller" {}) default [] V (.ret r)/\R r V:=λ{R} h=>
  (wp_iff_reach _ R default s).mp (wp_of_wpAny_done caller_in (an (di h (λa V q=>aQ ⟨_,rfl,q⟩) λZ Z q=>q)) default)
 refine lu (go (R:=λr Z=>r=.ok (.ret .none)) (di H (λa V q=>by rw [if_pos q]) λe V q=>(hE e V q).elim)) λr1 s1 x1 y1=>?_;obtain ⟨r2,s2,x2,a,y2,y3⟩:=go (R:=λr Z=>∃a,C a/\r=.ok (.ret (if aY a then .none else .bool true))) (di I (λa V q=>⟨a,q,rfl⟩) λe V q=>(hE e V q).elim);have e:=(Reach.det x1 x2).2;refine ⟨a,?_,y2⟩;by_cases hb:aY a
 ·exact hb
 ·rw [if_neg hb] at y3
  cases e;cases y1.symm.trans y3
def MP(w:World)(prog:Program)(I:2<=ks.length)(eY:ks.length<64):
  (eX ks).toList.Perm (List.range ks.length)/\∀i j,i<=j->j<ks.length->¬ks.getD ((eX ks).getD j 0) []<ks.getD ((eX ks).getD i 0) []:=by
 obtain ⟨D,mK⟩:∃D,D=(List.range ks.length).map λi=>Value.str (mk (ks.getD i [])) i:=⟨_,rfl⟩
 have hl:D.length=ks.length:=by rw [mK,length_map,length_range]
 have at_:∀i,i<ks.length->D.getD i .none=.str (mk (ks.getD i [])) i:=λi hi=>by
  rw [mK,getD_eq_getElem?_getD,getElem?_map,List.getElem?_range hi];rfl
 have hS:=strsAre_map D λv hv=>by
  rw [mK] at hv;refine bt (bu.mp hv) λi Z e=>?_;exact ⟨_,_,e.symm⟩
 have key:=MO (M:=model prog w) (s:={})
  (λZ Z q=>q)
  (di (wpS_sortRunsK strKind_oneLt (Q:=λZ kH=>(arrOf kH).Perm (pairsOf D)/\SortedToK strKind (arrOf kH) (pairsOf D).size)
   hS.keysOf ⟨Array.Perm.refl _,rfl,rfl,rfl⟩ (by rw [pairsOf_size,hl];exact I) (by rw [pairsOf_size,hl];exact eY) λkH a1 a2 a3=>⟨a1,a3⟩) (λZ Z q=>q.2) λZ Z q=>q)
  (di (kat_run (Q:=λkH Z=>arrOf kH=(eX ks).map (kas_item (D.toArray.zip D.toArray))/\(eX ks).size=D.length) (G:=λp Z=>p=eX ks) rfl (by rw [hl];exact I) (by rw [hl];exact eY) (λp kH V a1 a2 a3 a4=>by subst a4;exact ⟨a2,a1⟩)
   (by rw [hl];exact Ey _ (Ex ((af (by decide:1<=2) I))) (λi j C hi hj hC=>by
    show wpAny _ _ (keyLt' oneType' (D.getD i .none) (D.getD j .none)) _ _ _;rw [at_ i hi,at_ j hj];exact kas_lt_str hC) rfl)) (λZ Z q=>q) λZ Z q=>q)
 obtain ⟨r,⟨k1,k2⟩,k3,k4⟩:=key;have yF:∀i,kas_item (D.toArray.zip D.toArray) i=(D.getD i .none,D.getD i .none):=kas_item_eq D;rw [k3] at k1 k2;have small:∀x∈eX ks,x<ks.length:=λx hx=>by
  have:kas_item (D.toArray.zip D.toArray) x∈pairsOf D:=(Array.Perm.mem_iff k1).mp (Array.mem_map.mpr ⟨x,hx,rfl⟩);have h3:kas_item (D.toArray.zip D.toArray) x∈D.zip D:=by rw [<-pairsOf_toList];exact Array.mem_toList_iff.mpr this
  rw [yF] at h3;have h4:=(mem_zip_self h3).2;refine nV (hS.all _ h4) λy t e=>?_;refine lt_of_not_le λq=>?_;have e5:D.getD x .none=Value.none:=by rw [getD_eq_getElem?_getD,getElem?_eq_none (by rw [hl];exact q)];rfl
  cases e5.symm.trans e
 refine ⟨?_,λi j jZ hj=>?_⟩
 ·have p1:=(Array.perm_iff_toList_perm.mp k1).map (qt ks.length)
  rw [toList_map,map_map,pairsOf_toList] at p1;have e1:(eX ks).toList.map (qt ks.length ∘ kas_item (D.toArray.zip D.toArray))=(eX ks).toList:=by
   refine (eR λx hx=>?_).trans (map_id _);show qt ks.length (kas_item (D.toArray.zip D.toArray) x)=x;rw [yF,at_ x (small x (Array.mem_toList_iff.mp hx))]
   rfl
  have e2:(D.zip D).map (qt ks.length)=List.range ks.length:=by
   have:(D.zip D).map (qt ks.length)=((D.zip D).map Prod.fst).map λv=>qt ks.length (v,v):=by rw [map_map];rfl
   rw [this,List.map_fst_zip (Nat.le_refl _),mK,map_map];exact (eR λx hx=>rfl).trans (map_id _)
  rwa [e1,e2] at p1
 ·have h3:=k2 i j jZ (by rw [pairsOf_size,hl];exact hj)
  have hz:=k4.trans hl;have kk:∀i,i<ks.length->KK strKind ((eX ks).map (kas_item (D.toArray.zip D.toArray))) i=ks.getD ((eX ks).getD i 0) []:=λi hi=>by
   have lP:i<(eX ks).size:=by rw [hz];exact hi
   have e:(eX ks).getD i 0=(eX ks)[i]:=(dif_pos lP).trans rfl;refine KK_str (x:=mk (ks.getD ((eX ks).getD i 0) [])) (t:=(eX ks).getD i 0) (q:=D.getD ((eX ks).getD i 0) .none) (by rw [Array.size_map];exact lP) ?_;rw [Array.getElem_map,yF,e,at_ _ (small _ (Array.getElem_mem _))]
  rw [kk i (by omega),kk j hj] at h3;exact of_decide_eq_false h3
def gI(ks:List aa):aa:=if 2<=ks.length then (eX ks).toList else List.range ks.length
def yG(w:World)(prog:Program)(eY:ks.length<64):(gI ks).Perm (List.range ks.length)/\((gI ks).map λi=>ks.getD i []).Pairwise λa b=>a<=b:=by
 unfold gI;by_cases I:2<=ks.length
 ·rw [if_pos I]
  refine aT (MP w prog I eY) λh3 h4=>?_;have hz:(eX ks).size=ks.length:=by rw [<-Array.length_toList,h3.length_eq,length_range]
  refine ⟨h3,List.pairwise_iff_getElem.mpr λi j hi hj jZ=>?_⟩;have iy:j<(eX ks).size:=by rw [length_map,Array.length_toList] at hj;exact hj
  have g:∀k (h:k<(eX ks).size),(eX ks).getD k 0=(eX ks)[k]:=λk h=>(dif_pos h).trans rfl;have:=h4 i j (Nat.le_of_lt jZ) (hz▸iy);rw [g i (Nat.lt_trans jZ iy),g j iy] at this;rw [List.getElem_map,List.getElem_map,Array.getElem_toList,Array.getElem_toList];exact List.not_lt.mp this
 ·rw [if_neg I]
  refine ⟨.refl _,List.pairwise_iff_getElem.mpr λi j hi hj jZ=>?_⟩;rw [length_map,length_range] at hj;lia
noncomputable def eD (x:aa×aa):aa:=x.1.map (·+1)++0::x.2
theorem vp:∀(a b:aa)(c d:aa),eD (a,c)<eD (b,d)↔a<b\/a=b/\c<d
 |[],[],c,d=>by
  show (0::c)<(0::d)↔_;rw [cons_lt_cons_iff];simp
 |[],y::b,c,d=>by
  show (0::c)<((y+1)::(b.map (·+1)++0::d))↔_;rw [cons_lt_cons_iff];exact ⟨λZ=>.inl (List.nil_lt_cons _ _),λZ=>.inl (succ_pos _)⟩
 |x::a,[],c,d=>by
  show ((x+1)::(a.map (·+1)++0::c))<(0::d)↔_;rw [cons_lt_cons_iff];simp
 |x::a,y::b,c,d=>by
  show ((x+1)::eD (a,c))<((y+1)::eD (b,d))↔_;rw [cons_lt_cons_iff,cons_lt_cons_iff,vp a b c d,List.cons.injEq];constructor
  ·rintro (h|⟨h,H|⟨H,I⟩⟩)
   ·exact .inl (.inl (by lia))
   ·exact .inl (.inr ⟨by lia,H⟩)
   ·exact .inr ⟨⟨by lia,H⟩,I⟩
  ·rintro ((h|⟨h,H⟩)|⟨⟨h,H⟩,I⟩)
   ·exact .inl (by lia)
   ·exact .inr ⟨(Nat.le_antisymm (dN (cr h) _) (dN (cr h.symm) _)),.inl H⟩
   ·exact .inr ⟨(Nat.le_antisymm (dN (cr h) _) (dN (cr h.symm) _)),.inr ⟨H,I⟩⟩
def MQ(x y:aa×aa):pZ x y=decide (eD x<=eD y):=by
 obtain ⟨a,c⟩:=x;obtain ⟨b,d⟩:=y;have h:eD (a,c)<=eD (b,d)↔¬(b<a\/b=a/\d<c):=by rw [<-vp];exact List.not_lt.symm
 refine Bool.eq_iff_iff.mpr ?_;rw [decide_eq_true_iff,h];unfold pZ;by_cases e:a=b
 ·subst e
  rw [if_pos rfl,decide_eq_true_iff];exact ⟨λq r=>r.elim (List.lt_irrefl _) λr=>List.not_lt.mpr q r.2,λq=>List.not_lt.mp λr=>q (.inr ⟨rfl,r⟩)⟩
 ·rw [if_neg e,decide_eq_true_iff]
  exact ⟨λq r=>r.elim (List.not_lt.mpr q) λr=>e r.1.symm,λq=>List.not_lt.mp λr=>q (.inl r)⟩
def MR(h:eD x=eD y):x=y:=by
 have H:¬eD x<eD y:=by rw [h];exact List.lt_irrefl _
 have I:¬eD y<eD x:=by rw [h];exact List.lt_irrefl _
 obtain ⟨a,c⟩:=x;obtain ⟨b,d⟩:=y;rw [vp] at H I;have e1:=List.le_antisymm (List.not_lt.mp λq=>I (.inl q)) (List.not_lt.mp λq=>H (.inl q));have e2:=List.le_antisymm (List.not_lt.mp λq=>I (.inr ⟨e1.symm,q⟩)) (List.not_lt.mp λq=>H (.inr ⟨e1,q⟩));rw [e1,e2]
def Ez{α:Type}(l:List α)(d:α):(List.range l.length).map (λi=>l.getD i d)=l:=
 List.ext_getElem (by rw [length_map,length_range]) λi H I=>by rw [List.getElem_map,List.getElem_range,getD_eq_getElem?_getD,getElem?_eq_getElem I];rfl
def MS{α:Type}(w:World)(prog:Program)(f:α->aa)(hf:∀x y,f x=f y->x=y)(l:List α)(d:α)(eY:l.length<64):
  (gI (l.map f)).map (λi=>l.getD i d)=l.mergeSort λa b=>decide (f a<=f b):=by
 refine aT (yG w prog (ks:=l.map f) (by rw [length_map];exact eY)) λH I=>?_;rw [length_map] at H;have hp:((gI (l.map f)).map λi=>l.getD i d).Perm l:=by have:=H.map λi=>l.getD i d;rwa [Ez] at this
 refine List.Perm.eq_of_pairwise (λa b Z Z h3 h4=>hf _ _ (List.le_antisymm (cm h3) (cm h4))) ?_ (List.pairwise_mergeSort (le:=λa b=>decide (f a<=f b)) (λa b c h3 h4=>fj (List.le_trans (cm h3) (cm h4))) (λa b=>by
  rw [or_eq_true,decide_eq_true_iff,decide_eq_true_iff];exact List.le_total _ _) l) (hp.trans (List.mergeSort_perm _ _).symm)
 have e:((gI (l.map f)).map λi=>(l.map f).getD i [])=((gI (l.map f)).map λi=>l.getD i d).map f:=by
  rw [map_map];refine eR λi hi=>?_;have lP:=mem_range.mp (H.mem_iff.mp hi);show _=f (l.getD i d);rw [getD_eq_getElem?_getD,getD_eq_getElem?_getD,getElem?_map,getElem?_eq_getElem lP]
  rfl
 rw [e,pairwise_map] at I;exact I.imp λh=>fj h
section
def vq(prog:Program)(w:World)(D:List aq)(ks:List aa)(h:Heap):Prop:=∀(A:Around)(s:ay),(∀a o,h.get? a=some o->s.heap.get? a=some o)->2<=ks.length->
 wpAny (model prog w) A (keyKind' D.toArray) (λκ V=>V=s/\∀(i j:Nat)(C:Bool->ay->Prop),i<ks.length->j<ks.length->C (qr ks i j) s->wpAny (model prog w) A (keyLt' κ (D.getD i .none) (D.getD j .none)) C (λZ Z=>False) s) (λZ Z=>False) s
set_option backward.match.sparseCases true in
def MT(hn:ks.length=D.length)(ho:s.heap.get? a=some (seqObj "list" D.toArray n))(eY:D.length<64)
  (ask:∀(A:Around)(s1:ay),s1={s with heap:=((s.heap.update a (Obj.mapSeq λZ=> #[])).push (seqObj "tuple" D.toArray 0)).push (seqObj "list" #[] 0)}->2<=ks.length->
   wpAny (model prog w) A (keyKind' D.toArray) (λκ V=>V=s1/\∀(i j:Nat)(C:Bool->ay->Prop),i<ks.length->j<ks.length->C (qr ks i j) s1->wpAny (model prog w) A (keyLt' κ (D.getD i .none) (D.getD j .none)) C (λZ Z=>False) s1) (λZ Z=>False) s1)
  (h:P (.done (.ret .none)) {s with heap:=sortedHeap s.heap a D ((gI ks).map λi=>D.getD i .none).toArray}):
  wpAny (model prog w) A (Builtin.«list.sort» ⟨[.ref a],[]⟩) P E s:=by
 rw [list_sort_plain];refine an (listItems_at ho rfl ?_);refine an (listUpdate_at ho rfl ?_);obtain ⟨e1,EA⟩:∃e1,(s.heap.update a (Obj.mapSeq λZ=> #[])).get? a=some (seqObj "list" #[] e1):=⟨_,get?_update_seq ho (λZ=> #[])⟩
 refine an (seqEpoch_at EA rfl (an (wpAny_newTuple (an (wpAny_newList (dT ?_))))));have EB:(((s.heap.update a (Obj.mapSeq λZ=> #[])).push (seqObj "tuple" D.toArray 0)).push (seqObj "list" #[] 0)).get? a=some (seqObj "list" #[] e1):=f' _ (f' _ EA);show wpAny (model prog w) A _ P E {s with heap:=((s.heap.update a (Obj.mapSeq λZ=> #[])).push (seqObj "tuple" D.toArray 0)).push (seqObj "list" #[] 0)};dsimp only;have hsz:D.toArray.size=D.length:=size_toArray;have c6:∀st:SortSt,(arrOf st).map (·.2)=((gI ks).map λi=>D.getD i .none).toArray->failedOf st=none->wpAny (model prog w) A (do
   let MU:=(<-seqEpoch a) !=e1
   Builtin.List.listUpdate (.ref a) λZ=>(arrOf st).map (·.2)
   if let some e:=failedOf st then rule "list.sort.comparison-raised";throw e
   if MU then rule "list.sort.modified";raiseError "ValueError" "list modified during sort"
   ret .none) P E {s with heap:=((s.heap.update a (Obj.mapSeq λZ=> #[])).push (seqObj "tuple" D.toArray 0)).push (seqObj "list" #[] 0)}:=λst e hf=>by
  rw [e];have hz:((gI ks).map λi=>D.getD i .none).length<64:=by rw [length_map,(yG w prog (hn▸eY)).1.length_eq,length_range,hn];exact eY
  refine an (seqEpoch_at EB rfl (an (listUpdate_at EB rfl ?_ (hsz2:=by rw [size_toArray,sizeLine_eq];lia))));rw [hf];simp only [bne_self_eq_false,Bool.false_eq_true,if_false];exact aQ h
 by_cases I:D.toArray.size<2
 ·rw [if_pos I,if_pos I]
  refine an (aQ ?_);rw [StateT.run_pure];refine an (aQ (c6 _ ?_ rfl));unfold gI;rw [if_neg (by lia),hn,Ez];apply toList_inj.mp;show ((D.toArray.zip D.toArray).map (·.2)).toList=D;rw [toList_map,Array.toList_zip];exact List.map_snd_zip (aD _)
 ·rw [if_neg I,if_neg I]
  have oz:2<=ks.length:=by exact (af (le_of_not_lt I) (af (cr hsz) (cr hn.symm)))
  refine an (di (ask A _ rfl oz) (λκ s0 hk=>?_) λZ Z x=>x.elim);obtain ⟨rfl,hk⟩:=hk;refine an (di (kat_run (Q:=λst V=>V=_/\(arrOf st).map (·.2)=((gI ks).map λi=>D.getD i .none).toArray/\failedOf st=none) (G:=λp V=>V=_/\p=eX ks) rfl (hn▸oz) eY
   (λp kH V a1 a2 a3 a4=>⟨a4.1,by rw [kat_snds rfl a2,a4.2];unfold gI;rw [if_pos oz],a3⟩) (by rw [<-hn];exact Ey (lt:=qr ks) _ (Ex (by exact (af (by decide:1<=2) oz))) hk ⟨rfl,rfl⟩)) (λr V q=>?_) λZ Z e=>e)
  obtain ⟨⟨⟩,kH⟩:=r;obtain ⟨rfl,q1,q2⟩:=q;exact c6 kH q1 q2
def MV{l:az}{D:List aq}{ks:List aa}{Q:cJ}(hn:ks.length=D.length)(hl:s.heap.IsList l D.toArray)(eY:D.length<64)(ask:vq prog w D ks s.heap)
  (h:Q (.ref (s.heap.objs.size+1)) {s with heap:=sortedAll s.heap D ((gI ks).map λi=>D.getD i .none).toArray}):wpAny (model prog w) A (call (.builtin "sorted") [.ref l]) Q E s:=by
 refine Calls.call_function_entry kind_sorted plain_sorted entry_sorted (args_sorted1 _) ?_;unfold Builtin.«sorted»;refine an (aQ (an (collect_list hl (an (wpAny_newList ?_)))));have hsz:((s.heap.push (seqObj "list" #[] 0)).update s.heap.objs.size (Obj.mapSeq (·++D.toArray))).objs.size=s.heap.objs.size+1:=by rw [Heap.size_update,size_push']
 have EC:(((s.heap.push (seqObj "list" #[] 0)).update s.heap.objs.size (Obj.mapSeq (·++D.toArray))).push (seqObj "list" D.toArray 0)).get? (s.heap.objs.size+1)=some (seqObj "list" D.toArray 0):=by
  rw [<-hsz];exact fh _ rfl
 show wpAny _ _ _ _ _ {s with heap:=((s.heap.push (seqObj "list" #[] 0)).update s.heap.objs.size (Obj.mapSeq (·++D.toArray))).push (seqObj "list" D.toArray 0)};rw [hsz];refine an (dT (wpAny_call_entry slot_list_sort ⟨_,EC,rfl⟩ entry_list_sort (MT hn EC eY (λA' s1 e I=>ask A' s1 (λb o q=>?_) I) ⟨_,rfl,aQ ⟨_,rfl,h⟩⟩) (args_list_sort _)));subst e;have cF:=cW q;refine f' _ (f' _ ?_);rw [Heap.get?_update_ne _ _ _ _ (Nat.ne_of_lt (lt_succ_of_lt cF)),Heap.get?_push_ne _ _ _ (by rw [hsz];exact cX (lt_succ_of_lt cF)),Heap.get?_update_ne _ _ _ _ (cX cF),Heap.get?_push_ne _ _ _ (cX cF)];exact q
end
section
variable{O:Wd}
def aR.at_:∀{D:List aq},aR O h X D J->∀i,i<J.length->bn O h X (D.getD i .none) (J.getD i .none):=by
 induction J with
 |nil=>exact λZ i hi=>aj hi (Nat.not_lt_zero i)
 |cons x J ih=>
  intro D r i hi;refine du (r) λv ws e hv r=>?_;rw [e];cases i with
  |zero=>exact hv
  |succ i=>exact ih r i (lt_of_succ_lt_succ hi)
theorem aR.pick(r:aR O h X D J):∀p:aa,(∀i∈p,i<J.length)->aR O h X (p.map λi=>D.getD i .none) (p.map λi=>J.getD i .none)
 |[],_=>rfl
 |i::p,hp=>⟨_,_,rfl,r.at_ i (hp i (.head _)),r.pick p λj hj=>hp j (.tail _ hj)⟩
theorem vt:∀{J:List ab}{l:List aa},gm J=some l->J=l.map .str
 |[],l,e=>ax e▸rfl
 |x::J,l,e=>aG e λi e0 e=>cK e λl' e1 e2=>e2▸(ae (x::·) (vt e1)).trans (ae (·::l'.map .str) (ab.str_inv e0))
noncomputable def mL (p:aa×aa):ab:=.tup [.str p.1,.str p.2]
def ED(h:x.tup?.bind rW=some q):x=mL q:=aG h λl e1 e2=>(ab.tup_inv e1).trans (ae ab.tup (DC e2))
theorem EE:∀{J:List ab}{l:List (aa×aa)},rX J=some l->J=l.map mL
 |[],l,e=>ax e▸rfl
 |x::J,l,e=>aG e λq e0 e=>cK e λl' e1 e2=>e2▸(ae (x::·) (EE e1)).trans (ae (·::l'.map mL) (ED e0))
def MW(r:aR O h X D (l.map .str)):vq O.prog O.w D l h:=λA s hk I=>by
 have hS:=strsAre_map D λv hv=>by
  obtain ⟨i,hi,e⟩:=List.getElem_of_mem hv;have:=r.at_ i (by rw [<-r.len];exact hi);rw [getD_eq_getElem?_getD,getElem?_eq_getElem hi,getD_eq_getElem?_getD,getElem?_map,getElem?_eq_getElem (by have:=r.len;rw [length_map] at this;exact (af hi (cr this)):i<l.length)] at this;obtain ⟨⟨t,q⟩,_⟩:=this;exact ⟨_,t,e▸q⟩
 have hz:=r.len;rw [length_map] at hz;obtain ⟨sB,sC,rest,rfl⟩:∃sB sC rest,D=sB::sC::rest:=by
  match D,hz with
  |[],hz=>exact aj I (by rw [<-hz];decide)
  |[_],hz=>exact aj I (by rw [<-hz];show¬2<=1;decide)
  |sB::sC::rest,_=>exact ⟨sB,sC,rest,rfl⟩
 rw [keyKind_strs hS];refine aQ ⟨rfl,λi j C hi hj hC=>?_⟩;have key:∀i,i<l.length->∃t,(sB::sC::rest).getD i .none=.str (mk (l.getD i [])) t:=λi hi=>by
  have:=r.at_ i (by rw [length_map];exact hi);rw [show (l.map ab.str).getD i .none=.str (l.getD i []) by rw [getD_eq_getElem?_getD,getElem?_map,getElem?_eq_getElem hi,getD_eq_getElem?_getD,getElem?_eq_getElem hi];rfl] at this;exact this.1
 refine b6 (key i hi) λt ei=>?_;refine b6 (key j hj) λu ej=>?_;rw [ei,ej];exact kas_lt_str hC
def EF(r:bn O h X v (mL p)):∃a t u,v=.ref a/\IsTup h a #[.str (mk p.1) t,.str (mk p.2) u]:=by
 obtain ⟨a,D,e,_,ht,_,_,_,rfl,⟨⟨t,rfl⟩,_⟩,_,_,rfl,⟨⟨u,rfl⟩,_⟩,rfl⟩:=r;exact ⟨a,t,u,e,ht⟩
theorem EG:∀{D:List aq}{l:List (aa×aa)},aR O h X D (l.map mL)->∃fs,KatTups h D fs/\fs.length=l.length/\∀f∈fs,∃x t,f=.str x t
 |_,[],r=>by subst r;exact ⟨[],trivial,rfl,λZ q=>aj q cp⟩
 |_,p::l,⟨v,ws,e,hv,r⟩=>by
  refine d4 (EG r) λfs H I h3=>?_;obtain ⟨a,t,u,rfl,o,ho,hc,k,hd⟩:=EF hv;subst e;exact ⟨.str (mk p.1) t::fs,.cons ho hc hd rfl H,ae (·+1) I,λf hf=>(bA.mp hf).elim (λe=>⟨_,_,e⟩) (h3 f)⟩
def MX{a b:az}(ha:IsTup s.heap a #[.str (mk p.1) t,.str (mk p.2) u])(hb:IsTup s.heap b #[.str (mk q.1) t',.str (mk q.2) u'])
  (h:C (decide (eD p<eD q)) s):wpAny O.M A (keyLt' (tuples' true) (.ref a) (.ref b)) C E s:=by
 obtain ⟨o,ho,_,n,hd⟩:=ha;obtain ⟨o',jY,_,n',mM⟩:=hb;have MY:decide (eD p<eD q)=if p.1=q.1 then decide (p.2<q.2) else decide (p.1<q.1):=by
  refine Bool.eq_iff_iff.mpr ?_;rw [decide_eq_true_iff,show eD p<eD q↔_ from vp p.1 q.1 p.2 q.2];by_cases e:p.1=q.1
  ·rw [if_pos e,decide_eq_true_iff];exact ⟨λr=>r.elim (λr=>aj r (by rw [e];exact List.lt_irrefl _)) (·.2),λr=>.inr ⟨e,r⟩⟩
  ·rw [if_neg e,decide_eq_true_iff];exact ⟨λr=>r.elim id λr=>aj r.1 e,.inl⟩
 rw [MY] at h;have EH:∀x y:aa,(mk x=mk y)=(x=y):=λx y=>propext ⟨λe=>by have:=ae (λz:Str=>z.cps.toList) e;exact this,λe=>by rw [e]⟩;refine kat_lt ho hd jY mM (kat_cons (wpAny_eqBool_str ?_));simp only [EH];by_cases e:p.1=q.1
 ·rw [decide_eq_true e]
  rw [if_pos e] at h;refine kat_yes (kat_cons (wpAny_eqBool_str ?_));simp only [EH];by_cases e2:p.2=q.2
  ·rw [decide_eq_true e2]
   refine kat_yes (kat_nil ?_);rw [e2] at h;rw [decide_eq_false (List.lt_irrefl q.2)] at h;exact h
  ·rw [decide_eq_false e2]
   exact kat_no (kat_one _ _ (lt_str h))
 ·rw [decide_eq_false e]
  rw [if_neg e] at h;exact kat_no (oneLt_str h)
def MZ{l:List (aa×aa)}(r:aR O h X D (l.map mL)):vq O.prog O.w D (l.map eD) h:=λA s hk I=>by
 have r':=aR.step (λa o Z e=>hk a o e) (λZ Z q Z=>q) r;rw [length_map] at I;refine d4 (EG r') λfs k1 k2 k3=>?_;refine kat_kind k1 ((af (af (by decide) I) (cr k2.symm))) (λv hv=>by obtain ⟨x,t,rfl⟩:=k3 v hv;exact .now) rfl ⟨rfl,λi j C hi hj hC=>?_⟩;rw [length_map] at hi hj;have gd:∀i,i<l.length->(l.map eD).getD i []=eD (l.getD i ([],[]))/\(l.map mL).getD i .none=mL (l.getD i ([],[])):=λi hi=>by
  constructor<;>rw [getD_eq_getElem?_getD,getElem?_map,getD_eq_getElem?_getD,getElem?_eq_getElem hi]<;>rfl
 have key:∀i,i<l.length->∃a t u,D.getD i .none=.ref a/\IsTup s.heap a #[.str (mk (l.getD i ([],[])).1) t,.str (mk (l.getD i ([],[])).2) u]:=λi hi=>by
  have:=r'.at_ i (by rw [length_map];exact hi);rw [(gd i hi).2] at this;exact EF this
 refine CS (key i hi) λa t u ei lP=>?_;refine CS (key j hj) λb t' u' ej iy=>?_;rw [ei,ej];refine MX lP iy ?_;have:qr (l.map eD) i j=decide (eD (l.getD i ([],[]))<eD (l.getD j ([],[]))):=by rw [qr,(gd i hi).1,(gd j hj).1]
 rw [<-this];exact hC
def EI{α:Type}{f:α->aa}{g:α->ab}{le:α->α->Bool}{d0:α}(hf:∀x y,f x=f y->x=y)(oA:∀x y,le x y=decide (f x<=f y)){l:List α}(eY:l.length<64)(R:SR O P m ac s.heap)(ra:ai O s.heap P m a (.d (.list (l.map g))))
  (ask:∀D,aR O s.heap (aC P m) D (l.map g)->vq O.prog O.w D (l.map f) s.heap):wpAny O.M A (call (.builtin "sorted") [a] []) (aJ O P m s ac (.d (.list ((l.mergeSort le).map g)))) br s:=by
 obtain ⟨c,D,rfl,hn,hl,hz,r⟩:=ra;have gr:=r.len;rw [length_map] at gr;refine iS (MV (by rw [length_map,gr]) hl.isList (by rw [gr];exact eY) (ask D r) λgZ=>?_);have hp:∀i∈gI (l.map f),i<l.length:=λi hi=>by
  have:=(yG O.w O.prog (by rw [length_map];exact eY)).1.mem_iff.mp hi;rw [length_map] at this;exact mem_range.mp this
 have e:(gI (l.map f)).map (λi=>(l.map g).getD i .none)=(l.mergeSort le).map g:=by
  rw [funext λx=>funext λy=>oA x y,<-MS O.w O.prog f hf l d0 eY,map_map];refine eR λi hi=>?_;show _=g (l.getD i d0);rw [getD_eq_getElem?_getD,getElem?_map,getD_eq_getElem?_getD,getElem?_eq_getElem (hp i hi)]
  rfl
 refine b6 (sortedAll_at s.heap D ((gI (l.map f)).map λi=>D.getD i .none).toArray) λep he=>?_;refine aJ.grown R (λZ Z=>sortedAll_old) gZ (.d (.list (R.new (le_succ _)) ⟨_,he⟩ ?_ ?_))
 ·rw [length_map,(List.mergeSort_perm l le).length_eq]
  exact af (Nat.le_of_lt eY) (by decide)
 ·rw [<-e]
  exact aR.up (λZ Z=>sortedAll_old) (r.pick _ λi hi=>by rw [length_map];exact hp i hi)
def M0(R:SR O P m ac s.heap)(ra:ai O s.heap P m a y)(e:(listOf y).bind qb=some d):wpAny O.M A (call (.builtin "sorted") [a] []) (aJ O P m s ac (.d d)) br s:=by
 refine aG e λJ e1 e2=>b8 e2 λeY e3=>?_;rw [om e1] at ra;cases e4:gm J with
 |some l=>
  rw [e4] at e3;obtain rfl:=ax e3;have:=vt e4;subst this;rw [length_map] at eY;exact EI (f:=id) (d0:=[]) (λZ Z q=>q) (λZ Z=>rfl) eY R ra λD r=>by rw [map_id];exact MW r
 |none=>
  rw [e4] at e3;refine cK e3 λl e5 e6=>?_;subst e6;have:=EE e5;subst this;rw [length_map] at eY;exact EI (d0:=([],[])) (λZ Z=>MR) MQ eY R ra λD r=>MZ r
end
abbrev has(l:List aa)(k:Str):Bool:=l.any λx=>decide (k=mk x)
def M1(l:List aa)(x:aa)(k:Str):has (l++[x]) k=(has l k||decide (k=mk x)):=by rw [has,List.any_append];simp
def M2(l:List aa)(x:aa):has l (mk x)=l.elem x:=by
 induction l with
 |nil=>rfl
 |cons y l ih=>
  have e:decide (mk x=mk y)=(x==y):=by
   refine Bool.eq_iff_iff.mpr ?_;rw [decide_eq_true_iff,beq_iff_eq];exact ⟨λe=>ae (λz:Str=>z.cps.toList) e,λe=>by rw [e]⟩
  rw [has,any_cons,List.elem_cons,e];show (_||has l (mk x))=_;rw [ih];cases x==y<;>rfl
def M3(l:List aa)(x:aa):(l++[x]).eraseDups.length=if has l (mk x)=true then l.eraseDups.length else l.eraseDups.length+1:=by
 rw [List.eraseDups_append,M2];show _=if l.elem x=true then _ else _
 cases e:l.elem x with
 |true=>rw [show [x].removeAll l=[] by simp [List.removeAll,List.elem_iff.mp e]];simp
 |false=>
  have:x∉l:=λq=>by rw [List.elem_iff.mpr q] at e;exact aj e.symm cx
  rw [show [x].removeAll l=[x] by simp [List.removeAll,this]];simp [List.eraseDups_cons]
def EJ:∀(l:List aa),l.eraseDups.length<=l.length:=λl=>by
 have:∀n,∀l:List aa,l.length<=n->l.eraseDups.length<=l.length:=λn=>by
  induction n with
  |zero=>intro l hl;rw [length_eq_zero_iff.mp (le_zero.mp hl)];exact aD _
  |succ n ih=>
   intro l hl;cases l with
   |nil=>exact aD _
   |cons x l=>
    rw [List.eraseDups_cons,length_cons,length_cons];have H:=length_filter_le (λb=> !b==x) l;rw [length_cons] at hl;have:=ih (l.filter λb=> !b==x) (by lia);exact (dN (af this H) _)
 exact this _ l (aD _)
section
abbrev Holds(prog:Program)(w:World)(h:Heap)(S:az)(l:List aa):Prop:=h.SetOf (strKind prog w) S (has l) l.eraseDups.length
def M4(W:WalksS prog w A.in1 bg fp wr G n Pv Sv)(S:az)(vu:S∉fp)(l:List aa)(hl:l.length=n)(M5:∀i v,Pv i v->∃t,v=.str (mk (l.getD i [])) t)(hb:n+1<scanBound)(d:Nat):
  ∀(i:Nat)(s:ay),i+d=n->Sv i s->Holds prog w s.heap S (l.take i)->(∀V,Moved (S::wr) G s V->Holds prog w V.heap S l->R (.ok (.ret .none)) V)->
   codeAny (model prog w) A (.builtin "set.update.loop" ⟨[.ref S,.ref bg],[]⟩) R s:=by
 have M6:S∉wr:=λh=>vu (W.sub _ h);have up:∀{s V:ay}{l'},Holds prog w s.heap S l'->Moved wr G s V->Holds prog w V.heap S l':=λz hm=>z.imp λZ z=>z.imp λZ z=>z.imp λZ z=>z.imp λZ z=>⟨hm.heap S _ M6 z.1,z.2⟩
 induction d with
 |zero=>
  intro i s hk yH hS hR;obtain rfl:i=n:=hk;refine codeAny_builtin F.entry_set_update_loop ?_;rw [Around.under_plainId F.plain_set_update_loop _];show wpAny _ A.in1 (pyNext (.ref bg)>>=_) _ _ s;refine an (W.done s _ _ yH λV hm=>?_);show wpAny _ A.in1 (ret Value.none) _ _ V;refine aQ (hR V (hm.mono λb hb=>mem_cons_of_mem _ hb) ?_);have:=up hS hm;rwa [List.take_of_length_le (Nat.le_of_eq hl)] at this
 |succ d ih=>
  intro i s hk yH hS hR;have cF:i<n:=hk▸Nat.lt_add_of_pos_right (succ_pos d);refine codeAny_builtin F.entry_set_update_loop ?_;rw [Around.under_plainId F.plain_set_update_loop _];show wpAny _ A.in1 (pyNext (.ref bg)>>=_) _ _ s;refine an (W.item i s _ _ cF yH λv V hP M7 hm=>?_);obtain ⟨t,rfl⟩:=M5 i v hP;show wpAny _ A.in1 (holding [Value.str (mk (l.getD i [])) t] (setAdd S (.str (mk (l.getD i [])) t))>>=_) _ _ V;refine an (dT ?_);unfold setAdd;refine dT ?_;refine an ((strKind prog w).pyHash (strKind_is prog w _ _) ?_);have M8:=dZ (dh (af (EJ (l.take i)) (List.length_take_le ..))) (dJ (Nat.succ_lt_succ cF) hb);refine wpAny_setAddHashed_of (strKind_is prog w _ _) rfl (show Holds prog w V.heap S _ from up hS hm) M8 λh' EK M9=>?_;have M':Holds prog w h' S (l.take (i+1)):=by
   have e:l.take (i+1)=l.take i++[l.getD i []]:=by
    rw [List.take_add_one,getD_eq_getElem?_getD,getElem?_eq_getElem ((Nat.le_trans cF (Nat.le_of_eq hl.symm)))];rfl
   refine SetOf_congr M9 (λk=>?_) ?_
   ·rw [e,M1]
   ·rw [e,M3]
  refine aQ ⟨plainId_quiet F.plain_set_update_loop _,ih (i+1) _ ((succ_add_eq_add_succ i d).trans hk) (W.frame _ V _ _ M7 (le_succ _) λb hb o e=>?_) M' λs'' Na Nb=>?_⟩
  ·rw [EK.2 b (λh:b=S=>vu (by rw [<-h];exact hb))];exact e
  ·refine hR s'' (Moved.trans W.gtrans ((hm.mono λb hb=>mem_cons_of_mem _ hb).then_heap (le_succ _) λb o hb e=>?_) Na) Nb
   rw [EK.2 b (λh:b=S=>hb (by rw [h];exact List.mem_cons_self))];exact e
end
section
def Nc{s V:ay}(H:V.gens=s.gens)(I:V.drawn=s.drawn)(h3:V.os=s.os):V={s with heap:=V.heap,toks:=V.toks}:=by
 rw [<-H,<-I,<-h3]
noncomputable abbrev EL (mN:Bool):Obj:={cls:=.type "set",dict:=none,data:=.set #[] 0 (.fresh 0 0 mN)}
def Nd(hh:A.handled=none)(hS:s.heap.get? a=some (EL mN))(hl:s.heap.IsList c items)(Nf:a≠c)(hz:l.length=items.size)(hi:∀(i:Nat) (v:aq),items[i]?=some v->∃t,v=.str (mk (l.getD i [])) t)(hb:items.size+1<scanBound)
  (h:∀(h':Heap)(tk:Nat),Holds prog w h' a l->(∀b o,b≠a->s.heap.get? b=some o->h'.get? b=some o)->wpAny (model prog w) A (ret Value.none) Q E {s with heap:=h',toks:=tk}):
  wpAny (model prog w) A (Builtin.«set.__init__» ⟨[.ref a,.ref c],[]⟩) Q E s:=by
 have cy:=hl;obtain ⟨⟨ι,μ,ν,ξ⟩,yI,eZ,nl,yJ⟩:=cy;subst eZ;subst yJ;have ο:=F.sub_list_set;have π:=F.sub_list_frozenset;have ix:(Value.type "list" ==Value.type "dict")=false:=by decide
 unfold Builtin.«set.__init__» noKeywords Builtin.Frozenset.updateFrom;generalize Ng:pyIter=PI
 wp_walk
 subst Ng;refine wpAny_pyIter_list hl (an (wpAny_runValue ?_));have gZ:s.heap.objs.size≠c:=cY (cW yI);have vu:a∉[s.heap.objs.size,c]:=λq=>(bA.mp q).elim (cX (cW hS)) λq=>Nf (cC.mp q);refine M4 ((Walks.list (by simp [hh]) _ c gZ.symm items).toS) a vu l hz hi hb _ 0 _ (Nat.zero_add _) ⟨⟨_,fh _ rfl,rfl,rfl⟩,hl.push _⟩ (SetOf_congr ((setObjOf_fresh (knd:=strKind prog w) mN).setOf (f' _ hS) (by decide)) (λZ=>rfl) rfl) λV hm Nh=>?_;show wpAny _ _ _ _ _ _;refine aQ ?_;show wpAny _ _ (ret Value.none) _ _ _;have e:V={s with heap:=V.heap,toks:=V.toks}:=Nc hm.gens hm.drawn hm.os;rw [e];exact h V.heap V.toks Nh λb o hn e=>hm.heap b o (λq=>(bA.mp q).elim hn λq=>cX (cW e) (cC.mp q)) (f' _ e)
set_option maxHeartbeats 3200000 in
def Ni(hh:A.handled=none)(hl:s.heap.IsList c items)(hz:l.length=items.size)(hi:∀(i:Nat) (v:aq),items[i]?=some v->∃t,v=.str (mk (l.getD i [])) t)(hb:items.size+1<scanBound)
  (h:∀(h':Heap)(tk:Nat),Holds prog w h' s.heap.objs.size l->(∀b o,s.heap.get? b=some o->h'.get? b=some o)->Q (.ref s.heap.objs.size) {s with heap:=h',toks:=tk}):
  wpAny (model prog w) A (call (.type "set") [.ref c]) Q E s:=by
 refine nV (F.called_set.mro) λZ tl ρ=>?_;have ς:=F.called_set.made;have ML:=F.called_set.sub;refine wpAny_call (codeAny_of_tree ?_);show wpAny _ _ (callAny (.type "set") _) _ _ _;refine aQ ⟨Code.quiet_builtin _ (by decide+kernel),codeAny_builtin F.entry_type_call ?_⟩;rw [Around.under_plain (weight_type_call_type "set" [.ref c] []) rfl];have H:=F.called_set.notType;have I:=F.called_set.canCreate;have υ:=F.typeCall_set_1 (.ref c)
 repeat (any_goals (first|assumption|wp_step))
 have cF:=hl.elim λZ x=>cW x.1;have Nj:∀b o,s.heap.get? b=some o->b≠s.heap.objs.size:=λb o e=>cX (cW e);refine codeAny_mono (code_set_new_1 (.ref c) (E:=E) (Q₁:=λobj bq=>obj=.ref s.heap.objs.size/\bq.heap.IsList c items/\(∃mN,bq.heap.get? s.heap.objs.size=some (EL mN))/\(∀b o,s.heap.get? b=some o->bq.heap.get? b=some o)/\(∀h' tk,({bq with heap:=h',toks:=tk}:ay)={s with heap:=h',toks:=tk})) λmN=>⟨rfl,hl.push _,⟨mN,fh _ rfl⟩,λb o e=>f' _ e,λZ Z=>rfl⟩) λr bq hr=>?_;cases r with
 |error e=>exact hr
 |ok fl=>
 cases fl with
 |ret obj=>
  refine pV hr λe1 ou Nk lQ vv=>?_;subst e1;refine Nk.elim λmN hS=>?_;have hT:bq.TypeIs (.ref s.heap.objs.size) "set" :=⟨_,hS,rfl⟩
  have φ:=F.called_set.init.lookup;have χ:=F.called_set.init.bind (.ref s.heap.objs.size)
  repeat (any_goals (first|assumption|wp_step))
  refine codeAny_mono (codeAny_call_builtin (R:=wants (λr cw=>r=.none/\Q (.ref s.heap.objs.size) cw) E) F.called_set.init.plain F.entry_set_init (check_set_init_1 hT ?_)) λNl cw yK=>?_
  ·refine Nd hh hS ou (cY cF) hz hi hb λh' tk hH hk=>?_
   rw [vv h' tk];exact aQ ⟨rfl,h h' tk hH λb o e=>hk b o (Nj b o e) (lQ b o e)⟩
  ·cases Nl with
   |error e=>exact yK
   |ok Nm=>
   cases Nm with
   |ret r=>
    refine aT yK λe hQ=>?_;subst e
    repeat (any_goals (first|assumption|wp_step))
   |_=>exact yK.elim
 |_=>exact hr.elim
end
section
def Nn(hr:bw 1 A)(R:SR O P m ac s.heap)(ra:ai O s.heap P m a y)(h:(listOf y).bind gm=some l)(h4:l.length<4000)
  (hq:∀v V,SR O P m ac V.heap->aK [] false m m s V->wpAny O.M A (call (.builtin "len") [v] []) (aJ O P m V ac (.d (.int l.eraseDups.length))) br V->Q v V):
  wpAny O.M A (call (.type "set") [a] []) Q br s:=by
 refine aG h λJ e1 e2=>?_;have e3:=vt e2;subst e3;obtain ⟨c,D,rfl,hn,hl,hz,r⟩:=qq ra e1;have gr:=r.len;rw [length_map] at gr;refine iS (Ni hr.hd hl (by rw [size_toArray,gr]) (λi v hv=>?_) (by rw [size_toArray,gr];unfold scanBound;lia) λh' tk hS hk gZ=>?_)
 ·rw [getElem?_toArray] at hv
  refine b6 (fB.mp hv) λhi ev=>?_;have:=r.at_ i (by rw [length_map];exact (af hi (cr gr)));rw [getD_eq_getElem?_getD,hv,getD_eq_getElem?_getD,getElem?_map,getElem?_eq_getElem ((Nat.le_trans hi (Nat.le_of_eq gr)):i<l.length)] at this;rw [getD_eq_getElem?_getD,getElem?_eq_getElem ((Nat.le_trans hi (Nat.le_of_eq gr)):i<l.length)];exact this.1
 ·have R':=R.grow hk gZ
  refine hq _ _ R' (.of_grow hk gZ rfl rfl) ?_;obtain ⟨o,es,ep,t,ho,hex,hd,_,_,_,hf,jA⟩:=hS;have:=EJ l;refine call_len_set ho hex hd hf (by rw [jA];lia) ?_;rw [jA];exact aJ.tok R' (.d (.int _ _)) _
def No(hr:bw 1 A)(hx:n9 b=some (x,f))(R:SR O P m ac s.heap)(ra:ai O s.heap P m a y)(h:nZ b y ac=some d):
  wpAny O.M A (call f [a] []) (aJ O P m s ac (.d d)) br s:=by
 cases b<;>cases hx
 ·exact Mz R ra h
 ·exact MB hr R ra h
 ·exact MC hr R ra h
 ·exact M0 R ra h
 ·exact MD R ra h
 ·exact ME R ra h
 ·exact MH R ra h
 ·exact MI R ra h
 ·exact MM R ra h
end
section
open PySem.StrLaws PySem.Builtin PySem.Builtin.Str
noncomputable def iz (a:aa):aa->Nat->Nat->Nat->aa
 |[],_,_,_=>[]
 |c::r,i,k,n=>if n=0 then [] else if k=0/\a.isPrefixOf (c::r)=true then i::iz a r (i+1) (a.length - 1) (n - 1) else iz a r (i+1) (k - 1) n
section
def sD:iz a l i k 0=[]:=by cases l<;>rfl
def yL(hn:n≠0)(hk:k=0)(h:a.isPrefixOf (c::r)=true):iz a (c::r) i k n=i::iz a r (i+1) (a.length - 1) (n - 1):=(bK hn).trans (bv ⟨hk,h⟩)
def sE(h:¬(k=0/\a.isPrefixOf (c::r)=true)):iz a (c::r) i k n=iz a r (i+1) (k - 1) n:=by
 by_cases e:n=0
 ·rw [e,sD,sD]
 ·exact (bK e).trans (bK h)
end
def dy(x:aa):(mk x).length=x.length:=size_toArray ..
def EM(e:l=x.drop i)(hi:i<=x.length):(i+a.length<=x.length/\Str.subAt (mk x) (mk a) i=true)↔a.isPrefixOf l=true:=by
 rw [subAt_eq,List.isPrefixOf_iff_prefix,List.prefix_iff_eq_take,beq_iff_eq,dy];rw [e];refine ⟨λh=>h.2.symm,λh=>⟨?_,h.symm⟩⟩;have:=ae List.length h;rw [length_take,length_drop] at this;exact Nat.add_comm a.length i▸(Nat.le_sub_iff_add_le hi).mp (this▸Nat.min_le_right ..)
section
variable{x a r:aa}
def sF(e:c::r=x.drop i):r=x.drop (i+1):=(ae List.tail e).trans List.tail_drop
def sG(hi:i+(c::r).length=x.length):i+1+r.length=x.length:=(succ_add_eq_add_succ i _).trans hi
def yM{l:aa}(hi:i+l.length=x.length):i<=x.length:=hi▸bz ..
end
def Np(ha:0<a.length):∀(i free:Nat)(lR:Array Nat),l=x.drop i->i+l.length=x.length->
  (forIn (List.range' i (l.length+1)) (lR,free) (occBody (mk x) (mk a) x.length n)).run.fst.toList=lR.toList++iz a l i (free - i) (n - lR.size):=by
 induction l with
 |nil=>
  intro i free lR e hi;rw [length_nil,List.range'_succ,forIn_cons,occBody,if_neg (λq=>Nat.lt_irrefl i (Nat.lt_of_lt_of_le (Nat.lt_add_of_pos_right ha) (Nat.le_trans (dy a▸q.1.2) (Nat.le_of_eq hi.symm))))];exact (append_nil _).symm
 |cons c r ih=>
  intro i free lR e hi;have sp:=EM (a:=a) e (yM hi);rw [length_cons,List.range'_succ,forIn_cons,occBody,dy];by_cases q:((lR.size<n/\free<=i)/\i+a.length<=x.length)/\Str.subAt (mk x) (mk a) i=true
  ·rw [if_pos q]
   refine (ih (i+1) (i+a.length) (lR.push i) (sF e) (sG hi)).trans ?_;rw [yL (Nat.sub_ne_zero_of_lt q.1.1.1) (Nat.sub_eq_zero_of_le q.1.1.2) (sp.mp ⟨q.1.2,q.2⟩),Nat.add_sub_add_left,Array.size_push,Array.toList_push,append_assoc]
   rfl
  ·rw [if_neg q]
   refine (ih (i+1) free lR (sF e) (sG hi)).trans ?_;by_cases hn:lR.size<n
   ·rw [sE λz=>q ⟨⟨⟨hn,Nat.le_of_sub_eq_zero z.1⟩,(sp.mpr z.2).1⟩,(sp.mpr z.2).2⟩]
    rfl
   ·rw [Nat.sub_eq_zero_of_le (le_of_not_lt hn),sD,sD]
def vw(ha:0<a.length)(n:Nat):occurrences (mk x) (mk a) 0 (mk x).length n=iz a x 0 0 n:=by
 rw [occ_eq,dy];exact Np ha 0 0 #[] rfl (Nat.zero_add _)
def oB(x:aa)(i j:Nat):strSub (mk x) i j=mk ((x.take j).drop i):=by
 refine Str.ext' (toList_inj.mp ?_);show (x.toArray.extract i j).toList=_;simp [drop_take]
def yN{x:aa}(h:i<=p):((x.take i).drop p).reverse=[]:=
 ae List.reverse (drop_of_length_le (af (List.length_take_le _ _) h))
def Nq(ha:0<a.length):∀(i p n:Nat),l=x.drop i->i+l.length=x.length->p<=x.length->l.length<=n->
  partsFrom (mk x) a.length p (iz a l i (p - i) n)=(cZ a ((x.take i).drop p).reverse l (p - i)).map mk:=by
 induction l with
 |nil=>
  intro i p n e hi hp hn;show [strSub (mk x) p (mk x).length]=[mk ((x.take i).drop p).reverse.reverse];rw [oB,dy,reverse_reverse,show i=x.length from hi]
 |cons c r ih=>
  intro i p n e hi hp hn;by_cases hk:p - i=0
  ·by_cases kI:a.isPrefixOf (c::r)=true
   ·have:=ih (i+1) (i+a.length) (n - 1) (sF e) (sG hi) ((EM e (yM hi)).mpr kI).1 (Nat.le_pred_of_lt hn)
    rw [Nat.add_sub_add_left,yN (Nat.add_le_add_left ha i)] at this;rw [yL (Nat.ne_of_gt (Nat.lt_of_lt_of_le (succ_pos _) hn)) hk kI,hk];refine Eq.trans ?_ (ae (List.map mk) (bv kI).symm);show strSub (mk x) p i::partsFrom (mk x) a.length (i+a.length) _=mk _::_;rw [this,oB,reverse_reverse]
   ·have:=ih (i+1) p n (sF e) (sG hi) hp (le_of_succ_le hn)
    rw [show p - (i+1)=0 from congrArg Nat.pred hk,List.take_add_one,show x[i]?=some c by rw [<-List.head?_drop,<-e];rfl,List.drop_append_of_le_length (by rw [length_take,Nat.min_eq_left (yM hi)];exact Nat.le_of_sub_eq_zero hk),List.reverse_append] at this;rw [sE λz=>kI z.2,hk];exact this.trans (ae (List.map mk) (bK kI).symm)
  ·refine (Nat.exists_eq_succ_of_ne_zero hk).elim λk gs=>?_
   have:=ih (i+1) p n (sF e) (sG hi) hp (le_of_succ_le hn);rw [show p - (i+1)=k from congrArg Nat.pred gs,yN (Nat.lt_of_sub_ne_zero hk)] at this;rw [sE λz=>hk z.1,gs,yN (Nat.le_of_lt (Nat.lt_of_sub_ne_zero hk))];exact this
def yO(ha:0<a.length)(hn:x.length<=n):partsFrom (mk x) a.length 0 (iz a x 0 0 n)=(cZ a [] x 0).map mk:=
 Nq ha 0 0 n rfl (Nat.zero_add _) (bN _) hn
def EN:∀{i k:Nat},l.length<a.length->iz a l i k n=[]:=by
 induction l with
 |nil=>exact λZ=>rfl
 |cons c r ih=>exact λh=>(sE λq=>not_le_of_lt h (List.isPrefixOf_iff_prefix.mp q.2).length_le).trans (ih (lt_of_succ_lt h))
def Nt[Decidable p][Decidable q]:1<=if p then 1 else if q then 2 else 4:=by
 by_cases h:p
 ·rw [if_pos h];exact aD _
 ·rw [if_neg h]
  by_cases h:q
  ·rw [if_pos h];decide
  ·rw [if_neg h];decide
def EO(h:a.all (λc=>decide (c<256))=true)(x:Str):decide (Str.strKind x<Str.strKind (mk a))=false:=by
 have:Str.strKind (mk a)=1:=bv (List.all_toArray.trans h);rw [this];exact mr (cg.mpr Nt)
def Nu(ha:0<a.length)(hk:a.all (λc=>decide (c<256))=true):Txt.split (mk x) (mk a)=(cZ a [] x 0).map mk:=by
 have whole:∀n,iz a x 0 0 n=[]->x.length<=n->[mk x]=(cZ a [] x 0).map mk:=λn e hn=>by
  rw [<-yO ha hn,e];show _=[strSub (mk x) 0 (mk x).length];rw [oB,dy,take_length];rfl
 unfold Txt.split;rw [EO hk,vw ha]
 split
 ·rename_i q
  rw [Bool.or_false,decide_eq_true_iff,dy,dy] at q;exact whole _ (EN q) (aD _)
 ·split
  ·rename_i q
   rw [dy] at q;exact whole _ (List.isEmpty_iff.mp q) (le_succ _)
  ·rw [partsBetween_eq,dy,dy,yO ha (le_succ _)]
def yP(ha:0<a.length):∀(i:Nat),iz a l i 0 1=match d5 a l i with|.ofNat j=>[j]|_=>[]:=by
 induction l with
 |nil=>
  intro i;have:a.isEmpty=false:=by cases a with|nil=>cases ha|cons _ _=>rfl
  show _=match (if a.isEmpty=true then (i:Int) else -1) with|.ofNat j=>[j]|_=>[]
  rw [this];rfl
 |cons c r ih=>
  intro i;show _=match (if a.isPrefixOf (c::r)=true then (i:Int) else d5 a r (i+1)) with|.ofNat j=>[j]|_=>[]
  by_cases h:a.isPrefixOf (c::r)=true
  ·rw [yL (by decide) rfl h,if_pos h,sD]
  ·rw [sE λq=>h q.2,if_neg h];exact ih (i+1)
def Nv(ha:0<a.length):Txt.find (mk x) (mk a)=d5 a x 0:=by
 unfold Txt.find;rw [vw ha,yP ha];have:∀(l:aa)(i:Nat),d5 a l i= -1\/∃j:Nat,d5 a l i=j:=λl=>by
  induction l with
  |nil=>exact λi=>(Decidable.em (a.isEmpty=true)).elim (λh=>.inr ⟨i,bv h⟩) λh=>.inl (bK h)
  |cons c r ih=>exact λi=>(Decidable.em (a.isPrefixOf (c::r)=true)).elim (λh=>.inr ⟨i,bv h⟩) λh=>(show d5 a (c::r) i=d5 a r (i+1) from bK h)▸ih _
 rcases this x 0 with h|⟨j,h⟩<;>rw [h]<;>rfl
def kJ(a x:aa):List aa:=match d5 a x 0 with
 |.ofNat i=>[x.take i,x.drop (i+a.length)]
 |_=>[x]
def Nw(ha:0<a.length)(hk:a.all (λc=>decide (c<256))=true):Txt.splitMax (mk x) (mk a) 1=(kJ a x).map mk:=by
 have Nx:limitOf (mk x) 1=1:=rfl;unfold Txt.splitMax;rw [EO hk,Nx,vw ha,yP ha];unfold kJ
 split
 ·rename_i q
  rw [Bool.or_false,decide_eq_true_iff,dy,dy] at q;have e:iz a x 0 0 1=[]:=EN q;rw [yP ha] at e;cases hf:d5 a x 0 with
  |ofNat j=>rw [hf] at e;contradiction
  |negSucc j=>rfl
 ·cases hf:d5 a x 0 with
  |negSucc j=>rfl
  |ofNat j=>
   show partsBetween (mk x) [j] (mk a).length=_;rw [partsBetween_eq];show [strSub (mk x) 0 j,strSub (mk x) (j+(mk a).length) (mk x).length]=_;rw [oB,oB,dy,dy,take_length]
   rfl
def EP(a b:aa):mk a++mk b=mk (a++b):=Str.ext' (by rw [Str.cps_append];simp [mk])
theorem vA(aA:aa):∀l:List aa,PySem.Str.join (mk aA) (l.map mk)=mk (bZ aA l)
 |[]=>rfl
 |[x]=>rfl
 |x::y::r=>by
  show mk x++mk aA++PySem.Str.join (mk aA) ((y::r).map mk)=mk (x++aA++bZ aA (y::r));rw [vA aA (y::r),EP,EP]
def EQ(aA:aa)(l:List aa):Txt.join (mk aA) (l.map mk)=mk (bZ aA l):=by
 show glued _ _=_;rw [glued_eq_join,vA]
def Ny(ha:0<a.length):Txt.replace (mk x) (mk a) (mk z)=mk (bZ z (cZ a [] x 0)):=by
 unfold Txt.replace;have h0:=eU.mpr (dy a▸cY ha);rw [h0,Bool.false_and,Bool.or_false,vw ha];have hp:=yO ha (le_succ x.length)
 split
 ·rename_i q
  rw [dy] at q;rw [List.isEmpty_iff.mp q] at hp;have hp:[strSub (mk x) 0 (mk x).length]=(cZ a [] x 0).map mk:=hp;rw [oB,dy,take_length] at hp;rw [<-vA,<-hp];rfl
 ·rw [partsBetween_eq,dy,dy,hp,glued_eq_join,vA]
def Nz(h:x.all (λc=>decide (c<128))=true):Txt.lower (mk x)=mk (x.map my):=by
 rw [PyProof.Rows.lower_ascii λc hc=>of_decide_eq_true (List.all_eq_true.mp h c hc)];refine Str.ext' (toList_inj.mp ?_);exact toList_map ..
def NA:∀c,c<127->32<=c->Unicode.isSpace c=fE c:=by decide+kernel
def NB(h:x.all (λc=>decide (32<=c/\c<127))=true):Txt.lstrip (mk x)=mk (x.dropWhile fE):=by
 have e:∀l:aa,(∀c∈l,32<=c/\c<127)->l.takeWhile Unicode.isSpace=l.takeWhile fE:=λl=>by
  induction l with
  |nil=>intro _;rfl
  |cons c r ih=>intro hl;rw [List.takeWhile_cons,List.takeWhile_cons,NA c (hl c (.head _)).2 (hl c (.head _)).1,ih λd hd=>hl d (.tail _ hd)]
 have yQ:stripLo Unicode.isSpace true (mk x)=(x.takeWhile fE).length:=by
  show (x.takeWhile Unicode.isSpace).length=_;rw [e x λc hc=>of_decide_eq_true (List.all_eq_true.mp h c hc)]
 have hd:x.drop (x.takeWhile fE).length=x.dropWhile fE:=by
  have:=List.takeWhile_append_dropWhile (p:=fE) (l:=x)
  conv=>lhs;arg 2;rw [<-this]
  exact drop_left
 unfold Txt.lstrip Txt.stripBy
 split
 ·rename_i q
  unfold stripSame at q;rw [yQ] at q;have:=bB.mp (f9.mp q).1;rw [this] at hd;rw [<-hd];rfl
 ·unfold PySem.stripped
  rw [yQ];show strSub (mk x) _ (mk x).length=_;rw [oB,dy,take_length,hd]
end
def yR{aA acc r:aa}{x:Nat}:cZ aA acc (x::r) 0=if aA.isPrefixOf (x::r) then acc.reverse::cZ aA [] r (aA.length - 1) else cZ aA (x::acc) r 0:=rfl
theorem yS(aA:aa):∀l:List aa,(bZ aA l).length<=(l.map List.length).sum+l.length*aA.length
 |[]=>bN _
 |[a]=>bz a.length (1*aA.length)
 |a::b::r=>by
  have:=yS aA (b::r);show (a++aA++bZ aA (b::r)).length<=_;rw [length_append,length_append,map_cons,sum_cons,length_cons,add_mul];lia
theorem yT(aA:aa):∀(l:List aa)(c:Nat),c∈bZ aA l->c∈aA\/∃a∈l,c∈a
 |[],c,h=>aj h cp
 |[a],c,h=>.inr ⟨a,.head _,h⟩
 |a::b::r,c,h=>by
  rcases bD.mp (h) with h|h
  ·exact (bD.mp h).elim (λh=>.inr ⟨a,.head _,h⟩) .inl
  ·exact (yT aA (b::r) c h).imp id λ⟨d,H,I⟩=>⟨d,.tail _ H,I⟩
theorem sH(aA:aa):∀(l acc:aa)(k:Nat),∀p∈cZ aA acc l k,p.length<=acc.length+l.length/\∀c∈p,c∈acc\/c∈l
 |[],acc,k,p,h=>by
  rw [mem_singleton.mp h];exact ⟨by simp,λc hc=>.inl (mem_reverse.mp hc)⟩
 |x::r,acc,k+1,p,h=>by
  refine aT (sH aA r acc k p h) λH I=>?_;exact ⟨by rw [length_cons];exact (af H (dc (bz _ _) _)),λc hc=>(I c hc).imp id (.tail _)⟩
 |x::r,acc,0,p,h=>by
  rw [yR] at h
  split at h
  ·rcases bA.mp h with e|h
   ·rw [e]
    exact ⟨by simp,λc hc=>.inl (mem_reverse.mp hc)⟩
   ·refine aT (sH aA r [] (aA.length - 1) p h) λH I=>?_
    exact ⟨by simp only [length_cons,length_nil] at H⊢;exact (af H (eI (bN _) (bz _ _))),λc hc=>(I c hc).elim (λq=>aj q cp) λq=>.inr (.tail _ q)⟩
  ·refine aT (sH aA r (x::acc) 0 p h) λH I=>?_
   exact ⟨by simp only [length_cons] at H⊢;lia,λc hc=>(I c hc).elim (λq=>(bA.mp q).elim (λe=>.inr (e▸.head _)) .inl) λq=>.inr (.tail _ q)⟩
theorem sI(aA:aa):∀(l acc:aa)(k:Nat),(cZ aA acc l k).length<=l.length+1
 |[],acc,k=>aD _
 |x::r,acc,k+1=>le_succ_of_le (sI aA r acc k)
 |x::r,acc,0=>by
  rw [yR]
  split
  ·exact dh (sI aA r [] _)
  ·exact le_succ_of_le (sI aA r (x::acc) 0)
theorem vB(aA:aa):∀(l acc:aa)(k:Nat),((cZ aA acc l k).map List.length).sum<=acc.length+l.length
 |[],acc,k=>by show acc.reverse.length+0<=_;rw [List.length_reverse];exact aD _
 |x::r,acc,k+1=>af (vB aA r acc k) (by rw [length_cons];exact (dc (bz _ _) _))
 |x::r,acc,0=>by
  rw [yR]
  split
  ·have:=vB aA r [] (aA.length - 1)
   rw [map_cons,sum_cons,List.length_reverse,length_cons];simp only [length_nil] at this;lia
  ·have:=vB aA r (x::acc) 0
   rw [length_cons] at this⊢;lia
def NC(aA x:aa):∀p∈kJ aA x,p.length<=x.length/\∀c∈p,c∈x:=by
 unfold kJ;cases d5 aA x 0
 ·intro p hp
  rcases bA.mp hp with e|hp
  ·rw [e];exact ⟨by rw [length_take];lia,λc hc=>mem_of_mem_take hc⟩
  ·rw [mem_singleton.mp hp];exact ⟨by rw [length_drop];exact (sub_le _ _),λc hc=>mem_of_mem_drop hc⟩
 ·intro p hp
  rw [mem_singleton.mp hp];exact ⟨aD _,λc hc=>hc⟩
section
theorem ER:∀{l:List (Str×Tok)}{L:List aa},l.map (·.1)=L.map mk->(∀p∈L,p.length<=lim/\∀c∈p,c<1114112)->aR O h X (strValues l) (L.map .str)
 |[],[],_,_=>rfl
 |(y,t)::l,p::L,e,hp=>by
  have e1:y=mk p:=(List.cons.inj e).1;exact ⟨_,_,rfl,⟨⟨t,by rw [e1]⟩,hp p (.head _)⟩,ER (List.cons.inj e).2 λq hq=>hp q (.tail _ hq)⟩
 |[],_::_,e,_=>nomatch e
 |_::_,[],e,_=>nomatch e
def aJ.texts{L:List aa}(R:SR O P m ac s.heap)(e:l.map (·.1)=L.map mk)(hp:∀p∈L,p.length<=lim/\∀c∈p,c<1114112)(hl:L.length<=lim)(t:Nat):
  aJ O P m s ac (.d (.list (L.map .str))) (.ref s.heap.objs.size) {s with heap:=s.heap.push {cls:=.type "list",data:=.seq (strValues l).toArray},toks:=t}:=
 aJ.grown R (fS _) (gF _) (.d (u5 R (ER e hp) (by rw [length_map];exact hl)))
def ND(R:SR O P m ac s.heap)(ra:ai O s.heap P m a (.d (.str x)))(rb:ai O s.heap P m b (.d (.str aA)))(h0:0<aA.length)(hz:x.length+2<=lim)(hk:aA.all (λc=>decide (c<256))=true):
  wpAny O.M A (call (.builtin "str.split") [a,b] []) (aJ O P m s ac (.d (.list ((cZ aA [] x 0).map .str)))) br s:=by
 obtain ⟨⟨t,rfl⟩,jj,oC⟩:=ra;obtain ⟨⟨u,rfl⟩,_,_⟩:=rb;have hy:((mk aA).length==0)=false:=by rw [dy];exact eU.mpr ((cY h0))
 have hp:∀p∈cZ aA [] x 0,p.length<=lim/\∀c∈p,c<1114112:=λp hp=>by
  refine aT (sH aA x [] 0 p hp) λH I=>?_;exact ⟨by simp only [length_nil] at H;lia,λc hc=>(I c hc).elim (λq=>aj q cp) (oC c)⟩
 have hl:=af (sI aA x [] 0) ((af (af (dc (by decide) _) hz) (aD _)));have hs:(mk x).length<=sizeLine:=by rw [dy,<-lx];exact jj
 have et:=Nu (x:=x) h0 hk;unfold Txt.split at et;cases H:(decide ((mk x).length<(mk aA).length)||decide (Builtin.Str.strKind (mk x)<Builtin.Str.strKind (mk aA)))
 ·rw [H,if_neg (by decide)] at et
  cases hf:(Builtin.Str.occurrences (mk x) (mk aA) 0 (mk x).length ((mk x).length+1)).isEmpty
  ·rw [hf,if_neg (by decide)] at et
   refine call_meets PySem.F.slot_str_split (typeIs_str _ _ _) PySem.F.entry_str_split (PySem.F.args_str_split_2 _ _) (meets_str_split_sep _ _ t u H hy hf hs (by rw [et,length_map,<-lx];exact hl)) ?_;rw [strsFrom_eq];exact aJ.texts R ((numbered_texts _ _).trans et) hp hl _
  ·rw [hf,if_pos rfl] at et
   exact call_meets PySem.F.slot_str_split (typeIs_str _ _ _) PySem.F.entry_str_split (PySem.F.args_str_split_2 _ _) (meets_str_split_not_found _ _ t u H hy hf) (aJ.texts (l:=[(mk x,t)]) R et hp hl s.toks)
 ·rw [H,if_pos rfl] at et
  exact call_meets PySem.F.slot_str_split (typeIs_str _ _ _) PySem.F.entry_str_split (PySem.F.args_str_split_2 _ _) (meets_str_split_cannot_occur _ _ t u H) (aJ.texts (l:=[(mk x,t)]) R et hp hl s.toks)
def NE(R:SR O P m ac s.heap)(ra:ai O s.heap P m a (.d (.str x)))(rb:ai O s.heap P m b (.d (.str aA)))(rc:ai O s.heap P m c (.d (.int 1)))(h0:0<aA.length)(hz:x.length+2<=lim)(hk:aA.all (λc=>decide (c<256))=true):
  wpAny O.M A (call (.builtin "str.split") [a,b,c] []) (aJ O P m s ac (.d (.list ((kJ aA x).map .str)))) br s:=by
 obtain ⟨⟨t,rfl⟩,jj,oC⟩:=ra;obtain ⟨⟨u,rfl⟩,_,_⟩:=rb;obtain ⟨v,rfl⟩:=rc;have hy:((mk aA).length==0)=false:=by rw [dy];exact eU.mpr ((cY h0))
 have hp:∀p∈kJ aA x,p.length<=lim/\∀c∈p,c<1114112:=λp hp=>by
  refine aT (NC aA x p hp) λH I=>?_;exact ⟨af H jj,λc hc=>oC c (I c hc)⟩
 have hl:(kJ aA x).length<=lim:=by unfold kJ;cases d5 aA x 0<;>exact Nat.le_of_ble_eq_true rfl
 have hs:(mk x).length<=sizeLine:=by rw [dy,<-lx];exact jj
 have lQ:(decide ((1:Int)< -(2 ^ 63:Int))||decide ((1:Int)>=2 ^ 63))=false:=by decide
 have et:=Nw (x:=x) h0 hk;unfold Txt.splitMax at et;cases H:(decide ((mk x).length<(mk aA).length)||decide (Builtin.Str.strKind (mk x)<Builtin.Str.strKind (mk aA)))
 ·rw [H,if_neg (by decide)] at et
  cases hf:(Builtin.Str.occurrences (mk x) (mk aA) 0 (mk x).length (limitOf (mk x) 1)).isEmpty
  ·rw [hf,if_neg (by decide)] at et
   refine call_meets PySem.F.slot_str_split (typeIs_str _ _ _) PySem.F.entry_str_split (PySem.F.args_str_split_3 _ _ _) (meets_str_split_sep_max _ _ 1 t u v lQ H hy hf hs (by rw [et,length_map,<-lx];exact hl)) ?_;rw [strsFrom_eq];exact aJ.texts R ((numbered_texts _ _).trans et) hp hl _
  ·rw [hf,if_pos rfl] at et
   exact call_meets PySem.F.slot_str_split (typeIs_str _ _ _) PySem.F.entry_str_split (PySem.F.args_str_split_3 _ _ _) (meets_str_split_max_not_found _ _ 1 t u v lQ H hy hf) (aJ.texts (l:=[(mk x,t)]) R et hp hl s.toks)
 ·rw [H,if_pos rfl] at et
  exact call_meets PySem.F.slot_str_split (typeIs_str _ _ _) PySem.F.entry_str_split (PySem.F.args_str_split_3 _ _ _) (meets_str_split_max_cannot_occur _ _ 1 t u v lQ H) (aJ.texts (l:=[(mk x,t)]) R et hp hl s.toks)
def NG(R:SR O P m ac s.heap)(ra:ai O s.heap P m a (.d (.str aA)))(hb:b=.ref c)(hc:s.heap.IsList c D.toArray\/IsTup s.heap c D.toArray)(r:aR O s.heap X D (L.map .str))(hs:L.length*(aA.length+1)<=8000000/\(L.map List.length).sum<=8000000):
  wpAny O.M A (call (.builtin "str.join") [a,b] []) (aJ O P m s ac (.d (.str (bZ aA L)))) br s:=by
 obtain ⟨⟨t,rfl⟩,jj,oC⟩:=ra;subst hb;have es:gm (L.map .str)=some L:=by
  clear r hs
  induction L with
  |nil=>rfl
  |cons x L ih=>show (gm (L.map .str)).map (x::·)=_;rw [ih];rfl
 refine aT (My r es) λH I=>?_;have eC:((L.map mk).map (·.length)).sum+(L.map mk).length*(mk aA).length<=16777216:=by
  rw [map_map,show (λx:Str=>x.length)∘ mk=List.length from funext λx=>dy x,length_map,dy];have:L.length*aA.length<=L.length*(aA.length+1):=fO _ (le_succ _);lia
 have hz:(bZ aA L).length<=lim:=by
  have H:=yS aA L;have I:L.length*aA.length<=L.length*(aA.length+1):=fO _ (le_succ _);show _<=16777216;lia
 have c6:∀t' k,aJ O P m s ac (.d (.str (bZ aA L))) (.str (Txt.join (mk aA) (L.map mk)) t') {s with toks:=k}:=λt' k=>by
  rw [EQ];exact aJ.tok R (.d (.str _ hz λc hc=>(yT aA L c hc).elim (oC c) λ⟨p,hp,hq⟩=>(I p hp).2 c hq)) k
 rcases hc with hc|hc
 ·exact join_list hc (by simpa using H) eC c6
 ·exact join_tuple hc (by simpa using H) eC c6
def NH(R:SR O P m ac s.heap)(ra:ai O s.heap P m a (.d (.str x)))(rb:ai O s.heap P m b (.d (.str y)))(h0:0<y.length):wpAny O.M A (call (.builtin "str.find") [a,b] []) (aJ O P m s ac (.d (.int (d5 y x 0)))) br s:=by
 obtain ⟨⟨t,rfl⟩,_⟩:=ra;obtain ⟨⟨u,rfl⟩,_⟩:=rb;refine SC.find ?_;rw [Nv h0];exact aJ.tok R (.d (.int _ _)) _
def NI(R:SR O P m ac s.heap)(ra:ai O s.heap P m a (.d (.str x)))(hx:x.all (λc=>decide (32<=c/\c<127))=true):wpAny O.M A (call (.builtin "str.lstrip") [a] []) (aJ O P m s ac (.d (.str (x.dropWhile fE)))) br s:=by
 obtain ⟨⟨t,rfl⟩,H,I⟩:=ra;refine SC.lstrip (λt' k=>?_) (by rw [dy,<-lx];exact H);rw [NB hx];have:=(List.dropWhile_suffix (p:=fE) (l:=x))
 exact aJ.tok R (.d (.str _ (af this.length_le H) λc hc=>I c (this.subset hc))) k
def NJ(R:SR O P m ac s.heap)(ra:ai O s.heap P m a (.d (.str x)))(hx:x.all (λc=>decide (c<128))=true):wpAny O.M A (call (.builtin "str.lower") [a] []) (aJ O P m s ac (.d (.str (x.map my)))) br s:=by
 obtain ⟨⟨t,rfl⟩,H,I⟩:=ra;have e:=Nz hx;refine SC.lower (by rw [e,dy,length_map];exact mr (cg.mpr (by rw [<-lx];exact H))) ?_;rw [e];refine aJ.tok R (.d (.str _ (by rw [length_map];exact H) λc hc=>?_)) _;obtain ⟨c',yU,rfl⟩:=bu.mp hc;have:c'<128:=cm (dA.mp hx c' yU);show (if _ then _ else _)<_
 split
 ·exact bx (Nat.add_lt_add_right this 32) (by decide)
 ·exact bx this (by decide)
theorem yV:∀ps:List (Int×Tok),IntsAre (ps.map λp=>Value.int p.1 p.2) (ps.map (·.1))
 |[]=>.nil
 |p::ps=>.cons p.1 p.2 (yV ps)
def NK(R:SR O P m ac s.heap)(ra:ai O s.heap P m a o)(ho:listOf o=some J)(hl:gD J=some l)(rb:ai O s.heap P m b (.d (.int i))):
  wpAny O.M A (call (.builtin "list.count") [a,b] []) (aJ O P m s ac (.d (.int (l.count i)))) br s:=by
 obtain ⟨c,D,rfl,hn,hc,hz,r⟩:=qq ra ho;obtain ⟨ps,rfl,e⟩:=vn r hl;obtain ⟨t,rfl⟩:=rb;exact count_list_ints hc (e▸yV ps) (aJ.tok R (.d (.int _ _)) _)
def NL(R:SR O P m ac s.heap)(ra:ai O s.heap P m a o)(ho:listOf o=some J)(hl:gD J=some l)(rb:ai O s.heap P m b (.d (.int i)))(hi:i∈l):
  wpAny O.M A (call (.builtin "list.index") [a,b] []) (aJ O P m s ac (.d (.int (l.idxOf i)))) br s:=by
 obtain ⟨c,D,rfl,hn,⟨⟨cls,dd,data,sl⟩,ES,eZ,k,hd⟩,hz,r⟩:=qq ra ho;simp only at eZ hd;subst eZ hd;refine bt (vn r hl) λps e0 e=>?_;obtain ⟨t,rfl⟩:=rb;have hI:IntsAre D l:=by rw [e0];exact e▸yV ps
 have hlen:=hI.length;have hj:=List.idxOf_lt_length_iff.mpr hi;have ψ:J.length<=16777216:=hz;have su:=r.len;refine call_meets PySem.F.slot_list_index ⟨_,ES,rfl⟩ PySem.F.entry_list_index (PySem.F.args_list_index_2 _ _)
  (SeqAt.list_indexAt c D.toArray k dd sl (.int i t) (isInt i) (l.idxOf i) (by simpa [hlen] using hj) (by lia) ?_ ?_) ⟨ES,λy hy=>(eq_isInt i t hI y (by simpa using hy)).at _ _,aJ.tok R (.d (.int _ _)) _⟩
 ·show isInt i D[l.idxOf i]=true
  rw [isInt_at i hI _ ((Nat.le_trans hj (Nat.le_of_eq hlen.symm))) hj];simpa using List.getElem_idxOf hj
 ·intro j NM cF
  show isInt i D[j]=false;rw [isInt_at i hI j (by simpa using NM) (by lia)];exact ne_of_lt_idxOf cF _
def NN(R:SR O P m ac s.heap)(ra:ai O s.heap P m a o)(ho:gn ac o=some al)(rb:ai O s.heap P m b (.d (.str k)))(rc:ai O s.heap P m c (.d d)):
  wpAny O.M A (call (.builtin "dict.get") [a,b,c] []) (aJ O P m s ac (.d ((dget al k).getD d))) br s:=by
 obtain ⟨z,ks,rfl,ly,hd,r,hz⟩:=vc R ra ho;obtain ⟨⟨t,rfl⟩,_⟩:=rb;refine call_meetsIn PySem.F.slot_dict_get hd.typeIs PySem.F.entry_dict_get (PySem.F.args_dict_get_3 _ _ _) (meets_dict_get_default (strKind O.prog O.w) z (so (mk k) t) ly c) ⟨_,hd.mapOf,?_⟩;refine (u9 k r).elim (λq=>?_) λq=>du q λv x hv e rv=>?_
 ·rw [q.1,q.2]
  exact aJ.tok R rc _
 ·rw [hv,e]
  exact aJ.tok R (.d rv) _
def NO(R:SR O P m ac s.heap)(ra:ai O s.heap P m a (.ref k))(hk:ac.Y k=some (.list J))(hl:J.length+1<=lim)(rb:ai O s.heap P m b (.d d)):
  wpAny O.M A (call (.builtin "list.append") [a,b] []) (aJ O P m s (ac.put k (.list (J++[d]))) (.d .none)) br s:=by
 obtain ⟨z,rfl,hm⟩:=ra;obtain ⟨D,n,e,hz,r⟩:=R.obj k _ _ hm hk;refine wpAny_list_append_plain ⟨n,e⟩ (λh' ⟨n',e'⟩ hs=>?_) (by rw [size_toArray,r.len,<-lx];exact hz);refine ⟨m,R.change hm hk (aV.no_lk rfl) hs (.list (by simpa using e') (by rw [length_append];exact hl) (aR.app (.cons (Em hm hs rb) .nil) (yB hm hs r))) (λq=>aj q cx),aK.change R hm hk (aV.no_lk rfl) hs,rfl⟩
def NP(R:SR O P m ac s.heap)(ra:ai O s.heap P m a (.ref k))(hk:ac.Y k=some (.list J))(hl:J.length+ys.length<=lim)(rb:ai O s.heap P m b (.d (.list ys))):
  wpAny O.M A (call (.builtin "list.extend") [a,b] []) (aJ O P m s (ac.put k (.list (J++ys))) (.d .none)) br s:=by
 obtain ⟨z,rfl,hm⟩:=ra;obtain ⟨D,n,e,hz,r⟩:=R.obj k _ _ hm hk;obtain ⟨c,us,rfl,hn,⟨n2,hc⟩,su,r2⟩:=rb;have hsz:D.toArray.size+us.toArray.size<=sizeLine:=by rw [size_toArray,size_toArray,r.len,r2.len,<-lx];exact hl
 refine call_meets PySem.F.slot_list_extend ⟨_,e,rfl⟩ PySem.F.entry_list_extend (PySem.F.args_list_extend_2 _ _) (AutoSeq1.list_extend_list_list_0 z D.toArray n c us.toArray n2 (extend_door hsz) (af (bz _ _) hsz) (le_succ_of_le hsz)) ⟨e,hc,?_⟩;have hs:=Heap.SameBut.update s.heap z (Obj.mapSeq λx=>x++us.toArray);have jY:(s.heap.update z (Obj.mapSeq λx=>x++us.toArray)).get? z=some (W.listOf (D++us).toArray (if (D.toArray++us.toArray).size==D.toArray.size then n else n+1)):=by
  rw [Heap.get?_update_self _ e (by rw [mapSeq_app];rfl),mapSeq_app];simp [W.listOf]
 refine ⟨m,R.change hm hk (aV.no_lk rfl) hs (.list jY (by rw [length_append];exact hl) (aR.app (yB hm hs r2) (yB hm hs r))) (λq=>aj q cx),aK.change R hm hk (aV.no_lk rfl) hs,rfl⟩
def NQ{x:PV}{i:aa}(h:Dd x=some i):x=.lit i:=by
 cases x<;>first|exact ae PV.lit (ax h)|cases h
def NR{x e:aa}{D:List aq}(hx:x.length<=1000000/\e.length<=4)(hn:NoneBooked O.hb)(R:SR O P m ac s.heap)(ra:ai O s.heap P m a (.d (.str x)))(rz:bL O s.heap P m D [.lit [13,10],.lit e]):
  wpAny O.M A (call (.builtin "str.replace") ([a]++D) []) (λv V=>∃w,(w=x\/w=bZ e (cZ [13,10] [] x 0))/\aJ O P m s ac (.d (.str w)) v V) br s:=by
 obtain ⟨⟨t,rfl⟩,H,I⟩:=ra;obtain ⟨_,_,rfl,⟨u,hu,rfl,_⟩,_,_,rfl,⟨v,hv,rfl,he⟩,rfl⟩:=rz;have same:∀t' k,∃w,(w=x\/w=bZ e (cZ [13,10] [] x 0))/\aJ O P m s ac (.d (.str w)) (.str (mk x) t') {s with toks:=k}:=λt' k=>⟨x,.inl rfl,aJ.tok R (.d (.str _ H I)) k⟩
 by_cases ET:u=v
 ·subst ET
  refine wpAny_call (codeAny_call_builtin PySem.F.slot_str_replace.plain PySem.F.entry_str_replace (PySem.F.slot_str_replace.check _ _ _ _ _ _ _ _ (typeIs_str _ _ _) (PySem.F.args_str_replace_3 _ _ _) ?_));show wpAny _ _ (if ((Builtin.Str.occurrences (mk x) (mk [13,10]) 0 (mk x).length ((mk x).length+1)).isEmpty||((mk [13,10]).length==0&&(mk e).length==0))=true then (do rule "str.replace.nothing";ret (.str (mk x) t)) else (do let same<-isSame (.str (mk [13,10]) u) (.str (mk e) u);if same=true then (do rule "str.replace.old-is-new";ret (.str (mk x) t)) else if Builtin.Str.tooLong ((mk x).length+(Builtin.Str.occurrences (mk x) (mk [13,10]) 0 (mk x).length ((mk x).length+1)).length*(mk e).length)=true then unsupported "str.replace:memory" else retStr (Builtin.Str.glued (mk e) (Builtin.Str.partsBetween (mk x) (Builtin.Str.occurrences (mk x) (mk [13,10]) 0 (mk x).length ((mk x).length+1)) (mk [13,10]).length)))) _ _ _
  split
  ·exact an (wpAny_rule (aQ (same t s.toks)))
  ·refine an ?_
   show wpAny _ _ (isSame.created _ u u) _ _ _;unfold isSame.created;rw [if_neg (by rw [Bool.or_self];simpa using hu),bv (by simp)];exact aQ (an (wpAny_rule (aQ (same t s.toks))))
 ·have hb:(mk x).length+((mk x).length+1)*(mk e).length<=16777216:=by
   rw [dy,dy];have:=mul_le_mul (dN hx.1 1) hx.2;have:=hx.1;lia
  obtain ⟨mc,hc,hm⟩:=hn;refine SC.replaceA hu hv ET hb (λt' k=>?_) ⟨mc,hc.keeps R.base,hm⟩;rw [Ny (by decide)];refine ⟨_,.inr rfl,aJ.tok R (.d (.str _ ?_ λc hc=>?_)) k⟩
  ·have e1:=yS e (cZ [13,10] [] x 0)
   have e2:=vB [13,10] x [] 0;have e3:=mul_le_mul (sI [13,10] x [] 0) hx.2;simp only [length_nil] at e2;show _<=16777216;lia
  ·rcases yT e _ c hc with q|⟨p,hp,q⟩
   ·exact he c q
   ·exact ((sH [13,10] x [] 0 p hp).2 c q).elim (λz=>aj z cp) (I c)
end
section
open PySem.Builtin.Re
noncomputable abbrev SM:=PySem.Sre.M
def qu{m:SM}(h:m.outcome.isSome=true):∀k,m.runFor k=m
 |0=>rfl
 |_+1=>bv h
def yW{m:SM}(h:m.outcome=none)(k:Nat):m.runFor (k+1)=m.step.runFor k:=bK (by rw [h];exact cx)
theorem sJ:∀(a b:Nat)(m:SM),m.runFor (a+b)=(m.runFor a).runFor b
 |0,b,m=>by rw [Nat.zero_add];rfl
 |a+1,b,m=>by
  rw [Nat.succ_add];by_cases h:m.outcome.isSome=true
  ·rw [qu h,qu h,qu h]
  ·have hn:m.outcome=none:=by cases e:m.outcome with|none=>rfl|some _=>rw [e] at h;exact aj rfl h
   rw [yW hn,yW hn,sJ a b]
def cn(m:SM)(n:Nat)(P:SM->Prop):Prop:=∃k,k<=n/\(m.runFor k).outcome.isSome=true/\P (m.runFor k)
def cn.step(h:m.outcome=none)(x:cn m.step n P):cn m (n+1) P:=by
 obtain ⟨k,H,I,h3⟩:=x;rw [<-yW h] at I h3;exact ⟨k+1,dh H,I,h3⟩
def cn.here(h:m.outcome.isSome=true)(p:P m):cn m n P:=⟨0,bN _,h,p⟩
def cn.mono(x:cn m n P)(h:n<=n')(hp:∀m,P m->P' m):cn m n' P':=
 let ⟨k,H,I,h3⟩:=x;⟨k,af H h,I,hp _ h3⟩
section
theorem EU:∀(t n:Nat)(m:SM){P:SM->Prop}{Q:SM->ay->Prop},cn m n P->n<=4*t->0<t->(∀m',m'.outcome.isSome=true->P m'->Q m' s)->wpAny M A (reDrive t m) Q E s
 |0,n,m,P,Q,_,_,h,_=>aj h (dK 0)
 |t+1,n,m,P,Q,⟨k,H,I,h3⟩,hn,_,hQ=>by
  show wpAny M A (if (m.runFor 4).outcome.isSome then pure (m.runFor 4) else do rule "sre.turn";reDrive t (m.runFor 4)) Q E s;by_cases h4:(m.runFor 4).outcome.isSome=true
  ·rw [if_pos h4]
   have e:m.runFor 4=m.runFor k:=by
    rcases Nat.le_total k 4 with q|q
    ·refine b6 (Nat.le.dest q) λd hd=>?_
     rw [<-hd,sJ,qu I]
    ·refine b6 (Nat.le.dest q) λd hd=>?_
     rw [<-hd,sJ,qu h4]
   rw [e];exact aQ (hQ _ I h3)
  ·rw [if_neg h4]
   have hk:4<k:=lt_of_not_le λq=>by
    refine b6 (Nat.le.dest q) λd hd=>?_;rw [<-hd,sJ,qu I] at h4;exact h4 I
   refine an (wpAny_rule (EU t (n - 4) (m.runFor 4) ⟨k - 4,by lia,?_⟩ (by lia) (by lia) hQ));rw [<-sJ,add_sub_cancel' (Nat.le_of_lt hk)];exact ⟨I,h3⟩
theorem yX{c:Nat->Bool}{nm:Nat->String}(h:Q ⟨⟩ s):∀l:aa,wpAny M A (forIn l PUnit.unit λi Z=>if c i=true then (do rule (nm i);pure (ForInStep.yield PUnit.unit)) else pure (ForInStep.yield PUnit.unit)) Q E s
 |[]=>by rw [List.forIn_nil];exact aQ h
 |i::l=>by
  rw [forIn_cons];refine an ?_
  split
  ·exact an (wpAny_rule (aQ (yX h l)))
  ·exact aQ (yX h l)
def EV(x:cn m n P)(hn:n<=2 ^ 60)(h:∀m',P m'->(m'.outcome=some .matched/\Q (some m') s)\/(m'.outcome=some .failed/\Q none s)):wpAny M A (reRunToEnd m) Q E s:=by
 refine an (EU (2 ^ 64) n m x (by lia) (by lia) λm' Z hp=>?_);refine an (yX ?_ _);rcases h m' hp with ⟨e,q⟩|⟨e,q⟩<;>rw [e]<;>exact aQ q
end
noncomputable def bY:Nat->aa
 |0=>[14,4,0,1,1,6,1,16,46,1]
 |1=>[14,9,4,1,2,16,10,16,13,0,7,7,16,13,16,10,15,18,5,16,10,15,13,11,16,13,5,5,0,16,10,1,15,2,0,1]
 |2=>[14,10,4,1,1,22,0,31,16,127,0,13,7,22,0,31,16,127,0,1]
 |_=>[14,14,4,1,1,9,4294966783,0,0,2147483648,0,0,0,0,0,13,11,9,4294966783,0,0,2147483648,0,0,0,0,0,1]
def j0(h:Heap)(a:az)(code:aa):Prop:=∃o p fl c oc n,h.get? a=some o/\o.cls=.type "re.Pattern" /\o.dict=none/\o.data=.fields #[p,fl,.int 0 0,.none,.none,.ref c,.int 0 0]/\h.get? c=some oc/\oc.data=.seq (code.map λw=>Value.int (w:Nat) 0).toArray n
def lS(O:Wd):Prop:=∀k,k<4->j0 O.hb (O.patA k) (bY k)
def j0.keeps{code:aa}(x:j0 h a code)(hk:∀a o,h.get? a=some o->h'.get? a=some o):j0 h' a code:=by
 obtain ⟨o,p,fl,c,oc,n,H,I,h3,h4,h5,h6⟩:=x;exact ⟨o,p,fl,c,oc,n,hk _ _ H,I,h3,h4,hk _ _ h5,h6⟩
abbrev yZ(a:az)(x:aa)(t:Tok)(code:aa)(lim:Nat):ReTarget:={pattern:=.ref a,string:=.str (mk x) t,code:=code.toArray,text:=x.toArray,kind:=0,groups:=0,pos:=0,lim:=lim}
section
variable{code x:aa}
def EW(code:aa):((code.map λw=>Value.int (w:Nat) 0).toArray.map reRawOf).map (·.toNat)=code.toArray:=by
 rw [List.map_toArray,List.map_toArray,map_map,map_map];exact ae List.toArray ((eR λZ Z=>rfl).trans (map_id _))
def EX(p:j0 s.heap a code)(h:Q (yZ a x t code x.length) s):wpAny M A (reWholeTarget (.ref a) (.str (mk x) t)) Q E s:=by
 obtain ⟨o,pt,fl,c,oc,n,H,I,h3,h4,h5,h6⟩:=p;refine an (an (wpAny_load H ?_));rw [h4];refine aQ (an (aQ (an (aQ ?_))));refine an (an (wpAny_seqItems h5 h6 (aQ (aQ ?_))));show Q {pattern:=.ref a,string:=.str (mk x) t,code:=((code.map λw=>Value.int (w:Nat) 0).toArray.map reRawOf).map (·.toNat),text:=x.toArray,kind:=0,groups:=0,pos:=0,lim:=x.toArray.size} s;rw [EW,size_toArray];exact h
end
end
section
open PySem.Builtin.Re
noncomputable def eL (code:aa) (t:Array Nat) (y0:Nat) (lim s:Nat) (first:Bool) (pc pos:Nat) (seen:Sre.Seen):SM:=
 {code:=code.toArray,text:=t,lim:=lim,start:=s,lastStart:=lim,pc:=pc,pos:=pos,handed:=s,outermost:=first,marks:= #[],frames:=[{wait:=.nextStart,pc:=y0,pos:=s,outermost:=first}],weight:=1,seen:=seen}
noncomputable def eE (m:SM) (b:Bool):SM:={m with answer:=some b}
def iA(r:Option (Nat×Nat))(m:SM):Prop:=match r with
 |some (p,q)=>m.outcome=some .matched/\m.start=p/\m.handed=q
 |none=>m.outcome=some .failed
def cn.to(e:m.step=m')(h:m.outcome=none)(x:cn m' n P):cn m (n+1) P:=.step h (e.symm▸x)
def cn.le(x:cn m n P)(h:n<=n'):cn m n' P:=x.mono h λZ z=>z
def oD{x:aa}:x.toArray.getD s 0=x.getD s 0:=by rw [Array.getD_eq_getD_getElem?,getElem?_toArray,getD_eq_getElem?_getD]
def EY{x:aa}(h:i<x.length):x.getD i 0=x[i]:=(getD_eq_getElem?_getD ..).trans (ae (Option.getD · 0) (getElem?_eq_getElem h))
def EZ{x:aa}{C:Prop}(e:c::r=x.drop s)(k:s<x.length->x[s]?=some c->x.getD s 0=c->r=x.drop (s+1)->C):C:=
 have h:=(List.head?_drop ..).symm.trans (ae List.head? e.symm)
 k (fB.mp h).1 h ((getD_eq_getElem?_getD ..).trans (ae (Option.getD · 0) h)) ((ae List.tail e).trans (List.tail_drop ..))
section
def E0{code:aa}{y0 lim pc pos q:Nat}(h:∀m,iA (some (s,q)) m->P m):cn (eE {eL code t y0 lim s b pc pos sn with handed:=q} true) (n+2) P:=by
 refine cn.step rfl (cn.step rfl (cn.here ?_ (h _ ?_)))
 ·rfl
 ·exact ⟨rfl,rfl,rfl⟩
def E1(H:∀sn,(s==0||t.getD (s - 1) 0==10)=true->cn (eL (bY 0) t 5 t.size s b 7 s sn) n P)(h0:∀sn,(s==0||t.getD (s - 1) 0==10)=false->cn (eE (eL (bY 0) t 5 t.size s b 5 s sn) false) n P):cn (eL (bY 0) t 5 t.size s b 5 s sn) (n+1) P:=by
 refine .to (rfl:_=(if (s==0||t.getD (s - 1) 0==10)=true then eL (bY 0) t 5 t.size s b 7 s ((sn.add 6).add 44) else eE (eL (bY 0) t 5 t.size s b 5 s ((sn.add 6).add 44)) false)) rfl ?_;by_cases q:(s==0||t.getD (s - 1) 0==10)=true
 ·rw [if_pos q];exact H _ q
 ·rw [if_neg q];exact h0 _ (eq_false_iff.mpr q)
def E2(H:∀sn,s<t.size->(t.getD s 0==46)=true->cn (eL (bY 0) t 5 t.size s b 9 (s+1) sn) n P)(h0:∀sn,(s<t.size->(t.getD s 0==46)=false)->cn (eE (eL (bY 0) t 5 t.size s b 7 s sn) false) n P):cn (eL (bY 0) t 5 t.size s b 7 s sn) (n+1) P:=by
 refine .to (by kernel_rfl:_=(if s>=t.size then eE (eL (bY 0) t 5 t.size s b 7 s (sn.add 16)) false else match (t.getD s 0==46) with
   |false=>eE (eL (bY 0) t 5 t.size s b 7 s (sn.add 16)) false
   |true=>eL (bY 0) t 5 t.size s b 9 (s+1) (sn.add 16))) rfl ?_
 by_cases q:s>=t.size
 ·rw [if_pos q];exact h0 _ λz=>aj z (cg.mpr q)
 ·rw [if_neg q]
  cases z:(t.getD s 0==46) with
  |false=>exact h0 _ λZ=>z
  |true=>exact H _ (lt_of_not_le q) z
def NS(h:∀m,iA (some (s,s+1)) m->P m):cn (eL (bY 0) t 5 t.size s b 9 (s+1) sn) (n+3) P:=
 .to (by cases b<;>rfl:_=eE {eL (bY 0) t 5 t.size s b 9 (s+1) (sn.add 1) with handed:=s+1} true) rfl (E0 h)
def E3(H:∀sn,s<t.size->cn (eL (bY 0) t 5 t.size (s+1) false 5 (s+1) sn) n P)(h0:¬s<t.size->∀m,iA none m->P m):cn (eE (eL (bY 0) t 5 t.size s b pc s sn) false) (n+2) P:=by
 refine .to (rfl:_=(if s<t.size then eL (bY 0) t 5 t.size (s+1) false 5 (s+1) sn else {eL (bY 0) t 5 t.size s b 5 s sn with frames:=[],weight:=0,answer:=some false})) rfl ?_;by_cases q:s<t.size
 ·rw [if_pos q];exact (H sn q).le (le_succ n)
 ·rw [if_neg q];exact .step rfl (.here rfl (h0 q _ rfl))
noncomputable def lT:Bool->aa->Nat->Option (Nat×Nat)
 |_,[],_=>none
 |st,c::r,i=>if (st&&c==46)=true then some (i,i+1) else lT (c==10) r (i+1)
noncomputable def kK (x:aa) (s:Nat):Bool:=s==0||x.getD (s - 1) 0==10
def NT{st:Bool}{r:aa}(h:(st&&c==46)=true):lT st (c::r) i=some (i,i+1):=bv h
def NU{st:Bool}{r:aa}(h:(st&&c==46)=false):lT st (c::r) i=lT (c==10) r (i+1):=bK (h▸cx)
theorem E4:∀(l:aa)(s:Nat)(b:Bool)(sn:Sre.Seen){P:SM->Prop},l=x.drop s->(∀m,iA (lT (kK x s) l s) m->P m)->
  cn (eL (bY 0) x.toArray 5 x.toArray.size s b 5 s sn) (5*l.length+8) P
 |[],s,b,sn,P,e,h=>by
  have no:∀pc sn n,cn (eE (eL (bY 0) x.toArray 5 x.toArray.size s b pc s sn) false) (n+2) P:=λpc sn n=>E3 (λZ q=>aj q (cg.mpr (List.drop_eq_nil_iff.mp e.symm))) λZ=>h;exact E1 (λsn Z=>E2 (λZ q=>aj q (cg.mpr (List.drop_eq_nil_iff.mp e.symm))) λsn Z=>no 7 sn 4) λsn Z=>no 5 sn 5
 |c::r,s,b,sn,P,e,h=>EZ e λlt hs hc er=>by
  have nx:=ae (·==10) hc;have gc:=oD.trans hc;have go:∀pc sn n,(kK x s&&c==46)=false->cn (eE (eL (bY 0) x.toArray 5 x.toArray.size s b pc s sn) false) (5*r.length+n+10) P:=λpc sn n hn=>
   (E3 (λsn Z=>E4 r (s+1) false sn er λm hm=>h m (by rw [NU hn,<-nx];exact hm)) λq=>aj lt q).le (dN (bz ..) 10)
  refine E1 (λsn q=>E2 (λsn Z q2=>?_) λsn q2=>go 7 sn 1 (by rw [<-gc,q2 lt,Bool.and_false])) λsn q=>go 5 sn 2 (by rw [oD] at q;rw [kK,q,Bool.false_and]);refine NS λm hm=>h m ?_;rw [NT (by rw [kK,<-oD,q,<-gc,q2];rfl)];exact hm
end
def NV(hs:s<=x.length)(h:∀m,iA (lT (kK x s) (x.drop s) s) m->P m):
  cn (Sre.forSearch (bY 0).toArray x.toArray 0 s x.length false) (5*x.length+9) P:=by
 have e:Sre.forSearch (bY 0).toArray x.toArray 0 s x.length false=(if (decide (s>x.length)||decide (x.length - s<1))=true then eE {code:=(bY 0).toArray,text:=x.toArray,lim:=x.length,start:=s,pc:=5,pos:=s,handed:=s,marks:= #[],seen:=({}:Sre.Seen).add 14} false
   else eL (bY 0) x.toArray 5 x.length s true 5 s (({}:Sre.Seen).add 14)):=rfl
 rw [e];by_cases q:(decide (s>x.length)||decide (x.length - s<1))=true
 ·rw [if_pos q]
  have g:=cg.mpr hs;rw [decide_eq_false g] at q;rw [drop_of_length_le (Nat.le_of_sub_eq_zero (lt_one_iff.mp (of_decide_eq_true q)))] at h;exact .step rfl (.here rfl (h _ (rfl:_=some Sre.Outcome.failed)))
 ·rw [if_neg q]
  exact (E4 (x.drop s) s true (({}:Sre.Seen).add 14) rfl h).le (le_succ_of_le (dN (fO 5 ((length_drop ..).symm▸sub_le ..)) 8))
end
section
open PySem.Builtin.Re
noncomputable def kL (f:Nat->Bool):aa->Nat->Option Nat
 |[],_=>none
 |c::r,i=>if f c=true then some i else kL f r (i+1)
def NW{m:SM}{s fuel:Nat}{seen s1:Sre.Seen}{b:Bool}(h:¬s>=m.lim)(q:Sre.inSet m.code (m.text.getD s 0) m.code.size 5 true seen=.ok (b,s1)):m.admitted (fuel+1) s seen=cond b (.ok (some s,s1)) (m.admitted fuel (s+1) s1):=(bK h).trans (by rw [q];cases b<;>rfl)
theorem E5{m:SM}{x:aa}(ht:m.text=x.toArray)(hl:m.lim=x.length)(hf:∀c∈x,∀seen,∃jk,Sre.inSet m.code c m.code.size 5 true seen=.ok (f c,jk)):
  ∀(l:aa)(s fuel:Nat)(seen:Sre.Seen),l=x.drop s->l.length<fuel->∃jk,m.admitted fuel s seen=.ok (kL f l s,jk)
 |[],s,fuel+1,seen,e,_=>⟨seen,bv (hl▸List.drop_eq_nil_iff.mp e.symm)⟩
 |c::r,s,fuel+1,seen,e,hn=>EZ e λH Z h3 er=>(hf c (mem_of_mem_drop (e▸List.Mem.head r)) seen).elim λs1 q1=>by
  have a:=NW (fuel:=fuel) (hl▸Nat.not_le.mpr H) ((by rw [ht,oD,h3];exact q1):Sre.inSet m.code (m.text.getD s 0) m.code.size 5 true seen=.ok (f c,s1));cases q:f c with
  |true=>exact ⟨s1,a.trans (q▸ae (λz=>Except.ok (z,s1)) (bv q).symm)⟩
  |false=>exact (E5 ht hl hf r (s+1) fuel s1 er (lt_of_succ_lt_succ hn)).imp λz h=>a.trans (q▸h.trans (ae (λy=>Except.ok (y,z)) (bK (q▸cx)).symm))
def y9(H:m.frames=[])(I:m.outcome=none)(h:∀m,iA none m->P m):cn (eE m false) (n+1) P:=by
 have e:(eE m false).step.outcome=some .failed:=by
  unfold Sre.M.step;rw [show (eE m false).outcome=none from I,show (eE m false).answer=some false from rfl,show (eE m false).frames=[] from H]
  rfl
 exact cn.step I (cn.here (ae Option.isSome e) (h _ e))
def E6{m:SM}{x:aa}(ht:m.text=x.toArray)(hl:m.lim=x.length)(hs:s<=x.length)(hh:m.hasFirstSet=true)(hf:∀c∈x,∀seen,∃jk,Sre.inSet m.code c m.code.size 5 true seen=.ok (f c,jk))(h4:m.frames=[])(h5:m.outcome=none)
  (mJ:kL f (x.drop s) s=none->∀m,iA none m->P m) (NX:∀p sn,kL f (x.drop s) s=some p->cn (({m with mustAdvance:=false,seen:=sn}:SM).attemptAt p true) (n+1) P):cn (m.attemptFrom s true) (n+1) P:=
 (E5 ht hl hf (x.drop s) s (m.lim+1 - s) m.seen rfl (by rw [length_drop,hl,Nat.succ_sub hs];exact lt_succ_self _)).elim λs1 q=>by
  unfold Sre.M.attemptFrom;rw [hh,q];cases hq:kL f (x.drop s) s with
  |none=>exact y9 h4 h5 (mJ hq)
  |some p=>exact NX p s1 hq
noncomputable def oE (c:Nat):Bool:=c==10||c==13
def NY(c:Nat)(seen:Sre.Seen):∃jk,Sre.inSet (bY 1).toArray c (bY 1).toArray.size 5 true seen=.ok (oE c,jk):=by
 have e:Sre.inSet (bY 1).toArray c (bY 1).toArray.size 5 true seen=(if (c==10)=true then .ok (true,seen.add 16) else if (c==13)=true then .ok (true,(seen.add 16).add 16) else .ok (false,((seen.add 16).add 16).add 0)):=by kernel_rfl
 rw [e,oE];cases c==10<;>cases c==13<;>exact ⟨_,rfl⟩
def NZ(h:(decide (31<c)&& !(c==127))=true)(seen:Sre.Seen):∃jk,Sre.inSet (bY 2).toArray c (bY 2).toArray.size 5 true seen=.ok (false,jk):=by
 have e:Sre.inSet (bY 2).toArray c (bY 2).toArray.size 5 true seen=(if (decide (0<=c)&&decide (c<=31))=true then .ok (true,seen.add 22) else if (c==127)=true then .ok (true,(seen.add 22).add 16) else .ok (false,((seen.add 22).add 16).add 0)):=by kernel_rfl
 refine aT (f9.mp h) λH I=>?_;have H:=cm H;rw [e,(not_eq_true' _).mp I,if_neg (by rw [and_eq_true];exact λq=>aj (cm q.2) ((not_le_of_lt H))),bK (by decide)];exact ⟨_,rfl⟩
def N4:∀c,c<256->((decide (31<c)||c==9)&& !(c==127))=true->((bY 3).toArray.getD (5+(1+c / 32)) 0).testBit (c % 32)=false:=by decide+kernel
def N5(h:((decide (31<c)||c==9)&& !(c==127))=true)(seen:Sre.Seen):∃jk,Sre.inSet (bY 3).toArray c (bY 3).toArray.size 5 true seen=.ok (false,jk):=by
 have e:Sre.inSet (bY 3).toArray c (bY 3).toArray.size 5 true seen=(if (decide (c<256)&&((bY 3).toArray.getD (5+(1+c / 32)) 0).testBit (c % 32))=true then .ok (true,seen.add 9) else .ok (false,(seen.add 9).add 0)):=by kernel_rfl
 rw [e,if_neg]
 ·exact ⟨_,rfl⟩
 ·rw [and_eq_true]
  intro q;rw [N4 c (of_decide_eq_true q.1) h] at q;exact aj q.2 (by decide)
theorem E7:∀{l:aa}{i:Nat},(∀c∈l,f c=false)->kL f l i=none
 |[],_,_=>rfl
 |c::r,i,h=>(bK (h c (.head _)▸cx)).trans (E7 λd hd=>h d (.tail _ hd))
def N6(hk:k=2\/k=3){x:aa}(hx:∀c∈x,∀seen,∃jk,Sre.inSet (bY k).toArray c (bY k).toArray.size 5 true seen=.ok (false,jk))(h:∀m,iA none m->P m):
  cn (Sre.forSearch (bY k).toArray x.toArray 0 0 x.length false) 1 P:=by
 have main:∀m:SM,m.text=x.toArray->m.lim=x.length->m.code=(bY k).toArray->m.frames=[]->m.outcome=none->cn (m.attemptFrom 0 true) 1 P:=λm H I h3 h4 h5=>
  E6 H I (bN _) (by unfold Sre.M.hasFirstSet;rw [h3];rcases hk with rfl|rfl<;>rfl) (h3▸hx) h4 h5 (λZ=>h) λp sn e=>av ((E7 λZ Z=>rfl).symm.trans e)
 rcases hk with rfl|rfl
 all_goals
  show cn (if _ then _ else _) 1 P
  split
  ·exact y9 rfl rfl h
  ·exact main _ rfl rfl rfl rfl rfl
end
section
open PySem.Builtin.Re
def fW(t:Array Nat)(lim p:Nat)(b:Bool)(jl pc pos hd:Nat)(sn:Sre.Seen):SM:=
 {eL (bY 1) t 10 lim p b pc pos sn with handed:=hd,frames:=[{wait:=.nextBranch,pc:=jl,pos:=p,outermost:=b},{wait:=.nextStart,pc:=10,pos:=p,outermost:=b}],weight:=2}
def oG(t:Array Nat)(lim p:Nat)(b:Bool)(pc pos:Nat)(sn:Sre.Seen):SM:=
 {fW t lim p b 23 pc pos pos sn with outermost:=false,frames:={wait:=.lookNot,pc:=26,pos:=pos,outermost:=b}::(fW t lim p b 23 pc pos pos sn).frames,weight:=3}
section
variable{lim p pos hd:Nat}
def qw(e:(fW t lim p b jl pc pos hd sn).step=(if pos>=lim then eE (fW t lim p b jl pc pos hd kM) false else match (t.getD pos 0==ch) with|false=>eE (fW t lim p b jl pc pos hd kM) false|true=>fW t lim p b jl (pc+2) (pos+1) hd kM))
  (H:pos<lim->t.getD pos 0=ch->cn (fW t lim p b jl (pc+2) (pos+1) hd kM) n P) (h0:¬(pos<lim/\t.getD pos 0=ch)->cn (eE (fW t lim p b jl pc pos hd kM) false) n P):cn (fW t lim p b jl pc pos hd sn) (n+1) P:=by
 refine .to e rfl ?_;by_cases q:pos>=lim
 ·rw [if_pos q]
  exact h0 λz=>aj z.1 (cg.mpr q)
 ·rw [if_neg q]
  cases z:(t.getD pos 0==ch) with
  |false=>exact h0 λy=>aj y.2 (eU.mp z)
  |true=>exact H (lt_of_not_le q) (bB.mp z)
def za(e:(fW t lim p b jl pc pos hd sn).step=fW t lim p b jl 35 pos hd (sn.add 15))(h:∀m,iA (some (p,pos)) m->P m):cn (fW t lim p b jl pc pos hd sn) (n+6) P:=
 .to e rfl<|.to (by cases b<;>kernel_rfl:_=eE {fW t lim p b jl 35 pos hd ((sn.add 15).add 1) with handed:=pos} true) rfl<|.to (by kernel_rfl:_=eE {eL (bY 1) t 10 lim p b jl p ((sn.add 15).add 1) with handed:=pos} true) rfl ((E0 h).le (le_add_left 2 (n+1)))
noncomputable def mO (t:Array Nat) (lim p:Nat):Nat:=if t.getD p 0=13/\p+1<lim/\t.getD (p+1) 0=10 then p+2 else p+1
def N7(hp:p<lim)(hc:t.getD p 0=13\/t.getD p 0=10)(h:∀m,iA (some (p,mO t lim p)) m->P m):cn (eL (bY 1) t 10 lim p b 10 p sn) 30 P:=by
 by_cases I:t.getD p 0=13/\p+1<lim/\t.getD (p+1) 0=10
 ·rw [mO,if_pos I] at h
  refine .to (by kernel_rfl:_=fW t lim p b 11 12 p p (sn.add 7)) rfl ?_;refine qw (ch:=13) (kM:=(sn.add 7).add 16) (by kernel_rfl) (λZ Z=>?_) λq=>aj ⟨hp,I.1⟩ q;exact qw (kM:=((sn.add 7).add 16).add 16) (by kernel_rfl) (λZ Z=>za (by kernel_rfl) h) λq=>aj I.2 q
 ·rw [mO,if_neg I] at h
  have N8:∀hd sn,t.getD p 0=13->cn (fW t lim p b 23 24 p hd sn) 20 P:=λhd sn cG=>by
   refine qw (kM:=sn.add 16) (by kernel_rfl) (λZ Z=>?_) λq=>aj ⟨hp,cG⟩ q;refine .to (by kernel_rfl:_=oG t lim p b 29 (p+1) ((sn.add 16).add 5)) rfl ?_;have e:(oG t lim p b 29 (p+1) ((sn.add 16).add 5)).step=eE (oG t lim p b 29 (p+1) (((sn.add 16).add 5).add 16)) false:=by
    refine (by kernel_rfl:_=(if p+1>=lim then eE (oG t lim p b 29 (p+1) (((sn.add 16).add 5).add 16)) false else match (t.getD (p+1) 0==10) with|false=>eE (oG t lim p b 29 (p+1) (((sn.add 16).add 5).add 16)) false|true=>{oG t lim p b 31 (p+2) (((sn.add 16).add 5).add 16) with frames:=(oG t lim p b 29 (p+1) sn).frames,handed:=p+1})).trans ?_;by_cases q:p+1>=lim
    ·exact bv q
    ·rw [if_neg q,beq_eq_false_iff_ne.mpr λz=>I ⟨cG,lt_of_not_le q,z⟩]
   exact .to e rfl (.to (by kernel_rfl:_=fW t lim p b 23 32 (p+1) (p+1) (((sn.add 16).add 5).add 16)) rfl (za (by kernel_rfl) h))
  have E8:∀hd sn pc pos,cn (eE (fW t lim p b 11 pc pos hd sn) false) 26 P:=λhd sn pc pos=>by
   refine .to (by kernel_rfl:_=fW t lim p b 18 19 p p sn) rfl (qw (ch:=10) (kM:=sn.add 16) (by kernel_rfl) (λZ Z=>za (by kernel_rfl) h) λq=>?_);exact .to (by kernel_rfl:_=fW t lim p b 23 24 p p (sn.add 16)) rfl ((N8 p (sn.add 16) (hc.resolve_right λz=>q ⟨hp,z⟩)).le (by decide))
  refine .to (by kernel_rfl:_=fW t lim p b 11 12 p p (sn.add 7)) rfl ?_;refine qw (ch:=13) (kM:=(sn.add 7).add 16) (by kernel_rfl) (λZ cG=>?_) λZ=>(E8 p _ 12 p).le (by decide);exact qw (kM:=((sn.add 7).add 16).add 16) (by kernel_rfl) (λa b=>aj ⟨cG,a,b⟩ I) λZ=>(E8 p _ 14 (p+1)).le (by decide)
end
def oH(x:aa)(s:Nat):Option (Nat×Nat):=(kL oE (x.drop s) s).map λp=>(p,mO x.toArray x.length p)
theorem zb{C:Prop}:∀(l:aa)(i:Nat),(kL f l i=none->(∀c∈l,f c=false)->C)->(∀d c,kL f l i=some (i+d)->l[d]?=some c->f c=true->(∀c∈l.take d,f c=false)->C)->C
 |[],_,k,_=>k rfl λZ h=>aj h cp
 |c::r,i,k0,k1=>by
  by_cases h:f c=true
  ·exact k1 0 c (bv h) rfl h λZ h=>aj h cp
  ·have hh:∀{l:aa},(∀d∈l,f d=false)->∀d∈c::l,f d=false:=λg d hd=>(bA.mp hd).elim (λe=>e▸eq_false_iff.mpr h) (g d)
   exact zb r (i+1) (λe g=>k0 ((bK h).trans e) (hh g)) λd c' e q g g'=>k1 (d+1) c' ((bK h).trans (e.trans (ae some (add_right_comm i 1 d)))) q g (hh g')
def N9(hs:s<=x.length)(h:∀m,iA (oH x s) m->P m):cn (Sre.forSearch (bY 1).toArray x.toArray 0 s x.length false) 31 P:=by
 have e:Sre.forSearch (bY 1).toArray x.toArray 0 s x.length false=(if (decide (s>x.length)||decide (x.length - s<1))=true then eE {code:=(bY 1).toArray,text:=x.toArray,lim:=x.length,start:=s,pc:=10,pos:=s,handed:=s,marks:= #[],seen:=({}:Sre.Seen).add 14} false
   else ({code:=(bY 1).toArray,text:=x.toArray,lim:=x.length,start:=s,lastStart:=x.length,pc:=10,pos:=s,handed:=s,marks:= #[],seen:=({}:Sre.Seen).add 14}:SM).attemptFrom s true):=by kernel_rfl
 have no:kL oE (x.drop s) s=none->∀m,iA none m->P m:=λq m hm=>h m (by rw [oH,q];exact hm);rw [e];by_cases q:(decide (s>x.length)||decide (x.length - s<1))=true
 ·rw [if_pos q]
  have g:¬x.length<s:=cg.mpr hs;rw [show decide (s>x.length)=false from decide_eq_false g] at q;exact y9 rfl rfl (no (by rw [drop_of_length_le (Nat.le_of_sub_eq_zero (lt_one_iff.mp (of_decide_eq_true q)))];rfl))
 ·rw [if_neg q]
  refine E6 (f:=oE) rfl rfl hs rfl (λc Z=>NY c) rfl rfl no λp sn e=>?_;refine zb (x.drop s) s (λe2 Z=>av (e2.symm.trans e)) λd c e2 H I Z=>?_;cases e2.symm.trans e;have H:=(getElem?_drop ..).symm.trans H;have hc:x.toArray.getD (s+d) 0=c:=oD.trans ((getD_eq_getElem?_getD ..).trans (ae (Option.getD · 0) H));exact (N7 (t:=x.toArray) (lim:=x.length) (p:=s+d) (b:=true) (sn:=sn) (fB.mp H).1 (hc.symm▸(Bool.or_eq_true_iff.mp I).symm.imp bB.mp bB.mp) λm hm=>h m (by rw [oH,e];exact hm)).le (by decide)
end
section
open PySem.Builtin.Re
def N':entryFor table "re.Pattern.sub.loop" =some Builtin.«re.Pattern.sub.loop»:=entryFor_of_tree (by kernel_rfl)
def zc:plainId "re.Pattern.sub.loop" =true:=by decide+kernel
def Oa:entryFor table "re.Pattern.sub" =some Builtin.«re.Pattern.sub»:=entryFor_of_tree (by kernel_rfl)
def Ob:entryFor table "re.Pattern.search" =some Builtin.«re.Pattern.search»:=entryFor_of_tree (by kernel_rfl)
noncomputable def iU (F:Nat->Option (Nat×Nat)) (y x:aa):Nat->Nat->aa
 |0,s=>x.drop s
 |k+1,s=>match F s with
  |none=>x.drop s
  |some (p,q)=>(x.take p).drop s++y++iU F y x k q
def sK(F:Nat->Option (Nat×Nat))(code x:aa):Prop:=
 (∀s,s<=x.length->∀P:SM->Prop,(∀m,iA (F s) m->P m)->cn (Sre.forSearch code.toArray x.toArray 0 s x.length false) (5*x.length+40) P)/\∀s p q,F s=some (p,q)->s<=p/\p<q/\q<=x.length
def mP(h:Heap)(L:az)(ps:List aa):Prop:=∃(l:List (Str×Tok))(e:Nat),h.get? L=some (seqObj "list" (strValues l).toArray e)/\l.map (·.1)=ps.map mk
def Kb(L:az)(h h':Heap):Prop:=∀b o,b≠L->h.get? b=some o->h'.get? b=some o
def Kb.tr(x:Kb L h h')(y:Kb L h' I):Kb L h I:=λb o n q=>y b o n (x b o n q)
theorem E9:∀l:List (Str×Tok),StrsAre (strValues l) (l.map (·.1))
 |[]=>.nil
 |p::l=>.cons p.1 p.2 (E9 l)
theorem E':∀l:List aa,bZ [] l=l.flatten
 |[]=>rfl
 |[p]=>(append_nil p).symm
 |p::q::l=>(ae (p++[]++·) (E' (q::l))).trans (ae (·++_) (append_nil p))
def Oc(ps:List aa):((ps.map mk).map (·.length)).sum=ps.flatten.length:=by
 rw [map_map,List.length_flatten];exact ae (λf=>(ps.map f).sum) (funext dy)
def zd{x:aa}(he:e<=x.length):(⟨x.toArray.extract b e⟩:Str)=mk ((x.take e).drop b):=by
 refine Str.ext' (toList_inj.mp ?_);simp [drop_take]
section
variable{x y code:aa}{st:ay}
def Fa(hl:mP st.heap L ps)(hz:ps.length<=sizeLine)
  (h:∀h',Kb L st.heap h'->mP h' L (ps++[z])->wpAny (model prog w) A rest Q E {st with heap:=h'}):
  wpAny (model prog w) A (updateSeq L (λJ=>J.push (.str (mk z) v))>>=λZ=>rest) Q E st:=
 lu hl λl e hg mQ=>by
  have hsz:(strValues l).toArray.size=ps.length:=(length_map ..).trans ((length_map (·.1)).symm.trans ((ae List.length mQ).trans (length_map ..)));have e1:=Obj.mapSeq_push_plain (strValues l).toArray e (.str (mk z) v);refine an (wpAny_updateSeq hg rfl (h _ (λb o n q=>((Heap.SameBut.update ..).2 b n).trans q) ⟨l++[(mk z,v)],e+1,?_,(map_append ..).trans ((ae (·++[mk z]) mQ).trans (map_append (l₂:=[z])).symm)⟩) (hsz▸hz) ((Array.size_push ..).symm▸dh (hsz▸hz)));refine (Heap.get?_update_self _ hg (ae Obj.isFreed e1)).trans (ae some (e1.trans ?_));exact ae (λa=>seqObj "list" a (e+1)) (toList_inj.mp ((Array.toList_push ..).trans (map_append (l₂:=[(mk z,v)])).symm))
def Fb[Decidable c](he:e<=x.length)(hx:x.length<=sizeLine)(hc:¬c->(x.take e).drop b=[])(hl:mP st.heap L ps)(hz:ps.length<=sizeLine)
  (h:∀h' tk mR,Kb L st.heap h'->mP h' L mR->mR.flatten=ps.flatten++(x.take e).drop b->mR.length<=ps.length+1->wpAny (model prog w) A rest Q E {st with heap:=h',toks:=tk}):
  wpAny (model prog w) A (if c then (reSlice x.toArray 0 b e>>=λv=>updateSeq L (λJ=>J.push v)>>=λZ=>rest) else rest) Q E st:=by
 by_cases q:c
 ·rw [if_pos q]
  refine an (wpAny_mkStr ?_ ?_)
  ·rw [zd he]
   exact Fa hl hz λh' k l=>h h' _ _ k l ((List.flatten_append ..).trans (ae (_++·) (append_nil _))) (cr (length_append ..))
  ·rw [zd he,dy]
   exact af ((List.drop_sublist ..).trans (List.take_sublist ..)).length_le hx
 ·rw [if_neg q]
  exact h st.heap st.toks ps (λZ Z Z z=>z) hl (by rw [hc q,append_nil]) (le_succ _)
def Od(hl:mP st.heap L ps)(hs:ps.flatten.length<=16777216)(h:∀tk t',Q (.done (.ret (.str (mk ps.flatten) t'))) {st with toks:=tk}):
  wpAny (model prog w) A (do
      let Fc<-reSlice x.toArray 0 0 0;let text<-if ((<-seqItems? (.ref L)).getD #[]).isEmpty then pure Fc else call (.builtin (if (0:Nat)==0 then "str.join" else "bytes.join")) [Fc,.ref L]
      if false=true then ret (<-holding [text] do newTuple [text,<-mkInt n]) else ret text) Q E st:=
 lu hl λl e hg mQ=>by
  have e0:(⟨x.toArray.extract 0 0⟩:Str)=mk []:=(zd (bN _)).trans (ae mk (List.take_zero ..));refine an (wpAny_mkStr ?_ (e0▸bN _));rw [e0];refine an (wpAny_seqItems hg rfl ?_);cases l with
  |nil=>
   cases List.map_eq_nil_iff.mp mQ.symm;exact an (aQ (aQ (h _ _)))
  |cons p l=>
   refine an (join_list ⟨_,hg,rfl,_,rfl⟩ (mQ▸E9 (p::l)) ?_ λt' k'=>aQ ?_)
   ·rw [Oc]
    exact hs
   ·rw [(EQ [] ps).trans (congrArg mk (E' ps))]
    exact h k' t'
def Oe{rest:aq->PUnit->Sem α}{Fe:aq->Sem α}(hl:mP st.heap L ps)(hz:ps.length<=sizeLine)(h:∀h',Kb L st.heap h'->mP h' L (ps++[z])->wpAny (model prog w) A (rest (.str (mk z) v) ⟨⟩) Q E {st with heap:=h'}):
  wpAny (model prog w) A (pure (.str (mk z) v)>>=λi=>if (i !=.none)=true then updateSeq L (λJ=>J.push i)>>=λr=>rest i r else Fe i) Q E st:=
 an (aQ ((bv (rfl):(if (Value.str (mk z) v !=.none)=true then updateSeq L (λJ=>J.push (.str (mk z) v))>>=λr=>rest (.str (mk z) v) r else Fe (.str (mk z) v))=_).symm▸Fa hl hz h))
def vC(h:F s=none):iU F y x (k+1) s=x.drop s:=by show (match F s with|none=>x.drop s|some (p,q)=>(x.take p).drop s++y++iU F y x k q)=_;rw [h]
def vD(h:F s=some (p,q)):iU F y x (k+1) s=(x.take p).drop s++y++iU F y x k q:=by show (match F s with|none=>x.drop s|some (p,q)=>(x.take p).drop s++y++iU F y x k q)=_;rw [h]
def Of(h0:r=none->C0)(H:r=some (m.start,m.handed)->C1)(h:iA r m):m.outcome=some .matched/\C1\/m.outcome=some .failed/\C0:=by
 cases r with
 |none=>exact .inr ⟨h,h0 rfl⟩
 |some p=>exact .inl ⟨h.1,H (ae some (Prod.ext h.2.1.symm h.2.2.symm))⟩
def Og[Decidable c]{aW:ReTarget->Option SM->Sem α}(hF:sK F code x)(hx:x.length<=1000000)(hs:s<=x.length)(hp:j0 st.heap a code)(hc:¬c)
  (h0:F s=none->wpAny (model prog w) A (aW (yZ a x t code x.length) none) Q E st) (H:∀m:SM,F s=some (m.start,m.handed)->wpAny (model prog w) A (aW (yZ a x t code x.length) (some m)) Q E st):
  wpAny (model prog w) A (reWholeTarget (.ref a) (.str (mk x) t)>>=λT=>if ((0:Int)==0)=true then reLiteralCannotBeTurned (.str (mk y) u)>>=λZ=>(if c then pure none else reNextFound T s false)>>=aW T else (if c then pure none else reNextFound T s false)>>=aW T) Q E st:=by
 refine an (EX hp ?_);rw [if_pos (show ((0:Int)==0)=true from rfl),if_neg hc];exact an (wpAny_of_eq (rfl:reLiteralCannotBeTurned (.str (mk y) u)=pure ()) (an (EV (hF.1 s hs (iA (F s)) λm h=>h) (af (dN (fO 5 hx) 40) (by decide)) λm=>Of h0 (H m))))
def Oh(hF:sK F code x)(hx:x.length<=1000000)(hp:j0 st.heap a code)(hL:st.heap.objs.size<=L)(hT:T.length<=16777216)
  (hR:∀h' tk t',Kb L st.heap h'->R (.ok (.ret (.str (mk T) t'))) {st with heap:=h',toks:=tk}) (k:Nat):∀(s n tk:Nat)(h:Heap)(ps:List aa),x.length<k+s->s<=x.length->Kb L st.heap h->mP h L ps->ps.length+2*k<=sizeLine->ps.flatten++iU F y x k s=T->
  codeAny (model prog w) A (.builtin "re.Pattern.sub.loop" ⟨[.ref a,.str (mk x) t,.str (mk y) u,.int 0 0,.int 0 0,.int (n:Nat) 0,.int (s:Nat) 0,.int (s:Nat) 0,.bool false,.ref L,.bool false],[]⟩) R {st with heap:=h,toks:=tk}:=by
 induction k with
 |zero=>exact λs n tk h ps hk hs hb hl hn e=>aj hs (Nat.not_le.mpr (Nat.zero_add s▸hk))
 |succ k ih=>
  intro s n tk h ps hk hs hb hl hn e;have hz:ps.length<=sizeLine:=af (bz ..) hn;have Ff:x.length<=sizeLine:=af hx (by decide);refine codeAny_builtin N' ?_;rw [Around.under_plainId zc _];apply Og hF hx hs (hp.keeps λb o q=>hb b o (cX (bx (cW q) hL)) q) cx
  ·intro hf
   refine Fb (aD _) Ff (λq=>?_) hl hz λh' tk mR gs jB kN Z=>?_
   ·exact drop_of_length_le (af (List.length_take_le ..) (le_of_not_lt q))
   ·have e2:mR.flatten=T:=kN.trans ((ae (λl=>ps.flatten++l.drop s) (take_length ..)).trans ((ae (ps.flatten++·) (vC hf).symm).trans e))
    exact Od jB (e2▸hT) λtk t'=>e2▸hR h' tk t' (hb.tr gs)
  ·intro m hf
   have b:=hF.2 s _ _ hf;refine Fb (af (Nat.le_of_lt b.2.1) b.2.2) Ff (λq=>?_) hl hz λh' tk mR gs jB kN oA=>?_
   ·exact drop_of_length_le (af (List.length_take_le ..) (le_of_not_lt q))
   ·have jA:mR.length+1+2*k<=sizeLine:=af (dN (dh oA) _) (add_right_comm ps.length (2*k) 2▸hn)
    apply Oe (st:={st with heap:=h',toks:=tk}) jB (af (le_succ _) (af (bz ..) jA));refine λI mS gY=>aQ ⟨plainId_quiet zc _,?_⟩;rw [show (m.handed==m.start)=false from beq_eq_false_iff_ne.mpr (Nat.ne_of_gt b.2.1)];refine ih m.handed (n+1) tk I (mR++[y]) ?_ b.2.2 ((hb.tr gs).tr mS) gY ((length_append ..).symm▸jA) ?_
    ·exact bx hk (af (cr (succ_add_eq_add_succ k s)) (dc (dZ b.1 b.2.1) k))
    ·exact Eq.trans (by rw [vD hf,List.flatten_append,kN,List.flatten_singleton,append_assoc,append_assoc,append_assoc];rfl) e
end
end
section
open PySem.Builtin.Re
def Fg:PlainAttrs "re.Pattern" :=⟨⟨_,(by rw [typeLookup_type,builtinLookup_eq_fast];kernel_rfl:typeLookup (.type "re.Pattern") "__getattribute__" =pure (some (.builtin "object.__getattribute__"))),by decide+kernel⟩,by rw [typeLookup_type,builtinLookup_eq_fast];kernel_rfl⟩
def ze:Slot "re.Pattern" "sub" "re.Pattern.sub" :=
 .of (owner:= "re.Pattern") (n:= "sub") (by rw [typeLookup_type,builtinLookup_eq_fast];kernel_rfl) (by decide+kernel) (by decide+kernel) (by decide+kernel) (by first|exact .inl (by decide+kernel)|exact .inr (by decide+kernel)) (by rw [isSubtype_type];kernel_rfl)
def zg:Slot "re.Pattern" "search" "re.Pattern.search" :=
 .of (owner:= "re.Pattern") (n:= "search") (by rw [typeLookup_type,builtinLookup_eq_fast];kernel_rfl) (by decide+kernel) (by decide+kernel) (by decide+kernel) (by first|exact .inl (by decide+kernel)|exact .inr (by decide+kernel)) (by rw [isSubtype_type];kernel_rfl)
def Oi:typeOf (.builtin "re.Pattern.sub")=pure (.type "method_descriptor"):=by show builtinType _=_;rw [builtinType_eq_fast];kernel_rfl
def Oj:typeOf (.builtin "re.Pattern.search")=pure (.type "method_descriptor"):=by show builtinType _=_;rw [builtinType_eq_fast];kernel_rfl
def Ok:typeLookup (.type "str") "__call__" =pure none:=by rw [typeLookup_type,builtinLookup_eq_fast];kernel_rfl
def Ol(a b c:aq):argsOk "re.Pattern.sub" ⟨[a,b,c],[]⟩:=by kernel_rfl
def Om(a b:aq):argsOk "re.Pattern.search" ⟨[a,b],[]⟩:=by kernel_rfl
theorem Fh{C:Prop}:∀(l:aa)(st:Bool)(i:Nat),(lT st l i=none->eJ st l=l->C)->(∀d,lT st l i=some (i+d,i+d+1)->l[d]?=some 46->eJ st l=l.take d++[46,46]++eJ false (l.drop (d+1))->C)->C
 |[],_,_,k,_=>k rfl rfl
 |c::r,st,i,k0,k1=>by
  by_cases h:(st&&c==46)=true
  ·exact k1 0 (bv h) (ae some (bB.mp (f9.mp h).2)) (bv h)
  ·exact Fh r (c==10) (i+1) (λe1 e2=>k0 ((bK h).trans e1) ((bK h).trans (ae (c::·) e2))) λd e1 e2 e3=>k1 (d+1) ((bK h).trans (e1.trans (ae (λz=>some (z,z+1)) (add_right_comm i 1 d)))) e2 ((bK h).trans (ae (c::·) e3))
def vE(x:aa)(s:Nat):Option (Nat×Nat):=lT (kK x s) (x.drop s) s
def On{x:aa}(h:x[p]?=some c)(hb:oE c=true):p<mO x.toArray x.length p/\mO x.toArray x.length p<=x.length/\dC (x.drop p)=[13,10]++dC (x.drop (mO x.toArray x.length p)):=by
 have hp:=(fB.mp h).1;have hc:x.toArray.getD p 0=c:=oD.trans ((getD_eq_getElem?_getD ..).trans (ae (Option.getD · 0) h));have e:=(List.drop_eq_getElem_cons hp).trans (ae (·::_) (fB.mp h).2);rw [mO,hc,oD,e];by_cases q:c=13/\p+1<x.length/\x.getD (p+1) 0=10
 ·rw [if_pos q]
  refine ⟨le_succ _,q.2.1,?_⟩;have e2:=(List.drop_eq_getElem_cons q.2.1).trans (ae (·::_) ((EY q.2.1).symm.trans q.2.2));rw [q.1,e2];exact Dg _
 ·rw [if_neg q]
  refine ⟨aD _,hp,?_⟩;rcases Bool.or_eq_true_iff.mp hb with z|z
  ·rw [beq_iff_eq.mp z]
   exact yh _
  ·rw [beq_iff_eq.mp z]
   refine De λy=>q ⟨bB.mp z,?_⟩;have y:=fB.mp ((List.head?_drop ..).symm.trans y);exact ⟨y.1,(EY y.1).trans y.2⟩
theorem zh{g:Nat->aa}(h:∀s,s<=x.length->∀{C:Prop},(F s=none->g s=x.drop s->C)->(∀d q,F s=some (s+d,q)->s+d<q->q<=x.length->g s=(x.drop s).take d++y++g q->C)->C):∀(k s:Nat),x.length<k+s->s<=x.length->iU F y x k s=g s
 |0,s,hk,hs=>aj hs (Nat.not_le.mpr (Nat.zero_add s▸hk))
 |k+1,s,hk,hs=>h s hs (λe e2=>(vC e).trans e2.symm) λd q e H I e2=>by
  rw [vD e];refine Eq.trans ?_ e2.symm;rw [<-zh h k q (Nat.lt_of_lt_of_le hk (Nat.le_trans (Nat.le_of_eq (succ_add_eq_add_succ k s)) (Nat.add_le_add_left (Nat.lt_of_le_of_lt (Nat.le_add_right s d) H) k))) I];exact ae (·++y++_) ((drop_take ..).trans (ae (λd=>(x.drop s).take d) (add_sub_cancel_left s d)))
def Fi(s:Nat){C:Prop}(k0:vE x s=none->eJ (kK x s) (x.drop s)=x.drop s->C)(k1:∀d q,vE x s=some (s+d,q)->s+d<q->q<=x.length->eJ (kK x s) (x.drop s)=(x.drop s).take d++[46,46]++eJ (kK x q) (x.drop q)->C):C:=
 Fh (x.drop s) (kK x s) s k0 λd e H I=>by
  have H:=(getElem?_drop ..).symm.trans H;refine k1 d _ e (aD _) (fB.mp H).1 (I.trans ?_);rw [List.drop_drop];exact ae (λb=>_++eJ b _) (ae (·==10) ((getD_eq_getElem?_getD ..).trans (ae (Option.getD · 0) H))).symm
def Fj(s:Nat){C:Prop}(k0:oH x s=none->dC (x.drop s)=x.drop s->C)(k1:∀d q,oH x s=some (s+d,q)->s+d<q->q<=x.length->dC (x.drop s)=(x.drop s).take d++[13,10]++dC (x.drop q)->C):C:=by
 have no:∀{c:Nat},oE c=false->c≠13/\c≠10:=λh=>⟨eU.mp (or_eq_false_iff.mp h).2,eU.mp (or_eq_false_iff.mp h).1⟩
 refine zb (x.drop s) s (λe h=>k0 (ae (Option.map _) e) ?_) λd c e H I h3=>?_
 ·exact (ae dC (append_nil _).symm).trans ((r6 _ [] λc hc=>no (h c hc)).trans (append_nil _))
 ·refine fC (On ((getElem?_drop ..).symm.trans H) I) λg1 g2 g3=>k1 d _ (ae (Option.map _) e) g1 g2 ?_
  rw [append_assoc,<-g3,<-r6 _ _ λc hc=>no (h3 c hc),<-List.drop_drop,List.take_append_drop]
def Oo(k:Nat)(h:x.length<k):iU (vE x) [46,46] x k 0=eJ true x:=zh (λs Z Z=>Fi s) k 0 h (bN _)
def Op(k:Nat)(h:x.length<k):iU (oH x) [13,10] x k 0=dC x:=zh (λs Z Z=>Fj s) k 0 h (bN _)
def Oq(x:aa):sK (vE x) (bY 0) x:=
 ⟨λs hs P h=>(NV hs h).le (dc (by decide) _),λs p q h=>Fi s (λe Z=>av (e.symm.trans h)) λd q' e H I Z=>by
  cases e.symm.trans h;exact ⟨bz ..,H,I⟩⟩
def Os(x:aa):sK (oH x) (bY 1) x:=
 ⟨λs hs P h=>(N9 hs h).le (af (by decide) (le_add_left 40 _)),λs p q h=>Fj s (λe Z=>av (e.symm.trans h)) λd q' e H I Z=>by
  cases e.symm.trans h;exact ⟨bz ..,H,I⟩⟩
theorem Fk(F:Nat->Option (Nat×Nat))(y x:aa):∀k s,∀c∈iU F y x k s,c∈x\/c∈y
 |0,s,c,h=>.inl (mem_of_mem_drop h)
 |k+1,s,c,h=>by
  cases e:F s with
  |none=>rw [vC e] at h;exact .inl (mem_of_mem_drop h)
  |some pq=>
   rw [vD (q:=pq.2) e] at h;exact (bD.mp h).elim (λh=>(bD.mp h).imp (λh=>mem_of_mem_take (mem_of_mem_drop h)) id) (Fk F y x k _ c)
def Ot(hF:∀s p q,F s=some (p,q)->s<=p/\p<q/\q<=x.length)(k:Nat):∀s,(iU F y x k s).length<=(x.length - s)*(y.length+1):=by
 induction k with
 |zero=>exact λs=>(length_drop ..).symm▸Nat.le_mul_of_pos_right _ (succ_pos _)
 |succ k ih=>
  intro s;cases e:F s with
  |none=>refine (vC e).symm▸?_;exact (length_drop ..).symm▸Nat.le_mul_of_pos_right _ (succ_pos _)
  |some pq=>
   refine fC (hF s _ _ e) λH I h3=>?_;have ih:=ih pq.2;refine (vD (q:=pq.2) e).symm▸?_;refine (Nat.le.dest I).elim λf hf=>(Nat.le.dest h3).elim λd hd=>(Nat.le.dest H).elim λg hg=>?_;rw [<-hd,add_sub_cancel_left,<-hf,<-hg] at ih;rw [length_append,length_append,length_drop,List.length_take_of_le (Nat.le_trans (Nat.le_of_lt I) h3),<-hd,<-hf,<-hg,show s+g+1+f+d - s=(g+(f+1))+d from by rw [show s+g+1+f+d=s+(g+(f+1)+d) by lia,add_sub_cancel_left],add_mul,add_mul,add_sub_cancel_left];refine eI (eI (Nat.le_mul_of_pos_right _ (succ_pos _)) ?_) ih;exact af (le_succ _) (Nat.le_mul_of_pos_left _ (succ_pos _))
end
section
open PySem.Builtin.Re
noncomputable def mT:BI->String
 |.join=> "str.join" |.find=> "str.find" |.lstrip=> "str.lstrip" |.lower=> "str.lower" |.split=> "str.split" |.split1=> "str.split" |.append=> "list.append" |.extend=> "list.extend" |.index=> "list.index" |.count=> "list.count"
 |.dget=> "dict.get" |.search=> "re.Pattern.search" |.resub=> "re.Pattern.sub" |_=> ""
def zi:PlainAttrs "str" /\Slot "str" "replace" "str.replace" /\typeOf (.builtin "str.replace")=pure (.type "method_descriptor"):=⟨PySem.F.plainAttrs_str,PySem.F.slot_str_replace,PySem.F.type_str_replace⟩
def j0.typeIs{s:ay}{code:aa}(p:j0 s.heap a code):s.TypeIs (.ref a) "re.Pattern" :=K3 p λo Z Z Z Z Z H I Z Z Z Z=>⟨o,H,I⟩
def Ou(hx:oe b=some x)(h:nZ b o s=some d):b=.lstrip\/b=.lower:=by
 cases b with
 |lstrip=>exact .inl rfl
 |lower=>exact .inr rfl
 |len|max1|sum1|sorted1|chr1|ord1|strI|intS|tupL|lenSet=>exact av hx
 |_=>exact av h
section
variable{s:ay}
def Fm(pts:lS O)(hk:k<4)(hF:sK F (bY k) x)(hx:x.length<=1000000/\y.length<=10)(hy:92∉y)(R:SR O P m ac s.heap)(ra:ai O s.heap P m a (.pat k))(rb:ai O s.heap P m b (.d (.str y)))(rc:ai O s.heap P m c (.d (.str x))):
  wpAny O.M A (call (.builtin "re.Pattern.sub") [a,b,c] []) (aJ O P m s ac (.d (.str (iU F y x (x.length+1) 0)))) br s:=by
 obtain rfl:a=.ref (O.patA k):=ra;obtain ⟨⟨u,rfl⟩,y1,y2⟩:=rb;obtain ⟨⟨t,rfl⟩,x1,x2⟩:=rc;have pa:=(pts k hk).keeps R.base;have hT:=pa.typeIs;refine iS (wpAny_call (codeAny_call_builtin ze.plain Oa (ze.check _ _ _ _ _ _ _ _ hT (Ol _ _ _) ?_)));refine an (wpAny_of_eq (rfl:reNamed "re.Pattern.sub" "sub" ["repl", "string", "count"] 2 [.str (mk y) u,.str (mk x) t] []=pure [some (.str (mk y) u),some (.str (mk x) t),none]) ?_);refine an (aQ ?_);refine an (wpAny_specialOf_val rfl Ok ?_);have hc:(!(mk y).cps.contains 92)=true:=by
  rw [List.contains_toArray,not_eq_true'];exact eq_false_iff.mpr λq=>hy (List.contains_iff_mem.mp q)
 have nn:¬(none:Option aq).isSome=true:=cx;rw [if_neg nn];refine an (aQ ?_);dsimp only;rw [hc];refine an (aQ ?_);rw [if_neg nn,if_pos rfl];refine an (aQ ?_);refine an (dT (EX pa ?_));refine an (wpAny_newList ?_);refine aQ ⟨plainId_quiet zc _,?_⟩;have hl:(iU F y x (x.length+1) 0).length<=16777216:=af (Ot hF.2 (x.length+1) 0) (af (mul_le_mul (af (sub_le x.length 0) hx.1) (dN hx.2 1)) (by decide));refine Oh hF hx.1 pa (aD _) hl (λh' tk t' gs hz=>aJ.grown R (λb o hb=>gs b o (cX (cW hb)) hb) hz (.d (.str _ hl λc hc=>(Fk F y x _ _ c hc).elim (x2 c) (y2 c)))) (x.length+1) 0 0 _ _ [] (lt_succ_self _) (bN _) (λb o Z hb=>f' _ hb) ⟨[],0,fh _ rfl,rfl⟩ ?_ rfl;exact af (cr (Nat.zero_add _)) (af (fO 2 (dh hx.1)) (by decide))
def Ov(pts:lS O)(hx:(k=2/\lA x=true)\/(k=3/\mz x=true))(hl:x.length<=lim)(R:SR O P m ac s.heap)(ra:ai O s.heap P m a (.pat k))(rb:ai O s.heap P m b (.d (.str x))):
  wpAny O.M A (call (.builtin "re.Pattern.search") [a,b] []) (aJ O P m s ac (.d .none)) br s:=by
 obtain rfl:a=.ref (O.patA k):=ra;obtain ⟨⟨t,rfl⟩,_,_⟩:=rb;have hk:=hx.imp (·.1) (·.1);have pa:=(pts k (hk.elim (λe=>e▸by decide) λe=>e▸by decide)).keeps R.base;obtain ⟨o,pt,fl,cc,oc,n,H,I,h3,h4,h5,h6⟩:=pa;have hT:s.TypeIs (.ref (O.patA k)) "re.Pattern" :=⟨o,H,I⟩
 refine wpAny_call (codeAny_call_builtin zg.plain Ob (zg.check _ _ _ _ _ _ _ _ hT (Om _ _) ?_));refine an (an (wpAny_of_eq (rfl:reNamed "re.Pattern.search" "search" ["string", "pos", "endpos"] 1 [.str (mk x) t] []=pure [some (.str (mk x) t),none,none]) ?_));refine an (aQ (an (aQ ?_)));refine an (an (wpAny_load H ?_));rw [h4];refine aQ (an (aQ (an (aQ ?_))));refine an (an (wpAny_seqItems h5 h6 (aQ (aQ ?_))));have jB:=hl;have em:min ((2:Int) ^ 63 - 1).toNat x.toArray.size=x.length:=min_eq_right (af jB (by decide));have e0:min (0:Int).toNat x.toArray.size=0:=Nat.zero_min _;have eg:reRawNat (#[pt,fl,Value.int 0 0,Value.none,Value.none,Value.ref cc,Value.int 0 0].getD 2 Value.none)=0:=rfl;dsimp only [Option.getD_some];rw [EW];rw [em,e0,eg];refine an (EV (N6 hk ?_ λm h=>h) (by decide) λm' hm=>.inr ⟨hm,aQ (aJ.here R (rfl))⟩);intro c hc seen;rcases hx with ⟨rfl,q⟩|⟨rfl,q⟩
 ·exact NZ (dA.mp q c hc) seen
 ·exact N5 (dA.mp q c hc) seen
def Ow(R:SR O P m ac s.heap)(p:ai O s.heap P m a x)(h:uJ ac x=some J):∃c D,a=.ref c/\(s.heap.IsList c D.toArray\/IsTup s.heap c D.toArray)/\aR O s.heap (aC P m) D J:=
 fm h (λys e1 e2=>eV (ax e2▸oo e1▸p:ai O s.heap P m a (.d (.tup J))) λc D e Z ht Z r=>⟨c,D,e,.inr ht,r⟩) λe=>kn (si R p e) λc D e hl r Z=>⟨c,D,e,.inl hl,r⟩
def Ox(hb:b=.lstrip\/b=.lower)(R:SR O P m ac s.heap)(ra:ai O s.heap P m a o)(h:nZ b o ac=some d):wpAny O.M A (call (.builtin (mT b)) [a] []) (aJ O P m s ac (.d d)) br s:=by
 rcases hb with rfl|rfl
 ·exact aG (h) λx e1 e2=>b8 e2 λhx e3=>ax e3▸NI R (dw e1▸ra) hx
 ·exact aG (h) λx e1 e2=>b8 e2 λhx e3=>ax e3▸NJ R (dw e1▸ra) hx
def Oy(pts:lS O)(R:SR O P m ac s.heap)(ra:ai O s.heap P m a o)(ry:ai O s.heap P m v y)(h:C8 b o y ac=some d):wpAny O.M A (call (.builtin (mT b)) [a,v] []) (aJ O P m s ac (.d d)) br s:=by
 cases b with
 |join=>exact aG h λaA e1 e2=>aG e2 λL e3 e4=>aG e3 λJ e5 e6=>b8 e4 λhz e7=>du (Ow R ry e5) λc D ev hc r=>ax e7▸NG R (dw e1▸ra) ev hc (vt e6▸r) hz
 |find=>exact aG h λx e1 e2=>aG e2 λz e3 e4=>b8 e4 λhz e5=>ax e5▸NH R (dw e1▸ra) (dw e3▸ry) hz
 |split=>exact aG h λx e1 e2=>aG e2 λz e3 e4=>b8 e4 λhz e5=>ax e5▸ND R (dw e1▸ra) (dw e3▸ry) hz.1 hz.2.1 hz.2.2
 |index=>exact aG h λl e1 e2=>aG e1 λJ e3 e4=>aG e2 λi e5 e6=>b8 e6 λhi e7=>ax e7▸NL R ra e3 e4 (fo e5▸ry) hi
 |count=>exact aG h λl e1 e2=>aG e1 λJ e3 e4=>cK e2 λi e5 e6=>e6▸NK R ra e3 e4 (fo e5▸ry)
 |search=>exact aG h λk e1 e2=>aG e2 λx e3 e4=>b8 e4 λhz e5=>ax e5▸Ov pts hz (dw e3▸ry).2.1 R (uY e1▸ra) (dw e3▸ry)
 |_=>exact av h
def Oz(pts:lS O)(R:SR O P m ac s.heap)(ra:ai O s.heap P m a o)(ry:ai O s.heap P m v y)(rz:ai O s.heap P m w z)(h:C9 b o y z ac=some d):wpAny O.M A (call (.builtin (mT b)) [a,v,w] []) (aJ O P m s ac (.d d)) br s:=by
 cases b with
 |split1=>
  refine aG h λx e1 e2=>aG e2 λaA e3 e4=>aG e4 λn e5 e6=>b8 e6 λhz e7=>?_;have e8:d=.list ((kJ aA x).map .str):=by
   rw [kJ];cases q:d5 aA x 0 with
   |ofNat j=>rw [q] at e7;exact (ax e7).symm
   |negSucc j=>rw [q] at e7;exact (ax e7).symm
  exact e8▸NE R (dw e1▸ra) (dw e3▸ry) (hz.1.2▸fo e5▸rz) hz.1.1 hz.2.1 hz.2.2
 |dget=>exact aG h λal e1 e2=>aG e2 λk e3 e4=>cK e4 λx e5 e6=>e6▸NN R ra e1 (dw e3▸ry) (jy e5▸rz)
 |resub=>
  refine aG h λk e1 e2=>aG e2 λy' e3 e4=>aG e4 λx e5 e6=>b8 e6 λhl e7=>?_;by_cases H:k=1/\y'=[13,10]
  ·exact ax ((bv H).symm.trans e7)▸Op _ (lt_succ_self _)▸Fm pts (by decide) (Os x) ⟨hl,by decide⟩ (by decide) R (H.1▸uY e1▸ra) (H.2▸dw e3▸ry) (dw e5▸rz)
  ·exact b8 ((bK H).symm.trans e7) λI e8=>ax e8▸Oo _ (lt_succ_self _)▸Fm pts (by decide) (Oq x) ⟨hl,by decide⟩ (by decide) R (I.1▸uY e1▸ra) (I.2▸dw e3▸ry) (dw e5▸rz)
 |_=>exact av h
def OA(h:x0 b=true):b=.append:=by
 cases b with
 |append=>rfl
 |_=>exact aj h cx
def OB(h:uK b=true):b=.extend:=by
 cases b with
 |extend=>rfl
 |_=>exact aj h cx
def Fn{C:Prop}(e:pX (o::l)=some q)(rl:bL O s.heap P m D l)(k:∀v,D=[v]->o=q.1->ai O s.heap P m v q.2->C):C:=by
 have e:=List.cons.inj (yq e);exact du (e.2▸rl) λv ws e1 p r=>k v (e1.trans (ae (v::·) (r))) e.1 p
def OC(pts:lS O)(hr:bw 1 A)(hx:oe b=some x)(hT:mC b o ac=some T)
  (R:SR O P m ac s.heap) (ra:ai O s.heap P m a o) (rl:bL O s.heap P m D l) (h:n5 b (o::l) ac=some (r,ao)):
  wpAny O.M A (call (.builtin (mT b)) ([a]++D) []) (aJ O P m s ao r) br s:=by
 rw [n5] at h;cases e0:x0 b with
 |true=>
  rw [e0] at h;refine cK h λs2 e1 e2=>aG e1 λq e3 e=>aG e λk e4 e=>aG e λd e5 e=>aG e λJ e6 e=>b8 e λhl e=>Fn e3 rl λv ev eo pv=>?_;obtain ⟨er,es⟩:=Prod.mk.inj e2;rw [OA e0,ev,<-er,<-es,<-Option.some.inj e];exact NO R (jz e4▸eo▸ra) (ql e6) hl (jy e5▸pv)
 |false=>
  rw [e0] at h;have h:cond (uK b) _ _=_:=h;cases e9:uK b with
  |true=>
   rw [e9] at h;refine cK h λs2 e1 e2=>aG e1 λq e3 e=>aG e λk e4 e=>aG e λys e5 e=>aG e λJ e6 e=>b8 e λhl e=>Fn e3 rl λv ev eo pv=>?_;obtain ⟨er,es⟩:=Prod.mk.inj e2;rw [OB e9,ev,<-er,<-es,<-Option.some.inj e];exact NP R (jz e4▸eo▸ra) (ql e6) hl (om e5▸pv)
  |false=>
   rw [e9] at h;refine cK h λd e1 e2=>?_;obtain ⟨er,es⟩:=Prod.mk.inj e2;rw [<-er,<-es];cases l with
   |nil=>
    rw [show D=[] from rl];exact Ox (Ou hx e1) R ra e1
   |cons y l=>
    refine du (show bL O s.heap P m D (y::l) from rl) λv ws ev py rl=>?_;cases l with
    |nil=>
     rw [ev,show ws=[] from rl];exact Oy pts R ra py e1
    |cons z l=>
     refine du (show bL O s.heap P m ws (z::l) from rl) λw us ew pz rl=>?_;cases l with
     |nil=>
      rw [ev,ew,show us=[] from rl];exact Oz pts R ra py pz e1
     |cons _ _=>exact av e1
noncomputable def zj (k:Nat):String:=match k with
 |0=> "str"
 |1=> "list"
 |2=> "list"
 |3=> "dict"
 |_=> "re.Pattern"
def OD(pts:lS O)(hT:C' k o ac=some T)(R:SR O P m ac s.heap)(ra:ai O s.heap P m a o):zj k=T/\s.TypeIs a T/\∀c,a=.ref c->∃ob,s.heap.get? c=some ob/\ob.dict=none:=by
 have lst:∀{c D},a=.ref c->s.heap.PlainList c D->s.TypeIs a "list" /\∀c,a=.ref c->∃ob,s.heap.get? c=some ob/\ob.dict=none:=λe ⟨n,h⟩=>e▸⟨⟨_,h,rfl⟩,λc' q=>⟨_,Value.ref.inj q▸h,rfl⟩⟩
 match k,hT with
 |0,hT=>exact cK hT λx e1 e2=>e2▸⟨rfl,ai.str_el (dw e1▸ra:ai O s.heap P m a (.d (.str x))) λt Z Z=>⟨typeIs_str _ _ _,nofun⟩⟩
 |1,hT=>exact cK hT λq e1 e2=>DG e1 λex hk=>e2▸⟨rfl,bt (ex▸ra:ai O s.heap P m a (.ref q.1)) λc ea hm=>du (R.obj _ _ _ hm hk) λD n g Z Z=>lst ea ⟨n,g⟩⟩
 |2,hT=>exact cK hT λJ e1 e2=>e2▸⟨rfl,kn (u6 R ra e1) λc D ea hl Z Z=>lst ea hl⟩
 |3,hT=>exact cK hT λal e1 e2=>e2▸⟨rfl,eV (vc R ra e1) λz ks ea Z hd Z Z=>ea▸⟨hd.typeIs,hd.mapOf.noDict⟩⟩
 |4,hT=>exact aG hT λkk e1 e2=>b8 e2 λhk e3=>ax e3▸⟨rfl,by
   obtain rfl:a=.ref (O.patA kk):=(uY e1▸ra:ai O s.heap P m a (.pat kk))
   obtain ⟨ob,_,_,_,_,_,H,I,h3,_⟩:=(pts kk hk).keeps R.base;exact ⟨⟨ob,H,I⟩,λc q=>⟨ob,Value.ref.inj q▸H,h3⟩⟩⟩
 |_+5,hT=>exact av hT
def OE(hx:oe b=some x):PlainAttrs (zj (ya b))/\Slot (zj (ya b)) x (mT b)/\typeOf (.builtin (mT b))=pure (.type "method_descriptor"):=by
 cases b with
 |join=>exact ax hx▸⟨PySem.F.plainAttrs_str,PySem.F.slot_str_join,PySem.F.type_str_join⟩
 |find=>exact ax hx▸⟨PySem.F.plainAttrs_str,PySem.F.slot_str_find,PySem.F.type_str_find⟩
 |lstrip=>exact ax hx▸⟨PySem.F.plainAttrs_str,PySem.F.slot_str_lstrip,PySem.F.type_str_lstrip⟩
 |lower=>exact ax hx▸⟨PySem.F.plainAttrs_str,PySem.F.slot_str_lower,PySem.F.type_str_lower⟩
 |split=>exact ax hx▸⟨PySem.F.plainAttrs_str,PySem.F.slot_str_split,PySem.F.type_str_split⟩
 |split1=>exact ax hx▸⟨PySem.F.plainAttrs_str,PySem.F.slot_str_split,PySem.F.type_str_split⟩
 |append=>exact ax hx▸⟨PySem.F.plainAttrs_list,slot_list_append,type_list_append⟩
 |extend=>exact ax hx▸⟨PySem.F.plainAttrs_list,PySem.F.slot_list_extend,PySem.F.type_list_extend⟩
 |index=>exact ax hx▸⟨PySem.F.plainAttrs_list,PySem.F.slot_list_index,PySem.F.type_list_index⟩
 |count=>exact ax hx▸⟨PySem.F.plainAttrs_list,PySem.F.slot_list_count,PySem.F.type_list_count⟩
 |dget=>exact ax hx▸⟨PySem.F.plainAttrs_dict,PySem.F.slot_dict_get,PySem.F.type_dict_get⟩
 |search=>exact ax hx▸⟨Fg,zg,Oj⟩
 |resub=>exact ax hx▸⟨Fg,ze,Oi⟩
 |_=>exact av hx
def OF(pts:lS O)(hx:oe b=some x)(hT:mC b o ac=some T)
  (R:SR O P m ac s.heap) (ra:ai O s.heap P m a o):s.TypeIs a T/\(∀c,a=.ref c->∃ob,s.heap.get? c=some ob/\ob.dict=none)/\PlainAttrs T/\Slot T x (mT b)/\typeOf (.builtin (mT b))=pure (.type "method_descriptor"):=
 fC (OD pts hT R ra) λe H I=>⟨H,I,e▸OE hx⟩
end
end
noncomputable def sM (f:Nat) (vals:List aq):Args:=if f=22 then ⟨vals.take 2,(vals.drop 2).map λv=>(("name" :Str),v)⟩ else ⟨vals,[]⟩
noncomputable def jC:List (Str×aq):=[("len",.builtin "len"),("max",.builtin "max"),("sum",.builtin "sum"),("sorted",.builtin "sorted"),("chr",.builtin "chr"),("ord",.builtin "ord"),("str",.type "str"),("int",.type "int"),
 ("tuple",.type "tuple"),("set",.type "set"),("range",.type "range"),("enumerate",.type "enumerate"),("zip",.type "zip"),("type",.type "type"),("list",.type "list")]
section
variable(O:Wd)
def zk(fa:Nat->az)(n f:Nat)(args:List PV)(ac:ah)(r:PV×ah):Prop:=
 ∀(A:Around)(P:List az)(m:Mp)(s:ay)(vals:List aq),0<s.toks->bw n A->SR O P m ac s.heap->bL O s.heap P m vals args->
  codeAny O.M A (.call (.ref (fa f)) (sM f vals)) (λres V=>∃v,res=.ok (.ret v)/\aJ O P m s r.2 r.1 v V) s
def qx(s:ay):Prop:=∀a o,O.hb.get? a=some o->s.heap.get? a=some o
structure Wf(fa:Nat->az)(F:je)(n:Nat):Prop where
 ng:O.hb.Ns mainGlobals O.mg
 nb:O.hb.Ns builtinsNs O.mb
 nl:O.hb.NoLimit
 gl:∀k pv,F.g k=some pv->∃v,O.mg (qc k)=some v/\∀P m ac h,SR O P m ac h->ai O h P m v pv
 bl:∀p∈jC,O.mg p.1=none/\O.mb p.1=some p.2
 fn:∀f,f<15->O.mg (lL f)=some (.ref (fa f))/\∃o fd,O.hb.get? (fa f)=some o/\o.data=.func fd
 mt:∀f,20<=f->f<28->(∃o fd,O.hb.get? (fa f)=some o/\o.data=.func fd)/\∀(A:Around)(s:ay)(x l:az)(X:az->Prop)(B:Sem Bool)(Q:aq×List aq->ay->Prop)(E:cJ),
  qx O s->ga O s.heap X x l->Q (.ref (fa f),[.ref x]) s->wpAny O.M A (getMethod (.ref x) (kz f) B) Q E s
 nbk:NoneBooked O.hb
 pts:lS O
 cls:O.mg "Headers" =some (.ref O.C)
 kc:∀h,(∀a o,O.hb.get? a=some o->h.get? a=some o)->∃k,(k=Keeper.frame\/k=Keeper.machine\/k=Keeper.boundFrame)/\Looks O.M h (keeperOf (.ref O.C)) k
 at_:∀(A:Around)(s:ay)(x l:az)(X:az->Prop)(Q:cJ)(E:cJ),
  qx O s->ga O s.heap X x l->(∀tk,s.toks<=tk->Q (.ref l) {s with toks:=tk})->wpAny O.M A (getAttr (.ref x) "_headers" true) Q E s
 ln:∀(A:Around)(s:ay)(x l:az)(X:az->Prop)(Q:cJ),bw (n+1) A->qx O s->ga O s.heap X x l->
  (∀A',bw n A'->codeAny O.M A' (.call (.ref (fa 20)) ⟨[.ref x],[]⟩) (λr V=>∃(k:Nat)(t:Tok),r=.ok (.ret (.int k t))/\k<=lim/\∀tk qy,V.toks<=qy->Q (.int k tk) {V with toks:=qy}) s)->
  wpAny O.M A (call (.builtin "len") [.ref x] []) Q br s
 st:∀(A:Around)(s:ay)(x l:az)(X:az->Prop)(Q:cJ),bw (n+1) A->qx O s->ga O s.heap X x l->
  (∀A',bw n A'->codeAny O.M A' (.call (.ref (fa 21)) ⟨[.ref x],[]⟩) (λr V=>∃(y:Str)(t:Tok),r=.ok (.ret (.str y t))/\Q (.str y t) V) s)->
  wpAny O.M A (call (.type "str") [.ref x] []) Q br s
 n0:∀(A:Around)(P:List az)(m:Mp)(s:ay)(k:Nat)(ac ao:ah)(r:PV),F.hd=true->0<s.toks->bw (n+1) A->SR O P m ac s.heap->ac.new k (.list [])=some (r,ao)->
  wpAny O.M A (call (.ref O.C) [] []) (aJ O P m s ao (.hdr k)) br s
 n1:∀(A:Around)(P:List az)(m:Mp)(s:ay)(k:Nat)(ac:ah)(a:aq)(iV:List ab),F.hd=true->0<s.toks->bw (n+1) A->SR O P m ac s.heap->ai O s.heap P m a (.ref k)->ac.Y k=some (.list iV)->nW iV=true->
  wpAny O.M A (call (.ref O.C) [a] []) (aJ O P m s ac (.hdr k)) br s
 calls:∀f args ac r,F.fn f args ac=some r->zk O fa n f args ac r
def fX(c:Cx)(m:Mp)(s:ay)(ao:ah)(r:PV)(Q:cJ):Prop:=∀m' v V,aw O c m' ao V->aK c.own false m m' s V->ai O V.heap c.P m' v r->Q v V
def vF(c:Cx)(m:Mp)(s:ay)(ao:ah)(r:List PV)(Q:List aq->ay->Prop):Prop:=∀m' v V,aw O c m' ao V->aK c.own false m m' s V->bL O V.heap c.P m' v r->Q v V
def jm(c:Cx)(m:Mp)(s:ay)(ao:ah)(r:Bool)(Q:Bool->ay->Prop):Prop:=∀m' V,aw O c m' ao V->aK c.own false m m' s V->Q r V
variable(F:je)(n:Nat)
def aZ(pe:PE):Prop:=∀{c:Cx}{m:Mp}{ac ao:ah}{r:PV}{A:Around}{s:ay}{Q:cJ}{E:cJ},
 ok c.sc pe=true->ev F pe c.vars ac=some (r,ao)->aw O c m ac s->bw (n+1) A->fX O c m s ao r Q->wpAny O.M A (eval (aE c.sc pe) c.env) Q E s
def lU(ps:List PE):Prop:=∀{c:Cx}{m:Mp}{ac ao:ah}{r:List PV}{A:Around}{s:ay}{Q:List aq->ay->Prop}{E:cJ}(pos:Pos),
 jx c.sc ps=true->iw F ps c.vars ac=some (r,ao)->aw O c m ac s->bw (n+1) A->vF O c m s ao r Q->wpAny O.M A (spliced (backTo pos (starEach (gX c.sc ps) c.env))) Q E s
def gh(pt:PT):Prop:=∀{c:Cx}{m:Mp}{ac ao:ah}{r:Bool}{A:Around}{s:ay}{Q:Bool->ay->Prop}{E:cJ},
 qd c.sc pt=true->bP F pt c.vars ac=some (r,ao)->aw O c m ac s->bw (n+1) A->jm O c m s ao r Q->wpAny O.M A (isTrue (mH c.sc pt) c.env (eval (mH c.sc pt) c.env)) Q E s
end
section
def bw.less(h:bw (n+1) A)(hk:k<=n+1):bw k A:=⟨by have:=h.depth;lia,by have:=h.units;lia,h.hd⟩
def bw.one(h:bw (n+1) A):bw 1 A:=h.less (le_add_left 1 n)
def bw.pred(h:bw (n+1) A):bw n A:=h.less (le_succ n)
def fX.after(K:fX O c bM bE ao r Q)(a:aK c.own false bM m bE s):fX O c m s ao r Q:=λm' v V S x p=>K m' v V S (a.trans x) p
def jm.after{r:Bool}{Q:Bool->ay->Prop}(K:jm O c bM bE ao r Q)(a:aK c.own false bM m bE s):jm O c m s ao r Q:=λm' V S x=>K m' V S (a.trans x)
def fX.res(h:some (x,fY)=some (r,ao))(K:fX O c m s ao r Q):fX O c m s fY x Q:=by cases h;exact K
def jm.res{x r:Bool}{Q:Bool->ay->Prop}(h:some (x,fY)=some (r,ao))(K:jm O c m s ao r Q):jm O c m s fY x Q:=by cases h;exact K
def fX.pS{C:Prop}(h:pS o fY=some (r,ao))(K:fX O c m s ao r Q)(k:∀x,o=some x->fX O c m s fY x Q->C):C:=
 qk h λH I=>by subst I;exact k r H K
def jm.pS{r:Bool}{Q:Bool->ay->Prop}{C:Prop}(h:pS o fY=some (r,ao))(K:jm O c m s ao r Q)(k:∀x,o=some x->jm O c m s fY x Q->C):C:=
 qk h λH I=>by subst I;exact k r H K
def fX.pM{α:Type}{o:Option α}{f:α->PV}{C:Prop}(h:Mine.pS (o.map f) fY=some (r,ao))(K:fX O c m s ao r Q)(k:∀x,o=some x->fX O c m s fY (f x) Q->C):C:=
 K.pS h λZ e K=>cK e λx e1 e2=>k x e1 (e2▸K)
def fX.op(K:fX O c bM bE ao r Q)(S:aw O c m ac s)(a:aK c.own false bM m bE s)(h:wpAny O.M A t (aJ O c.P m s ao r) br s):wpAny O.M A t Q E s:=
 wpAny_with_toks (aD _) (di h (λv V h ht=>let ⟨m',R,x,p⟩:=h;K m' v V (S.adv0 x R ht) (a.trans (x.weaken iv)) p) λZ Z q=>q.elim)
def fX.op0(K:fX O c m s ao r Q)(S:aw O c m ac s)(h:wpAny O.M A t (aJ O c.P m s ao r) br s):wpAny O.M A t Q E s:=K.op S .refl h
def vG(h:wpAny M A t Q br s):wpAny M A t Q E s:=di h (λZ Z q=>q) λZ Z q=>q.elim
def oI(h:wpAny M A t (λa V=>s.toks<=V.toks->Q a V) br s):wpAny M A t Q E s:=
 wpAny_with_toks (aD _) (di h (λZ Z q=>q) λZ Z q=>q.elim)
def fX.here(K:fX O c m s ac r Q)(S:aw O c m ac s)(t:Nat)(p:ai O s.heap c.P m v r)(ht:s.toks<=t):Q v {s with toks:=t}:=K m v _ (S.tok t ht) (aK.tok t) p
def zl(h:uQ x=true):(x==("__debug__" :Str))=false:=aB h λH Z=>(not_eq_true' _).mp H
def OG(h:uQ x=true):(x==("__classdict__" :Str))=false:=aB h λZ H=>(not_eq_true' _).mp H
def sN(S:aw O c m ac s)(ng:O.hb.Ns mainGlobals O.mg)(hx:eK c.sc x=true)(hv:O.mg x=some v)(h:Q v s):
  wpAny O.M A (eval (.Name x pos) c.env) Q E s:=
 aB hx λH I=>Name_function_global S.en.kind (S.en.gk x (bB.mp H)) (loadGlobal_global (by rw [S.en.glob];exact ng.keeps S.sr.base) hv h) (zl I)
def OH(S:aw O c m ac s)(ng:O.hb.Ns mainGlobals O.mg)(nb:O.hb.Ns builtinsNs O.mb)(hx:eK c.sc x=true)(hm:O.mg x=none)(hv:O.mb x=some v)(h:Q v s):
  wpAny O.M A (eval (.Name x pos) c.env) Q E s:=
 aB hx λH I=>Name_function_global S.en.kind (S.en.gk x (bB.mp H)) (loadGlobal_builtin (by rw [S.en.glob];exact ng.keeps S.sr.base) hm (by rw [S.en.blt];exact nb.keeps S.sr.base) hv h) (zl I)
def Fo(S:aw O c m ac s)(hx:kA c.sc i x=true)(hv:c.vars[i]?=some (some pv))(h:∀v,ai O s.heap c.P m v pv->Q v s):
  wpAny O.M A (loadName c.env x) Q E s:=by
 refine aB hx λjj oC=>?_;have jj:=bB.mp jj;refine bt (S.vr.2 i pv hv) λv mU hp=>?_;rcases S.en.known x (ez jj) with hk|hk
 ·refine bt (S.en.loc) λmp sO hl=>?_
  exact wpAny_loadName_local S.en.kind hk sO (hl i x v jj mU hk) (h v hp)
 ·refine rQ (S.en.cell i x jj hk) λcc v0 H I h3 h4 h5 h6=>?_
  cases h6 v mU;rcases hk with hk|hk
  ·exact wpAny_loadName_cell S.en.kind hk H h5 (h v hp)
  ·exact wpAny_loadName_free S.en.kind hk H h5 (h v hp) (OG oC)
def zm(S:aw O c m ac s)(hx:gW c.sc i=true)(hv:c.vars[i]?=some (some pv))(h:∀v,ai O s.heap c.P m v pv->Q v s):
  wpAny O.M A (eval (.Name (d7 c.sc i) pos) c.env) Q E s:=wpAny_Name (Fo S hx hv h) (zl (dP hx).2)
theorem vH:∀{l:List (Str×aq)},l.lookup x=some v->(x,v)∈l
 |(k,u)::l,h=>by
  rw [lookup_cons] at h;by_cases q:x=k
  ·subst q;rw [beq_self_eq_true] at h;cases h;exact .head _
  ·rw [beq_eq_false_iff_ne.mpr q] at h
   exact .tail _ (vH h)
def jD(S:aw O c m ac s)(W:Wf O fa F n)(hx:eK c.sc x=true)(hv:jC.lookup x=some v)(h:Q v s):
  wpAny O.M A (eval (.Name x pos) c.env) Q E s:=
 OH S W.ng W.nb hx (W.bl _ (vH hv)).1 (W.bl _ (vH hv)).2 h
def OI:aZ O F n (.cI i p):=λZ he S Z K=>wpAny_Constant_int ((K.res he).here S _ ⟨_,rfl⟩ (le_succ _))
def OJ:aZ O F n (.cN p):=λ{c m ac ao r A s Q E} Z he S Z K=>aQ ((K.res he).here S s.toks rfl (aD _))
def OK:aZ O F n (.cB b p):=λ{c m ac ao r A s Q E} Z he S Z K=>aQ ((K.res he).here S s.toks rfl (aD _))
def OL:aZ O F n (.cS l p):=λhc he S Z K=>Constant_str ((K.res he).here S _ ⟨⟨_,rfl⟩,DL hc⟩ (le_succ _))
def Fp:aZ O F n (.cL l p):=λhc he S Z K=>Constant_str ((K.res he).here S _ ⟨_,cY S.tk,rfl,(DL hc).2⟩ (le_succ _))
def OM:aZ O F n (.v i p):=λ{c m ac ao r A s Q E} hc he S Z K=>K.pS he λx e K=>zm S hc (Option.join_eq_some_iff.mp e) λv hv=>K.here S s.toks hv (aD _)
def ON(W:Wf O fa F n):aZ O F n (.g k p):=λ{c m ac ao r A s Q E} hc he S Z K=>K.pS he λx e K=>by
 refine bt (W.gl k _ e) λv hv hq=>?_;exact sN S W.ng hc hv (K.here S s.toks (hq _ _ _ _ S.sr) (aD _))
def OO(ia:aZ O F n a)(ib:aZ O F n b):aZ O F n (.bin o a b p):=λhc he S hr K=>
 aB hc λha hb=>bj he λx s1 e1 he=>bj he λy s2 e2 he=>K.pS he λz e3 K=>
 wpAny_BinOp (ia ha e1 S hr λm1 va sa S1 a1 p1=>ib hb e2 S1 hr λm2 vb sb S2 a2 p2=>K.op S2 (a1.trans a2) (LM hr.one S2.sr (p1.adv a2 S.op) p2 e3))
def OP(ia:aZ O F n a):aZ O F n (.neg a p):=λhc he S hr K=>bj he λx s1 e1 he=>K.pM he λi e2 K=>by
 show wpAny _ _ (eval (.UnaryOp .USub _ _) _) _ _ _;rw [arm_eval_UnaryOp];exact an (ia hc e1 S hr λm1 va sa S1 a1 p1=>an (wpAny_standAt (dT (K.op S1 a1 (LD S1.sr (fo e2▸p1))))))
def Fq{r:Expr}(h:(!r7 r)=true):behindInMarks op r=false:=by
 cases r<;>first|rfl|cases h
def OQ(ia:aZ O F n a)(ib:aZ O F n b):aZ O F n (.cmp o a b p):=λhc he S hr K=>
 aB hc λh0 hc=>aB hc λha hb=>bj he λx s1 e1 he=>bj he λy s2 e2 he=>K.pM he λz e3 K=>
 wpAny_Compare1 (ia ha e1 S hr λm1 va sa S1 a1 p1=>ib hb e2 S1 hr λm2 vb sb S2 a2 p2=>K.op S2 (a1.trans a2) (di (D9 hr.one S2.sr (p1.adv a2 S.op) p2 e3) (λv V h=>⟨m2,h.2.1,h.2.2,h.1⟩) λZ Z q=>q)) (Fq h0)
end
def Kp(am:List az)(h h':Heap):Prop:=h.objs.size<=h'.objs.size/\∀b o,b∉am->h.get? b=some o->h'.get? b=some o
def Kp.trans(a:Kp am h h')(b:Kp am h' OR):Kp am h OR:=⟨af a.1 b.1,λx o q e=>b.2 x o q (a.2 x o q e)⟩
section
def aC.app:aC (am++P) m a↔a∈am\/aC P m a:=by
 constructor
 ·rintro (q|q)
  ·rcases bD.mp q with q|q
   ·exact .inl q
   ·exact .inr (.inl q)
  ·exact .inr (.inr q)
 ·rintro (q|q|q)
  ·exact .inl (cE _ q)
  ·exact .inl (cj _ q)
  ·exact .inr q
def SR.hideL(x:SR O P m ac h)(hk:Kp [] h h')(hH:∀d∈am,h.objs.size<=d/\d<h'.objs.size):SR O (am++P) m ac h' where
 base a o e:=hk.2 a o (λq=>nomatch q) (x.base a o e)
 size:=af x.size hk.1
 sm:=x.sm
 prv a ha:=by
  rcases bD.mp ha with q|q
  ·exact ⟨af x.size (hH a q).1,(hH a q).2⟩
  ·exact ⟨(x.prv a q).1,bx (x.prv a q).2 hk.1⟩
 mem k a e:=⟨(x.mem k a e).1,bx (x.mem k a e).2.1 hk.1,λq=>by
  rcases bD.mp q with q|q
  ·exact aj (x.mem k a e).2.1 (cg.mpr (hH a q).1)
  ·exact (x.mem k a e).2.2 q⟩
 dom:=x.dom
 inj:=x.inj
 obj k a o e1 e2:=cO.step (λa o Z h=>hk.2 a o (λq=>nomatch q) h) (λa o q h z=>by
  rcases aC.app.mp z with z|z
  ·exact aj (cW h) (cg.mpr (hH a z).1)
  ·exact q z) (λZ Z h=>h) (x.obj k a o e1 e2) (λo h=>hk.2 a o (λq=>nomatch q) h)
 lck:=x.lck
 wk:=x.wk
 tb:=x.tb
def SR.priv(x:SR O P m ac h)(hs:Kp am h h')(hH:∀d∈am,d∈P):SR O P m ac h' where
 base a o e:=hs.2 a o (λq=>aj (cW e) (cg.mpr (x.prv a (hH a q)).1)) (x.base a o e)
 size:=af x.size hs.1
 sm:=x.sm
 prv a ha:=⟨(x.prv a ha).1,bx (x.prv a ha).2 hs.1⟩
 mem k a e:=⟨(x.mem k a e).1,bx (x.mem k a e).2.1 hs.1,(x.mem k a e).2.2⟩
 dom:=x.dom
 inj:=x.inj
 obj k a o e1 e2:=cO.step (λa o q h=>hs.2 a o (λz=>q (.inl (hH a z))) h) (λa o q Z z=>q z) (λZ Z h=>h) (x.obj k a o e1 e2)
  (λo h=>hs.2 a o (λz=>(x.mem k a e1).2.2 (hH a z)) h)
 lck:=x.lck
 wk:=x.wk
 tb:=x.tb
def ai.priv(x:ai O h P m v pv)(hs:Kp am h h')(hH:∀d∈am,d∈P):ai O h' P m v pv:=
 ai.step (λa o q h=>hs.2 a o (λz=>q (.inl (hH a z))) h) (λa o q Z z=>q z) (λZ Z h=>h) x
def SR.showL(x:SR O (am++P) m ac h):SR O P m ac h where
 base:=x.base
 size:=x.size
 sm:=x.sm
 prv a ha:=x.prv a (cj _ ha)
 mem k a e:=⟨(x.mem k a e).1,(x.mem k a e).2.1,λq=>(x.mem k a e).2.2 (cj _ q)⟩
 dom:=x.dom
 inj:=x.inj
 obj k a o e1 e2:=cO.step (λa o q h=>h) (λa o q Z z=>q (aC.app.mpr (.inr z))) (λZ Z h=>h) (x.obj k a o e1 e2) (λo h=>h)
 lck:=x.lck
 wk:=x.wk
 tb:=x.tb
def ai.showL(x:ai O h (am++P) m v pv):ai O h P m v pv:=
 ai.step (λa o q h=>h) (λa o q Z z=>q (aC.app.mpr (.inr z))) (λZ Z h=>h) x
def ai.hideL(x:ai O h P m v pv)(hk:Kp [] h h')(hH:∀d∈am,h.objs.size<=d):ai O h' (am++P) m v pv:=
 ai.step (λa o q h=>hk.2 a o (λq=>nomatch q) h) (λa o q h z=>by
  rcases aC.app.mp z with z|z
  ·exact aj (cW h) (cg.mpr (hH a z))
  ·exact q z) (λZ Z h=>h) x
def fP.moreL(x:fP sc ro env own P vals h):fP sc ro env own (am++P) vals h:=
 {x with cell:=λi n hi hc=>(x.cell i n hi hc).imp λZ z=>z.imp λZ z=>⟨z.1,z.2.1,cj _ z.2.2.1,z.2.2.2⟩}
def vI(sc:Scope)(env:Env)(P:List az):Prop:=∀x c,x∈bO sc->(env.kindOf x=some .cell\/env.kindOf x=some .free)->env.cells.lookup x=some c->c∈P
def fP.cellsIn(x:fP sc ro env own P vals h):vI sc env P:=by
 intro n c hn hk hc;refine b6 (getElem?_of_mem hn) λi hi=>?_;refine kn (x.cell i n hi hk) λc' Z a1 Z a3 Z=>?_;rw [a1] at hc;cases hc;exact a3
def fP.lessL(x:fP sc ro env own (am++P) vals h)(y:vI sc env P):fP sc ro env own P vals h:=
 {x with cell:=λi n hi hc=>(x.cell i n hi hc).imp λc z=>z.imp λZ z=>⟨z.1,z.2.1,y n c (ez hi) hc z.1,z.2.2.2⟩}
def fP.keepN(x:fP sc ro env own P vals h)(hl:∀o,h.get? env.locals=some o->h'.get? env.locals=some o)(hc:∀y∈bO sc,(env.kindOf y=some .cell\/env.kindOf y=some .free)->∀a,env.cells.lookup y=some a->∀o,h.get? a=some o->h'.get? a=some o):fP sc ro env own P vals h':=
 {x with
  loc:=by
   obtain ⟨mp,⟨o,es,ep,H,I⟩,q⟩:=x.loc;exact ⟨mp,⟨o,es,ep,hl _ H,I⟩,q⟩
  cell:=λi n hi hk=>by
   obtain ⟨c,v0,a1,a2,a3,a4,⟨o,a5,a6⟩,a7⟩:=x.cell i n hi hk;exact ⟨c,v0,a1,a2,a3,a4,⟨o,hc n (ez hi) hk c a1 o a5,a6⟩,a7⟩}
noncomputable abbrev fZ (c:Cx) (am:List az):Cx:={c with P:=am++c.P}
def ko.step(x:ko O h P m vals vars)(hk:∀a o,¬aC P m a->h.get? a=some o->h'.get? a=some o)(hx:∀a o,¬aC P m a->h.get? a=some o->¬aC P' m' a)
  (hm:∀k a,m.f k=some a->m'.f k=some a):ko O h' P' m' vals vars:=⟨x.1,λi pv q=>let ⟨v,a,b⟩:=x.2 i pv q;⟨v,a,b.step hk hx hm⟩⟩
def aw.hideL(x:aw O c m ac s)(hk:Kp [] s.heap V.heap)(hH:∀d∈am,s.heap.objs.size<=d/\d<V.heap.objs.size)(ht:s.toks<=V.toks):aw O (fZ c am) m ac V:=
 ⟨x.sr.hideL hk hH,(x.en.keep x.op λa o Z h=>hk.2 a o (λq=>nomatch q) h).moreL,⟨x.vr.1,λi pv h=>let ⟨v,a,b⟩:=x.vr.2 i pv h;⟨v,a,b.hideL hk λd q=>(hH d q).1⟩⟩,λa ha=>cj _ (x.op a ha),bx x.tk ht⟩
def aw.showL(x:aw O (fZ c am) m ac s)(y:vI c.sc c.env c.P)(ho:∀a∈c.own,a∈c.P):aw O c m ac s:=
 ⟨x.sr.showL,x.en.lessL y,⟨x.vr.1,λi pv h=>let ⟨v,a,b⟩:=x.vr.2 i pv h;⟨v,a,b.showL⟩⟩,ho,x.tk⟩
structure fG(c:Cx)(am:List az):Prop where
 le:∀a∈am,a∈c.P
 ow:∀a∈c.own,a∉am
 ci:∀y∈bO c.sc,(c.env.kindOf y=some .cell\/c.env.kindOf y=some .free)->∀a,c.env.cells.lookup y=some a->a∉am
def fG.priv(x:fG c am)(S:aw O c m ac s)(hs:Kp am s.heap V.heap)(hg:V.gens=s.gens)(ho:V.os=s.os)(ht:s.toks<=V.toks):aw O c m ac V/\aK (am++c.own) false m m s V:=
 ⟨⟨S.sr.priv hs x.le,S.en.keepN (λo e=>hs.2 _ o (x.ow _ S.en.locOwn) e) λy hy hk a ha o e=>hs.2 a o (x.ci y hy hk a ha) e,S.vr.step (λa o q h=>hs.2 a o (λz=>q (.inl (x.le a z))) h) (λZ Z q Z=>q) (λZ Z h=>h),S.op,bx S.tk ht⟩,
  ⟨λa o H Z h3=>hs.2 a o (λq=>H (cE _ q)) h3,λZ Z h=>.inl h,hs.1,λZ Z Z h=>h,rfl,rfl,hg,ho⟩⟩
def fG.new(S:aw O c m ac s)(h:∀a∈am,s.heap.objs.size<=a):fG (fZ c am) am:=
 ⟨λa q=>cE _ q,λa q z=>aj (S.sr.prv a (S.op a q)).2 (cg.mpr (h a z)),λy hy hk a ha z=>aj (S.sr.prv a (S.en.cellsIn y a hy hk ha)).2 (cg.mpr (h a z))⟩
def aK.freshL(x:aK (am++own) fr m m' s V)(ho:∀a∈am,s.heap.objs.size<=a):aK own fr m m' s V:=
 ⟨λa o H I h3=>x.keep a o (λq=>(bD.mp q).elim (λq=>aj (cW h3) (cg.mpr (ho a q))) H) I h3,x.new,x.size,x.live,x.L,x.W,x.gens,x.os⟩
def aw.unhideL(j3:aw O c bM zn bE)(hH:∀a∈am,bE.heap.objs.size<=a)(S:aw O (fZ {c with vals:=vals,vars:=vars} am) m ac s)(a:aK c.own fr bM m bE s)(hs:Kp am s.heap V.heap)(hg:V.gens=s.gens)(ho:V.os=s.os)(ht:s.toks<=V.toks):
  aw O {c with vals:=vals,vars:=vars} m ac V/\aK c.own fr bM m bE V:=by
 have hd:=fG.new j3 hH;refine aT (fG.priv (c:=fZ {c with vals:=vals,vars:=vars} am) ⟨hd.le,hd.ow,hd.ci⟩ S hs hg ho ht) λS2 a2=>?_;exact ⟨S2.showL j3.en.cellsIn j3.op,((a.weaken λa h=>cj _ h).trans a2.loose).freshL hH⟩
noncomputable def Mp.lock (m:Mp) (k:Nat):Mp:={m with L:=λj=>m.L j\/j=k}
def SR.lock(x:SR O P m ac h)(hk:ac.Y k=some o):SR O P (m.lock k) (ac.put k (.lk o)) h where
 base:=x.base
 size:=x.size
 sm:=x.sm
 prv:=x.prv
 mem:=x.mem
 dom j:=by
  show (m.f j).isSome=((ak ac.Y k (some (.lk o))) j).isSome;refine (x.dom j).symm▸?_;simp only [ak]
  split
  ·rename_i q;refine (q ..).symm▸(hk ..).symm▸?_;rfl
  ·rfl
 inj:=x.inj
 obj j a o' e1 e2:=by
  have j4:(if j=k then some (aV.lk o) else ac.Y j)=some o':=e2;have y:∀{q},cO O h P m a q->cO O h P (m.lock k) a q:=λr=>cO.step (m:=m) (m':=m.lock k) (λa o Z h=>h) (λa o q h z=>q z) (λZ Z h=>h) r (λo h=>h)
  split at j4
  ·rename_i q;cases j4;exact .lk (y (x.obj k a o (q▸e1) hk))
  ·exact y (x.obj j a o' e1 j4)
 lck j hj:=by
  show∃o',(if j=k then some (aV.lk o) else ac.Y j)=some (.lk o')
  split
  ·exact ⟨_,rfl⟩
  ·rename_i q;exact x.lck j (hj.resolve_right q)
 wk:=x.wk
 tb j o' e1 e2:=by
  have iB:(if j=k then some (aV.lk o) else ac.Y j)=some o':=e1
  split at iB
  ·rename_i q;cases iB;refine (q ..).symm▸?_;exact x.tb k o hk e2
  ·exact x.tb j o' iB e2
def SR.unlock{bM:Mp}(x:SR O P m ac h)(hk:ac.Y k=some (.lk o))(hL:∀j,bM.L j->m.L j/\j≠k):SR O P {m with L:=bM.L} (ac.put k o) h where
 base:=x.base
 size:=x.size
 sm:=x.sm
 prv:=x.prv
 mem:=x.mem
 dom j:=by
  show (m.f j).isSome=((ak ac.Y k (some o)) j).isSome;refine (x.dom j).symm▸?_;simp only [ak]
  split
  ·rename_i q;refine (q ..).symm▸(hk ..).symm▸?_;rfl
  ·rfl
 inj:=x.inj
 obj j a o' e1 e2:=by
  have j4:(if j=k then some o else ac.Y j)=some o':=e2;have y:∀{q},cO O h P m a q->cO O h P {m with L:=bM.L} a q:=λr=>cO.step (m:=m) (m':={m with L:=bM.L}) (λa o Z h=>h) (λa o q h z=>q z) (λZ Z h=>h) r (λo h=>h)
  split at j4
  ·rename_i q
   cases j4;have:=x.obj k a _ (q▸e1) hk;exact y this
  ·exact y (x.obj j a o' e1 j4)
 lck j hj:=by
  show∃o',(if j=k then some o else ac.Y j)=some (.lk o');refine (bK (hL j hj).2).symm▸?_;exact x.lck j (hL j hj).1
 wk:=x.wk
 tb j o' e1 e2:=by
  have iB:(if j=k then some o else ac.Y j)=some o':=e1
  split at iB
  ·rename_i q;cases iB;refine (q ..).symm▸?_;exact x.tb k _ hk e2
  ·exact x.tb j o' iB e2
def ai.sameF(x:ai O h P m v pv)(e:m'.f=m.f):ai O h P m' v pv:=
 ai.step (λa o q h=>h) (λa o q Z z=>q (by rcases z with z|⟨k,z⟩;exact .inl z;exact .inr ⟨k,by refine e▸?_;exact z⟩)) (λk a q=>by rw [e];exact q) x
def aw.sameF(x:aw O c m ac s)(e:m'.f=m.f)(r:SR O c.P m' ao s.heap):aw O c m' ao s:=
 ⟨r,x.en,⟨x.vr.1,λi pv h=>let ⟨v,a,b⟩:=x.vr.2 i pv h;⟨v,a,b.sameF e⟩⟩,x.op,x.tk⟩
def aK.unlock(x:aK own fr (m.lock k) mx s V):aK own fr m {mx with L:=m.L} s V where
 keep a o H I h3:=x.keep a o H (λj e=>.inl (I j e)) h3
 new:=x.new
 size:=x.size
 live j a hj e:=x.live j a (by rcases hj with q|q|q;exact .inl q;exact .inr (.inl q);exact .inr (.inr (.inl q))) e
 L:=rfl
 W:=x.W
 gens:=x.gens
 os:=x.os
def qz{l:List α}:(l.set i x)[j]?=if i=j then (if i<l.length then some x else none) else l[j]?:=by
 rw [List.getElem?_set]
def ko.set(x:ko O h P m vals vars)(p:ai O h P m v pv):ko O h P m (vals.set i (some v)) (dO i pv vars):=by
 refine ⟨by simp [dO,x.1],λj q hj=>?_⟩;simp only [dO] at hj;rw [qz] at hj⊢
 split at hj
 ·rename_i e
  split at hj
  ·rename_i hl
   cases hj;rw [if_pos e,if_pos (by rw [x.1];exact hl)];exact ⟨v,rfl,p⟩
  ·cases hj
 ·rename_i e
  rw [if_neg e];exact x.2 j q hj
def Fr{a b c d:az->Prop}{i i':az->Option aq->Prop}{u u':Option aq->Prop}(z:∃cc v,a cc/\b cc/\c cc/\d cc/\i cc v/\u v)(k:∀cc v,a cc->b cc->i cc v->i' cc v)(q:∀v,u v->u' v):∃cc v,a cc/\b cc/\c cc/\d cc/\i' cc v/\u' v:=
 rQ z λcc v a b c d i u=>⟨cc,v,a,b,c,d,k cc v a b i,q v u⟩
def Fs{k:Option NameKind}(h:k=some .local)(hy:k=some .cell\/k=some .free):False:=hy.elim (λq=>nomatch h.symm.trans q) λq=>nomatch h.symm.trans q
def qA(S:aw O c m ac s)(hx:kA c.sc i x=true)(p:ai O s.heap c.P m v pv)(cP:c.ro=false\/c.env.kindOf x=some .local)
  (hQ:∀V,aw O {c with vals:=c.vals.set i (some v),vars:=dO i pv c.vars} m ac V->aK c.own false m m s V->Q () V):wpAny O.M A (storeName c.env x v) Q E s:=by
 simp only [kA,and_eq_true,bB] at hx;have hi:=hx.1;have kO:=ez hi;have hlen:i<c.vals.length:=by refine (S.en.len ..).symm▸?_;exact (fB.mp hi).1
 have inj:∀j,(bO c.sc)[j]?=some x->j=i:=λj hj=>by
  have H:=(fB.mp hj)
  have I:=(fB.mp hi)
  refine b6 (H) λa1 a2=>?_;refine b6 (I) λb1 b2=>?_;exact (List.getElem_inj S.en.nodup).mp (a2.trans b2.symm)
 have c6:∀(d:az)(V:ay),d∈c.own->Heap.SameBut d s.heap V.heap->V.gens=s.gens->V.os=s.os->s.toks<=V.toks->fP c.sc c.ro c.env c.own c.P (c.vals.set i (some v)) V.heap->
   aw O {c with vals:=c.vals.set i (some v),vars:=dO i pv c.vars} m ac V/\aK c.own false m m s V:=by
  intro d V hd hs hg ho ht en;have kp:Kp c.own s.heap V.heap:=⟨by refine (hs.1 ..).symm▸?_;exact aD _,λb o hb h=>(hs.2 b (λq=>hb (q▸hd))).trans h⟩
  refine ⟨⟨S.sr.priv kp S.op,en,?_,S.op,bx S.tk ht⟩,⟨λa o H Z h3=>kp.2 a o H h3,λZ Z h=>.inl h,kp.1,λZ Z Z h=>h,rfl,rfl,hg,ho⟩⟩;have:=S.vr.set (i:=i) p;exact ⟨this.1,λj q hj=>let ⟨v',a,b⟩:=this.2 j q hj;⟨v',a,b.priv kp S.op⟩⟩
 have Ft:∀V:ay,fP c.sc c.ro c.env c.own c.P c.vals s.heap->(∃mp,V.heap.Ns c.env.locals mp/\∀(j:Nat) y u,(bO c.sc)[j]?=some y->(c.vals.set i (some v))[j]?=some (some u)->c.env.kindOf y=some .local->mp y=some u)->
   (∀(j:Nat) y,(bO c.sc)[j]?=some y->(c.env.kindOf y=some .cell\/c.env.kindOf y=some .free)->∃cc v0,c.env.cells.lookup y=some cc/\cc≠c.env.locals/\cc∈c.P/\(c.ro=false->cc∈c.own)/\V.heap.IsCell cc v0/\∀u,(c.vals.set i (some v))[j]?=some (some u)->v0=some u)->
   fP c.sc c.ro c.env c.own c.P (c.vals.set i (some v)) V.heap:=λV e H I=>
  {e with len:=by refine (length_set ..).symm▸?_;exact e.len,loc:=H,cell:=I}
 have other:∀{j:Nat}{y:Str}{u:aq},(bO c.sc)[j]?=some y->y≠x->(c.vals.set i (some v))[j]?=some (some u)->c.vals[j]?=some (some u):=λ{j y u} hj hy hu=>by
  rw [qz,if_neg (λq=>hy (by rw [<-q,hi] at hj;exact (ax hj).symm))] at hu;exact hu
 have here:∀{j:Nat}{u:aq},(bO c.sc)[j]?=some x->(c.vals.set i (some v))[j]?=some (some u)->u=v:=λ{j u} hj hu=>by
  rw [qz,if_pos (inj j hj).symm,if_pos hlen] at hu;exact (ax (ax hu)).symm
 rcases S.en.known x kO with hk|hk
 ·refine bt (S.en.loc) λmp sO hl=>?_
  refine wpAny_storeName_local hk sO (λh' jA fb=>?_) (by refine (S.en.kind ..).symm▸?_;rfl);suffices he:fP c.sc c.ro c.env c.own c.P (c.vals.set i (some v)) h' from
   let q:=c6 _ {s with heap:=h',toks:=s.toks+1} S.en.locOwn fb rfl rfl (le_succ _) he
   hQ _ q.1 q.2
  refine Ft {s with heap:=h'} S.en ⟨_,jA,λj y u hj hu hy=>?_⟩ λj y hj hy=>?_
  ·show (if y=x then some v else mp y)=some u
   by_cases q:y=x
   ·subst q;exact (bv rfl).symm▸(here hj hu).symm▸rfl
   ·refine (bK q).symm▸?_;exact hl j y u hj (other hj q hu) hy
  ·exact Fr (S.en.cell j y hj hy) (λcc v0 a1 a2 a5=>a5.imp λo w=>⟨(fb.2 _ a2).trans w.1,w.2⟩) λv0 a7 u hu=>a7 u (other hj (λq=>Fs hk (q▸hy)) hu)
 ·rcases cP with cP|cP
  case inr=>exact (Fs cP hk).elim
  refine rQ (S.en.cell i x hi hk) λcc v0 a1 a2 a3 a4 a5 a7=>?_;have Fu:c.env.kindOf x=some .cell:=by
   exact hk.resolve_right λhk=>(S.en.rw cP x kO).elim (λq=>nomatch hk.symm.trans q) λq=>nomatch hk.symm.trans q
  refine wpAny_storeName_cell S.en.kind Fu a1 a5 λh' yU fb=>?_;suffices he:fP c.sc c.ro c.env c.own c.P (c.vals.set i (some v)) h' from
   let q:=c6 cc {s with heap:=h'} (a4 cP) fb rfl rfl (aD _) he
   hQ _ q.1 q.2
  refine Ft {s with heap:=h'} S.en ?_ λj y hj hy=>?_
  ·exact S.en.loc.imp λmp z=>⟨z.1.imp λo w=>w.imp λes w=>w.imp λep w=>⟨(fb.2 _ (Ne.symm a2)).trans w.1,w.2⟩,λj y u hj hu hy=>z.2 j y u hj (other hj (λq=>nomatch Fu.symm.trans (show c.env.kindOf x=some .local from q▸hy)) hu) hy⟩
  ·by_cases q:y=x
   ·subst q
    exact ⟨cc,some v,a1,a2,a3,a4,yU,λu hu=>(here hj hu).symm▸rfl⟩
   ·exact Fr (S.en.cell j y hj hy) (λc2 v2 b1 b2 b5=>b5.imp λo w=>⟨(fb.2 _ (λz=>q (S.en.apart y x cc (z▸b1) a1))).trans w.1,w.2⟩) λv2 b7 u hu=>b7 u (other hj q hu)
end
section
variable{c:Cx}
def g8{Q:Args->ay->Prop}(hp:args.any (·.1)=false)(h:wpAny M A (spliced args) (λD V=>Q ⟨D,[]⟩ V) E s):
  wpAny M A (evalArgs f true args []) Q E s:=by
 rcases args with _|⟨⟨_|_,x⟩,rest⟩
 ·unfold evalArgs
  refine an (di h (λD V h'=>?_) λZ Z x=>x);refine dT ?_;exact an (aQ (an (aQ (aQ h'))))
 ·exact Calls.evalArgs_plain h
 ·cases hp
def sP(h:dE e=true):starEach (e::es) c.env=(false,eval e c.env)::starEach es c.env:=by
 cases e<;>first|rfl|cases h
def vJ(h:dE e=true):backTo pos (starEach [e] c.env)=[(false,eval e c.env)]:=by
 rw [sP h];rfl
def Fv(h:dE e=true)(h':dE f=true):backTo pos (starEach [e,f] c.env)=[(false,eval e c.env),(false,eval f c.env)]:=by
 rw [sP h,sP h'];rfl
theorem mV:∀{ps:List PE},jx sc ps=true->(backTo pos (starEach (gX sc ps) c.env)).any (·.1)=false
 |[],_=>rfl
 |p::ps,h=>by
  show (backTo pos (starEach (aE sc p::gX sc ps) c.env)).any (·.1)=false;rw [sP (dP (dP h).1).1];exact mV (dP h).2
theorem Fw:∀{ps:List PE},(gX sc ps).length=ps.length
 |[]=>rfl
 |p::ps=>ae (·+1) Fw
theorem vK:∀{ps:List PE}{ac ao:ah}{l:List PV},iw F ps D ac=some (l,ao)->l.length=ps.length
 |[],_,_,_,h=>by cases h;rfl
 |p::ps,_,_,_,h=>bj h λx s1 e1 h=>bj h λy s2 e2 h=>by cases h;exact ae (·+1) (vK e2)
def vF.res{x r:List PV}{Q:List aq->ay->Prop}(h:some (x,fY)=some (r,ao))(K:vF O c m s ao r Q):vF O c m s fY x Q:=by cases h;exact K
def Fx:lU O F n []:=λpos Z he S Z K=>spliced_nil (K.res he _ _ _ S .refl rfl)
def zo(ia:aZ O F n p)(ib:lU O F n ps):lU O F n (p::ps):=λ{c m ac ao r A s Q E} pos hc he S hr K=>by
 refine aB hc λH h3=>bj he λx s1 e1 he=>bj he λl s2 e2 he=>?_;have K:=K.res he;show wpAny _ _ (spliced (backTo pos (starEach (aE c.sc p::gX c.sc ps) c.env))) _ _ _;rw [sP (dP H).1];exact spliced_cons (ia (dP H).2 e1 S hr λm1 va sa S1 a1 p1=>ib pos h3 e2 S1 hr λm2 vb sb S2 a2 p2=>K m2 _ sb S2 (a1.trans a2) (.cons (p1.adv a2 S.op) p2))
def mW{Q:List aq->ay->Prop}(ia:aZ O F n a)(hc:(dE (aE c.sc a)&&ok c.sc a)=true)(e:ev F a c.vars ac=some (x,ao))(S:aw O c m ac s)(hr:bw (n+1) A)(K:fX O c m s ao x λv V=>Q [v] V):
  wpAny O.M A (spliced (backTo pos (starEach [aE c.sc a] c.env))) Q E s:=by
 rw [vJ (dP hc).1];exact spliced_cons (ia (dP hc).2 e S hr λm1 va sa S1 a1 p1=>spliced_nil (K m1 va sa S1 a1 p1))
def jn(hc:(dE (aE c.sc a)&&ok c.sc a)=true):(backTo pos (starEach [aE c.sc a] c.env)).any (·.1)=false:=by
 rw [vJ (dP hc).1];rfl
def zp{Q:List aq->ay->Prop}(ia:aZ O F n a)(ib:aZ O F n b)(hc:((dE (aE c.sc a)&&ok c.sc a)&&(dE (aE c.sc b)&&ok c.sc b))=true)(e1:ev F a c.vars ac=some (x,fY))(e2:ev F b c.vars fY=some (y,ao))(S:aw O c m ac s)(hr:bw (n+1) A)
  (K:∀m' u v V,aw O c m' ao V->aK c.own false m m' s V->ai O V.heap c.P m' u x->ai O V.heap c.P m' v y->Q [u,v] V):
  wpAny O.M A (spliced (backTo pos (starEach [aE c.sc a,aE c.sc b] c.env))) Q E s:=by
 refine aB hc λha hb=>?_;rw [Fv (dP ha).1 (dP hb).1];exact spliced_cons (ia (dP ha).2 e1 S hr λm1 va sa S1 a1 p1=>spliced_cons (ib (dP hb).2 e2 S1 hr λm2 vb sb S2 a2 p2=>spliced_nil (K m2 va vb sb S2 (a1.trans a2) (p1.adv a2 S.op) p2)))
def qB(hc:((dE (aE c.sc a)&&ok c.sc a)&&(dE (aE c.sc b)&&ok c.sc b))=true):(backTo pos (starEach [aE c.sc a,aE c.sc b] c.env)).any (·.1)=false:=by
 rw [Fv (dP (dP hc).1).1 (dP (dP hc).2).1];rfl
def OS(W:Wf O fa F n)(ia:aZ O F n a)(ib:aZ O F n b):aZ O F n (.rng a b q p):=λhc he S hr K=>
 aB hc λhg hc=>bj he λx s1 e1 he=>bj he λy s2 e2 he=>K.pS he λz e3 K=>aG e3 λi e4 e3=>aG e3 λj e5 e3=>b8 e3 λjZ e3=>
 wpAny_Call_Name_kw (jD S W hg rfl (PySem.callWith_type (qB hc) (g8 (qB hc) (zp ia ib hc e1 e2 S hr λm2 u v sb S2 a2 p1 p2=>
  (ax e3▸K).op S2 a2 (Eh hr.one S2.sr (fo e4▸p1) (fo e5▸p2) jZ)))))
def OT(it:gh O F n t)(ia:aZ O F n a)(ib:aZ O F n b):aZ O F n (.ite t a b p):=λ{c m ac ao r A s Q E} hc he S hr K=>by
 refine aB hc λH hc=>aB hc λI h3=>bj he λq s1 e1 he=>?_;show wpAny _ _ (eval (.IfExp _ _ _ p) _) _ _ _;rw [arm_eval_IfExp];refine an (it H e1 S hr λm1 sa S1 a1=>?_);cases q with
 |true=>exact ia I he S1 hr (K.after a1)
 |false=>exact ib h3 he S1 hr (K.after a1)
def OU(h:Di k=true)(x y:aq):subscripted k false x y=operate [x,y] (getItem x y):=by
 cases k<;>first|rfl|cases h
def OV(ia:aZ O F n a)(ib:aZ O F n b):aZ O F n (.idx a b p):=λhc he S hr K=>
 aB hc λh0 hc=>aB hc λH I=>bj he λx s1 e1 he=>bj he λy s2 e2 he=>K.pS he λz e3 K=>
 Subscript_ (ia H e1 S hr λm1 va sa S1 a1 p1=>ib I e2 S1 hr λm2 vb sb S2 a2 p2=>K.op S2 (a1.trans a2) (L5 hr.one S2.sr (p1.adv a2 S.op) p2 e3 (OU h0 _ _)))
end
section
variable(O:Wd)(F:je)(n:Nat)
def sQ(b:PB):Prop:=∀{c:Cx}{m:Mp}{ac ao:ah}{r:Option Int}{A:Around}{s:ay}{Q:cJ}{E:cJ},
 yl c.sc b=true->ye F b c.vars ac=some (r,ao)->aw O c m ac s->bw (n+1) A->(∀m' v V,aw O c m' ao V->aK c.own false m m' s V->sg r v->Q v V)->wpAny O.M A (valueOrNone (evalOpt (yk c.sc b) c.env)) Q E s
end
section
variable{O:Wd}{c:Cx}
def OW:sQ O F n .no:=λZ he S Z K=>by cases he;exact aQ (K _ _ _ S .refl rfl)
def OX(ia:aZ O F n e):sQ O F n (.at_ e):=λhc he S hr K=>bj he λx s1 e1 he=>qk he λe2 e3=>cK e2 λi e4 e5=>by
 subst e3;subst e5;exact ia hc e1 S hr λm1 va sa S1 a1 p1=>K m1 va sa S1 a1 (by rw [fo e4] at p1;exact p1)
def OY:eval (.Slice l u none p) c.env=(do
  let l<-valueOrNone (evalOpt l c.env);let u<-holding [l] (valueOrNone (evalOpt u c.env));let s<-holding [l,u] (valueOrNone none)
  newFields "slice" [l,u,s]):=rfl
def OZ{lo hi:PB}(ia:aZ O F n a)(il:sQ O F n lo)(ih:sQ O F n hi):aZ O F n (.sl a lo hi q p):=λ{c m ac ao r A s Q E} hc he S hr K=>by
 refine aB hc λH hc=>aB hc λI h3=>bj he λx s1 e1 he=>bj he λl s2 e2 he=>bj he λh s3 e3 he=>K.pS he λz e4 K=>?_;refine Subscript_ (ia H e1 S hr λm1 va sa S1 a1 p1=>?_);rw [OY];refine an (il I e2 S1 hr λm2 vl sl S2 a2 bl=>an (dT (ih h3 e3 S2 hr λm3 vh sh S3 a3 bh=>an (dT (aQ ?_)))));exact wpAny_with_toks (aD _) (di (Mf hr.one S3.sr ((p1.adv a2 S.op).adv a3 S.op) bl bh e4 λZ=>rfl) (λi V h ht=>wpAny_with_toks ht (di h (λv V h ht=>let ⟨m',R,x,p⟩:=h;K m' v V (S3.adv0 x R ht) (((a1.trans a2).trans a3).trans (x.weaken iv)) p) λZ Z q=>q.elim)) λZ Z q=>q.elim)
def O0(il:lU O F n ps):aZ O F n (.tup ps p):=λhc he S hr K=>
 aB hc λH I=>bj he λl s1 e1 he=>Tuple_ (il p I e1 S hr λm1 D sa S1 a1 p1=>(K.res he).op S1 a1 (Mh S1.sr p1 (vK e1▸cm H)))
def O1(il:lU O F n ps):aZ O F n (.lst h ps p):=λ{c m ac ao r A s Q E} hc he S hr K=>
 aB hc λH I=>bj he λl s1 e1 he=>aG he λds e2 he=>List_ (il p I e1 S hr λm1 D sa S1 a1 p1=>by
 cases h with
 |none=>exact (K.res he).op S1 a1 (Mi S1.sr p1 (vK e1▸cm H) e2)
 |some k=>exact K.op S1 a1 (Mj S1.sr p1 (vK e1▸cm H) e2 he))
def vL(W:Wf O fa F n)(hr:bw (n+1) A)(S:aw O c m ac s)(hl:bL O s.heap c.P m vals l)(h:F.fn f l ac=some (r,ao))(ha:sM f vals=⟨pos,kw⟩):
  wpAny O.M A (call (.ref (fa f)) pos kw) (aJ O c.P m s ao r) br s:=
 wpAny_call (codeAny_mono (ha▸W.calls f l ac _ h A c.P m s vals S.tk hr.pred S.sr hl) λres V h=>by
  obtain ⟨v,hv,q⟩:=h;subst hv;exact q)
def zq(h:f≠22)(vals:List aq):sM f vals=⟨vals,[]⟩:=bK h
def O2(W:Wf O fa F n)(il:lU O F n ps):aZ O F n (.call f ps q p):=λ{c m ac ao r A s Q E} hc he S hr K=>by
 refine aB hc λhg hc=>aB hc λhf gG=>bj he λl s1 e1 e2=>?_;have hf:=cm hf;obtain ⟨H,o,fd,I,h3⟩:=W.fn f hf;exact wpAny_Call_Name_kw (sN S W.ng hg H (Calls.callWith_function (g8 (mV gG) (il p gG e1 S hr λm1 D V S1 a1 p1=>
  ⟨⟨S1.sr.base _ _ I,h3⟩,K.op S1 a1 (vL W hr S1 p1 e2 (zq ((cX (af hf (by decide:15<=22)))) D))⟩))))
def sR(h:lM o=true):attributeBase o name c.env t=t:=by
 cases o with
 |Call f as ks p=>
  cases as
  ·cases h
  ·cases f<;>rfl
 |_=>rfl
def sS(O:Wd)(K:az->ay->Prop)(v:aq)(V:ay):Prop:=∃x l X,v=.ref x/\qx O V/\ga O V.heap X x l/\K x V
def sS.of{K:az->ay->Prop}(S:aw O c m ac s)(p:ai O s.heap c.P m v (.hdr j))(k:∀x,v=.ref x->K x s):sS O K v s:=
 let ⟨x,l,e,_,q⟩:=p;⟨x,l,_,e,S.sr.base,q,k x e⟩
def Fy(W:Wf O fa F n)(hf:20<=f/\f<28)(hb:lM o=true)(hl:og sT pos=true)
  (O3:methodCallForm (args.length+zr.length) (backTo pos (starEach args c.env)) (backToKw pos (keywordEach zr c.env))=true)
  (h:wpAny O.M A (eval o c.env) (sS O λx V=>wpAny O.M A (callWith pos (.ref (fa f)) [.ref x] (backTo pos (starEach args c.env)) (backToKw pos (keywordEach zr c.env))) Q E V) E s):
  wpAny O.M A (eval (.Call (.Attribute o (kz f) sT) args zr pos) c.env) Q E s:=by
 rw [arm_eval_Call,sR hb];refine an (di h (λv V h=>?_) λZ Z q=>q);obtain ⟨x,l,X,rfl,zt,q,h'⟩:=h;refine an (wpAny_standAt ?_);have sU:methodCallPos true o c.env sT pos=pure pos:=by unfold methodCallPos;rw [show (sT.endLine==pos.line)=true from hl];rfl
 unfold methodCall;rw [O3];exact an (dT ((W.mt f hf.1 hf.2).2 A V x _ _ _ _ _ zt q (an (wpAny_of_eq sU h'))))
def zu(hc:jx sc ps=true)(hl:ps.length<20):methodCallForm ((gX sc ps).length+([]:List Keyword).length) (backTo pos (starEach (gX sc ps) c.env)) (backToKw pos (keywordEach [] c.env))=true:=by
 have h:=mV (c:=c) (pos:=pos) hc;have H:(backTo pos (starEach (gX sc ps) c.env)).all (!·.1)=true:=by
  rw [List.any_eq_false] at h;exact dA.mpr λx hx=>eq_false_iff.mpr (h x hx)▸rfl
 rw [Fw];exact f9.mpr ⟨f9.mpr ⟨H,rfl⟩,fj (dJ hl (by decide))⟩
def O4(W:Wf O fa F n)(ia:aZ O F n a)(il:lU O F n ps):aZ O F n (.meth f a ps q p):=λ{c m ac ao r A s Q E} hc he S hr K=>by
 refine aB hc λhf hc=>aB hc λhl hc=>aB hc λhb hc=>aB hc λhlen hc=>aB hc λH gG=>bj he λx s1 e1 he=>bj he λl s2 e2 he=>aG he λj e5 e3=>?_;have hf:=cm hf;refine lu ((W.mt f hf.1 hf.2.1).1) λo' fd I h3=>?_;refine Fy W ⟨hf.1,hf.2.1⟩ hb hl (zu gG (cm hlen)) (ia H e1 S hr λm1 v V S1 a1 p1=>?_);rw [sd e5] at p1;refine sS.of S1 p1 λx hx=>?_;subst hx;exact Calls.callWith_function (g8 (mV gG) (il p gG e2 S1 hr λm2 D V S2 a2 p2=>
  ⟨⟨S2.sr.base _ _ I,h3⟩,K.op S2 (a1.trans a2) (vL W hr S2 (.cons (p1.adv a2 S.op) p2) e3 (zq hf.2.2 (_::D)))⟩))
def O5(W:Wf O fa F n)(ia:aZ O F n a)(il:aZ O F n b)(ib:aZ O F n kw):aZ O F n (.methK f a b kw kp q p):=λ{c m ac ao r A s Q E} hc he S hr K=>by
 refine aB hc λhf hc=>aB hc λhl hc=>aB hc λhb hc=>aB hc λH hc=>aB hc λI h3=>bj he λx s1 e1 he=>bj he λl s2 e2 he=>bj he λu s3 e3 he=>aG he λj e5 e4=>?_;have hf:=bB.mp hf;subst hf;refine lu ((W.mt 22 (by decide) (by decide)).1) λo' fd h4 h5=>?_;refine Fy W ⟨by decide,by decide⟩ hb hl ?_ (ia H e1 S hr λm1 v V S1 a1 p1=>?_)
 ·rw [vJ (dP I).1];rfl
 rw [sd e5] at p1;refine sS.of S1 p1 λx hx=>?_;subst hx;rw [vJ (dP I).1];refine callWith_function_kw (o:=o') (fd:=fd) (evalArgs_kw rfl (spliced_cons (il (dP I).2 e2 S1 hr λm2 vb V S2 a2 p2=>spliced_nil ?_)));refine wpAny_evalAll_cons (an (ib h3 e3 S2 hr λm3 vk V S3 a3 p3=>an (wpAny_standAt (aQ (wpAny_evalAll_nil ?_)))));exact ⟨⟨S3.sr.base _ _ h4,h5⟩,K.op S3 ((a1.trans a2).trans a3) (vL W hr S3 (.cons ((p1.adv a2 S.op).adv a3 S.op) (.cons (p2.adv a3 S.op) (.cons p3 .nil))) e4 rfl)⟩
def O6(W:Wf O fa F n)(ia:aZ O F n a):aZ O F n (.lenH a q p):=λ{c m ac ao r A s Q E} hc he S hr K=>by
 refine aB hc λhg hc=>bj he λx s1 e1 he=>aG he λj e4 he=>bj he λy s2 e3 he=>K.pS he λz e5 K=>aG e5 λk e7 e8=>b8 e8 λhk e9=>?_;obtain rfl:=ax e9;refine wpAny_Call_Name_kw (jD S W hg rfl (Calls.callWith_builtin (jn hc) (g8 (jn hc) (mW ia hc e1 S hr λm1 va sa S1 a1 p1=>?_))));rw [sd e4] at p1;have sV:=p1;obtain ⟨x,l,rfl,_,q⟩:=sV;refine vG<|W.ln A _ x l _ _ hr S1.sr.base q λA' zv=>codeAny_with_toks (aD _) (codeAny_mono (W.calls 20 _ _ _ e3 A' c.P m1 _ [.ref x] S1.tk zv S1.sr (.cons p1 .nil)) λres V h ht=>?_)
 obtain ⟨v,hv,m2,R,a2,p2⟩:=h;subst hv;rw [fo e7] at p2;obtain ⟨t,rfl⟩:=p2;refine ⟨k.toNat,t,by rw [Int.toNat_of_nonneg hk.1],by have:=hk.2;lia,λtk qy gH=>?_⟩;rw [Int.toNat_of_nonneg hk.1];exact K m2 _ _ ((S1.adv0 a2 R ht).tok _ gH) (a1.trans ((a2.weaken iv).trans (aK.tok _))) ⟨_,rfl⟩
def O7(W:Wf O fa F n)(ia:aZ O F n a):aZ O F n (.strH a q p):=λ{c m ac ao r A s Q E} hc he S hr K=>by
 refine aB hc λhg hc=>bj he λx s1 e1 he=>aG he λj e4 he=>bj he λy s2 e3 he=>K.pM he λz e7 K=>?_;refine wpAny_Call_Name_kw (jD S W hg rfl (PySem.callWith_type (jn hc) (g8 (jn hc) (mW ia hc e1 S hr λm1 va sa S1 a1 p1=>?_))));rw [sd e4] at p1;have sV:=p1;obtain ⟨x,l,rfl,_,q⟩:=sV;refine vG<|W.st A _ x l _ _ hr S1.sr.base q λA' zv=>codeAny_with_toks (aD _) (codeAny_mono (W.calls 21 _ _ _ e3 A' c.P m1 _ [.ref x] S1.tk zv S1.sr (.cons p1 .nil)) λres V h ht=>?_)
 obtain ⟨v,hv,m2,R,a2,p2⟩:=h;subst hv;rw [dw e7] at p2;have O8:=p2;obtain ⟨⟨t,rfl⟩, -, -⟩:=O8;exact ⟨_,_,rfl,K m2 _ _ (S1.adv0 a2 R ht) (a1.trans (a2.weaken iv)) p2⟩
def O9(W:Wf O fa F n)(ia:aZ O F n a):aZ O F n (.newH a q p):=λ{c m ac ao r A s Q E} hc he S hr K=>
 aB hc λhg hc=>b8 he λoJ he=>bj he λx s1 e1 he=>aG he λq e3 he=>b8 he λho he=>
 wpAny_Call_Name_kw (sN S W.ng hg W.cls (callWith_of (by rw [jn hc];rfl) W.kc (g8 (jn hc) (mW ia hc e1 S hr λm1 va sa S1 a1 p1=>
  ⟨S1.sr.base,(K.res he).op S1 a1 (W.n1 A _ _ _ _ _ _ _ oJ S1.tk hr S1.sr ((u3 e3).1▸p1) (u3 e3).2 ho)⟩))))
def O'(W:Wf O fa F n):aZ O F n (.newH0 k q p):=λ{c m ac ao r A s Q E} hc he S hr K=>
 b8 he λoJ he=>bj he λx s1 e1 he=>
 wpAny_Call_Name_kw (sN S W.ng hc W.cls (callWith_of rfl W.kc (g8 rfl (spliced_nil
  ⟨S.sr.base,(K.res he).op0 S (W.n0 A _ _ _ _ _ _ _ oJ S.tk hr S.sr e1)⟩))))
def Pa(h:Q v s):wpAny O.M A (letTemporaryGo b o q>>=λZ=>pure v) Q E s:=
 an (wpAny_letTemporaryGo (aQ h))
def Pb(W:Wf O fa F n)(ia:aZ O F n a):aZ O F n (.attr a p):=λ{c m ac ao r A s Q E} hc he S hr K=>by
 refine aB hc λhb H=>bj he λx s1 e1 he=>K.pM he λj e3 K=>?_;show wpAny _ _ (eval (.Attribute (aE c.sc a) "_headers" p) _) _ _ _;rw [arm_eval_Attribute,sR hb];refine an (ia H e1 S hr λm1 va sa S1 a1 p1=>an (wpAny_standAt ?_));rw [sd e3] at p1;obtain ⟨x,l,rfl,hm,q⟩:=p1;exact an (dT (W.at_ A _ x l _ _ _ S1.sr.base q λtk ht=>Pa (K m1 _ _ (S1.tok tk ht) (a1.trans (aK.tok tk)) ⟨_,rfl,hm⟩)))
def Pc(h:p∈jC):(∃x,p.2=.builtin x)\/∃x,p.2=.type x:=by
 have:jC.all (λp=>match p.2 with|.builtin _=>true|.type _=>true|_=>false)=true:=rfl;have:=dA.mp this p h
 revert this
 cases p.2<;>intro h<;>first|(exact .inl ⟨_,rfl⟩)|(exact .inr ⟨_,rfl⟩)|cases h
def vM(hf:jC.lookup x=some f)(hp:args.any (·.1)=false)
  (h:wpAny M A (spliced args) (λD bq=>wpAny M A (call f D []) Q E bq) E s):wpAny M A (callWith pos f [] args []) Q E s:=by
 rcases Pc (vH hf) with ⟨y,q⟩|⟨y,q⟩
 ·subst q;exact Calls.callWith_builtin hp (g8 hp h)
 ·subst q;exact PySem.callWith_type hp (g8 hp h)
def Fz(h:n9 b=some q):jC.lookup q.1=some q.2:=by
 have:∀b,((n9 b).all λq=>jC.lookup q.1==some q.2)=true:=λb=>by cases b<;>decide+kernel
 have:=this b;rw [h] at this;exact bB.mp this
def Pd(W:Wf O fa F n)(ia:aZ O F n a):aZ O F n (.bi b a q p):=λ{c m ac ao r A s Q E} hc he S hr K=>by
 refine aB hc λhg hc=>aB hc λhs hc=>bj he λx s1 e1 he=>K.pM he λd e2 K=>?_;refine b6 (isSome_iff_exists.mp hs) λf hf=>?_;have Pe:eK c.sc f.1=true:=by rw [hf] at hg;exact hg
 show wpAny _ _ (eval (.Call (.Name ((n9 b).elim "" (·.1)) q) [aE c.sc a] [] p) _) _ _ _;rw [hf];exact wpAny_Call_Name_kw (jD S W Pe (Fz hf) (vM (Fz hf) (jn hc) (mW ia hc e1 S hr λm1 va sa S1 a1 p1=>K.op S1 a1 (No hr.one hf S1.sr p1 e2))))
def Pf(W:Wf O fa F n)(ia:aZ O F n a):aZ O F n (.lenS a q' p' q p):=λ{c m ac ao r A s Q E} hc he S hr K=>
 aB hc λhg hc=>aB hc λhs hc=>bj he λx s1 e1 he=>K.pS he λz e5 K=>aG e5 λl e2 e3=>b8 e3 λh4 e6=>by
 obtain rfl:=ax e6;exact wpAny_Call_Name_kw (jD S W hg rfl (vM (x:= "len") (args:=[(false,eval (.Call (.Name "set" q') [aE c.sc a] [] p') c.env)]) rfl rfl (spliced_cons
  (wpAny_Call_Name_kw (jD S W hs rfl (vM (x:= "set") rfl (jn hc) (mW ia hc e1 S hr λm1 va sa S1 a1 p1=>
   oI (Nn hr.one S1.sr p1 e2 h4 λv V R a2 hl ht=>spliced_nil (K.op (S1.adv0 a2 R ht) (a1.trans (a2.weaken iv)) hl)))))))))
def Pg(W:Wf O fa F n)(ia:aZ O F n a)(ib:aZ O F n b):aZ O F n (.qrep a b lp rq rp fq fp):=λ{c m ac ao r A s Q E} hc he S hr K=>by
 refine aB hc λhg hc=>aB hc λhl hc=>aB hc λhb hc=>aB hc λhz hc=>aB hc λH I=>bj he λx s1 e1 he=>bj he λy s2 e2 he=>aG he λJ e3 he=>aG he λe e4 he=>b8 he λhlen he=>?_;have Ph:∀w,w=J\/w=bZ e (cZ [13,10] [] J 0)->F.fn 0 [.d (.str w)] s2=some (r,ao):=by
  unfold uN at he
  split at he
  ·rename_i q;exact λw hw=>hw.elim (λz=>z▸he) λz=>z▸q▸he
  ·exact av he
 obtain ⟨g1,o,fd,g2,g3⟩:=W.fn 0 (by decide);have gG:jx c.sc [.cL [13,10] lp,b]=true:=by
  show ((true&&uR [13,10])&&((dE (aE c.sc b)&&ok c.sc b)&&true))=true;rw [hz,I];rfl
 have zw:iw F [.cL [13,10] lp,b] c.vars s1=some ([.lit [13,10],y],s2):=by
  show bS (bS (ev F b c.vars s1) λx s=>bS (some ([],s)) λl s=>some (x::l,s)) (λl s=>some (.lit [13,10]::l,s))=_;rw [e2];rfl
 refine wpAny_Call_Name_kw (sN S W.ng hg g1 (Calls.callWith_function (o:=o) (fd:=fd) (g8 rfl (spliced_cons ?_))));show wpAny _ _ (eval (.Call (.Attribute (aE c.sc a) "replace" rq) (gX c.sc [.cL [13,10] lp,b]) [] rp) _) _ _ _;rw [arm_eval_Call,sR hb];refine an (ia H e1 S hr λm1 v V S1 a1 p1=>an (wpAny_standAt ?_));have sU:methodCallPos true (aE c.sc a) c.env rq rp=pure rp:=by unfold methodCallPos;rw [show (rq.endLine==rp.line)=true from hl];rfl
 rw [dw e3] at p1;have sV:=p1;obtain ⟨⟨t,rfl⟩,_⟩:=sV;unfold methodCall;rw [zu gG (by show (2:Nat)<20;decide)];refine an (dT (getMethod_builtin (typeIs_str _ _ _) zi.1 zi.2.1 zi.2.2 (λZ q=>nomatch q) (an (wpAny_of_eq sU ?_))));refine Calls.callWith_builtin (mV gG) (g8 (mV gG) (zo Fp (zo ib Fx) rp gG zw S1 hr λm2 D ω S2 a2 p2=>oI (di (NR hlen W.nbk S2.sr (p1.adv a2 S.op) (NQ e4▸p2)) (λv s3 h ht=>?_) λZ Z q=>q)));obtain ⟨w,hw,m3,R3,a3,p3⟩:=h;have S3:=S2.adv0 a3 R3 ht;exact spliced_nil ⟨⟨S3.sr.base _ _ g2,g3⟩,K.op S3 ((a1.trans a2).trans (a3.weaken iv)) (vL W hr S3 (.cons p3 .nil) (Ph w hw) (zq (by decide) [_]))⟩
def Pi(W:Wf O fa F n)(ia:aZ O F n a)(il:lU O F n ps):aZ O F n (.me b a ps q p):=λ{c m ac ao r A s Q E} hc he S hr K=>by
 refine aB hc λhx hc=>aB hc λhl hc=>aB hc λhb hc=>aB hc λhlen hc=>aB hc λH gG=>bj he λx s1 e1 he=>aG he λT e2 he=>bj he λl s2 e3 he=>b8 he λhT e4=>?_;refine b6 (isSome_iff_exists.mp hx) λf hf=>?_;show wpAny _ _ (eval (.Call (.Attribute (aE c.sc a) ((oe b).getD "") q) (gX c.sc ps) [] p) _) _ _ _;rw [hf,arm_eval_Call,sR hb];refine an (ia H e1 S hr λm1 v V S1 a1 p1=>an (wpAny_standAt ?_));refine pV (OF W.pts hf e2 S1.sr p1) λt1 t2 t3 t4 t5=>?_;have sU:methodCallPos true (aE c.sc a) c.env q p=pure p:=by unfold methodCallPos;rw [show (q.endLine==p.line)=true from hl];rfl
 unfold methodCall;rw [zu gG (of_decide_eq_true hlen)];refine an (dT (getMethod_builtin t1 t3 t4 t5 t2 (an (wpAny_of_eq sU ?_))));exact Calls.callWith_builtin (mV gG) (g8 (mV gG) (il p gG e3 S1 hr λm2 D V S2 a2 p2=>K.op S2 (a1.trans a2) (OC W.pts hr.one hf hT S2.sr (p1.adv a2 S.op) p2 e4)))
end
section
variable{c:Cx}{ac ao fY zn:ah}{s V bE:ay}{d:az}
def FA(h:ac.new k o=some (r,ao)):ac.Y k=none/\r=.ref k/\ao=⟨ak ac.Y k (some o),k::ac.own⟩:=Ei h λa b c=>⟨a,b.symm,c.symm⟩
def Pj(S:aw O c m ac s)(hd:s.heap.objs.size<=d):(d==sysModules)=false:=by
 have H:=S.sr.sm;have I:=S.sr.size;rw [beq_eq_false_iff_ne];intro e;rw [e] at hd;exact aj (bx H I) (cg.mpr hd)
def Kp.push:Kp [] h (h.push o):=⟨by rw [Heap.size_push];exact (bz _ _),λZ Z Z e=>f' _ e⟩
def Kp.but(hs:Heap.SameBut d h h'):Kp [d] h h':=⟨by rw [hs.1];exact aD _,λb o hb e=>(hs.2 b (λq=>hb (by rw [q];exact .head _))).trans e⟩
def qC:∀d∈[s.heap.objs.size],s.heap.objs.size<=d/\d<(s.heap.push o).objs.size:=λd hd=>by
 rw [mem_singleton.mp hd,Heap.size_push];exact ⟨aD _,lt_succ_self _⟩
def mY(h:z<=d):∀a∈[d],z<=a:=λa q=>by rw [mem_singleton.mp q];exact h
def SR.congrP(x:SR O P m ac h)(hp:∀a,a∈P↔a∈P'):SR O P' m ac h:=
 {x with prv:=λa q=>x.prv a ((hp a).mpr q),mem:=λk a q=>⟨(x.mem k a q).1,(x.mem k a q).2.1,λz=>(x.mem k a q).2.2 ((hp a).mpr z)⟩,obj:=λk a o e1 e2=>cO.step (λa o Z h=>h) (λa o q Z z=>q (z.imp (hp a).mpr id)) (λZ Z h=>h) (x.obj k a o e1 e2) (λo h=>h)}
def aw.reC(S:aw O {c with P:=P,vals:=vals,vars:=vars} m ac s)(ci:vI c.sc c.env P')(op:∀a∈c.own,a∈P')(R:SR O P' m' ao s.heap)(hf:∀k a,m.f k=some a->m'.f k=some a)(hx:∀a o,¬aC P m a->s.heap.get? a=some o->¬aC P' m' a):
  aw O {c with P:=P',vals:=vals,vars:=vars} m' ao s:=
 ⟨R,{S.en with cell:=λi x hi hk=>(S.en.cell i x hi hk).imp λcc z=>z.imp λZ z=>⟨z.1,z.2.1,ci x cc (ez hi) hk z.1,z.2.2.2⟩},S.vr.step (λa o Z h=>h) hx hf,op,S.tk⟩
def aw.reP(j3:aw O c bM zn bE)(S:aw O {c with P:=P,vals:=vals,vars:=vars} m ac s)(hp:∀a∈c.P,a∈P')(R:SR O P' m' ao s.heap)(hf:∀k a,m.f k=some a->m'.f k=some a)(hx:∀a o,¬aC P m a->s.heap.get? a=some o->¬aC P' m' a):
  aw O {c with P:=P',vals:=vals,vars:=vars} m' ao s:=aw.reC S (λy a hy hk ha=>hp a (j3.en.cellsIn y a hy hk ha)) (λa ha=>hp a (j3.op a ha)) R hf hx
def FB(j3:aw O c bM zn bE)(hd:∀a∈am++[d],bE.heap.objs.size<=a)(Pk:d∉am)(S:aw O {c with P:=am++d::c.P,vals:=vals,vars:=vars} m ac s)(a:aK c.own false bM m bE s)(ho:cO O s.heap (am++d::c.P) m d o)(ht:o.isTab=false)(e:r4 h o ac=some (r,ao))
  {C:Prop}(K:∀m',aw O {c with P:=am++c.P,vals:=vals,vars:=vars} m' ao s->aK c.own false bM m' bE s->ai O s.heap (am++c.P) m' (.ref d) r->C):C:=by
 have vN:d∉am++c.P:=λq=>(bD.mp q).elim Pk λq=>aj (j3.sr.prv d q).2 (cg.mpr (hd d (cj _ (.head _))));have mem:∀x,x∈am++d::c.P↔x∈d::(am++c.P):=λx=>by simp only [bD,bA];exact ⟨λq=>q.elim (λq=>.inr (.inl q)) λq=>q.elim .inl λq=>.inr (.inr q),λq=>q.elim (λq=>.inr (.inl q)) λq=>q.elim .inl λq=>.inr (.inr q)⟩
 have hX:∀{m:Mp} x,aC (d::(am++c.P)) m x->aC (am++d::c.P) m x:=λx q=>q.imp (mem x).mpr id;have R:=S.sr.congrP mem;have hp:∀a∈c.P,a∈am++c.P:=λa q=>cj _ q;have same:Heap.SameBut d s.heap s.heap:=⟨rfl,λZ Z=>rfl⟩
 have mX:∀x,aC (am++c.P) m x->aC (am++d::c.P) m x:=λx q=>hX x (q.imp (λq=>.tail _ q) id);cases h with
 |none=>
  have c6:∀x,bn O s.heap (aC (am++c.P) m) (.ref d) x->PV.d x=r->ac=ao->C:=λx rp e1 e2=>by
   subst e1;subst e2
   exact K m (aw.reP j3 S hp (SR.unhide R same) (λZ Z h=>h) λa o q Z z=>q (mX a z)) a rp
  have nx:¬aC (am++c.P) m d:=λq=>q.elim vN λ⟨k,q⟩=>(R.mem k d q).2.2 (.head _);cases o with
  |list J=>
   obtain ⟨D,k,g,z,rl⟩:=ho;exact DK e (c6 _ ⟨_,_,rfl,nx,⟨_,g⟩,z,aR.step (λZ Z Z h=>h) (λa o q Z z=>q (mX a z)) rl⟩)
  |dict ds=>
   obtain ⟨al,g,z,rl⟩:=ho;exact DK e (c6 _ ⟨_,_,rfl,nx,Pj j3 (hd d (cj _ (.head _))),g,z,bR.step (λZ Z Z h=>h) (λa o q Z z=>q (mX a z)) rl⟩)
  |tab ts=>cases e
  |lk o=>cases e
 |some k=>
  obtain ⟨FC,rfl,rfl⟩:=FA e;have hm:=DN R FC;have aX:∀x,aC (am++c.P) (gg m k d) x->aC (am++d::c.P) m x:=λx q=>hX x ((aC.adopt hm).mp q);have R2:=R.adopt FC vN same (cO.step (λZ Z Z h=>h) (λa o q Z z=>q (aX a z)) (λZ Z h=>sj hm h) ho (λZ h=>h)) (λj hj=>bA.mp hj) (λq=>by rw [ht] at q;cases q);refine K (gg m k d) (aw.reP j3 S hp R2 (λZ Z h=>sj hm h) λa o q Z z=>q (aX a z)) ⟨a.keep,λj b e=>?_,a.size,λj b hj e=>sj hm (a.live j b hj e),a.L,a.W,a.gens,a.os⟩ ⟨d,rfl,bv rfl⟩;simp only [gg] at e
  split at e
  ·cases e;exact .inr (hd d (cj _ (.head _)))
  ·exact a.new j b e
end
section
variable(O:Wd)(F:je)(n:Nat)
def sW(ps:List PE):Prop:=∀{c:Cx}{m:Mp}{ac ao:ah}{r:List (aa×ab)}{A:Around}{s:ay}{Q:List (aq×aq)->ay->Prop}{E:cJ}(pos:Pos),
 jx c.sc ps=true->r5 F ps c.vars ac=some (r,ao)->aw O c m ac s->bw (n+1) A->
 (∀m' D al V,aw O c m' ao V->aK c.own false m m' s V->Carries (strKind O.prog O.w) D al->bR O V.heap (aC c.P m') al r->Q D V)->wpAny O.M A (evalPairs (pairTrees (r8 c.sc ps) (uT c.sc ps) c.env pos)) Q E s
end
section
variable{c:Cx}
def Pl:sW O F n []:=λpos Z he S Z K=>pairTrees_nil_walk (by cases he;exact K _ [] [] _ S .refl trivial rfl)
def Pm(ip:aZ O F n p)(iq:aZ O F n q)(il:sW O F n ps):sW O F n (p::q::ps):=λ{c m ac ao r A s Q E} pos hc he S hr K=>by
 refine aB hc λH hc=>aB hc λI h3=>bj he λx s1 e1 he=>aG he λa e2 he=>bj he λy s2 e3 he=>aG he λz e4 he=>bj he λl s3 e5 he=>?_;refine pairTrees_cons_walk (ip (dP H).2 e1 S hr λm1 va sa S1 a1 p1=>iq (dP I).2 e3 S1 hr λm2 vb sb S2 a2 p2=>il pos h3 e5 S2 hr λm3 D al V S3 a3 hk rk=>?_);rw [dw e2] at p1;obtain ⟨⟨t,rfl⟩,q1,q2⟩:=p1;rw [show y=.d z by cases y<;>first|(cases e4;rfl)|cases e4] at p2;cases he;exact K m3 _ ((mk a,vb)::al) V S3 ((a1.trans a2).trans a3) ⟨strKind_is _ _ _ _,rfl,hk⟩ ⟨_,_,rfl,⟨rfl,q1,q2,bn.adv a3 S.op p2⟩,rk⟩
theorem FD:∀{ps:List PE}{ac ao:ah}{l:List (aa×ab)},r5 F ps D ac=some (l,ao)->(r8 sc ps).length=l.length/\(uT sc ps).length=l.length/\ps.length=2*l.length/\(r8 sc ps).all (·.isSome)=true
 |[],_,_,_,h=>by cases h;exact ⟨rfl,rfl,rfl,rfl⟩
 |[_],_,_,_,h=>by cases h
 |p::q::ps,_,_,_,h=>bj h λx s1 e1 h=>aG h λa e2 h=>bj h λy s2 e3 h=>aG h λz e4 h=>bj h λl s3 e5 h=>by
  cases h;refine km (FD (sc:=sc) e5) λH I h3 h4=>?_;exact ⟨ae (·+1) H,ae (·+1) I,by simp only [length_cons];lia,h4⟩
def Pn(h:mk a=mk b):a=b:=by simpa [mk] using h
theorem FE:∀{al:List (Str×aq)}{l:List (aa×ab)},bR O h X al l->uM l=true->(al.map (·.1)).Nodup
 |_,[],e,_=>by cases e;exact .nil
 |_,(a,x)::l,r,hd=>by
  obtain ⟨v,ws,rfl,_,_,_,rk⟩:=r.inv;refine aT (dP hd) λH I=>?_;refine eS.mpr ⟨λq=>?_,FE rk I⟩;have:∀{al:List (Str×aq)}{l:List (aa×ab)},bR O h X al l->l.all (λq=>q.1 !=a)=true->mk a∉al.map (·.1):=by
   intro al l;induction l generalizing al with
   |nil=>intro e _ q;cases e;cases q
   |cons p l ih=>
    obtain ⟨b,y⟩:=p;intro r ha q;obtain ⟨v,ws,rfl,_,_,_,rk⟩:=r.inv;rw [List.all_cons] at ha;refine aT (dP ha) λg1 g2=>?_;rcases bA.mp q with q|q
    ·rw [Pn q] at g1;simp at g1
    ·exact ih rk g2 q
  exact this rk H q
def FF:eval (.Dict [] [] pos) c.env=(do standAt pos;newDict):=by
 rw [arm_eval_Dict]
 rfl
def Po:aZ O F n (.mtab p):=λ{c m ac ao r A s Q E} Z he S hr K=>by
 show wpAny _ _ (eval (.Dict [] [] p) _) _ _ _;rw [FF];exact an (wpAny_standAt (K.op0 S (Mk S.sr (.inr ⟨rfl,rfl⟩) he)))
def Pp(il:sW O F n ps):aZ O F n (.dct g ps p):=λ{c m ac ao r A s Q E} hc he S hr K=>by
 refine aB hc λH I=>aG he λh e1 he=>bj he λl s1 e2 he=>b8 he λhd e3=>?_;have hlen:=cm H;refine km (FD (sc:=c.sc) e2) λg1 g2 g3 g4=>?_;have kP:l.length<=lim:=af (show l.length<=15 by lia) (by decide);have D0:(s.heap.push {cls:=.type "dict",data:=.dict #[]}).DictOf (strKind O.prog O.w) s.heap.objs.size []:=⟨_, #[],0,fh _ rfl,⟨rfl,rfl,rfl⟩,rfl,λe he=>by simp at he,.nil,by simp⟩
 have S':aw O (fZ c [s.heap.objs.size]) m ac {s with heap:=s.heap.push {cls:=.type "dict",data:=.dict #[]}}:=S.hideL Kp.push qC (aD _);have g:aK c.own false m m s {s with heap:=s.heap.push {cls:=.type "dict",data:=.dict #[]}}:=.of_grow (fS _) (gF _) rfl rfl;have c6:∀{m2:Mp}{s2:ay}{al:List (Str×aq)}(t:Nat)(h':Heap),aw O (fZ c [s.heap.objs.size]) m2 s1 s2->aK c.own false m m2 {s with heap:=s.heap.push {cls:=.type "dict",data:=.dict #[]}} s2->bR O s2.heap (aC (fZ c [s.heap.objs.size]).P m2) al l->
   h'.DictOf (strKind O.prog O.w) s.heap.objs.size al->Heap.SameBut s.heap.objs.size s2.heap h'->s2.toks<=t->Q (.ref s.heap.objs.size) {s2 with heap:=h',toks:=t}:=λ{m2 s2 al} t h' S2 a2 rk jE hs ht=>by
  have zx:=fG.new S (mY (aD _));refine aT (fG.priv zx (V:={s2 with heap:=h',toks:=t}) S2 (Kp.but hs) rfl rfl ht) λS3 a3=>?_;have a4:=(((g.trans a2).weaken λa h=>cj _ h).trans a3).freshL (mY (aD _));exact FB (am:=[]) (o:=.dict l) S (mY (aD _)) (λq=>nomatch q) S3 a4 ⟨al,jE,kP,bR.step (λa o q e=>(hs.2 a λz=>q (.inl (by rw [z];exact .head _))).trans e) (λZ Z q Z=>q) rk⟩ rfl e3 λm' S4 a5 p5=>K m' _ _ S4 a5 p5
 cases mQ:l with
 |nil=>
  subst mQ;have:ps=[]:=length_eq_zero_iff.mp g3;subst this;cases e2;show wpAny _ _ (eval (.Dict [] [] p) _) _ _ _;rw [FF];exact an (wpAny_standAt (wpAny_newObj_type (c6 (s2:={s with heap:=s.heap.push {cls:=.type "dict",data:=.dict #[]}}) s.toks (s.heap.push {cls:=.type "dict",data:=.dict #[]}) S' .refl rfl D0 ⟨rfl,λZ Z=>rfl⟩ (aD _)) (by exact (bN _))))
 |cons p0 r0=>
  refine wpAny_Dict_walk (knd:=strKind O.prog O.w) g4 (g1.trans g2.symm) (λq=>by rw [q,mQ] at g1;cases g1) (by rw [g1];lia) ?_;refine il (c:=fZ c [s.heap.objs.size]) p I e2 S' hr λm2 D al s2 S2 a2 hk rk=>⟨al,hk,?_,λh' jE hs=>?_⟩
  ·refine D0.at λo e=>a2.keep _ o (λq=>aj (S.sr.prv _ (S.op _ q)).2 (dK _)) (λk q=>aj (S.sr.mem k _ q).2.1 (dK _)) e
  ·rw [merged_nil_of_nodup _ (FE rk hd)] at jE
   exact c6 _ h' S2 a2 rk jE hs (bz _ _)
end
section
variable(O:Wd)(F:je)(n:Nat)
def qD(b:Bool)(ts:List PT):Prop:=∀{c:Cx}{m:Mp}{ac ao:ah}{r:Bool}{A:Around}{s:ay}{Q:Bool->ay->Prop}{E:cJ},
 oh c.sc ts=true->(cond b (lJ F ts c.vars ac) (yf F ts c.vars ac))=some (r,ao)->aw O c m ac s->bw (n+1) A->jm O c m s ao r Q->wpAny O.M A (allTrue (cond b .And .Or) (jW c.sc ts) c.env) Q E s
end
section
variable{c:Cx}
def Pq(ia:aZ O F n a)(ib:aZ O F n b):gh O F n (.cmp o a b p):=λ{c m ac ao r A s Q E} hc he S hr K=>
 aB hc λh0 hc=>aB hc λha hb=>bj he λx s1 e1 he=>bj he λy s2 e2 he=>K.pS he λz e3 K=>
 wpAny_isTrue_Compare1 (ia ha e1 S hr λm1 va sa S1 a1 p1=>ib hb e2 S1 hr λm2 vb sb S2 a2 p2=>oI (di (D9 hr.one S2.sr (p1.adv a2 S.op) p2 e3) (λv V h ht=>by
  obtain ⟨rfl,R,x⟩:=h;exact wpAny_truthy_bool (K m2 V (S2.adv0 x R ht) ((a1.trans a2).trans (x.weaken iv)))) λZ Z q=>q)) (Fq h0)
def Pr(it:gh O F n t):gh O F n (.not t p):=λ{c m ac ao r A s Q E} hc he S hr K=>bj he λq s1 e1 he=>by
 exact an (it hc e1 S hr λm1 V S1 a1=>aQ (K.res he m1 V S1 a1))
def Ps(it:qD O F n true ts):gh O F n (.and ts p):=λhc he S hr K=>it hc he S hr K
def Pu(it:qD O F n false ts):gh O F n (.or ts p):=λhc he S hr K=>it hc he S hr K
def Pw:qD O F n b []:=λ{c m ac ao r A s Q E} hc he S hr K=>by
 cases b<;>exact aQ (K.res he m s S .refl)
set_option backward.match.sparseCases true in
def Px(ia:gh O F n t)(ib:qD O F n b ts):qD O F n b (t::ts):=λ{c m ac ao r A s Q E} hc he S hr K=>by
 refine aB hc λH I=>?_;cases b with
 |true=>
  refine bj he λq s1 e1 he=>?_;refine an (ia H e1 S hr λm1 V S1 a1=>?_);cases q with
  |false=>exact aQ (K.res he m1 V S1 a1)
  |true=>exact ib I he S1 hr (K.after a1)
 |false=>
  refine bj he λq s1 e1 he=>?_;refine an (ia H e1 S hr λm1 V S1 a1=>?_);cases q with
  |true=>exact aQ (K.res he m1 V S1 a1)
  |false=>exact ib I he S1 hr (K.after a1)
def Py(h:Dj e=true):isTrue e c.env p=(do let v<-p;standAt e.pos;holding [v] (truthy v)):=by
 cases e<;>first|rfl|cases h
def Pz(ia:aZ O F n x):gh O F n (.e x):=λ{c m ac ao r A s Q E} hc he S hr K=>by
 refine aB hc λh0 H=>bj he λy s1 e1 he=>K.pS he λb e2 K=>?_;show wpAny _ _ (isTrue (aE c.sc x) _ _) _ _ _;rw [Py h0];exact an (ia H e1 S hr λm1 v V S1 a1 p1=>an (wpAny_standAt (dT (di (Mn S1.sr p1 e2) (λb' s'' h=>by rw [h.1,h.2];exact K m1 V S1 a1) λZ Z q=>q.elim))))
def FG(W:Wf O fa F n)(ia:aZ O F n x)(hg:eK c.sc "type" =true)(hs:eK c.sc tx=true)(hb:jC.lookup tx=some (.type T))(hc:(dE (aE c.sc x)&&ok c.sc x)=true)(he:ev F x c.vars ac=some (y,ao))(S:aw O c m ac s)(hr:bw (n+1) A)
  (PA:behindInMarks op (.Name tx q)=false) (ht:∀m1 v s1 (Q:cJ) (E:cJ),aw O c m1 ao s1->ai O s1.heap c.P m1 v y->Q (.type T) s1->wpAny O.M A (call (.type "type") [v] []) Q E s1)
  (hi:∀s,wpAny O.M A (compareOp op (.type T) (.type T)) (λv V=>v=.bool b/\V=s) br s) (K:jm O c m s ao b Q):
  wpAny O.M A (isTrue (.Compare (.Call (.Name "type" q1) [aE c.sc x] [] p1) [op] [.Name tx q] p) c.env (eval (.Compare (.Call (.Name "type" q1) [aE c.sc x] [] p1) [op] [.Name tx q] p) c.env)) Q E s:=
 wpAny_isTrue_Compare1 (wpAny_Call_Name_kw (jD S W hg rfl (vM (x:= "type") rfl (jn hc) (mW ia hc he S hr λm1 va sa S1 a1 p1=>ht m1 va sa _ _ S1 p1
  (jD S1 W hs hb (di (hi sa) (λv V h=>by rw [h.1,h.2];exact wpAny_truthy_bool (K m1 sa S1 a1)) λZ Z q=>q.elim)))))) PA
def PC(W:Wf O fa F n)(ia:aZ O F n x):gh O F n (.isStr x q1 p1 q p):=λ{c m ac ao r A s Q E} hc he S hr K=>
 aB hc λhg hc=>aB hc λhs hc=>bj he λy s1 e1 he=>K.pS he λb e2 K=>cK e2 λl e3 e4=>by
 subst e4;exact FG W ia hg hs rfl hc e1 S hr rfl (λm1 v s1 Q E S1 p1 k=>vG (Ml S1.sr (dw e3▸p1) k)) (λs=>(Ek hr.one).1) K
def PD(W:Wf O fa F n)(ia:aZ O F n x):gh O F n (.notList x q1 p1 q p):=λ{c m ac ao r A s Q E} hc he S hr K=>
 aB hc λhg hc=>aB hc λhs hc=>bj he λy s1 e1 he=>K.pS he λb e2 K=>cK e2 λl e3 e4=>by
 subst e4;obtain ⟨H,I⟩:=u3 e3;exact FG W ia hg hs rfl hc e1 S hr rfl (λm1 v s1 Q E S1 p1 k=>vG (Mm S1.sr (H▸p1) I k)) (λs=>(Ek hr.one).2) K
end
section
def sX(c:Cx)(tg:aa):Prop:=∀i∈tg,gW c.sc i=true/\(c.ro=false\/c.env.kindOf (d7 c.sc i)=some .local)
def oK(sc:Scope)(bF:Expr)(tg:aa):Prop:=(∃i p,bF=.Name (d7 sc i) p/\tg=[i])\/∃ps p,bF=.Tuple (d8 sc tg ps) 0 p/\2<=tg.length/\ps.length=tg.length
def zy(O:Wd)(c:Cx)(m:Mp)(s:ay)(ac:ah)(cq:aI)(K:ay->Prop):Prop:=∀dp V,aw O {c with vals:=dp,vars:=cq} m ac V->aK c.own false m m s V->K V
theorem FH:∀{is:aa}{ps:List Pos},ps.length=is.length->(assignEach (d8 sc is ps) env).length=is.length/\(assignEach (d8 sc is ps) env).findIdx? (·.1)=none
 |[],[],_=>⟨rfl,rfl⟩
 |i::is,p::ps,h=>by
  refine aT (FH (sc:=sc) (env:=env) (Nat.succ.inj h)) λa b=>?_;have e:assignEach (d8 sc (i::is) (p::ps)) env=(false,assign (.Name (d7 sc i) p) env)::assignEach (d8 sc is ps) env:=rfl;rw [e];exact ⟨ae (·+1) a,by rw [List.findIdx?_cons,b];rfl⟩
def PF:∀{is:aa}{qs:List Pos}{c:Cx}{s:ay}{D:List aq}{ps:List PV}{cq:aI}{K:ay->Prop},sX c is->lE is ps c.vars=some cq->aw O c m ac s->bL O s.heap c.P m D ps->qs.length=is.length->
  zy O c m s ac cq K->wpAny O.M A (assignInOrder ((assignEach (d8 c.sc is qs) c.env).map (·.2)) D) (λZ s=>K s) E s:=by
 intro is;induction is with
 |nil=>
  intro qs c s D ps cq K hw hb S hp hl hQ;cases length_eq_zero_iff.mp hl;cases ps with
  |nil=>cases hp;cases hb;exact aQ (hQ c.vals s S .refl)
  |cons _ _=>cases hb
 |cons i is ih=>
  intro qs c s D ps cq K hw hb S hp hl hQ;cases qs with
  |nil=>cases hl
  |cons q qs=>
   cases ps with
   |nil=>cases hb
   |cons p ps=>
    obtain ⟨v,D,rfl,hv,mK⟩:=hp;show wpAny _ _ (do holding D (assign (.Name (d7 c.sc i) q) c.env v);assignInOrder ((assignEach (d8 c.sc is qs) c.env).map (·.2)) D) _ E s;refine an (dT (wpAny_assign_Name (qA S (hw i (.head _)).1 hv (hw i (.head _)).2 λs1 S1 a1=>?_)));exact ih (c:={c with vals:=c.vals.set i (some v),vars:=dO i p c.vars}) (λj hj=>hw j (.tail _ hj)) hb S1 (mK.adv a1 S.op) (Nat.succ.inj hl) λdp s2 S2 a2=>hQ dp s2 S2 (a1.trans a2)
theorem bL.of_rep:∀{D:List aq}{J:List ab},aR O h (aC P m) D J->bL O h P m D (J.map .d)
 |_,[],e=>e
 |_,_::_,r=>r.imp λZ z=>z.imp λZ z=>⟨z.1,z.2.1,bL.of_rep z.2.2⟩
def zz(p:ai O h P m v x)(hp:Da x=some ps):∃a D,v=.ref a/\IsTup h a D.toArray/\bL O h P m D ps:=by
 cases x with
 |d x=>
  cases x<;>first|cases hp|skip
  obtain ⟨a,D,e,hn,hl,hz,r⟩:=p;exact ⟨a,D,e,hl,.of_rep r⟩
 |tup J=>
  cases hp;obtain ⟨a,D,e,hn,hl,hz,r⟩:=p;exact ⟨a,D,e,hl,r⟩
 |_=>cases hp
theorem zA:∀{is:aa}{ps:List PV}{D aS:aI},lE is ps D=some aS->is.length=ps.length
 |[],[],_,_,_=>rfl
 |[],_::_,_,_,h=>by cases h
 |_::_,[],_,_,h=>by cases h
 |_::_,_::_,_,_,h=>ae (·+1) (zA h)
def zB{K:ay->Prop}(hh:A.handled=none)(hw:sX c is)(hn:qs.length=is.length)(hb:lE is ps c.vars=some cq)
  (S:aw O c m ac s) (ht:IsTup s.heap a D.toArray) (p:bL O s.heap c.P m D ps) (hQ:zy O c m s ac cq K):wpAny O.M A (assign (.Tuple (d8 c.sc is qs) 0 pos) c.env (.ref a)) (λZ s=>K s) E s:=by
 refine aT (FH (sc:=c.sc) (env:=c.env) hn) λl1 l2=>?_;rw [arm_assign_Tuple];refine an (wpAny_standAt ?_);unfold unpack;rw [l1,zA hb,<-p.size,l2];refine an (dT (iS ?_));have:=wpAny_unpackItems_tuple (prog:=O.prog) (w:=O.w) (E:=E) (Q:=λl V=>s.heap.objs.size<=V.heap.objs.size->wpAny O.M A (assignInOrder ((assignEach (d8 c.sc is qs) c.env).map (·.2)) l) (λZ s=>K s) E V) hh ht λh' fb hz=>by
  have j5:∀b o,s.heap.get? b=some o->h'.get? b=some o:=λb o e=>fb b o (cX (cW e)) e;have ad:aK c.own false m m s {s with heap:=h'}:=.of_grow j5 hz rfl rfl;exact PF hw hb (S.grow j5 hz rfl rfl (aD _)) (p.adv ad S.op) hn λdp s2 S2 a2=>hQ dp s2 S2 (ad.trans a2)
 rw [size_toArray] at this;exact this
def PG(h:2<=tg.length)(e:gp tg x D=some aS):∃ys,x=.tup ys/\lE tg (ys.map .d) D=some aS:=
 fm e (λi e1 Z=>aj (uZ e1▸h:2<=[i].length) (dK 1)) λe=>aG e λys e1 e2=>⟨ys,ab.tup_inv e1,e2⟩
def zC(O:Wd)(h:Heap)(X:az->Prop)(bF:Expr)(v:aq)(x:ab):Prop:=bn O h X v x\/(∃es k p,bF=.Tuple es k p)/\∃T D ys,v=.ref T/\x=.tup ys/\IsTup h T D.toArray/\aR O h X D ys
def FI{K:ay->Prop}(hh:A.handled=none)(ht:oK c.sc bF tg)(hw:sX c tg)(hb:gp tg x c.vars=some cq)(S:aw O c m ac s)(p:zC O s.heap (aC c.P m) bF v x)(hQ:zy O c m s ac cq K):
  wpAny O.M A (assign bF c.env v) (λZ s=>K s) E s:=by
 rcases ht with ⟨i,p',rfl,rfl⟩|⟨ps,p',rfl,I,hl⟩
 ·cases hb
  rcases p with p|⟨⟨es,k,p,e⟩,_⟩
  ·exact wpAny_assign_Name (qA (pv:=.d x) S (hw i (.head _)).1 p (hw i (.head _)).2 λs1 S1 a1=>hQ _ s1 S1 a1)
  ·cases e
 ·obtain ⟨ys,rfl,FJ⟩:=PG I hb
  rcases p with p|⟨_,T,D,h1,rfl,e,ht,r⟩
  ·obtain ⟨a,D,rfl,hn,jB,hz,r⟩:=p
   exact zB hh hw hl FJ S jB (.of_rep r) hQ
  ·cases e
   exact zB hh hw hl FJ S ht (.of_rep r) hQ
end
def oM(own:List az)(m:Mp)(s:ay)(b:az):Prop:=b∉own/\(∀k,m.f k=some b->m.L k)/\b<s.heap.objs.size
structure jF(O:Wd)(A:Around)(bF:Expr)(bg:az)(am:List az)(aW:List az->List az->List ab->Mp->ay->Prop):Prop where
 adv:∀{P own J m m' s V fr},aW P own J m s->(∀a∈own,a∈P)->aK own fr m m' s V->aW P own J m' V
 mono:∀{P own P' pW J m s},aW P own J m s->(∀a,a<s.heap.objs.size->a∈P'->a∈P)->(∀a,a<s.heap.objs.size->a∈pW->a∈own)->aW P' pW J m s
 item:∀{P own x J m s}{N:ay->Prop}{K:cJ}{E:cJ},aW P own (x::J) m s->(∀a∈am,a∈P)->
  (∀v h' tk,Kp am s.heap h'->zC O h' (aC P m) bF v x->aW P own J m {s with heap:=h',toks:=tk}->K v {s with heap:=h',toks:=tk})->
  wpAny O.M A (pyNext (.ref bg)) (λr bq=>match r with|none=>N bq|some v=>wpAny O.M A (letOwnedTupleGo bF (.ref bg) v) (λZ V=>K v V) E bq) E s
 done:∀{P own m s}{N:ay->Prop}{K:cJ}{E:cJ},aW P own [] m s->(∀h' tk,Kp am s.heap h'->N {s with heap:=h',toks:=tk})->
  wpAny O.M A (pyNext (.ref bg)) (λr bq=>match r with|none=>N bq|some v=>K v bq) E s
 self:∀{P own J m s}{Q:cJ}{E:cJ},aW P own J m s->Q (.ref bg) s->wpAny O.M A (pyIter (.ref bg)) Q E s
def jF.done'(F:jF O A bF bg am aW){N:ay->Prop}{K:cJ}(j:aW P own [] m s)(h:∀h' tk,Kp am s.heap h'->s.toks<=tk->N {s with heap:=h',toks:=tk}):
  wpAny O.M A (pyNext (.ref bg)) (λr bq=>match r with|none=>N bq|some v=>K v bq) E s:=
 wpAny_with_toks (aD _) (di (F.done j (N:=λs1=>s.toks<=s1.toks->N s1) (K:=λv s1=>s.toks<=s1.toks->K v s1) (E:=λe s1=>s.toks<=s1.toks->E e s1) h) (λr s1 q=>by cases r<;>exact q) λZ Z q=>q)
def jF.item'(F:jF O A bF bg am aW){N:ay->Prop}{K:cJ}(j:aW P own (x::J) m s)(hH:∀a∈am,a∈P)
  (h:∀v h' tk,Kp am s.heap h'->zC O h' (aC P m) bF v x->aW P own J m {s with heap:=h',toks:=tk}->s.toks<=tk->K v {s with heap:=h',toks:=tk}):
  wpAny O.M A (pyNext (.ref bg)) (λr bq=>match r with|none=>N bq|some v=>wpAny O.M A (letOwnedTupleGo bF (.ref bg) v) (λZ V=>K v V) E bq) E s:=
 wpAny_with_toks (aD _) (di (F.item j hH (N:=λs1=>s.toks<=s1.toks->N s1) (K:=λv s1=>s.toks<=s1.toks->K v s1) (E:=λe s1=>s.toks<=s1.toks->E e s1) h) (λr s1 q=>by
  cases r with
  |none=>exact q
  |some v=>exact λht=>wpAny_with_toks ht q) λZ Z q=>q)
def sY(Vr:Nat->Heap->(az->Prop)->ab->Prop):Prop:=∀{i h h' X X' x},Vr i h X x->(∀a o,¬X a->h.get? a=some o->h'.get? a=some o)->(∀a o,¬X a->h.get? a=some o->¬X' a)->Vr i h' X' x
def JW(all:List ab)(fp:List az)(Sd:Nat->Heap->Prop)(Vr:Nat->Heap->(az->Prop)->ab->Prop)(P own:List az)(J:List ab)(m:Mp)(s:ay):Prop:=
 ∃i,i<=all.length/\J=all.drop i/\Sd i s.heap/\(∀b∈fp,oM own m s b)/\∀j x,i<=j->all[j]?=some x->Vr j s.heap (aC P m) x
section
variable{O:Wd}{all J:List ab}
def JW.adv(hf:∀i h h',Sd i h->(∀b∈fp,∀o,h.get? b=some o->h'.get? b=some o)->Sd i h')(hv:sY Vr)(x:JW all fp Sd Vr P own J m s)(ho:∀a∈own,a∈P)(a:aK own fr m m' s V):JW all fp Sd Vr P own J m' V:=by
 obtain ⟨i,le,e,H,I,h3⟩:=x;refine ⟨i,le,e,hf i _ _ H λb hb o=>a.keep b o (I b hb).1 (I b hb).2.1,λb hb=>⟨(I b hb).1,λk q=>?_,bx (I b hb).2.2 a.size⟩,λj x hj hx=>hv (h3 j x hj hx) (λa' o hn h=>a.keep a' o (λq=>hn (.inl (ho a' q))) (λk q=>aj (.inr ⟨k,q⟩) hn) h) λZ Z hn h=>aC.of_adv a hn h⟩;rw [a.L];exact (a.new k b q).elim ((I b hb).2.1 k) λz=>aj (I b hb).2.2 (cg.mpr z)
def JW.mono(hv:sY Vr)(x:JW all fp Sd Vr P own J m s)(H:∀a,a<s.heap.objs.size->a∈P'->a∈P)(I:∀a,a<s.heap.objs.size->a∈pW->a∈own):JW all fp Sd Vr P' pW J m s:=by
 obtain ⟨i,le,e,g1,g2,g3⟩:=x;exact ⟨i,le,e,g1,λb hb=>⟨λq=>(g2 b hb).1 (I b (g2 b hb).2.2 q),(g2 b hb).2⟩,λj x hj hx=>hv (g3 j x hj hx) (λZ Z Z h=>h) λa o hn h q=>hn (q.imp (H a (cW h)) id)⟩
def JW.next{x:ab}(hi:i<all.length)(hv:sY Vr)(I:∀b∈fp,oM own m s b)(h3:∀j x,i<=j->all[j]?=some x->Vr j s.heap (aC P m) x)(hP:∀a∈am,a∈P)(kp:Kp am s.heap h')(st:Sd (i+1) h'):JW all fp Sd Vr P own (all.drop (i+1)) m {s with heap:=h',toks:=tk}:=
 ⟨i+1,hi,rfl,st,λb hb=>⟨(I b hb).1,(I b hb).2.1,bx (I b hb).2.2 kp.1⟩,λj x hj hx=>hv (h3 j x (le_of_succ_le hj) hx) (λa o q h=>kp.2 a o (λz=>q (.inl (hP a z))) h) λZ Z q Z=>q⟩
def FK(e:x::J=all.drop i):i<all.length/\all[i]?=some x/\J=all.drop (i+1):=by
 have hi:i<all.length:=by
  rcases Nat.lt_or_ge i all.length with h|h
  ·exact h
  ·rw [drop_of_length_le h] at e;cases e
 rw [List.drop_eq_getElem_cons hi] at e;cases e;exact ⟨hi,getElem?_eq_getElem hi,rfl⟩
def drop_nil(e:[]=all.drop i)(hi:i<=all.length):i=all.length:=by
 have:=ae List.length e;rw [length_drop] at this;simp only [length_nil] at this;lia
def vO(PH:(∃x p,bF=.Name x p)\/∃es k p,bF=.Tuple es k p)(ho:s.heap.get? bg=some o)(hc:o.cls=.type T)
  (hT:(["enumerate", "zip", "dict_itemiterator", "dict_reverseitemiterator", "odict_iterator", "itertools.zip_longest", "itertools.pairwise"].contains T)=false) (h:Q () s):
  wpAny O.M A (letOwnedTupleGo bF (.ref bg) v) Q E s:=by
 rcases PH with ⟨x,p,rfl⟩|⟨es,k,p,rfl⟩
 ·exact aQ h
 ·cases v with
  |ref T'=>
   refine an (wpAny_load ho ?_);rw [hc];cases o.data<;>try exact aQ h
   dsimp only;rw [hT,Bool.false_and];exact aQ h
  |_=>exact aQ h
def FL(O:Wd)(Pv:Nat->aq->Prop)(i:Nat)(h:Heap)(X:az->Prop)(x:ab):Prop:=∀v,Pv i v->bn O h X v x
def FM(O:Wd)(Pt:Nat->Array aq->Prop)(i:Nat)(h:Heap)(X:az->Prop)(x:ab):Prop:=∀vals,Pt i vals->∃ys,x=.tup ys/\aR O h X vals.toList ys
def zD:sY (FL O Pv):=λx H I v hv=>bn.step H I (x v hv)
def zE:sY (FM O Pt):=λx H I v hv=>let ⟨ys,e,r⟩:=x v hv;⟨ys,e,aR.step H I r⟩
def vP(W:Walks O.prog O.w A bg fp am all.length Pv Sd)
  (PJ:∀i (s:ay) v (Q:Unit->ay->Prop) (E:cJ),Sd i s.heap->Q () s->wpAny O.M A (letOwnedTupleGo bF (.ref bg) v) Q E s):jF O A bF bg am (JW all fp Sd (FL O Pv)) where
 adv x ho a:=x.adv W.frame zD ho a
 mono x H I:=x.mono zD H I
 item:=λ{P own x J m s N K E} j hP hK=>by
  obtain ⟨i,le,e,H,I,h3⟩:=j;obtain ⟨hi,hx,rfl⟩:=FK e;refine iS (W.item i s _ E hi H λv h' tk hv st hs hz=>?_);have kp:Kp am s.heap h':=⟨hz,hs⟩
  exact PJ (i+1) _ v _ E st (hK v h' tk kp (.inl (bn.step (λa o q h=>hs a o (λz=>q (.inl (hP a z))) h) (λZ Z q Z=>q) (h3 i x (aD i) hx v hv))) (JW.next (x:=x) hi zD I h3 hP kp st))
 done:=λ{P own m s N K E} j hN=>by
  obtain ⟨i,le,e,H,I,h3⟩:=j;have:=drop_nil e le;subst this;exact iS (W.done s _ E H λh' tk hs hz=>hN h' tk ⟨hz,hs⟩)
 self:=λ{P own J m s Q E} j hQ=>by
  obtain ⟨i,le,e,H,I,h3⟩:=j;exact W.self i s Q E H hQ
def zF(W:WalksU O.prog O.w A bg fp am all.length Pt Sd h2):jF O A (.Tuple es k p) bg am (JW all fp Sd (FM O Pt)) where
 adv x ho a:=x.adv W.frame zE ho a
 mono x H I:=x.mono zE H I
 item:=λ{P own x J m s N K E} j hP hK=>by
  obtain ⟨i,le,e,H,I,h3⟩:=j;obtain ⟨hi,hx,rfl⟩:=FK e;refine iS (W.item i s _ E hi H λT vals h' tk hv ht hm hs hz=>?_);refine iS (W.go es k p i T _ _ E hm λoz st vQ su=>?_);have kp:Kp am s.heap oz:=Kp.trans ⟨hz,hs⟩ ⟨su,vQ⟩;obtain ⟨ys,rfl,r⟩:=h3 i x (aD i) hx vals hv;obtain ⟨o,ho,q⟩:=ht;exact hK (.ref T) oz tk kp (.inr ⟨⟨es,k,p,rfl⟩,T,vals.toList,ys,rfl,rfl,⟨o,vQ T o (W.apart i T _ hm) ho,q⟩,aR.step (λa o q h=>kp.2 a o (λz=>q (.inl (hP a z))) h) (λZ Z q Z=>q) r⟩) (JW.next (x:=.tup ys) hi zE I h3 hP kp st)
 done:=λ{P own m s N K E} j hN=>by
  obtain ⟨i,le,e,H,I,h3⟩:=j;have:=drop_nil e le;subst this;exact iS (W.done s _ E H λh' tk hs hz=>hN h' tk ⟨hz,hs⟩)
 self:=λ{P own J m s Q E} j hQ=>by
  obtain ⟨i,le,e,H,I,h3⟩:=j;exact W.self i s Q E H hQ
end
def PL:entryFor table "dict_itemiterator.__iter__" =some Builtin.«dict_keyiterator.__iter__»:=
 entryFor_alias (id':= "dict_keyiterator.__iter__") (by kernel_rfl) rfl (by decide+kernel) (by kernel_rfl)
noncomputable def gJ (m:Mp):Option Nat->Mp
 |none=>m
 |some k=>m.lock k
def zG:(gJ m lk).f=m.f:=by cases lk<;>rfl
noncomputable def iW (ac:ah):Option Nat->Prop
 |none=>True
 |some k=>∃o,ac.Y k=some o/\∀o',o≠ .lk o'
def oN(bF:Expr):Prop:=(∃x p,bF=.Name x p)\/∃es k p,bF=.Tuple es k p
def oK.t01(h:oK sc bF tg):oN bF:=h.imp (λ⟨_,_,e,_⟩=>⟨_,_,e⟩) λ⟨_,_,e,_⟩=>⟨_,_,_,e⟩
def kQ(O:Wd)(A:Around)(c:Cx)(bF:Expr)(J:List ab)(lk:Option Nat)(m:Mp)(ac:ah)(s:ay)(Q:cJ):Prop:=
 ∀cw bg am aW,aw O (fZ c am) (gJ m lk) (ac.lock lk) cw->Kp [] s.heap cw.heap->cw.gens=s.gens->cw.os=s.os->s.toks<=cw.toks->(∀d∈am,s.heap.objs.size<=d)->jF O A bF bg am aW->aW (am++c.P) c.P J (gJ m lk) cw->Q (.ref bg) cw
def qE(c:Cx)(m:Mp)(lk:Option Nat)(a:az):Prop:=¬aC c.P m a\/∃k,lk=some k/\m.f k=some a
section
variable{O:Wd}{s V bE:ay}{c:Cx}
def aw.lockO(S:aw O c m ac s)(h:iW ac lk):aw O c (gJ m lk) (ac.lock lk) s:=by
 cases lk with
 |none=>exact S
 |some k=>
  obtain ⟨o,ho,_⟩:=h;have e:ac.lock (some k)=ac.put k (.lk o):=uO ho;rw [e];exact aw.sameF S rfl (S.sr.lock ho)
def oP(S:aw O c m ac s)(hl:iW ac lk)(hk:Kp [] s.heap V.heap)(hg:V.gens=s.gens)(ho:V.os=s.os)(ht:s.toks<=V.toks)(hH:∀d∈am,s.heap.objs.size<=d/\d<V.heap.objs.size)
  (F:jF O A bF bg am aW) (j:aW (am++c.P) c.P J (gJ m lk) V) (hQ:kQ O A c bF J lk m ac s Q):Q (.ref bg) V:=
 hQ V bg am aW (aw.lockO (S.hideL hk hH ht) hl) hk hg ho ht (λd q=>(hH d q).1) F j
def mZ(S:aw O c m ac s)(h:s.heap.objs.size<=b)(h':b<V.heap.objs.size):oM c.P (gJ m lk) V b:=
 ⟨λq=>aj (S.sr.prv b q).2 (cg.mpr h),λk q=>aj (S.sr.mem k b (zG▸q)).2.1 (cg.mpr h),h'⟩
def vR(h:¬aC c.P m b)(h':b<V.heap.objs.size):oM c.P (gJ m lk) V b:=⟨λq=>h (.inl q),λk q=>aj (.inr ⟨k,zG▸q⟩) h,h'⟩
def vS(S:aw O c m ac s)(x:qE c m lk a)(h':a<V.heap.objs.size):oM c.P (gJ m lk) V a:=by
 rcases x with x|⟨k,rfl,x⟩
 ·exact vR x h'
 ·exact ⟨(S.sr.mem k a x).2.2,λj q=>.inr (S.sr.inj j k a q x),h'⟩
def bn.start(kp:Kp [] h h')(hH:∀d∈am,h.objs.size<=d)(r:bn O h (aC c.P m) v d):bn O h' (aC (am++c.P) (gJ m lk)) v d:=
 bn.step (λa o Z h=>kp.2 a o (λq=>aj q cp) h) (λa o q h z=>by
  rcases z with z|⟨k,z⟩
  ·exact (bD.mp z).elim (λz=>aj (cW h) (cg.mpr (hH a z))) λz=>q (.inl z)
  ·exact q (.inr ⟨k,zG▸z⟩)) r
def aR.get{D:List aq}{J:List ab}(r:aR O h X D J){i:Nat}{v:aq}{x:ab}(H:D[i]?=some v)(I:J[i]?=some x):bn O h X v x:=by
 induction J generalizing D i with
 |nil=>cases I
 |cons y J ih=>
  obtain ⟨_,_,rfl,a,b⟩:=r;cases i with
  |zero=>exact ax H▸ax I▸a
  |succ i=>exact ih b H I
def bR.get{D:List (Str×aq)}{J:List (aa×ab)}(r:bR O h X D J){i:Nat}{k:Str}{v:aq}{x:aa×ab}(H:D[i]?=some (k,v))(I:J[i]?=some x):k=mk x.1/\x.1.length<=lim/\(∀c∈x.1,c<1114112)/\bn O h X v x.2:=by
 induction J generalizing D i with
 |nil=>cases I
 |cons y J ih=>
  obtain ⟨_,_⟩:=y;obtain ⟨p,_,rfl,a,b⟩:=r;cases i with
  |zero=>cases H;cases I;exact a
  |succ i=>exact ih b H I
def qF{P:az->Prop}(hx:P x)(hy:P y):∀b∈[x,y],P b:=λb hb=>by
 rcases bA.mp hb with rfl|hb
 ·exact hx
 ·rw [mem_singleton.mp hb];exact hy
def vT(h:a<s.heap.objs.size):a<(s.heap.push o).objs.size:=bx h (gF o)
def sZ:s.heap.objs.size<(s.heap.push o).objs.size:=by rw [Heap.size_push];exact lt_succ_self _
def FN(hh:A.handled=none)(ht:oN bF)(S:aw O c m ac s)(hl:iW ac lk)(hs:qE c m lk a)(ha:s.heap.IsList a D.toArray)(r:aR O s.heap (aC c.P m) D J)(hQ:kQ O A c bF J lk m ac s Q):
  wpAny O.M A (pyIter (.ref a)) Q E s:=by
 have cF:a<s.heap.objs.size:=by obtain ⟨o,ho,_⟩:=ha;exact cW ho
 have hn:D.toArray.size=J.length:=by rw [size_toArray,r.len]
 have W:=Walks.list (prog:=O.prog) (w:=O.w) hh s.heap.objs.size a (cX cF) D.toArray;rw [hn] at W;refine wpAny_pyIter_list ha (oP S hl Kp.push rfl rfl (aD _) qC (vP W λi s v Q E st h=>?_) ⟨0,bN _,rfl,⟨⟨_,fh _ rfl,rfl,rfl⟩,ha.push _⟩,qF (mZ S (aD _) sZ) (vS S hs (vT cF)),λi x Z hx v hv=>?_⟩ hQ)
 ·obtain ⟨⟨o,ho,hc,_⟩,_⟩:=st
  exact vO ht ho hc (by decide) h
 ·exact bn.start Kp.push (mY (aD _)) (r.get (by simpa using hv) hx)
def PM(hh:A.handled=none)(ht:oN bF)(S:aw O c m ac s)(hs:¬aC c.P m a)(ha:IsTup s.heap a D.toArray)(r:aR O s.heap (aC c.P m) D J)(hQ:kQ O A c bF J none m ac s Q):
  wpAny O.M A (pyIter (.ref a)) Q E s:=by
 have cF:a<s.heap.objs.size:=by obtain ⟨o,ho,_⟩:=ha;exact cW ho
 have hn:D.toArray.size=J.length:=by rw [size_toArray,r.len]
 have W:=Walks.tuple (prog:=O.prog) (w:=O.w) hh s.heap.objs.size a (cX cF) D.toArray;rw [hn] at W;refine wpAny_pyIter_tuple ha (oP (lk:=none) S trivial Kp.push rfl rfl (aD _) qC (vP W λi s v Q E st h=>?_) ⟨0,bN _,rfl,⟨⟨_,fh _ rfl,rfl,rfl⟩,Heap.IsTuple.push ha _⟩,qF (mZ S (aD _) sZ) (vR hs (vT cF)),λi x Z hx v hv=>?_⟩ hQ)
 ·obtain ⟨⟨o,ho,hc,_⟩,_⟩:=st
  exact vO ht ho hc (by decide) h
 ·exact bn.start Kp.push (mY (aD _)) (r.get (by simpa using hv) hx)
def PN(hh:A.handled=none)(ht:oN bF)(S:aw O c m ac s)(hl:iW ac lk)(hs:qE c m lk a)(ly:(a==sysModules)=false)(ha:s.heap.DictOf (strKind O.prog O.w) a al)
  (r:bR O s.heap (aC c.P m) al ds) (hQ:kQ O A c bF (ds.map λp=>.str p.1) lk m ac s Q):wpAny O.M A (pyIter (.ref a)) Q E s:=by
 refine b6 (ha.dictAt) λep hd=>?_;have cF:=hd.lt_size;have hn:al.length=(ds.map λp=>ab.str p.1).length:=by rw [length_map,r.len]
 have W:=Walks.dictKeys (knd:=strKind O.prog O.w) hh s.heap.objs.size a (cX cF) al ep;refine wpAny_pyIter_dict ly hd (oP S hl Kp.push rfl rfl (aD _) qC (vP (hn▸W) λi s v Q E st h=>?_) ⟨0,bN _,rfl,⟨⟨_,fh _ rfl,rfl,by rw [hn];rfl⟩,hd.push _⟩,qF (mZ S (aD _) sZ) (vS S hs (vT cF)),λi x Z hx v hv=>?_⟩ hQ)
 ·obtain ⟨⟨o,ho,hc,_⟩,_⟩:=st
  exact vO ht ho hc (by decide) h
 ·obtain ⟨k,x',mU,zH⟩:=hv
  rw [getElem?_map] at hx;refine bt (map_eq_some_iff.mp hx) λp hp e=>?_;obtain ⟨rfl,H,I,_⟩:=r.get mU hp;obtain ⟨t,rfl⟩:=Value.isStrOf_shape zH;subst e;exact ⟨⟨t,rfl⟩,H,I⟩
def s8(H: -1000000<=x)(I:x<=3000000):Builtin.Range.rangeFitsLong x=true:=f9.mpr ⟨fj (Int.le_trans (by decide) H),fj (Int.lt_of_le_of_lt I (by decide))⟩
def PO{a b:Int}(h:iR a b):Builtin.Range.small a b 1=true/\Builtin.Range.rangeSize a b 1=((b.toNat - a.toNat:Nat):Int):=by
 have ea:=Int.toNat_of_nonneg h.1.1;have e:Builtin.Range.rangeSize a b 1=((b.toNat - a.toNat:Nat):Int):=by
  rw [rangeSize_one];by_cases q:a<b
  ·rw [if_pos q,ofNat_sub (Int.toNat_le_toNat (Int.le_of_lt q)),ea,Int.toNat_of_nonneg (Int.le_trans h.1.1 (Int.le_of_lt q))]
  ·rw [if_neg q,Nat.sub_eq_zero_of_le (Int.toNat_le_toNat (Int.not_lt.mp q))];rfl
 have hz:b.toNat - a.toNat<=3000000:=af (sub_le _ _) (Int.toNat_le.mpr (Int.le_trans (Int.le_of_lt h.2.2) (by decide)));refine ⟨?_,e⟩;unfold Builtin.Range.small;rw [e,s8 (Int.le_trans (by decide) h.1.1) (Int.le_trans (Int.le_of_lt h.1.2) (by decide)),s8 (Int.le_of_lt h.2.1) (Int.le_trans (Int.le_of_lt h.2.2) (by decide)),s8 (by decide) (by decide),s8 (Int.le_trans (by decide) (natCast_nonneg _)) (ofNat_le.mpr hz),if_pos (by decide),s8 ((Int.add_zero b).symm▸Int.le_of_lt h.2.1) ((Int.add_zero b).symm▸Int.le_trans (Int.le_of_lt h.2.2) (by decide))];exact Bool.or_true _
def zI(hh:A.handled=none)(ht:oN bF)(S:aw O c m ac s)(ha:IsRange s.heap a i j 1 t u v)(h0:iR i j)
  (hQ:kQ O A c bF ((List.range (j.toNat - i.toNat)).map λ(k:Nat)=>ab.int (i+(k:Int))) none m ac s Q):wpAny O.M A (pyIter (.ref a)) Q E s:=by
 refine aT (PO h0) λr1 r2=>?_;have W:=Walks.range (prog:=O.prog) (w:=O.w) hh s.heap.objs.size i 1 (j.toNat - i.toNat);have hn:j.toNat - i.toNat=((List.range (j.toNat - i.toNat)).map λ(k:Nat)=>ab.int (i+(k:Int))).length:=by rw [length_map,length_range]
 refine wpAny_pyIter_range ha r1 (oP (lk:=none) S trivial Kp.push rfl rfl (aD _) qC (vP (hn▸W) λi s v Q E st h=>?_) ⟨0,bN _,rfl,?_,λb hb=>(cC.mp hb)▸mZ S (aD _) sZ,λk x Z hx v hv=>?_⟩ hQ)
 ·exact vO ht st rfl (by decide) h
 ·rw [r2]
  have:=fh s.heap (o:={cls:=.type "range_iterator",data:=.fields #[rawInt i,rawInt ((j.toNat - i.toNat:Nat):Int),rawInt 1]}) rfl;simpa [IsRangeIter] using this
 ·obtain ⟨t,rfl⟩:=hv
  rw [getElem?_map] at hx;refine bt (map_eq_some_iff.mp hx) λp hp e=>?_;refine b6 (fB.mp hp) λpl FO=>?_;rw [List.getElem_range] at FO;subst FO;subst e;rw [Int.mul_one];exact ⟨t,rfl⟩
def PP{ok ov:aq}(hit:IsItemIter s.heap it d i n ep ok ov)(h:Q (.ref it) s):wpAny O.M A (pyIter (.ref it)) Q E s:=by
 have hT:s.TypeIs (.ref it) "dict_itemiterator" :=⟨_,hit,rfl⟩
 refine wpAny_pyIter_slot hT PySem.F.slot_dict_itemiterator_iter (wpAny_call_entry PySem.F.slot_dict_itemiterator_iter hT PL ?_ (PySem.F.args_dict_itemiterator_iter_1 _));exact aQ ⟨_,rfl, "dict_itemiterator",_,hT,PySem.F.slot_dict_itemiterator_next.lookup,h⟩
def PQ{K:Type}[DecidableEq K]{knd:KeyKind O.prog O.w K}(hh:A.handled=none)(bg d:az)(ix:d≠bg)(al:List (K×aq))(ep:Nat):
  WalksT O.prog O.w A bg [bg,d] [bg] al.length (λi vals=>∃k key x,al[i]?=some (k,x)/\knd.is k key=true/\vals= #[key,x])
   (λi h=>(∃ok ov,IsItemIter h bg d i al.length ep ok ov)/\h.DictAt knd d al ep)
   (λi T h=>(∃ok ov,IsItemIterOut h bg d (i+1) al.length ep ok ov T)/\h.DictAt knd d al ep/\T≠bg) where
 sub b hb:=by rw [mem_singleton.mp hb];exact .head _
 frame i h h' st hk:=by
  obtain ⟨⟨ok,ov,hi⟩,hd⟩:=st;exact ⟨⟨ok,ov,hk bg (by simp) _ hi⟩,hd.at' λo e=>hk d (by simp) o e⟩
 item i s Q E hi st hQ:=by
  obtain ⟨⟨ok,ov,hit⟩,hd⟩:=st;obtain ⟨⟨k,x⟩,hx⟩:∃p,al[i]?=some p:=⟨al[i],by simp [hi]⟩
  refine wpAny_pyNext_items_item hit hd hx λkey h' PR ho hT hsz hs=>?_;have cF:=cW hit;exact hQ s.heap.objs.size #[key,x] h' s.toks ⟨k,key,x,hx,PR,rfl⟩ (aD _) ⟨_,hT,rfl,_,rfl⟩ ⟨⟨_,_,ho⟩,hd.at' λo e=>hs d o ix e,cY cF⟩
   λb o hb e=>hs b o (λq=>hb (by simp [q])) e
 go es k pos i T s Q E hm hQ:=by
  obtain ⟨⟨ok,ov,ho⟩,hd,hT⟩:=hm;refine wpAny_letOwnedTupleGo_items ho λh' he hs=>hQ h' ⟨⟨ok,ov,he⟩,hd.at' λo e=>hs.extBut d o ix e⟩ λb o hb e=>hs.extBut b o (λq=>hb (by simp [q])) e
 apart i T h hm hT:=hm.2.2 (cC.mp hT)
 done s Q E st hQ:=by
  obtain ⟨⟨ok,ov,hit⟩,hd⟩:=st;exact wpAny_pyNext_items_end hh hit hd (getElem?_eq_none (aD _)) λh' hs=>hQ h' s.toks λb o hb e=>hs b o (λq=>hb (by simp [q])) e
 self i s Q E st hQ:=by
  obtain ⟨⟨ok,ov,hit⟩,hd⟩:=st;exact PP hit hQ
def PU(hh:A.handled=none)(S:aw O c m ac s)(hl:iW ac lk)(hs:qE c m lk a)(ha:s.heap.DictOf (strKind O.prog O.w) a al)
  (r:bR O s.heap (aC c.P m) al ds) (hv:s.heap.IsItemsView v a) (hQ:kQ O A c (.Tuple es kk pp) (ds.map λp=>.tup [.str p.1,p.2]) lk m ac s Q):wpAny O.M A (pyIter (.ref v)) Q E s:=by
 refine b6 (ha.dictAt) λep hd=>?_;have cF:=hd.lt_size;have hn:al.length=(ds.map λp=>ab.tup [.str p.1,p.2]).length:=by rw [length_map,r.len]
 have W:=(PQ (knd:=strKind O.prog O.w) hh s.heap.objs.size a (cX cF) al ep).toU;refine wpAny_pyIter_items hv hd (oP S hl Kp.push rfl rfl (aD _) qC (zF (hn▸W)) ⟨0,bN _,rfl,⟨⟨.none,.none,by rw [<-hn];exact fh _ rfl⟩,hd.push _⟩,qF (mZ S (aD _) sZ) (vS S hs (vT cF)),λi x Z hx vals hv=>?_⟩ hQ);obtain ⟨k,key,x',mU,zH,rfl⟩:=hv;rw [getElem?_map] at hx;refine bt (map_eq_some_iff.mp hx) λp hp e=>?_;obtain ⟨rfl,H,I,r'⟩:=r.get mU hp;obtain ⟨t,rfl⟩:=Value.isStrOf_shape zH;exact ⟨_,e.symm,.cons ⟨⟨t,rfl⟩,H,I⟩ (.cons (bn.start Kp.push (mY (aD _)) r') .nil)⟩
theorem zJ:∀(J:List ab)(i:Int),(mF i J).length=J.length
 |[],_=>rfl
 |_::J,i=>ae Nat.succ (zJ J (i+1))
theorem FP:∀(J:List ab)(i:Int)(j:Nat)(h:j<J.length),(mF i J)[j]?=some (.tup [.int (i+(j:Int)),J[j]])
 |x::_,i,0,_=>ae (λk=>some (ab.tup [.int k,x])) (Int.add_zero i).symm
 |_::J,i,j+1,h=>(FP J (i+1) j (lt_of_succ_lt_succ h)).trans (ae (λk=>some (ab.tup [.int k,J[j]'(lt_of_succ_lt_succ h)])) ((Int.add_assoc i 1 j).trans (ae (i+·) (Int.add_comm 1 j))))
def PW(hh:A.handled=none)(S:aw O c m ac s)(hs:¬aC c.P m a)(ha:s.heap.IsList a D.toArray)(r:aR O s.heap (aC c.P m) D J)
  (hQ:kQ O A c (.Tuple es kk pp) (mF 0 J) none m ac s Q):wpAny O.M A (call (.type "enumerate") [.ref a]) (λx bq=>wpAny O.M A (pyIter x) Q E bq) E s:=by
 refine call_enumerate_list ha λh' he hi hz hk=>wpAny_pyIter_enum he ?_;have kp:Kp [] s.heap h':=⟨by rw [hz];exact (bz _ _),λb o Z e=>hk b o e⟩
 have kR:∀d∈[s.heap.objs.size+1,s.heap.objs.size],s.heap.objs.size<=d/\d<h'.objs.size:=qF ⟨le_succ _,by rw [hz];exact lt_succ_self _⟩ ⟨aD _,by rw [hz];exact (dc (by decide:1<=2) _)⟩;have cF:a<s.heap.objs.size:=by obtain ⟨o,ho,_⟩:=ha;exact cW ho
 have W:=(WalksT.enumerate (prog:=O.prog) (w:=O.w) (A:=A) hh (s.heap.objs.size+1) s.heap.objs.size a (by exact (cY (aD _))) (by exact cX (lt_succ_of_lt cF)) (cX cF) D.toArray).toU;have hn:D.toArray.size=(mF 0 J).length:=by rw [size_toArray,r.len,zJ]
 rw [hn] at W;refine oP (V:={s with heap:=h'}) (am:=[s.heap.objs.size+1,s.heap.objs.size]) (lk:=none) S trivial kp rfl rfl (aD _) kR (zF W) ⟨0,bN _,rfl,⟨⟨_,he⟩,hi,ha.at λo e=>hk a o e⟩,λb hb=>?_,λi x Z hx vals hv=>?_⟩ hQ
 ·rcases bA.mp hb with rfl|hb
  ·exact mZ S (kR _ (.head _)).1 (kR _ (.head _)).2
  ·exact qF (P:=oM c.P (gJ m none) {s with heap:=h'}) (mZ S (kR _ (.tail _ (.head _))).1 (kR _ (.tail _ (.head _))).2) (vR hs (bx cF kp.1)) b hb
 ·obtain ⟨t,x',mU,rfl⟩:=hv
  have hi:i<J.length:=by have:=(fB.mp hx).1;rwa [zJ] at this
  rw [FP J 0 i hi] at hx;refine ⟨_,(ax hx).symm,.cons ⟨t,by rw [Int.zero_add]⟩ (.cons (bn.start (lk:=none) kp (λd hd=>(kR d hd).1) (r.get (by simpa using mU) (getElem?_eq_getElem hi))) .nil)⟩
theorem zK:∀(J ys:List ab),(lF J ys).length=min J.length ys.length
 |[],_=>(Nat.zero_min _).symm
 |_::_,[]=>(Nat.min_zero _).symm
 |_::J,_::ys=>(ae Nat.succ (zK J ys)).trans (Nat.succ_min_succ ..).symm
theorem FS:∀(J ys:List ab)(j:Nat)(x y:ab),J[j]?=some x->ys[j]?=some y->(lF J ys)[j]?=some (.tup [x,y])
 |[],_,_,_,_,h,_=>nomatch h
 |_::_,[],_,_,_,_,h=>nomatch h
 |_::_,_::_,0,_,_,H,I=>ax H▸ax I▸rfl
 |_::J,_::ys,j+1,x,y,H,I=>FS J ys j x y H I
def PX(la:a<N)(lb:b<N):ZipApart (N+4) (N+2) (N+3) N (N+1) a b:=by
 have l:∀{i j:Nat},i<j->N+i≠N+j:=λh=>cX (Nat.add_lt_add_left h N);have x:∀{y:Nat}(j:Nat),y<N->y≠N+j:=λj h=>cX (bx h (bz N j));constructor<;>first|exact l (by decide)|exact (l (by decide)).symm|exact x _ la|exact (x _ la).symm|exact x _ lb|exact (x _ lb).symm|exact l (i:=0) (by decide)|exact (l (i:=0) (by decide)).symm|exact cX la|exact cX lb|exact cY la|exact cY lb
def FT(hh:A.handled=none)(S:aw O c m ac s)(hl:iW ac lk)(hs:qE c m lk a)(fb:¬aC c.P m b)(ha:s.heap.IsList a D.toArray)(r:aR O s.heap (aC c.P m) D J)
  (hb:s.heap.IsList b us.toArray) (r':aR O s.heap (aC c.P m) us ys) (hQ:kQ O A c (.Tuple es kk pp) (lF J ys) lk m ac s Q):wpAny O.M A (call (.type "zip") [.ref a,.ref b]) (λx bq=>wpAny O.M A (pyIter x) Q E bq) E s:=by
 refine call_zip_2 ha hb λh' z1 z2 z3 z4 z5 hz hk=>wpAny_pyIter_zip z1 ?_;have kp:Kp [] s.heap h':=⟨by rw [hz];exact (bz _ _),λb o Z e=>hk b o e⟩
 have new:∀k:Nat,k<5->s.heap.objs.size<=s.heap.objs.size+k/\s.heap.objs.size+k<h'.objs.size:=λk hk=>⟨bz _ _,hz▸Nat.add_lt_add_left hk _⟩
 have kR:∀d∈[s.heap.objs.size+4,s.heap.objs.size+3,s.heap.objs.size,s.heap.objs.size+1],s.heap.objs.size<=d/\d<h'.objs.size:=dk.mpr ⟨new 4 (by decide),dk.mpr ⟨new 3 (by decide),dk.mpr ⟨new 0 (by decide),List.forall_mem_singleton.mpr (new 1 (by decide))⟩⟩⟩;have la:(a:Nat)<s.heap.objs.size:=ha.elim λZ h=>cW h.1;have lb:(b:Nat)<s.heap.objs.size:=hb.elim λZ h=>cW h.1;have ap:ZipApart (s.heap.objs.size+4) (s.heap.objs.size+2) (s.heap.objs.size+3) s.heap.objs.size (s.heap.objs.size+1) a b:=PX la lb;have W:=(WalksT.zip2 (prog:=O.prog) (w:=O.w) (A:=A) hh _ _ _ _ _ _ _ ap D.toArray us.toArray).toU;have hn:min D.toArray.size us.toArray.size=(lF J ys).length:=by rw [size_toArray,size_toArray,r.len,r'.len,zK]
 rw [hn] at W;refine oP (V:={s with heap:=h'}) (am:=[s.heap.objs.size+4,s.heap.objs.size+3,s.heap.objs.size,s.heap.objs.size+1]) S hl kp rfl rfl (aD _) kR (zF W) ⟨0,bN _,rfl,⟨z1,z2,⟨_,_,z3⟩,z4,z5,ha.at λo e=>hk a o e,hb.at λo e=>hk b o e⟩,λd hd=>?_,λi x Z hx vals hv=>?_⟩ hQ
 ·have sn:∀k:Nat,k<5->oM c.P (gJ m lk) {s with heap:=h'} (s.heap.objs.size+k):=λk hk=>mZ S (new k hk).1 (new k hk).2
  exact dk.mpr ⟨sn 4 (by decide),dk.mpr ⟨sn 2 (by decide),dk.mpr ⟨sn 3 (by decide),dk.mpr ⟨sn 0 (by decide),dk.mpr ⟨sn 1 (by decide),dk.mpr ⟨vS S hs (bx la kp.1),List.forall_mem_singleton.mpr (vR fb (bx lb kp.1))⟩⟩⟩⟩⟩⟩ d hd
 ·obtain ⟨x',y',vU,lV,rfl⟩:=hv
  have hi:i<min J.length ys.length:=by have:=(fB.mp hx).1;rwa [zK] at this
  have vV:i<J.length:=bx hi (Nat.min_le_left _ _);have vW:i<ys.length:=bx hi (Nat.min_le_right _ _);rw [FS J ys i _ _ (getElem?_eq_getElem vV) (getElem?_eq_getElem vW)] at hx;exact ⟨_,(ax hx).symm,.cons (bn.start kp (λd hd=>(kR d hd).1) (r.get (by simpa using vU) (getElem?_eq_getElem vV))) (.cons (bn.start kp (λd hd=>(kR d hd).1) (r'.get (by simpa using lV) (getElem?_eq_getElem vW))) .nil)⟩
end
def vX(O:Wd)(A:Around)(c:Cx)(m:Mp)(s:ay)(ao:ah)(bF:Expr)(r:List ab×Option Nat)(Q:cJ):Prop:=∀m' V,aw O c m' ao V->aK c.own false m m' s V->iW ao r.2->kQ O A c bF r.1 r.2 m' ao V Q
section
variable(O:Wd)(F:je)(n:Nat)
def jG(it:IT):Prop:=∀{c:Cx}{m:Mp}{ac ao:ah}{r:List ab×Option Nat}{A:Around}{s:ay}{bF:Expr}{Q:cJ}{E:cJ},
 qe c.sc it=true->gE F it c.vars ac=some (r,ao)->aw O c m ac s->bw (n+1) A->oN bF->(it.pairs=true->∃es k p,bF=.Tuple es k p)->vX O A c m s ao bF r Q->
 wpAny O.M A (eval (kB c.sc it) c.env) (λx bq=>wpAny O.M A (pyIter x) Q E bq) E s
end
section
variable{O:Wd}{c:Cx}{s:ay}
def vX.pS{C:Prop}(h:Mine.pS o fY=some (r,ao))(K:vX O A c m s ao bF r Q)(k:∀x,o=some x->vX O A c m s fY bF x Q->C):C:=
 qk h λH I=>by subst I;exact k r H K
def vY(S:aw O c m ac s)(p:ai O s.heap c.P m va (.ref k))(hk:ac.Y k=some o):∃a,va=.ref a/\m.f k=some a/\cO O s.heap c.P m a o:=by
 obtain ⟨a,rfl,e⟩:=p;exact ⟨_,rfl,e,S.sr.obj _ _ _ e hk⟩
def FU(r:cO O s.heap c.P m a (.list J)):∃D,s.heap.IsList a D.toArray/\aR O s.heap (aC c.P m) D J:=by
 obtain ⟨D,n,e,z,r⟩:=r;exact ⟨_,⟨_,e,rfl,_,rfl⟩,r⟩
def zL(S:aw O c m ac s)(h:m.f k=some a):(a==sysModules)=false:=by
 have H:=S.sr.sm;have I:=(S.sr.mem k a h).1;rw [beq_eq_false_iff_ne];intro e;rw [e] at I;exact aj H (cg.mpr I)
def vZ(h:ac.Y k=some (.list J)):iW ac (some k):=⟨_,h,aV.no_lk rfl⟩
def zM(h:ac.Y k=some (.dict J)):iW ac (some k):=⟨_,h,aV.no_lk rfl⟩
def PY(hh:A.handled=none)(ht:oN bF)(S:aw O c m ac s)(p:ai O s.heap c.P m va x)(h:uL x ac=some r)(hQ:iW ac r.2->kQ O A c bF r.1 r.2 m ac s Q):wpAny O.M A (pyIter va) Q E s:=by
 refine fm h (λJ e1 e2=>?_) λh=>fm h (λJ e1 e2=>?_) λh=>fm h (λq e1 e2=>?_) λh=>aG h λk e0 h=>fm h (λJ e1 e2=>?_) λh=>cK h λal e1 e2=>?_
 ·obtain ⟨a,D,rfl,hn,hl,hz,rr⟩:=(om e1▸p:ai O s.heap c.P m va (.d (.list J)))
  rw [<-Option.some.inj e2] at hQ;exact FN (lk:=none) hh ht S trivial (.inl hn) hl.isList rr (hQ trivial)
 ·obtain ⟨a,D,rfl,hn,hl,hz,rr⟩:=(oo e1▸p:ai O s.heap c.P m va (.d (.tup J)))
  rw [<-Option.some.inj e2] at hQ;exact PM hh ht S hn hl rr (hQ trivial)
 ·obtain ⟨a,t,u,u',rfl,hn,hr,eC⟩:=(lN (g:=λq:Int×Int=>ab.rng q.1 q.2) ab.rng_inv e1▸p:ai O s.heap c.P m va (.d (.rng q.1 q.2)))
  rw [<-Option.some.inj e2] at hQ;exact zI hh ht S hr eC (hQ trivial)
 ·have hk:=ql e1
  obtain ⟨a,rfl,hm,ho⟩:=vY S (jz e0▸p:ai O s.heap c.P m va (.ref k)) hk;rw [<-Option.some.inj e2] at hQ;exact bt (FU ho) λD H I=>FN hh ht S (vZ hk) (.inr ⟨_,rfl,hm⟩) H I (hQ (vZ hk))
 ·have hk:=se e1
  obtain ⟨a,rfl,hm,ho⟩:=vY S (jz e0▸p:ai O s.heap c.P m va (.ref k)) hk;rw [<-e2] at hQ;obtain ⟨D,H,_,I⟩:=ho;exact PN hh ht S (zM hk) (.inr ⟨_,rfl,hm⟩) (zL S hm) H I (hQ (zM hk))
def PZ(ip:aZ O F n p):jG O F n (.val p):=λ{c m ac ao r A s bF Q E} hc he S hr ht I K=>bj he λx s1 e1 he=>K.pS he λr e2 K=>
 ip (dP hc).2 e1 S hr λm1 va sa S1 a1 p1=>PY hr.hd ht S1 p1 e2 (K m1 sa S1 a1)
def FV(h:mE a b=some r):iR a b/\r=((List.range (b.toNat - a.toNat)).map λ(i:Nat)=>ab.int (a+(i:Int)),none):=by
 exact b8 h λH I=>⟨H,(ax I).symm⟩
def P6(W:Wf O fa F n)(ip:aZ O F n a):jG O F n (.range a q p):=λ{c m ac ao r A s bF Q E} hc he S hr ht I K=>by
 refine aB hc λhg hc=>bj he λx s1 e1 he=>K.pS he λr e2 K=>aG e2 λi e3 e4=>?_;obtain ⟨jZ,rfl⟩:=FV e4;refine wpAny_Call_Name_kw (jD S W hg rfl (PySem.callWith_type (jn hc) (g8 (jn hc) (mW ip hc e1 S hr λm1 va sa S1 a1 p1=>?_))));rw [fo e3] at p1;obtain ⟨t,rfl⟩:=p1;have S2:aw O c m1 s1 {sa with heap:=sa.heap.push {cls:=.type "range",data:=.fields #[.int 0 sa.toks,.int i t,.int 1 (sa.toks+1)]},toks:=sa.toks+1+1}:=S1.grow (fS _) (gF _) rfl rfl (bz _ 2);have a2:aK c.own false m1 m1 sa {sa with heap:=sa.heap.push {cls:=.type "range",data:=.fields #[.int 0 sa.toks,.int i t,.int 1 (sa.toks+1)]},toks:=sa.toks+1+1}:=.of_grow (fS _) (gF _) rfl rfl;exact call_range_1 (zI hr.hd ht S2 (fh _ rfl) jZ (K m1 _ S2 (a1.trans a2) trivial))
def P7(W:Wf O fa F n)(ip:aZ O F n a)(iq:aZ O F n b):jG O F n (.range2 a b q p):=λ{c m ac ao r A s bF Q E} hc he S hr ht I K=>by
 refine aB hc λhg hc=>bj he λx s1 e1 he=>bj he λy s2 iB he=>K.pS he λr e2 K=>aG e2 λi e3 e4=>aG e4 λj e5 e6=>?_;obtain ⟨jZ,rfl⟩:=FV e6;refine wpAny_Call_Name_kw (jD S W hg rfl (PySem.callWith_type (qB hc) (g8 (qB hc) (zp ip iq hc e1 iB S hr λm2 u v sb S2 a2 p1 p2=>?_))));refine oI (di (Eh hr.one S2.sr (fo e3▸p1) (fo e5▸p2) jZ) (λv V h gH=>?_) λZ Z q=>q);obtain ⟨m3,R,a3,p3⟩:=h;obtain ⟨a,t,u,u',rfl,hn,tc,eC⟩:=p3;have S3:=S2.adv0 a3 R gH;exact zI hr.hd ht S3 tc eC (K m3 _ S3 (a2.trans (a3.weaken iv)) trivial)
def P8(W:Wf O fa F n)(ip:aZ O F n a):jG O F n (.enum a q p):=λ{c m ac ao r A s bF Q E} hc he S hr ht I K=>by
 refine aB hc λhg hc=>bj he λx s1 e1 he=>K.pS he λr e2 K=>cK e2 λys e3 e4=>?_;subst e4;obtain ⟨es,k,pp,rfl⟩:=I rfl;refine wpAny_Call_Name_kw (jD S W hg rfl (PySem.callWith_type (jn hc) (g8 (jn hc) (mW ip hc e1 S hr λm1 va sa S1 a1 p1=>?_))));rw [om e3] at p1;obtain ⟨a,D,rfl,hn,hl,hz,r⟩:=p1;exact PW hr.hd S1 hn hl.isList r (K m1 sa S1 a1 trivial)
def P9(W:Wf O fa F n)(ip:aZ O F n a)(iq:aZ O F n b):jG O F n (.zip a b q p):=λ{c m ac ao r A s bF Q E} hc he S hr ht I K=>by
 refine aB hc λhg hc=>bj he λx s1 e1 he=>bj he λy s2 iB he=>K.pS he λr e2 K=>aG e2 λys e3 e4=>?_;obtain ⟨es,k,pp,rfl⟩:=I rfl;refine wpAny_Call_Name_kw (jD S W hg rfl (PySem.callWith_type (qB hc) (g8 (qB hc) (zp ip iq hc e1 iB S hr λm2 u v sb S2 a2 p1 p2=>?_))));rw [om e3] at p2;obtain ⟨a',aS,rfl,jA,jB,gZ,r'⟩:=p2;cases e5:listOf x with
 |some s'=>
  rw [e5] at e4;obtain rfl:=ax e4;rw [om e5] at p1;obtain ⟨a,D,rfl,hn,hl,hz,r⟩:=p1;exact FT (lk:=none) hr.hd S2 trivial (.inl hn) jA hl.isList r jB.isList r' (K m2 sb S2 a2 trivial)
 |none=>
  rw [e5] at e4;refine cK e4 λq e6 e7=>?_;subst e7;refine aT (u3 e6) λH hk=>?_;rw [H] at p1;obtain ⟨a,rfl,hm,ho⟩:=vY S2 p1 hk;refine bt (FU ho) λD H h3=>?_;exact FT hr.hd S2 (vZ hk) (.inr ⟨_,rfl,hm⟩) jA H h3 jB.isList r' (K m2 sb S2 a2 (vZ hk))
def Qa(zt:lM o=true)(Qb:og sT pos=true)
  (h:wpAny O.M A (eval o c.env) (λv bq=>∃d al,v=.ref d/\(d==sysModules)=false/\bq.heap.DictOf (strKind O.prog O.w) d al/\Q (.ref bq.heap.objs.size) {bq with heap:=bq.heap.push {cls:=.type "dict_items",data:=.fields #[.ref d]}}) E s):
  wpAny O.M A (eval (.Call (.Attribute o "items" sT) [] [] pos) c.env) Q E s:=by
 refine wpAny_Call_method (sR zt) rfl Qb F.plainAttrs_dict F.slot_dict_items F.type_dict_items (di h (λv bq h=>?_) λZ Z q=>q);obtain ⟨d,al,rfl,Qc,hm,hQ⟩:=h;refine ⟨hm.typeIs,hm.mapOf.noDict,?_⟩;exact method_meetsIn F.slot_dict_items F.entry_dict_items rfl (PySem.evalArgs_none ⟨rfl,hm.typeIs,F.args_dict_items_1 _,_,meets_dict_items _ d Qc,⟨al,hm⟩,hQ⟩)
def Qd(ip:aZ O F n e):jG O F n (.items e q p):=λ{c m ac ao r A s bF Q E} hc he S hr ht I K=>by
 refine aB hc λhl hc=>aB hc λhb zN=>bj he λx s1 e1 he=>K.pS he λr e2 K=>?_;obtain ⟨es,k,pp,rfl⟩:=I rfl;refine Qa hb hl (ip zN e1 S hr λm1 va sa S1 a1 p1=>?_);have c6:∀{a:az}{D:List (Str×aq)}{ds:List (aa×ab)}{lk:Option Nat},iW s1 lk->qE c m1 lk a->(a==sysModules)=false->sa.heap.DictOf (strKind O.prog O.w) a D->bR O sa.heap (aC c.P m1) D ds->va=.ref a->(ds.map λp=>ab.tup [.str p.1,p.2],lk)=r->
   ∃d al,va=.ref d/\(d==sysModules)=false/\sa.heap.DictOf (strKind O.prog O.w) d al/\wpAny O.M A (pyIter (.ref sa.heap.objs.size)) Q E {sa with heap:=sa.heap.push {cls:=.type "dict_items",data:=.fields #[.ref d]}}:=λ{a D ds lk} hl hs ly hd rk lW tc=>by
  subst tc;have S2:aw O c m1 s1 {sa with heap:=sa.heap.push {cls:=.type "dict_items",data:=.fields #[.ref a]}}:=S1.grow (fS _) (gF _) rfl rfl (aD _);exact ⟨a,D,lW,ly,hd,PU hr.hd S2 hl hs (hd.push _) (bR.step (λa o Z h=>f' _ h) (λa o q Z z=>q z) rk) ⟨_,fh _ rfl,rfl,rfl⟩ (K m1 _ S2 (a1.trans (.of_grow (fS _) (gF _) rfl rfl)) hl)⟩
 refine fm e2 (λal e3 e4=>?_) λe2=>aG e2 λk e0 e2=>cK e2 λal e3 e4=>?_
 ·obtain ⟨a,D,lW,hn,ly,hd,hz,rk⟩:=(lN ab.dict_inv e3▸p1:ai O sa.heap c.P m1 va (.d (.dict al)))
  exact c6 (lk:=none) trivial (.inl hn) ly hd rk lW (ax e4)
 ·have hk:=se e3
  refine d4 (vY S1 (jz e0▸p1:ai O sa.heap c.P m1 va (.ref k)) hk) λa lW hm ho=>?_;obtain ⟨D,hd,_,rk⟩:=ho;exact c6 (zM hk) (.inr ⟨_,rfl,hm⟩) (zL S1 hm) hd rk lW e4
end
def te(O:Wd)(h:Heap)(P:List az)(m:Mp):Fl->Flow->Prop
 |.next,f=>f=.next
 |.ret pv,f=>∃v,f=.ret v/\ai O h P m v pv
def iC(O:Wd)(c:Cx)(m:Mp)(s:ay)(ao:ah)(cq:aI)(fl:Fl)(Q:Flow->ay->Prop):Prop:=∀m' dp f V,aw O {c with vals:=dp,vars:=cq} m' ao V->aK c.own true m m' s V->te O V.heap c.P m' fl f->Q f V
def Qe(O:Wd)(A:Around)(c:Cx)(body:List Stmt)(f:aI->ah->RS):Prop:=
 ∀{vals vars cq m ac ao s fl}{Q:Flow->ay->Prop}{E:cJ},aw O {c with vals:=vals,vars:=vars} m ac s->f vars ac=some (fl,cq,ao)->iC O {c with vals:=vals,vars:=vars} m s ao cq fl Q->wpAny O.M A (execs body c.env) Q E s
section
variable(O:Wd)(F:je)(n:Nat)
def iD(pt:PS):Prop:=∀{c:Cx}{m:Mp}{ac ao:ah}{cq:aI}{fl:Fl}{A:Around}{s:ay}{Q:Flow->ay->Prop}{E:cJ},
 qf c.sc pt=true->ex F pt c.vars ac=some (fl,cq,ao)->c.ro=false->aw O c m ac s->bw (n+1) A->iC O c m s ao cq fl Q->wpAny O.M A (exec (toS c.sc pt) c.env) Q E s
def g9(ps:List PS):Prop:=∀{c:Cx}{m:Mp}{ac ao:ah}{cq:aI}{fl:Fl}{A:Around}{s:ay}{Q:Flow->ay->Prop}{E:cJ},
 kC c.sc ps=true->bo F ps c.vars ac=some (fl,cq,ao)->c.ro=false->aw O c m ac s->bw (n+1) A->iC O c m s ao cq fl Q->wpAny O.M A (execs (jg c.sc ps) c.env) Q E s
end
section
def iC.res(h:some (x,vars,fY)=some (fl,cq,ao))(K:iC O c m s ao cq fl Q):iC O c m s fY vars x Q:=by obtain ⟨rfl,rfl,rfl⟩:=K4 h;exact K
def iC.after(K:iC O c bM bE ao cq fl Q)(a:aK c.own true bM m bE s):iC O {c with vals:=vals,vars:=vs} m s ao cq fl Q:=λm' dp f V S x p=>K m' dp f V S (a.trans x) p
def iC.go(K:iC O c m s ao c.vars .next Q)(S:aw O c m' ao V)(a:aK c.own false m m' s V):Q .next V:=K m' c.vals .next V S a.loose rfl
def Qf(ip:aZ O F n e):iD O F n (.ret e p):=λhc he Z S hr K=>bj he λx s1 e1 he=>
 wpAny_Return_some (ip hc e1 S hr λm1 v V S1 a1 p1=>K.res he m1 _ _ V S1 a1.loose ⟨v,rfl,p1⟩)
def Qg(S:aw O c m ac s):interactive c.env=false:=by
 unfold interactive;rw [S.en.kind]
 rfl
def FW(h:yj e=true):swapsWith e t k env=pure false:=by
 cases e<;>first|rfl|exact aj h cx
def Qh(ip:aZ O F n e):iD O F n (.ex e p):=λhc he Z S hr K=>aB hc λH I=>bj he λx s1 e1 he=>b8 he λZ he=>
 wpAny_Expr_any (ip I e1 S hr λm1 v V S1 a1 p1=>(K.res he).go S1 a1) (Qg S) (FW H)
def Qi(it:gh O F n t)(ia:g9 O F n a)(ib:g9 O F n b):iD O F n (.ite t a b p):=λ{c m ac ao cq fl A s Q E} hc he cP S hr K=>by
 refine aB hc λH hc=>aB hc λI h3=>bj he λq s1 e1 he=>?_;show wpAny _ _ (exec (.If _ _ _ p) _) _ _ _;rw [exec_If];refine an (wpAny_standAt (an (it H e1 S hr λm1 sa S1 a1=>?_)));cases q with
 |true=>exact ia I he cP S1 hr (K.after a1.loose)
 |false=>exact ib h3 he cP S1 hr (K.after a1.loose)
def Qj:g9 O F n []:=λhc he Z S Z K=>wpAny_execs_nil (K.res he _ _ _ _ S .refl rfl)
def Qk(hp:∀st r,t.put st r=st::r)(it:iD O F n t)(il:g9 O F n ts):g9 O F n (t::ts):=λ{c m ac ao cq fl A s Q E} hc he cP S hr K=>by
 refine aB hc λH I=>ot he λg kU s1 e1 he=>?_;show wpAny _ _ (execs (t.put (toS c.sc t) (jg c.sc ts)) _) _ _ _;rw [hp];refine wpAny_execs_cons (it H e1 cP S hr λm1 vals1 f V S1 a1 hf=>?_);cases g with
 |next=>
  subst hf;exact il (c:={c with vals:=vals1,vars:=kU}) I he cP S1 hr (K.after a1)
 |ret pv=>
  obtain ⟨v,rfl,p1⟩:=hf;exact K.res he m1 vals1 _ V S1 a1 ⟨v,rfl,p1⟩
def Ql:g9 O F n (.fail ss::ts):=λZ he Z Z Z Z=>ot he λZ Z Z e1 Z=>nomatch e1
structure zO(O:Wd)(c:Cx)(am:List az)(aW:List az->List az->List ab->Mp->ay->Prop)(bM:Mp)(bE:ay)(J:List ab)(m:Mp)(vals:List (Option aq))(vars:aI)(fc:ah)(s:ay):Prop where
 S:aw O {c with vals:=vals,vars:=vars} m fc s
 a:aK (am++c.own) true bM m bE s
 j:aW c.P c.own J m s
def Qm(O:Wd)(c:Cx)(am:List az)(aW:List az->List az->List ab->Mp->ay->Prop)(bM:Mp)(bE:ay)(g:List ab->aI->ah->RS)(r:Fl×aI×ah)(k:Nat)(s:ay):Prop:=
 ∃J m vals vars fc,k=J.length/\g J vars fc=some r/\zO O c am aW bM bE J m vals vars fc s
def zO.fed(x:zO O c am aW bM bE J m vals vars fY s)(hd:fG c am)(kp:Kp am s.heap h')(ht:s.toks<=tk):aw O {c with vals:=vals,vars:=vars} m fY {s with heap:=h',toks:=tk}/\aK (am++c.own) true bM m bE {s with heap:=h',toks:=tk}:=
 (fG.priv (c:={c with vals:=vals,vars:=vars}) (V:={s with heap:=h',toks:=tk}) ⟨hd.le,hd.ow,hd.ci⟩ x.S kp rfl rfl ht).imp id λa=>x.a.trans a.loose
def FX{C:Prop}(x:te O h P m (.ret pv) f)(k:∀v,ai O h P m v pv->f=.ret v->C):C:=bt x λv e p=>k v p e
def zP(O:Wd)(c:Cx)(am:List az)(bM:Mp)(bE:ay)(R:Result->ay->Prop)(q:Fl×aI×ah):Prop:=∀m' dp f V,aw O {c with vals:=dp,vars:=q.2.1} m' q.2.2 V->aK (am++c.own) true bM m' bE V->te O V.heap c.P m' q.1 f->R (.ok f) V
def Qn(Fd:jF O A bF bg am aW)(hd:fG c am)(ht:oK c.sc bF tg)(hw:sX c tg)(hb:Qe O A c body b)(hh:A.handled=none)
  (S:aw O c bM ac bE) (j:aW c.P c.own J bM bE) (he:dD (λx D s=>(gp tg x D).bind λD=>b D s) J c.vars ac=some r)
  (K:zP O c am bM bE R r):codeAny O.M A (.forLoop bF (.ref bg) body [] c.env) R bE:=by
 refine codeAny_forLoop_any (Qm O c am aW bM bE (dD λx D s=>(gp tg x D).bind λD=>b D s) r) (λk s inv=>?_) J.length ⟨J,bM,c.vals,c.vars,ac,rfl,he,S,.refl,j⟩;refine KZ inv λJ m vals vars fc hk e1 x=>?_;cases J with
 |nil=>exact Fd.done' x.j λh' tk kp gH=>wpAny_execs_nil (aT (x.fed hd kp gH) λS2 a2=>((ax e1).symm▸K:zP O c am bM bE R (.next,vars,fc)) m vals .next _ S2 a2 rfl)
 |cons d J=>
  refine ot e1 λg kU iE e2 e3=>aG e2 λv8 e4 e5=>Fd.item' x.j hd.le λv h' tk kp ir j2 gH=>aT (x.fed hd kp gH) λS2 a2=>?_;refine FI (c:={c with vals:=vals,vars:=vars}) hh ht hw e4 S2 ir λvals2 s2 S3 a3=>hb S3 e5 λm3 vals3 f s3 S4 a4 hf=>?_;have a5:=a2.trans ((a3.loose.trans a4).weaken λa h=>cj _ h);cases g with
  |next=>
   have e:=hf;subst e;exact ⟨J.length,hk▸lt_succ_self _,J,m3,vals3,kU,iE,rfl,e3,S4,a5,Fd.adv (Fd.adv j2 S2.op a3) S2.op a4⟩
  |ret pv=>
   refine FX hf λv p1 ev=>?_;subst ev;exact ((ax e3).symm▸K:zP O c am bM bE R (.ret pv,kU,iE)) m3 vals3 _ s3 S4 a5 ⟨v,rfl,p1⟩
def aK.unlockO(x:aK own fr (gJ m lk) m' s V):aK own fr m {m' with L:=m.L} s V:=by
 cases lk with
 |none=>exact ⟨x.keep,x.new,x.size,x.live,rfl,x.W,x.gens,x.os⟩
 |some k=>exact x.unlock
def SR.unlockO(x:SR O P m' ac h)(hL:m'.L=(gJ m lk).L)(hl:∀k,lk=some k->¬m.L k):SR O P {m' with L:=m.L} (ac.unlock lk) h:=by
 cases lk with
 |none=>
  have e:{m' with L:=m.L}=m':=by cases m';subst hL;rfl
  rw [e];exact x
 |some k=>
  refine b6 (x.lck k (by rw [hL];exact .inr rfl)) λo ho=>?_;have e:ac.unlock (some k)=ac.put k o:=uP ho;rw [e];exact x.unlock ho λj hj=>⟨by rw [hL];exact .inl hj,λq=>hl k rfl (q▸hj)⟩
def iW.free(S:aw O c m ac s)(h:iW ac lk):∀k,lk=some k->¬m.L k:=λk q hk=>by
 subst q;obtain ⟨o,H,I⟩:=h;refine b6 (S.sr.lck k hk) λo' h3=>?_;rw [H] at h3;exact I o' (ax h3)
def FY(Ii:jG O F n it)(ib:g9 O F n b)(hI:qe c.sc it=true)(hb:kC c.sc b=true)(hp:it.pairs=true->∃es k p,bF=.Tuple es k p)(ht:oK c.sc bF tg)(hw:∀i∈tg,gW c.sc i=true)
  (cP:c.ro=false) (he:yg tg (gE F it) (bo F b) c.vars ac=some (fl,cq,ao)) (hs:∀x,foldedSetIterable (kB c.sc it) c.env x=pure x) (S:aw O c m ac s) (hr:bw (n+1) A) (K:iC O c m s ao cq fl Q):
  wpAny O.M A (exec (.For bF (kB c.sc it) (jg c.sc b) [] p) c.env) Q E s:=by
 refine bj he λq s1 e1 he=>ot he λg kU s2 e2 he=>wpAny_For (Ii hI e1 S hr ht.t01 hp λm1 bq hB a1 lO=>?_) hs;intro cw bg am aW gK hk hg ho hT hH Fd j;have hd:=fG.new (am:=am) hB hH;refine Qn (c:=fZ c am) Fd hd ht (λi hi=>⟨hw i hi,.inl cP⟩) (λS1 e=>ib (c:={fZ c am with vals:=_,vars:=_}) hb e cP S1 hr) hr.hd gK (Fd.mono j (λZ Z q=>q) λa Z q=>hB.op a q) e2 λm' dp f V S' a' hf=>?_;have g0:aK c.own true m1 m1 bq cw:=.of_grow (λb o e=>hk.2 b o (λq=>aj q cp) e) hk.1 hg ho;have ad:aK c.own true m1 {m' with L:=m1.L} bq V:=aK.freshL (am:=am) ((g0.weaken λa h=>cj _ h).trans a'.unlockO) hH;have S3:aw O {c with vals:=dp,vars:=kU} m' s2 V:=aw.showL (c:={c with vals:=dp,vars:=kU}) (am:=am) S' S.en.cellsIn S.op;refine (K.res he) {m' with L:=m1.L} dp f V (aw.sameF S3 rfl (S3.sr.unlockO (m:=m1) a'.L (lO.free hB))) (a1.loose.trans ad) ?_;cases g with
 |next=>exact hf
 |ret pv=>
  obtain ⟨v,e,hv⟩:=hf;exact ⟨v,e,(ai.showL (am:=am) hv).sameF rfl⟩
def Qo(h:(!r7 e)=true):∀x,foldedSetIterable e env x=pure x:=λx=>by
 cases e<;>first|rfl|exact aj h cx
def zQ(h:qe sc it=true):∀x,foldedSetIterable (kB sc it) env x=pure x:=by
 cases it with
 |val e=>exact Qo (dP h).1
 |_=>exact λZ=>rfl
def Qp(Ii:jG O F n it)(ib:g9 O F n b):iD O F n (.for1 i it b q p):=λhc he cP S hr K=>aB hc λH hc=>aB hc λI hc=>aB hc λh3 h4=>
 FY Ii ib h3 h4 (λq=>by rw [q] at I;exact aj I cx) (.inl ⟨i,q,rfl,rfl⟩) (λj hj=>by rw [mem_singleton.mp hj];exact H) cP he (zQ h3) S hr K
def v9(h:ym sc is tq=true):2<=is.length/\tq.length=is.length/\is.Nodup/\∀i∈is,gW sc i=true:=
 aB h λH I=>aB I λh3 h4=>⟨(cm H).1,(cm H).2,cm h3,dA.mp h4⟩
def Qq(Ii:jG O F n it)(ib:g9 O F n b):iD O F n (.forT is it b tq tp p):=λhc he cP S hr K=>aB hc λH hc=>aB hc λh3 h4=>
 FY Ii ib h3 h4 (λZ=>⟨_,_,_,rfl⟩) (.inr ⟨tq,tp,rfl,(v9 H).1,(v9 H).2.1⟩) (v9 H).2.2.2 cP he (zQ h3) S hr K
def Qr{s:ah}(h:gb f D s=some r):∃n,lG f n D s=some r:=
 (Classical.em (∃r,∃n,lG f n D s=some r)).elim (λe=>ax ((dif_pos e).symm.trans h)▸e.choose_spec) λe=>av ((dif_neg e).symm.trans h)
def Qs(O:Wd)(c:Cx)(bM:Mp)(bE:ay)(g:Nat->aI->ah->RS)(r:Fl×aI×ah)(k:Nat)(s:ay):Prop:=
 ∃m vals vars fc,aw O {c with vals:=vals,vars:=vars} m fc s/\aK c.own true bM m bE s/\g k vars fc=some r
def zR{st:ah}{q:Option Fl×aI×ah}{g:aI->ah->RS}(e:some (o,D,st)=some q)(h:q.1.elim (g q.2.1 q.2.2) (λfl=>some (fl,q.2))=r):o.elim (g D st) (λfl=>some (fl,D,st))=r:=by
 rw [<-Option.some.inj e] at h;exact h
def Qt(it:gh O F n t)(ib:g9 O F n b):iD O F n (.whl t b p):=λ{c m ac ao cq fl A s Q E} hc he cP S hr K=>by
 refine aB hc λH I=>?_;refine b6 (Qr he) λk hk=>?_;refine wpAny_While (codeAny_whileLoop (Qs O c m s (lG (gV (bP F t) (bo F b))) (fl,cq,ao)) (λk V inv=>?_) k ⟨m,c.vals,c.vars,ac,S,.refl,hk⟩);refine CT inv λm' vals vars fc S1 a1 e1=>?_;cases k with
 |zero=>exact av e1
 |succ k=>
  refine aG e1 λq e2 e3=>bj e2 λcb s2 e4 e5=>it (c:={c with vals:=vals,vars:=vars}) H e4 S1 hr λm3 s3 S3 a3=>?_;cases cb with
  |false=>exact wpAny_execs_nil (K.res (zR e5 e3) m3 vals .next s3 S3 (a1.trans a3.loose) rfl)
  |true=>
   refine ot e5 λg Qu s4 e6 e7=>ib (c:={c with vals:=vals,vars:=vars}) I e6 cP S3 hr λm5 oQ f s5 S5 a5 hf=>?_;have a6:=a1.trans (a3.loose.trans a5);cases g with
   |next=>
    have e:=hf;subst e;exact ⟨k,lt_succ_self _,m5,oQ,Qu,s4,S5,a6,zR e7 e3⟩
   |ret pv=>
    refine FX hf λv hv ev=>?_;subst ev;exact K.res (zR e7 e3) m5 oQ _ s5 S5 a6 ⟨v,rfl,hv⟩
end
noncomputable def oR (m0:List Expr) (env:Env) (b:Bool):Sem Bool:=forIn m0 b λc r=>if r=true then do let ok<-isTrue c env (eval c env);pure (ForInStep.yield ok) else pure (ForInStep.yield r)
def Qv(M:Model)(A:Around)(lI:Expr)(m0:List Expr)(env:Env)(acc:aq)(N:ay->Prop)(E:cJ)(s:ay):Prop:=
 wpAny M A (oR m0 env true) (λok rU=>if ok=true then wpAny M A (eval lI env) (λx jo=>wpAny M A (call (.builtin "list.append") [acc,x]) (λZ wa=>N wa) E jo) E rU else N rU) E s
section
variable{O:Wd}{c:Cx}
def Qw(bg:Nat->ay->Prop)
  (turn:∀n s,bg n s->wpAny O.M A (pyNext it) (λr bq=>match r with
   |none=>R (.ok .next) bq
   |some v=>wpAny O.M A (letOwnedTupleGo zS it v) (λZ bE=>wpAny O.M A (assign zS env v) (λZ cw=>Qv O.M A lI m0 env acc (λwa=>∃m,m<n/\bg m wa) (notedBy O.M A env λe V=>R (.error e) V) cw)
    (notedBy O.M A env λe V=>R (.error e) V) bE) (notedBy O.M A env λe V=>R (.error e) V) bq) (notedBy O.M A env λe V=>R (.error e) V) s)
  (n:Nat) (h:bg n s):codeAny O.M A (.compLoop (.ListComp lI [⟨zS,iter,m0,0⟩] scope pos) 0 it acc env) R s:=by
 refine codeAny_loop rfl bg (λn s hI=>?_) n h;show wpAny _ A ((compTurn (.ListComp lI [⟨zS,iter,m0,0⟩] scope pos) 0 it acc env).onRaise (λx=>do noteFrame x env;theTreesLotGoes x)) _ _ s;refine wpAny_noted ?_;rw [compTurn_list];refine an (wpAny_standAt (an (di (turn n s hI) (λr bq iF=>?_) λZ Z h'=>h')));cases r with
 |none=>exact aQ iF
 |some v=>
  refine an (di iF (λZ bE Qx=>?_) λZ Z h'=>h');refine an (di Qx (λZ cw Qy=>an (di Qy (λok rU FZ=>?_) λZ Z h'=>h')) λZ Z h'=>h');cases ok with
  |false=>exact aQ ⟨rfl,FZ⟩
  |true=>
   exact an (an (di FZ (λx jo Qz=>an (di Qz (λZ wa QA=>aQ (aQ ⟨rfl,QA⟩)) λZ Z h'=>h')) λZ Z h'=>h'))
theorem F0:∀(m0:List Expr),oR m0 env false=pure false
 |[]=>rfl
 |x::J=>by
  unfold oR;rw [forIn_cons];show (pure (ForInStep.yield false)>>=_:Sem Bool)=_;rw [pure_bind];exact F0 J
def QB:∀{cs:List PT}{m:Mp}{ac:ah}{s:ay}{b:Bool},(∀t∈cs,gh O F n t)->oh c.sc cs=true->lJ F cs c.vars ac=some (b,ao)->aw O c m ac s->bw (n+1) A->jm O c m s ao b Q->
  wpAny O.M A (oR (jW c.sc cs) c.env true) Q E s:=by
 intro cs;induction cs with
 |nil=>intro m ac s b _ hc he S hr K;exact aQ (K.res he m s S .refl)
 |cons t ts ih=>
  intro m ac s b hs hc he S hr K;refine aB hc λH I=>bj he λb1 s1 e1 e2=>?_;show wpAny _ _ (oR (mH c.sc t::jW c.sc ts) c.env true) _ _ _;unfold oR;rw [forIn_cons,if_pos rfl];refine an (an (hs t (.head _) H e1 S hr λm2 s2 S2 a2=>aQ ?_));cases b1 with
  |true=>exact ih (λt h=>hs t (.tail _ h)) I e2 S2 hr (K.after a2)
  |false=>
   show wpAny _ _ (oR (jW c.sc ts) c.env false) _ _ _;rw [F0];exact aQ (K.res e2 m2 s2 S2 a2)
def aw.forget(S:aw O {c with vals:=vals,vars:=vars} m ac s)(hl:wb.length=vars.length)(h:∀(i:Nat) (pv:PV),wb[i]?=some (some pv)->vars[i]?=some (some pv)):
  aw O {c with vals:=vals,vars:=wb} m ac s:=
 ⟨S.sr,S.en,⟨by rw [hl];exact S.vr.1,λi pv q=>S.vr.2 i pv (h i pv q)⟩,S.op,S.tk⟩
def F1(tg:aa)(wb:aI):Prop:=∀(i:Nat)(pv:PV),wb[i]?=some (some pv)->i∉tg
def QC:∀{ps:List PV}{D aS:aI},lE is ps D=some aS->aS.length=D.length/\∀j,j∉is->aS[j]?=D[j]?:=by
 induction is with
 |nil=>intro ps D aS h;cases ps with
  |nil=>exact ax h▸⟨rfl,λZ Z=>rfl⟩
  |cons=>exact av h
 |cons i is ih=>intro ps D aS h;cases ps with
  |nil=>exact av h
  |cons x J=>exact aT (ih h) λH I=>⟨H.trans (length_set ..),λj hj=>(I j λq=>hj (.tail _ q)).trans (List.getElem?_set_ne λq=>hj (bA.mpr (.inl q.symm)))⟩
def QD(h:gp tg x D=some aS):aS.length=D.length/\∀j,j∉tg->aS[j]?=D[j]?:=by
 refine fm h (λi e1 e2=>?_) λh=>aG h λys Z h=>QC h;obtain rfl:=ax e2;rw [uZ e1];exact ⟨length_set ..,λj hj=>List.getElem?_set_ne λq=>hj (cC.mpr q.symm)⟩
def aR.snoc{D:List aq}{J:List ab}(e:aR O h X D J)(r:bn O h X v d):aR O h X (D++[v]) (J++[d]):=by
 induction J generalizing D with
 |nil=>cases e;exact .cons r .nil
 |cons x J ih=>obtain ⟨_,_,rfl,a,b⟩:=e;exact .cons a (ih b)
def QE(x:s.heap.PlainList a8 us)(a:aK own fr m m' s V)(h:a8∉own)(hm:∀k,m.f k≠some a8):V.heap.PlainList a8 us:=let ⟨k,hk⟩:=x;⟨k,a.keep a8 _ h (λk q=>aj q (hm k)) hk⟩
structure qG(O:Wd)(A:Around)(bF:Expr)(bg:az)(am:List az)(aW:List az->List az->List ab->Mp->ay->Prop)(c:Cx)(a8:az):Prop where
 fd:jF O A bF bg am aW
 hd:fG c am
 hD:fG c [a8]
 dH:a8∉am
structure iG(O:Wd)(c:Cx)(am:List az)(a8:az)(aW:List az->List az->List ab->Mp->ay->Prop)(bM:Mp)(bE:ay)(vars:aI)(J acc:List ab)(us:List aq)(vals:List (Option aq))(m:Mp)(ac:ah)(s:ay):Prop where
 S:aw O {c with vals:=vals,vars:=vars} m ac s
 a:aK (am++a8::c.own) false bM m bE s
 j:aW c.P (a8::c.own) J m s
 p:s.heap.PlainList a8 us.toArray
 r:aR O s.heap (aC c.P m) us acc
 l:us.length+J.length<=lim
def QF(O:Wd)(c:Cx)(am:List az)(a8:az)(aW:List az->List az->List ab->Mp->ay->Prop)(bM:Mp)(bE:ay)(g:List ab->List ab->ah->Option (List ab×ah))(r:List ab×ah)(k:Nat)(s:ay):Prop:=
 ∃J m vals acc us fc,k=J.length/\g J acc fc=some r/\iG O c am a8 aW bM bE c.vars J acc us vals m fc s
section
variable(C:qG O A bF bg am aW c a8)
include C
def qG.ho:a8∉c.own:=λq=>C.hD.ow a8 q (.head _)
def qG.op(o:∀a∈c.own,a∈c.P):∀a∈a8::c.own,a∈c.P:=λa q=>(bA.mp q).elim (λe=>e▸C.hD.le a8 (.head _)) (o a)
def qG.hp(o:∀a∈c.own,a∈c.P):∀a∈am++a8::c.own,a∈c.P:=λa q=>(bD.mp q).elim (C.hd.le a) (C.op o a)
def qG.nk(S:aw O {c with vals:=vals,vars:=vars} m ac s):∀k,m.f k≠some a8:=λk q=>(S.sr.mem k a8 q).2.2 (C.hD.le a8 (.head _))
def iG.step(x:iG O c am a8 aW bM bE vars J acc us vals m ac s)(S':aw O {c with vals:=dp,vars:=cq} m' ao V)(a:aK c.own false m m' s V):iG O c am a8 aW bM bE cq J acc us dp m' ao V:=
 have w:=a.weaken λa q=>cj am (mem_cons_of_mem a8 q)
 ⟨S',x.a.trans w,C.fd.adv x.j (C.op x.S.op) (a.weaken λZ q=>.tail _ q),QE x.p a C.ho (C.nk x.S),x.r.adv w (C.hp x.S.op),x.l⟩
def iG.fed0(x:iG O c am a8 aW bM bE vars J acc us vals m ac s)(kp:Kp am s.heap h)(ht:s.toks<=tk):aw O {c with vals:=vals,vars:=vars} m ac {s with heap:=h,toks:=tk}/\aK (am++a8::c.own) false bM m bE {s with heap:=h,toks:=tk}/\h.PlainList a8 us.toArray/\aR O h (aC c.P m) us acc:=
 aT (fG.priv (c:={c with vals:=vals,vars:=vars}) (V:={s with heap:=h,toks:=tk}) ⟨C.hd.le,C.hd.ow,C.hd.ci⟩ x.S kp rfl rfl ht) λS2 a2=>
  have w:=a2.weaken λa q=>(bD.mp q).elim (cE _) λq=>cj am (mem_cons_of_mem a8 q)
  ⟨S2,x.a.trans w,x.p.imp λZ hk=>kp.2 a8 _ C.dH hk,x.r.adv w (C.hp x.S.op)⟩
def iG.fed(x:iG O c am a8 aW bM bE vars (d::J) acc us vals m ac s)(kp:Kp am s.heap h)(ht:s.toks<=tk)(j:aW c.P (a8::c.own) J m {s with heap:=h,toks:=tk}):iG O c am a8 aW bM bE vars J acc us vals m ac {s with heap:=h,toks:=tk}:=
 km (x.fed0 C kp ht) λy1 y2 y3 y4=>⟨y1,y2,j,y3,y4,le_of_succ_le x.l⟩
def iG.snoc(x:iG O c am a8 aW bM bE vars J acc us vals m ac s)(p:bn O s.heap (aC c.P m) v z)(hl:h.PlainList a8 (us++[v]).toArray)(kp:Kp [a8] s.heap h)(hn:us.length+(J.length+1)<=lim):iG O c am a8 aW bM bE vars J (acc++[z]) (us++[v]) vals m ac {s with heap:=h}:=
 aT (fG.priv (c:={c with vals:=vals,vars:=vars}) (V:={s with heap:=h}) ⟨C.hD.le,C.hD.ow,C.hD.ci⟩ x.S kp rfl rfl (aD _)) λS2 a2=>
  have w:=a2.weaken λa q=>cj am q
  ⟨S2,x.a.trans w,C.fd.adv x.j (C.op x.S.op) a2,hl,(x.r.adv w (C.hp x.S.op)).snoc (bn.adv w (C.hp x.S.op) p),by rw [length_append];exact af (cr (succ_add_eq_add_succ us.length J.length)) hn⟩
end
def iG.forget(x:iG O c am a8 aW bM bE vars J acc us vals m ac s)(hl:c.vars.length=vars.length)(h:∀(i:Nat) (pv:PV),c.vars[i]?=some (some pv)->vars[i]?=some (some pv)):iG O c am a8 aW bM bE c.vars J acc us vals m ac s:=
 ⟨aw.forget x.S hl h,x.a,x.j,x.p,x.r,x.l⟩
def F2(O:Wd)(c:Cx)(am:List az)(a8:az)(bM:Mp)(bE:ay)(R:Result->ay->Prop)(q:List ab×ah):Prop:=∀m' dp us V,aw O {c with vals:=dp} m' q.2 V->aK (am++a8::c.own) false bM m' bE V->V.heap.PlainList a8 (us:List aq).toArray->aR O V.heap (aC c.P m') us q.1->R (.ok .next) V
def F3{o y:Option ab}{st iE:ah}(e:some (o,st)=some (y,iE))(h:gU f J (acc++y.toList) iE=R):gU f J (acc++o.toList) st=R:=by
 have e:=Prod.mk.inj (ax e);rw [e.1,e.2];exact h
def QG{r:List ab×ah}(Fd:jF O A bF bg am aW)(hd:fG c am)(QH:fG c [a8])(QI:a8∉am)(ht:oK c.sc bF tg)(hw:sX c tg)(tf:F1 tg c.vars)
  (It:∀t∈cs,gh O F n t) (Ie:aZ O F n pe) (hT:oh c.sc cs=true) (hE:ok c.sc pe=true) (hr:bw (n+1) A) (S:aw O c bM ac bE) (j:aW c.P (a8::c.own) J bM bE) (B:bE.heap.PlainList a8 #[]) (hl:J.length<=lim)
  (he:gU (mG (lJ F cs) (ev F pe) tg c.vars) J [] ac=some r) (K:F2 O c am a8 bM bE R r):
  codeAny O.M A (.compLoop (.ListComp (aE c.sc pe) [⟨bF,iter,jW c.sc cs,0⟩] aU pos) 0 (.ref bg) (.ref a8) c.env) R bE:=by
 have C:qG O A bF bg am aW c a8:=⟨Fd,hd,QH,QI⟩
 refine Qw (QF O c am a8 aW bM bE (gU (mG (lJ F cs) (ev F pe) tg c.vars)) r) (λk s inv=>?_) J.length ⟨J,bM,c.vals,[],[],ac,rfl,he,S,.refl,j,B,rfl,(Nat.zero_add _).symm▸hl⟩;refine K0 inv λJ m vals acc us fc hk e1 x=>?_;cases J with
 |nil=>exact Fd.done' x.j λh' tk kp gH=>km (x.fed0 C kp gH) λy1 y2 y3 y4=>((ax e1).symm▸K:F2 O c am a8 bM bE R (acc,fc)) m vals us _ y1 y2 y3 y4
 |cons d J=>
  refine bj e1 λy iE e2 e3=>aG e2 λv8 e4 e5=>bj e5 λb F4 e6 e7=>Fd.item' x.j hd.le λv h' tk kp ir j2 gH=>?_;have hb:=QD e4;have x2:=x.fed C kp gH j2;refine FI (c:={c with vals:=vals}) hr.hd ht hw e4 x2.S ir λvals2 s2 S3 a3=>QB (c:={c with vals:=vals2,vars:=v8}) It hT e6 S3 hr λm4 s4 S4 a4=>?_;have x4:=(x2.step C S3 a3).step C S4 a4;have fg:∀(j:Nat)(pv:PV),c.vars[j]?=some (some pv)->v8[j]?=some (some pv):=λj pv h=>(hb.2 j (tf j pv h)).trans h;cases b with
  |false=>exact ⟨J.length,hk▸lt_succ_self _,J,m4,vals2,acc,us,F4,rfl,(ae (gU _ J · F4) (append_nil acc)).symm.trans (F3 e7 e3),x4.forget hb.1.symm fg⟩
  |true=>
   refine bj e7 λz QJ e8 e9=>qk e9 λQK QL=>cK QK λz' QM QN=>Ie (c:={c with vals:=vals2,vars:=v8}) hE e8 S4 hr λm5 v5 s5 S5 a5 p5=>?_;have e3:=F3 (ae some (Prod.ext QN QL)) e3;have x5:=x4.step C S5 a5;rw [jy QM] at p5;refine wpAny_list_append_plain (hsz:=lx▸af (bz us.length _) x.l) x5.p λh6 QO QP=>?_;exact ⟨J.length,hk▸lt_succ_self _,J,m5,vals2,acc++[z'],us++[v5],QJ,rfl,e3,(x5.snoc C p5 (List.push_toArray us v5▸QO) (Kp.but QP) x.l).forget hb.1.symm fg⟩
end
section
theorem F5{g:Str->NameKind->NameKind}:∀(l:List (Str×NameKind)),(l.map λp=>(p.1,g p.1 p.2)).lookup x=(l.lookup x).map (g x)
 |[]=>rfl
 |(n,k)::r=>by
  rw [map_cons,lookup_cons,lookup_cons];cases hx:x==n with
  |true=>
   have e:=bB.mp hx;subst e
   rfl
  |false=>exact F5 r
def QQ:(relabel aU env).names.lookup x=(aU.names.lookup x).map λk=>if (k==.free&&env.scope.kind==.function&&env.kindOf x==some .cell) then NameKind.cell else k:=by
 rw [<-F5 (g:=λx k=>if (k==.free&&env.scope.kind==.function&&env.kindOf x==some .cell) then NameKind.cell else k)]
 congr 1
 refine eR λp Z=>?_;obtain ⟨n,k⟩:=p;dsimp only;by_cases h:(k==NameKind.free&&env.scope.kind==.function&&env.kindOf n==some .cell)=true
 ·rw [if_pos h,if_pos h]
 ·rw [if_neg h,if_neg h]
def F6(h:aU.names.lookup x=some k):(compEnvC aU cl C env).kindOf x=some (if (k==.free&&env.scope.kind==.function&&env.kindOf x==some .cell) then NameKind.cell else k):=by
 show (relabel aU env).names.lookup x=_;rw [QQ,h]
 rfl
noncomputable def wc (env:Env) (p:Str×NameKind) (cs:List (Str×az)):Sem (ForInStep (List (Str×az))):=if p.2==.free then do let a<-cellOf env p.1;pure (ForInStep.yield ((p.1,a)::cs)) else pure (ForInStep.yield cs)
def F7{l:List (Str×az)}(q:((x,a)::l).lookup y=some b):(y=x/\a=b)\/l.lookup y=some b:=by
 rw [lookup_cons] at q;cases e:y==x with
 |true=>rw [e] at q;exact .inl ⟨bB.mp e,ax q⟩
 |false=>rw [e] at q;exact .inr q
def F8{l:List (Str×az)}(q:y=x\/(l.lookup y).isSome):(((x,a)::l).lookup y).isSome:=by
 rw [lookup_cons];cases e:y==x with
 |true=>rfl
 |false=>exact q.resolve_left (eU.mp e)
def QR{l:List (Str×NameKind)}:∀(acc:List (Str×az)),(∀p∈l,p.2=.free->∃a,env.cells.lookup p.1=some a)->(∀x a,acc.lookup x=some a->env.cells.lookup x=some a)->
  ∃cl,forIn l acc (wc env)=pure cl/\
   (∀x a,cl.lookup x=some a->env.cells.lookup x=some a)/\(∀x,(acc.lookup x).isSome->(cl.lookup x).isSome)/\(∀p∈l,p.2=.free->(cl.lookup p.1).isSome)/\(∀x a,cl.lookup x=some a->acc.lookup x=some a\/(x,NameKind.free)∈l):=by
 induction l with
 |nil=>exact λacc Z I=>⟨acc,rfl,I,λZ h=>h,λp h=>aj h cp,λx a q=>.inl q⟩
 |cons p r ih=>
  intro acc H I;rw [forIn_cons];have hr:∀p∈r,p.2=.free->∃a,env.cells.lookup p.1=some a:=λp q=>H p (.tail _ q);by_cases hk:p.2=.free
  ·refine b6 (H p (.head _) hk) λa ha=>?_
   refine rP (ih ((p.1,a)::acc) hr λy b q=>(F7 q).elim (λz=>z.1▸z.2▸ha) (I y b)) λcl e1 e2 e3 e4 e5=>⟨cl,?_,e2,λy q=>e3 y (F8 (.inr q)),dk.mpr ⟨λZ=>e3 _ (F8 (.inl rfl)),e4⟩,λy b q=>(e5 y b q).elim (λq=>(F7 q).elim (λz=>.inr (z.1▸hk▸.head _)) .inl) λq=>.inr (.tail _ q)⟩
   have ec:cellOf env p.1=pure a:=by unfold cellOf;rw [ha]
   rw [wc,if_pos (beq_iff_eq.mpr hk),ec,pure_bind,pure_bind];exact e1
  ·refine rP (ih acc hr I) λcl e1 e2 e3 e4 e5=>⟨cl,?_,e2,e3,dk.mpr ⟨λe=>aj e hk,e4⟩,λy b q=>(e5 y b q).imp_right (.tail _)⟩
   rw [wc,if_neg (λq=>hk (beq_iff_eq.mp q)),pure_bind];exact e1
def QS(h:∀p∈aU.names,p.2=.free->∃a,env.cells.lookup p.1=some a):
  ∃cl,closureFor aU env=pure cl/\(∀x a,cl.lookup x=some a->env.cells.lookup x=some a)/\(∀p∈aU.names,p.2=.free->(cl.lookup p.1).isSome)/\∀x a,cl.lookup x=some a->(x,NameKind.free)∈aU.names:=by
 refine rP (QR [] h (λZ Z q=>av q)) λcl e1 e2 Z e4 e5=>?_;refine ⟨cl,?_,e2,e4,λx a q=>(e5 x a q).resolve_left (by simp)⟩;unfold closureFor;have hf:(λ(x:Str×NameKind)(cs:List (Str×az))=>(match x with
   |(name,kind)=>if kind==.free then (do let a<-cellOf env name;pure (ForInStep.yield ((name,a)::cs))) else (do pure PUnit.unit;pure (ForInStep.yield cs)):Sem (ForInStep (List (Str×az)))))=wc env:=rfl
 rw [<-hf] at e1;have:=ae (λz=>z>>=λs=>(pure s:Sem _)) e1;refine Eq.trans ?_ this;simp only [bind_pure]
structure kW(sc aU:Scope)(nl:Nat)(bX:aa):Prop where
 kind:aU.kind=.function
 nm:∀p∈aU.names,aU.names.lookup p.1=some p.2/\p.2≠ .cell/\¬(p.1=(".0" :Str)/\p.2=.free)
 nodup:(bO aU).Nodup
 len:(bO aU).length=nl+bX.length
 loc:∀(i:Nat) x,i<nl->(bO aU)[i]?=some x->aU.names.lookup x=some .local
 cap:∀(j:Nat) x k,(bO aU)[nl+j]?=some x->bX[j]?=some k->aU.names.lookup x=some .free/\sc.names.lookup x=some .cell/\kA sc k x=true
def QT(h:(!b)=true):b=false:=(not_eq_true' b).mp h
def QU(h:Dk sc aU nl bX=true):kW sc aU nl bX:=
 aB h λh h8=>aB h λh h7=>aB h λh h6=>aB h λh h5=>aB h λh h4=>aB h λh h3=>aB h λH I=>
 ⟨bB.mp H,λp hp=>aB (dA.mp I p hp) λa a3=>aB a λa1 a2=>⟨bB.mp a1,λq=>aj a2 (by rw [q];decide),λq=>aj (QT a3) (by rw [q.1,q.2];decide)⟩,cm h5,bB.mp h6,
  λi x hi hx=>bB.mp (dA.mp h7 x (ez ((List.getElem?_take_of_lt hi).trans hx))),
  λj x k hx hk=>aB (dA.mp h8 (x,k) (ez (List.getElem?_zip_eq_some.mpr ⟨getElem?_drop.trans hx,hk⟩))) λa a3=>aB a λa1 a2=>⟨bB.mp a1,bB.mp a2,a3⟩⟩
def kW.split(x:kW sc aU nl bX)(h:(bO aU)[i]?=some y):(i<nl/\aU.names.lookup y=some .local)\/∃j k,i=nl+j/\bX[j]?=some k/\aU.names.lookup y=some .free/\sc.names.lookup y=some .cell/\kA sc k y=true:=by
 by_cases hi:i<nl
 ·exact .inl ⟨hi,x.loc i y hi h⟩
 ·have hl:=(fB.mp h).1
  rw [x.len] at hl;obtain ⟨j,rfl⟩:∃j,i=nl+j:=⟨i - nl,((add_sub_cancel' (le_of_not_lt hi)).symm)⟩
  have hj:j<bX.length:=by lia
  have hk:=getElem?_eq_getElem hj;refine fC (x.cap j y _ h hk) λa1 a2 a3=>?_;exact .inr ⟨j,_,rfl,hk,a1,a2,a3⟩
noncomputable def qH (vals:List (Option aq)) (bX:aa):List (Option aq):=bX.map λi=>(vals[i]?).getD none
def j6(c:Cx)(aU:Scope)(cl:List (Str×az))(C a8:az)(am:List az)(nl:Nat)(bX:aa):Cx:=
 {sc:=aU,ro:=true,env:=compEnvC aU cl C c.env,own:=[C],P:=am++(C::a8::c.P),vals:=List.replicate nl none++qH c.vals bX,vars:=List.replicate nl none++n8 c.vars bX}
def we{α:Type}{nl i:Nat}{l:List (Option α)}{x:α}(h:(List.replicate nl none++l)[i]?=some (some x)):∃j,i=nl+j/\l[j]?=some (some x):=by
 by_cases hi:i<nl
 ·rw [getElem?_append_left (by simpa using hi)] at h
  simp [List.getElem?_replicate,hi] at h
 ·rw [getElem?_append_right (by simpa using hi)] at h
  refine ⟨i - nl,((add_sub_cancel' (le_of_not_lt hi)).symm),by simpa using h⟩
def F9{α:Type}{D:List (Option α)}{bX:aa}{j:Nat}{x:α}(h:(bX.map λi=>(D[i]?).getD none)[j]?=some (some x)):∃k,bX[j]?=some k/\D[k]?=some (some x):=by
 rw [getElem?_map] at h;refine bt (map_eq_some_iff.mp h) λk hk e=>?_;refine ⟨k,hk,?_⟩;cases q:D[k]? with
 |none=>rw [q] at e;cases e
 |some y=>rw [q] at e;simp only [Option.getD_some] at e;rw [e]
def zT{l k p:List az}:a∈l++(k++p)↔a∈k++(l++p):=by
 rw [mem_append,mem_append,mem_append,mem_append];exact or_left_comm
def wf(h:kA sc k y=true):(bO sc)[k]?=some y:=aB h λa Z=>bB.mp a
def QV(x:kW sc aU nl bX){i:Nat}(hi:(bO aU)[i]?=some y)(q:aU.names.lookup y=some k):(y,k)∈aU.names:=by
 refine (bu.mp (ez hi)).elim λp hp=>?_;have H:=(mem_filter.mp hp.1).1;rw [<-hp.2] at q⊢;rw [(x.nm p H).1] at q;exact ax q▸H
section
def oS(h:aU.names.lookup y=some k):(j6 c aU cl C a8 am nl bX).env.kindOf y=some (if (k==.free&&c.env.scope.kind==.function&&c.env.kindOf y==some .cell) then NameKind.cell else k):=F6 h
def zU(h:aU.names.lookup y=some .free):(j6 c aU cl C a8 am nl bX).env.kindOf y=some .cell\/(j6 c aU cl C a8 am nl bX).env.kindOf y=some .free:=by
 rw [oS h];by_cases q:(NameKind.free==.free&&c.env.scope.kind==.function&&c.env.kindOf y==some .cell)=true
 ·exact .inl (ae some (bv q))
 ·exact .inr (ae some (bK q))
end
def QW(H:bX[j]?=some k)(I:vals[k]?=some o):(List.replicate nl none++qH vals bX)[nl+j]?=some o:=by
 rw [getElem?_append_right ((length_replicate).symm▸Nat.le_add_right _ _),length_replicate,add_sub_cancel_left,qH,getElem?_map,H];exact ae some (ae (Option.getD · none) I)
def QX{aU:Scope}{cl:List (Str×az)}{C a8:az}{nl:Nat}{bX:aa}{lk:Option Nat}{fc:ah}{cw jo:ay}(x:kW c.sc aU nl bX)(gK:aw O (fZ c am) (gJ m lk) fc cw)
  (eZ:∀x a,cl.lookup x=some a->c.env.cells.lookup x=some a) (zV:∀p∈aU.names,p.2=.free->(cl.lookup p.1).isSome)
  (hk:Kp [] cw.heap jo.heap) (hC:cw.heap.objs.size<=C) {i:Nat}{y:Str}(hi:(bO aU)[i]?=some y) (hy:(j6 c aU cl C a8 am nl bX).env.kindOf y=some .cell\/(j6 c aU cl C a8 am nl bX).env.kindOf y=some .free):
  ∃cc v0,cl.lookup y=some cc/\cc≠C/\cc∈am++(C::a8::c.P)/\(true=false->cc∈[C])/\jo.heap.IsCell cc v0/\∀v,(List.replicate nl none++qH c.vals bX)[i]?=some (some v)->v0=some v:=by
 refine (x.split hi).elim (λz=>hy.elim (λe=>nomatch (oS z.2).symm.trans e) λe=>nomatch (oS z.2).symm.trans e) λz=>eV z λj k e hj q q2 q3=>?_;refine rQ (gK.en.cell k y (wf q3) (.inl (gK.en.ck y q2))) λcc v0 a1 a2 a3 a4 a5 a7=>?_;refine (isSome_iff_exists.mp (zV _ (QV x hi q) rfl)).elim λc2 kF=>?_;have e2:=ax ((a1).symm.trans (eZ y c2 kF));subst e e2;refine ⟨cc,v0,kF,λe=>aj (gK.sr.prv cc a3).2 (cg.mpr (e▸hC)),(zT (l:=[C,a8])).mp (cj _ a3),(λz=>nomatch z),a5.imp λZ z=>⟨hk.2 _ _ (λq=>nomatch q) z.1,z.2⟩,λv hv=>?_⟩;refine bt (we hv) λj' e iy=>bt (F9 iy) λk' lQ mS=>a7 v ?_;have e3:=ax (hj.symm.trans (Nat.add_left_cancel e▸lQ));exact e3▸mS
def QY(x:kW c.sc aU nl bX)(gK:aw O (fZ c am) (gJ m lk) fc cw)
  (eZ:∀x a,cl.lookup x=some a->c.env.cells.lookup x=some a) (zV:∀p∈aU.names,p.2=.free->(cl.lookup p.1).isSome)
  (hk:Kp [] cw.heap jo.heap) (hC:cw.heap.objs.size<=C/\C<jo.heap.objs.size) (hD:cw.heap.objs.size<=a8/\a8<jo.heap.objs.size) (xs:C≠a8) (hn:∃mp,jo.heap.Ns C mp) (ht:0<jo.toks):
  aw O (j6 c aU cl C a8 am nl bX) (gJ m lk) fc jo:=by
 have hH:∀d∈[C,a8],cw.heap.objs.size<=d/\d<jo.heap.objs.size:=dk.mpr ⟨hC,List.forall_mem_singleton.mpr hD⟩;refine ⟨(gK.sr.hideL hk hH).congrP λZ=>zT,?_,⟨by simp [j6,qH,n8],λi pv hi=>?_⟩,λa ha=>cC.mp ha▸cj _ (.head _),ht⟩
 ·exact {kind:=x.kind,glob:=gK.en.glob,blt:=gK.en.blt,nodup:=x.nodup,len:=by simp [j6,qH,x.len],gk:=λy hy=>oS hy,lk:=λy hy=>oS hy,ck:=λy hy=>oS hy,fk:=λy hy=>zU hy,loc:=hn.imp λmp zW=>⟨zW,λi y v hi hv hy=>bt (we hv) λj e Z=>(x.split hi).elim (λz=>aj z.1 (e▸cg.mpr (bz _ _))) λz=>eV z λZ Z Z Z q Z Z=>(zU q).elim (λe=>nomatch hy.symm.trans e) λe=>nomatch hy.symm.trans e⟩,locOwn:=cC.mpr rfl,cell:=λi y hi hy=>QX x gK eZ zV hk hC.1 hi hy,apart:=λy z a H I=>gK.en.apart y z a (eZ y a H) (eZ z a I),known:=λy hy=>b6 (getElem?_of_mem hy) λi hi=>(x.split hi).imp (λz=>oS z.2) λz=>eV z λZ Z Z Z q Z Z=>zU q,rw:=λq=>nomatch q}
 ·refine bt (we hi) λj e hj=>bt (F9 hj) λk lQ mS=>bt (gK.vr.2 k pv mS) λv oT QZ=>⟨v,e▸QW lQ oT,?_⟩
  exact ai.step (λa o Z h=>h) (λa o q Z z=>q (z.imp_left (zT).mpr)) (λZ Z h=>h) (QZ.hideL hk λd q=>(hH d q).1)
def F'(x:kW sc aU nl bX)(h:(y,NameKind.free)∈aU.names):y∈bO aU/\aU.names.lookup y=some .free:=
 fC (x.nm _ h) λH Z h3=>⟨bu.mpr ⟨_,mem_filter.mpr ⟨h,bne_iff_ne.mpr λq=>h3 ⟨q,rfl⟩⟩,rfl⟩,H⟩
def Q0{cl:List (Str×az)}(x:kW c.sc aU nl bX)(S:aw O c m ac s)(eZ:∀x a,cl.lookup x=some a->c.env.cells.lookup x=some a)(Q1:∀x a,cl.lookup x=some a->(x,NameKind.free)∈aU.names)
  (h:cl.lookup y=some a):a∈c.P:=
 aT (F' x (Q1 y a h)) λH I=>b6 (getElem?_of_mem H) λi hi=>(x.split hi).elim (λz=>nomatch I.symm.trans z.2) λz=>eV z λj k Z Z Z q2 q3=>S.en.cellsIn y a (ez (wf q3)) (.inl (S.en.ck y q2)) (eZ y a h)
end
section
def Q2(h:Dl sc tg tq=true):oK sc (uS sc tg tq) tg/\∀i∈tg,gW sc i=true/\sc.names.lookup (d7 sc i)=some .local:=by
 refine aB h λH I=>⟨?_,λi hi=>aB (dA.mp H i hi) λa b=>⟨a,bB.mp b⟩⟩
 rcases Bool.or_eq_true_iff.mp I with q|q
 ·refine aT (cm q) λq1 q2=>?_
  obtain ⟨i,rfl⟩:=List.length_eq_one_iff.mp q1;obtain ⟨p,rfl⟩:=List.length_eq_one_iff.mp q2;exact .inl ⟨i,p,rfl,rfl⟩
 ·refine aT (cm q) λq1 q2=>?_
  match tq,q2 with
  |p::p'::ps,q2=>exact .inr ⟨p'::ps,p,rfl,q1,Nat.succ.inj q2⟩
  |[p],q2=>simp only [length_cons,length_nil] at q2;lia
def Q3(y:Option α):y.toList.length<=1:=by
 cases y
 ·exact bN _
 ·exact aD _
def Q4{J r:List ab}:∀{acc:List ab}{st:ah},gU f J acc st=some (r,kH)->r.length<=acc.length+J.length:=by
 induction J with
 |nil=>exact λh=>cr (ae (λq:List ab×ah=>q.1.length) (ax h)).symm
 |cons x J ih=>exact λ{acc st} h=>bj h λy s1 Z e2=>af (ih e2) (by
   rw [length_append,length_cons,Nat.add_assoc,Nat.add_comm J.length];exact dc (dN (Q3 y) _) _)
def qI{T:Prop}(q:a∈C::a8::P)(H:a=C->T)(I:a=a8->T)(h3:a∈P->T):T:=(bA.mp q).elim H λq=>(bA.mp q).elim I h3
structure m6(h H:Heap)(C a8:az):Prop where
 kp:Kp [] h H
 hC:h.objs.size<=C/\C<H.objs.size
 hD:h.objs.size<=a8/\a8<H.objs.size
 ne:C≠a8
 acc:H.PlainList a8 #[]
def Q5(hC:C=h.objs.size+1)(hs:Heap.SameBut C ((h.push {cls:=.type "list",dict:=none,data:=.seq ([]:List aq).toArray}).push o) iF):m6 h iF C h.objs.size:=by
 have hz:iF.objs.size=h.objs.size+2:=by rw [hs.1,Heap.size_push,Heap.size_push]
 subst hC;exact ⟨⟨hz▸bz _ _,λb o Z e=>hs.2 b (cX (lt_succ_of_lt (cW e)))▸f' _ (f' _ e)⟩,hz▸⟨le_succ _,lt_succ_self _⟩,hz▸⟨aD _,lt_succ_of_lt (lt_succ_self _)⟩,Nat.succ_ne_self _,
  ⟨_,(hs.2 _ (cX (lt_succ_self _))).trans (f' _ (fh _ rfl))⟩⟩
section
variable{bq cw:ay}
def m6.nC(N:m6 h iF C a8)(q:a<h.objs.size):a≠C:=λe=>aj (e▸q) (cg.mpr N.hC.1)
def m6.nD(N:m6 h iF C a8)(q:a<h.objs.size):a≠a8:=λe=>aj (e▸q) (cg.mpr N.hD.1)
def Q6(N:m6 cw.heap iF C a8)(x:kW c.sc aU nl bX)(hB:aw O c m1 iE bq)(k2:∀x a,cl.lookup x=some a->c.env.cells.lookup x=some a)(k4:∀x a,cl.lookup x=some a->(x,NameKind.free)∈aU.names)(iX:bq.heap.objs.size<=cw.heap.objs.size)(hH:∀d∈am,bq.heap.objs.size<=d)(Q7:∀a∈am,a<cw.heap.objs.size):
  fG (j6 c aU cl C a8 am nl bX) am/\fG (j6 c aU cl C a8 am nl bX) [a8]:=
 have lt:∀{y a},cl.lookup y=some a->a<bq.heap.objs.size:=λha=>(hB.sr.prv _ (Q0 x hB k2 k4 ha)).2
 ⟨⟨λa q=>cE _ q,λa ha q=>N.nC (Q7 a q) (cC.mp ha),λy hy gs a ha q=>aj (lt ha) (cg.mpr (hH a q))⟩,
  ⟨λa q=>cC.mp q▸cj _ (.tail _ (.head _)),λa ha q=>N.ne ((cC.mp ha).symm.trans (cC.mp q)),λy hy gs a ha q=>N.nD (bx (lt ha) iX) (cC.mp q)⟩⟩
def Q8(x:kW c.sc aU nl bX)(ji:∀i∈tg,gW aU i=true/\aU.names.lookup (d7 aU i)=some .local):F1 tg (j6 c aU cl C a8 am nl bX).vars:=λi pv hi hm=>
 bt (we hi) λj e Z=>aT (ji _ hm) λz1 z2=>(x.split (wf z1)).elim (λq=>aj q.1 (e▸cg.mpr (bz _ _))) λq=>eV q λZ Z Z Z q Z Z=>nomatch z2.symm.trans q
def Ga(N:m6 cw.heap iF C a8)(Fd:jF O A bF bg am aW)(j:aW (am++P) P' J m cw):aW (am++(C::a8::P)) (a8::[C]) J m {cw with heap:=iF,toks:=tk}:=
 Fd.adv (fr:=false) (Fd.mono j (λa cF q=>(bD.mp q).elim (λq=>cE _ q) λq=>qI q (λe=>aj e (N.nC cF)) (λe=>aj e (N.nD cF)) λq=>cj _ q)
   (λa cF q=>qI q (λe=>aj e (N.nD cF)) (λe=>aj e (N.nC cF)) λq=>aj q cp))
  (λa q=>qI q (λe=>e▸cj _ (.tail _ (.head _))) (λe=>e▸cj _ (.head _)) λq=>aj q cp) (.of_grow (λb o e=>N.kp.2 b o (λq=>nomatch q) e) N.kp.1 rfl rfl)
def Q9{G:Prop}(N:m6 cw.heap iF C a8)(S:aw O c m ac s)(a1:aK c.own false m m1 s bq)(hB:aw O c m1 iE bq)(lO:iW iE lk)(hk:Kp [] bq.heap cw.heap)(hg:cw.gens=bq.gens)(ho:cw.os=bq.os)(hH:∀d∈am,bq.heap.objs.size<=d)
  (S':SR O (am++(C::a8::c.P)) m' th V.heap) (tp:0<V.toks) (a':aK (am++a8::[C]) false (gJ m1 lk) m' {cw with heap:=iF,toks:=tk} V) (B:V.heap.PlainList a8 us.toArray) (rl:aR O V.heap (aC (am++(C::a8::c.P)) m') us l) (hlen:l.length<=lim) (e3:r4 hn (.list l) (th.unlock lk)=some (r,ao))
  (K:∀m',aw O (fZ c [C]) m' ao V->aK c.own false m m' s V->ai O V.heap (fZ c [C]).P m' (.ref a8) r->s.heap.objs.size<=C->G):G:=by
 have R:=(SR.showL S').unlockO a'.L (lO.free hB);have iX:=hk.1;have g:aK [] false m1 m1 bq {cw with heap:=iF,toks:=tk}:=.of_grow (λb o e=>N.kp.2 b o (λq=>nomatch q) (hk.2 b o (λq=>nomatch q) e)) (af hk.1 N.kp.1) hg ho;have ad:=((g.weaken iv).trans a'.unlockO).fresh λa q=>(bD.mp q).elim (hH a) λq=>qI q (λe=>e▸af iX N.hD.1) (λe=>e▸af iX N.hC.1) λq=>aj q cp;have SF:aw O (fZ c [C,a8]) {m' with L:=m1.L} (th.unlock lk) V:=⟨R,fP.moreL (hB.en.keep hB.op λa o ha h=>ad.keep a o (λq=>nomatch q) (λk q=>aj ha (hB.sr.mem k a q).2.2) h),
  hB.vr.step (λa o q h=>ad.keep a o (λq=>nomatch q) (λk z=>aj (.inr ⟨k,z⟩) q) h) (λa o q h z=>z.elim (λz=>qI z (λe=>N.nC (bx (cW h) iX) e) (λe=>N.nD (bx (cW h) iX) e) λz=>q (.inl z)) λz=>aC.of_adv ad q h (.inr z)) (λk a e=>ad.live k a (.inl rfl) e),λa ha=>.tail _ (.tail _ (hB.op a ha)),tp⟩
 have new:∀{a},cw.heap.objs.size<=a->s.heap.objs.size<=a:=λq=>af a1.size (af iX q);refine B.elim λkk oU=>?_;exact FB (am:=[C]) (o:=.list l) S (λa q=>qI q (λe=>e▸new N.hC.1) (λe=>e▸new N.hD.1) λq=>aj q cp) (λq=>N.ne (cC.mp q).symm) SF (a1.trans (ad.weaken iv)) ⟨us,kk,oU,hlen,aR.step (λa o Z h=>h) (λa o q Z z=>q (z.imp (λz=>cj _ z) id)) rl⟩ rfl e3
  λm' S4 a4 p4=>K m' S4 a4 p4 (new N.hC.1)
end
def Gb(Ii:jG O F n it)(It:∀t∈cs,gh O F n t)(Ie:aZ O F n pe)
  (hc:ok c.sc (.comp hn bX tg nl it cs pe aU tq p)=true) (he:ev F (.comp hn bX tg nl it cs pe aU tq p) c.vars ac=some (r,ao)) (S:aw O c m ac s) (hr:bw (n+1) A)
  (hK:∀C a8 m' V,aw O (fZ c [C]) m' ao V->aK c.own false m m' s V->ai O V.heap (fZ c [C]).P m' (.ref a8) r->(∃mp,V.heap.Ns C mp)->s.heap.objs.size<=C->compPost O.M A E Ra Q (.ref a8) C (.ok .next) V):
  wpAny O.M A (comprehension (aE c.sc (.comp hn bX tg nl it cs pe aU tq p)) aU c.env fp (newList []) false (eval (kB c.sc it) c.env) Ra) Q E s:=by
 refine aB hc λq1 hc=>aB hc λq2 hc=>aB hc λq3 hc=>aB hc λq4 hc=>aB hc λq5 q6=>bj he λq fc e1 he=>b8 he λGc he=>bj he λl th e2 e3=>?_;have x:=QU q1;refine aT (Q2 q2) λht ji=>?_;refine nU (QS λz hq hf=>by
  refine aT (F' x (y:=z.1) (hf▸hq)) λH I=>(getElem?_of_mem H).elim λi hi=>(x.split hi).elim (λq=>nomatch I.symm.trans q.2) λq=>eV q λj k Z Z Z q2 q3=>?_;exact (S.en.cell k z.1 (wf q3) (.inl (S.en.ck z.1 q2))).imp λcc w=>w.elim λZ w=>w.1) λcl k1 k2 k3 k4=>?_
 refine wpAny_comprehension_free rfl (zQ q4) k1 x.kind (λq hq hl=>(x.nm q hq).1.trans (ae some hl)) ?_;refine Ii q4 e1 S hr ht.t01 (λe=>ht.elim (λz=>z.elim λi z=>z.elim λp z=>by rw [e,z.2] at q3;exact aj q3 cx) λz=>z.elim λps z=>z.elim λp z=>⟨_,_,_,z.1⟩) λm1 bq hB a1 lO cw bg am aW gK hk hg ho hT hH Fd j=>?_;refine wpAny_newList (wpAny_newFunctionEnv (λq hq=>(x.nm q hq).2.1) (λy hy=>nomatch hy) (λiF Rb Rc=>?_) x.kind);have N:=Q5 (Heap.size_push ..) Rc;have hi:=Q6 N x hB k2 k4 hk.1 hH λa q=>(gK.sr.prv a (cE _ q)).2;refine codeAny_compStart_list ?l (Fd.self (Ga (cw:=cw) N Fd j) ?l);exact QG Fd hi.1 hi.2 (λq=>N.nD (gK.sr.prv _ (cE _ q)).2 rfl) ht (λi hi=>⟨(ji i hi).1,.inr (F6 (ji i hi).2)⟩) (Q8 x ji) It Ie q5 q6 hr
  (QY (jo:={cw with heap:=iF,toks:=_}) x gK k2 k3 N.kp N.hC N.hD N.ne ⟨_,Rb⟩ gK.tk) (Ga (cw:=cw) N Fd j) N.acc Gc e2 λm' dp us V S' a' B rl=>
   Q9 N S a1 hB lO hk hg ho hH S'.sr S'.tk a' B rl (af (Q4 e2) (af (cr (Nat.zero_add _)) Gc)) e3 λm' S4 a4 p4 hz=>S'.en.loc.elim λmp q=>hK _ _ m' V S4 a4 p4 ⟨mp,q.1⟩ hz
def Rf(Ii:jG O F n it)(It:∀t∈cs,gh O F n t)(Ie:aZ O F n pe):aZ O F n (.comp hn bX tg nl it cs pe aU tq p):=λ{c m ac ao r A s Q E} hc he S hr K=>by
 refine Gb Ii It Ie hc he S hr λC a8 m' V S' a' p' hn hC=>?_;refine b6 (hn) λmp zW=>?_;refine ⟨mp,zW,λh' hs=>?_⟩;refine aT (aw.unhideL (V:={V with heap:=h'}) S (mY hC) S' a' (Kp.but hs) rfl rfl (aD _)) λS2 a2=>?_;exact K m' _ _ S2 a2 (ai.showL (p'.priv (Kp.but hs) λd q=>cE _ q))
theorem qJ:∀{ps:List PE},(∀p∈ps,aZ O F n p)->lU O F n ps
 |[],_=>Fx
 |p::ps,h=>zo (h p (.head _)) (qJ λq hq=>h q (.tail _ hq))
theorem zX:∀{ps:List PT},(∀p∈ps,gh O F n p)->qD O F n b ps
 |[],_=>Pw
 |p::ps,h=>Px (h p (.head _)) (zX λq hq=>h q (.tail _ hq))
theorem Gd:∀{ps:List PE},(∀p∈ps,aZ O F n p)->sW O F n ps
 |[],_=>Pl
 |[_],_=>λpos Z he Z Z Z=>nomatch he
 |p::q::ps,h=>Pm (h p (.head _)) (h q (.tail _ (.head _))) (Gd λr hr=>h r (.tail _ (.tail _ hr)))
end
section
variable(W:Wf O fa F n)
include W
mutual
theorem bW:∀p:PE,aZ O F n p
 |.cI ..=>OI
 |.cS ..=>OL
 |.cL ..=>Fp
 |.cN ..=>OJ
 |.cB ..=>OK
 |.v ..=>OM
 |.g ..=>ON W
 |.bin _ a b _=>OO (bW a) (bW b)
 |.neg a _=>OP (bW a)
 |.rng a b _ _=>OS W (bW a) (bW b)
 |.cmp _ a b _=>OQ (bW a) (bW b)
 |.ite t a b _=>OT (ti t) (bW a) (bW b)
 |.idx a i _=>OV (bW a) (bW i)
 |.sl a lo hi _ _=>OZ (bW a) (Ge lo) (Ge hi)
 |.tup ps _=>O0 (qJ (oV ps))
 |.lst _ ps _=>O1 (qJ (oV ps))
 |.dct _ ps _=>Pp (Gd (oV ps))
 |.mtab _=>Po
 |.comp _ _ _ _ it cs e _ _ _=>Rf (wg it) (tj cs) (bW e)
 |.call _ ps _ _=>O2 W (qJ (oV ps))
 |.meth _ o ps _ _=>O4 W (bW o) (qJ (oV ps))
 |.methK _ o a k _ _ _=>O5 W (bW o) (bW a) (bW k)
 |.lenH o _ _=>O6 W (bW o)
 |.strH o _ _=>O7 W (bW o)
 |.bi _ a _ _=>Pd W (bW a)
 |.lenS a _ _ _ _=>Pf W (bW a)
 |.me _ o ps _ _=>Pi W (bW o) (qJ (oV ps))
 |.attr o _=>Pb W (bW o)
 |.newH0 ..=>O' W
 |.newH a _ _=>O9 W (bW a)
 |.qrep o z _ _ _ _ _=>Pg W (bW o) (bW z)
theorem Ge:∀b:PB,sQ O F n b
 |.no=>OW
 |.at_ e=>OX (bW e)
theorem oV:∀ps:List PE,∀p∈ps,aZ O F n p
 |[],_,h=>nomatch h
 |p::ps,q,h=>(bA.mp h).elim (λe=>e▸bW p) (λh=>oV ps q h)
theorem ti:∀p:PT,gh O F n p
 |.cmp _ a b _=>Pq (bW a) (bW b)
 |.and ts _=>Ps (zX (tj ts))
 |.or ts _=>Pu (zX (tj ts))
 |.not t _=>Pr (ti t)
 |.e x=>Pz (bW x)
 |.isStr x _ _ _ _=>PC W (bW x)
 |.notList x _ _ _ _=>PD W (bW x)
theorem tj:∀ps:List PT,∀p∈ps,gh O F n p
 |[],_,h=>nomatch h
 |p::ps,q,h=>(bA.mp h).elim (λe=>e▸ti p) (λh=>tj ps q h)
theorem wg:∀p:IT,jG O F n p
 |.val e=>PZ (bW e)
 |.range a _ _=>P6 W (bW a)
 |.range2 a b _ _=>P7 W (bW a) (bW b)
 |.enum e _ _=>P8 W (bW e)
 |.zip a b _ _=>P9 W (bW a) (bW b)
 |.items e _ _=>Qd (bW e)
end
end
section
variable{m m' bM:Mp}
noncomputable def Mp.drop (m:Mp) (dr:Nat->Bool):Mp:={m with f:=λj=>if dr j=true then none else m.f j}
def m7(h:(m.drop dr).f j=some a):m.f j=some a/\dr j=false:=by
 simp only [Mp.drop] at h
 split at h
 ·exact av h
 ·rename_i q;exact ⟨h,by simpa using q⟩
def tm(h:m.f j=some a)(hd:dr j=false):(m.drop dr).f j=some a:=by
 simp only [Mp.drop,hd];exact h
def aC.drop(h:aC P (m.drop dr) a):aC P m a:=by
 rcases h with h|⟨k,h⟩
 ·exact .inl h
 ·exact .inr ⟨k,(m7 h).1⟩
def bn.drop(p:bn O h (aC P m) v d):bn O h (aC P (m.drop dr)) v d:=bn.step (λa o Z h=>h) (λa o q Z z=>q z.drop) p
def aR.drop(p:aR O h (aC P m) v d):aR O h (aC P (m.drop dr)) v d:=aR.step (λa o Z h=>h) (λa o q Z z=>q z.drop) p
def bR.drop(p:bR O h (aC P m) v d):bR O h (aC P (m.drop dr)) v d:=bR.step (λa o Z h=>h) (λa o q Z z=>q z.drop) p
def ga.drop(p:ga O h (aC P m) x l):ga O h (aC P (m.drop dr)) x l:=ga.step (λa o Z h=>h) (λa o q Z z=>q z.drop) p
theorem cO.drop(p:cO O h P m a o)(ht:o.isTab=true->∀j,100<=j->dr j=false):cO O h P (m.drop dr) a o:=by
 induction o with
 |list J=>obtain ⟨D,n,e,z,r⟩:=p;exact .list e z r.drop
 |dict ds=>obtain ⟨al,e,z,r⟩:=p;exact .dict e z r.drop
 |tab ts=>obtain ⟨al,e,z,q1,q2⟩:=p;exact .tab e z q1 λi t hi=>let ⟨a0,l,a1,a2⟩:=q2 i t hi;⟨a0,l,tm a1 (ht rfl _ a0),a2⟩
 |lk o ih=>exact ih p ht
def SR.drop{mx:Mp}(x:SR O P m ac h)(hW:∀j,mx.W j->m.W j/\dr j=false/\j∉ow\/((m.f j).isSome/\dr j=false/\j∉ow))(hL:∀j,m.L j->dr j=false)(ht:∀k o,ac.Y k=some o->dr k=false->o.isTab=true->∀j,100<=j->dr j=false):
  SR O P {m.drop dr with W:=mx.W} ⟨λk=>if dr k=true then none else ac.Y k,ow⟩ h where
 base:=x.base
 size:=x.size
 sm:=x.sm
 prv:=x.prv
 mem k a e:=x.mem k a (m7 e).1
 dom k:=by
  simp only [Mp.drop]
  split
  ·rfl
  ·exact x.dom k
 inj k k' a e e':=x.inj k k' a (m7 e).1 (m7 e').1
 obj k a o e1 e2:=by
  refine aT (m7 e1) λH I=>?_;have j4:(if dr k=true then none else ac.Y k)=some o:=e2;rw [I] at j4;have:=(x.obj k a o H j4).drop (ht k o j4 I);exact cO.step (m:=m.drop dr) (m':={m.drop dr with W:=mx.W}) (λa o Z h=>h) (λa o q Z z=>q z) (λZ Z h=>h) this (λo h=>h)
 lck k hk:=by
  refine b6 (x.lck k hk) λo ho=>?_;exact ⟨o,by show (if dr k=true then none else ac.Y k)=_;rw [hL k hk];exact ho⟩
 wk k hk:=by
  rcases hW k hk with ⟨H,I,h3⟩|⟨H,I,h3⟩
  ·refine ⟨?_,h3⟩
   simp only [Mp.drop,I];exact (x.wk k H).1
  ·refine ⟨?_,h3⟩
   simp only [Mp.drop,I];exact H
 tb k o e1 e2:=by
  have iB:(if dr k=true then none else ac.Y k)=some o:=e1
  split at iB
  ·cases iB
  ·exact x.tb k o iB e2
mutual
theorem ai.drop:∀{v:aq}{pv:PV},ai O h P m v pv->jV k pv=true->ai O h P (m.drop λj=>j==k) v pv
 |_,.d _,r,_=>bn.drop r
 |_,.ref j,r,hn=>r.imp λZ z=>⟨z.1,tm z.2 ((not_eq_true' _).mp hn)⟩
 |_,.hdr j,r,hn=>r.imp λZ z=>z.imp λZ z=>⟨z.1,tm z.2.1 ((not_eq_true' _).mp hn),z.2.2.drop⟩
 |_,.tup _,r,hn=>r.imp λZ z=>z.imp λZ z=>⟨z.1,λq=>z.2.1 q.drop,z.2.2.1,z.2.2.2.1,bL.drop z.2.2.2.2 hn⟩
 |_,.pat _,r,_=>r
 |_,.raw _,r,_=>r
 |_,.lit _,r,_=>r
theorem bL.drop:∀{v:List aq}{pv:List PV},bL O h P m v pv->yb k pv=true->bL O h P (m.drop λj=>j==k) v pv
 |_,[],r,_=>r
 |_,_::_,r,hn=>r.imp λZ z=>z.imp λZ z=>⟨z.1,ai.drop z.2.1 (dP hn).1,bL.drop z.2.2 (dP hn).2⟩
end
noncomputable def Gf:aV->Option ab
 |.list J=>some (.list J)
 |.dict J=>some (.dict J)
 |_=>none
def Rg{C:Prop}(h:n6 i D ac=some (aS,ao))(k:∀j o x,D[i]?=some (some (.ref j))->j∈ac.own->j<100->((D.set i none).all λx=>match x with|some p=>jV j p|none=>true)=true->ac.Y j=some o->Gf o=some x->aS=D.set i (some (.d x))->ao=⟨ak ac.Y j none,ac.own.filter (· !=j)⟩->C):C:=
 aG h λj hj h=>b8 h λhc h=>have hv:=aG hj λx e1 e2=>(Lp e1).trans (ae (λx=>some (some x)) (jz e2))
  fm h (λJ e1 e2=>k j _ _ hv hc.1 hc.2.1 hc.2.2 (ql e1) rfl (mw e2).1.symm (mw e2).2.symm) λh=>cK h λal e1 e2=>k j _ _ hv hc.1 hc.2.1 hc.2.2 (se e1) rfl (Prod.mk.inj e2).1.symm (Prod.mk.inj e2).2.symm
def Rh(h:Gf o=some x):∀o',o≠ .lk o':=λo' q=>by subst q;exact av h
def Ri(S:aw O c m ac s)(h:n6 i c.vars ac=some (cq,ao)):∃m',aw O {c with vars:=cq} m' ao s/\aK c.own true m m' s s:=by
 refine Rg h λk o x H I h3 h4 h5 h6 e1 e2=>?_;subst e1;subst e2;have de:(λj=>if (j==k)=true then none else ac.Y j)=ak ac.Y k none:=by
  funext j
  simp only [ak,bB]
 have Gg:∀j,m.L j->(j==k)=false:=λj hj=>eU.mpr λe=>by
  refine b6 (S.sr.lck j hj) λo' ho=>?_;rw [e,h5] at ho;exact Rh h6 o' (ax ho)
 have Gh:∀j,m.W j->(j==k)=false:=λj hj=>eU.mpr λe=>(S.sr.wk k (e▸hj)).2 I;have R:=SR.drop (dr:=λj=>j==k) (ow:=ac.own.filter (· !=k)) (mx:=m) S.sr (λj hj=>.inl ⟨hj,Gh j hj,λq=>(S.sr.wk j hj).2 (mem_filter.mp q).1⟩) Gg (λj o Z Z Z q hq=>eU.mpr (by exact (cY (af h3 hq))));rw [de] at R;obtain ⟨v,oT,a,rfl,hm⟩:=S.vr.2 i _ H;have Gi:¬aC c.P (m.drop λj=>j==k) a:=by
  rintro (q|⟨j,q⟩)
  ·exact (S.sr.mem k a hm).2.2 q
  ·refine aT (m7 q) λq1 q2=>?_
   exact eU.mp q2 (S.sr.inj j k a q1 hm)
 have hp:ai O s.heap c.P (m.drop λj=>j==k) (.ref a) (.d x):=by
  have ob:=S.sr.obj k a _ hm h5;cases o<;>cases h6
  ·obtain ⟨D,n,e,z,r⟩:=ob
   exact .list Gi ⟨_,e⟩ z r.drop
  ·obtain ⟨D,e,z,r⟩:=ob
   exact .dict Gi (zL S hm) e z r.drop
 refine ⟨m.drop λj=>j==k,⟨R,S.en,⟨by simp [S.vr.1],λj pv hj=>?_⟩,S.op,S.tk⟩,⟨λa o Z Z h=>h,λj b e=>.inl (m7 e).1,aD _,λj b hj e=>tm e (hj.elim (λq=>nomatch q) λq=>q.elim (Gh j) (Gg j)),rfl,rfl,rfl,rfl⟩⟩;have iy:(c.vars.set i (some (PV.d x)))[j]?=some (some pv):=hj;rw [qz] at iy
 split at iy
 ·rename_i e
  split at iy
  ·cases iy
   rw [<-e];exact ⟨_,oT,hp⟩
  ·cases iy
 ·rename_i e
  refine bt (S.vr.2 j pv iy) λu Rj Rk=>?_;exact ⟨u,Rj,Rk.drop (dA.mp h4 (some pv) (ez (i:=j) (by rw [qz,if_neg e];exact iy)))⟩
def Rl(il:g9 O F n ts):g9 O F n (.frz i::ts):=λ{c m ac ao cq fl A s Q E} hc he cP S hr K=>aB hc λZ hc=>ot he λg kU s1 e1 he=>cK e1 λq e2 e3=>by
 cases e3;refine bt (Ri S e2) λm2 S2 a2=>?_;exact il (c:={c with vars:=q.1}) hc he cP S2 hr (K.after a2)
end
set_option backward.match.sparseCases true in
noncomputable def kX (env:Env) (line:Nat):Expr->Option Str
 |.Name id pos=>if env.kindOf id==some .local&&pos.line==line then some id else none
 |_=>none
def Rm[Decidable c1][Decidable c2][Decidable c3][Decidable c4][Decidable c5](h:x=if c1 then n else if c2 then n else if c3 then n else if c4 then n else if c5 then u else r)(h5:¬c5):x=n\/x=r/\¬c3:=by
 by_cases H:c1
 ·exact .inl (h.trans (bv H))
 rw [if_neg H] at h;by_cases I:c2
 ·exact .inl (h.trans (bv I))
 rw [if_neg I] at h;by_cases h3:c3
 ·exact .inl (h.trans (bv h3))
 rw [if_neg h3] at h;by_cases h4:c4
 ·exact .inl (h.trans (bv h4))
 exact .inr ⟨h.trans ((bK h4).trans (bK h5)),h3⟩
def Rn{a b:Nat}{c d:Nat}(h:¬((a !=b||c !=d)=true)):a=b/\c=d:=
 aT (or_eq_false_iff.mp (eq_false_iff.mpr h)) λH I=>⟨of_not_not λq=>aj (bne_iff_ne.mpr q) (H▸cx),of_not_not λq=>aj (bne_iff_ne.mpr q) (I▸cx)⟩
set_option backward.match.sparseCases true in
def Ro(hc:D.all (constantsAlone 8)=false):swappedStores [.Tuple es k tp] (.Tuple D k2 p2) env=pure none\/
  ∃line names,swappedStores [.Tuple es k tp] (.Tuple D k2 p2) env=pure (some names)/\names=es.filterMap (kX env line)/\names.length=es.length/\names.eraseDups.length=names.length:=
 (Rm (x:=swappedStores [.Tuple es k tp] (.Tuple D k2 p2) env) rfl (λq=>aj (hc.symm.trans q) cx)).imp id λz=>⟨_,_,z.1,rfl,Rn z.2⟩
section
structure Bd where
 x:Str
 i:Nat
 v:aq
 p:PV
def Rp(l:List Bd):∀{c:Cx}{s:ay}{Q:Unit->ay->Prop},(∀q∈l,kA c.sc q.i q.x=true/\ai O s.heap c.P m q.v q.p)->c.ro=false->aw O c m ac s->
  (∀dp V,aw O {c with vals:=dp,vars:=l.foldl (λD q=>dO q.i q.p D) c.vars} m ac V->aK c.own false m m s V->Q () V)->wpAny O.M A (assignInOrder (l.map λq=>bindName c.env q.x) (l.map (·.v))) Q E s:=by
 induction l with
 |nil=>exact λZ Z S hQ=>aQ (hQ _ _ S aK.refl)
 |cons q l ih=>
  intro c s Q h cP S hQ;refine aT (h q (.head _)) λH I=>?_;refine an (dT (wpAny_bindName (qA S H I (.inl cP) λs1 S1 a1=>?_)));exact ih (c:={c with vals:=c.vals.set q.i (some q.v),vars:=dO q.i q.p c.vars}) (λz hz=>⟨(h z (.tail _ hz)).1,(h z (.tail _ hz)).2.adv a1 S.op⟩) cP S1 λdp s2 S2 a2=>hQ dp s2 S2 (a1.trans a2)
end
def Rq(h:i≠j):dO i x (dO j y D)=dO j y (dO i x D):=by
 exact List.set_comm _ _ (Ne.symm h)
theorem Gj:∀(l:List Bd)(i:Nat)(p:PV)(D:aI),(∀q∈l,q.i≠i)->l.foldl (λD q=>dO q.i q.p D) (dO i p D)=dO i p (l.foldl (λD q=>dO q.i q.p D) D)
 |[],_,_,_,_=>rfl
 |q::l,i,p,D,h=>by
  simp only [List.foldl_cons];rw [Rq (h q (.head _))];exact Gj l i p _ λz hz=>h z (.tail _ hz)
theorem Gk:∀(l:List Bd)(D:aI),(l.map (·.i)).Nodup->l.reverse.foldl (λD q=>dO q.i q.p D) D=l.foldl (λD q=>dO q.i q.p D) D
 |[],_,_=>rfl
 |q::l,D,h=>by
  rw [map_cons,List.nodup_cons] at h;rw [reverse_cons,List.foldl_append,Gk l D h.2];exact (Gj l q.i q.p D λz hz e=>h.1 (e▸List.mem_map_of_mem hz)).symm
section
variable{O:Wd}{c:Cx}
def iC.stored(K:iC O c bM bE ao (dO i pv c.vars) .next Q)(a1:aK c.own false bM m bE s)(S2:aw O {c with vals:=c.vals.set i (some v),vars:=dO i pv c.vars} m ao V)(a2:aK c.own false m m s V):Q .next V:=K m _ .next V S2 (a1.trans a2).loose rfl
def Gm(ip:aZ O F n e)(H:gW c.sc i=true)(I:ok c.sc e=true)(e1:ev F e c.vars ac=some (pv,ao))(cP:c.ro=false)(S:aw O c m ac s)(hr:bw (n+1) A)
  (hs:swapsWith (aE c.sc e) (some (.Name (d7 c.sc i) q)) p.line c.env=pure false) (K:iC O c m s ao (dO i pv c.vars) .next Q):wpAny O.M A (exec (.Assign [.Name (d7 c.sc i) q] (aE c.sc e) p) c.env) Q E s:=by
 rw [exec_Assign_Name _ _ _ _ _ hs];exact an (wpAny_standAt (an (ip I e1 S hr λm1 v s1 S1 a1 p1=>an (wpAny_standAt (an (wpAny_bindName (qA S1 H p1 (.inl cP) λV S2 a2=>aQ (K.stored a1 S2 a2))))))))
def Rr(sc:Scope)(e:PE):yj (aE sc e)=true\/∃hn bX tg nl it cs pe aU tq p,e=.comp hn bX tg nl it cs pe aU tq p:=by
 cases e<;>first|exact .inl rfl|exact .inr ⟨_,_,_,_,_,_,_,_,_,_,rfl⟩
def Rs(W:Wf O fa F n):iD O F n (.asg i e q p):=λ{c m ac ao cq fl A s Q E} hc he cP S hr K=>by
 refine aB hc λH I=>bj he λpv s1 e1 he=>?_;have K:=K.res he;rcases Rr c.sc e with Rt|⟨hn,bX,tg,nl,it,cs,pe,aU,tq,p',rfl⟩
 ·exact Gm (bW W e) H I e1 cP S hr (FW Rt) K
 ·obtain ⟨b,hb⟩:∃b:Bool,swapsWith (aE c.sc (.comp hn bX tg nl it cs pe aU tq p')) (some (.Name (d7 c.sc i) q)) p.line c.env=pure b:=⟨_,rfl⟩
  cases b with
  |false=>exact Gm (bW W _) H I e1 cP S hr hb K
  |true=>
   have hb:swapsWith (.ListComp (aE aU pe) [⟨uS aU tg tq,kB c.sc it,jW aU cs,0⟩] aU p') (some (.Name (d7 c.sc i) q)) p.line c.env=pure true:=hb;show wpAny _ _ (exec (.Assign [.Name (d7 c.sc i) q] (.ListComp (aE aU pe) [⟨uS aU tg tq,kB c.sc it,jW aU cs,0⟩] aU p') p) _) _ _ _;rw [exec_Assign_Name_used _ _ _ _ hb];refine an (wpAny_standAt (an ?_));refine an (Gb (wg W _) (tj W _) (bW W _) I e1 S hr λC a8 m' V S' a' p1 hn hC=>?_);refine wpAny_assign_Name (qA (c:=fZ c [C]) S' H p1 (.inl cP) λs3 S3 a3=>?_);obtain ⟨mp,o,es,ep,ho,hq⟩:=hn;refine ⟨mp,⟨o,es,ep,a3.keep C o (λz=>aj (S.sr.prv C (S.op C z)).2 (cg.mpr hC)) (λk e=>aj (List.Mem.head _) (S'.sr.mem k C e).2.2) ho,hq⟩,λh' hs=>?_⟩;refine aT (aw.unhideL (vars:=dO i pv c.vars) (V:={s3 with heap:=h'}) S (mY hC) S3 (a'.trans a3) (Kp.but hs) rfl rfl (aD _)) λS4 a4=>?_;exact aQ (aQ (K m' _ .next _ S4 a4.loose rfl))
def Ru(ip:aZ O F n e):iD O F n (.aug i e q p):=λ{c m ac ao cq fl A s Q E} hc he cP S hr K=>by
 refine aB hc λH I=>aG he λk ha he=>bj he λy s1 e1 he=>aG he λk' e2 he=>aG ha λpv ha hk=>?_;have K:=K.res he;show wpAny _ _ (exec (.AugAssign (.Name (d7 c.sc i) q) .Add (aE c.sc e) p) _) _ _ _;rw [exec_AugAssign_Name];refine an (wpAny_standAt (an (Fo S H (Option.join_eq_some_iff.mp ha) λva pa=>an (dT (ip I e1 S hr λm1 vb sb S1 a1 p1=>?_)))));rw [fo e2] at p1;rw [fo hk] at pa;refine an (wpAny_standAt (an (wpAny_operating (oI (di (LN S1.sr (pa.adv a1 S.op) p1) (λv s2 h ht=>?_) λZ Z q=>q)))));obtain ⟨m2,R,a2,p2⟩:=h;exact an (wpAny_standAt (an (wpAny_bindName (qA (S1.adv0 a2 R ht) H p2 (.inl cP) λV S3 a3=>aQ (K.stored (a1.trans (a2.weaken iv)) S3 a3)))))
def Rv:swapsWith value (some (.Subscript o k p)) l env=pure false:=by
 cases value<;>rfl
def Rw(ia:aZ O F n a)(ib:aZ O F n b)(ip:aZ O F n e):iD O F n (.setI a b e q p):=λ{c m ac ao cq fl A s Q E} hc he cP S hr K=>
 aB hc λh0 hc=>aB hc λH hc=>aB hc λI h3=>bj he λx s1 e1 he=>bj he λy s2 e2 he=>bj he λz s3 e3 he=>aG he λs4 e4 he=>
 wpAny_Assign_Subscript (ip h3 e1 S hr λm1 vx t1 S1 a1 p1=>ia H e2 S1 hr λm2 vy t2 S2 a2 p2=>ib I e3 S2 hr λm3 vz t3 S3 a3 p3=>
  oI (di (Eo hr.one S3.sr (p2.adv a3 S.op) p3 (p1.adv (a2.trans a3) S.op) e4) (λZ t4 h ht=>(K.res he).go (S3.adv0 h.2 h.1 ht) (a1.trans (a2.trans (a3.trans (h.2.weaken iv))))) λZ Z q=>q)) Rv
def Gn(h:∀D k p,value≠ .Tuple D k p):swappedStores [.Tuple es k tp] value env=pure none:=by
 cases value<;>first|rfl|exact aj rfl (h _ _ _)
def Rx[Decidable c1][Decidable c2][Decidable c3]{x n r:α}(h:x=if c1 then n else if c2 then n else if c3 then n else r)(h3:c3):x=n:=h.trans (by rw [if_pos h3,ite_self,ite_self])
def Ry:swappedStores [.Tuple [.Subscript o k kp,.Subscript o' k' L1] tk tp] value env=pure none:=by
 by_cases ht:∃D k p,value=.Tuple D k p
 ·obtain ⟨us,k2,p2,rfl⟩:=ht
  exact Rx rfl rfl
 ·exact Gn λD k p q=>ht ⟨D,k,p,q⟩
def zY(Rz:swapsWithSole [.Tuple ts 0 tp] (aE c.sc e) p.line c.env=pure false)(hs:swappedStores [.Tuple ts 0 tp] (aE c.sc e) c.env=pure sw)
  (h:wpAny O.M A (eval (aE c.sc e) c.env) (λv s=>wpAny O.M A (assignStores c.env v sw [assign (.Tuple ts 0 tp) c.env]) Q E s) E s):wpAny O.M A (exec (.Assign [.Tuple ts 0 tp] (aE c.sc e) p) c.env) Q E s:=by
 rw [arm_exec_Assign];rw [Rz,hs];refine an (wpAny_standAt ?_);simp only [pure_bind,Bool.false_eq_true,if_false];exact an h
def z6:swapsWithSole [.Tuple ts 0 tp] v l env=pure false:=by cases v<;>rfl
def RA:∀{is:aa}{qs:List Pos}{D:List aq}{ps:List PV}{vars cq:aI},(∀i∈is,gW sc i=true)->qs.length=is.length->bL O h P m D ps->lE is ps vars=some cq->((d8 sc is qs).filterMap (kX env line)).length=(d8 sc is qs).length->
  ∃l:List Bd,l.map (·.x)=(d8 sc is qs).filterMap (kX env line)/\l.map (·.v)=D/\l.map (·.i)=is/\l.foldl (λD q=>dO q.i q.p D) vars=cq/\∀q∈l,kA sc q.i q.x=true/\ai O h P m q.v q.p:=by
 intro is;induction is with
 |nil=>
  intro qs D ps vars cq _ hl hp hb _;cases length_eq_zero_iff.mp hl;cases ps with
  |nil=>subst hp;obtain rfl:=ax hb;exact ⟨[],rfl,rfl,rfl,rfl,λq hq=>aj hq cp⟩
  |cons _ _=>exact av hb
 |cons i is ih=>
  intro qs D ps vars cq hn hl hp hb hlen;cases qs with
  |nil=>contradiction
  |cons q qs=>
   cases ps with
   |nil=>exact av hb
   |cons p ps=>
    obtain ⟨v,D,rfl,hv,mK⟩:=hp;have hb:=hb;have hlen:((.Name (d7 sc i) q::d8 sc is qs).filterMap (kX env line)).length=(d8 sc is qs).length+1:=hlen;show∃l:List Bd,l.map (·.x)=(.Name (d7 sc i) q::d8 sc is qs).filterMap (kX env line)/\_;have oA:((d8 sc is qs).filterMap (kX env line)).length<=(d8 sc is qs).length:=List.length_filterMap_le _ _;cases hq:kX env line (.Name (d7 sc i) q) with
    |none=>rw [List.filterMap_cons,hq] at hlen;dsimp only at hlen;lia
    |some y=>
     have hy:=b8 hq λZ e=>(ax e).symm;subst hy;rw [List.filterMap_cons,hq] at hlen⊢;refine rP (ih (λj hj=>hn j (.tail _ hj)) (Nat.succ.inj hl) mK hb (Nat.succ.inj hlen)) λl a1 a2 a3 a4 a5=>?_;exact ⟨⟨d7 sc i,i,v,p⟩::l,ae (_::·) a1,ae (_::·) a2,ae (_::·) a3,a4,λq hq=>by
      rcases bA.mp hq with rfl|hq
      ·exact ⟨hn i (.head _),hv⟩
      ·exact a5 q hq⟩
def RB(ip:aZ O F n e):iD O F n (.asgT is e tq tp p):=λ{c m ac ao cq fl A s Q E} hc he cP S hr K=>by
 refine aB hc λH hc=>aB hc λh0 I=>bj he λx s1 e1 he=>aG he λD zw he=>aG zw λps e2 e3=>?_;have K:=K.res he;refine km (v9 H) λn1 n2 n3 n4=>?_;have plain:swappedStores [.Tuple (d8 c.sc is tq) 0 tp] (aE c.sc e) c.env=pure none->wpAny O.M A (exec (.Assign [.Tuple (d8 c.sc is tq) 0 tp] (aE c.sc e) p) c.env) Q E s:=λhs=>
  zY z6 hs (ip I e1 S hr λm1 v s1 S1 a1 p1=>by
   obtain ⟨a,aS,rfl,ht,hp⟩:=zz p1 e2;exact an (zB hr.hd (λi hi=>⟨n4 i hi,.inl cP⟩) n2 e3 S1 ht hp λdp s2 S2 a2=>aQ (K m1 dp .next s2 S2 (a1.trans a2).loose rfl)))
 by_cases ht:∃D k p,aE c.sc e=.Tuple D k p
 ·obtain ⟨us,k2,p2,z7⟩:=ht
  have tn:us.all (constantsAlone 8)=false:=by rw [z7] at h0;exact (not_eq_true' _).mp h0
  rcases Ro tn with q|⟨line,names,q1,rfl,hl,_⟩
  ·exact plain (z7▸q)
  refine zY z6 (z7▸q1) (ip I e1 S hr λm1 v s1 S1 a1 p1=>?_);obtain ⟨a,aS,rfl,ht,hp⟩:=zz p1 e2;have hn:(d8 c.sc is tq).length=is.length:=by unfold d8;rw [List.length_zipWith,n2,Nat.min_self]
  have hlen:((d8 c.sc is tq).filterMap (kX c.env line)).length=aS.toArray.size:=by rw [hl,hn,zA e3,<-hp.size,size_toArray]
  show wpAny _ _ (do rule "assign.swapped-stores";let items<-unpackItems (.ref a) ((d8 c.sc is tq).filterMap (kX c.env line)).length none;assignInOrder (((d8 c.sc is tq).filterMap (kX c.env line)).reverse.map λn=>bindName c.env n) items.reverse;pure Flow.next) _ _ _;rw [hlen];refine an (wpAny_rule (an (iS (wpAny_unpackItems_tuple hr.hd ht λh' fb hz=>?_))));have j5:∀b o,s1.heap.get? b=some o->h'.get? b=some o:=λb o e=>fb b o (cX (cW e)) e;have ad:aK c.own false m1 m1 s1 {s1 with heap:=h'}:=.of_grow j5 hz rfl rfl;refine rP (RA n4 n2 (hp.adv ad S1.op) e3 hl) λl b1 b2 b3 b4 b5=>?_;rw [<-b1,<-List.map_reverse,map_map];have e:(aS.toArray).toList.reverse=l.reverse.map (·.v):=by rw [List.map_reverse,b2]
  rw [e];refine an (Rp l.reverse (λq hq=>b5 q (mem_reverse.mp hq)) cP (S1.grow j5 hz rfl rfl (aD _)) λdp s3 S3 a3=>aQ ?_);rw [Gk l c.vars (by rw [b3];exact n3),b4] at S3;exact K m1 dp .next s3 S3 (a1.trans (ad.trans a3)).loose rfl
 ·exact plain (Gn λD k p q=>ht ⟨D,k,p,q⟩)
def Go{Q:Unit->ay->Prop}(ia:aZ O F n a)(ib:aZ O F n b)(H:ok c.sc a=true)(I:ok c.sc b=true)(e1:ev F a c.vars ac=some (x,s1))(e2:ev F b c.vars s1=some (y,s2))(e3:mD x y z s2=some th)
  (S:aw O c m ac s) (hr:bw (n+1) A) (pv:ai O s.heap c.P m v z) (hQ:∀m' V,aw O c m' th V->aK c.own false m m' s V->Q () V):wpAny O.M A (assign (.Subscript (aE c.sc a) (aE c.sc b) kp) c.env v) Q E s:=by
 rw [arm_assign_Subscript];refine an (dT (ia H e1 S hr λm2 vy t2 S2 a2 p2=>an (dT (ib I e2 S2 hr λm3 vz t3 S3 a3 p3=>?_))));exact an (wpAny_standAt (an (dT (oI (di (Eo hr.one S3.sr (p2.adv a3 S.op) p3 (pv.adv (a2.trans a3) S.op) e3) (λZ t4 h ht=>wpAny_release (hQ m3 t4 (S3.adv0 h.2 h.1 ht) (a2.trans (a3.trans (h.2.weaken iv))))) λZ Z q=>q)))))
def RC(hp:bL O h P m D [x,y]):∃va vb,D=[va,vb]/\ai O h P m va x/\ai O h P m vb y:=by
 obtain ⟨va,_,rfl,lW,vb,_,rfl,z8,rfl⟩:=hp;exact ⟨_,_,rfl,lW,z8⟩
def RD(hd:A.handled=none)(ht:IsTup s.heap t #[va,vb])(he:assignEach [T1,T2] env=[(false,assign T1 env),(false,assign T2 env)])
  (h:∀h',(∀b o,s.heap.get? b=some o->h'.get? b=some o)->s.heap.objs.size<=h'.objs.size->wpAny O.M A (assign T1 env va) (λZ V=>wpAny O.M A (assign T2 env vb) (λZ s''=>Q .next s'') E V) E {s with heap:=h'}):wpAny O.M A (assign (.Tuple [T1,T2] k q) env (.ref t)>>=λZ=>pure Flow.next) Q E s:=by
 rw [arm_assign_Tuple,he];refine an (an (wpAny_standAt ?_));show wpAny _ _ (do assignInOrder [assign T1 env,assign T2 env] (<-holding [.ref t] (unpackItems (.ref t) (#[va,vb]:Array aq).size none))) _ _ _;refine an (dT (iS (wpAny_unpackItems_tuple hd ht λh' fb hz=>?_)));exact an (dT (di (h h' (λb o e=>fb b o (cX (cW e)) e) hz) (λZ V q=>an (dT (di q (λZ s'' q=>aQ (aQ q)) λZ Z q=>q))) λZ Z q=>q))
def RE(ia:aZ O F n a)(ib:aZ O F n b)(RF:aZ O F n a')(RG:aZ O F n b')(ip:aZ O F n e):iD O F n (.setI2 a b a' b' e q1 q2 q p):=λ{c m ac ao cq fl A s Q E} hc he cP S hr K=>
 aB hc λH hc=>aB hc λI hc=>aB hc λh3 hc=>aB hc λh4 h5=>bj he λx s1 e1 he=>aG he λxx e0 he=>bj he λy s2 e2 he=>bj he λz s3 e3 he=>aG he λs4 e4 he=>bj he λy' s5 e5 he=>bj he λz' s6 e6 he=>aG he λs7 e7 he=>
 zY z6 Ry (ip h5 e1 S hr λm1 v t1 S1 a1 p1=>by
  rw [Lr e0] at p1;refine du (zz p1 rfl) λt D ev ht hp=>du (RC hp) λva vb ew lW z8=>?_;rw [ew] at ht;rw [ev];refine RD hr.hd ht rfl λh' j5 hz=>?_;have ad:aK c.own false m1 m1 t1 {t1 with heap:=h'}:=.of_grow j5 hz rfl rfl;exact Go ia ib H I e2 e3 e4 (S1.grow j5 hz rfl rfl (aD _)) hr (lW.adv ad S1.op) λm3 t3 S3 a3=>Go RF RG h3 h4 e5 e6 e7 S3 hr ((z8.adv ad S1.op).adv a3 S.op) λm4 t4 S4 a4=>(K.res he).go S4 (a1.trans (ad.trans (a3.trans a4))))
end
section
def RJ(h:∀D s,ex F p D s=none):iD O F n p:=λZ he Z Z Z Z=>by rw [h] at he;exact av he
noncomputable def PS.isFrz:PS->Bool
 |.frz _=>true
 |_=>false
def RK(h:PS.isFrz t=false->iD O F n t)(il:g9 O F n ts):g9 O F n (t::ts):=by
 cases t
 case frz=>exact Rl il
 case fail=>exact Ql
 all_goals exact Qk (λZ Z=>rfl) (h rfl) il
variable(W:Wf O fa F n)
include W
mutual
theorem Gp:∀p:PS,PS.isFrz p=false->iD O F n p
 |.asg _ e _ _,_=>Rs W
 |.aug _ e _ _,_=>Ru (bW W e)
 |.asgT _ e _ _ _,_=>RB (bW W e)
 |.setI a b e _ _,_=>Rw (bW W a) (bW W b) (bW W e)
 |.setI2 a b a' b' e _ _ _ _,_=>RE (bW W a) (bW W b) (bW W a') (bW W b') (bW W e)
 |.ex e _,_=>Qh (bW W e)
 |.ite t a b _,_=>Qi (ti W t) (oW a) (oW b)
 |.whl t b _,_=>Qt (ti W t) (oW b)
 |.for1 _ it b _ _,_=>Qp (wg W it) (oW b)
 |.forT _ it b _ _ _,_=>Qq (wg W it) (oW b)
 |.ret e _,_=>Qf (bW W e)
 |.frz i,h=>nomatch h
 |.fail _,_=>RJ λZ Z=>rfl
theorem oW:∀ps:List PS,g9 O F n ps
 |[]=>Qj
 |p::ps=>RK (Gp p) (oW ps)
end
end
def RL{l:List (Str×az)}(h:(l.lookup x).isSome=true):(((y,a)::l).lookup x).isSome=true:=by
 rw [lookup_cons];cases x==y
 ·exact h
 ·rfl
theorem z9:∀(names:List (Str×NameKind))(n:Nat)(acc:List (Str×az)),(acc.lookup x).isSome=true->((cellsFrom n names acc).lookup x).isSome=true
 |[],_,_,h=>h
 |(y,k)::r,n,acc,h=>by
  unfold cellsFrom
  split
  ·exact z9 r _ _ (RL h)
  ·exact z9 r _ _ h
theorem tu:∀(names:List (Str×NameKind))(n:Nat)(acc:List (Str×az)),(x,NameKind.cell)∈names->((cellsFrom n names acc).lookup x).isSome=true
 |(y,k)::r,n,acc,h=>by
  unfold cellsFrom;rcases bA.mp h with e|h
  ·cases e
   rw [if_pos (by decide)];exact z9 r _ _ (by rw [lookup_cons,beq_self_eq_true];rfl)
  ·split
   ·exact tu r _ _ h
   ·exact tu r _ _ h
theorem Gq{kindOf:Str->Option NameKind}:∀(l:List (Str×aq))(m:Str->Option aq),(∀p∈l,p.1≠x)->bindL kindOf l m x=m x
 |[],_,_=>rfl
 |(y,u)::r,m,h=>by
  unfold bindL;rw [Gq r _ λp hp=>h p (.tail _ hp)]
  split
  ·exact bK λq=>h (y,u) (.head _) q.symm
  ·rfl
theorem Gr{kindOf:Str->Option NameKind}:∀(l:List (Str×aq))(m:Str->Option aq),(∀p∈l,p.1≠x)->bindC kindOf l m x=m x
 |[],_,_=>rfl
 |(y,u)::r,m,h=>by
  unfold bindC;rw [Gr r _ λp hp=>h p (.tail _ hp)]
  split
  ·rfl
  ·exact bK λq=>h (y,u) (.head _) q.symm
def RM{kindOf:Str->Option NameKind}(hk:kindOf x=some .local)(l:List (Str×aq)):∀m:Str->Option aq,(l.map (·.1)).Nodup->(x,v)∈l->bindL kindOf l m x=some v:=by
 induction l with
 |nil=>exact λm hd h=>aj h cp
 |cons p r ih=>
  obtain ⟨y,u⟩:=p;intro m hd h;rw [map_cons,List.nodup_cons] at hd;unfold bindL;rcases bA.mp h with e|h
  ·cases e
   rw [if_pos hk,Gq r _ λp hp q=>hd.1 (List.mem_map.mpr ⟨p,hp,q⟩)];exact bv rfl
  ·exact ih _ hd.2 h
theorem Gs{kindOf:Str->Option NameKind}(hk:kindOf x≠some .local):∀(l:List (Str×aq))(m:Str->Option aq),(l.map (·.1)).Nodup->(x,v)∈l->bindC kindOf l m x=some v
 |(y,u)::r,m,hd,h=>by
  rw [map_cons,List.nodup_cons] at hd;unfold bindC;rcases bA.mp h with e|h
  ·cases e
   rw [if_neg hk,Gr r _ λp hp q=>hd.1 (List.mem_map.mpr ⟨p,hp,q⟩)];exact bv rfl
  ·exact Gs hk r _ hd.2 h
structure tv(sc:Scope):Prop where
 kind:sc.kind=.function
 nodup:(bO sc).Nodup
 known:∀x∈bO sc,sc.names.lookup x=some .local\/sc.names.lookup x=some .cell
def wh(sc:Scope):Bool:=sc.kind==.function&&decide (bO sc).Nodup&&(bO sc).all λx=>sc.names.lookup x==some .local||sc.names.lookup x==some .cell
def Aa(h:wh sc=true):tv sc:=by
 simp only [wh,and_eq_true,decide_eq_true_eq,dA,or_eq_true,bB] at h;exact ⟨h.1.1,h.1.2,h.2⟩
structure Ab(O:Wd)(a:az)(fd:FuncData)(body:List Stmt)(sc:Scope):Prop where
 ho:∃o,O.hb.get? a=some o/\o.data=.func fd
 body:fd.body=.stmts body
 scp:fd.scope=sc
 clo:fd.closure=[]
 co:fd.scope.isCoroutine=false
 gen:fd.scope.isGenerator=false
 code:O.hb.CodeRec fd.code fd.qualname
 glob:fd.globals=mainGlobals
 blt:fd.builtins=builtinsNs
section
variable{O:Wd}{s V bE:ay}
def SR.sameF(x:SR O P m ac h)(e:m'.f=m.f)(hl:∀k,m'.L k->m.L k)(ow:aa)(hw:∀k,m'.W k->(m.f k).isSome=true/\k∉ow):SR O P m' ⟨ac.Y,ow⟩ h where
 base:=x.base
 size:=x.size
 sm:=x.sm
 prv:=x.prv
 mem k a h:=x.mem k a (by rw [<-e];exact h)
 dom k:=by rw [e];exact x.dom k
 inj k k' a h h':=x.inj k k' a (by rw [<-e];exact h) (by rw [<-e];exact h')
 obj k a o e1 e2:=cO.step (λa o Z h=>h) (λa o q Z z=>q (by rcases z with z|⟨k,z⟩;exact .inl z;exact .inr ⟨k,by rw [<-e];exact z⟩)) (λk a q=>by rw [e];exact q) (x.obj k a o (by rw [<-e];exact e1) e2) (λo h=>h)
 lck k hk:=x.lck k (hl k hk)
 wk k hk:=by rw [e];exact hw k hk
 tb:=x.tb
abbrev Gu(P:List az)(m:Mp)(s:ay)(ac:ah)(sc:Scope)(args:List PV):List (Str×aq)->ay->Prop:=
 λm8 s1=>∃vals,m8=(bO sc).zip vals/\SR O P m ac s1.heap/\aK [] false m m s s1/\bL O s1.heap P m vals args
theorem Gv:∀{l:List Str}{D:List aq},(l.zip D).map (·.1)=l.take D.length
 |[],_=>by simp
 |_::_,[]=>by simp
 |x::l,v::D=>by simp [Gv]
def RN{l:List Str}(h:l.Nodup)(n:Nat):(l.take n).Nodup:=List.Sublist.nodup (List.take_sublist _ _) h
def Gw{l:List Str}{D:List aq}{i:Nat}{x:Str}{v:aq}(H:l[i]?=some x)(I:D[i]?=some v):(x,v)∈l.zip D:=by
 refine ez (i:=i) ?_;rw [List.getElem?_zip_eq_some];exact ⟨H,I⟩
def bL.get{D:List aq}{J:List PV}(r:bL O h P m D J){i:Nat}{p:PV}(q:J[i]?=some p):∃v,D[i]?=some v/\ai O h P m v p:=by
 induction J generalizing D i with
 |nil=>cases q
 |cons y J ih=>
  obtain ⟨_,_,rfl,a,b⟩:=r;cases i with
  |zero=>exact ⟨_,rfl,ax q▸a⟩
  |succ i=>exact ih b q
def Gx{l:List α}{k i:Nat}(h:(l.map some++List.replicate k none)[i]?=some (some x)):l[i]?=some x:=by
 rw [List.getElem?_append] at h
 split at h
 ·rename_i q
  rw [getElem?_map] at h;simpa using h
 ·rw [List.getElem?_replicate] at h
  split at h<;>simp at h
def RO{k i:Nat}(h:(l++List.replicate k none)[i]?=some (some x)):l[i]?=some (some x):=by
 rw [List.getElem?_append] at h
 split at h
 ·exact h
 ·rw [List.getElem?_replicate] at h
  split at h<;>simp at h
def RP(K:tv sc)(Ac:fd.scope=sc)(hg:fd.globals=mainGlobals)(hb:fd.builtins=builtinsNs)(R:SR O P m1 fc s.heap)(gr:vals.length=args.length)(p:∀(i:Nat) pv,args[i]?=some (some pv)->∃v,vals[i]?=some v/\ai O s.heap P m1 v pv)(hlen:args.length<=(bO sc).length)
  (x:InCallC s (callEnvC fd s.heap.objs.size a).locals (bindL (callEnvC fd s.heap.objs.size a).kindOf ((bO sc).zip vals) λZ=>none) (callEnvC fd s.heap.objs.size a).cells (bindC (callEnvC fd s.heap.objs.size a).kindOf ((bO sc).zip vals) λZ=>none) s2) (ht:0<s2.toks):
  ∃own,(∀d∈own,s.heap.objs.size<=d)/\aw O ⟨sc,false,callEnvC fd s.heap.objs.size a,own,own++P,vals.map some++List.replicate ((bO sc).length - args.length) none,args++List.replicate ((bO sc).length - args.length) none⟩ m1 fc s2/\aK own false m1 m1 s s2:=by
 subst Ac;have Gy:∀y,(callEnvC fd s.heap.objs.size a).kindOf y=fd.scope.names.lookup y:=λy=>rfl;obtain ⟨I,tk,rfl⟩:=x.toInCall.same;have j5:=x.toInCall.keep;have sO:=x.toInCall.ns;have Ad:=x.toInCall.fresh;obtain ⟨oL,_,_,RQ,_⟩:=sO;have Gz:(callEnvC fd s.heap.objs.size a).locals<I.objs.size:=cW RQ;have aaa:∀y c,(y,c)∈(callEnvC fd s.heap.objs.size a).cells->∃c',(callEnvC fd s.heap.objs.size a).cells.lookup y=some c':=λy c hm=>by
  cases hq:(callEnvC fd s.heap.objs.size a).cells.lookup y with
  |some c'=>exact ⟨c',rfl⟩
  |none=>
   rw [List.lookup_eq_none_iff] at hq;have:=hq (y,c) hm;simp at this
 let own:List az:=(callEnvC fd s.heap.objs.size a).locals::(bO fd.scope).filterMap (λy=>(callEnvC fd s.heap.objs.size a).cells.lookup y);have Ae:∀d∈own,s.heap.objs.size<=d/\d<I.objs.size:=λd hd=>by
  rcases bA.mp hd with e|hd
  ·rw [e];exact ⟨Ad,Gz⟩
  ·refine bt (List.mem_filterMap.mp hd) λy hy hq=>?_
   exact ⟨Nat.le_of_lt (dZ Ad (x.above y d (mem_of_lookup hq))),(x.cell y d hq).lt⟩
 have hsz:s.heap.objs.size<=I.objs.size:=Nat.le_of_lt (dZ Ad Gz);have kp:Kp [] s.heap I:=⟨hsz,λb o Z e=>j5 b o e⟩
 have RR:∀y∈bO fd.scope,fd.scope.names.lookup y=some .cell->∃c,(callEnvC fd s.heap.objs.size a).cells.lookup y=some c:=λy Z hy=>by
  have:=tu fd.scope.names (s.heap.objs.size+1) [] (mem_of_lookup hy);exact isSome_iff_exists.mp this
 have GA:(((bO fd.scope).zip vals).map (·.1)).Nodup:=by rw [Gv];exact RN K.nodup _
 refine ⟨own,λd hd=>(Ae d hd).1,⟨R.hideL kp Ae,?_,⟨by simp [gr],λi pv hi=>?_⟩,λd hd=>cE _ hd,ht⟩,.of_grow j5 hsz rfl rfl⟩
 ·refine {kind:=K.kind,glob:=hg,blt:=hb,nodup:=K.nodup,len:=?_,gk:=λy h=>h,lk:=λy h=>h,ck:=λy h=>h,fk:=λy h=>.inr h,loc:=⟨_,x.toInCall.ns,λi y v hi hv hk=>?_⟩,locOwn:=.head _,cell:=λi y hi hk=>?_,apart:=λy z c H I=>name_of_addr x.apart (mem_of_lookup H) (mem_of_lookup I),known:=λy hy=>?_,rw:=λZ y hy=>?_}
  ·simp only [length_append,length_map,length_replicate];lia
  ·exact RM hk _ _ GA (Gw hi (Gx hv))
  ·have gs:fd.scope.names.lookup y=some .cell:=by
    rcases hk with hk|hk
    ·exact hk
    ·rw [Gy] at hk
     rcases K.known y (ez hi) with q|q<;>(rw [q] at hk;cases hk)
   refine b6 (RR y (ez hi) gs) λc hc=>?_;have kO:c∈own:=.tail _ (List.mem_filterMap.mpr ⟨y,ez hi,hc⟩);refine ⟨c,_,hc,cY (x.above y c (mem_of_lookup hc)),cE _ kO,λZ=>kO,x.cell y c hc,λv hv=>?_⟩;exact Gs (by rw [Gy,gs];decide) _ _ GA (Gw hi (Gx hv))
  ·rcases K.known y hy with q|q
   ·exact .inl q
   ·exact .inr (.inl q)
  ·exact K.known y hy
 ·refine bt (p i pv (RO hi)) λv H h3=>?_
  refine ⟨v,?_,h3.hideL kp λd hd=>(Ae d hd).1⟩;rw [getElem?_append_left (by rw [length_map];exact (fB.mp H).1),getElem?_map,H]
  rfl
def GB(K:tv sc)(Ac:fd.scope=sc)(hg:fd.globals=mainGlobals)(hb:fd.builtins=builtinsNs)(R:SR O P m1 fc s.heap)(p:bL O s.heap P m1 vals args)(hlen:args.length<=(bO sc).length)
  (x:InCallC s (callEnvC fd s.heap.objs.size a).locals (bindL (callEnvC fd s.heap.objs.size a).kindOf ((bO sc).zip vals) λZ=>none) (callEnvC fd s.heap.objs.size a).cells (bindC (callEnvC fd s.heap.objs.size a).kindOf ((bO sc).zip vals) λZ=>none) s2) (ht:0<s2.toks):
  ∃own,(∀d∈own,s.heap.objs.size<=d)/\aw O ⟨sc,false,callEnvC fd s.heap.objs.size a,own,own++P,vals.map some++List.replicate ((bO sc).length - args.length) none,args.map some++List.replicate ((bO sc).length - args.length) none⟩ m1 fc s2/\aK own false m1 m1 s s2:=by
 have:=RP (args:=args.map some) K Ac hg hb R (by rw [length_map];exact p.size) (λi pv h=>by
  rw [getElem?_map,map_eq_some_iff] at h;obtain ⟨a,H,I⟩:=h;cases I;exact p.get H) (by rw [length_map];exact hlen) x ht
 rw [length_map] at this;exact this
theorem bL.sameF(e:m'.f=m.f):∀{v:List aq}{pv:List PV},bL O h P m v pv->bL O h P m' v pv
 |_,[],r=>r
 |_,_::_,r=>r.imp λZ z=>z.imp λZ z=>⟨z.1,ai.sameF z.2.1 e,bL.sameF e z.2.2⟩
set_option backward.match.sparseCases true in
noncomputable def Af:Flow->aq
 |.ret v=>v
 |_=>.none
def RT(h:te O s.heap P m fl f):ai O s.heap P m (Af f) fl.val:=by
 cases fl with
 |next=>cases h;rfl
 |ret pv=>obtain ⟨v,rfl,hv⟩:=h;exact hv
def RU{c:Cx}(hP:c.P=own++P)(tw:∀d∈own,s.heap.objs.size<=d)(R:SR O P m ac s.heap)
  (S':aw O {c with vals:=dp,vars:=D} m2 t V) (a:aK own true {m with W:=λk=>(m.f k).isSome=true} m2 s V) (hf:te O V.heap c.P m2 fl f)
  (he:(keep=true/\r=fl.val/\ao=⟨t.Y,t.own++ac.own⟩)\/(∃x,fl.val=PV.d x/\r=.d x/\ao=⟨jf t.own t.Y,ac.own⟩/\(t.own=[]\/(t.Y 30).isNone=true\/30∈t.own))):
  aJ O P m s ao r (Af f) V:=by
 have wi:SR O P m2 t V.heap:=by have:=S'.sr;rw [hP] at this;exact this.showL
 have hp:=RT hf;rw [hP] at hp;have hp:=hp.showL;have hW:∀k,(m.f k).isSome=true->(m2.f k).isSome=true/\k∉t.own:=λk hk=>wi.wk k (by rw [a.W];exact hk);have hL:∀k,m2.L k->m.L k:=λk hk=>by rw [a.L] at hk;exact hk
 have RV:∀k,m.L k->(m.f k).isSome=true:=λk hk=>by obtain ⟨o,ho⟩:=R.lck k hk;rw [R.dom k,ho];rfl
 have na:=a.fresh tw;rcases he with ⟨_,rfl,rfl⟩|⟨x,hx,rfl,rfl,hc⟩
 ·refine ⟨{m2 with W:=m.W},wi.sameF (m':={m2 with W:=m.W}) rfl (λk hk=>hk) _ λk hk=>?_,⟨λa o H I h3=>na.keep a o H I h3,na.new,na.size,λk a Z e=>na.live k a (.inr (.inl (by show (m.f k).isSome=true;rw [e];rfl))) e,a.L,rfl,a.gens,a.os⟩,hp.sameF rfl⟩
  refine aT (R.wk k hk) λq1 q2=>?_;refine aT (hW k q1) λq3 q4=>?_;exact ⟨q3,λq=>(bD.mp q).elim q4 q2⟩
 ·have de:(λk=>if (decide (k∈t.own))=true then none else t.Y k)=jf t.own t.Y:=by funext k;simp [jf]
  have ab:=SR.drop (dr:=λk=>decide (k∈t.own)) wi (λk hk=>.inr (by
   refine aT (R.wk k hk) λq1 q2=>?_;refine aT (hW k q1) λq3 q4=>?_;exact ⟨q3,by simpa using q4,q2⟩)) (λk hk=>by simpa using (hW k (RV k (hL k hk))).2) (λk o H I h3 j hj=>by
    have RW:=wi.tb k o H h3;subst RW;rcases hc with q|q|q
    ·rw [q];simp
    ·rw [H] at q;cases q
    ·simp at I;exact aj q I)
  rw [de] at ab;rw [hx] at hp;refine ⟨{m2.drop (λk=>decide (k∈t.own)) with W:=m.W},ab,⟨λa o H I h3=>na.keep a o H I h3,λk a e=>na.new k a (m7 (dr:=λk=>decide (k∈t.own)) e).1,na.size,λk a Z e=>tm (dr:=λk=>decide (k∈t.own)) (na.live k a (.inr (.inl (by show (m.f k).isSome=true;rw [e];rfl))) e) (by simpa using (hW k (by rw [e];rfl)).2),a.L,rfl,a.gens,a.os⟩,?_⟩;have q:bn O V.heap (aC P m2) (Af f) x:=hp;exact .d (bn.step (λa o Z h=>h) (λa o q Z z=>q z) (q.drop))
def RX{C:Prop}(h:dv F body nv keep args ac=some (r,ao))(k:∀fl D t,bo F body (args.map some++List.replicate (nv - args.length) none) ⟨ac.Y,[]⟩=some (fl,D,t)->
  ((keep=true/\r=fl.val/\ao=⟨t.Y,t.own++ac.own⟩)\/(∃x,fl.val=PV.d x/\r=.d x/\ao=⟨jf t.own t.Y,ac.own⟩/\(t.own=[]\/(t.Y 30).isNone=true\/30∈t.own)))->C):C:=by
 refine ot h λfl D t e1 e2=>k fl D t e1 ?_;cases keep with
 |true=>cases e2;exact .inl ⟨rfl,rfl,rfl⟩
 |false=>
  refine b8 e2 λhc e2=>qk e2 λe3 e4=>cK e3 λx e5 e6=>.inr ⟨x,?_,e6.symm,e4.symm,hc⟩;cases hf:fl.val<;>rw [hf] at e5<;>cases e5
  rfl
def RY(Ss:∀ps,g9 O F n ps)(nl:O.hb.NoLimit)(ab:Ab O a fd (jg sc b) sc)(K:tv sc)(zN:kC sc b=true)(ty:(bO sc).length=nv)(kY:args.length<=nv)
  (ht:0<s.toks) (hA:bw (n+2) A) (R:SR O P m ac s.heap)
  (Ag:∀(A':Around)(Q:List (Str×aq)->ay->Prop)(E:cJ),(∀m8 s1,Gu (O:=O) P m s ac sc args m8 s1->Q m8 s1)->wpAny O.M A' (bindArgs fd RZ) Q E s)
  (he:dv F b nv keep args ac=some (r,ao)):codeAny O.M A (.call (.ref a) RZ) (λres V=>∃v,res=.ok (.ret v)/\aJ O P m s ao r v V) s:=by
 refine bt (ab.ho) λo ho hd=>?_;refine RX he λfl D t e1 e2=>?_;have hk:fd.scope.kind=.function:=by rw [ab.scp];exact K.kind
 refine codeAny_call_function (by have:=hA.depth;show _<1000;lia) (R.base _ _ ho) hd ab.co ab.gen ab.body (ab.code.keeps R.base) ?_;refine wpAny_with_toks ht (Ag _ _ _ λm8 s1 R0 R4=>?_);obtain ⟨vals,hb,R1,a1,p1⟩:=R0;subst hb;rw [ab.clo];refine wpAny_with_toks R4 (wpAny_newFunctionEnv_cells hk (λx hx=>?_) λenv Ah s2 x Ai=>?_)
 ·have vU:=(List.of_mem_zip hx).1
  rw [<-ab.scp] at vU;rcases K.known x.1 (ab.scp▸vU) with q|q
  ·exact .inl (by rw [ab.scp];exact q)
  ·exact .inr ⟨by rw [ab.scp];exact q,tu _ _ _ (mem_of_lookup (by rw [ab.scp];exact q))⟩
 ·subst Ah
  refine ⟨nl.keeps λb o e=>x.toInCall.keep b o (R1.base b o e),codeAny_func ?_⟩;have R5:SR O P {m with W:=λk=>(m.f k).isSome=true} ⟨ac.Y,[]⟩ s1.heap:=R1.sameF (m':={m with W:=λk=>(m.f k).isSome=true}) rfl (λk hk=>hk) _ λk hk=>⟨hk,λq=>nomatch q⟩
  refine d4 (GB K ab.scp ab.glob ab.blt R5 (bL.sameF (m:=m) (m':={m with W:=λk=>(m.f k).isSome=true}) rfl p1) (ty.symm▸kY) x Ai) λown tw S aF=>?_;subst ty;refine Ss b zN e1 rfl S ⟨by have:=hA.depth;show A.depth+1+_<=_;lia,by have:=hA.units;show A.units+3+_<=_;lia,hA.hd⟩ λm2 dp f s3 S' a' hf=>⟨_,rfl,?_⟩
  obtain ⟨m3,R3,a3,p3⟩:=RU rfl tw R1 S' (aF.loose.trans a') hf e2;exact ⟨m3,R3,a1.trans a3,p3⟩
end
structure kZ(K:Frag)(C:az)(fa:Nat->az):Prop where
 pg:plainGet K C "" =true
 hd:hasDictIn K C=true
 at0:findIn K (.ref C) "_headers" =some none
 me:∀f,20<=f->f<28->findIn K (.ref C) (kz f)=some (some (.ref (fa f)))/\isFn K (.ref (fa f))=true
 mks:makesIn K C=true
 ini:findIn K (.ref C) "__init__" =some (some (.ref (fa 28)))/\isFn K (.ref (fa 28))=true
 st:findIn K (.ref C) "__setattr__" =some (some (.builtin "object.__setattr__"))
 po:plainOver K C=true
 ta:takerIn K C "_headers" =some none
 kc:keepIn K (.ref C)=true
def Aj(K:Frag)(C:az)(fa:Nat->az):Bool:=
 plainGet K C "" &&hasDictIn K C&&(findIn K (.ref C) "_headers" ==some none)&&((List.range 8).all λi=>findIn K (.ref C) (kz (20+i))==some (some (.ref (fa (20+i))))&&isFn K (.ref (fa (20+i))))&&
 makesIn K C&&(findIn K (.ref C) "__init__" ==some (some (.ref (fa 28)))&&isFn K (.ref (fa 28)))&&(findIn K (.ref C) "__setattr__" ==some (some (.builtin "object.__setattr__")))&&plainOver K C&&(takerIn K C "_headers" ==some none)&&keepIn K (.ref C)
def R6{K:Frag}(h:Aj K C fa=true):kZ K C fa:=by
 simp only [Aj,and_eq_true,bB,dA,mem_range] at h;obtain ⟨⟨⟨⟨⟨⟨⟨⟨⟨H,I⟩,h3⟩,h4⟩,h5⟩,h6⟩,h7⟩,h8⟩,h9⟩,cH⟩:=h;refine ⟨H,I,h3,λf ha hb=>?_,h5,h6,h7,h8,h9,cH⟩;have:=h4 (f - 20) (by lia);rwa [show 20+(f - 20)=f by exact (add_sub_cancel' ha)] at this
section
variable{O:Wd}{K:Frag}{s:ay}
def wj(am:ga O s.heap X x l):∃dx t n,InstAt s.heap x (instObj O.C dx) O.C (some (dictOf [⟨PyData.keyHash O.w.params (Str.ofString "_headers"),.str (Str.ofString "_headers") t,.ref l⟩] n)):=by
 obtain ⟨dx,t,n,_,_,H,I⟩:=am;exact ⟨dx,t,n,H,rfl,rfl,I⟩
def R8{x y:Str}(h:(x==y)=false):(Value.str x t).isStr y=false:=h
def Sa(h:(Str.ofString "_headers" ==name)=false):getL name [⟨PyData.keyHash O.w.params (Str.ofString "_headers"),.str (Str.ofString "_headers") t,.ref l⟩]=some none:=by
 unfold getL;rw [List.find?_cons,R8 h]
 rfl
def Sb:getL "_headers" [⟨PyData.keyHash O.w.params (Str.ofString "_headers"),.str (Str.ofString "_headers") t,.ref l⟩]=some (some (.ref l)):=by
 unfold getL;rw [List.find?_cons,show (Value.str (Str.ofString "_headers") t).isStr "_headers" =true from rfl]
def Sc(oO:kZ K O.C fa)(k:K.In O.hb)(hb:∀a o,O.hb.get? a=some o->s.heap.get? a=some o)(am:ga O s.heap X x l)(h:∀tk,s.toks<=tk->Q (.ref l) {s with toks:=tk}):wpAny O.M A (getAttr (.ref x) "_headers" true) Q E s:=by
 refine rR (wj am) λdx t n bg=>?_;exact get_value (k.keeps hb) bg (plainGet_of oO.pg).1 (findObj_own oO.hd oO.at0 rfl (by rw [lookIn_dict];exact Sb)) rfl (h _ (by first|exact aD _|exact le_succ _))
def Se(f:Nat)(H:20<=f)(I:f<28):(Str.ofString "_headers" ==kz f)=false:=by
 obtain ⟨i,rfl⟩:∃i,f=20+i:=⟨f - 20,((add_sub_cancel' H).symm)⟩
 have:∀i<8,(Str.ofString "_headers" ==kz (20+i))=false:=by decide+kernel
 exact this i (by lia)
def Sf(oO:kZ K O.C fa)(k:K.In O.hb)(H:20<=f)(I:f<28)(hb:∀a o,O.hb.get? a=some o->s.heap.get? a=some o)(am:ga O s.heap X x l)(h:Q (.ref (fa f),[.ref x]) s):
  wpAny O.M A (getMethod (.ref x) (kz f) B) Q E s:=by
 refine rR (wj am) λdx t n bg=>?_;refine aT (oO.me f H I) λm1 m2=>?_;exact method_fn (k.keeps hb) bg (plainGet_of oO.pg).1 (plainGet_of oO.pg).2 m1 (bB.mp m2) (by show (lookIn _ (dictOf _ n)).map _=_;rw [lookIn_dict,Sa (Se f H I)];rfl) h
def bw.in1(h:bw (n+1) A):bw n A.in1:=⟨by have:=h.depth;show A.depth+_<=_;lia,by have:=h.units;show A.units+1+_<=_;lia,h.hd⟩
def bw.in2(h:bw (n+1) A):bw n A.in1.in1:=⟨by have:=h.depth;show A.depth+_<=_;lia,by have:=h.units;show A.units+1+1+_<=_;lia,h.hd⟩
def Sg(oO:kZ K O.C fa)(k:K.In O.hb)(hr:bw (n+1) A)(hb:∀a o,O.hb.get? a=some o->s.heap.get? a=some o)(am:ga O s.heap X x l)
  (h:∀A',bw n A'->codeAny O.M A' (.call (.ref (fa 20)) ⟨[.ref x],[]⟩) (λr V=>∃(k:Nat)(t:Tok),r=.ok (.ret (.int k t))/\k<=lim/\∀tk qy,V.toks<=qy->Q (.int k tk) {V with toks:=qy}) s):
  wpAny O.M A (call (.builtin "len") [.ref x] []) Q br s:=by
 refine rR (wj am) λdx t n bg=>?_;refine aT (oO.me 20 ((aD _)) ((by decide:21<=28))) λm1 m2=>?_;refine Calls.call_function_entry kind_len plain_len entry_len (args_len1 _) ?_;refine an (aQ ?_);refine an (special_fn (k.keeps hb) bg m1 (bB.mp m2) (wpAny_call (codeAny_mono (h _ hr.in1) λr V z=>?_)));obtain ⟨j,u,rfl,hj,hq⟩:=z;refine an (dT (aQ ?_));refine an (wpAny_letGo ?_);have GC:j<=16777216:=hj;rw [if_neg (by lia)];rw [if_neg (by lia)];exact an (wpAny_mkInt (aQ ⟨_,rfl,hq _ _ (by first|exact le_succ _|exact aD _)⟩))
def Sh(oO:kZ K O.C fa)(k:K.In O.hb)(hr:bw (n+1) A)(hb:∀a o,O.hb.get? a=some o->s.heap.get? a=some o)(am:ga O s.heap X x l)
  (h:∀A',bw n A'->codeAny O.M A' (.call (.ref (fa 21)) ⟨[.ref x],[]⟩) (λr V=>∃(y:Str)(t:Tok),r=.ok (.ret (.str y t))/\Q (.str y t) V) s):
  wpAny O.M A (call (.type "str") [.ref x] []) Q br s:=by
 refine rR (wj am) λdx t n bg=>?_;refine aT (oO.me 21 ((by decide:20<=21)) ((by decide:22<=28))) λm1 m2=>?_;refine kso_call (by have:=hr.units;show _<9900;lia) (k.keeps hb) bg m1 m2 (wpAny_call (codeAny_mono (h _ hr.in2) λr V ⟨y,u,e,hq⟩=>?_));subst e;exact hq
end
section
open Builtin Builtin.ObjectAttr
section
variable{O:Wd}{K:Frag}
def Si(oO:kZ K O.C fa)(X:K.In s.heap)(hx:s.heap.get? x=some (instObj O.C dx))(hd:s.heap.get? dx=some emptyDict)
  (h:∀h' t,Heap.SameBut dx s.heap h'->h'.get? dx=some (dictOf [⟨PyData.keyHash O.w.params (Str.ofString "_headers"),.str (Str.ofString "_headers") t,v⟩] 1)->Q () {s with heap:=h',toks:=s.toks+2}):
  wpAny O.M A (setAttr (.ref x) "_headers" v) Q E s:=by
 have bg:InstAt s.heap x (instObj O.C dx) O.C (some emptyDict):=⟨hx,rfl,rfl,hd⟩
 refine set_plain X bg oO.st (osa_open X bg oO.po oO.ta λb=>?_);refine bt (any_some oO.hd) λcd hc Sj=>?_;have ab:=hd;have e:Obj.putName (Str.ofString "_headers") (PyData.keyHash O.w.params (Str.ofString "_headers")) (.str (Str.ofString "_headers") (s.toks+1)) v emptyDict=dictOf [⟨PyData.keyHash O.w.params (Str.ofString "_headers"),.str (Str.ofString "_headers") (s.toks+1),v⟩] 1:=by
  rw [show emptyDict=dictOf [] 0 from rfl,putName_dict];rfl
 have D':(s.heap.update dx (Obj.putName (Str.ofString "_headers") (PyData.keyHash O.w.params (Str.ofString "_headers")) (.str (Str.ofString "_headers") (s.toks+1)) v)).get? dx=some (dictOf [⟨PyData.keyHash O.w.params (Str.ofString "_headers"),.str (Str.ofString "_headers") (s.toks+1),v⟩] 1):=by
  rw [<-e];exact Heap.get?_update_self _ ab (by rw [e];rfl)
 refine an (aQ (an (an (wpAny_loadPart hx (an ((looks_clsIn X hc) _ _ _ _ (λZ Z e=>e) ?_))))));rw [Sj];refine aQ (an (aQ (an ?_)));refine an (an (wpAny_askSetting (aQ (an (wpAny_mkText (an (wpAny_loadPart ab ?_)))))));dsimp only [emptyDict];rw [aRefKeyMayBeTheName_at,show (!(#[]:Array DictEntry).any (·.key.isStr (Str.ofString "_headers"))&&(#[]:Array DictEntry).any (·.refKey))=false from by simp];refine wpAny_updatePart ab ?_;refine an (wpAny_lookBehind D' (pastItsLine_dict (by rw [sizeLine_eq];exact (by decide:1<=16777217))) ?_);exact aQ (h _ _ (Heap.SameBut.update ..) D')
end
end
section
def k5(h:ex F t D s=some (.next,aS,V)):bo F (t::ts) D s=bo F ts aS V:=by
 show b3 (ex F t D s) _=_;rw [h];rfl
def jH(h:ex F t D s=some (.ret r,aS,V)):bo F (t::ts) D s=some (.ret r,aS,V):=by
 show b3 (ex F t D s) _=_;rw [h];rfl
def au{α β:Type}{o:Option (α×ah)}{f:α->ah->Option β}{x:α}(h:o=some (x,s)):bS o f=f x s:=by rw [h];rfl
def eM{α:Type}{o:Option α}{x:α}(h:o=some x):pS o s=some (x,s):=by rw [h];rfl
def bI(h:ev F e D s=some (x,V)):ex F (.asg j e q p) D s=some (.next,dO j x D,V):=au h
def fe(h:ev F e D s=some (x,V)):ex F (.ret e p) D s=some (.ret x,D,V):=au h
def jp(h:ev F e D s=some (x,V))(hx:CY x=true):ex F (.ex e p) D s=some (.next,D,V):=(au h).trans (bv hx)
def nc(h:bP F z D s=some (c,V)):ex F (.ite z l1 l2 p) D s=cond c (bo F l1 D V) (bo F l2 D V):=au h
def dM(H:ev F a D s=some (x,V))(I:ev F b D V=some (y,s''))(h3:lD o x y s''=some r):ev F (.bin o a b p) D s=some (r,s''):=(au H).trans ((au I).trans (eM h3))
def ag(h:D[j]?=some (some x)):ev F (.v j p) D s=some (x,s):=eM (by rw [h];rfl)
def Ak(h:F.g j=some x):ev F (.g j p) D s=some (x,s):=eM h
def qK{z:PT}(h:bP F z D s=some (c,V)):ev F (.ite z a b p) D s=cond c (ev F a D V) (ev F b D V):=au h
def nf{c:Bool}(h:ev F e D s=some (x,V))(hx:truth x=some c):bP F (.e e) D s=some (c,V):=(au h).trans (eM hx)
def Sk(h:ev F e D s=some (.d (.str l),V)):bP F (.isStr e q2 p2 q p) D s=some (true,V):=au h
def Sl(h:ev F e D s=some (x,V))(hl:mA V x=some (k,l)):bP F (.notList e q2 p2 q p) D s=some (false,V):=(au h).trans (eM (by rw [hl];rfl))
def cT{o:CO}(H:ev F a D s=some (x,V))(I:ev F b D V=some (y,s''))(h3:uH o x y s''=some c):bP F (.cmp o a b p) D s=some (c,s''):=(au H).trans ((au I).trans (eM h3))
def iH(h:ev F e D s=some (x,V))(I:nZ z x V=some d):ev F (.bi z e q p) D s=some (.d d,V):=(au h).trans (eM (by rw [I];rfl))
def nh{r:PV×ah}(h:ev F o D s=some (.hdr j,V))(I:ev F a D V=some (z,s''))(h3:ev F kw D s''=some (y,s3))(h4:F.fn f [.hdr j,z,y] s3=some r):ev F (.methK f o a kw kp q p) D s=some r:=
 (au h).trans ((au I).trans ((au h3).trans h4))
def fH{l:List ab×Option Nat}(h:ev F e D s=some (x,V))(I:uL x V=some l):gE F (.val e) D s=some (l,V):=(au h).trans (eM I)
def b9:iw F [] D s=some ([],s):=rfl
def aP{es:List PE}(h:ev F e D s=some (x,V))(I:iw F es D V=some (l,s'')):iw F (e::es) D s=some (x::l,s''):=(au h).trans (au I)
def gu{r:PV×ah}(h:ev F e D s=some (x,V))(hT:mC z x V=some T)(I:iw F es D V=some (l,s''))(oX:mC z x s''=some T)(h3:n5 z (x::l) s''=some r):ev F (.me z e es q p) D s=some r:=by
 refine (au h).trans ?_;show (mC z x V).bind _=_;rw [hT];exact (au I).trans ((bv oX).trans h3)
def wm{x:ab}(h:f x D s=some (.next,aS,V)):dD f (x::J) D s=dD f J aS V:=by
 show b3 (f x D s) _=_;rw [h];rfl
def k6(h:gE F it D s=some (l,V))(I:dD (λx D s=>(gp is x D).bind λD=>bo F bd D s) l.1 D (V.lock l.2)=some (fl,aS,s'')):ex F (.forT is it bd tq q p) D s=some (fl,aS,s''.unlock l.2):=by
 refine (au h).trans ?_;show b3 (dD _ l.1 D (V.lock l.2)) _=_;rw [I];rfl
end
def Al(sc:Scope):Bool:=qf sc (oi 0)&&(qf sc qg&&(qf sc oj&&(gW sc 0&&gW sc 1)))
section
variable{K:Frag}
def aw.gain(S:aw O c m ac s)(hv:c.vals[i]?=some (some v))(p:ai O s.heap c.P m v pv):aw O {c with vars:=c.vars.set i (some pv)} m ac s:=
 ⟨S.sr,S.en,⟨by rw [length_set];exact S.vr.1,λj q hj=>by
  rw [qz] at hj
  split at hj
  ·rename_i e
   split at hj
   ·cases hj;exact ⟨v,e▸hv,p⟩
   ·cases hj
  ·exact S.vr.2 j q hj⟩,S.op,S.tk⟩
def Sm:swapsWith value (some (.Attribute o a p)) l env=pure false:=by cases value<;>rfl
def bw.call(h:bw (k+1) A):bw k (A.under (.builtin "type.__call__" ⟨.ref C::D,[]⟩)):=
 ⟨by have:=h.depth;show A.depth+1+_<=_;lia,by have:=h.units;show A.units+1+_<=_;lia,h.hd⟩
def bw.deeper(h:bw (k+1) A):bw k (A.deeper env):=
 ⟨by have:=h.depth;show A.depth+1+_<=_;lia,by have:=h.units;show A.units+3+_<=_;lia,h.hd⟩
noncomputable def hO (m:Mp):Mp:={m with W:=λj=>(m.f j).isSome=true}
def Am(W:Wf O fa F n){c:Cx}{m:Mp}{cq:aI}{Q:Flow->ay->Prop}{p:PS}(hp:PS.isFrz p=false)(hc:qf c.sc p=true)(he:ex F p c.vars ac=some (.next,cq,ao))(cP:c.ro=false)(S:aw O c m ac s)(hr:bw (n+1) A)
  (k:∀m' dp V,aw O {c with vals:=dp,vars:=cq} m' ao V->aK c.own true m m' s V->Q .next V):wpAny O.M A (exec (toS c.sc p) c.env) Q E s:=
 Gp W p hp hc he cP S hr λm' dp f V S' a hf=>by cases hf;exact k m' dp V S' a
def Sn(W:Wf O fa F n)(oO:kZ K O.C fa)(X:K.In O.hb)
  (eC:Al sc=true) (S:aw O ⟨sc,false,env,own,own++d::P,vals,[some (.raw x),some pv,none,none]⟩ (hO m) ⟨Y,[]⟩ s) (jE:d∉own) (vN:d∉P) (hx:x∉own++d::P) (tz:∀j,m.f j≠some x)
  (gx:s.heap.get? x=some (instObj O.C d)) (gd:s.heap.get? d=some emptyDict) (hr:bw (n+1) A)
  (e0:ex F (oi k) [some (.raw x),some pv,none,none] ⟨Y,[]⟩=some (.next,[some (.raw x),some (.ref k),none,none],iE)) (e1:ex F qg [some (.raw x),some (.ref k),none,none] iE=some (.next,[some (.raw x),some (.ref k),none,none],⟨σ2,An⟩))
  (e3:ex F oj [some (.hdr k),some (.ref k),none,none] ⟨σ2,[]⟩=some (.next,aS,⟨σ2,[]⟩))
  (hK:∀m' V,SR O (own++P) m' ⟨σ2,[]⟩ V.heap->aK (d::own) true (hO m) m' s V->ai O V.heap (own++P) m' (.ref x) (.hdr k)->Q .next V):wpAny O.M A (execs (r9 sc) env) Q E s:=by
 refine aB eC λq0 eC=>aB eC λq1 eC=>aB eC λq3 eC=>aB eC λq4 q5=>?_;have xd:x≠d:=λq=>hx (by rw [q];exact cj _ (.head _));have xo:x∉own:=λq=>hx (cE _ q);refine wpAny_execs_cons (Am W (p:=(oi k)) rfl (c:=⟨sc,false,env,own,own++d::P,vals,[some (.raw x),some pv,none,none]⟩) q0 e0 rfl S hr λm3 vals3 s3 S3 a3=>?_);refine wpAny_execs_cons (Am W (p:=qg) rfl (c:=⟨sc,false,env,own,own++d::P,vals3,[some (.raw x),some (.ref k),none,none]⟩) q1 e1 rfl S3 hr λm5 oQ s5 S5 a5=>?_);have tA:aK own true (hO m) m5 s s5:=a3.trans a5;have GD:=tA.keep x _ xo (λj q=>aj q (tz j)) gx;have So:=tA.keep d _ jE (λj q=>aj (cj _ (List.Mem.head _)) (S.sr.mem j d q).2.2) gd;have Sp:∀j,m5.f j≠some x:=λj q=>(tA.new j x q).elim (tz j) λz=>aj (cW gx) (cg.mpr z);refine wpAny_execs_cons (plainObj_wpAny_Assign_Attribute (zm S5 q5 rfl λv' Sq=>zm S5 q4 rfl λSr Su=>?_) Sm);obtain ⟨l,rfl,hm⟩:=Sq;cases (show Sr=.ref x from Su);refine Si oO (X.keeps S5.sr.base) GD So λh' t hs GF=>?_;have ci:∀y∈bO sc,(env.kindOf y=some .cell\/env.kindOf y=some .free)->∀a,env.cells.lookup y=some a->a∈own:=λy hy hk a ha=>by
  refine b6 (getElem?_of_mem hy) λi hi=>?_;exact eV (S5.en.cell i y hi hk) λc' Z b1 Z Z b4 Z=>ax ((show env.cells.lookup y=some c' from b1).symm.trans ha)▸b4 rfl
 have zx:fG ⟨sc,false,env,own,own++d::P,oQ,[some (.raw x),some (.ref k),none,none]⟩ [d]:=⟨λz hz=>by rw [mem_singleton.mp hz];exact cj _ (.head _),λz hz hq=>jE (cC.mp hq▸hz),λy hy hk z hz hq=>jE (cC.mp hq▸ci y hy hk z hz)⟩
 refine aT (fG.priv (V:={s5 with heap:=h',toks:=s5.toks+2}) zx S5 (Kp.but hs) rfl rfl (bz _ 2)) λS6 a6=>?_;have sub:∀z,z∈own++P->z∈own++d::P:=λz q=>(bD.mp q).elim (λq=>cE _ q) λq=>cj _ (.tail _ q);have R7:SR O (own++P) (hO m5) ⟨σ2,[]⟩ h':=((S6.sr.congrP (P':=[d]++(own++P)) λz=>by
  simp only [bD,bA,cp,or_false];exact ⟨λq=>q.elim (λq=>.inr (.inl q)) λq=>q.elim .inl λq=>.inr (.inr q),λq=>q.elim (λq=>.inr (.inl q)) λq=>q.elim .inl λq=>.inr (.inr q)⟩).showL).sameF (m':=hO m5) rfl (λZ h=>h) [] λj hj=>⟨hj,λq=>nomatch q⟩
 have S7:aw O ⟨sc,false,env,own,own++P,oQ,[some (.raw x),some (.ref k),none,none]⟩ (hO m5) ⟨σ2,[]⟩ {s5 with heap:=h',toks:=s5.toks+2}:=
  aw.reC (c:=⟨sc,false,env,own,own++P,oQ,[some (.raw x),some (.ref k),none,none]⟩) S6 (λy a hy hk ha=>cE _ (ci y hy hk a ha)) (λz hz=>cE _ hz) R7 (λZ Z h=>h) (λz o hx Z q=>hx (q.imp (sub z) id))
 have nx:¬aC (own++P) (hO m5) x:=λq=>q.elim (λq=>hx (sub x q)) λ⟨j,q⟩=>Sp j q;have nd:¬aC (own++P) (hO m5) d:=λq=>q.elim (λq=>(bD.mp q).elim jE vN) λ⟨j,q⟩=>(S5.sr.mem j d q).2.2 (cj _ (.head _));have GG:h'.get? x=some (instObj O.C d):=(hs.2 x xd).trans GD;refine bt (S7.vr.2 0 _ rfl) λv0 Sw Sy=>?_;cases (show v0=.ref x from Sy);have S8:=aw.gain (i:=0) (pv:=.hdr k) S7 Sw ⟨x,l,rfl,hm,d,t,1,nx,nd,GG,GF⟩;refine wpAny_execs_cons (Am W (p:=oj) rfl (c:=⟨sc,false,env,own,own++P,oQ,[some (.hdr k),some (.ref k),none,none]⟩) q3 e3 rfl S8 hr λm9 aab s9 S9 a9=>?_);have A9:aK own false (hO m5) m9 {s5 with heap:=h',toks:=s5.toks+2} s9:=⟨a9.keep,a9.new,a9.size,λj z Z e=>a9.live j z (.inr (.inl (by show (m5.f j).isSome=true;rw [show m5.f j=some z from e];rfl))) e,a9.L,a9.W,a9.gens,a9.os⟩
 have Sz:aK own false m5 {m9 with W:=m5.W} {s5 with heap:=h',toks:=s5.toks+2} s9:=⟨A9.keep,A9.new,A9.size,λj z Z e=>A9.live j z (.inl rfl) e,A9.L,rfl,A9.gens,A9.os⟩
 refine wpAny_execs_nil (hK {m9 with W:=(hO m).W} s9 (S9.sr.sameF (m':={m9 with W:=(hO m).W}) rfl (λZ h=>h) [] λj hj=>⟨?_,λq=>nomatch q⟩) ?_ ?_)
 ·refine b6 (isSome_iff_exists.mp hj) λz hz=>?_
  have h5:=tA.live j z (.inr (.inl hj)) hz;rw [A9.live j z (.inl rfl) h5];rfl
 ·have T:=(tA.weaken λz hz=>List.Mem.tail d hz).trans ((a6.loose.weaken λz hz=>hz).trans (Sz.loose.weaken λz hz=>List.Mem.tail d hz))
  exact ⟨T.keep,T.new,T.size,T.live,T.L,rfl,T.gens,T.os⟩
 ·have:=(show ai O h' (own++P) (hO m5) (.ref x) (.hdr k) from ⟨x,l,rfl,hm,d,t,1,nx,nd,GG,GF⟩)
  exact ai.sameF (m:=m9) (ai.adv A9 (λz hz=>cE _ hz) this) rfl
def GH(W:Wf O fa F n)(oO:kZ K O.C fa)(X:K.In O.hb)(Df:Ab O (fa 28) fd (r9 sc) sc)(Ks:tv sc)(ty:(bO sc).length=4)(eC:Al sc=true)
  (ht:0<s.toks) (hr:bw (n+3) A) (R:SR O P m ac s.heap) (pa:ai O s.heap P m a pv)
  (Ag:∀(x:az)(A':Around)(Q:List (Str×aq)->ay->Prop)(E:cJ)(V:ay),qx O V->Q ((bO sc).zip [.ref x,a]) V->wpAny O.M A' (bindArgs fd ⟨.ref x::rest,[]⟩) Q E V)
  (e0:∀x,ex F (oi k) [some (.raw x),some pv,none,none] ⟨ac.Y,[]⟩=some (.next,[some (.raw x),some (.ref k),none,none],iE)) (e1:∀x,ex F qg [some (.raw x),some (.ref k),none,none] iE=some (.next,[some (.raw x),some (.ref k),none,none],⟨σ2,An⟩))
  (e3:ex F oj [some (.hdr k),some (.ref k),none,none] ⟨σ2,[]⟩=some (.next,aS,⟨σ2,[]⟩)) (yr:∀j∈tC,j∈ac.own\/ac.Y j=none):
  wpAny O.M A (call (.ref O.C) rest []) (aJ O P m s ⟨σ2,tC⟩ (.hdr k)) br s:=by
 have Xh:=X.keeps R.base;refine wpAny_call (make_core (R:=λres V=>match res with|.ok (.ret v)=>aJ O P m s ⟨σ2,tC⟩ (.hdr k) v V|_=>False) (makes_of Xh oO.mks) (looks_findIn Xh oO.ini.1) (λself=>bind_fn Xh self (bB.mp oO.ini.2)) (.inl rfl) ?_|>λz=>codeAny_mono z λres V hz=>by
  rcases res with e|(v|_|_|_)<;>first|exact hz|exact hz.elim)
 have kx:∀b o,s.heap.get? b=some o->((s.heap.push emptyDict).push (instObj O.C s.heap.objs.size)).get? b=some o:=λb o e=>f' _ (f' _ e);refine bt (Df.ho) λo28 SA SD=>?_;have SE:fd.scope.kind=.function:=by rw [Df.scp];exact Ks.kind
 refine codeAny_call_function (by have:=hr.depth;show A.depth+1<1000;lia) (kx _ _ (R.base _ _ SA)) SD Df.co Df.gen Df.body ((Df.code.keeps R.base).keeps kx) ?_;refine Ag _ _ _ _ _ (λa o e=>kx a o (R.base a o e)) ?_;rw [Df.clo];refine wpAny_with_toks (n:=1) ht (wpAny_newFunctionEnv_cells SE (λy hy=>?_) λenv Ah s2 x Ai=>?_)
 ·have lV:=(List.of_mem_zip hy).1
  rw [<-Df.scp] at lV;rcases Ks.known y.1 (Df.scp▸lV) with q|q
  ·exact .inl (by rw [Df.scp];exact q)
  ·exact .inr ⟨by rw [Df.scp];exact q,tu _ _ _ (mem_of_lookup (by rw [Df.scp];exact q))⟩
 subst Ah;refine ⟨W.nl.keeps λb o e=>x.toInCall.keep b o (kx b o (R.base b o e)),codeAny_func ?_⟩;have oY:((s.heap.push emptyDict).push (instObj O.C s.heap.objs.size)).objs.size=s.heap.objs.size+2:=by rw [Heap.size_push,Heap.size_push]
 have Ao:((s.heap.push emptyDict).push (instObj O.C s.heap.objs.size)).get? (s.heap.objs.size+1)=some (instObj O.C s.heap.objs.size):=by
  have:=fh (s.heap.push emptyDict) (o:=instObj O.C s.heap.objs.size) rfl;rwa [Heap.size_push] at this
 have Ap:((s.heap.push emptyDict).push (instObj O.C s.heap.objs.size)).get? s.heap.objs.size=some emptyDict:=f' _ (fh s.heap (o:=emptyDict) rfl);generalize vv:({s with heap:=(s.heap.push emptyDict).push (instObj O.C s.heap.objs.size)}:ay)=s1 at x⊢;have eh:(s.heap.push emptyDict).push (instObj O.C s.heap.objs.size)=s1.heap:=by rw [<-vv]
 have eg:s1.gens=s.gens/\s1.os=s.os:=by rw [<-vv];exact ⟨rfl,rfl⟩
 rw [eh] at kx oY Ao Ap;generalize hd:s.heap.objs.size=d at oY Ao Ap x⊢;have kp:Kp [] s.heap s1.heap:=⟨by rw [oY,hd];exact (bz _ _),λb o Z e=>kx b o e⟩
 have hH:∀z∈[d],s.heap.objs.size<=z/\z<s1.heap.objs.size:=λz hz=>by rw [mem_singleton.mp hz,oY,hd];exact ⟨(aD _),(dc (by decide:1<=2) _)⟩
 have R1:SR O ([d]++P) (hO m) ⟨ac.Y,[]⟩ s1.heap:=(R.sameF (m':=hO m) rfl (λZ h=>h) [] λk hk=>⟨hk,λq=>nomatch q⟩).hideL kp hH;have SG:ai O s1.heap ([d]++P) (hO m) a pv:=(pa.hideL kp λz hz=>(hH z hz).1).sameF rfl;refine d4 (GB (s:=s1) (args:=[.raw (d+1),pv]) (vals:=[.ref (d+1),a]) Ks Df.scp Df.glob Df.blt R1 (.cons rfl (.cons SG .nil)) (by rw [ty];exact (by decide:2<=4)) x Ai) λown tw S aF=>?_;rw [ty] at S;have on:∀z∈own,d+2<=z:=λz hz=>by have:=tw z hz;rwa [oY] at this
 have GI:∀{j z},m.f j=some z->z<d:=λ{j z} q=>hd▸(R.mem j z q).2.1;have GJ:∀z∈P,z<d:=λz q=>hd▸(R.prv z q).2;have GK:d+1∉own:=λq=>by have:=on _ q;exact (dK _ (bx (aD _) this))
 have jE:d∉own:=λq=>by have:=on _ q;exact (dK _ (bx (af (af (dc (by decide:1<=2) _) this) (cr hd.symm)) (cr hd)))
 have tz:∀j,m.f j≠some (d+1):=λj q=>by have this:_<d:=GI q;exact (dK _ (bx (af (af (dc (by decide:1<=2) _) this) (cr hd.symm)) (cr hd)))
 have SH:∀j,m.f j≠some d:=λj q=>aj (GI q) (dK _);have jj:d+1∉own++d::P:=λq=>(bD.mp q).elim GK λq=>(bA.mp q).elim (λq=>aj q (Nat.succ_ne_self d)) λq=>by have this:_<d:=GJ _ q;exact (dK _ (bx (af (af (dc (by decide:1<=2) _) this) (cr hd.symm)) (cr hd)))
 refine Sn W oO X (env:=callEnvC fd s1.heap.objs.size (fa 28)) (P:=P) eC S jE (λq=>aj (GJ d q) (dK _)) jj tz (aF.keep _ _ GK (λj q=>aj q (tz j)) Ao) (aF.keep _ _ jE (λj q=>aj q (SH j)) Ap) ((bw.call (k:=n+2) hr).deeper) (e0 _) (e1 _) e3
  λm9 s9 R9 a9 p9=>⟨rfl,?_⟩
 have T:aK (d::own) true (hO m) m9 s1 s9:=(aF.loose.weaken λz hz=>.tail _ hz).trans a9;refine ⟨{m9 with W:=m.W},(R9.showL).sameF (m':={m9 with W:=m.W}) rfl (λZ h=>h) tC λj hj=>?_,⟨λz o Z q3 q4=>?_,λj z e=>?_,?_,λj z Z e=>T.live j z (.inr (.inl (by show (m.f j).isSome=true;rw [e];rfl))) e,T.L,rfl,T.gens.trans eg.1,T.os.trans eg.2⟩,(p9.showL).sameF rfl⟩
 ·refine aT (R.wk j hj) λq1 q2=>?_
  refine b6 (isSome_iff_exists.mp q1) λz hz=>?_;refine ⟨by rw [T.live j z (.inr (.inl q1)) hz];rfl,λq=>(yr j q).elim q2 λy=>?_⟩;have:=R.dom j;rw [hz,y] at this;cases this
 ·have hz:z<d:=hd▸cW q4
  exact T.keep z o (λq=>(bA.mp q).elim (λq=>aj (q▸hz) (dK _)) λq=>aj (bx hz (af (bz d 2) (on z q))) (dK _)) q3 (kx z o q4)
 ·exact (T.new j z e).imp id λq=>by rw [oY] at q;rw [hd];exact (af (af (bz _ _) q) (aD _))
 ·have:=T.size
  rw [oY] at this;rw [hd];exact (af (af (bz _ _) this) (aD _))
end
structure wo where
 body:List PS
 nv:Nat
 ar:Nat
 keep:Bool:=false
def qL:List (Nat×wo):=[
 (0,⟨Do,1,1,false⟩),
 (1,⟨Dp,1,1,false⟩),
 (2,⟨Dq,1,1,false⟩),
 (3,⟨Dr,1,1,false⟩),
 (4,⟨qh,12,3,true⟩),
 (5,⟨uV,3,1,false⟩),
 (6,⟨DA,4,1,false⟩),
 (7,⟨ol,14,4,false⟩),
 (8,⟨jh,12,4,false⟩),
 (9,⟨yo,11,2,false⟩),
 (10,⟨yp,3,1,false⟩),
 (11,⟨DB,5,4,false⟩),
 (12,⟨mI,11,3,false⟩),
 (13,⟨qi,17,2,false⟩),
 (14,⟨jX,23,1,false⟩),
 (20,⟨Dt,1,1,false⟩),
 (21,⟨Dx,1,1,false⟩),
 (22,⟨Ds,4,3,false⟩),
 (23,⟨Du,2,2,false⟩),
 (24,⟨Dv,5,2,false⟩),
 (25,⟨Dw,1,1,false⟩),
 (26,⟨Dy,4,3,false⟩),
 (27,⟨Dz,7,3,false⟩)]
noncomputable def k7 (f:Nat):Option wo:=qL.lookup f
def GL(p:Nat×wo):Bool:=decide (p.1<28/\p.2.ar+(if p.1=24\/p.1=27 then 1 else 0)<=p.2.nv)&&(kC (fF p.1) p.2.body&&(wh (fF p.1)&&decide ((bO (fF p.1)).length=p.2.nv)))
noncomputable def qM (f:Nat) (a:List PV):List PV:=if f=24 then a++[.d .none] else if f=27 then a++[.d (.dict [])] else a
def GM(gl:Nat->Option PV):Nat->Nat->List PV->ah->Option (PV×ah)
 |0,_,_,_=>none
 |n+1,f,a,s=>(k7 f).bind λt=>if a.length=t.ar then dv ⟨gl,GM gl n,decide (2<=n)⟩ t.body t.nv t.keep (qM f a) s else none
def gL(gl:Nat->Option PV)(n:Nat):je:=⟨gl,GM gl n,decide (2<=n)⟩
noncomputable def tD:Nat->(List aq->Prop)->Prop
 |0,P=>P []
 |n+1,P=>∀a,tD n λl=>P (a::l)
def tD.get{n:Nat}:∀{P:List aq->Prop}{l:List aq},tD n P->l.length=n->P l:=by
 induction n with
 |zero=>exact λh e=>length_eq_zero_iff.mp e▸h
 |succ n ih=>
  intro P l h e;cases l with
  |nil=>cases e
  |cons a l=>exact ih (P:=λl=>P (a::l)) (h a) (Nat.succ.inj e)
def eO(hp:fd.params=P)(hd:fd.defaults=d)(h:bindArgs {fd with params:=P,defaults:=d} x=y):bindArgs fd x=y:=by
 subst hp;subst hd;exact h
def fI(f ar:Nat):Prop:=tD ar λvals=>∀fd:FuncData,fd.params=kD f->fd.defaults=.none->bindArgs fd (sM f vals)=pure ((bO (fF f)).zip vals)
def SI:fI 0 1:=λZ Z H I=>eO H I (Eq.refl _)
def SJ:fI 1 1:=λZ Z H I=>eO H I (Eq.refl _)
def SK:fI 2 1:=λZ Z H I=>eO H I (Eq.refl _)
def SL:fI 3 1:=λZ Z H I=>eO H I (Eq.refl _)
def SN:fI 4 3:=λZ Z Z Z H I=>eO H I (Eq.refl _)
def SO:fI 5 1:=λZ Z H I=>eO H I (Eq.refl _)
def SP:fI 6 1:=λZ Z H I=>eO H I (Eq.refl _)
def SQ:fI 7 4:=λZ Z Z Z Z H I=>eO H I (Eq.refl _)
def SS:fI 8 4:=λZ Z Z Z Z H I=>eO H I (Eq.refl _)
def ST:fI 9 2:=λZ Z Z H I=>eO H I (Eq.refl _)
def SU:fI 10 1:=λZ Z H I=>eO H I (Eq.refl _)
def SV:fI 11 4:=λZ Z Z Z Z H I=>eO H I (Eq.refl _)
def SW:fI 12 3:=λZ Z Z Z H I=>eO H I (Eq.refl _)
def SX:fI 13 2:=λZ Z Z H I=>eO H I (Eq.refl _)
def SY:fI 14 1:=λZ Z H I=>eO H I (Eq.refl _)
def SZ:fI 20 1:=λZ Z H I=>eO H I (Eq.refl _)
def S0:fI 21 1:=λZ Z H I=>eO H I (Eq.refl _)
def Tb:fI 22 3:=λZ Z Z Z H I=>eO H I (Eq.refl _)
def Tc:fI 23 2:=λZ Z Z H I=>eO H I (Eq.refl _)
def Td:fI 25 1:=λZ Z H I=>eO H I (Eq.refl _)
def Te:fI 26 3:=λZ Z Z Z H I=>eO H I (Eq.refl _)
noncomputable def GN (f:Nat):Bool:=f==24||f==27
def Tf:∀p∈qL,GN p.1=true\/(GN p.1=false/\fI p.1 p.2.ar):=by
 exact dk.mpr ⟨.inr ⟨rfl,SI⟩,dk.mpr ⟨.inr ⟨rfl,SJ⟩,dk.mpr ⟨.inr ⟨rfl,SK⟩,dk.mpr ⟨.inr ⟨rfl,SL⟩,dk.mpr ⟨.inr ⟨rfl,SN⟩,dk.mpr ⟨.inr ⟨rfl,SO⟩,dk.mpr ⟨.inr ⟨rfl,SP⟩,dk.mpr ⟨.inr ⟨rfl,SQ⟩,dk.mpr ⟨.inr ⟨rfl,SS⟩,dk.mpr ⟨.inr ⟨rfl,ST⟩,dk.mpr ⟨.inr ⟨rfl,SU⟩,dk.mpr ⟨.inr ⟨rfl,SV⟩,dk.mpr ⟨.inr ⟨rfl,SW⟩,dk.mpr ⟨.inr ⟨rfl,SX⟩,dk.mpr ⟨.inr ⟨rfl,SY⟩,dk.mpr ⟨.inr ⟨rfl,SZ⟩,dk.mpr ⟨.inr ⟨rfl,S0⟩,dk.mpr ⟨.inr ⟨rfl,Tb⟩,dk.mpr ⟨.inr ⟨rfl,Tc⟩,dk.mpr ⟨.inl rfl,dk.mpr ⟨.inr ⟨rfl,Td⟩,dk.mpr ⟨.inr ⟨rfl,Te⟩,dk.mpr ⟨.inl rfl,λZ h=>nomatch h⟩⟩⟩⟩⟩⟩⟩⟩⟩⟩⟩⟩⟩⟩⟩⟩⟩⟩⟩⟩⟩⟩⟩
section
variable{O:Wd}
def Tg(hp:fd.params=kD 24)(hd:fd.defaults=.ref T)(ho:s.heap.get? T=some o)(hs:o.data=.seq #[.none] n)(h:Q ((bO (fF 24)).zip [a,b,.none]) s):wpAny O.M A (bindArgs fd ⟨[a,b],[]⟩) Q E s:=by
 rw [eO hp hd rfl];refine an (aQ ?_);refine an (wpAny_seqItems ho hs ?_);exact wpAny_of_eq (by exact Eq.refl _) h
def Th(hp:fd.params=kD 28)(hd:fd.defaults=.ref T)(ho:s.heap.get? T=some o)(hs:o.data=.seq #[.none] n)(h:Q ((bO (fF 28)).zip [a,.none]) s):wpAny O.M A (bindArgs fd ⟨[a],[]⟩) Q E s:=by
 rw [eO hp hd rfl];refine an (aQ ?_);refine an (wpAny_seqItems ho hs ?_);exact wpAny_of_eq (by exact Eq.refl _) h
def Ti(hp:fd.params=kD 28)(hd:fd.defaults=.ref T)(ho:s.heap.get? T=some o)(hs:o.data=.seq #[.none] n)(h:Q ((bO (fF 28)).zip [a,b]) s):wpAny O.M A (bindArgs fd ⟨[a,b],[]⟩) Q E s:=by
 rw [eO hp hd rfl];refine an (aQ ?_);refine an (wpAny_seqItems ho hs ?_);exact wpAny_of_eq (by exact Eq.refl _) h
def Tj(hp:fd.params=kD 27)(hd:fd.defaults=.none)(h:Q ((bO (fF 27)).zip [a,b,c,.ref s.heap.objs.size]) {s with heap:=s.heap.push emptyDict}):wpAny O.M A (bindArgs fd ⟨[a,b,c],[]⟩) Q E s:=by
 have e:bindArgs {fd with params:=kD 27,defaults:=.none} ⟨[a,b,c],[]⟩=(do let d<-Sem.alloc emptyDict Sem.pure;pure ((bO (fF 27)).zip [a,b,c,.ref d])):=Eq.refl _;rw [eO hp hd e];exact an (wpAny_alloc (aQ h))
end
theorem wq{α:Type}{f:Nat}{t:α}:∀{l:List (Nat×α)},l.lookup f=some t->(f,t)∈l
 |p::l,q=>by
  rw [lookup_cons] at q;by_cases e:f=p.1
  ·subst e
   rw [beq_self_eq_true] at q;cases q;exact .head _
  ·rw [beq_eq_false_iff_ne.mpr e] at q
   exact .tail _ (wq q)
def Tk:qL.all GL=true:=by decide+kernel
def Aq(h:k7 f=some t):GL (f,t)=true:=dA.mp Tk _ (wq h)
def Tl{f:Nat}{t:wo}(h:k7 f=some t):f<28:=aB (Aq h) λq Z=>(cm q).1
def Tm(h:k7 f=some t)(hl:args.length=t.ar):(qM f args).length<=t.nv:=by
 refine aB (Aq h) λq Z=>?_;have:=(cm q).2;dsimp only at this;unfold qM;by_cases H:f=24
 ·rw [if_pos H,length_append,hl]
  rwa [if_pos (.inl H)] at this
 ·rw [if_neg H]
  by_cases I:f=27
  ·rw [if_pos I,length_append,hl]
   rwa [if_pos (.inr I)] at this
  ·rw [if_neg I,hl]
   rwa [if_neg (λq=>q.elim H I)] at this
def GO:Al (fF 28)=true/\wh (fF 28)=true/\(bO (fF 28)).length=4:=by decide+kernel
def GP(O:Wd)(v:aq):Prop:=∃T o n,v=.ref T/\O.hb.get? T=some o/\o.data=.seq #[.none] n
def Ar(O:Wd)(fa:Nat->az)(f:Nat)(body:List Stmt):Prop:=∃fd,Ab O (fa f) fd body (fF f)/\fd.params=kD f/\(if f=24\/f=28 then GP O fd.defaults else fd.defaults=.none)
structure TF(O:Wd)(fa:Nat->az)(gl:Nat->Option PV)(K:Frag):Prop where
 ng:O.hb.Ns mainGlobals O.mg
 nb:O.hb.Ns builtinsNs O.mb
 nl:O.hb.NoLimit
 nbk:NoneBooked O.hb
 pts:lS O
 glo:∀k pv,gl k=some pv->∃v,O.mg (qc k)=some v/\∀P m ac h,SR O P m ac h->ai O h P m v pv
 g6:gl 6=some (.pat 2)
 g7:gl 7=some (.pat 3)
 bl:∀p∈jC,O.mg p.1=none/\O.mb p.1=some p.2
 X:K.In O.hb
 oO:kZ K O.C fa
 fnm:∀f,f<15->O.mg (lL f)=some (.ref (fa f))
 fns:∀f t,k7 f=some t->Ar O fa f (jg (fF f) t.body)
 ini:Ar O fa 28 (r9 (fF 28))
 cls:O.mg "Headers" =some (.ref O.C)
def Tn{C:Prop}(h:(gL gl n).fn f args ac=some r)(k:∀k t,n=k+1->k7 f=some t->args.length=t.ar->dv (gL gl k) t.body t.nv t.keep (qM f args) ac=some r->C):C:=by
 cases n with
 |zero=>cases h
 |succ j=>exact aG h λt ht h=>b8 h λhl h=>k j t rfl ht hl h
def GQ(Y:Nat->Option aV):jf [] Y=Y:=by funext k;exact bK (λq=>nomatch q)
def iI(h:bo F body (args.map some++List.replicate (nv - args.length) none) ⟨s.Y,[]⟩=some (.ret (.d x),D,⟨s.Y,[]⟩)):dv F body nv false args s=some (.d x,s):=by
 refine (ae (λr=>b3 r _) h).trans ?_;show (if ([]:aa)=[]\/(s.Y 30).isNone=true\/30∈([]:aa) then some (PV.d x,(⟨jf [] s.Y,s.own⟩:ah)) else none)=_;rw [if_pos (.inl rfl),GQ]
def GR(hk:k<4)(s:ah)(hg:(cond bb (F.g 6) (F.g 7))=some (.pat k))(hx:n5 .search [.pat k,.d (.str x)] ⟨s.Y,[]⟩=some (.d .none,⟨s.Y,[]⟩)):dv F Ds 4 false [o,.d (.str x),.d (.bool bb)] s=some (.d (.str x),s):=by
 have hr:∀s,mC .search (.pat k) s=some "re.Pattern" :=λs=>bv hk;refine iI (D:=[some o,some (.d (.str x)),some (.d (.bool bb)),some (.pat k)]) ?_;refine jH ((nc (Sk (ag rfl))).trans ?_);refine (k5 (bI ((qK (nf (ag rfl) rfl)).trans ?_))).trans ((k5 ((nc (nf (gu (ag rfl) (hr _) (aP (ag rfl) b9) (hr _) hx) rfl)).trans rfl)).trans (jH (fe (ag rfl))));cases bb<;>exact eM hg
def wu(h6:gl 6=some (.pat 2))(n:Nat)(o:PV)(x:aa)(s:ah)(hx:lA x=true):(gL gl (n+1)).fn 22 [o,.d (.str x),.d (.bool true)] s=some (.d (.str x),s):=
 GR (F:=gL gl n) (by decide) s h6 (by show (if (2=2/\lA x=true)\/(2=3/\mz x=true) then some ab.none else none).map _=_;rw [if_pos (.inl ⟨rfl,hx⟩)];rfl)
def GS(h7:gl 7=some (.pat 3))(n:Nat)(o:PV)(x:aa)(s:ah)(hx:mz x=true):(gL gl (n+1)).fn 22 [o,.d (.str x),.d (.bool false)] s=some (.d (.str x),s):=
 GR (F:=gL gl n) (by decide) s h7 (by show (if (3=2/\lA x=true)\/(3=3/\mz x=true) then some ab.none else none).map _=_;rw [if_pos (.inr ⟨rfl,hx⟩)];rfl)
noncomputable def To:PS->List PS
 |.forT _ _ b _ _ _=>b
 |_=>[]
noncomputable def Tp:PS->PS
 |.ite _ [a] _ _=>a
 |a=>a
def Tq(h6:gl 6=some (.pat 2))(h7:gl 7=some (.pat 3))(n j k:Nat)(s:ah)(iV:List ab):∀(a b:Option PV),nW iV=true->
  ∃aS,dD (λx D s=>(gp [2,3] x D).bind λD=>bo (gL gl (n+1)) (To (Tp oj)) D s) iV [some (.hdr j),some (.ref k),a,b] s=some (.next,aS,s):=by
 induction iV with
 |nil=>exact λa b Z=>⟨_,rfl⟩
 |cons x iV ih=>
  intro a b h;refine aB h λH I=>gq H λq e1 e2=>aB e2 λc1 c2=>b6 (ih (some (.d (.str q.1))) (some (.d (.str q.2))) I) λaS hv=>?_;rw [ED e1];exact ⟨aS,(wm ((k5 (jp (nh (ag rfl) (ag rfl) rfl (wu h6 n _ _ _ c1)) rfl)).trans ((k5 (jp (nh (ag rfl) (ag rfl) rfl (GS h7 n _ _ _ c2)) rfl)).trans rfl))).trans hv⟩
def oZ{s:ah}(h:s.Y k=some o):(s.lock (some k)).unlock (some k)=s:=by
 rw [uO h,uP (if_pos rfl:(s.put k (.lk o)).Y k=some (.lk o))];refine ae (ah.mk · s.own) (funext λj=>?_);show (if j=k then some o else if j=k then some (.lk o) else s.Y j)=s.Y j;by_cases e:j=k
 ·rw [if_pos e,e];exact h.symm
 ·rw [if_neg e,if_neg e]
def GT(h6:gl 6=some (.pat 2))(h7:gl 7=some (.pat 3))(n k:Nat)(hs:s.Y k=some (.list iV))(hr:nW iV=true):
  ∃aS,ex (gL gl (n+1)) oj [some (.hdr k),some (.ref k),none,none] s=some (.next,aS,s):=by
 refine b6 (Tq h6 h7 n k k (s.lock (some k)) iV none none hr) λaS hv=>?_;refine ⟨aS,(nc (nf (x:=.d (.bool true)) rfl rfl)).trans ((k5 ((k6 (fH (ag rfl) (DH hs)) hv).trans (by rw [oZ hs]))).trans rfl)⟩
section
variable{K:Frag}
def As{α:Type}{l:List α}{n:Nat}{C:Prop}(h:l.length=n+1)(k:∀a l',l=a::l'->l'.length=n->C):C:=by
 cases l with
 |nil=>exact aj h (Nat.succ_ne_zero n).symm
 |cons a l=>exact k a l rfl (Nat.succ.inj h)
def GU{α:Type}{l:List α}(h:l.length=2):∃a b,l=[a,b]:=As h λa l1 e1 h=>As h λb l2 e2 h=>⟨a,b,by rw [e1,e2,length_eq_zero_iff.mp h]⟩
def Tr{α:Type}{l:List α}(h:l.length=3):∃a b c,l=[a,b,c]:=As h λa l1 e1 h=>(GU h).elim λb h=>h.elim λc h=>⟨a,b,c,by rw [e1,h]⟩
def GV{h:Heap}{D:List aq}{J:List PV}{v:aq}{x:PV}(r:bL O h P m D J)(p:ai O h P m v x):bL O h P m (D++[v]) (J++[x]):=by
 induction J generalizing D with
 |nil=>cases r;exact .cons p .nil
 |cons y J ih=>obtain ⟨_,_,rfl,a,b⟩:=r;exact .cons a (ih b)
def Ts(ht:k7 f=some t)(hp:fd.params=kD f)(hd:if f=24\/f=28 then GP O fd.defaults else fd.defaults=.none)(R:SR O P m ac s.heap)(p:bL O s.heap P m vals args)(hl:args.length=t.ar)
  (A':Around) (Q:List (Str×aq)->ay->Prop) (E:cJ) (hQ:∀m8 s1,Gu (O:=O) P m s ac (fF f) (qM f args) m8 s1->Q m8 s1):wpAny O.M A' (bindArgs fd (sM f vals)) Q E s:=by
 have gr:=p.size.trans hl;have Tt:f≠28:=λq=>aj (q▸Tl ht) (by decide);rcases Tf _ (wq ht) with h|h
 ·rcases Bool.or_eq_true_iff.mp h with q|q
  ·obtain rfl:=bB.mp q
   obtain rfl:=ax ht;obtain ⟨a,b,rfl⟩:=GU gr;obtain ⟨T,o,n,hT,ho,hs⟩:=(bv (.inl rfl)).mp hd;exact Tg hp hT (R.base _ _ ho) hs (hQ _ _ ⟨[a,b,.none],rfl,R,.refl,GV p rfl⟩)
  ·obtain rfl:=bB.mp q
   obtain rfl:=ax ht;obtain ⟨a,b,c,rfl⟩:=Tr gr;have ad:aK [] false m m s {s with heap:=s.heap.push emptyDict}:=.of_grow (fS _) (gF _) rfl rfl;exact Tj hp ((bK (by decide)).mp hd) (hQ _ _ ⟨[a,b,c,.ref s.heap.objs.size],rfl,R.grow (fS _) (gF _),ad,GV (p.adv ad iv) ⟨_,[],rfl,R.new (aD _),eU.mpr λq=>aj R.sm (cg.mpr (q▸R.size)),.new _,bN _,rfl⟩⟩)
 ·have GW:f≠24:=λq=>by rw [q] at h;cases h.1
  have Tu:f≠27:=λq=>by rw [q] at h;cases h.1
  rw [if_neg (λq=>q.elim GW Tt)] at hd;rw [tD.get h.2 gr fd hp hd];refine aQ (hQ _ _ ⟨vals,rfl,R,.refl,?_⟩);rw [show qM f args=args from (if_neg GW).trans (if_neg Tu)];exact p
def TF.func(T:TF O fa gl K)(h:(k7 f).isSome=true):∃o fd,O.hb.get? (fa f)=some o/\o.data=.func fd:=by
 refine b6 (isSome_iff_exists.mp h) λt ht=>?_;obtain ⟨fd,d,_⟩:=T.fns f t ht;refine bt (d.ho) λo H I=>?_;exact ⟨o,fd,H,I⟩
def Tv{s V:ah}(h:s.new j (.list [])=some (.ref j,V)):ex F (oi j) [some (.raw x),some (.d .none),none,none] s=some (.next,[some (.raw x),some (.ref j),none,none],V):=
 bI ((qK (c:=false) (cT (ag rfl) rfl rfl)).trans h)
def Tw{s:ah}:ex F (oi j) [some (.raw x),some (.ref j),none,none] s=some (.next,[some (.raw x),some (.ref j),none,none],s):=
 bI ((qK (c:=true) (cT (ag rfl) rfl rfl)).trans (eM rfl))
def GX{s:ah}(h:s.Y j=some (.list l)):ex F qg [some (.raw x),some (.ref j),none,none] s=some (.next,[some (.raw x),some (.ref j),none,none],s):=
 (nc (Sl (ag rfl) (sf h))).trans rfl
def At(T:TF O fa gl K)(k:Nat)(hc:∀f args ac r,(gL gl k).fn f args ac=some r->zk O fa (2*k) f args ac r)(H:2<=k->Wf O fa (gL gl 1) 2):Wf O fa (gL gl k) (2*k) where
 ng:=T.ng
 nb:=T.nb
 nl:=T.nl
 gl j pv h:=T.glo j pv h
 bl:=T.bl
 fn f hf:=⟨T.fnm f hf,T.func (by
  have:∀f<15,(k7 f).isSome=true:=by decide
  exact this f hf)⟩
 mt f H I:=⟨T.func (by
  have:∀i<8,(k7 (20+i)).isSome=true:=by decide
  have:=this (f - 20) (by omega);rwa [show 20+(f - 20)=f by exact (add_sub_cancel' H)] at this),λA s x l X B Q E hb am hQ=>Sf T.oO T.X H I hb am hQ⟩
 nbk:=T.nbk
 pts:=T.pts
 cls:=T.cls
 kc h hb:=keeps_K T.oO.kc h (T.X.keeps hb)
 at_ A s x l X Q E hb am hQ:=Sc T.oO T.X hb am hQ
 ln A s x l X Q hr hb am hQ:=Sg T.oO T.X hr hb am hQ
 st A s x l X Q hr hb am hQ:=Sh T.oO T.X hr hb am hQ
 n0 A P m s j ac ao r oJ ht hr R hn:=by
  have hk:=cm oJ;obtain ⟨q1,rfl,rfl⟩:=FA hn;obtain ⟨fd,D1,D2,D3⟩:=T.ini;rw [if_pos (.inr rfl)] at D3;obtain ⟨Ta,o,n,hT,ho,hs⟩:=D3;refine fC (GO) λg1 g2 g3=>?_;have hu:ak ac.Y j (some (.list [])) j=some (.list []):=bv rfl;refine b6 (GT T.g6 T.g7 0 j (s:=⟨ak ac.Y j (some (.list [])),[]⟩) (iV:=[]) hu rfl) λaS hv=>?_;exact GH (H hk) T.oO T.X D1 (Aa g2) g3 g1 (a:=.none) (pv:=.d .none) (rest:=[]) (k:=j) (σ2:=ak ac.Y j (some (.list []))) (iE:=⟨ak ac.Y j (some (.list [])),[j]⟩) (An:=[j]) (tC:=j::ac.own) (aS:=aS) ht (hr.less (by omega)) R rfl (λx A' Q E V hb hQ=>Th D2 hT (hb _ _ ho) hs hQ)
   (λx=>Tv (gf q1)) (λx=>GX hu) hv λi hi=>(bA.mp hi).elim (λq=>.inr (q▸q1)) .inl
 n1 A P m s j ac a iV oJ ht hr R p hs jY:=by
  have hk:=cm oJ;obtain ⟨fd,D1,D2,D3⟩:=T.ini;rw [if_pos (.inr rfl)] at D3;obtain ⟨Ta,o,n,hT,ho,fb⟩:=D3;refine fC (GO) λg1 g2 g3=>?_;refine b6 (GT T.g6 T.g7 0 j (s:=⟨ac.Y,[]⟩) (iV:=iV) hs jY) λaS hv=>?_;exact GH (H hk) T.oO T.X D1 (Aa g2) g3 g1 (a:=a) (pv:=.ref j) (rest:=[a]) (k:=j) (σ2:=ac.Y) (iE:=⟨ac.Y,[]⟩) (An:=[]) (tC:=ac.own) (aS:=aS) ht (hr.less (by omega)) R p (λx A' Q E V hb hQ=>Ti D2 hT (hb _ _ ho) fb hQ)
   (λx=>Tw) (λx=>GX hs) hv λi hi=>.inl hi
 calls:=hc
def GY(T:TF O fa gl K)(W:Wf O fa (gL gl k) (2*k)):∀f args ac r,(gL gl (k+1)).fn f args ac=some r->zk O fa (2*(k+1)) f args ac r:=by
 intro f args ac r h A P m s vals Tx hr R p;refine Tn h λk' t e ht hl Ty=>?_;cases e;obtain ⟨fd,d1,d2,d3⟩:=T.fns f t ht;refine aB (Aq ht) λZ q=>aB q λq1 q=>aB q λq2 q3=>?_;obtain ⟨r1,r2⟩:=r;exact RY (oW W) T.nl d1 (Aa q2) q1 (cm q3) (Tm ht hl) Tx ⟨by have:=hr.depth;omega,by have:=hr.units;omega,hr.hd⟩ R (Ts ht d2 d3 R p hl) Ty
def Tz(T:TF O fa gl K):∀k,Wf O fa (gL gl k) (2*k):=by
 have w0:=At T 0 (λf args ac r h=>by cases h) (λh=>aj h ((not_le_of_lt (by decide:1<=2))));have w1:=At T 1 (GY T w0) (λh=>aj h ((not_le_of_lt (aD _))));intro k;induction k with
 |zero=>exact w0
 |succ k ih=>exact At T (k+1) (GY T ih) λZ=>w1
end
noncomputable abbrev tE:=PySem.W.Fast.tw10156331382660048174
noncomputable abbrev tF:=PySem.W.Fast.tw11892475500146522536
noncomputable abbrev tG:=PySem.W.Fast.tw14364793385576792824
noncomputable abbrev Au:=PySem.W.Fast.tw6613529449190102663
noncomputable abbrev Av:=PySem.W.Fast.tw3805553451399329143
noncomputable abbrev o0:=PySem.W.Fast.tw1435165496053646825
noncomputable abbrev GZ:=PySem.W.Fast.tw5503375647107647088
noncomputable abbrev G1:=PySem.W.Fast.tw2307422834073738558
noncomputable abbrev G2:=PySem.W.Fast.tw7112062391866330836
noncomputable abbrev G3:=PySem.W.Fast.tw4187177175401517315
noncomputable abbrev wv:=PySem.W.Fast.tw8920871248978507458
def G4: @stepT= @tE:=PySem.W.Fast.te10156331382660048174
def G5: @denote= @tF:=PySem.W.Fast.te11892475500146522536
def G6:treeTable=tG:=PySem.W.Fast.te14364793385576792824
def TA: @stepOk= @Au:=PySem.W.Fast.te6613529449190102663
def TC: @Thread.atExitBegin= @Av:=PySem.W.Fast.te3805553451399329143
def TD: @start= @o0:=PySem.W.Fast.te1435165496053646825
def TE: @boundIn= @GZ:=PySem.W.Fast.te5503375647107647088
def TG: @tameNamesOf?= @G1:=PySem.W.Fast.te2307422834073738558
def TH: @fenceDict?= @G2:=PySem.W.Fast.te7112062391866330836
def TI: @openSeen= @G3:=PySem.W.Fast.te4187177175401517315
def G7: @Heap.nsMap= @wv:=PySem.W.Fast.te8920871248978507458
def Aw(p:Program)(w:World)(qN:Nat)(qO:Option aq)(n:Nat):SharedT->Thread->Option SharedT:=
 Nat.rec (λZ Z=>none) (λZ ih s t=>match through t with
  |true=>some s
  |false=>match Au qN qO t with
   |false=>none
   |true=>match tE (tF tG) p w s t with
    |some (V,t')=>ih V t'
    |none=>none) n
def Ax(p:Program)(w:World)(n:Nat):SharedT->Thread->Option SharedT:=
 Nat.rec (λZ Z=>none) (λZ ih s t=>match Av t with
  |some []=>some s
  |some (_::_)=>none
  |none=>match tE (tF tG) p w s t with
   |some (V,t')=>ih V t'
   |none=>none) n
section
def TJ:∀{s:SharedT}{t:Thread}{r:SharedT},Aw p w qN qO n s t=some r->topRun treeTable p w qN qO n s.abs t=some r.abs:=by
 induction n with
 |zero=>intro s t r h;exact av h
 |succ n ih=>
  intro s t r h
  change (match through t with
  |true=>some s
  |false=>match Au qN qO t with
   |false=>none
   |true=>match tE (tF tG) p w s t with
    |some (V,t')=>Aw p w qN qO n V t'
    |none=>none)=some r at h
  rw [<-G4,<-G5,<-G6,<-TA] at h;unfold topRun;cases H:through t with
  |true=>rw [H] at h;obtain rfl:=ax h;rfl
  |false=>
   rw [H] at h;cases I:stepOk qN qO t with
   |false=>rw [I] at h;exact av h
   |true=>
    rw [I] at h;cases h3:stepT (denote treeTable) p w s t with
    |none=>rw [h3] at h;exact av h
    |some r'=>
     rw [h3] at h;dsimp only;rw [stepT_spec h3];exact ih h
def TL:∀{s:SharedT}{t:Thread}{r:SharedT},Ax p w n s t=some r->importEnds treeTable p w n s.abs t=some r.abs:=by
 induction n with
 |zero=>intro s t r h;exact av h
 |succ n ih=>
  intro s t r h
  change (match Av t with
  |some []=>some s
  |some (_::_)=>none
  |none=>match tE (tF tG) p w s t with
   |some (V,t')=>Ax p w n V t'
   |none=>none)=some r at h
  rw [<-G4,<-G5,<-G6,<-TC] at h;unfold importEnds;cases H:t.atExitBegin with
  |some l=>rw [H] at h;cases l<;>cases h;rfl
  |none=>
   rw [H] at h;cases h3:stepT (denote treeTable) p w s t with
   |none=>rw [h3] at h;exact av h
   |some r'=>
    rw [h3] at h;dsimp only;rw [stepT_spec h3];exact ih h
end
noncomputable def ww:aq->Option az
 |.ref a=>some a
 |_=>none
def G8(h:ww v=some a):v=.ref a:=by
 cases v with
 |ref b=>exact ae _ (ax h)
 |_=>exact av h
def Ay(m:Str)(s:SharedT):Option SharedT:=
 (GZ s.abs.heap sysModules m).bind λv=>(ww v).bind λa=>(G1 m).bind λrow=>(s.abs.heap.get? a).bind λo=>o.dict.bind λab=>(s.abs.heap.get? ab).bind λod=>(s.tree.get ab).bind λZ=>
  (G2 m row od).map λG9=>{s with tree:=s.tree.set ab λZ=>G9}
def TM(h:Ay m s=some r):fenceModule? m s.abs=some r.abs:=by
 unfold Ay at h;rw [<-TE,<-TG,<-TH] at h;refine aG h λv e1 h=>aG h λa e2 h=>aG h λrow e3 h=>aG h λo e4 h=>aG h λab e5 h=>aG h λod e6 h=>aG h λod1 e7 h=>bt (map_eq_some_iff.mp h) λG9 q1 q2=>?_;rw [G8 e2] at e1
 delta fenceModule?
 rw [e1,e3];dsimp only;rw [e4];dsimp only;rw [e5];dsimp only;rw [e6];dsimp only;rw [q1,<-q2];exact ae (λam=>some ({s.abs with heap:=am}:ay)) (absHeap_set e7).symm
def Az(p:Program)(m:Str)(w:World)(N:Nat):Option (SharedT×SharedT):=
 (Ax (opening p) w N ⟨.nil,0,(o0 (opening p)).1.heap.life,(o0 (opening p)).1.gens,(o0 (opening p)).1.drawn,(o0 (opening p)).1.toks,(o0 (opening p)).1.os⟩ (o0 (opening p)).2).bind λs1=>
 (Ay m s1).bind λs2=>
 if (s2.abs.heap.isNs mainGlobals&&s2.gens.size==0)=true then (Aw p w s2.n (wv s2.abs.heap mainGlobals "__annotations__") N s2 (topStub p)).bind λs3=>some (s2,s3) else none
def TN(p:Program):(⟨.nil,0,(start p).1.heap.life,(start p).1.gens,(start p).1.drawn,(start p).1.toks,(start p).1.os⟩:SharedT).abs=(start p).1:=by
 unfold start
 rfl
def TO(hm:importedModules p.main.body=[m])(hn:p.main.body.any namesNumpy=false)(h:Az p m w N=some (s2,s3))
  (hl:(staticsOk (importedModules p.main.body) s2.abs.heap s3.abs.heap&&namesBound p s3.abs.heap&&gensDone s3.abs&&laidKept s2.abs.heap s3.abs.heap)=true):openEnds treeTable p w N=some s3.abs:=by
 unfold Az at h;rw [<-TD,<-G7] at h;refine aG h λs1 e1 h=>aG h λt2 e2 h=>b8 h λe3 h=>aG h λt3 e4 h=>?_;refine aT (Prod.mk.inj (ax h)) λa2 a3=>?_;subst a2 a3;have i2:fenceModules? p s1.abs=some t2.abs:=by
  unfold fenceModules?;rw [hm,hn];show ((fenceModule? m s1.abs).bind (fenceAll? [])).bind _=_;rw [TM e2]
  rfl
 have i3:=TJ e4;rw [show t2.n=t2.abs.heap.objs.size from (absHeap_size _ _ _).symm] at i3;have i1:=TL e1;rw [TN] at i1;refine (ae (λo=>(o.bind (fenceModules? p)).bind (topFrom treeTable p w N)) i1).trans ((ae (λo=>o.bind (topFrom treeTable p w N)) i2).trans ?_);show topFrom treeTable p w N t2.abs=_;unfold topFrom;rw [show (t2.abs.heap.isNs mainGlobals&&t2.abs.gens.size==0)=true from e3];dsimp only;rw [i3];show (match staticsOk (importedModules p.main.body) t2.abs.heap t3.abs.heap&&namesBound p t3.abs.heap&&gensDone t3.abs&&laidKept t2.abs.heap t3.abs.heap with|true=>some t3.abs|false=>none)=_;rw [hl]
noncomputable def wx:List (aa×Nat×Nat×Nat):=[([33],54,453,449),([33,61],28,455,397),([37],24,457,389),([37,61],40,459,421),([38],19,461,379),([38,61],41,463,423),([40],7,465,355),([41],8,467,357),([42],16,469,373),([42,42],35,471,411),([42,42,61],46,473,433),([42,61],38,475,417),([43],14,477,369),([43,61],36,479,413),([44],12,481,365),([45],15,483,371),([45,61],37,485,415),([45,62],51,487,443),([46],23,489,387),([46,46,46],52,491,445),([47],17,493,375),([47,47],47,495,435),([47,47,61],48,497,437),([47,61],39,499,419),([58],11,501,363),([58,61],53,503,447),([59],13,505,367),([60],20,507,381),([60,60],33,509,407),([60,60,61],44,511,429),([60,61],29,513,399),([61],22,515,385),([61,61],27,517,395),([62],21,519,383),([62,61],30,521,401),([62,62],34,522,409),([62,62,61],45,523,431),([64],49,524,439),([64,61],50,525,441),([91],9,526,359),([93],10,527,361),([94],32,528,405),([94,61],43,529,427),([123],25,530,391),([124],18,531,377),([124,61],42,532,425),([125],26,533,393),([126],31,534,403)]
noncomputable def ni:List (aa×ab):=wx.map λx=>(x.1,.int x.2.1)
def qP:Nat->Option PV
 |0=>some (.d (.str [13,10]))
 |1=>some (.d (.dict ni))
 |2=>some (.d (.int 256))
 |3=>some (.d (.int 0))
 |4=>some (.pat 0)
 |5=>some (.pat 1)
 |6=>some (.pat 2)
 |7=>some (.pat 3)
 |_=>none
section
theorem AA:∀(x acc rest:aa),(∀d∈x,d≠c)->cZ (c::t) acc (x++rest) 0=cZ (c::t) (x.reverse++acc) rest 0
 |[],_,_,_=>rfl
 |d::x,acc,rest,h=>by
  have hd:=eU.mpr λq=>h d (.head _) q.symm;show (if (c::t).isPrefixOf (d::(x++rest))=true then _ else cZ (c::t) (d::acc) (x++rest) 0)=_;rw [if_neg (by simp [List.isPrefixOf,hd]),AA x (d::acc) rest λe he=>h e (.tail _ he),reverse_cons,append_assoc]
  rfl
theorem Ha(aA:aa):∀(x acc rest:aa),cZ aA acc (x++rest) x.length=cZ aA acc rest 0
 |[],_,_=>rfl
 |_::x,acc,rest=>Ha aA x acc rest
def TP(acc rest:aa):cZ (c::t) acc ((c::t)++rest) 0=acc.reverse::cZ (c::t) [] rest 0:=by
 show (if (c::t).isPrefixOf (c::(t++rest))=true then acc.reverse::cZ (c::t) [] (t++rest) ((c::t).length - 1) else _)=_;rw [if_pos (by rw [List.isPrefixOf_iff_prefix];exact ⟨rest,rfl⟩)];exact ae _ (Ha _ t [] rest)
def iJ(aA a b:aa)(l:List aa):bZ aA (a::b::l)=a++(aA++bZ aA (b::l)):=by rw [<-append_assoc];rfl
theorem tH:∀(l:List aa),l≠[]->(∀x∈l,∀d∈x,d≠c)->cZ (c::t) [] (bZ (c::t) l) 0=l
 |[x],_,h=>by
  have:=AA (t:=t) x [] [] (h x (.head _));rw [append_nil,append_nil] at this;show cZ (c::t) [] x 0=[x];rw [this];show [x.reverse.reverse]=_;rw [reverse_reverse]
 |a::b::l,_,h=>by
  rw [iJ,AA a [] _ (h a (.head _)),TP,tH (b::l) (by simp) λx hx=>h x (.tail _ hx),append_nil,reverse_reverse]
end
def Hb(H:l≠[])(I:l'≠[])(h3:∀x∈l,∀d∈x,d≠c)(h4:∀x∈l',∀d∈x,d≠c)(e:bZ (c::t) l=bZ (c::t) l'):l=l':=by
 rw [<-tH l H h3,e,tH l' I h4]
def TQ(hs:s≠d)(t:aa):∀(l:List aa),(∀x∈l,∀e∈x,e≠d)->(bZ (s::t) l).head?≠some d
 |[],_=>λq=>av q
 |[[]],_=>λq=>av q
 |[e::x],h=>λq=>h _ (.head _) e (.head _) (ax q)
 |[]::b::l,_=>by rw [iJ];exact λq=>hs (ax q)
 |(e::x)::b::l,h=>by rw [iJ];exact λq=>h _ (.head _) e (.head _) (ax q)
theorem AB(he:e=[10]\/e=[13]\/e=[13,10]):∀(l:List aa),(∀x∈l,lK x)->dC (bZ e l)=bZ [13,10] l
 |[],_=>rfl
 |[x],h=>(ae dC (append_nil x).symm).trans ((r6 x [] (h x (.head _))).trans (append_nil x))
 |a::b::l,h=>by
  have ih:=ae (λr=>13::10::r) (AB he (b::l) λx hx=>h x (.tail _ hx));rw [iJ,iJ,r6 a _ (h a (.head _))];refine ae (a++·) ?_;rcases he with rfl|rfl|rfl
  ·exact (yh _).trans ih
  ·exact (De (TQ (by decide) [] _ λx hx d hd=>(h x (.tail _ hx) d hd).2)).trans ih
  ·exact (Dg _).trans ih
noncomputable def dt (x:aa):aa:=if x.head?=some 46 then 46::x else x
def Hc{d:Nat}{x:aa}(e:d≠46):dt (d::x)=d::x:=bK λq=>e (ax q)
theorem Hd:∀(x rest:aa),(∀d∈x,d≠10)->eJ false (x++rest)=x++eJ false rest
 |[],_,_=>rfl
 |d::x,rest,h=>by
  have H:=eU.mpr (h d (.head _));show d::eJ (d==10) (x++rest)=_;rw [H,Hd x rest λe he=>h e (.tail _ he)]
  rfl
def TR(r:aa):Prop:=∀b,eJ b r=eJ false r
def He(x:aa)(hb:TR rest)(h:∀d∈x,d≠10):eJ true (x++rest)=dt x++eJ false rest:=by
 match x with
 |[]=>exact hb true
 |d::x=>
  have H:=eU.mpr (h d (.head _));have I:=Hd x rest λe he=>h e (.tail _ he);by_cases e:d=46
  ·subst e
   show 46::46::eJ false (x++rest)=46::46::(x++eJ false rest);rw [I]
  ·have e1:=eU.mpr e
   rw [Hc e];show (if (true&&d==46)=true then _ else d::eJ (d==10) (x++rest))=_;rw [e1,H,if_neg (by decide),I]
   rfl
theorem Hf:∀(l:List aa),(∀x∈l,lK x)->eJ true (bZ [13,10] l)=bZ [13,10] (l.map dt)
 |[],_=>rfl
 |[x],h=>by
  have:=He x (rest:=[]) (λZ=>rfl) λd hd=>(h x (.head _) d hd).2;rw [append_nil] at this;exact this.trans (append_nil _)
 |a::b::l,h=>by
  have ih:=Hf (b::l) λx hx=>h x (.tail _ hx);rw [iJ,He a (λb=>by cases b<;>rfl) λd hd=>(h a (.head _) d hd).2];show dt a++13::10::eJ true (bZ [13,10] (b::l))=_;rw [ih];show _=bZ [13,10] (dt a::dt b::l.map dt);rw [iJ]
  rfl
def eF(x:aa):Bool:=(dget ni x).isSome
def dV(x:aa):Nat:=max (max 1 (if eF (x.take 2) then 2 else 1)) (if eF (x.take 3) then 3 else 1)
def nj(x:aa):ab:=(dget ni (x.take (dV x))).getD (.int (256+d5 (x.take (dV x)) [83,65,66] 0))
inductive Rd:aa->aa->Prop
 |nil:Rd [] []
 |cons {x l:aa}{s:Nat}:x≠[]->nj x=.int s->Rd ((x.drop (dV x)).dropWhile fE) l->Rd x (s::l)
def Rd.uniq(h:Rd x l)(h':Rd x l'):l=l':=by
 induction h generalizing l' with
 |nil=>cases h' with
  |nil=>rfl
  |cons a b c=>exact aj rfl a
 |cons a b _ ih=>cases h' with
  |nil=>exact aj rfl a
  |cons a' b' c'=>
   have:=b.symm.trans b'
   injection this with this
   rw [ih c',ofNat_inj.mp this]
noncomputable def bG (c:Nat):aa:=if c=256 then [83] else if c=257 then [65] else if c=258 then [66] else ((wx.find? λx=>x.2.1==c).map (·.1)).getD []
noncomputable def codes:aa:=(List.range 48).map (·+7)++[256,257,258]
def Hg(c:Nat):Bool:=
 let t:=bG c
 decide (0<t.length/\t.length<=3)&&t.all (λd=>decide (32<d/\d<127)&& !decide (97<=d/\d<=122)&& !(d==95))&&
 (max (max 1 (if 2<=t.length&&eF (t.take 2) then 2 else 1)) (if 3<=t.length&&eF (t.take 3) then 3 else 1)==t.length)&&
 (match (dget ni t).getD (.int (256+d5 t [83,65,66] 0)) with|.int s=>s==c|_=>false)&&
 (match (dget ni (t.take (dV t))).getD (.int (256+d5 (t.take (dV t)) [83,65,66] 0)) with|.int s=>s==c|_=>false)&&(t.drop (dV t)).isEmpty
def TS:codes.all Hg=true:=by decide+kernel
def TT(h:32∈x):eF x=false:=by
 have hk:ni.all (λp=> !p.1.contains 32)=true:=by decide+kernel
 unfold eF dget;rw [find?_eq_none.mpr λp hp q=>?_]
 ·rfl
 ·have:=dA.mp hk p hp
  rw [beq_iff_eq.mp q] at this;simp [h] at this
structure AC(c:Nat):Prop where
 len:0<(bG c).length/\(bG c).length<=3
 chars:∀d∈bG c,(32<d/\d<127)/\¬(97<=d/\d<=122)/\d≠95
 sz:max (max 1 (if 2<=(bG c).length&&eF ((bG c).take 2) then 2 else 1)) (if 3<=(bG c).length&&eF ((bG c).take 3) then 3 else 1)=(bG c).length
 sym:(dget ni (bG c)).getD (.int (256+d5 (bG c) [83,65,66] 0))=.int c
 sym':nj (bG c)=.int c
 dr:(bG c).drop (dV (bG c))=[]
def Hh{d:ab}(h:(match d with|.int s=>s==(c:Int)|_=>false)=true):d=.int c:=by
 cases d with
 |int s=>rw [beq_iff_eq.mp h]
 |_=>exact aj h cx
def j7(h:c∈codes):AC c:=by
 have:=dA.mp TS c h;unfold Hg at this;refine aT (f9.mp this) λthis h6=>?_;refine aT (f9.mp this) λthis h5=>?_;refine aT (f9.mp this) λthis h4=>?_;refine aT (f9.mp this) λthis h3=>?_;refine aT (f9.mp this) λH I=>?_;refine ⟨cm H,λd hd=>?_,bB.mp h3,Hh h4,Hh h5,List.isEmpty_iff.mp h6⟩;have:=dA.mp I d hd;simp only [and_eq_true,not_eq_true',decide_eq_true_eq,decide_eq_false_iff_not,eU] at this;exact ⟨this.1.1,this.1.2,this.2⟩
def TU(h:t.length<k):32∈(t++32::r).take k:=by
 rw [List.take_append,mem_append];refine .inr ?_;rw [show k - t.length=(k - t.length - 1)+1 by lia,List.take_succ_cons];exact .head _
def Hi(h:AC c)(r:aa):dV (bG c++32::r)=(bG c).length:=by
 have q:∀k,eF ((bG c++32::r).take k)=(decide (k<=(bG c).length)&&eF ((bG c).take k)):=by
  intro k;by_cases hk:k<=(bG c).length
  ·rw [List.take_append_of_le_length hk,decide_eq_true hk];rfl
  ·rw [TT (TU (lt_of_not_le hk)),decide_eq_false hk];rfl
 unfold dV;rw [q,q];exact h.sz
def AD(h:AC c)(r:aa):(bG c++r).dropWhile fE=bG c++r:=by
 obtain ⟨d,t,e⟩:∃d t,bG c=d::t:=List.exists_cons_of_ne_nil (λq=>by have:=h.len.1;rw [q] at this;exact aj this (by decide));have:=(h.chars d (e▸.head _)).1.1;rw [e];show (match fE d with|true=>_|false=>d::(t++r))=_;rw [show fE d=false from beq_eq_false_iff_ne.mpr ((Nat.ne_of_gt this))]
 rfl
def bC(r:aa):aa:=bZ [32] (r.map bG)
theorem qQ:∀{r:aa},(∀c∈r,c∈codes)->Rd (bC r) r
 |[],_=>.nil
 |[c],h=>by
  have k:=j7 (h c (.head _));refine .cons (λq=>?_) k.sym' ?_
  ·have:=k.len.1;rw [show bG c=[] from q] at this;exact aj this (by decide)
  ·show Rd (((bG c).drop (dV (bG c))).dropWhile fE) []
   rw [k.dr];exact .nil
 |c::d::r,h=>by
  have k:=j7 (h c (.head _));have k2:=j7 (h d (.tail _ (.head _)));have ih:=qQ λx hx=>h x (.tail _ hx);have e:bC (c::d::r)=bG c++32::bC (d::r):=iJ [32] (bG c) (bG d) (r.map bG);rw [e];refine .cons (by simp) ?_ ?_
  ·unfold nj
   rw [Hi k,take_left];exact k.sym
  ·rw [Hi k,drop_left]
   show Rd ((bC (d::r)).dropWhile fE) _;have e2:∃z,bC (d::r)=bG d++z:=by
    cases r with
    |nil=>exact ⟨[],(append_nil _).symm⟩
    |cons f r=>exact ⟨32::bC (f::r),iJ [32] (bG d) (bG f) (r.map bG)⟩
   obtain ⟨z,e2⟩:=e2;rw [e2,AD k2,<-e2];exact ih
noncomputable abbrev bk:=Nat×aa
noncomputable abbrev It:=Nat×aa×Nat
def nm(l:Nat):aa:=if l=23 then [] else bG l
def aM(i:It):aa:=List.replicate (i.2.2+1) 46++(nm i.1++58::32::bC i.2.1)
noncomputable def nx (i:It):Nat:=i.2.1.getD i.2.2 0
noncomputable def adv (i:It):It:=(i.1,i.2.1,i.2.2+1)
structure hU(r:bk):Prop where
 left:r.1=256\/r.1=257\/r.1=258
 len:0<r.2.length/\r.2.length<=3
 sym:∀c∈r.2,c∈codes
 lone:∀y,r.2=[y]->y<256
def hU.big(h:hU r):256<=r.1:=h.left.elim (λe=>af (by decide) (cr e.symm)) λh=>h.elim (λe=>af (by decide) (cr e.symm)) λe=>af (by decide) (cr e.symm)
inductive ct:It->Prop
 |st {k:Nat}:k<=1->ct (23,[256],k)
 |it {l:Nat}{r:aa}{k:Nat}:hU (l,r)->k<=r.length->ct (l,r,k)
def Rd.step{s:Nat}(h:x≠[])(H:nj x=.int s)(I:(x.drop (dV x)).dropWhile fE=y)(h3:Rd y l):Rd x (s::l):=.cons h H (I▸h3)
noncomputable def wy:Nat->aa
 |0=>[23]
 |1=>[23,23]
 |2=>[52]
 |_=>[52,23]
noncomputable def AE (l:Nat):aa:=if l=23 then [] else [l]
def toks(i:It):aa:=wy i.2.2++(AE i.1++11::i.2.1)
def Hj:∀{r:aa},(∀c∈r,c∈codes)->(bC r).dropWhile fE=bC r
 |[],_=>rfl
 |[c],h=>by
  have:=AD (j7 (h c (.head _))) [];rwa [append_nil] at this
 |c::d::r,h=>by
  rw [show bC (c::d::r)=bG c++32::bC (d::r) from iJ [32] (bG c) (bG d) (r.map bG)];exact AD (j7 (h c (.head _))) _
section
variable(hs:s.dropWhile fE=s)(h:Rd s L)
include hs h
def Hk:Rd (58::32::s) (11::L):=by
 have e1:dV (58::32::s)=1:=by kernel_rfl
 refine .step (by simp) (by kernel_rfl) ?_ h;rw [e1];exact hs
def Hl(hl:l=256\/l=257\/l=258):Rd (nm l++58::32::s) (l::11::L):=by
 rcases hl with rfl|rfl|rfl<;>exact .step (by simp [nm,bG]) (by kernel_rfl) (by kernel_rfl) (Hk hs h)
def TV(hl:l=256\/l=257\/l=258)(hk:k<=3):Rd (List.replicate (k+1) 46++(nm l++58::32::s)) (wy k++l::11::L):=by
 have r0:Rd (46::(nm l++58::32::s)) (23::l::11::L):=by
  rcases hl with rfl|rfl|rfl<;>exact .step (by simp) (by kernel_rfl) (by kernel_rfl) (Hl hs h (by decide))
 match k,hk with
 |0,_=>exact r0
 |1,_=>
  refine .step (by simp) ?_ ?_ r0
  ·rcases hl with rfl|rfl|rfl<;>kernel_rfl
  ·rcases hl with rfl|rfl|rfl<;>kernel_rfl
 |2,_=>
  refine .step (by simp) ?_ ?_ (Hl hs h hl)
  ·kernel_rfl
  ·rcases hl with rfl|rfl|rfl<;>kernel_rfl
 |3,_=>
  refine .step (by simp) ?_ ?_ r0
  ·kernel_rfl
  ·rcases hl with rfl|rfl|rfl<;>kernel_rfl
def TX(hk:k<=1):Rd (List.replicate (k+1) 46++58::32::s) (wy k++11::L):=by
 have r0:Rd (46::58::32::s) (23::11::L):=.step (by simp) (by kernel_rfl) (by kernel_rfl) (Hk hs h)
 match k,hk with
 |0,_=>exact r0
 |1,_=>exact .step (by simp) (by kernel_rfl) (by kernel_rfl) r0
end
def AF:∀c∈[256],c∈codes:=by decide
def AG(h:ct i):Rd (aM i) (toks i):=by
 cases h with
 |st hk=>exact TX (Hj AF) (qQ AF) hk
 |it hr hk=>
  have e:AE _=[_]:=bK (λq=>by rcases hr.left with h|h|h<;>exact aj (h.symm.trans q) (by decide));unfold toks;rw [e];exact TV (Hj hr.sym) (qQ hr.sym) hr.left (af hk hr.len.2)
noncomputable def wz:Nat->aa->It
 |k,23::t=>wz (k+1) t
 |k,52::t=>wz (k+3) t
 |k,11::r=>(23,r,k - 1)
 |k,l::11::r=>(l,r,k - 1)
 |_,_=>(0,[],0)
def Hm(h:ct i):wz 0 (toks i)=i:=by
 cases h with
 | @st k hk=>match k,hk with
  |0,_=>rfl
  |1,_=>rfl
 | @it l r k hr hk=>
  have:=af hk hr.len.2;have hl:=hr.left;exact mv (P:=λk=>wz 0 (toks (l,r,k))=(l,r,k)) (by rcases hl with rfl|rfl|rfl<;>rfl) (by rcases hl with rfl|rfl|rfl<;>rfl) (by rcases hl with rfl|rfl|rfl<;>rfl) (by rcases hl with rfl|rfl|rfl<;>rfl) (lt_succ_of_le this)
def tI(h:ct i)(h':ct j)(e:aM i=aM j):i=j:=by
 have:=(e▸AG h).uniq (AG h');rw [<-Hm h,this,Hm h']
def o3(d:Nat):Prop:=(32<=d/\d<127)/\¬(97<=d/\d<=122)/\d≠95
theorem tJ:∀{r:aa},(∀c∈r,c∈codes)->∀d∈bC r,o3 d
 |[],_,_,h=>aj h cp
 |[c],h,d,hd=>by
  have:=(j7 (h c (.head _))).chars d hd;exact ⟨⟨Nat.le_of_lt this.1.1,this.1.2⟩,this.2⟩
 |c::e::r,h,d,hd=>by
  rw [show bC (c::e::r)=bG c++32::bC (e::r) from iJ [32] (bG c) (bG e) (r.map bG)] at hd;rcases bD.mp hd with hd|hd
  ·have:=(j7 (h c (.head _))).chars d hd
   exact ⟨⟨Nat.le_of_lt this.1.1,this.1.2⟩,this.2⟩
  ·rcases bA.mp hd with rfl|hd
   ·exact ⟨by decide,by decide,by decide⟩
   ·exact tJ (λx hx=>h x (.tail _ hx)) d hd
def tK(h:l=23\/l=256\/l=257\/l=258):∀d∈nm l,o3 d:=by
 rcases h with rfl|rfl|rfl|rfl
 ·intro d hd;exact aj hd cp
 all_goals
  intro d hd;have:d=_:=cC.mp hd;rw [this];exact ⟨by decide,by decide,by decide⟩
theorem ct.left(h:ct i):i.1=23\/i.1=256\/i.1=257\/i.1=258:=by
 cases h with
 |st=>exact .inl rfl
 |it hr=>exact .inr hr.left
def ct.syms(h:ct i):∀c∈i.2.1,c∈codes:=by
 cases h with
 |st=>exact AF
 |it hr=>exact hr.sym
def wA(h:ct i):∀d∈aM i,o3 d:=by
 intro d hd;rcases bD.mp hd with hd|hd
 ·rw [List.eq_of_mem_replicate hd];exact ⟨by decide,by decide,by decide⟩
 ·rcases bD.mp hd with hd|hd
  ·exact tK h.left d hd
  ·rcases bA.mp hd with rfl|hd
   ·exact ⟨by decide,by decide,by decide⟩
   ·rcases bA.mp hd with rfl|hd
    ·exact ⟨by decide,by decide,by decide⟩
    ·exact tJ h.syms d hd
theorem o5:∀{r:aa},(∀c∈r,c∈codes)->(bC r).length<=4*r.length
 |[],_=>aD _
 |[c],h=>by have:=(j7 (h c (.head _))).len.2;exact (af this (by decide:3<=4))
 |c::e::r,h=>by
  have:=(j7 (h c (.head _))).len.2;have ih:=o5 λx hx=>h x (.tail _ hx);rw [show bC (c::e::r)=bG c++32::bC (e::r) from iJ [32] (bG c) (bG e) (r.map bG),length_append,length_cons];simp only [length_cons] at ih⊢;lia
section
variable(B:List bk)
noncomputable def cz (X:Nat):List It:=(B.filter (·.1==X)).map λr=>(r.1,r.2,0)
noncomputable def cl:Nat->aa->List It->List It
 |0,_,l=>l
 |_+1,_,[]=>[]
 |n+1,seen,it::r=>it::(if 256<=nx it/\nx it∉seen then cl n (nx it::seen) (r++cz B (nx it)) else cl n seen r)
noncomputable def mu (seen:aa) (l:List It):Nat:=l.length+(B.filter λr=> !seen.contains r.1).length
noncomputable def cU (K:List It):List It:=cl B (K.length+B.length) [] K
def jq(a b:It):Bool:=pY (aM a) (aM b)
def go(x:Nat)(K:List It):List It:=(((cU B K).filter (nx ·==x)).map adv).mergeSort jq
def AH:aa->List It
 |[]=>[(23,[256],0)]
 |x::q=>go B x (AH q)
def aL(P:aa):List It:=AH B P.reverse
def W(P:aa):aa:=((cU B (aL B P)).map nx).filter (· !=0)
end
structure aH(B:List bk):Prop where
 ok:∀r∈B,hU r
 nd:B.Nodup
 len:B.length<=5
section
def lX(Q:aa)(x:Nat):aL B (Q++[x])=go B x (aL B Q):=by
 unfold aL;rw [List.reverse_append]
 rfl
def hV:i∈cz B X↔(i.1,i.2.1)∈B/\i.1=X/\i.2.2=0:=by
 unfold cz;rw [List.mem_map];constructor
 ·rintro ⟨r,hr,rfl⟩
  refine aT (mem_filter.mp hr) λH I=>?_;exact ⟨H,bB.mp I,rfl⟩
 ·rintro ⟨H,I,h3⟩
  exact ⟨(i.1,i.2.1),mem_filter.mpr ⟨H,bB.mpr I⟩,by rw [<-h3]⟩
theorem Hn{seen:aa}(h:X∉seen):∀B:List bk,(B.filter λr=> !seen.contains r.1).length=(cz B X).length+(B.filter λr=> !(X::seen).contains r.1).length
 |[]=>rfl
 |r::B=>by
  have ih:=Hn h B;unfold cz at ih⊢;rw [length_map] at ih⊢;by_cases e:r.1=X
  ·have H:seen.contains r.1=false:=by rw [e];exact eq_false_iff.mpr λq=>h (List.contains_iff_mem.mp q)
   have I:(X::seen).contains r.1=true:=by rw [e];exact List.contains_iff_mem.mpr (.head _)
   rw [filter_cons_of_pos (by rw [H];rfl),filter_cons_of_pos (by rw [e];exact beq_self_eq_true X),filter_cons_of_neg (by rw [I];decide),length_cons,length_cons,ih];exact (add_right_comm _ _ _)
  ·have I:(X::seen).contains r.1=seen.contains r.1:=by
    rw [List.contains_cons,beq_eq_false_iff_ne.mpr e];rfl
   rw [filter_cons_of_neg (p:=λr:bk=>r.1==X) (by simp [e])];cases H:seen.contains r.1 with
   |true=>rw [filter_cons_of_neg (by rw [H];decide),filter_cons_of_neg (by rw [I,H];decide),ih]
   |false=>rw [filter_cons_of_pos (by rw [H];rfl),filter_cons_of_pos (by rw [I,H];rfl),length_cons,length_cons,ih];exact (rfl)
def np{seen:aa}(h:mu B seen (i::r)<=n+1)(hx:nx i∉seen):mu B (nx i::seen) (r++cz B (nx i))<=n:=by
 unfold mu at h⊢;rw [Hn hx,length_cons] at h;rw [length_append];lia
def nq{seen:aa}(h:mu B seen (i::r)<=n+1):mu B seen r<=n:=by
 unfold mu at h⊢;rw [length_cons] at h;lia
def lY{n:Nat}{seen:aa}{j:It}{r:List It}:cl B (n+1) seen (j::r)=j::(if 256<=nx j/\nx j∉seen then cl B n (nx j::seen) (r++cz B (nx j)) else cl B n seen r):=rfl
def Ho:∀{seen:aa}{l:List It},mu B seen l<=n->∀i∈l,i∈cl B n seen l:=by
 induction n with
 |zero=>intro seen l h i hi;exact hi
 |succ n ih=>
  intro seen l h i hi
  match l,hi with
  |j::r,hi=>
   rw [lY];rcases bA.mp hi with rfl|hi
   ·exact .head _
   ·refine .tail _ ?_
    by_cases c:256<=nx j/\nx j∉seen
    ·rw [if_pos c];exact ih (np h c.2) i (cE _ hi)
    ·rw [if_neg c];exact ih (nq h) i hi
def AI{seen:aa}(h:mu B seen l<=0):l=[]:=by
 match l,h with
 |[],_=>rfl
 |i::r,h=>unfold mu at h;rw [length_cons] at h;lia
def TY:∀{seen:aa}{l:List It},mu B seen l<=n->∀i∈cl B n seen l,256<=nx i->nx i∉seen->∀j∈cz B (nx i),j∈cl B n seen l:=by
 induction n with
 |zero=>intro seen l h i hi;rw [AI h] at hi;exact aj hi cp
 |succ n ih=>
  intro seen l h i hi hx hs j hj
  match l,hi with
  |k::r,hi=>
   rw [lY] at hi⊢;refine .tail _ ?_;by_cases c:256<=nx k/\nx k∉seen
   ·rw [if_pos c] at hi⊢
    by_cases e:nx i=nx k
    ·exact Ho (np h c.2) j (cj _ (e▸hj))
    ·rcases bA.mp hi with q|hi
     ·exact aj (ae nx q) e
     ·exact ih (np h c.2) i hi hx (λq=>(bA.mp q).elim e hs) j hj
   ·rw [if_neg c] at hi⊢
    rcases bA.mp hi with q|hi
    ·exact aj (q▸⟨hx,hs⟩) c
    ·exact ih (nq h) i hi hx hs j hj
  |[],hi=>exact aj hi cp
def AJ:∀{seen:aa}{l:List It},mu B seen l<=n->∀i∈cl B n seen l,i∈l\/∃X,256<=X/\X∉seen/\i∈cz B X/\∃j∈cl B n seen l,nx j=X:=by
 induction n with
 |zero=>intro seen l h i hi;exact .inl hi
 |succ n ih=>
  intro seen l h i hi
  match l,hi with
  |k::r,hi=>
   rw [lY] at hi⊢;rcases bA.mp hi with q|hi
   ·exact .inl (q▸.head _)
   ·by_cases c:256<=nx k/\nx k∉seen
    ·rw [if_pos c] at hi⊢
     rcases ih (np h c.2) i hi with q|⟨X,H,I,h3,j,h4,h5⟩
     ·rcases bD.mp q with q|q
      ·exact .inl (.tail _ q)
      ·exact .inr ⟨nx k,c.1,c.2,q,k,.head _,rfl⟩
     ·exact .inr ⟨X,H,λq=>I (.tail _ q),h3,j,.tail _ h4,h5⟩
    ·rw [if_neg c] at hi⊢
     rcases ih (nq h) i hi with q|⟨X,H,I,h3,j,h4,h5⟩
     ·exact .inl (.tail _ q)
     ·exact .inr ⟨X,H,I,h3,j,.tail _ h4,h5⟩
  |[],hi=>exact aj hi cp
def TZ(G:aH B)(X:Nat):(cz B X).Nodup:=by
 rw [nodup_iff_pairwise_ne];refine pairwise_map.mpr ?_;refine List.Pairwise.imp ?_ (nodup_iff_pairwise_ne.mp (G.nd.filter _));intro a b h q;exact h (Prod.ext (ae (·.1) q) (ae (·.2.1) q))
def T0(G:aH B):∀{seen:aa}{l:List It},mu B seen l<=n->l.Nodup->(∀i∈l,∀X,X∉seen->i∉cz B X)->(cl B n seen l).Nodup:=by
 induction n with
 |zero=>intro seen l h hn _;exact hn
 |succ n ih=>
  intro seen l h hn hd
  match l,hn,hd with
  |[],_,_=>exact nodup_nil
  |k::r,hn,hd=>
   refine aT (eS.mp hn) λn1 n2=>?_;rw [lY];by_cases c:256<=nx k/\nx k∉seen
   ·rw [if_pos c]
    refine eS.mpr ⟨λq=>?_,ih (np h c.2) ?_ ?_⟩
    ·rcases AJ (np h c.2) k q with q|⟨X,H,I,h3,_⟩
     ·rcases bD.mp q with q|q
      ·exact n1 q
      ·exact hd k (.head _) _ c.2 q
     ·exact hd k (.head _) X (λq=>I (.tail _ q)) h3
    ·refine nodup_append.mpr ⟨n2,TZ G _,λa ha b hb e=>?_⟩
     subst e;exact hd a (.tail _ ha) _ c.2 hb
    ·intro i hi X hX q
     rcases bD.mp hi with hi|hi
     ·exact hd i (.tail _ hi) X (λz=>hX (.tail _ z)) q
     ·exact hX (((hV.mp hi).2.1.symm.trans (hV.mp q).2.1)▸.head _)
   ·rw [if_neg c]
    refine eS.mpr ⟨λq=>?_,ih (nq h) n2 λi hi=>hd i (.tail _ hi)⟩;rcases AJ (nq h) k q with q|⟨X,H,I,h3,_⟩
    ·exact n1 q
    ·exact hd k (.head _) X I h3
def qR(K:List It):mu B [] K<=K.length+B.length:=dc (length_filter_le _ _) _
def qS{K:List It}(h:i∈K):i∈cU B K:=Ho (qR K) i h
def Hp{K:List It}(h:i∈cU B K)(hx:256<=nx i)(hj:j∈cz B (nx i)):j∈cU B K:=TY (qR K) i h hx (λq=>aj q cp) j hj
def nr{K:List It}(h:i∈cU B K):i∈K\/∃X,256<=X/\i∈cz B X/\∃j∈cU B K,nx j=X:=(AJ (qR K) i h).imp_right λ⟨X,a,_,b⟩=>⟨X,a,b⟩
structure jI(K:List It):Prop where
 ok:∀i∈K,ct i
 nd:K.Nodup
 k:∀i∈K,i.1=23\/0<i.2.2
def qT(G:aH B)(h:i∈cz B X):ct i/\i.1≠23/\i.2.2=0:=by
 refine fC (hV.mp h) λH I h3=>?_;have:=G.ok _ H;refine ⟨?_,λq=>?_,h3⟩
 ·have:=ct.it (k:=i.2.2) this (by rw [h3];exact bN _)
  exact this
 ·rcases this.left with h|h|h<;>exact aj (h.symm.trans q) (by decide)
def jr(G:aH B){K:List It}(h:jI K):(∀i∈cU B K,ct i)/\(cU B K).Nodup:=by
 refine ⟨λi hi=>?_,T0 G (qR K) h.nd λi hi X Z q=>?_⟩
 ·rcases nr hi with q|⟨X,_,q,_⟩
  ·exact h.ok i q
  ·exact (qT G q).1
 ·refine fC (qT G q) λZ H I=>?_
  rcases h.k i hi with a|a
  ·exact H a
  ·rw [I] at a;exact aj a (by decide)
def qU(h:nx i≠0):i.2.2<i.2.1.length/\i.2.1[i.2.2]?=some (nx i):=by
 unfold nx at h⊢;rw [getD_eq_getElem?_getD] at h⊢;cases e:i.2.1[i.2.2]? with
 |none=>rw [e] at h;exact aj rfl h
 |some y=>exact ⟨(fB.mp e).1,rfl⟩
def T4(h:ct i)(hx:nx i≠0):ct (adv i):=by
 have:=(qU hx).1;cases h with
 |st hk=>exact .st this
 |it hr hk=>exact .it hr this
def lZ{K:List It}:i∈go B x K↔∃j∈cU B K,nx j=x/\i=adv j:=by
 unfold go;rw [List.mem_mergeSort,List.mem_map];constructor
 ·rintro ⟨j,hj,rfl⟩
  refine aT (mem_filter.mp hj) λa b=>?_;exact ⟨j,a,bB.mp b,rfl⟩
 ·rintro ⟨j,a,b,rfl⟩
  exact ⟨j,mem_filter.mpr ⟨a,bB.mpr b⟩,rfl⟩
def Hq(h:adv i=adv j):i=j:=by
 obtain ⟨a,b,c⟩:=i;obtain ⟨a',b',c'⟩:=j;simp only [adv,Prod.mk.injEq,Nat.add_right_cancel_iff] at h;obtain ⟨rfl,rfl,rfl⟩:=h
 rfl
def Hr(G:aH B)(hx:x≠0){K:List It}(h:jI K):jI (go B x K) where
 ok i hi:=by
  obtain ⟨j,a,b,rfl⟩:=lZ.mp hi;exact T4 ((jr G h).1 j a) (b▸hx)
 nd:=by
  refine (List.mergeSort_perm _ _).nodup_iff.mpr ?_;rw [nodup_iff_pairwise_ne];refine pairwise_map.mpr ?_;exact List.Pairwise.imp (λh q=>h (Hq q)) (nodup_iff_pairwise_ne.mp ((jr G h).2.filter _))
 k i hi:=by
  obtain ⟨j,a,b,rfl⟩:=lZ.mp hi;exact .inr (succ_pos _)
def d9(P:aa):Prop:=∀x∈P,x≠0
theorem Hs(G:aH B):∀(q:aa),d9 q->jI (AH B q)
 |[],_=>⟨λi hi=>by cases cC.mp hi;exact .st (by decide),eS.mpr ⟨(λq=>aj q cp),nodup_nil⟩,λi hi=>by cases cC.mp hi;exact .inl rfl⟩
 |x::q,h=>Hr G (h x (.head _)) (Hs G q λy hy=>h y (.tail _ hy))
def jK(G:aH B)(h:d9 P):jI (aL B P):=Hs G _ λx hx=>h x (mem_reverse.mp hx)
def o6:x∈W B P↔x≠0/\∃i∈cU B (aL B P),nx i=x:=by
 unfold W;rw [mem_filter,List.mem_map];exact ⟨λ⟨⟨i,a,b⟩,c⟩=>⟨by simpa using c,i,a,b⟩,λ⟨c,i,a,b⟩=>⟨⟨i,a,b⟩,by simpa using c⟩⟩
def wB(hx:x≠0):aL B (Q++[x])≠[]↔x∈W B Q:=by
 rw [lX,o6];refine ⟨λh=>(List.exists_mem_of_ne_nil _ h).elim λi hi=>d4 (lZ.mp hi) λj a b Z=>⟨hx,j,a,b⟩,λh e=>h.2.elim λj z=>?_⟩;have:=lZ.mpr ⟨j,z.1,z.2,rfl⟩;rw [e] at this;exact aj this cp
def AK{C:aa->Prop}(h0:C [])(H:∀Q x,C (Q++[x]))(P:aa):C P:=(List.eq_nil_or_concat P).elim (λe=>e▸h0) λz=>nV z λQ x e=>(e.trans List.concat_eq_append)▸H Q x
def wC{r Q P:aa}:(P++[x]=Q++r.take (k+1)/\k<r.length)↔(P=Q++r.take k/\r[k]?=some x):=by
 by_cases hk:k<r.length
 ·rw [List.take_add_one,getElem?_eq_getElem hk,<-append_assoc]
  exact ⟨λh=>aT (append_inj' h.1 rfl) λe1 e3=>⟨e1,ae some (head_eq_of_cons_eq e3).symm⟩,λh=>⟨by rw [h.1,Option.some.inj h.2];rfl,hk⟩⟩
 ·exact ⟨λh=>aj h.2 hk,λh=>aj (fB.mp h.2).1 hk⟩
def T5{r Q:aa}(h:[]=Q++r.take (k+1))(hk:k<r.length):False:=by
 cases r with
 |nil=>exact aj hk (Nat.not_lt_zero _)
 |cons c r=>exact nomatch (List.append_eq_nil_iff.mp h.symm).2
section
def Ht(hx:x≠0):(l,r,k+1)∈aL B (Q++[x])↔(l,r,k)∈cU B (aL B Q)/\r[k]?=some x:=by
 rw [lX,lZ];refine ⟨λh=>d4 h λj a b e=>?_,λh=>⟨_,h.1,by unfold nx;rw [getD_eq_getElem?_getD,h.2];rfl,rfl⟩⟩;rw [<-Hq (i:=(l,r,k)) e] at a b;exact ⟨a,b▸(qU (b▸hx)).2⟩
def T6(G:aH B)(hr:(l,r)∈B)(hl:256<=l)(hQ:d9 Q):(l,r,0)∈cU B (aL B Q)↔l∈W B Q:=
 ⟨λh=>(nr h).elim (λq=>((jK G hQ).k _ q).elim (λa=>aj (a) (cY (bx (by decide) hl))) λa=>aj a (dK 0)) λq=>q.elim λX q=>bt q.2.2 λj h3 h4=>o6.mpr ⟨cY (bx (by decide) hl),j,h3,h4.trans (hV.mp q.2.1).2.1.symm⟩,
  λh=>(o6.mp h).2.elim λi z=>Hp z.1 (z.2▸hl) (hV.mpr ⟨hr,z.2.symm,rfl⟩)⟩
def T7:(l,r,k+1)∈cU B (aL B Q)↔(l,r,k+1)∈aL B Q:=⟨λh=>(nr h).resolve_right λq=>q.elim λX q=>aj (hV.mp q.2.1).2.2 (Nat.succ_ne_zero k),qS⟩
def T8(G:aH B):(23,r,k)∈cU B (aL B Q)↔(23,r,k)∈aL B Q:=⟨λh=>(nr h).resolve_right λq=>q.elim λX q=>aj rfl (qT G q.2.1).2.1,qS⟩
end
def AL(h:d9 (Q++[x])):d9 Q:=λy hy=>h y (cE _ hy)
def AM(h:d9 (Q++[x])):x≠0:=h x (cj _ (.head _))
def wD(G:aH B)(hr:(l,r)∈B):∀{k:Nat}{P:aa},d9 P->((l,r,k+1)∈aL B P↔∃Q,P=Q++r.take (k+1)/\k<r.length/\l∈W B Q):=by
 have hl:=(G.ok _ hr).big;have no:∀{k:Nat},(l,r,k+1)∈aL B []↔∃Q,[]=Q++r.take (k+1)/\k<r.length/\l∈W B Q:=⟨λh=>aj (ae (·.1) (cC.mp h)) (cY (bx (by decide) hl)),λh=>d4 h λQ e hk Z=>(T5 e hk).elim⟩
 intro k;induction k with
 |zero=>
  intro P hP;induction P using AK with
  |h0=>exact no
  |H Q x=>
  rw [Ht (AM hP),T6 G hr hl (AL hP)];exact ⟨λh=>have z:=wC.mpr ⟨(append_nil Q).symm,h.2⟩;⟨Q,z.1,z.2,h.1⟩,λh=>d4 h λQ' e hk a=>have z:=wC.mp ⟨e,hk⟩;⟨z.1.trans (append_nil Q')▸a,z.2⟩⟩
 |succ k ih=>
  intro P hP;induction P using AK with
  |h0=>exact no
  |H Q x=>
  rw [Ht (AM hP),T7,ih (AL hP)];exact ⟨λh=>d4 h.1 λQ' e hk a=>have z:=wC.mpr ⟨e,h.2⟩;⟨Q',z.1,z.2,a⟩,λh=>d4 h λQ' e hk a=>have z:=wC.mp ⟨e,hk⟩;⟨⟨Q',z.1,lt_of_succ_lt hk,a⟩,z.2⟩⟩
def T9(G:aH B)(n:Nat):∀{k:Nat}{P:aa},P.length=n->d9 P->((23,r,k)∈aL B P↔r=[256]/\((k=0/\P=[])\/(k=1/\P=[256]))):=by
 induction n with
 |zero=>
  intro k P hn hP;rw [length_eq_zero_iff.mp hn];refine ⟨λh=>have e:=cC.mp h;⟨ae (·.2.1) e,.inl ⟨ae (·.2.2) e,rfl⟩⟩,λh=>h.2.elim (λz=>?_) λz=>nomatch z.2⟩;rw [h.1,z.1];exact .head _
 |succ n ih=>
  intro k P hn hP;induction P using AK with
  |h0=>exact nomatch hn
  |H Q x=>
  have hx:=AM hP;refine ⟨λh=>?_,λh=>h.2.elim (λz=>nomatch (List.append_eq_nil_iff.mp z.2).2) λz=>aT (append_inj' (show Q++[x]=[]++[256] from z.2) rfl) λe1 e2=>?_⟩
  ·rw [lX] at h
   refine d4 (lZ.mp h) λj a b e=>?_;have e2:r=j.2.1:=ae (·.2.1) e;have e3:k=j.2.2+1:=ae (·.2.2) e;have z:=(ih (Nat.succ.inj (length_append.symm.trans hn)) (AL hP)).mp ((T8 G).mp (show (23,r,j.2.2)∈_ from (show (23,r,j.2.2)=j from Prod.ext (ae (·.1) e) (Prod.ext e2 rfl))▸a));unfold nx at b;rw [<-e2,z.1] at b;refine z.2.elim (λq=>?_) λq=>?_
   ·rw [q.1] at b e3
    rw [q.2,<-b];exact ⟨z.1,.inr ⟨e3,rfl⟩⟩
   ·rw [q.1] at b
    exact aj b.symm hx
  ·rw [h.1,z.1,e1,head_eq_of_cons_eq e2,lX]
   exact lZ.mpr ⟨(23,[256],0),qS (.head _),rfl,rfl⟩
def AN(G:aH B)(hP:d9 P):(23,r,k)∈aL B P↔r=[256]/\((k=0/\P=[])\/(k=1/\P=[256])):=T9 G _ rfl hP
end
section
variable(B:List bk)
def nt(P:aa)(r:bk)(k:Nat):Bool:=decide (P.drop (P.length - k)=r.2.take k)&&decide (r.1∈W B (P.take (P.length - k)))
def l4(P:aa)(r:bk):List It:=(((List.range r.2.length).map (·+1)).filter (nt B P r)).map λk=>(r.1,r.2,k)
noncomputable def jt (P:aa):List It:=if P=[] then [(23,[256],0)] else if P=[256] then [(23,[256],1)] else []
def pd(P:aa):List It:=jt P++B.flatMap (l4 B P)
end
noncomputable def cQ (i:It):aa:=(i.2.1.take (i.2.2+1)).drop i.2.2
def pr(i:It):aa×aa:=(aM i,cQ i)
section
def tL:i∈l4 B P r↔i.1=r.1/\i.2.1=r.2/\∃k,i.2.2=k+1/\k<r.2.length/\nt B P r (k+1)=true:=by
 unfold l4;rw [List.mem_map];constructor
 ·rintro ⟨k,hk,rfl⟩
  refine aT (mem_filter.mp hk) λH I=>?_;obtain ⟨j,h3,rfl⟩:=bu.mp H;exact ⟨rfl,rfl,j,rfl,mem_range.mp h3,I⟩
 ·rintro ⟨H,I,k,h3,h4,h5⟩
  refine ⟨k+1,mem_filter.mpr ⟨bu.mpr ⟨k,mem_range.mpr h4,rfl⟩,h5⟩,?_⟩;rw [<-H,<-I,<-h3]
def Hu(hk:k<r.length):nt B P (l,r) (k+1)=true↔∃Q,P=Q++r.take (k+1)/\l∈W B Q:=by
 unfold nt;rw [and_eq_true,decide_eq_true_eq,decide_eq_true_eq];constructor
 ·rintro ⟨H,I⟩
  refine ⟨P.take (P.length - (k+1)),?_,I⟩;rw [<-(H),List.take_append_drop]
 ·rintro ⟨Q,rfl,h⟩
  have e:(Q++r.take (k+1)).length - (k+1)=Q.length:=by
   rw [length_append,length_take];lia
  rw [e,drop_left,take_left];exact ⟨rfl,h⟩
def AO:i∈jt P↔i=(23,[256],0)/\P=[]\/i=(23,[256],1)/\P=[256]:=by
 unfold jt;by_cases H:P=[]
 ·rw [if_pos H]
  subst H;simp
 ·rw [if_neg H]
  by_cases I:P=[256]
  ·rw [if_pos I]
   subst I;simp
  ·rw [if_neg I]
   simp [H,I]
def Ua:∀{Q:aa}{j:It},Q.length=n->j∈cU B (aL B Q)->j.1≠23->(j.1,j.2.1)∈B:=by
 induction n with
 |zero=>
  intro Q j hn hj l6;have e:=length_eq_zero_iff.mp hn;subst e;exact (nr hj).elim (λq=>aj (ae (·.1) (cC.mp q)) l6) λq=>q.elim λX q=>(hV.mp q.2.1).1
 |succ n ih=>
  intro Q j hn hj l6;refine (nr hj).elim (λq=>?_) λq=>q.elim λX q=>(hV.mp q.2.1).1;refine (List.eq_nil_or_concat Q).elim (λe=>by rw [e] at hn;exact nomatch hn) λz=>nV z λQ' y e=>?_;rw [e,List.concat_eq_append] at q hn;rw [lX] at q;refine d4 (lZ.mp q) λj' a' Z e'=>?_;rw [e'] at l6⊢;exact ih (j:=j') (Nat.succ.inj (length_append.symm.trans hn)) a' l6
def Hv(h:i∈aL B P)(l6:i.1≠23):(i.1,i.2.1)∈B:=Ua rfl (qS h) l6
def AP(G:aH B)(hP:d9 P)(i:It):i∈pd B P↔i∈aL B P:=by
 refine bD.trans ⟨λh=>h.elim (λh=>(AO.mp h).elim (λz=>z.1▸(AN G hP).mpr ⟨rfl,.inl ⟨rfl,z.2⟩⟩) λz=>z.1▸(AN G hP).mpr ⟨rfl,.inr ⟨rfl,z.2⟩⟩) λh=>?_,λh=>?_⟩
 ·refine (mem_flatMap.mp h).elim λr z=>fC (tL.mp z.2) λe1 e2 e3=>d4 e3 λk e4 hk hd=>?_
  have ei:i=(r.1,r.2,k+1):=Prod.ext e1 (Prod.ext e2 e4);rw [ei];exact bt ((Hu hk).mp hd) λQ e hl=>(wD G z.1 hP).mpr ⟨Q,e,hk,hl⟩
 ·have kk:=(jK G hP).k _ h
  cases (jK G hP).ok _ h with
  |st hk=>exact .inl (AO.mpr (((AN G hP).mp h).2.imp (λz=>⟨ae (23,[256],·) z.1,z.2⟩) λz=>⟨ae (23,[256],·) z.1,z.2⟩))
  | @it l r k hr hk=>
   have l6:l≠23:=cY (bx (by decide) hr.big);have cA:=Hv h l6;have ek:k - 1+1=k:=Nat.sub_add_cancel (kk.resolve_left l6);rw [<-ek] at h;exact .inr (mem_flatMap.mpr ⟨_,cA,tL.mpr ⟨rfl,rfl,k - 1,ek.symm,d4 ((wD G cA hP).mp h) λQ e gs hl=>⟨gs,(Hu gs).mpr ⟨Q,e,hl⟩⟩⟩⟩)
def Ub(P:aa)(r:bk):(l4 B P r).Nodup:=by
 rw [nodup_iff_pairwise_ne];refine pairwise_map.mpr ?_;have h:(((List.range r.2.length).map (·+1)).filter (nt B P r)).Pairwise (·≠·):=
  List.Pairwise.filter _ (pairwise_map.mpr (List.Pairwise.imp (λh q=>h (Nat.succ.inj q)) (nodup_iff_pairwise_ne.mp List.nodup_range)))
 exact List.Pairwise.imp (λh q=>h (ae (·.2.2) q)) h
theorem Hw(P:aa):∀{l:List bk},l.Nodup->(l.flatMap (l4 B P)).Nodup
 |[],_=>nodup_nil
 |r::l,h=>by
  refine aT (eS.mp h) λH I=>?_;rw [flatMap_cons];refine nodup_append.mpr ⟨Ub P r,Hw P I,λa ha b hb e=>?_⟩;subst e;refine bt (mem_flatMap.mp hb) λr' tc hb=>?_;refine fC (tL.mp ha) λa1 a2 Z=>?_;refine fC (tL.mp hb) λb1 b2 Z=>?_;exact H ((Prod.ext (a1.symm.trans b1) (a2.symm.trans b2):r=r')▸tc)
def Uc(G:aH B)(P:aa):(pd B P).Nodup:=by
 refine nodup_append.mpr ⟨?_,Hw P G.nd,λa ha b hb e=>?_⟩
 ·unfold jt
  split
  ·exact eS.mpr ⟨(λq=>aj q cp),nodup_nil⟩
  ·split
   ·exact eS.mpr ⟨(λq=>aj q cp),nodup_nil⟩
   ·exact nodup_nil
 ·subst e
  refine bt (mem_flatMap.mp hb) λr hr hb=>?_;refine fC (tL.mp hb) λb1 Z Z=>?_;have:a.1=23:=by rcases AO.mp ha with ⟨h,_⟩|⟨h,_⟩<;>rw [h]
  rcases (G.ok r hr).left with h|h|h<;>(have:=this.symm.trans (b1.trans h);lia)
def nu:pY a b=true↔a<=b:=decide_eq_true_iff
def Hx(a b:It):(jq a b||jq b a)=true:=by
 rw [or_eq_true];unfold jq;rw [nu,nu];exact List.le_total _ _
def Hy(a b c:It)(h:jq a b=true)(h':jq b c=true):jq a c=true:=nu.mpr (List.le_trans (nu.mp h) (nu.mp h'))
def Ud(P:aa):(aL B P).Pairwise λa b=>jq a b=true:=by
 rcases List.eq_nil_or_concat P with rfl|⟨Q,x,rfl⟩
 ·exact List.pairwise_singleton _ _
 ·rw [List.concat_eq_append,lX]
  exact List.pairwise_mergeSort Hy Hx _
def Ue(G:aH B)(hP:d9 P):(pd B P).mergeSort jq=aL B P:=by
 have K:=jK G hP;have pm:((pd B P).mergeSort jq).Perm (aL B P):=(List.mergeSort_perm _ _).trans ((List.perm_ext_iff_of_nodup (Uc G P) K.nd).mpr λi=>AP G hP i);refine List.Perm.eq_of_pairwise (λa b ha hb H I=>?_) (List.pairwise_mergeSort Hy Hx _) (Ud P) pm;exact tI (K.ok _ (pm.mem_iff.mp ha)) (K.ok _ hb) (List.le_antisymm (nu.mp H) (nu.mp I))
def Uf(G:aH B)(hP:d9 P):((pd B P).map pr).mergeSort pZ=(aL B P).map pr:=by
 rw [<-Ue G hP];refine (List.map_mergeSort λa ha b hb=>?_).symm;have oa:=(jK G hP).ok _ ((AP G hP a).mp ha);have ob:=(jK G hP).ok _ ((AP G hP b).mp hb);show jq a b=(if aM a=aM b then decide (cQ a<=cQ b) else decide (aM a<=aM b));by_cases e:aM a=aM b
 ·rw [if_pos e]
  obtain rfl:=tI oa ob e;rw [decide_eq_true (List.le_refl _)];exact nu.mpr (List.le_refl _)
 ·rw [if_neg e];rfl
end
section
variable(B:List bk)
def ey(Q:aa)(x:Nat):List aa:=if aL B (Q++[x])=[] then [] else [Q++[x]]
def iK(P:aa):List It:=(cU B (aL B P)).filter λi=>nx i==0&&decide (256<=i.1)
def ch(P:aa):List aa:=(iK B P).flatMap λi=>ey B (P.take (P.length - i.2.2)) i.1
def bf:Nat->List aa->List aa
 |_,[]=>[]
 |0,_=>[]
 |n+1,P::t=>P::bf n (t++ch B P)
noncomputable def gw:Nat->Nat
 |0=>0
 |n+1=>1+5*gw n
def wt(P:aa):Nat:=gw (P.length+(if P.getLastD 0<256 then 1 else 0))
def df(l:List aa):Nat:=(l.map wt).sum
end
def fJ(P:aa):Prop:=∀x∈P,x<256/\x≠0\/x=256\/x=257\/x=258
def fJ.pile(h:fJ P):d9 P:=λx hx=>by rcases h x hx with h|h|h|h<;>lia
def nw(h:c∈codes):c<256/\c≠0\/c=256\/c=257\/c=258:=by
 have:∀c∈codes,c<256/\c≠0\/c=256\/c=257\/c=258:=by decide
 exact this c h
section
def Hz(G:aH B)(cA:(l,r)∈B)(hP:d9 P):(l,r,r.length)∈aL B P↔∃Q,P=Q++r/\l∈W B Q:=by
 have hn:r.length - 1+1=r.length:=Nat.sub_add_cancel (G.ok _ cA).len.1;have z:=wD G cA hP (k:=r.length - 1);rw [hn,take_length] at z;exact z.trans ⟨λh=>d4 h λQ e Z w=>⟨Q,e,w⟩,λh=>bt h λQ e w=>⟨Q,e,bx (lt_succ_self _) (cr hn),w⟩⟩
def Ug{r:aa}(hr:∀c∈r,c∈codes)(h:r.getD k 0=0):r.length<=k:=le_of_not_lt λq=>by
 rw [getD_eq_getElem?_getD,getElem?_eq_getElem q] at h;have h:r[k]=0:=h;have:=nw (hr _ (List.getElem_mem q));lia
def ny(G:aH B)(hP:d9 P)(i:It):i∈iK B P↔∃Q,P=Q++i.2.1/\i.2.2=i.2.1.length/\(i.1,i.2.1)∈B/\i.1∈W B Q:=by
 unfold iK;rw [mem_filter,and_eq_true,beq_iff_eq,decide_eq_true_eq];refine ⟨λh=>?_,λh=>nU h λQ e hk cA hw=>?_⟩
 ·cases (jr G (jK G hP)).1 _ h.1 with
  |st=>exact aj (show 256<=23 from h.2.2) (by decide)
  | @it l r k hr hk=>
   have e:=Nat.le_antisymm hk (Ug hr.sym h.2.1);have q:=(nr h.1).resolve_right λz=>z.elim λX z=>cY hr.len.1 (e.symm.trans (hV.mp z.2.1).2.2);have cA:=Hv q (cY (bx (by decide) hr.big));rw [e] at q⊢;exact bt ((Hz G cA hP).mp q) λQ e hw=>⟨Q,e,rfl,cA,hw⟩
 ·refine ⟨qS ?_,(show i.2.1.getD i.2.2 0=0 by rw [hk,getD_eq_getElem?_getD,getElem?_eq_none (Nat.le_refl _)];rfl),(G.ok _ cA).big⟩
  have:=(Hz G cA hP).mpr ⟨Q,e,hw⟩;rw [<-hk] at this;exact this
def HA(G:aH B)(hP:d9 P):(iK B P).Nodup:=List.Pairwise.filter _ (jr G (jK G hP)).2
def tM(G:aH B)(hP:d9 P)(h:i∈iK B P):∃Q,P=Q++i.2.1/\ey B (P.take (P.length - i.2.2)) i.1=[Q++[i.1]]/\i.1∈W B Q:=by
 refine nU ((ny G hP i).mp h) λQ e hk cA hw=>?_;refine ⟨Q,e,?_,hw⟩;have:P.take (P.length - i.2.2)=Q:=by
  rw [hk,e,length_append,Nat.add_sub_cancel,take_left]
 rw [this];unfold ey;rw [if_neg];exact (wB (cY (bx (by decide) (G.ok _ cA).big))).mpr hw
def HB(G:aH B)(hP:d9 P)(ha:a∈iK B P)(hb:b∈iK B P)(q:((a.1,a.2.1):bk)=(b.1,b.2.1)):a=b:=
 have q2:=(Prod.mk.inj q).2
 Prod.ext (Prod.mk.inj q).1 (Prod.ext q2 (((ny G hP a).mp ha).choose_spec.2.1.trans ((ae List.length q2).trans ((ny G hP b).mp hb).choose_spec.2.1.symm)))
def Uh(G:aH B)(hP:d9 P)(x:Nat){l:List It}:(∀i∈l,i∈iK B P)->(l.flatMap λi=>ey B (P.take (P.length - i.2.2)) i.1).count (Q++[x])=(l.filter λi=>decide (i.1=x/\P=Q++i.2.1)).length:=by
 induction l with
 |nil=>exact λZ=>rfl
 |cons i l ih=>
  intro hl;refine d4 (tM G hP (hl i (.head _))) λQ' H I Z=>?_;rw [flatMap_cons,List.count_append,I,ih λj hj=>hl j (.tail _ hj)];by_cases e:i.1=x/\P=Q++i.2.1
  ·rw [filter_cons_of_pos (by exact decide_eq_true e),length_cons,List.append_cancel_right (H.symm.trans e.2),e.1,List.count_singleton_self]
   exact Nat.add_comm _ _
  ·rw [filter_cons_of_neg (by exact λz=>e (of_decide_eq_true z)),List.count_singleton,if_neg (show¬((Q'++[i.1]==Q++[x])=true) from λq=>aT (append_inj' (beq_iff_eq.mp q) rfl) λq1 q2=>e ⟨head_eq_of_cons_eq q2,q1▸H⟩),Nat.zero_add]
def Ui(G:aH B)(hP:d9 P)(x:Nat):(ch B P).count (Q++[x])=if x∈W B Q then (B.filter λr=>decide (r.1=x/\P=Q++r.2)).length else 0:=by
 refine (Uh G hP x λi hi=>hi).trans ?_;by_cases hw:x∈W B Q
 ·rw [if_pos hw]
  refine (length_map (f:=λi:It=>((i.1,i.2.1):bk))).symm.trans (List.Perm.length_eq ((List.perm_ext_iff_of_nodup ?_ (List.Pairwise.filter _ G.nd)).mpr λr=>⟨λh=>?_,λh=>?_⟩))
  ·rw [nodup_iff_pairwise_ne]
   exact pairwise_map.mpr (List.Pairwise.imp_of_mem (λ{a b} ha hb h q=>h (HB G hP (mem_filter.mp ha).1 (mem_filter.mp hb).1 q)) (List.Pairwise.filter _ (HA G hP)))
  ·refine bt (bu.mp h) λi hi e=>?_
   rw [<-e];exact aT (mem_filter.mp hi) λa b=>mem_filter.mpr ⟨((ny G hP i).mp a).choose_spec.2.2.1,b⟩
  ·refine aT (mem_filter.mp h) λcA b=>have b':=cm b
    bu.mpr ⟨(r.1,r.2,r.2.length),mem_filter.mpr ⟨(ny G hP _).mpr ⟨Q,b'.2,rfl,cA,b'.1.symm▸hw⟩,b⟩,rfl⟩
 ·rw [if_neg hw,length_eq_zero_iff,List.filter_eq_nil_iff]
  exact λi hi q=>aT (cm q) λq1 q2=>d4 (tM G hP hi) λQ' H Z I=>hw (List.append_cancel_right (H.symm.trans q2)▸q1▸I)
def wE(G:aH B)(hP:fJ P)(hc:c∈ch B P):∃Q x r,P=Q++r/\c=Q++[x]/\(x,r)∈B/\fJ c/\aL B c≠[]:=by
 refine bt (mem_flatMap.mp hc) λi hi hc=>?_;refine d4 (tM G hP.pile hi) λQ e I hw=>?_;refine nU ((ny G hP.pile i).mp hi) λZ Z Z cA Z=>?_;rw [I] at hc;have hc:=cC.mp hc;have hl:=(G.ok _ cA).left;refine ⟨Q,i.1,i.2.1,e,hc,cA,λx hx=>?_,?_⟩
 ·rw [hc] at hx
  rcases bD.mp hx with hx|hx
  ·exact hP x (e▸cE _ hx)
  ·rw [mem_singleton.mp hx];exact .inr hl
 ·rw [hc]
  exact (wB (cY (bx (by decide) (G.ok _ cA).big))).mpr hw
def AQ(h:a<=b):gw a<=gw b:=by
 induction h with
 |refl=>exact aD _
 |step _ ih=>
  exact af ih (af (Nat.le_mul_of_pos_left _ (by decide:0<5)) (le_add_left _ 1))
def Uj(G:aH B)(hP:fJ P)(hc:c∈ch B P):5*wt c+1<=wt P:=by
 refine uA (wE G hP hc) λQ x r e ec cA Z Z=>?_;have hr:=G.ok _ cA;have hx:256<=x:=hr.big;have e1:wt c=gw (Q.length+1):=by
  unfold wt;rw [ec,length_append,List.getLastD_eq_getLast?,List.getLast?_append];show gw (Q.length+1+if x<256 then 1 else 0)=_;rw [if_neg (by exact (Nat.not_lt_of_le hx))]
 rw [e1];have:Q.length+2<=P.length+(if P.getLastD 0<256 then 1 else 0):=by
  rw [e,length_append];have H:=hr.len
  match r,H,hr with
  |[y],_,hr=>
   have hy:y<256:=hr.lone y rfl;rw [List.getLastD_eq_getLast?,List.getLast?_append];show Q.length+2<=Q.length+1+if y<256 then 1 else 0
   rw [if_pos hy];exact (aD _)
  |y::z::r,_,_=>
   rw [length_cons,length_cons];lia
 exact Nat.add_comm 1 (5*gw (Q.length+1))▸(show 1+5*gw (Q.length+1)<=_ from AQ this)
def Uk(G:aH B)(hP:d9 P):(ch B P).length<=5:=by
 have:∀l:List It,(∀i∈l,i∈iK B P)->(l.flatMap λi=>ey B (P.take (P.length - i.2.2)) i.1).length=l.length:=by
  intro l;induction l with
  |nil=>intro _;rfl
  |cons i l ih=>
   intro hl;refine d4 (tM G hP (hl i (.head _))) λQ' H I Z=>?_;rw [flatMap_cons,length_append,I,ih λj hj=>hl j (.tail _ hj),length_cons];exact Nat.add_comm _ _
 unfold ch;rw [this _ λi hi=>hi];refine af ?_ G.len;rw [<-length_map];refine List.Nodup.length_le_of_subset ?_ λr hr=>?_
 ·rw [nodup_iff_pairwise_ne]
  exact pairwise_map.mpr (List.Pairwise.imp_of_mem (λ{a b} ha hb h q=>h (HB G hP ha hb q)) (HA G hP))
 ·obtain ⟨i,hi,rfl⟩:=bu.mp hr
  exact ((ny G hP i).mp hi).choose_spec.2.2.1
def Ul(h:∀x∈c,5*wt x+1<=n)(hl:c.length<=5)(hn:0<n):df c+1<=n:=by
 have:∀c:List aa,(∀x∈c,5*wt x+1<=n)->5*df c<=c.length*(n - 1):=by
  intro c;induction c with
  |nil=>intro _;exact bN _
  |cons x c ih=>
   intro h;show 5*(wt x+df c)<=(c.length+1)*(n - 1);rw [Nat.succ_mul c.length,mul_add 5,Nat.add_comm (5*wt x)];exact eI (ih λy hy=>h y (.tail _ hy)) (Nat.le_sub_one_of_lt (h x (.head _)))
 exact Nat.add_le_of_le_sub hn (Nat.le_of_mul_le_mul_left (af (this c h) (Nat.mul_le_mul_right (n - 1) hl)) (by decide))
def tN(h:P≠[]):0<wt P:=by
 obtain ⟨x,t,rfl⟩:=List.exists_cons_of_ne_nil h;refine bx (show 0<gw 1 by decide) (AQ ?_);rw [length_cons];exact (af (le_add_left _ _) (bz _ _))
def wF(G:aH B)(hP:fJ P)(h:P≠[]):df (ch B P)+1<=wt P:=Ul (λc hc=>Uj G hP hc) (Uk G hP.pile) (tN h)
def wG(a b:List aa):df (a++b)=df a+df b:=by unfold df;rw [map_append,List.sum_append]
structure j8(P:aa):Prop where
 sym:fJ P
 ne:P≠[]
def qV(G:aH B)(hP:j8 P)(hc:c∈ch B P):j8 c:=by
 refine uA (wE G hP.sym hc) λQ x r Z ec Z h Z=>?_;exact ⟨h,by rw [ec];simp⟩
def Um(G:aH B){Φ:aa->Prop}(hc:∀P,j8 P->Φ P->∀c∈ch B P,Φ c):∀{t:List aa},(∀P∈t,j8 P/\Φ P)->∀P∈bf B n t,j8 P/\Φ P:=by
 induction n with
 |zero=>intro t h P hP;cases t<;>exact aj hP cp
 |succ n ih=>
  intro t h P hP
  match t,hP with
  |Q::t,hP=>
   rcases bA.mp hP with rfl|hP
   ·exact h _ (.head _)
   ·refine ih (λR hR=>?_) P hP
    rcases bD.mp hR with hR|hR
    ·exact h R (.tail _ hR)
    ·exact ⟨qV G (h Q (.head _)).1 hR,hc Q (h Q (.head _)).1 (h Q (.head _)).2 R hR⟩
def Un(G:aH B)(zZ:aa):∀{t:List aa},(∀P∈t,j8 P)->df t<=n->(bf B n t).count zZ=t.count zZ+((bf B n t).map λR=>(ch B R).count zZ).sum:=by
 induction n with
 |zero=>
  intro t h hw;cases t with
  |nil=>rfl
  |cons P t=>
   have H:=tN (h P (.head _)).ne;have:df (P::t)=wt P+df t:=rfl;lia
 |succ n ih=>
  intro t h hw;cases t with
  |nil=>rfl
  |cons P t=>
   have hP:=h P (.head _);have H:=wF G hP.sym hP.ne;have I:df (P::t)=wt P+df t:=rfl;have:=ih (λR hR=>(bD.mp hR).elim (λq=>h R (.tail _ q)) λq=>qV G hP q) (by rw [wG];lia);show (P::bf B n (t++ch B P)).count zZ=_+((ch B P).count zZ+((bf B n (t++ch B P)).map _).sum);rw [count_cons,count_cons,this,List.count_append];lia
def Uo(G:aH B):∀{t:List aa},(∀P∈t,j8 P)->(bf B n t).length<=df t:=by
 induction n with
 |zero=>intro t _;cases t<;>exact bN _
 |succ n ih=>
  intro t h;cases t with
  |nil=>exact bN _
  |cons P t=>
   have hP:=h P (.head _);have H:=wF G hP.sym hP.ne;have I:df (P::t)=wt P+df t:=rfl;have:=ih λR hR=>(bD.mp hR).elim (λq=>h R (.tail _ q)) λq=>qV G hP q;rw [wG] at this;show (bf B n (t++ch B P)).length+1<=_;lia
end
section
variable(B:List bk)(w:Nat->Nat)
noncomputable def Sx (x:Nat) (f:aa->Nat):Nat:=(B.map λr=>if r.1=x then f r.2 else 0).sum
noncomputable def bs (x i:Nat):Nat:=if w i=x then 1 else 0
def f1(i:Nat):aa->Nat
 |[y]=>bs w y i
 |_=>0
def t1(x i:Nat):Nat:=bs w x i+Sx B x (f1 w i)
def f2(i:Nat):aa->Nat
 |[y,z]=>t1 B w y i*t1 B w z (i+1)
 |_=>0
def t2(x i:Nat):Nat:=Sx B x (f2 B w i)
def f3(i:Nat):aa->Nat
 |[y,z]=>t1 B w y i*t2 B w z (i+1)+t2 B w y i*t1 B w z (i+2)
 |[y,z,u]=>t1 B w y i*t1 B w z (i+1)*t1 B w u (i+2)
 |_=>0
def t3(x i:Nat):Nat:=Sx B x (f3 B w i)
def fK(P:aa)(f:aa->Nat->Nat):Nat:=match P.reverse with
 |[]=>0
 |x::q=>if x∈W B q.reverse then f q.reverse x else 0
noncomputable def D0 (P:aa):Nat:=if P=[] then 1 else 0
def D1(P:aa):Nat:=fK B P λQ x=>D0 Q*t1 B w x 0
def D2(P:aa):Nat:=fK B P λQ x=>D0 Q*t2 B w x 0+D1 B w Q*t1 B w x 1
def D3(P:aa):Nat:=fK B P λQ x=>D0 Q*t3 B w x 0+D1 B w Q*t2 B w x 1+D2 B w Q*t1 B w x 2
def f0(i:Nat)(L:List aa):List aa:=L.flatMap λP=>ey B P (w i)
def Up(i:Nat)(L:List aa):List aa:=bf B (df (f0 B w i L)) (f0 B w i L)
def bc:Nat->List aa
 |0=>[[]]
 |n+1=>Up B w n (bc n)
end
section
variable{B:List bk}
def jL(Q:aa)(x:Nat)(f:aa->Nat->Nat):fK B (Q++[x]) f=if x∈W B Q then f Q x else 0:=by
 unfold fK;rw [List.reverse_append];show (if x∈W B Q.reverse.reverse then f Q.reverse.reverse x else 0)=_;rw [reverse_reverse]
def HC(f:aa->Nat->Nat):fK B [] f=0:=rfl
def tO(Q:aa)(x:Nat):D0 (Q++[x])=0:=bK (by simp)
def qW(Q:aa)(x:Nat):D1 B w (Q++[x])=if x∈W B Q then D0 Q*t1 B w x 0 else 0:=jL ..
def tP(Q:aa)(x:Nat):D2 B w (Q++[x])=if x∈W B Q then D0 Q*t2 B w x 0+D1 B w Q*t1 B w x 1 else 0:=jL ..
def wH(Q:aa)(x:Nat):D3 B w (Q++[x])=if x∈W B Q then D0 Q*t3 B w x 0+D1 B w Q*t2 B w x 1+D2 B w Q*t1 B w x 2 else 0:=jL ..
def AR(h:∀r,(x,r)∈B->f r=g r):Sx B x f=Sx B x g:=by
 refine ae List.sum (eR λr hr=>?_);by_cases e:r.1=x
 ·rw [if_pos e,if_pos e,h r.2 (e▸hr)]
 ·rw [if_neg e,if_neg e]
def AS(x a b c:Nat)(f g h:aa->Nat):Sx B x (λr=>a*f r+b*g r+c*h r)=a*Sx B x f+b*Sx B x g+c*Sx B x h:=by
 unfold Sx;induction B with
 |nil=>simp
 |cons r l ih=>
  simp only [map_cons,sum_cons] at ih⊢;rw [ih];by_cases e:r.1=x
  ·simp only [bv e,mul_add];lia
  ·simp only [bK e,Nat.zero_add]
theorem l7:∀{l:aa},(∀n∈l,n=0)->l.sum=0
 |[],_=>rfl
 |x::l,h=>by rw [sum_cons,h x (.head _),l7 λn hn=>h n (.tail _ hn)]
def wI(h:∀r,(x,r)∉B):Sx B x f=0:=by
 refine l7 λn hn=>?_;obtain ⟨⟨a,r⟩,hr,rfl⟩:=bu.mp hn;exact bK λe:a=x=>h r (e▸hr)
def Uq(p:bk->aa->Bool)(L:List aa):(L.map λR=>(B.filter λr=>p r R).length).sum=(B.map λr=>(L.filter (p r)).length).sum:=by
 induction L with
 |nil=>
  exact (l7 λn hn=>by obtain ⟨r,_,rfl⟩:=bu.mp hn;rfl).symm
 |cons R L ih=>
  rw [map_cons,sum_cons,ih]
  clear ih
  induction B with
  |nil=>rfl
  |cons r l ih=>
   rw [map_cons,map_cons,sum_cons,sum_cons];cases e:p r R with
   |true=>
    rw [filter_cons_of_pos (p:=λr=>p r R) e,filter_cons_of_pos e,length_cons,length_cons];lia
   |false=>
    rw [filter_cons_of_neg (by rw [e];decide),filter_cons_of_neg (by rw [e];decide)];lia
structure fT(w:Nat->Nat):Prop where
 lt:∀i,w i<256/\w i≠0
theorem HD(hw:fT w)(i:Nat)(Q:aa)(x:Nat):∀L:List aa,(f0 B w i L).count (Q++[x])=if x=w i/\x∈W B Q then L.count Q else 0
 |[]=>by rw [show f0 B w i []=[] from rfl];split<;>rfl
 |P::L=>by
  have ih:=HD hw i Q x L;show (ey B P (w i)++f0 B w i L).count (Q++[x])=_;rw [List.count_append,ih,count_cons];unfold ey;by_cases hk:aL B (P++[w i])=[]
  ·rw [if_pos hk,List.count_nil]
   by_cases c:x=w i/\x∈W B Q
   ·rw [if_pos c,if_pos c]
    by_cases e:P=Q
    ·subst e
     rw [<-c.1] at hk;exact aj hk ((wB (c.1▸(hw.lt i).2)).mpr c.2)
    ·simp [e]
   ·rw [if_neg c,if_neg c]
  ·rw [if_neg hk,List.count_singleton]
   have hW:=(wB (hw.lt i).2).mp hk;by_cases e:P=Q
   ·subst e
    by_cases e2:x=w i
    ·subst e2
     simp [hW];exact (Nat.add_comm _ _)
    ·have:¬(P++[w i]=P++[x]):=λq=>e2 (head_eq_of_cons_eq (List.append_cancel_left q)).symm
     simp [e2,Ne.symm e2]
   ·have:¬(P++[w i]=Q++[x]):=λq=>e (append_inj' q rfl).1
    by_cases c:x=w i/\x∈W B Q
    ·rw [if_pos c,if_pos c];simp [e]
    ·rw [if_neg c,if_neg c];simp [e]
def wJ(hw:fT w)(h:∀P∈L,fJ P):∀P∈f0 B w i L,j8 P:=by
 intro P hP;refine bt (mem_flatMap.mp hP) λQ hQ hP=>?_;unfold ey at hP
 split at hP
 ·exact aj hP cp
 ·rw [mem_singleton.mp hP]
  refine ⟨λx hx=>?_,by simp⟩;rcases bD.mp hx with hx|hx
  ·exact h Q hQ x hx
  ·rw [mem_singleton.mp hx];exact .inl (hw.lt i)
theorem l8(G:aH B)(hw:fT w):∀n,∀P∈bc B w n,fJ P/\P.length<=n/\(n≠0->P≠[])
 |0,P,h=>by
  rw [mem_singleton.mp h];exact ⟨λZ h=>(aj h cp),aD _,λh=>aj rfl h⟩
 |n+1,P,h=>by
  have ih:=l8 G hw n;have H:=wJ (B:=B) (i:=n) hw λP hP=>(ih P hP).1;have:=Um G (Φ:=λP=>P.length<=n+1) (λP hP hl c hc=>?_) (λP hP=>⟨H P hP,?_⟩) P h
  ·exact ⟨this.1.sym,this.2,λZ=>this.1.ne⟩
  ·refine uA (wE G hP.sym hc) λQ x r e ec cA Z Z=>?_
   have:=(G.ok _ cA).len.1;rw [e,length_append] at hl;rw [ec,length_append];rw [length_singleton];exact (af (dc this _) hl)
  ·refine bt (mem_flatMap.mp hP) λQ hQ hP=>?_
   unfold ey at hP
   split at hP
   ·exact aj hP cp
   ·rw [mem_singleton.mp hP,length_append,length_singleton]
    exact dh (ih Q hQ).2.1
def AT(G:aH B)(hw:fT w)(n:Nat)(Q:aa)(x:Nat):(bc B w (n+1)).count (Q++[x])=
  (if x=w n/\x∈W B Q then (bc B w n).count Q else 0)+if x∈W B Q then Sx B x (λr=>(bc B w (n+1)).count (Q++r)) else 0:=by
 have H:=wJ (B:=B) (i:=n) hw λP hP=>(l8 G hw n P hP).1;show (bf B _ _).count _=_;rw [Un G _ H (Nat.le_refl _),HD hw];refine ae (λz:Nat=>(if x=w n/\x∈W B Q then (bc B w n).count Q else 0)+z) ?_;have e:((bf B (df (f0 B w n (bc B w n))) (f0 B w n (bc B w n))).map λR=>(ch B R).count (Q++[x]))=
   (bc B w (n+1)).map λR=>if x∈W B Q then (B.filter λr=>decide (r.1=x/\R=Q++r.2)).length else 0:=
  eR λR hR=>Ui G (l8 G hw (n+1) R hR).1.pile x
 rw [e];by_cases c:x∈W B Q
 ·simp only [bv c]
  rw [Uq λr R=>decide (r.1=x/\R=Q++r.2)];refine ae List.sum (eR λr Z=>?_);by_cases e:r.1=x
  ·rw [if_pos e]
   show _=(bc B w (n+1)).count (Q++r.2);rw [List.count_eq_length_filter];refine ae List.length (List.filter_congr λR Z=>?_);rw [Bool.eq_iff_iff,decide_eq_true_eq,beq_iff_eq];exact ⟨λq=>q.2,λq=>⟨e,q⟩⟩
  ·rw [if_neg e,length_eq_zero_iff,List.filter_eq_nil_iff]
   intro R _ q;exact e (cm q).1
 ·simp only [bK c]
  refine l7 λk hk=>?_;obtain ⟨_,_,rfl⟩:=bu.mp hk
  rfl
def tQ(G:aH B)(hw:fT w)(h:n<P.length):(bc B w n).count P=0:=List.count_eq_zero.mpr λq=>aj (l8 G hw n P q).2.1 (Nat.not_le.mpr h)
def AU(G:aH B)(hw:fT w)(n:Nat):(bc B w (n+1)).count []=0:=List.count_eq_zero.mpr λq=>(l8 G hw _ _ q).2.2 (Nat.succ_ne_zero n) rfl
def wK(G:aH B)(h:x<256)(r:aa):(x,r)∉B:=λq=>by rcases (G.ok _ q).left with h|h|h<;>(have h:=h;lia)
def AV(G:aH B)(h:x<256):t1 B w x i=bs w x i:=by
 unfold t1;rw [wI (wK G h)];rfl
def HE(G:aH B)(h:x<256):t2 B w x i=0:=wI (wK G h)
def Ur(G:aH B)(h:x<256):t3 B w x i=0:=wI (wK G h)
def Us(hw:fT w)(h:256<=x):bs w x i=0:=bK λq=>by have:=(hw.lt i).1;lia
def AW(hw:fT w)(h:256<=x):t1 B w x i=Sx B x (f1 w i):=by
 unfold t1;rw [Us hw h,Nat.zero_add]
def AX(G:aH B)(hQ:d9 Q)(hr:(x,r)∈B)(h:x∈W B Q)(hk:k<r.length):r.getD k 0∈W B (Q++r.take k):=by
 have hg:r.getD k 0=r[k]:=by rw [getD_eq_getElem?_getD,getElem?_eq_getElem hk];rfl
 have h0:r.getD k 0≠0:=by
  have:=nw ((G.ok _ hr).sym _ (List.getElem_mem hk));rw [hg];lia
 refine o6.mpr ⟨h0,(x,r,k),?_,rfl⟩
 match k with
 |0=>
  rw [List.take_zero,append_nil];obtain ⟨_,i,H,I⟩:=o6.mp h;have hx:256<=x:=by rcases (G.ok _ hr).left with h|h|h<;>(have h:=h;lia)
  exact Hp H (I▸hx) (hV.mpr ⟨hr,I.symm,rfl⟩)
 |k+1=>
  refine qS ((wD G hr λy hy=>?_).mpr ⟨Q,rfl,by lia,h⟩);rcases bD.mp hy with hy|hy
  ·exact hQ y hy
  ·have:=nw ((G.ok _ hr).sym _ (mem_of_mem_take hy))
   lia
end
section
def j9{P:aa}:P=[]\/∃Q x,P=Q++[x]:=by
 rcases List.eq_nil_or_concat P with rfl|⟨Q,x,rfl⟩
 ·exact .inl rfl
 ·exact .inr ⟨Q,x,List.concat_eq_append⟩
def wL(h:0<P.length):D0 P=0:=bK λq=>by rw [q] at h;exact aj h (by decide)
def AY(h:1<P.length):D1 B w P=0:=by
 rcases j9 (P:=P) with rfl|⟨Q,x,rfl⟩
 ·rfl
 ·rw [length_append,length_singleton] at h
  rw [qW,wL (lt_of_succ_lt_succ h),zero_mul,ite_self]
def AZ(h:2<P.length):D2 B w P=0:=by
 rcases j9 (P:=P) with rfl|⟨Q,x,rfl⟩
 ·rfl
 ·rw [length_append,length_singleton] at h
  rw [tP,wL (lt_of_succ_lt (lt_of_succ_lt_succ h)),AY (lt_of_succ_lt_succ h),zero_mul,zero_mul,ite_self]
def HF(h:3<P.length):D3 B w P=0:=by
 rcases j9 (P:=P) with rfl|⟨Q,x,rfl⟩
 ·rfl
 ·rw [length_append,length_singleton] at h
  rw [wH,wL (lt_of_succ_lt (lt_of_succ_lt (lt_of_succ_lt_succ h))),AY (lt_of_succ_lt (lt_of_succ_lt_succ h)),AZ (lt_of_succ_lt_succ h),zero_mul,zero_mul,zero_mul,ite_self]
def A6{Q:aa}{y z m k:Nat}(hm:k<Q.length+1+(m+1)):k<(Q++[y,z]).length+m:=by
 rw [length_append];exact (succ_add_eq_add_succ (Q.length+1) m).symm▸hm
def qX{Q:aa}{y z u m k:Nat}(hm:k<Q.length+1+(m+1)):k<(Q++[y,z,u]).length+m:=bx (A6 hm) (by
 rw [length_append,length_append];exact dN (le_succ _) m)
def qY(G:aH B)(hw:fT w)(hy:y<256)(h:y∈W B Q):(bc B w (n+1)).count (Q++[y])=(bc B w n).count Q*bs w y n:=by
 rw [AT G hw,if_pos h,wI (wK G hy),Nat.add_zero];unfold bs;by_cases e:w n=y
 ·rw [if_pos e,if_pos ⟨e.symm,h⟩,Nat.mul_one]
 ·rw [if_neg e,if_neg λq=>e q.1.symm,mul_zero]
def A7(G:aH B)(hw:fT w)(hx:256<=x)(h:x∈W B Q):(bc B w (n+1)).count (Q++[x])=Sx B x λr=>(bc B w (n+1)).count (Q++r):=by
 rw [AT G hw,if_pos h,if_neg (by exact λq=>not_le_of_lt (hw.lt n).1 (q.1▸hx)),Nat.zero_add]
def A8(G:aH B)(hw:fT w)(h:x∉W B Q):(bc B w (n+1)).count (Q++[x])=0:=by
 rw [AT G hw,if_neg h,if_neg λq=>h q.2]
def wM(G:aH B)(h:(x,r)∈B):(∃y,r=[y]/\y<256)\/(∃y z,r=[y,z])\/∃y z u,r=[y,z,u]:=by
 have hr:=G.ok _ h;rcases r with _|⟨y,_|⟨z,_|⟨u,_|_⟩⟩⟩
 ·exact aj hr.len.1 (dK 0)
 ·exact .inl ⟨y,rfl,hr.lone y rfl⟩
 ·exact .inr (.inl ⟨y,z,rfl⟩)
 ·exact .inr (.inr ⟨y,z,u,rfl⟩)
 ·exact aj hr.len.2 (Nat.not_le.mpr (le_add_left 4 _))
def Ba(h:fJ (Q++[x])):fJ Q/\(x<256\/256<=x):=⟨λy hy=>h y (cE _ hy),Nat.lt_or_ge x 256⟩
def Bb(h:fJ Q)(G:aH B)(hr:(x,r)∈B):fJ (Q++r):=λy hy=>(bD.mp hy).elim (h y) λq=>nw ((G.ok _ hr).sym y q)
def qZ(G:aH B)(hQ:fJ Q)(hr:(x,y::r)∈B)(h:x∈W B Q):y∈W B Q:=by
 have:=AX G hQ.pile hr h (succ_pos _);rwa [List.take_zero,append_nil] at this
def Bc(G:aH B)(hQ:fJ Q)(hr:(x,y::z::r)∈B)(h:x∈W B Q):z∈W B (Q++[y]):=AX G hQ.pile hr h (k:=1) (by simp)
def Ut(G:aH B)(hQ:fJ Q)(hr:(x,y::z::u::r)∈B)(h:x∈W B Q):u∈W B (Q++[y]++[z]):=by
 have:=AX G hQ.pile hr h (k:=2) (by simp);rw [append_assoc];exact this
def N0(P:aa):(bc B w 0).count P=D0 P:=by
 show List.count P [[]]=_;unfold D0;rw [List.count_singleton];by_cases h:P=[]
 ·subst h;rfl
 ·rw [if_neg h,if_neg (by simpa using h)]
def N1(G:aH B)(hw:fT w)(hP:fJ P):(bc B w 1).count P=D1 B w P:=by
 rcases j9 (P:=P) with rfl|⟨Q,x,rfl⟩
 ·exact AU G hw 0
 obtain ⟨hQ,hx⟩:=Ba hP;rw [qW];by_cases h:x∈W B Q
 ·rw [if_pos h]
  rcases hx with hx|hx
  ·rw [qY G hw hx h,AV G hx,N0]
  ·rw [A7 G hw hx h,AW hw hx]
   have:=AS (B:=B) x (D0 Q) 0 0 (f1 w 0) (λZ=>0) (λZ=>0);simp only [zero_mul,Nat.add_zero] at this;rw [<-this];refine AR λr hr=>?_;rcases wM G hr with ⟨y,rfl,hy⟩|⟨y,z,rfl⟩|⟨y,z,u,rfl⟩
   ·rw [qY G hw hy (qZ G hQ hr h),N0];rfl
   ·exact tQ G hw (by simp)
   ·exact tQ G hw (by simp)
 ·rw [if_neg h,A8 G hw h]
def N2(G:aH B)(hw:fT w)(m:Nat):∀{P:aa},fJ P->2<P.length+m->(bc B w 2).count P=D2 B w P:=by
 induction m with
 |zero=>intro P hP h;rw [tQ G hw h,AZ h]
 |succ m ih=>
  intro P hP hm;rcases j9 (P:=P) with rfl|⟨Q,x,rfl⟩
  ·exact AU G hw 1
  obtain ⟨hQ,hx⟩:=Ba hP;rw [tP];by_cases h:x∈W B Q
  ·rw [if_pos h]
   rcases hx with hx|hx
   ·rw [qY G hw hx h,AV G hx,HE G hx,N1 G hw hQ,mul_zero,Nat.zero_add]
   ·rw [A7 G hw hx h,AW hw hx]
    have:=AS (B:=B) x (D0 Q) (D1 B w Q) 0 (f2 B w 0) (f1 w 1) (λZ=>0);simp only [zero_mul,Nat.add_zero] at this;unfold t2;rw [<-this];refine AR λr hr=>?_;rw [length_append,length_singleton] at hm;rcases wM G hr with ⟨y,rfl,hy⟩|⟨y,z,rfl⟩|⟨y,z,u,rfl⟩
    ·rw [qY G hw hy (qZ G hQ hr h),N1 G hw hQ]
     show _=D0 Q*0+_;rw [mul_zero,Nat.zero_add];rfl
    ·rw [ih (Bb hQ G hr) (A6 hm)]
     show D2 B w (Q++([y]++[z]))=D0 Q*(t1 B w y 0*t1 B w z 1)+D1 B w Q*0;rw [<-append_assoc,tP,if_pos (Bc G hQ hr h),tO,qW,if_pos (qZ G hQ hr h),zero_mul,Nat.zero_add,mul_zero,Nat.add_zero,mul_assoc]
    ·rw [tQ G hw (by simp only [length_append,length_cons,length_nil];exact (le_add_left _ _))]
     rfl
  ·rw [if_neg h,A8 G hw h]
def Uv(H:y∈W B Q)(I:z∈W B (Q++[y]))(h3:u∈W B (Q++[y]++[z])):D3 B w (Q++[y]++[z]++[u])=D0 Q*(t1 B w y 0*t1 B w z 1*t1 B w u 2):=by
 rw [wH,if_pos h3,tO,zero_mul,Nat.zero_add,qW,if_pos I,tO,zero_mul,zero_mul,Nat.zero_add,tP,if_pos I,tO,zero_mul,Nat.zero_add,qW,if_pos H,mul_assoc,mul_assoc,mul_assoc]
def Uw(H:y∈W B Q)(I:z∈W B (Q++[y])):D3 B w (Q++[y]++[z])=D0 Q*(t1 B w y 0*t2 B w z 1+t2 B w y 0*t1 B w z 2)+D1 B w Q*(t1 B w y 1*t1 B w z 2):=by
 rw [wH,if_pos I,tO,qW,tP,if_pos H,if_pos H,zero_mul,Nat.zero_add,add_mul,mul_add,mul_assoc,mul_assoc,mul_assoc,Nat.add_assoc]
def N3(G:aH B)(hw:fT w)(m:Nat):∀{P:aa},fJ P->3<P.length+m->(bc B w 3).count P=D3 B w P:=by
 induction m with
 |zero=>intro P hP h;rw [tQ G hw h,HF h]
 |succ m ih=>
  intro P hP hm;rcases j9 (P:=P) with rfl|⟨Q,x,rfl⟩
  ·exact AU G hw 2
  obtain ⟨hQ,hx⟩:=Ba hP;rw [wH];by_cases h:x∈W B Q
  ·rw [if_pos h]
   have n2:=N2 G hw 3 hQ ((le_add_left _ _));rcases hx with hx|hx
   ·rw [qY G hw hx h,AV G hx,HE G hx,Ur G hx,n2,mul_zero,mul_zero,Nat.zero_add]
   ·rw [A7 G hw hx h,AW hw hx]
    have:=AS (B:=B) x (D0 Q) (D1 B w Q) (D2 B w Q) (f3 B w 0) (f2 B w 1) (f1 w 2);unfold t2 t3;rw [<-this];refine AR λr hr=>?_;rw [length_append,length_singleton] at hm;rcases wM G hr with ⟨y,rfl,hy⟩|⟨y,z,rfl⟩|⟨y,z,u,rfl⟩
    ·rw [qY G hw hy (qZ G hQ hr h),n2]
     show _=D0 Q*0+D1 B w Q*0+_;rw [mul_zero,mul_zero,Nat.zero_add];rfl
    ·rw [ih (Bb hQ G hr) (A6 hm)]
     exact (ae (D3 B w) (append_assoc Q [y] [z]).symm).trans (Uw (qZ G hQ hr h) (Bc G hQ hr h))
    ·rw [ih (Bb hQ G hr) (qX hm)]
     show D3 B w (Q++([y]++([z]++[u])))=D0 Q*(t1 B w y 0*t1 B w z 1*t1 B w u 2)+D1 B w Q*0+D2 B w Q*0;rw [<-append_assoc,<-append_assoc];exact (Uv (qZ G hQ hr h) (Bc G hQ hr h) (Ut G hQ hr h)).trans (by rw [mul_zero,mul_zero];rfl)
  ·rw [if_neg h,A8 G hw h]
end
def Kw(aW:aa)(D aS:aI):Prop:=aS.length=D.length/\∀j,aS[j]?=D[j]?\/(j∈aW/\∃d,aS[j]?=some (some (PV.d d)))
def Nr(k i:Nat)(D:aI):Prop:=∀j p,j≠i->D[j]?=some (some p)->jV k p=true
section
variable{D aS aO:aI}{s V s'':ah}{n j k:Nat}
def gv:Kw aW D D:=⟨rfl,λZ=>.inl rfl⟩
def be(h:Kw aW D aS)(ha:D[j]?=some X)(hj:j∉aW:=by decide):aS[j]?=some X:=((h.2 j).resolve_right λq=>hj q.1).trans ha
def iY(h:Kw aW aO D)(h':Kw J' D aS)(hs:∀j∈J',j∈aW):Kw aW aO aS:=⟨h'.1.trans h.1,λi=>(h'.2 i).elim (λe=>(h.2 i).imp e.trans (And.imp_right (Exists.imp λZ=>e.trans))) λq=>.inr ⟨hs i q.1,q.2⟩⟩
def c7(h:Kw aW D aS)(hl:j<D.length):j<aS.length:=h.1.symm▸hl
def lc(h:i≠j):(D.set j x)[i]?=D[i]?:=List.getElem?_set_ne (Ne.symm h)
def wO(h:¬j<D.length):(D.set j x)[j]?=D[j]?:=ae (λl:aI=>l[j]?) (List.set_eq_of_length_le (le_of_not_lt h))
def c8(h:Kw aW D aS)(hj:j∈aW:=by decide):Kw aW D (aS.set j (some (.d d))):=⟨(length_set ..).trans h.1,λi=>by
 by_cases c:i=j
 ·subst c
  by_cases l:i<aS.length
  ·exact .inr ⟨hj,d,getElem?_set_self l⟩
  ·rw [wO l];exact h.2 i
 ·rw [lc c];exact h.2 i⟩
def wP(h:Kw aW D aS):Kw aW (D.set j x) (aS.set j x):=⟨(length_set ..).trans (h.1.trans (length_set ..).symm),λi=>by
 by_cases c:i=j
 ·subst c
  by_cases l:i<aS.length
  ·exact .inl ((getElem?_set_self l).trans (getElem?_set_self (h.1▸l)).symm)
  ·rw [wO l,wO (h.1▸l)];exact h.2 i
 ·rw [lc c,lc c];exact h.2 i⟩
def Ux(h:Kw aW (D.set j x) aS)(hl:j<D.length):Kw (j::aW) D (aS.set j (some (.d d))):=⟨(length_set ..).trans (h.1.trans (length_set ..)),λi=>by
 by_cases c:i=j
 ·subst c
  exact .inr ⟨.head _,d,getElem?_set_self (h.1.symm▸(length_set ..).symm▸hl)⟩
 ·rw [lc c]
  exact (h.2 i).imp (λe=>e.trans (lc c)) (And.imp_left (mem_cons_of_mem _))⟩
def l9(h:Kw aW D aS)(hn:Nr k i D):Nr k i aS:=λj p hj hp=>(h.2 j).elim (λe=>hn j p hj (e▸hp)) λ⟨_,d,e⟩=>by
 cases e.symm.trans hp
 rfl
def Be(hn:Nr k i D):Nr k i (D.set i x):=λj p hj hp=>hn j p hj (lc hj▸hp)
def rd(hn:Nr k i D):(D.set i none).all (λx=>match x with|some p=>jV k p|none=>true)=true:=dA.mpr λx hx=>by
 obtain ⟨j,hj⟩:=List.mem_iff_getElem?.mp hx
 match x,hj with
 |none,_=>rfl
 |some p,hj=>
  by_cases c:j=i
  ·subst c
   have hl:j<D.length:=(length_set ..)▸(fB.mp hj).1;cases (getElem?_set_self hl).symm.trans hj
  ·exact hn j p c (lc c▸hj)
def re(h:(D.set i none).all (λx=>match x with|some p=>jV k p|none=>true)=true):Nr k i D:=λj p hj hp=>dA.mp h (some p) (ez ((lc hj).trans hp))
def aN(I:D[j]?=some X)(h:j≠k:=by decide):(D.set k x)[j]?=some X:=(List.getElem?_set_ne (Ne.symm h)).trans I
def bT(h:k<D.length):(D.set k x)[k]?=some x:=getElem?_set_self h
def bH(h:j<D.length):j<(D.set k x).length:=(length_set ..).symm▸h
def iZ{u v:List α}(hu:u.length<=m)(hv:v.length<=k):(u++v).length<=m+k:=(length_append ..).symm▸eI hu hv
abbrev lb(F:je)(is:aa)(bd:List PS):ab->aI->ah->RS:=λx D s=>(gp is x D).bind λD=>bo F bd D s
def Uy(I:f X D s=some (.next,aS,V))(h:dD f J aS V=R):dD f (X::J) D s=R:=by
 show b3 (f X D s) _=_;rw [I];exact h
def fu(H:gp is X D=some kU)(I:bo F bd kU s=some (.next,aS,V))(h:dD (lb F is bd) J aS V=R):dD (lb F is bd) (X::J) D s=R:=Uy (by
 show (gp is X D).bind _=_;rw [H];exact I) h
def gM:ak Y k o k=o:=bv rfl
def dF(h:j≠k):ak Y k o j=Y j:=bK h
def Bf:(ah.mk (ak Y k o) ow).Y k=o:=by
 show ak Y k o k=o;exact gM
def pf(h:Y j=X)(hj:j≠k):(ah.mk (ak Y k o) ow).Y j=X:=by
 show ak Y k o j=X;exact (dF hj).trans h
def f4:(s.put k o).Y k=some o:=gM
def cu(h:s.Y j=X)(hj:j≠k:=by decide):(s.put k o).Y j=X:=(dF (Y:=s.Y) hj).trans h
def ma:ak (ak τ k o) k o'=ak τ k o':=funext λj=>by
 by_cases c:j=k
 ·subst c;exact gM.trans gM.symm
 ·exact (dF c).trans ((dF c).trans (dF c).symm)
def nA(hk:k≠l):ak (ak τ k o) l o'=ak (ak τ l o') k o:=funext λj=>by
 by_cases c:j=l
 ·subst c;exact gM.trans ((dF (Ne.symm hk)).trans gM).symm
 ·refine (dF c).trans ?_
  by_cases d:j=k
  ·subst d;exact gM.trans gM.symm
  ·exact (dF d).trans ((dF d).trans (dF c)).symm
def HG(h:τ k=none):ak τ k none=τ:=funext λj=>by
 by_cases c:j=k
 ·subst c;exact gM.trans h.symm
 ·exact dF c
def HH(hk:k∉own):(k::own).filter (· !=k)=own:=by
 rw [filter_cons_of_neg (by simp)];exact List.filter_eq_self.mpr λj hj=>bne_iff_ne.mpr λq=>hk (q▸hj)
def jM(h:s.Y k=some o):s.put k o=s:=ae (λY=>(⟨Y,s.own⟩:ah)) (funext λj=>by
 by_cases c:j=k
 ·subst c;exact gM.trans h.symm
 ·exact dF c)
def gy:(s.put k o).put k o'=s.put k o':=ae (λY=>(⟨Y,s.own⟩:ah)) ma
def gz(h:k≠l):(s.put k o).put l o'=(s.put l o').put k o:=ae (λY=>(⟨Y,s.own⟩:ah)) (nA h)
end
abbrev FQ(n:Nat):je:=gL qP n
section
variable{p q:Pos}
def Uz(a:PV):(FQ (n+1)).fn 0 [a] s=dv (FQ n) Do 1 false [a] s:=rfl
def UA(a:PV):(FQ (n+1)).fn 1 [a] s=dv (FQ n) Dp 1 false [a] s:=rfl
def UB(a:PV):(FQ (n+1)).fn 2 [a] s=dv (FQ n) Dq 1 false [a] s:=rfl
def UC(a:PV):(FQ (n+1)).fn 3 [a] s=dv (FQ n) Dr 1 false [a] s:=rfl
def UD(a b c:PV):(FQ (n+1)).fn 4 [a,b,c] s=dv (FQ n) qh 12 true [a,b,c] s:=rfl
def UE(a:PV):(FQ (n+1)).fn 5 [a] s=dv (FQ n) uV 3 false [a] s:=rfl
def UF(a:PV):(FQ (n+1)).fn 6 [a] s=dv (FQ n) DA 4 false [a] s:=rfl
def UG(a b c d:PV):(FQ (n+1)).fn 7 [a,b,c,d] s=dv (FQ n) ol 14 false [a,b,c,d] s:=rfl
def UH(a b c d:PV):(FQ (n+1)).fn 8 [a,b,c,d] s=dv (FQ n) jh 12 false [a,b,c,d] s:=rfl
def UI(a b:PV):(FQ (n+1)).fn 9 [a,b] s=dv (FQ n) yo 11 false [a,b] s:=rfl
def UJ(a:PV):(FQ (n+1)).fn 10 [a] s=dv (FQ n) yp 3 false [a] s:=rfl
def HI(a b c d:PV):(FQ (n+1)).fn 11 [a,b,c,d] s=dv (FQ n) DB 5 false [a,b,c,d] s:=rfl
def UK(a b c:PV):(FQ (n+1)).fn 12 [a,b,c] s=dv (FQ n) mI 11 false [a,b,c] s:=rfl
def UL(a b:PV):(FQ (n+1)).fn 13 [a,b] s=dv (FQ n) qi 17 false [a,b] s:=rfl
def UM(a:PV):(FQ (n+1)).fn 14 [a] s=dv (FQ n) jX 23 false [a] s:=rfl
def UN(a:PV):(FQ (n+1)).fn 20 [a] s=dv (FQ n) Dt 1 false [a] s:=rfl
def UO(a:PV):(FQ (n+1)).fn 21 [a] s=dv (FQ n) Dx 1 false [a] s:=rfl
def UP(a b:PV):(FQ (n+1)).fn 23 [a,b] s=dv (FQ n) Du 2 false [a,b] s:=rfl
def UQ(a b:PV):(FQ (n+1)).fn 24 [a,b] s=dv (FQ n) Dv 5 false [a,b,.d .none] s:=rfl
def UR(a:PV):(FQ (n+1)).fn 25 [a] s=dv (FQ n) Dw 1 false [a] s:=rfl
def US(a b c:PV):(FQ (n+1)).fn 26 [a,b,c] s=dv (FQ n) Dy 4 false [a,b,c] s:=rfl
def UT(a b c:PV):(FQ (n+1)).fn 27 [a,b,c] s=dv (FQ n) Dz 7 false [a,b,c,.d (.dict [])] s:=rfl
def sq(h:ex F t D s=some (.next,aS,V))(I:bo F ts aS V=R):bo F (t::ts) D s=R:=(k5 h).trans I
def sr(h:ex F t D s=some (.ret r,aS,V))(I:some (.ret r,aS,V)=R):bo F (t::ts) D s=R:=(jH h).trans I
def ic(h:bP F z D s=some (true,V))(I:bo F l1 D V=R):ex F (.ite z l1 l2 p) D s=R:=(nc h).trans I
def gN(h:bP F z D s=some (false,V))(I:bo F l2 D V=R):ex F (.ite z l1 l2 p) D s=R:=(nc h).trans I
def wQ{b:Bool}:ev F (.cB b p) D s=some (.d (.bool b),s):=rfl
def HJ(H:∀k∈own,Y k=none)(I:∀k,k∉own->σ' k=Y k):jf own σ'=Y:=by
 funext k
 show (if k∈own then none else σ' k)=Y k;by_cases h:k∈own
 ·rw [if_pos h,H k h]
 ·rw [if_neg h,I k h]
def Bg(h:bo F body (args.map some++List.replicate (nv - args.length) none) ⟨s.Y,[]⟩=some (.ret (.d d),D,t))(c9:t.Y 30=none):dv F body nv false args s=some (.d d,⟨jf t.own t.Y,s.own⟩):=by
 show b3 (bo F body _ _) _=_;rw [h];show (if false=true then (some (PV.d d,(⟨t.Y,t.own++s.own⟩:ah))) else if t.own=[]\/(t.Y 30).isNone=true\/30∈t.own then some (PV.d d,⟨jf t.own t.Y,s.own⟩) else none)=_;rw [if_neg (by decide)];exact bv (.inr (.inl (by rw [c9];rfl)))
def UU(h:bo F body (args.map some++List.replicate (nv - args.length) none) ⟨s.Y,[]⟩=some (.ret (.d d),D,t))(c9:s.Y 30=none)(H:∀k∈t.own,s.Y k=none/\k≠30)(I:∀k,k∉t.own->t.Y k=s.Y k):dv F body nv false args s=some (.d d,s):=by
 rw [Bg h ((I 30 λq=>(H 30 q).2 rfl).trans c9),HJ (λk hk=>(H k hk).1) I]
theorem Bh:∀{J:List ab}{acc:List ab},(∀x∈J,f x s=some (g x,s))->gU f J acc s=some (acc++J.filterMap g,s)
 |[],acc,_=>by rw [List.filterMap_nil,append_nil];rfl
 |x::J,acc,h=>by
  show bS (f x s) _=_;rw [h x (.head _)];show gU f J (acc++(g x).toList) s=_;rw [Bh λy hy=>h y (.tail _ hy),append_assoc];cases e:g x with
  |none=>rw [List.filterMap_cons_none e];rfl
  |some y=>rw [List.filterMap_cons_some e];rfl
def gO(H:gE F it D s=some ((J,lk),V))(I:J.length<=lim)
  (h3:gU (mG (lJ F cs) (ev F e) tg (List.replicate nl none++n8 D bX)) J [] (V.lock lk)=some (ys,s'')):ev F (.comp none bX tg nl it cs e sc tq p) D s=some (.d (.list ys),s''.unlock lk):=
 (au H).trans ((bv I).trans (au h3))
def gA(H:gp tg d D=some aS)(I:lH aS s=some (c,s))(h3:c=true->lI aS s=some (.d d',s)):mG lH lI tg D d s=some (if c then some d' else none,s):=by
 show (gp tg d D).bind _=_;rw [H];show bS (lH aS s) _=_;rw [I];cases c with
 |true=>
  show bS (lI aS s) _=_;rw [h3 rfl];rfl
 |false=>rfl
def HK(h:D[0]?=some (some (.hdr j))):ev F (.attr (.v 0 q) p) D s=some (.ref j,s):=(au (ag h)).trans rfl
def Bi(h:D[0]?=some (some (.hdr j)))(hs:s.Y j=some (.list J)){q2:Pos}:gE F (.val (.attr (.v 0 q) p)) D s=some ((J,some j),s):=fH (HK h) (DH hs)
def UV(i:Int):(FQ (n+1)).fn 1 [.d (.int i)] s=some (.d (.bool (decide (i<256))),s):=(UA _).trans<|iI rfl
def HL(i:Int):(FQ (n+1)).fn 2 [.d (.int i)] s=some (.d (.bool (decide (i>=256))),s):=(UB _).trans<|iI rfl
def HM(i:Int):(FQ (n+1)).fn 3 [.d (.int i)] s=some (.d (.bool (i==0)),s):=(UC _).trans<|iI rfl
noncomputable def hd (p:aa×aa):ab:=.tup [.str p.1,.str p.2]
def bQ(x:aa):aa:=x.map my
def dR(x:aa):Prop:=∀c∈x,(32<=c/\c<127)
def wR{x:aa}(h:ev F e D s=some (.d (.str x),V))(hx:dR x):ev F (.me .lower e [] q p) D s=some (.d (.str (bQ x)),V):=
 gu h rfl b9 rfl (by
  show (if x.all (λc=>decide (c<128))=true then some (ab.str (bQ x)) else none).map (λd=>(PV.d d,V))=_;rw [if_pos (List.all_eq_true.mpr λc hc=>decide_eq_true (by have:=hx c hc;exact (Nat.le_trans this.2 (by decide:127<=128))))]
  rfl)
def HN{x:aa}(h:dR x):lA (bQ x)=true:=by
 refine dA.mpr λc hc=>?_;obtain ⟨d,hd,rfl⟩:=bu.mp hc;have:=h d hd;unfold my
 split<;>simp<;>lia
def wS{x:aa}(h:dR x):lA x=true/\mz x=true:=by
 constructor
 ·refine dA.mpr λc hc=>?_
  have:=h c hc;simp;exact ⟨this.1,(cX this.2)⟩
 ·refine dA.mpr λc hc=>?_
  have:=h c hc;simp;lia
def UW(h:s.Y j=some (.list J)):(FQ (n+1)).fn 20 [.hdr j] s=some (.d (.int J.length),s):=(UN _).trans<|
 iI (jH (fe (iH rfl (DI h))))
def UX(h:s.Y j=some (.list J)):(FQ (n+1)).fn 25 [.hdr j] s=some (.d (.list J),s):=(UR _).trans<|
 iI (jH (fe ((au rfl).trans (by
  show pS ((eW ⟨s.Y,[]⟩ (.ref j)).map λJ=>PV.d (.list (slc J (dL none J.length) (eB none J.length)))) _=_;rw [u4 (s:=⟨s.Y,[]⟩) h];show some (PV.d (.list ((J.take J.length).drop 0)),_)=_;rw [take_length];rfl))))
def HO{j:Nat}{hl:List (aa×aa)}{x:aa}(h:s.Y j=some (.list (hl.map hd)))(hx:dR x)(hk:∀p∈hl,dR p.1)(hlen:hl.length<=lim):
  (FQ (n+2)).fn 23 [.hdr j,.d (.str x)] s=some (.d (.list ((hl.filter λp=>bQ p.1==bQ x).map λp=>.str p.2)),s):=by
 refine (UP _ _).trans<|iI (D:=[some (.hdr j),some (.d (.str (bQ x)))]) ?_
 refine (k5 (bI (nh (ag rfl) (wR (ag rfl) hx) rfl (wu rfl n _ _ _ (HN hx))))).trans (jH (fe ?_));refine Eq.trans (gO (Bi (q2:=default) rfl h) (by rw [length_map];exact hlen) (Bh (g:=λd=>match d with|.tup [.str a,.str b]=>if bQ a==bQ x then some (.str b) else none|_=>none) λd mM=>?_)) ?_
 ·obtain ⟨p,hp,rfl⟩:=bu.mp mM
  refine gA rfl ?_ λZ=>rfl;refine (au (x:=bQ p.1==bQ x) (cT (wR rfl (hk p hp)) (ag rfl) rfl)).trans ?_;cases bQ p.1==bQ x<;>rfl
 ·rw [oZ (s:=⟨s.Y,[]⟩) h,nil_append]
  refine ae (λl=>some (PV.d (.list l),(⟨s.Y,[]⟩:ah))) ?_;rw [List.filterMap_map]
  clear h hk hlen
  induction hl with
  |nil=>rfl
  |cons p l ih=>
   cases e:bQ p.1==bQ x with
   |true=>
    rw [filter_cons_of_pos (p:=λp:aa×aa=>bQ p.1==bQ x) e,map_cons,<-ih,List.filterMap_cons_some];show (if bQ p.1==bQ x then some (ab.str p.2) else none)=_;rw [e];rfl
   |false=>
    rw [filter_cons_of_neg (by rw [e];decide),<-ih,List.filterMap_cons_none];show (if bQ p.1==bQ x then some (ab.str p.2) else none)=_;rw [e];rfl
def md{f j:Nat}{es:List PE}{l:List PV}{o:PE}{r:PV×ah}(h:ev F o D s=some (.hdr j,V))(I:iw F es D V=some (l,s''))(h3:F.fn f (.hdr j::l) s''=some r):ev F (.meth f o es q p) D s=some r:=(au h).trans ((au I).trans h3)
def f5{f:Nat}{es:List PE}{l:List PV}{r:PV×ah}(I:iw F es D s=some (l,V))(h3:F.fn f l V=some r):ev F (.call f es q p) D s=some r:=(au I).trans h3
def nB(h:ev F e D s=some (.ref j,V))(hs:V.Y j=some (.list J))(ha:ev F a D V=some (.d d,s''))(fb:s''.Y j=some (.list J))(hl:J.length+1<=lim):
  ev F (.me .append e [a] q p) D s=some (.d .none,s''.put j (.list (J++[d]))):=
 gu h (ae (Option.map λZ=> "list") (sf hs)) (aP ha b9) (ae (Option.map λZ=> "list") (sf fb)) (by
  show Option.map _ ((iT s'' j).bind _)=_;rw [oq fb];exact ae (Option.map _) (bv hl))
def nE(H:ev F a D s=some (.d d,V))(I:ev F b D V=some (.d d',s'')):ev F (.tup [a,b] p) D s=some (.d (.tup [d,d']),s''):=au (aP H (aP I b9))
def wT(h:bo F body (args.map some++List.replicate (nv - args.length) none) ⟨s.Y,[]⟩=some (.ret (.d d),D,⟨σ',[]⟩)):dv F body nv false args s=some (.d d,⟨σ',s.own⟩):=by
 show b3 (bo F body _ _) _=_;rw [h];show some (PV.d d,(⟨jf [] σ',s.own⟩:ah))=_;rw [GQ]
def UY(h:bo F body (args.map some++List.replicate (nv - args.length) none) ⟨s.Y,[]⟩=some (.next,D,⟨σ',own⟩))(c9:σ' 30=none):dv F body nv false args s=some (.d .none,⟨jf own σ',s.own⟩):=by
 show b3 (bo F body _ _) _=_;rw [h];exact bv (.inr (.inl (by show (σ' 30).isNone=true;rw [c9];rfl)))
def UZ{f:ab->aI->ah->RS}{x:ab}{J:List ab}(h:f x D s=some (.ret r,aS,V)):dD f (x::J) D s=some (.ret r,aS,V):=by
 show b3 (f x D s) _=_;rw [h];rfl
abbrev i0(x:aa)(p:aa×aa):Bool:=bQ p.1==bQ x
theorem HP{F:je}{j:Nat}{x:aa}{s:ah}:∀{hl:List (aa×aa)}(o1 o2:Option PV),(∀p∈hl,dR p.1)->∃Bj kd,
  dD (λx D s=>(gp [3,4] x D).bind λD=>bo F [.ite (.cmp .eq (.me .lower (.v 3 (U 123 15 16)) [] (U 123 15 22) (U 123 15 24)) (.v 1 (U 123 28 32)) (U 123 15 32)) [.ret (.v 4 (U 124 23 24)) (U 124 16 24)] [] ⟨123,12,124,24⟩] D s)
   (hl.map hd) [some (.hdr j),some (.d (.str (bQ x))),some (.d .none),o1,o2] s=some (match hl.find? (i0 x) with|some p=>.ret (.d (.str p.2))|none=>.next,[some (.hdr j),some (.d (.str (bQ x))),some (.d .none),Bj,kd],s)
 |[],o1,o2,_=>⟨o1,o2,rfl⟩
 |p::hl,o1,o2,h=>by
  have e1:bo F [.ite (.cmp .eq (.me .lower (.v 3 (U 123 15 16)) [] (U 123 15 22) (U 123 15 24)) (.v 1 (U 123 28 32)) (U 123 15 32)) [.ret (.v 4 (U 124 23 24)) (U 124 16 24)] [] ⟨123,12,124,24⟩] [some (.hdr j),some (.d (.str (bQ x))),some (.d .none),some (.d (.str p.1)),some (.d (.str p.2))] s=
    b3 (cond (i0 x p) (some (.ret (.d (.str p.2)),[some (.hdr j),some (.d (.str (bQ x))),some (.d .none),some (.d (.str p.1)),some (.d (.str p.2))],s)) (some (.next,[some (.hdr j),some (.d (.str (bQ x))),some (.d .none),some (.d (.str p.1)),some (.d (.str p.2))],s))) λf D s=>f.go D s (some (.next,D,s)):=by
   show b3 (ex F _ _ s) _=_;rw [nc (cT (wR (ag rfl) (h p (.head _))) (ag rfl) (c:=i0 x p) rfl)];cases i0 x p<;>rfl
  cases e:i0 x p with
  |true=>
   refine ⟨some (.d (.str p.1)),some (.d (.str p.2)),?_⟩;rw [find?_cons_of_pos e];exact UZ (e1.trans (by rw [e];rfl))
  |false=>
   refine nV (HP (F:=F) (j:=j) (x:=x) (s:=s) (some (.d (.str p.1))) (some (.d (.str p.2))) λq hq=>h q (.tail _ hq)) λBj kd ih=>?_;refine ⟨Bj,kd,?_⟩;rw [find?_cons_of_neg (by rw [e];decide),<-ih];exact wm (e1.trans (by rw [e];rfl))
def tR(hl:List (aa×aa))(x:aa):ab:=match hl.find? (i0 x) with
 |some p=>.str p.2
 |none=>.none
def HQ{j:Nat}{hl:List (aa×aa)}{x:aa}(h:s.Y j=some (.list (hl.map hd)))(hx:dR x)(hk:∀p∈hl,dR p.1):
  (FQ (n+2)).fn 24 [.hdr j,.d (.str x)] s=some (.d (tR hl x),s):=by
 refine nV (HP (F:=FQ (n+1)) (j:=j) (x:=x) (s:=ah.lock ⟨s.Y,[]⟩ (some j)) none none hk) λo1 o2 e=>?_;have e2:=k6 (tq:=[(U 122 12 13),(U 122 15 16)]) (q:=U 122 12 16) (p:=⟨122,8,124,24⟩) (Bi (s:=⟨s.Y,[]⟩) (q:=U 122 20 24) (p:=U 122 20 33) (q2:=default) (D:=[some (.hdr j),some (.d (.str (bQ x))),some (.d .none),none,none]) rfl h) e;rw [oZ (s:=⟨s.Y,[]⟩) h] at e2;refine (UQ _ _).trans<|iI (D:=[some (.hdr j),some (.d (.str (bQ x))),some (.d .none),o1,o2]) ?_
 refine (k5 (bI (nh (ag rfl) (wR (ag rfl) hx) rfl (wu (gl:=qP) rfl n _ _ _ (HN hx))))).trans ?_;unfold tR;cases ef:hl.find? (i0 x) with
 |some p=>rw [ef] at e2;exact jH e2
 |none=>rw [ef] at e2;exact (k5 e2).trans (jH (fe (ag rfl)))
def wU{j:Nat}{x:aa}{b:Bool}(hx:dR x):(FQ (n+1)).fn 22 [.hdr j,.d (.str x),.d (.bool b)] s=some (.d (.str x),s):=by
 cases b
 ·exact GS rfl n _ _ _ (wS hx).2
 ·exact wu rfl n _ _ _ (wS hx).1
def U0{j:Nat}{hl:List (aa×aa)}{x v:aa}(h:s.Y j=some (.list (hl.map hd)))(hx:dR x)(hv:dR v)(hk:∀p∈hl,dR p.1)(hlen:hl.length+1<=lim):
  (FQ (n+3)).fn 26 [.hdr j,.d (.str x),.d (.str v)] s=match hl.find? (i0 x) with
   |some p=>some (.d (.str p.2),s)
   |none=>some (.d (.str v),s.put j (.list ((hl++[(x,v)]).map hd))):=by
 have e1:ev (FQ (n+2)) (.meth 24 (.v 0 (U 146 17 21)) [(.v 1 (U 146 26 30))] (U 146 17 25) (U 146 17 31)) [some (.hdr j),some (.d (.str x)),some (.d (.str v)),none] ⟨s.Y,[]⟩=some (.d (tR hl x),⟨s.Y,[]⟩):=md (ag rfl) (aP (ag rfl) b9) (HQ h hx hk);rw [US];unfold tR at e1;cases e:hl.find? (i0 x) with
 |some p=>
  rw [e] at e1;exact iI ((k5 (bI e1)).trans (jH ((nc (c:=false) (cT (ag rfl) rfl rfl)).trans (jH (fe (ag rfl))))))
 |none=>
  rw [e] at e1;refine Eq.trans (wT (D:=[some (.hdr j),some (.d (.str x)),some (.d (.str v)),some (.d .none)]) ?_) (by rw [map_append];rfl);refine sq (bI e1) (sr (ic (cT (ag rfl) rfl rfl) ?_) rfl);refine sq (jp (nB (HK rfl) h (nE (nh (ag rfl) (ag rfl) wQ (wU hx)) (nh (ag rfl) (ag rfl) wQ (wU hv))) h (by rw [length_map];exact hlen)) rfl) ?_;exact sr (fe (ag rfl)) rfl
def mf(h:ev F e D s=some (.d (.str aA),V))(ha:ev F a D V=some (x,s''))(hl:uJ s'' x=some l)(hx:gm l=some J)(H:J.length*(aA.length+1)<=8000000)(I:(J.map List.length).sum<=8000000):
  ev F (.me .join e [a] q p) D s=some (.d (.str (bZ aA J)),s''):=
 gu h rfl (aP ha b9) rfl (by
  show Option.map _ (((uJ s'' x).bind gm).bind (xZ aA))=_;rw [hl];show Option.map _ ((gm l).bind (xZ aA))=_;rw [hx];show Option.map _ (if J.length*(aA.length+1)<=8000000/\(J.map List.length).sum<=8000000 then some (ab.str (bZ aA J)) else none)=_;rw [if_pos ⟨H,I⟩];rfl)
noncomputable def nS (l:List PS) (k:Nat):PS:=l.getD k (.fail [])
noncomputable def ph:PS->List PS
 |.ite _ a _ _=>a
 |_=>[]
noncomputable def fL:PS->List PS
 |.for1 _ _ b _ _=>b
 |.forT _ _ b _ _ _=>b
 |.whl _ b _=>b
 |_=>[]
noncomputable def fv:PS->PT
 |.whl t _ _=>t
 |.ite t _ _ _=>t
 |_=>.e (.cN default)
def HR{j:Nat}{hl:List (aa×aa)}{x v:aa}(h:s.Y j=some (.list (hl.map hd)))(hj:j≠16)(gB:s.Y 16=none)(c9:s.Y 30=none)(hx:dR x)(hv:dR v)(hlen:hl.length+1<=lim)(gr:v.length<=1000):
  (FQ (n+2)).fn 27 [.hdr j,.d (.str x),.d (.str v)] s=some (.d .none,s.put j (.list ((hl++[(x,v)]).map hd))):=by
 rw [UT];have H:(ak s.Y 16 (some (.list []))) 16=some (.list []):=rfl;have I:(ak (ak s.Y 16 (some (.list []))) 16 (some (.list [.str v]))) 16=some (.list [.str v]):=rfl;have h3:(ak (ak s.Y 16 (some (.list []))) 16 (some (.list [.str v]))) j=some (.list (hl.map hd)):=by
  show (if j=16 then _ else if j=16 then _ else s.Y j)=_;rw [if_neg hj,if_neg hj,h]
 refine Eq.trans (UY (D:=[some (.hdr j),some (.d (.str x)),some (.d (.str v)),some (.d (.dict [])),some (.ref 16),none,none]) (own:=[16]) (σ':=ak (ak (ak s.Y 16 (some (.list []))) 16 (some (.list [.str v]))) j (some (.list (hl.map hd++[hd (x,v)])))) ?_ ?_) ?_
 ·refine sq (bI (x:=.ref 16) (V:=⟨ak s.Y 16 (some (.list [])),[16]⟩) ?_) ?_
  ·exact gf gB
  refine sq (aS:=[some (.hdr j),some (.d (.str x)),some (.d (.str v)),some (.d (.dict [])),some (.ref 16),none,none]) (V:=⟨ak (ak s.Y 16 (some (.list []))) 16 (some (.list [.str v])),[16]⟩) (ic rfl ?_) ?_
  ·refine sq (bI (nh rfl rfl wQ (wU hv))) ?_
   exact rfl
  refine sq (aS:=[some (.hdr j),some (.d (.str x)),some (.d (.str v)),some (.d (.dict [])),some (.ref 16),none,none]) (V:=⟨ak (ak s.Y 16 (some (.list []))) 16 (some (.list [.str v])),[16]⟩) rfl ?_;refine sq (jp (nB (J:=hl.map hd) (d:=hd (x,v)) rfl h3 (nE (nh rfl rfl wQ (wU hx)) (mf (aA:=[59,32]) (l:=[.str v]) (J:=[v]) rfl (ag rfl) ?_ rfl (show 1*3<=8000000 by decide) ?_)) h3 (by rw [length_map];exact hlen)) rfl) rfl
  ·show (match (ak (ak s.Y 16 (some (.list []))) 16 (some (.list [.str v]))) 16 with|some (aV.list J)=>some J|_=>none)=_
   rw [I]
  ·show v.length+0<=_
   exact (af gr (by decide:1000<=8000000))
 ·show (if 30=j then _ else if 30=16 then _ else if 30=16 then _ else s.Y 30)=none
  by_cases e:30=j
  ·rw [<-e,c9] at h;exact av h
  ·rw [if_neg e,if_neg (by decide),if_neg (by decide),c9]
 ·refine ae (λY=>some (PV.d .none,(⟨Y,s.own⟩:ah))) ?_
  rw [map_append]
  funext k
  show (if k∈[16] then none else if k=j then _ else if k=16 then _ else if k=16 then _ else s.Y k)=if k=j then _ else s.Y k
  by_cases e:k=16
  ·subst e
   rw [if_pos (.head _),if_neg (Ne.symm hj),gB]
  ·rw [if_neg (by simpa using e)]
   by_cases e2:k=j
   ·rw [if_pos e2,if_pos e2];rfl
   ·rw [if_neg e2,if_neg e2,if_neg e,if_neg e]
noncomputable def jN (p:aa×aa):aa:=p.1++58::32::p.2
theorem lf:∀l:List aa,gm (l.map ab.str)=some l
 |[]=>rfl
 |x::l=>by
  show (gm (l.map ab.str)).map (x::·)=_;rw [lf l];rfl
def U1{j:Nat}{hl:List (aa×aa)}(h:s.Y j=some (.list (hl.map hd)))(hlen:hl.length<=1000)(hk:∀p∈hl,p.1.length<=1000/\p.2.length<=1000):
  (FQ (n+1)).fn 21 [.hdr j] s=some (.d (.str (bZ [13,10] (hl.map jN++[[],[]]))),s):=by
 refine (UO _).trans<|iI (D:=[some (.hdr j)]) (jH (fe ?_))
 have e1:ev (FQ n) (.comp none [] [0] 1 (.val (.attr (.v 0 (U 140 52 56)) (U 140 52 65))) [] (.bin .fmt (.cS [37,115,58,32,37,115] (U 140 28 36)) (.v 0 (U 140 39 41)) (U 140 28 41)) (fR [("kv",.local)]) [(U 140 46 48)] (U 140 27 66)) [some (.hdr j)] ⟨s.Y,[]⟩=some (.d (.list ((hl.map jN).map ab.str)),⟨s.Y,[]⟩):=by
  refine Eq.trans (gO (Bi (q2:=default) rfl h) (by rw [length_map];exact af hlen (by decide)) (Bh (g:=λd=>match d with|.tup [.str a,.str b]=>some (.str (jN (a,b)))|_=>none) λd mM=>?_)) ?_
  ·obtain ⟨p,hp,rfl⟩:=bu.mp mM
   refine gA (c:=true) rfl rfl λZ=>dM rfl (ag rfl) ?_;have:=hk p hp;show (if [37,115,58,32,37,115]=[37,115,58,32,37,115]/\p.1.length<=1000000/\p.2.length<=1000000 then some (PV.d (ab.str (p.1++[58,32]++p.2))) else none)=some (PV.d (ab.str (p.1++([58,32]++p.2))));rw [if_pos ⟨rfl,(Nat.le_trans this.1 (by decide:1000<=1000000)),(Nat.le_trans this.2 (by decide:1000<=1000000))⟩,append_assoc]
  ·rw [oZ (s:=⟨s.Y,[]⟩) h,nil_append,map_map]
   refine ae (λl=>some (PV.d (.list l),(⟨s.Y,[]⟩:ah))) ?_;rw [List.filterMap_map];exact List.filterMap_eq_map'▸rfl
 refine mf rfl (dM e1 rfl (r:=.d (.list ((hl.map jN++[[],[]]).map ab.str))) ?_) rfl (lf _) ?_ ?_
 ·show (if ((hl.map jN).map ab.str++[ab.str [],ab.str []]).length<=lim then _ else _)=_
  rw [if_pos (by simp only [length_append,length_map,length_cons,length_nil];exact Nat.le_trans (Nat.add_le_add_right hlen _) (by decide)),map_append];rfl
 ·simp only [length_append,length_map,length_cons,length_nil];lia
 ·rw [map_append,List.sum_append]
  have:∀l:List (aa×aa),(∀p∈l,p.1.length<=1000/\p.2.length<=1000)->((l.map jN).map List.length).sum<=2002*l.length:=by
   intro l;induction l with
   |nil=>intro _;decide
   |cons p l ih=>
    intro hl;have H:=hl p (.head _);have I:=ih λq hq=>hl q (.tail _ hq);show (p.1++58::32::p.2).length+((l.map jN).map List.length).sum<=_;rw [length_append,length_cons,length_cons,length_cons];lia
  have:=this hl hk;show _+(0+(0+0))<=_;lia
end
section
variable{s V s'':ah}{p q:Pos}
def ie:ak Y k o k=o:=bv rfl
def HS:(s.put k o).Y k=some o:=ie
def wV{q:Option Fl×aI×ah}(h:f D s=some q):lG f (n+1) D s=q.1.elim (lG f n q.2.1 q.2.2) λfl=>some (fl,q.2):=
 ae (λo=>o.bind λq=>q.1.elim (lG f n q.2.1 q.2.2) λfl=>some (fl,q.2)) h
def U2(h:f D s=some (none,aS,V)):gb f D s=gb f aS V:=
 ae pick<|funext λZ=>propext ⟨λ⟨n,e⟩=>n.casesOn (λe=>av e) (λn e=>⟨n,(wV h).symm.trans e⟩) e,λ⟨n,e⟩=>⟨n+1,(wV h).trans e⟩⟩
def U3(h:f D s=some (some fl,aS,V)):gb f D s=some (fl,aS,V):=
 have e:∃r,∃n,lG f n D s=some r:=⟨_,1,wV h⟩
 (dif_pos e).trans (ae some (e.choose_spec.elim λn e=>n.casesOn (λe=>av e) (λn e=>(ax ((wV h).symm.trans e)).symm) e))
def tT(H:bP F z D s=some (true,V))(I:bo F bd D V=some (.next,aS,s''))(h:gb (gV (bP F z) (bo F bd)) aS s''=R):gb (gV (bP F z) (bo F bd)) D s=R:=
 (U2 ((au H).trans (by rw [I];rfl))).trans h
def tU(H:bP F z D s=some (false,V)):gb (gV (bP F z) (bo F bd)) D s=some (.next,D,V):=U3 ((au H).trans rfl)
def tW(h:gb (gV (bP F z) (bo F bd)) D s=R):ex F (.whl z bd p) D s=R:=h
def U4{x:aa}(H:x.length<=1000000)(I:(dC x).length<=1000000):(FQ (n+1)).fn 0 [.d (.str x)] s=some (.d (.str (eJ true (dC x))),s):=by
 refine (Uz _).trans<|iI (jH (fe ?_))
 refine gu rfl rfl (aP rfl (aP (x:=.d (.str (dC x))) (V:=⟨s.Y,[]⟩) (gu rfl rfl rfl rfl ?_) b9)) rfl ?_
 ·show Option.map _ (if x.length<=1000000 then (if 1=1/\[13,10]=[13,10] then some (ab.str (dC x)) else _) else none)=_
  rw [if_pos H];rfl
 ·show Option.map _ (if (dC x).length<=1000000 then (if 0=1/\[46,46]=[13,10] then some (ab.str (dC (dC x))) else if 0=0/\[46,46]=[46,46] then some (ab.str (eJ true (dC x))) else none) else none)=_
  rw [if_pos I];rfl
theorem tX(aA:aa):∀l:List aa,(bZ aA l).length<=(l.map List.length).sum+aA.length*l.length
 |[]=>bN _
 |[a]=>by rw [map_cons,sum_cons];exact (af (bz _ _) (bz _ _))
 |a::b::l=>by
  have ih:=tX aA (b::l);rw [iJ,length_append,length_append,map_cons,sum_cons,length_cons,mul_add,Nat.mul_one];lia
def HT{e:aa}(he:e=[10]\/e=[13]\/e=[13,10])(h:∀x∈L,lK x)(hl:(L.map List.length).sum+2*L.length<=1000000):
  (FQ (n+1)).fn 0 [.d (.str (bZ e L))] s=some (.d (.str (bZ [13,10] (L.map dt))),s):=by
 have H:=tX e L;have I:=tX [13,10] L;have e1:e.length<=2:=by rcases he with rfl|rfl|rfl<;>decide
 have e2:=Nat.mul_le_mul_right L.length e1;have h3:([13,10]:aa).length*L.length=2*L.length:=rfl;rw [U4 ((Nat.le_trans H (Nat.le_trans (Nat.add_le_add_left e2 _) hl))) (by rw [AB he L h];exact (af I (af (dc (cr h3) _) hl))),AB he L h,Hf L h]
def U5{x:Option α}:uN x x=x:=bv rfl
def U6{e:aa}(H:ev (FQ (n+1)) o D s=some (.d (.str (bZ [13,10] L)),V))(I:ev (FQ (n+1)) z D V=some (.lit e,s''))(hL:L≠[])(he:e=[10]\/e=[13]\/e=[13,10])(h:∀x∈L,lK x)(hl:(L.map List.length).sum+2*L.length<=1000000):
  ev (FQ (n+1)) (.qrep o z lp rq rp fq fp) D s=some (.d (.str (bZ [13,10] (L.map dt))),s''):=by
 refine (au H).trans ((au I).trans ?_);have h3:=tX [13,10] L;have h4:([13,10]:aa).length*L.length=2*L.length:=rfl;have e1:e.length<=4:=by rcases he with rfl|rfl|rfl<;>decide
 show (if (bZ [13,10] L).length<=1000000/\e.length<=4 then uN ((FQ (n+1)).fn 0 [.d (.str (bZ [13,10] L))] s'') ((FQ (n+1)).fn 0 [.d (.str (bZ e (cZ [13,10] [] (bZ [13,10] L) 0)))] s'') else none)=_;rw [if_pos ⟨(Nat.le_trans h3 (Nat.le_trans (Nat.add_le_add_left (Nat.le_of_eq h4) _) hl)),e1⟩,tH L hL λx hx d hd=>(h x hx d hd).1,HT (.inr (.inr rfl)) h hl,HT he h hl,U5]
def rf(m k:Nat):jw m (k:Int)=min k m:=clipAt_nat m k
def HU(x:aa)(k:Nat):slc x (dL none x.length) (eB (some (k:Int)) x.length)=x.take k:=by
 show (x.take (jw x.length k)).drop 0=_;rw [rf,List.drop_zero];exact (List.take_eq_take_iff.mpr (by lia))
def U7(x:aa)(k:Nat):slc x (dL (some (k:Int)) x.length) (eB none x.length)=x.drop k:=by
 show (x.take x.length).drop (jw x.length k)=_;rw [rf,take_length];by_cases h:k<=x.length
 ·rw [Nat.min_eq_left h]
 ·rw [min_eq_right (by lia),List.drop_length,drop_eq_nil_of_le (by lia)]
def wW{x:aa}{k:Nat}{i j:Nat}(h:D[i]?=some (some (.d (.str x))))(I:D[j]?=some (some (.d (.int k)))):ev F (.sl (.v i p1) .no (.at_ (.v j p2)) q p) D s=some (.d (.str (x.take k)),s):=by
 refine (au (ag h)).trans ((au rfl).trans ((au ((au (ag I)).trans rfl)).trans ?_));show some (PV.d (.str (slc x (dL none x.length) (eB (some (k:Int)) x.length))),s)=_;rw [HU]
def U8{x:aa}{k:Nat}{i j:Nat}(h:D[i]?=some (some (.d (.str x))))(I:D[j]?=some (some (.d (.int k)))):ev F (.sl (.v i p1) (.at_ (.v j p2)) .no q p) D s=some (.d (.str (x.drop k)),s):=by
 refine (au (ag h)).trans ((au ((au (ag I)).trans rfl)).trans ((au rfl).trans ?_));show some (PV.d (.str (slc x (dL (some (k:Int)) x.length) (eB none x.length))),s)=_;rw [U7]
def HV:List PS:=fL (nS uV 1)
def U9(x:aa):0<dV x:=by unfold dV;lia
def U'{x:aa}(hx:x≠[])(hn:dR x)(acc:List ab)(hl:acc.length+1<=lim)(v2:Option PV)(cH:s.Y 10=some (.list acc)):
  bo (FQ n) HV [some (.d (.str x)),some (.ref 10),v2] s=some (.next,[some (.d (.str ((x.drop (dV x)).dropWhile fE))),some (.ref 10),some (.d (.int (dV x)))],s.put 10 (.list (acc++[nj x]))):=by
 have c1:bP (FQ n) (.cmp .isIn (.sl (.v 1 (U 185 47 51)) .no (.at_ (.v 0 (U 185 53 54))) (U 185 52 54) (U 185 47 55)) (.g 1 (U 185 59 76)) (U 185 47 76)) [some (.d (.int (2:Nat))),some (.d (.str x))] s=some (eF (x.take 2),s):=cT (wW rfl rfl) (Ak rfl) rfl;have c2:bP (FQ n) (.cmp .isIn (.sl (.v 1 (U 185 47 51)) .no (.at_ (.v 0 (U 185 53 54))) (U 185 52 54) (U 185 47 55)) (.g 1 (U 185 59 76)) (U 185 47 76)) [some (.d (.int (3:Nat))),some (.d (.str x))] s=some (eF (x.take 3),s):=cT (wW rfl rfl) (Ak rfl) rfl;have hc:∀(k:Int)(c:Bool),bP (FQ n) (.cmp .isIn (.sl (.v 1 (U 185 47 51)) .no (.at_ (.v 0 (U 185 53 54))) (U 185 52 54) (U 185 47 55)) (.g 1 (U 185 59 76)) (U 185 47 76)) [some (.d (.int k)),some (.d (.str x))] s=some (c,s)->
   mG (lJ (FQ n) [(.cmp .isIn (.sl (.v 1 (U 185 47 51)) .no (.at_ (.v 0 (U 185 53 54))) (U 185 52 54) (U 185 47 55)) (.g 1 (U 185 59 76)) (U 185 47 76))]) (ev (FQ n) (.v 0 (U 185 26 27))) [0] [none,some (.d (.str x))] (.int k) s=some (if c then some (.int k) else none,s):=by
  intro k c h;refine gA (c:=c) rfl ((au h).trans ?_) λZ=>rfl;cases c<;>rfl
 refine sq (bI (x:=.d (.int (dV x))) (V:=s) ?_) ?_
 ·refine iH (x:=.d (.list (.int 1::((if eF (x.take 2) then [ab.int 2] else [])++(if eF (x.take 3) then [ab.int 3] else []))))) (V:=s) ?_ ?_
  ·refine dM (x:=.d (.list [.int 1])) (y:=.d (.list ((if eF (x.take 2) then [ab.int 2] else [])++(if eF (x.take 3) then [ab.int 3] else [])))) rfl ?_ ?_
   ·refine Eq.trans (gO (J:=[.int 2,.int 3]) (lk:=none) (V:=s) (fH (x:=.d (.tup [.int 2,.int 3])) rfl rfl) (by decide) (s'':=s) (ys:=(if eF (x.take 2) then [ab.int 2] else [])++(if eF (x.take 3) then [ab.int 3] else [])) ?_) rfl
    have I:=hc 2 _ c1;have h3:=hc 3 _ c2;show bS (mG _ _ [0] [none,some (.d (.str x))] (.int 2) s) _=_;rw [I];show bS (mG _ _ [0] [none,some (.d (.str x))] (.int 3) s) _=_;rw [h3];show some (([]++(if eF (x.take 2) then some (ab.int 2) else none).toList)++(if eF (x.take 3) then some (ab.int 3) else none).toList,s)=_;cases eF (x.take 2)<;>cases eF (x.take 3)<;>rfl
   ·cases eF (x.take 2)<;>cases eF (x.take 3)<;>rfl
  ·unfold dV
   cases eF (x.take 2)<;>cases eF (x.take 3)<;>rfl
 refine sq (jp (nB (J:=acc) (d:=nj x) (V:=s) (s'':=s) (ag rfl) cH ?_ cH hl) rfl) ?_
 ·have hf:0<(x.take (dV x)).length:=by
   have:=U9 x;have:=List.length_pos_iff.mpr hx;rw [length_take];lia
  refine gu (T:= "dict") (x:=.d (.dict ni)) (Ak rfl) rfl (aP (wW rfl rfl) (aP (x:=.d (.int (256+d5 (x.take (dV x)) [83,65,66] 0))) (V:=s) (dM (x:=.d (.int 256)) (y:=.d (.int (d5 (x.take (dV x)) [83,65,66] 0))) rfl ?_ rfl) b9)) rfl rfl;refine gu (T:= "str") (x:=.d (.str [83,65,66])) rfl rfl (aP (wW rfl rfl) b9) rfl ?_;show Option.map _ (if 0<(x.take (dV x)).length then some (ab.int (d5 (x.take (dV x)) [83,65,66] 0)) else none)=_;rw [if_pos hf];rfl
 refine sq (bI (x:=.d (.str ((x.drop (dV x)).dropWhile fE))) (V:=s.put 10 (.list (acc++[nj x]))) (gu (T:= "str") (x:=.d (.str (x.drop (dV x)))) (U8 rfl rfl) rfl b9 rfl ?_)) rfl;show Option.map _ (if (x.drop (dV x)).all (λc=>decide (32<=c/\c<127)) then some (ab.str ((x.drop (dV x)).dropWhile fE)) else none)=_;rw [if_pos (List.all_eq_true.mpr λc hc=>decide_eq_true (hn c (mem_of_mem_drop hc)))]
 rfl
def Va{x l:aa}(h:Rd x l):∀{s:ah}{acc:List ab}{v2:Option PV},dR x->acc.length+l.length<=lim->s.Y 10=some (.list acc)->∃tY,gb (gV (bP (FQ n) (fv (nS uV 1))) (bo (FQ n) HV)) [some (.d (.str x)),some (.ref 10),v2] s=some (.next,[some (.d (.str [])),some (.ref 10),tY],⟨ak s.Y 10 (some (.list (acc++l.map λ(c:Nat)=>ab.int c))),s.own⟩):=by
 induction h with
 |nil=>
  intro s acc v2 _ _ cH;refine ⟨v2,(tU rfl).trans ?_⟩;rw [map_nil,append_nil];refine ae (λY=>some (Fl.next,_,(⟨Y,s.own⟩:ah))) ?_
  funext k
  show s.Y k=if k=10 then _ else s.Y k
  by_cases e:k=10
  ·rw [if_pos e,e,cH]
  ·rw [if_neg e]
 | @cons x l c hx hc _ ih=>
  intro s acc v2 hn hl cH;rw [length_cons] at hl;refine b6 (ih (s:=s.put 10 (.list (acc++[nj x]))) (v2:=some (.d (.int (dV x)))) (λc hc=>hn c (mem_of_mem_drop ((List.dropWhile_sublist _).subset hc))) (by rw [length_append,length_singleton];lia) HS) λtY e=>?_;refine ⟨tY,tT (cT rfl rfl ?_) (U' hx hn acc ((af (dc (le_add_left _ _) _) hl)) v2 cH) (e.trans ?_)⟩
  ·show some (!(x==[]))=some true
   cases x with
   |nil=>exact aj rfl hx
   |cons=>rfl
  ·rw [hc,append_assoc]
   refine ae (λY=>some (Fl.next,_,(⟨Y,s.own⟩:ah))) ?_
   funext k
   show (if k=10 then _ else if k=10 then _ else s.Y k)=if k=10 then _ else s.Y k
   by_cases e:k=10
   ·rw [if_pos e,if_pos e];rfl
   ·rw [if_neg e,if_neg e,if_neg e]
noncomputable def cV (l:aa):List ab:=l.map λ(c:Nat)=>ab.int c
def HW{x l:aa}(h:Rd x l)(hn:dR x)(hl:l.length+1<=lim)(cH:s.Y 10=none)(c9:s.Y 30=none):(FQ (n+1)).fn 5 [.d (.str x)] s=some (.d (.list (cV (l++[0]))),s):=by
 refine b6 (Va (n:=n) h (s:=⟨ak s.Y 10 (some (.list [])),[10]⟩) (acc:=[]) (v2:=none) hn (by simpa using by exact (af (af (bz _ _) hl) (aD _))) (show ak s.Y 10 (some (.list [])) 10=some (.list []) from ie)) λtY e=>?_;refine (UE _).trans<|UU (D:=[some (.d (.str [])),some (.ref 10),tY]) (t:=⟨ak (ak s.Y 10 (some (.list []))) 10 (some (.list (cV l))),[10]⟩) ?_ c9 (λk hk=>?_) (λk hk=>?_)
 ·refine sq (bI (x:=.ref 10) (V:=⟨ak s.Y 10 (some (.list [])),[10]⟩) ?_) ?_
  ·exact gf cH
  refine sq (tW e) (sr (fe (dM rfl rfl ?_)) rfl);refine (Ly (J:=cV l) rfl rfl rfl (by rw [length_append,cV,length_map];exact hl)).trans ?_;unfold cV;rw [map_append];rfl
 ·rw [mem_singleton.mp hk]
  exact ⟨cH,by decide⟩
 ·have:k≠10:=λq=>hk (q▸.head _)
  show (if k=10 then _ else if k=10 then _ else s.Y k)=_;rw [if_neg this,if_neg this]
end
section
variable{p q:Pos}
def Bk(h:k<m):bV m (k:Int)=some k:=by
 rw [bV,seqIndex?,if_neg (Int.not_lt.mpr (natCast_nonneg k))];exact bv (f9.mpr ⟨fj (natCast_nonneg k),fj (ofNat_lt.mpr h)⟩)
def HX(h:0<m):bV m (-1)=some (m - 1):=by
 cases m with
 |zero=>exact aj h (dK 0)
 |succ m=>
  show (if (decide (0<=(-1:Int)+((m+1:Nat):Int))&&decide ((-1:Int)+((m+1:Nat):Int)<((m+1:Nat):Int)))=true then some ((-1:Int)+((m+1:Nat):Int)).toNat else none)=_;rw [show (-1:Int)+((m+1:Nat):Int)=(m:Int) by lia];exact bv (f9.mpr ⟨fj (natCast_nonneg m),fj (ofNat_lt.mpr (lt_succ_self m))⟩)
def Bl{k:Nat}(hk:J[k]?=some d):nY J (.d (.int k))=some d:=by
 show (bV J.length (k:Int)).bind _=_;rw [Bk (List.getElem?_eq_some_iff.mp hk).1];exact hk
def ke{k:Nat}(h:ev F a D s=some (.d (.list J),V))(I:ev F b D V=some (.d (.int k),s''))(hk:J[k]?=some d):ev F (.idx a b p) D s=some (.d d,s''):=
 (au h).trans ((au I).trans (eM (ae (Option.map PV.d) (Bl hk))))
def wX{k j:Nat}(h:ev F a D s=some (.ref j,V))(I:ev F b D V=some (.d (.int k),s''))(hs:s''.Y j=some (.list J))(hk:J[k]?=some d):ev F (.idx a b p) D s=some (.d d,s''):=
 (au h).trans ((au I).trans (eM (by
  show o1 (eW s'' (.ref j)) _ _=_;rw [u4 hs];exact ae (Option.map PV.d) (Bl hk))))
def rg{k:Nat}(h:ev F a D s=some (.d (.tup J),V))(I:ev F b D V=some (.d (.int k),s''))(hk:J[k]?=some d):ev F (.idx a b p) D s=some (.d d,s''):=
 (au h).trans ((au I).trans (eM (ae (Option.map PV.d) (Bl hk))))
theorem Bm:∀l:aa,gD (cV l)=some (l.map λ(c:Nat)=>(c:Int))
 |[]=>rfl
 |c::l=>by
  show (gD (cV l)).map ((c:Int)::·)=_;rw [Bm l];rfl
def Vb(x:List α)(k:Nat):slc x (dL none x.length) (eB (some (k:Int)) x.length)=x.take k:=by
 show (x.take (jw x.length k)).drop 0=_;rw [rf,List.drop_zero];exact (List.take_eq_take_iff.mpr (by lia))
def wY{k:Nat}(h:ev F a D s=some (.d (.list J),V))(I:ev F b D V=some (.d (.int k),s'')):ev F (.sl a .no (.at_ b) q p) D s=some (.d (.list (J.take k)),s''):=by
 refine (au h).trans ((au rfl).trans ((au ((au I).trans rfl)).trans ?_));show some (PV.d (.list (slc J (dL none J.length) (eB (some (k:Int)) J.length))),s'')=_;rw [Vb]
noncomputable def dW (i:It):ab:=.tup [.int (nx i),.int i.1,.int i.2.2]
def pre(i:It):aa:=wy i.2.2++AE i.1
def Vc{i:It}(h:ct i):11∉pre i/\3*(pre i).count 52+(pre i).count 23=i.2.2+1/\0<(pre i).length/\(pre i)[(pre i).length - 1]?=some i.1/\(pre i).length<=3:=by
 cases h with
 | @st k hk=>match k,hk with
  |0,_=>decide
  |1,_=>decide
 | @it l r k hr hk=>
  have:=af hk hr.len.2;have hl:=hr.left;unfold pre;dsimp only
  match k,this with
  |0,_=>rcases hl with rfl|rfl|rfl<;>decide
  |1,_=>rcases hl with rfl|rfl|rfl<;>decide
  |2,_=>rcases hl with rfl|rfl|rfl<;>decide
  |3,_=>rcases hl with rfl|rfl|rfl<;>decide
def tZ{i:It}(h:ct i):(aM i).length<=20:=by
 have H:=o5 h.syms;have I:i.2.1.length<=3/\i.2.2<=3:=by
  cases h with
  |st hk=>exact ⟨(show 1<=3 by decide),by dsimp only;exact (af hk (by decide:1<=3))⟩
  |it hr hk=>exact ⟨hr.len.2,af hk hr.len.2⟩
 have h3:(nm i.1).length<=1:=by rcases h.left with h|h|h|h<;>rw [h]<;>decide
 unfold aM;rw [length_append,length_append,length_cons,length_cons,length_replicate];lia
def Vd{i:It}(h:ct i):dR (aM i):=λc hc=>(wA h c hc).1
def Ve{l:aa}{c:Nat}:(c:Int)∈l.map (λ(c:Nat)=>(c:Int))↔c∈l:=by
 rw [List.mem_map];exact ⟨λ⟨d,h,e⟩=>ofNat_inj.mp e▸h,λh=>⟨c,h,rfl⟩⟩
theorem HY(c:Nat):∀l:aa,(l.map λ(c:Nat)=>(c:Int)).count (c:Int)=l.count c
 |[]=>rfl
 |d::l=>by
  rw [map_cons,count_cons,count_cons,HY c l];by_cases e:d=c
  ·subst e;simp
  ·have:¬((d:Int)=(c:Int)):=λq=>e (ofNat_inj.mp q)
   simp [e,this]
theorem HZ(c:Nat):∀l:aa,(l.map λ(c:Nat)=>(c:Int)).idxOf (c:Int)=l.idxOf c
 |[]=>rfl
 |d::l=>by
  rw [map_cons,List.idxOf_cons,List.idxOf_cons,HZ c l];by_cases e:d=c
  ·subst e;simp
  ·have H:=eU.mpr λq=>e (ofNat_inj.mp q)
   have I:=eU.mpr e;rw [H,I]
def Vf{c:Nat}(h:ev F a D s=some (.d (.list (cV l)),V)):ev F (.me .count a [.cI c q] p y') D s=some (.d (.int (l.count c)),V):=by
 refine gu h rfl rfl rfl ?_;show Option.map _ ((gD (cV l)).bind λl=>some (ab.int (l.count (c:Int))))=_;rw [Bm];show some (PV.d (ab.int ((l.map λ(c:Nat)=>(c:Int)).count (c:Int):Nat)),V)=_;rw [HY]
def Vg{i:It}(h:ct i)(cH:s.Y 10=none)(c9:s.Y 30=none):(FQ (n+2)).fn 6 [.d (.str (aM i))] s=some (.d (dW i),s):=by
 refine pV (Vc h) λq1 q2 q3 q4 q5=>?_;have hr3:i.2.1.length<=3/\i.2.2<=i.2.1.length:=by
  cases h with
  |st hk=>exact ⟨(show 1<=3 by decide),hk⟩
  |it hr hk=>exact ⟨hr.len.2,hk⟩
 have et:toks i++[0]=pre i++(11::(i.2.1++[0])):=by unfold toks pre;simp
 have hlen:(toks i++[0]).length<=lim:=by
  rw [et,length_append,length_cons,length_append,length_singleton];exact af (show _<=8 by lia) (by decide)
 have er:=HW (n:=n) (s:=⟨s.Y,[]⟩) (AG h) (Vd h) (by rw [length_append] at hlen;exact hlen) cH c9;rw [et] at er;have ei:(pre i++(11::(i.2.1++[0]))).idxOf 11=(pre i).length:=by
  rw [List.idxOf_append,if_neg q1,List.idxOf_cons_self,Nat.zero_add]
 refine (UF _).trans<|iI (D:=[some (.d (.str (aM i))),some (.d (.list (cV (pre i++(11::(i.2.1++[0])))))),some (.d (.int (pre i).length)),some (.d (.int (i.2.2+1:Nat)))]) ?_
 refine sq (bI (f5 rfl er)) ?_;refine sq (bI (x:=.d (.int (pre i).length)) (V:=⟨s.Y,[]⟩) (gu (T:= "list") rfl rfl rfl rfl ?_)) ?_
 ·show Option.map _ ((gD (cV _)).bind λl=>if ((11:Nat):Int)∈l then some (ab.int (l.idxOf ((11:Nat):Int))) else none)=_
  rw [Bm];show Option.map _ (if _ then _ else _)=_;rw [if_pos (Ve.mpr (List.mem_append_right _ (.head _))),HZ,ei];rfl
 have Vh:(cV (pre i++(11::(i.2.1++[0])))).take (pre i).length=cV (pre i):=by
  unfold cV;rw [map_append,List.take_left' (by rw [length_map])]
 have H0:∀(c:Nat)(pq:Pos)(p1 p2 p3 p4 p5 p6:Pos),ev (FQ (n+1)) (.me .count (.sl (.v 1 p1) .no (.at_ (.v 2 p2)) p3 p4) [.cI c pq] p5 p6) [some (.d (.str (aM i))),some (.d (.list (cV (pre i++(11::(i.2.1++[0])))))),some (.d (.int (pre i).length)),none] ⟨s.Y,[]⟩=some (.d (.int ((pre i).count c)),⟨s.Y,[]⟩):=λc pq p1 p2 p3 p4 p5 p6=>
  Vf (Vh▸wY rfl rfl)
 refine sq (bI (x:=.d (.int (i.2.2+1:Nat))) (V:=⟨s.Y,[]⟩) (dM (x:=.d (.int (3*(pre i).count 52))) (dM rfl (H0 52 ..) ?_) (H0 23 ..) ?_)) ?_
 ·show Option.map _ (if (3:Int).natAbs<2 ^ 30/\(((pre i).count 52:Nat):Int).natAbs<2 ^ 30 then some (3*(((pre i).count 52:Nat):Int)) else none)=_
  have:=List.count_le_length (a:=52) (l:=pre i);rw [if_pos ⟨by decide,by rw [Int.natAbs_natCast];lia⟩];rfl
 ·show some (PV.d (.int (3*(((pre i).count 52:Nat):Int)+(((pre i).count 23:Nat):Int))))=_
  rw [<-q2];simp
 refine sr (fe (x:=.d (dW i)) ?_) rfl;have g1:(cV (pre i++(11::(i.2.1++[0]))))[(pre i).length+(i.2.2+1)]?=some (.int (nx i)):=by
  unfold cV;rw [getElem?_map,getElem?_append_right (by exact (Nat.le_add_right _ _)),show (pre i).length+(i.2.2+1) - (pre i).length=i.2.2+1 by lia,List.getElem?_cons_succ];unfold nx;rw [getD_eq_getElem?_getD];by_cases hk:i.2.2<i.2.1.length
  ·rw [getElem?_append_left hk,getElem?_eq_getElem hk];rfl
  ·have:i.2.2=i.2.1.length:=by lia
   rw [this,getElem?_append_right (Nat.le_refl _),sub_self,getElem?_eq_none (Nat.le_refl _)];rfl
 have g2:(cV (pre i++(11::(i.2.1++[0]))))[(pre i).length - 1]?=some (.int i.1):=by
  unfold cV;rw [getElem?_map,getElem?_append_left (by lia),q4];rfl
 refine au (aP (x:=.d (.int (nx i))) (V:=⟨s.Y,[]⟩) (ke rfl rfl g1) (aP (x:=.d (.int i.1)) (V:=⟨s.Y,[]⟩) (ke rfl (dM (x:=.d (.int (pre i).length)) (y:=.d (.int 1)) rfl rfl (r:=.d (.int ((pre i).length - 1:Nat))) ?_) g2) (aP (x:=.d (.int i.2.2)) (V:=⟨s.Y,[]⟩) (dM (x:=.d (.int (i.2.2+1:Nat))) (y:=.d (.int 1)) rfl rfl ?_) b9)))
 ·show some (PV.d (.int (((pre i).length:Nat) - 1:Int)))=_
  rw [ofNat_sub (show 1<=(pre i).length from q3)];rfl
 ·show some (PV.d (.int (((i.2.2+1:Nat):Int) - 1)))=_
  simp
end
def hn(i:It):aa:=List.replicate (i.2.2+1) 46++nm i.1
def hI(i:It):aa×aa:=(hn i,bC i.2.1)
def wZ(i:It):aM i=jN (hI i):=by unfold aM jN hI hn;rw [append_assoc]
noncomputable def fw (B:List bk):List It:=[(23,[256],0),(23,[256],1)]++B.flatMap λr=>(List.range (r.2.length+1)).map λk=>(r.1,r.2,k)
def cM(ks:List It):List (aa×ab):=ks.map λi=>(aM i,dW i)
structure i4(B:List bk)(ks:List It):Prop where
 nd:ks.Nodup
 mem:∀i∈ks,i∈fw B
section
def pi:i∈fw B↔i=(23,[256],0)\/i=(23,[256],1)\/((i.1,i.2.1)∈B/\i.2.2<=i.2.1.length):=by
 unfold fw;rw [mem_append,mem_flatMap];constructor
 ·rintro (h|⟨r,hr,h⟩)
  ·rcases bA.mp h with h|h
   ·exact .inl h
   ·exact .inr (.inl (cC.mp h))
  ·obtain ⟨k,hk,rfl⟩:=bu.mp h
   exact .inr (.inr ⟨hr,Nat.lt_succ_iff.mp (mem_range.mp hk)⟩)
 ·rintro (rfl|rfl|⟨H,I⟩)
  ·exact .inl (.head _)
  ·exact .inl (.tail _ (.head _))
  ·exact .inr ⟨_,H,bu.mpr ⟨i.2.2,mem_range.mpr (lt_succ_of_le I),rfl⟩⟩
def nF(G:aH B)(h:i∈fw B):ct i:=by
 rcases pi.mp h with rfl|rfl|⟨H,I⟩
 ·exact .st (by decide)
 ·exact .st (by decide)
 ·exact .it (G.ok _ H) I
def Bn(G:aH B):(fw B).length<=22:=by
 unfold fw;rw [length_append];have:∀l:List bk,(∀r∈l,r.2.length<=3)->(l.flatMap λr=>(List.range (r.2.length+1)).map λk=>((r.1,r.2,k):It)).length<=4*l.length:=by
  intro l;induction l with
  |nil=>intro _;exact aD _
  |cons r l ih=>
   intro h;rw [flatMap_cons,length_append,length_map,length_range,length_cons,Nat.mul_succ,Nat.add_comm];exact eI (ih λq hq=>h q (.tail _ hq)) (dh (h r (.head _)))
 exact dc (af (this B λr hr=>(G.ok r hr).len.2) (fO 4 G.len)) 2
def Vi(G:aH B)(h:i4 B ks):ks.length<=22:=af (List.Nodup.length_le_of_subset h.nd h.mem) (Bn G)
theorem Bo(G:aH B)(hi:i∈fw B):∀{ks:List It},(∀j∈ks,j∈fw B)->dget (cM ks) (aM i)=if i∈ks then some (dW i) else none
 |[],_=>rfl
 |j::ks,h=>by
  have ih:=Bo G hi λk hk=>h k (.tail _ hk);unfold dget at ih⊢;by_cases e:j=i
  ·subst e
   rw [show cM (j::ks)=(aM j,dW j)::cM ks from rfl,find?_cons_of_pos (by exact beq_self_eq_true _),if_pos (.head _)]
   rfl
  ·have ix:¬aM j=aM i:=λq=>e (tI (nF G (h j (.head _))) (nF G hi) q)
   rw [show cM (j::ks)=(aM j,dW j)::cM ks from rfl,find?_cons_of_neg (by simpa using ix),ih];by_cases c:i∈ks
   ·rw [if_pos c,if_pos (.tail _ c)]
   ·rw [if_neg c,if_neg λq=>(mem_cons.mp q).elim (λq=>e q.symm) c]
def Vj(G:aH B){i:It}(hi:i∈fw B){ks:List It}(h:∀j∈ks,j∈fw B)(hn:i∉ks):fQ (cM ks) (aM i) (dW i)=cM (ks++[i]):=by
 unfold fQ;rw [if_neg]
 ·unfold cM;rw [map_append];rfl
 ·intro q
  refine bt (any_eq_true.mp q) λp hp q=>?_;obtain ⟨j,hj,rfl⟩:=bu.mp hp;exact hn (tI (nF G (h j hj)) (nF G hi) (bB.mp q)▸hj)
def i4.add(h:i4 B ks)(hi:i∈fw B):i4 B (if i∈ks then ks else ks++[i]):=by
 by_cases c:i∈ks
 ·rw [if_pos c];exact h
 ·rw [if_neg c]
  refine ⟨nodup_append.mpr ⟨h.nd,eS.mpr ⟨(λq=>aj q cp),nodup_nil⟩,λa ha b hb e=>c ?_⟩,λj hj=>?_⟩
  ·rw [<-mem_singleton.mp hb,<-e];exact ha
  ·rcases bD.mp hj with hj|hj
   ·exact h.mem j hj
   ·rw [mem_singleton.mp hj];exact hi
def H1(h:i∈cz B X):i∈fw B:=by
 refine fC (hV.mp h) λa Z b=>?_;exact pi.mpr (.inr (.inr ⟨a,by rw [b];exact bN _⟩))
def Vk(a:¬(97<=c/\c<=122))(b:¬(97<=d/\d<=122))(h:my c=my d):c=d:=by
 have up:∀{e:Nat},65<=e/\e<=90->97<=e+32/\e+32<=122:=λp=>⟨dN p.1 32,dN p.2 32⟩
 unfold my at h;by_cases p:65<=c/\c<=90
 ·rw [if_pos p] at h
  by_cases q:65<=d/\d<=90
  ·rw [if_pos q] at h;exact Nat.add_right_cancel h
  ·rw [if_neg q] at h;exact aj (h▸up p) b
 ·rw [if_neg p] at h
  by_cases q:65<=d/\d<=90
  ·rw [if_pos q] at h;exact aj (h▸up q) a
  ·rw [if_neg q] at h;exact h
def H2:∀{y:aa},(∀d∈x,¬(97<=d/\d<=122))->(∀d∈y,¬(97<=d/\d<=122))->bQ x=bQ y->x=y:=by
 induction x with
 |nil=>exact λ{y} Z Z h=>(List.map_eq_nil_iff.mp h.symm).symm
 |cons c x ih=>
  intro y hx hy h;cases y with
  |nil=>exact nomatch h
  |cons d y=>exact aT (List.cons.inj h) λH I=>Vk (hx c (.head _)) (hy d (.head _)) H▸ih (λe he=>hx e (.tail _ he)) (λe he=>hy e (.tail _ he)) I▸rfl
def Vl(hx:∀d∈x,o3 d)(hy:∀d∈y,o3 d)(h:bQ x=bQ y):x=y:=H2 (λd q=>(hx d q).2.1) (λd q=>(hy d q).2.1) h
def H3(h:ct i):∀d∈hn i,o3 d:=by
 intro d hd;rcases bD.mp hd with hd|hd
 ·rw [List.eq_of_mem_replicate hd];exact ⟨by decide,by decide,by decide⟩
 ·exact tK h.left d hd
def Bp(h:ct i):dR (hn i):=λc hc=>(H3 h c hc).1
def H4(h:ct i):dR (bC i.2.1):=λc hc=>(tJ h.syms c hc).1
def Bq(h:ct i):i.2.2<=3/\i.2.1.length<=3:=by
 cases h with
 |st hk=>exact ⟨by dsimp only;exact (af hk (by decide:1<=3)),(show 1<=3 by decide)⟩
 |it hr hk=>exact ⟨af hk hr.len.2,hr.len.2⟩
def Vm:∀l∈[23,256,257,258],∀k∈[0,1,2,3],∀X∈[256,257,258],List.replicate (k+1) 46++nm l=46::nm X->l=X/\k=0:=by decide
def Vn(h:ct i)(hX:X=256\/X=257\/X=258)(e:hn i=46::nm X):i.1=X/\i.2.2=0:=
 have Vo:∀{a b c:Nat},X=a\/X=b\/X=c->X∈[a,b,c]:=λh=>bA.mpr (h.imp_right λh=>bA.mpr (h.imp_right cC.mpr))
 Vm i.1 (bA.mpr (h.left.imp_right λh=>bA.mpr (h.imp_right λh=>bA.mpr (h.imp_right cC.mpr)))) i.2.2 (mem_range.mpr (lt_succ_of_le (Bq h).1):i.2.2∈List.range 4) X (Vo hX) e
def H5(hX:X=256\/X=257\/X=258):∀d∈46::nm X,o3 d:=λd hd=>by
 rcases bA.mp hd with rfl|hd
 ·exact ⟨by decide,by decide,by decide⟩
 ·exact tK (.inr hX) d hd
def Vp(G:aH B)(hX:X=256\/X=257\/X=258){L:List It}(hL:∀i∈L,ct i):(L.map hI).find? (i0 (46::nm X))=none↔∀i∈L,¬(i.1=X/\i.2.2=0):=by
 rw [find?_eq_none];constructor
 ·intro h i hi ⟨H,I⟩
  refine h (hI i) (bu.mpr ⟨i,hi,rfl⟩) (bB.mpr ?_);show bQ (hn i)=_;unfold hn;rw [H,I];rfl
 ·intro h p hp q
  obtain ⟨i,hi,rfl⟩:=bu.mp hp;exact h i hi (Vn (hL i hi) hX (Vl (H3 (hL i hi)) (H5 hX) (bB.mp q)))
end
structure H6(B:List bk)(RH:List (aa×aa)):Prop where
 all:∀X,X=256\/X=257\/X=258->(RH.filter λp=>bQ p.1==bQ (nm X)).map (·.2)=(cz B X).map λi=>bC i.2.1
 keys:∀p∈RH,dR p.1
 len:RH.length<=5
def tS(Y:Nat->Option aV)(ks L A:List It):Nat->Option aV:=ak (ak (ak Y 3 (some (.dict (cM ks)))) 11 (some (.list ((L.map hI).map hd)))) 12 (some (.list (A.map dW)))
def Vq:ak (tS Y ks L A) 3 (some (.dict (cM ba)))=tS Y ba L A:=by
 funext k
 show (if k=3 then _ else if k=12 then _ else if k=11 then _ else if k=3 then _ else Y k)=if k=12 then _ else if k=11 then _ else if k=3 then _ else Y k
 by_cases e:k=3
 ·subst e;rfl
 ·rw [if_neg e,if_neg e,if_neg e]
def Vs:ak (tS Y ks L A) 11 (some (.list ((L'.map hI).map hd)))=tS Y ks L' A:=by
 funext k
 show (if k=11 then _ else if k=12 then _ else if k=11 then _ else _)=if k=12 then _ else if k=11 then _ else _
 by_cases e:k=11
 ·subst e;rfl
 ·rw [if_neg e,if_neg e,if_neg e]
def Vt:ak (tS Y ks L A) 12 (some (.list (A'.map dW)))=tS Y ks L A':=by
 funext k
 show (if k=12 then _ else if k=12 then _ else _)=if k=12 then _ else _
 by_cases e:k=12
 ·rw [if_pos e,if_pos e]
 ·rw [if_neg e,if_neg e,if_neg e]
noncomputable abbrev tV (kt:List ab) (e:aa) (o4 o7 o8:Option PV):aI:=[some (.d (.list kt)),some (.lit e),some (.hdr 1),some (.ref 3),o4,some (.hdr 11),some (.ref 12),o7,o8,none,none,none,none,none]
def pk:List PS:=fL (nS ol 2)
section
variable{p q:Pos}{n:Nat}{kt:List ab}{ee:aa}
def kf(h:gE F it D s=some (l,V))(I:dD (λx D s=>(gp [j] x D).bind λD=>bo F bd D s) l.1 D (V.lock l.2)=some (fl,aS,s'')):ex F (.for1 j it bd q p) D s=some (fl,aS,s''.unlock l.2):=by
 refine (au h).trans ?_;rw [I];rfl
def t0(h:ev F a D s=some (.ref j,V))(I:ev F b D V=some (.d (.str k),s''))(hs:s''.Y j=some (.dict al))(hk:dget al k=some d):ev F (.idx a b p) D s=some (.d d,s''):=by
 refine (au h).trans ((au I).trans (eM ?_));show o1 (eW s'' (.ref j)) _ (o1 (gn s'' (.ref j)) (λal=>(dget al k).map PV.d) _)=_;rw [DJ hs,qm hs];exact ae (Option.map PV.d) hk
def Br(hs:s.Y j=some (.dict al)):jU (.d (.str k)) (.ref j) s=some (dget al k).isSome:=by
 show o1 (eW s (.ref j)) _ (o1 (gn s (.ref j)) (λal=>some (dget al k).isSome) _)=_;rw [DJ hs,qm hs]
 rfl
def t6(h:ev F e D s=some (.ref j,V))(hs:V.Y j=some (.list J)):ev F (.bi .len e q p) D s=some (.d (.int J.length),V):=iH h (DI hs)
def H7(hX:X=256\/X=257\/X=258)(h:D[j]?=some (some (.d (.int X)))):ev F (.idx (.cS [83,65,66] p1) (.bin .sub (.v j p2) (.cI 256 p3) p4) p5) D s=some (.d (.str (nm X)),s):=by
 refine (au rfl).trans ((au (dM (ag h) rfl rfl)).trans (eM ?_));rcases hX with rfl|rfl|rfl<;>rfl
def Bs(hX:X=256\/X=257\/X=258)(h:D[j]?=some (some (.d (.int X)))):ev F (.bin .add (.cS [46] p0) (.idx (.cS [83,65,66] p1) (.bin .sub (.v j p2) (.cI 256 p3) p4) p5) p6) D s=some (.d (.str (46::nm X)),s):=by
 refine dM rfl (H7 hX h) ?_;rcases hX with rfl|rfl|rfl<;>rfl
theorem H8{X:Nat}(G:aH B)(hX:X=256\/X=257\/X=258)(gB:Y 16=none)(c9:Y 30=none)(o4 o7:Option PV)(h7:o7=some (.d (.int X))):∀(R:List It)(L:List It)(o8:Option PV),(∀i∈R,i∈cz B X)->L.length+R.length+1<=lim->
  ∃iL,dD (λx D s=>(gp [8] x D).bind λD=>bo (FQ (n+2)) (fL (nS (ph (nS pk 4)) 0)) D s) (R.map λi=>ab.str (bC i.2.1)) (tV kt ee o4 o7 o8) ⟨tS Y ks L A,own⟩=some (.next,tV kt ee o4 o7 iL,⟨tS Y ks (L++R) A,own⟩)
 |[],L,o8,_,_=>⟨o8,by rw [append_nil];rfl⟩
 |i::R,L,o8,hR,hl=>by
  subst h7;rw [length_cons] at hl;refine fC (hV.mp (hR i (.head _))) λhm vV vW=>?_;have eC:=(qT G (hR i (.head _))).1;refine b6 (H8 G hX (ks:=ks) (A:=A) (own:=own) gB c9 o4 _ rfl R (L++[i]) (some (.d (.str (bC i.2.1)))) (λj hj=>hR j (.tail _ hj)) (by rw [length_append,length_singleton];lia)) λiL ih=>?_;refine ⟨iL,(wm ?_).trans (ih.trans (by rw [append_assoc];rfl))⟩;have H9:hn i=46::nm X:=by unfold hn;rw [vV,vW];rfl
  have ha:=HR (n:=n) (s:=⟨tS Y ks L A,own⟩) (j:=11) rfl (by decide) gB c9 (H9▸Bp eC) (H4 eC) (by rw [length_map];exact (af (dN (bz _ _) _) hl)) (by have:=o5 eC.syms;have:=(Bq eC).2;lia);have hs:(ah.put ⟨tS Y ks L A,own⟩ 11 (.list ((L.map hI++[(46::nm X,bC i.2.1)]).map hd)))=⟨tS Y ks (L++[i]) A,own⟩:=by
   show (⟨ak (tS Y ks L A) 11 _,own⟩:ah)=_;rw [<-Vs (L':=L++[i]),<-H9,show (L++[i]).map hI=L.map hI++[(hn i,bC i.2.1)] from map_append]
  exact sq (jp (md rfl (aP (Bs hX rfl) rfl) (ha.trans (by rw [hs]))) rfl) rfl
end
section
variable{p q:Pos}
def pn{t1 t2:PT}(H:bP F t1 D s=some (c1,s))(I:c1=true->bP F t2 D s=some (c2,s)):bP F (.and [t1,t2] p) D s=some (c1&&c2,s):=by
 refine (au H).trans ?_;cases c1 with
 |false=>rfl
 |true=>
  refine (au (I rfl)).trans ?_;cases c2<;>rfl
def Bt(H:ev F e D s=some (.d d,V))(I:ev F o D V=some (.ref j,s''))(h3:ev F z D s''=some (.d (.str k),s3))(hs:s3.Y j=some (.dict al))(hl:al.length+1<=lim):ex F (.setI o z e q p) D s=some (.next,D,s3.put j (.dict (fQ al k d))):=by
 refine (au H).trans ((au I).trans ((au h3).trans ?_));show ((dictAt s3 j).bind _).bind _=_;rw [u0 hs];show ((if al.length+1<=lim then some (s3.put j (.dict (fQ al k d))) else none).bind _)=_;rw [if_pos hl];rfl
def Bu(G:aH B){i:It}(hi:ct i)(h:256<=nx i):nx i=256\/nx i=257\/nx i=258:=by
 have h0:nx i≠0:=(cY (af (by decide:1<=256) h))
 refine aT (qU h0) λZ e=>?_;have:=nw (hi.syms _ (ez e));lia
noncomputable def lg (B:List bk) (L:List It) (i:It):List It:=if 256<=nx i/\∀j∈L,¬(j.1=nx i/\j.2.2=0) then cz B (nx i) else []
structure TB(B:List bk)(RH:List (aa×aa))(Y:Nat->Option aV):Prop where
 s1:Y 1=some (.list (RH.map hd))
 s10:Y 10=none
 s16:Y 16=none
 s30:Y 30=none
 rh:H6 B RH
def Vu{i:It}(hi:ct i)(hk:L[acc.length]?=some i):ev (FQ (n+2)) (.me .join (.cS [58,32] (U 198 14 18)) [(.idx (.meth 25 (.v 5 (U 198 24 29)) [] (U 198 24 35) (U 198 24 37)) (.bi .len (.v 6 (U 198 42 48)) (U 198 38 41) (U 198 38 49)) (U 198 24 50))] (U 198 14 23) (U 198 14 51)) (tV kt ee o4 o7 o8) ⟨tS Y ks L acc,own⟩=some (.d (.str (aM i)),⟨tS Y ks L acc,own⟩):=by
 have H:=o5 hi.syms;have I:=Bq hi;have h3:(hn i).length<=5:=by
  have:(nm i.1).length<=1:=by rcases hi.left with h|h|h|h<;>rw [h]<;>decide
  unfold hn;rw [length_append,length_replicate];lia
 have e:aM i=bZ [58,32] [hn i,bC i.2.1]:=by rw [wZ];show hn i++([58,32]++bC i.2.1)=hn i++[58,32]++bC i.2.1;rw [append_assoc]
 rw [e];refine mf (x:=.d (hd (hI i))) rfl (ke (md rfl b9 (UX rfl)) rfl ?_) rfl rfl (show 2*3<=8000000 by decide) ?_
 ·rw [length_map,getElem?_map,getElem?_map,hk];rfl
 ·show (hn i).length+((bC i.2.1).length+0)<=_
  lia
def Vv(G:aH B)(T:TB B RH Y){i:It}(hL:∀j∈L,j∈fw B)(kP:L.length<=100)(hk:L[acc.length]?=some i)(kY:acc.length<=100)(K:i4 B ks):
  ∃t7 t8 iL,bo (FQ (n+2)) pk (tV kt ee o4 o7 o8) ⟨tS Y ks L acc,own⟩=some (.next,tV kt ee t7 t8 iL,⟨tS Y (if i∈ks then ks else ks++[i]) (L++lg B L i) (acc++[i]),own⟩):=by
 have t9:=hL i (ez hk);have hi:=nF G t9;have K':=K.add t9;have cA:i∈(if i∈ks then ks else ks++[i]):=by
  by_cases c:i∈ks
  ·rw [if_pos c];exact c
  ·rw [if_neg c];exact cj _ (.head _)
 generalize nG:(if i∈ks then ks else ks++[i])=ba at K' cA⊢;have hg:dget (cM ba) (aM i)=some (dW i):=by rw [Bo G t9 K'.mem,if_pos cA]
 have e2:ex (FQ (n+2)) (nS pk 1) (tV kt ee (some (.d (.str (aM i)))) o7 o8) ⟨tS Y ks L acc,own⟩=some (.next,tV kt ee (some (.d (.str (aM i)))) o7 o8,⟨tS Y ba L acc,own⟩):=by
  have mM:jU (.d (.str (aM i))) (.ref 3) ⟨tS Y ks L acc,own⟩=some (decide (i∈ks)):=by
   rw [Br rfl,Bo G t9 K.mem];by_cases c:i∈ks
   ·rw [if_pos c,decide_eq_true c];rfl
   ·rw [if_neg c,decide_eq_false c];rfl
  by_cases c:i∈ks
  ·rw [if_pos c] at nG
   subst nG;exact gN (cT (ag rfl) (ag rfl) (by show (jU (.d (.str (aM i))) (.ref 3) ⟨tS Y ks L acc,own⟩).map (!·)=_;rw [mM,decide_eq_true c];rfl)) rfl
  ·rw [if_neg c] at nG
   subst nG;refine ic (cT (ag rfl) (ag rfl) (by show (jU (.d (.str (aM i))) (.ref 3) ⟨tS Y ks L acc,own⟩).map (!·)=_;rw [mM,decide_eq_false c];rfl)) ?_;refine sq (Bt (f5 (aP (ag rfl) b9) (Vg hi T.s10 T.s30)) (ag rfl) (ag rfl) (al:=cM ks) rfl (by unfold cM;rw [length_map];exact af (dh (Vi G K)) (by decide))) ?_;show some (Fl.next,_,(⟨ak (tS Y ks L acc) 3 (some (.dict (fQ (cM ks) (aM i) (dW i)))),own⟩:ah))=_;rw [Vj G t9 K.mem c,Vq]
 have e3:∀(p1 p2 p3:Pos)(o7:Option PV)(A:List It),ev (FQ (n+2)) (.idx (.v 3 p1) (.v 4 p2) p3) (tV kt ee (some (.d (.str (aM i)))) o7 o8) ⟨tS Y ba L A,own⟩=some (.d (dW i),⟨tS Y ba L A,own⟩):=λp1 p2 p3 o7 A=>t0 (al:=cM ba) (ag rfl) (ag rfl) rfl hg;have e5:∃iL,ex (FQ (n+2)) (nS pk 4) (tV kt ee (some (.d (.str (aM i)))) (some (.d (.int (nx i)))) o8) ⟨tS Y ba L (acc++[i]),own⟩=some (.next,tV kt ee (some (.d (.str (aM i)))) (some (.d (.int (nx i)))) iL,⟨tS Y ba (L++lg B L i) (acc++[i]),own⟩):=by
  have t1:bP (FQ (n+2)) (.e (.call 2 [(.v 7 (U 203 25 30))] (U 203 11 24) (U 203 11 31))) (tV kt ee (some (.d (.str (aM i)))) (some (.d (.int (nx i)))) o8) ⟨tS Y ba L (acc++[i]),own⟩=some (decide ((nx i:Int)>=256),⟨tS Y ba L (acc++[i]),own⟩):=nf (f5 (aP (ag rfl) b9) (HL _)) rfl;by_cases Bv:256<=nx i
  ·have hX:=Bu G hi Bv
   have Vw:∀p∈L.map hI,dR p.1:=λp hp=>by
    obtain ⟨j,hj,rfl⟩:=bu.mp hp;exact Bp (nF G (hL j hj))
   have H':=Vp G hX (L:=L) λj hj=>nF G (hL j hj);have eg:=HQ (n:=n) (s:=⟨tS Y ba L (acc++[i]),own⟩) (j:=11) (hl:=L.map hI) (x:=46::nm (nx i)) rfl (λc hc=>(H5 hX c hc).1) Vw;unfold tR at eg;by_cases mJ:∀j∈L,¬(j.1=nx i/\j.2.2=0)
   ·rw [H'.mpr mJ] at eg
    have et:=pn (p:=U 203 11 79) t1 λZ=>cT (o:=.isN) (p:=U 203 36 79) (x:=.d .none) (y:=.d .none) (md (q:=U 203 36 45) (p:=U 203 36 71) (ag (j:=5) (p:=U 203 36 41) rfl) (aP (Bs hX (j:=7) rfl (p0:=U 203 46 49) (p1:=U 203 52 57) (p2:=U 203 58 63) (p3:=U 203 66 69) (p4:=U 203 58 69) (p5:=U 203 52 70) (p6:=U 203 46 70)) b9) eg) (b:=.cN (U 203 75 79)) rfl rfl;rw [show (decide ((nx i:Int)>=256)&&true)=true by rw [Bool.and_true];exact fj (by lia)] at et;have ea:=HO (n:=n) (s:=⟨tS Y ba L (acc++[i]),own⟩) (j:=1) (hl:=RH) (x:=nm (nx i)) T.s1 (λc hc=>(tK (.inr hX) c hc).1) T.rh.keys (af T.rh.len (by decide));have Vx:((RH.filter λp=>bQ p.1==bQ (nm (nx i))).map λp=>ab.str p.2)=(cz B (nx i)).map λi=>ab.str (bC i.2.1):=by
     have:=ae (List.map ab.str) (T.rh.all _ hX);rw [map_map,map_map] at this;exact this
    rw [Vx] at ea;have w':(cz B (nx i)).length<=5:=by
     unfold cz;rw [length_map];exact af (length_filter_le _ _) G.len
    refine b6 (H8 (n:=n) (kt:=kt) (ee:=ee) (Y:=Y) G hX (ks:=ba) (A:=acc++[i]) (own:=own) T.s16 T.s30 (some (.d (.str (aM i)))) (some (.d (.int (nx i)))) rfl (cz B (nx i)) L o8 (λj hj=>hj) (af (show _<=106 by lia) (by decide))) λiL el=>?_;refine ⟨iL,ic et (sq (kf (fH (x:=.d (.list ((cz B (nx i)).map λj:It=>ab.str (bC j.2.1)))) (V:=⟨tS Y ba L (acc++[i]),own⟩) (md (ag rfl) (aP (H7 hX rfl) b9) ea) rfl) el) ?_)⟩;unfold lg;rw [if_pos ⟨Bv,mJ⟩];rfl
   ·have hz:(L.map hI).find? (i0 (46::nm (nx i)))≠none:=λq=>mJ (H'.mp q)
    refine b6 (Option.ne_none_iff_exists'.mp hz) λpp Vy=>?_;rw [Vy] at eg;have et:=pn (c2:=false) (p:=U 203 11 79) t1 λZ=>cT (o:=.isN) (p:=U 203 36 79) (x:=.d (.str pp.2)) (y:=.d .none) (md (q:=U 203 36 45) (p:=U 203 36 71) (ag (j:=5) (p:=U 203 36 41) rfl) (aP (Bs hX (j:=7) rfl (p0:=U 203 46 49) (p1:=U 203 52 57) (p2:=U 203 58 63) (p3:=U 203 66 69) (p4:=U 203 58 69) (p5:=U 203 52 70) (p6:=U 203 46 70)) b9) eg) (b:=.cN (U 203 75 79)) rfl rfl;rw [Bool.and_false] at et;refine ⟨o8,gN et ?_⟩;unfold lg;rw [if_neg λq=>mJ q.2,append_nil];rfl
  ·have et:=pn (c2:=false) (p:=U 203 11 79) (t2:=.cmp .isN (.meth 24 (.v 5 (U 203 36 41)) [(.bin .add (.cS [46] (U 203 46 49)) (.idx (.cS [83,65,66] (U 203 52 57)) (.bin .sub (.v 7 (U 203 58 63)) (.cI 256 (U 203 66 69)) (U 203 58 69)) (U 203 52 70)) (U 203 46 70))] (U 203 36 45) (U 203 36 71)) (.cN (U 203 75 79)) (U 203 36 79)) t1 λq=>aj (cm q) (by lia)
   rw [Bool.and_false] at et;refine ⟨o8,gN et ?_⟩;unfold lg;rw [if_neg λq=>Bv q.1,append_nil];rfl
 obtain ⟨iL,e5⟩:=e5;refine ⟨some (.d (.str (aM i))),some (.d (.int (nx i))),iL,?_⟩;refine sq (bI (Vu hi hk)) (sq e2 (sq (bI (x:=.d (.int (nx i))) (V:=⟨tS Y ba L acc,own⟩) (rg (k:=0) (e3 ..) rfl rfl)) (sq (jp (x:=.d .none) (V:=⟨tS Y ba L (acc++[i]),own⟩) (Eq.trans (nB (J:=acc.map dW) (ag rfl) rfl (e3 ..) rfl (by rw [length_map];exact af (dh kY) (by decide))) ?_) rfl) (sq e5 rfl))));show some (PV.d .none,(⟨ak (tS Y ba L acc) 12 (some (.list (acc.map dW++[dW i]))),own⟩:ah))=_;rw [show acc.map dW++[dW i]=(acc++[i]).map dW by rw [map_append];rfl,Vt]
end
section
variable{p q:Pos}
def Vz(h:ev (FQ (n+1)) e D s=some (.hdr j,V))(hs:V.Y j=some (.list J))(hl:J.length<=lim):ev (FQ (n+1)) (.lenH e q p) D s=some (.d (.int J.length),V):=by
 refine (au h).trans ((au (UW hs)).trans ?_);show pS (if 0<=((J.length:Nat):Int)/\((J.length:Nat):Int)<=lim then some (PV.d (.int (J.length:Nat))) else none) V=_;rw [if_pos ⟨(natCast_nonneg _),(ofNat_le.mpr hl)⟩];rfl
def VA{hl:List (aa×aa)}(h:ev (FQ (n+1)) e D s=some (.hdr j,V))(hs:V.Y j=some (.list (hl.map hd)))(hlen:hl.length<=1000)(hk:∀p∈hl,p.1.length<=1000/\p.2.length<=1000):ev (FQ (n+1)) (.strH e q p) D s=some (.d (.str (bZ [13,10] (hl.map jN++[[],[]]))),V):=
 (au h).trans ((au (U1 hs hlen hk)).trans rfl)
def VB(G:aH B)(T:TB B RH Y)(m:Nat):∀{seen:aa}{dm acc ks:List It}{o4 o7 o8:Option PV},mu B seen dm<=m->acc.length+m<=100->(∀j∈acc++dm,j∈fw B)->
  (∀X,X=256\/X=257\/X=258->(X∈seen->∀j∈cz B X,j∈acc++dm)/\(X∉seen->∀j∈acc++dm,¬(j.1=X/\j.2.2=0)))->i4 B ks->
  ∃ba t7 t8 iL,gb (gV (bP (FQ (n+2)) (fv (nS ol 2))) (bo (FQ (n+2)) pk)) (tV kt ee o4 o7 o8) ⟨tS Y ks (acc++dm) acc,own⟩=some (.next,tV kt ee t7 t8 iL,⟨tS Y ba (acc++cl B m seen dm) (acc++cl B m seen dm),own⟩)/\i4 B ba:=by
 have lH:∀{L acc ks:List It}{o4 o7 o8:Option PV},L.length<=100->bP (FQ (n+2)) (fv (nS ol 2)) (tV kt ee o4 o7 o8) ⟨tS Y ks L acc,own⟩=some (decide (acc.length<L.length),⟨tS Y ks L acc,own⟩):=by
  intro L acc ks o4 o7 o8 hL;refine cT (x:=.d (.int (acc.map dW).length)) (y:=.d (.int ((L.map hI).map hd).length)) (V:=⟨tS Y ks L acc,own⟩) rfl (Vz rfl rfl (by rw [length_map,length_map];exact af hL (by decide))) ?_;rw [length_map,length_map,length_map];refine ae some (decide_eq_decide.mpr ?_);lia
 have c6:∀{m:Nat}{seen acc ks:List It}{sn:aa}{o4 o7 o8:Option PV},acc.length<=100->gb (gV (bP (FQ (n+2)) (fv (nS ol 2))) (bo (FQ (n+2)) pk)) (tV kt ee o4 o7 o8) ⟨tS Y ks (acc++[]) acc,own⟩=some (.next,tV kt ee o4 o7 o8,⟨tS Y ks (acc++[]) (acc++[]),own⟩):=by
  intro m seen acc ks sn o4 o7 o8 hl;rw [append_nil];refine tU ?_;have:=lH (L:=acc) (acc:=acc) (ks:=ks) (o4:=o4) (o7:=o7) (o8:=o8) hl;rw [decide_eq_false (Nat.lt_irrefl _)] at this;exact this
 induction m with
 |zero=>
  intro seen dm acc ks o4 o7 o8 hm hl hL nH K;obtain rfl:=AI hm;exact ⟨ks,o4,o7,o8,c6 (m:=0) (seen:=[]) (sn:=[]) (hl),K⟩
 |succ m ih=>
  intro seen dm acc ks o4 o7 o8 hm hl hL nH K
  match dm,hm,hL,nH with
  |[],_,_,_=>exact ⟨ks,o4,o7,o8,c6 (m:=0) (seen:=[]) (sn:=[]) (by exact (af (af (bz _ _) hl) (aD _))),K⟩
  |i::r,hm,hL,nH=>
   have hi:=nF G (hL i (cj _ (.head _)));have kP:(acc++i::r).length<=100:=by
    have:(i::r).length<=mu B seen (i::r):=bz _ _;rw [length_append];exact (af (dc (af this hm) _) hl)
   have hk:(acc++i::r)[acc.length]?=some i:=by rw [getElem?_append_right (Nat.le_refl _),sub_self];rfl
   refine rR (Vv (n:=n) (kt:=kt) (ee:=ee) (own:=own) (o4:=o4) (o7:=o7) (o8:=o8) G T hL kP hk (by exact (af (af (bz _ _) hl) (aD _))) K) λp4 p7 p8 eb=>?_;have ht:=lH (L:=acc++i::r) (acc:=acc) (ks:=ks) (o4:=o4) (o7:=o7) (o8:=o8) kP;rw [decide_eq_true (by rw [length_append,length_cons];lia)] at ht;have K':=K.add (hL i (cj _ (.head _)));have key:∀(sn:aa)(td:List It),mu B sn td<=m->acc++i::r++lg B (acc++i::r) i=(acc++[i])++td->cl B (m+1) seen (i::r)=i::cl B m sn td->(∀j∈(acc++[i])++td,j∈fw B)->
     (∀X,X=256\/X=257\/X=258->(X∈sn->∀j∈cz B X,j∈(acc++[i])++td)/\(X∉sn->∀j∈(acc++[i])++td,¬(j.1=X/\j.2.2=0)))->
     ∃ba t7 t8 iL,gb (gV (bP (FQ (n+2)) (fv (nS ol 2))) (bo (FQ (n+2)) pk)) (tV kt ee o4 o7 o8) ⟨tS Y ks (acc++i::r) acc,own⟩=some (.next,tV kt ee t7 t8 iL,⟨tS Y ba (acc++cl B (m+1) seen (i::r)) (acc++cl B (m+1) seen (i::r)),own⟩)/\i4 B ba:=by
    intro sn td H I h3 h4 h5;refine xS (ih (o4:=p4) (o7:=p7) (o8:=p8) H (by rw [length_append,length_singleton];lia) h4 h5 K') λba q4 q7 q8 e hK=>?_;refine ⟨ba,q4,q7,q8,tT ht (I▸eb) (e.trans ?_),hK⟩;rw [h3,append_assoc];rfl
   have er:acc++i::r=(acc++[i])++r:=by rw [append_assoc];rfl
   by_cases c:256<=nx i/\nx i∉seen
   ·have hX:=Bu G hi c.1
    have ea:lg B (acc++i::r) i=cz B (nx i):=by
     unfold lg;rw [if_pos ⟨c.1,(nH _ hX).2 c.2⟩]
    refine key (nx i::seen) (r++cz B (nx i)) (np hm c.2) (by rw [ea,er,append_assoc]) (by rw [lY,if_pos c]) ?_ ?_
    ·rw [<-append_assoc,<-er]
     intro j hj;rcases bD.mp hj with hj|hj
     ·exact hL j hj
     ·exact H1 hj
    ·rw [<-append_assoc,<-er]
     intro yY hY;constructor
     ·intro ri j hj
      rcases bA.mp ri with e|ri
      ·exact cj _ (e▸hj)
      ·exact cE _ ((nH yY hY).1 ri j hj)
     ·intro ri j hj
      rcases bD.mp hj with hj|hj
      ·exact (nH yY hY).2 (λq=>ri (.tail _ q)) j hj
      ·intro q
       exact ri (((hV.mp hj).2.1.symm.trans q.1)▸.head _)
   ·have ea:lg B (acc++i::r) i=[]:=by
     unfold lg;by_cases c2:256<=nx i/\∀j∈acc++i::r,¬(j.1=nx i/\j.2.2=0)
     ·rw [if_pos c2]
      have hX:=Bu G hi c2.1;have hs:nx i∈seen:=Classical.byContradiction λq=>c ⟨c2.1,q⟩;refine List.eq_nil_iff_forall_not_mem.mpr λj hj=>?_;exact c2.2 j ((nH _ hX).1 hs j hj) (hV.mp hj).2
     ·rw [if_neg c2]
    refine key seen r (nq hm) (by rw [ea,er,append_nil]) (by rw [lY,if_neg c]) (er▸hL) (er▸nH)
theorem rj{f:ab->ah->Option (Option ab×ah)}{h:It->ab}{c:It->Bool}{g:It->ab}:∀{C:List It}{acc:List ab},(∀i∈C,f (h i) s=some (if c i then some (g i) else none,s))->gU f (C.map h) acc s=some (acc++(C.filter c).map g,s)
 |[],acc,_=>by rw [List.filter_nil,map_nil,map_nil,append_nil];rfl
 |i::C,acc,hf=>by
  show bS (f (h i) s) _=_;rw [hf i (.head _)];show gU f (C.map h) (acc++(if c i then some (g i) else none).toList) s=_;rw [rj λj hj=>hf j (.tail _ hj),append_assoc];cases e:c i with
  |true=>rw [filter_cons_of_pos e];rfl
  |false=>rw [filter_cons_of_neg (by rw [e];decide)];rfl
end
section
variable(B:List bk)
def fx(K:List It):List aa:=(cU B K).map aM++[[],[]]
def kg(K:List It):List aa:=(cU B K).map (λi=>46::aM i)++[[],[]]
noncomputable def rm (K:List It):List ab:=((cU B K).filter λi=>nx i==0&&decide (256<=i.1)).map λi=>.tup [.int i.1,.int i.2.2]
def rn(i:It):ab:=.tup [.int (nx i),.str (46::aM i)]
def rs(K:List It):List ab:=((cU B K).filter λi=>decide (nx i<256)).map rn
def rt(K:List It):List ab:=((cU B K).filter λi=> !decide (nx i<256)).map rn
def dX(K:List It):ab:=.tup [.list ((fx B K).map .str),.list ((kg B K).map .str),.list (rm B K),.list (rs B K),.list (rt B K)]
end
section
variable{p q:Pos}
theorem Ia:∀(h r:aa)(k:Nat),(∀c∈h,c≠58)->d5 [58,32] (h++58::32::r) k=((k+h.length:Nat):Int)
 |[],r,k,_=>by
  show (if [58,32].isPrefixOf (58::32::r) then ((k:Nat):Int) else _)=_;rw [if_pos (by simp [List.isPrefixOf])];rfl
 |c::h,r,k,hc=>by
  have H:=eU.mpr λq=>hc c (.head _) q.symm;show (if [58,32].isPrefixOf (c::(h++58::32::r)) then _ else d5 [58,32] (h++58::32::r) (k+1))=_;rw [if_neg (by simp [List.isPrefixOf,H]),Ia h r (k+1) λd hd=>hc d (.tail _ hd),length_cons];rw [show k+1+h.length=k+(h.length+1) by exact (add_right_comm _ _ _)]
def VC{i:It}(h:ct i):∀c∈hn i,c≠58:=by
 intro c hc;rcases bD.mp hc with hc|hc
 ·rw [List.eq_of_mem_replicate hc];decide
 ·rcases h.left with e|e|e|e<;>rw [e] at hc
  ·exact aj hc cp
  all_goals (rw [mem_singleton.mp hc];decide)
def VD{i:It}(hi:ct i)(h:ev F e D s=some (.d (.str (aM i)),s))(I:ev F z D s=some (.d (.str [58,32]),s))(h3:ev F k D s=some (.d (.int 1),s)):ev F (.me .split1 e [z,k] q p) D s=some (.d (.list [.str (hn i),.str (bC i.2.1)]),s):=by
 refine gu h rfl (aP I (aP h3 b9)) rfl ?_;have hl:=tZ hi;have e1:aM i=hn i++58::32::bC i.2.1:=wZ i;show Option.map _ (if (0<2/\(1:Int)=1)/\(aM i).length+2<=lim/\[58,32].all (λc=>decide (c<256))=true then (match d5 [58,32] (aM i) 0 with
  |.ofNat j=>some (ab.list [.str ((aM i).take j),.str ((aM i).drop (j+2))])
  |_=>some (ab.list [.str (aM i)])) else none)=_
 rw [if_pos ⟨⟨by decide,rfl⟩,Nat.le_trans (show _<=22 by lia) (by decide),rfl⟩,e1,Ia _ _ _ (VC hi),Nat.zero_add];show some (PV.d (ab.list [.str ((hn i++58::32::bC i.2.1).take (hn i).length),.str ((hn i++58::32::bC i.2.1).drop ((hn i).length+2))]),s)=_;refine (take_left ..).symm▸List.drop_drop▸(drop_left ..).symm▸?_;rfl
theorem Ib:∀{K:List It},(∀i∈K,ct i)->nW ((K.map hI).map hd)=true
 |[],_=>rfl
 |i::K,h=>by
  show (lA (hn i)&&mz (bC i.2.1)&&nW ((K.map hI).map hd))=true;refine ((wS (Bp (h i (.head _)))).1).symm▸((wS (H4 (h i (.head _)))).2).symm▸(Ib λj hj=>h j (.tail _ hj)).symm▸?_;rfl
def Ic{K:List It}(hK:∀i∈K,i∈fw B):∀i∈cU B K,i∈fw B:=λi hi=>by
 rcases nr hi with q|⟨X,_,q,_⟩
 ·exact hK i q
 ·exact H1 q
def xa(G:aH B){K:List It}(k:jI K)(hK:∀i∈K,i∈fw B):(cU B K).length<=22:=af (List.Nodup.length_le_of_subset (jr G k).2 (Ic hK)) (Bn G)
theorem Id(w:List ab):∀C:List It,lF (C.map dW) (C.map (λi=>ab.str (46::aM i))++w)=C.map λi=>.tup [dW i,.str (46::aM i)]
 |[]=>by cases w<;>rfl
 |i::C=>by
  show ab.tup [dW i,.str (46::aM i)]::lF (C.map dW) (C.map (λi=>ab.str (46::aM i))++w)=_;refine (Id w C).symm▸?_;rfl
def VE(i:It):dt (aM i)=46::aM i:=by
 unfold aM;refine (List.replicate_succ ..).symm▸?_;rfl
def VF{i:It}(h:ct i):lK (aM i):=λd hd=>by
 have:=(wA h d hd).1;exact ⟨(cY (af (by decide:14<=32) this.1)),(cY (af (by decide:11<=32) this.1))⟩
def VG{C:List It}(h:∀i∈C,ct i):∀x∈C.map aM++[[],[]],lK x:=by
 intro x hx;rcases bD.mp hx with hx|hx
 ·obtain ⟨i,hi,rfl⟩:=bu.mp hx
  exact VF (h i hi)
 ·rcases bA.mp hx with rfl|hx
  ·exact λd hd=>aj hd cp
  ·refine (cC.mp hx).symm▸?_;exact λd hd=>aj hd cp
def Ig{C:List It}(h:∀i∈C,ct i):((C.map aM++[[],[]]).map List.length).sum<=20*C.length:=by
 rw [map_append,List.sum_append];show _+0<=_;rw [Nat.add_zero];induction C with
 |nil=>exact aD _
 |cons i C ih=>
  have H:=tZ (h i (.head _));have I:=ih λj hj=>h j (.tail _ hj);rw [map_cons,map_cons,sum_cons,length_cons];lia
def Ih(h:ev F e D s=some (.d (.str (bZ [13,10] L)),V))(I:ev F a D V=some (.d (.str [13,10]),V))(hL:L≠[])(hl:∀x∈L,lK x)(hs:(L.map List.length).sum+2*L.length<=1000000):ev F (.me .split e [a] q p) D s=some (.d (.list (L.map .str)),V):=by
 refine gu h rfl (aP I b9) rfl ?_;have h3:=tX [13,10] L;have h4:([13,10]:aa).length*L.length=2*L.length:=rfl;show Option.map _ (if 0<2/\(bZ [13,10] L).length+2<=lim/\[13,10].all (λc=>decide (c<256))=true then some (ab.list ((cZ [13,10] [] (bZ [13,10] L) 0).map .str)) else none)=_;rw [if_pos ⟨by decide,Nat.le_trans (show _<=1000002 by lia) (by decide),rfl⟩,tH L hL λx hx d hd=>(hl x hx d hd).1];rfl
def Ij(G:aH B)(T:TB B RH s.Y){K ks:List It}(k:jI K)(hK:∀i∈K,i∈fw B)(Bw:K.length<=22)(VH:i4 B ks)(h3:s.Y 3=some (.dict (cM ks)))(ru:s.Y 11=none)(iX:s.Y 12=none)(he:ee=[10]\/ee=[13]\/ee=[13,10]):
  ∃ba,(FQ (n+3)).fn 7 [.d (.list ((K.map aM).map .str)),.lit ee,.hdr 1,.ref 3] s=some (.d (dX B K),⟨ak s.Y 3 (some (.dict (cM ba))),s.own⟩)/\i4 B ba:=by
 have hc:=jr G k;have eZ:=xa G k hK;refine xS (VB (n:=n) (kt:=(K.map aM).map .str) (ee:=ee) (own:=[12,11]) G T (K.length+B.length) (seen:=[]) (dm:=K) (acc:=[]) (ks:=ks) (o4:=none) (o7:=none) (o8:=none) (qR K) (by have:=G.len;rw [length_nil];lia) hK (λX hX=>⟨(λq=>aj q cp),λZ j hj q=>by
  rcases k.k j hj with a|a
  ·rw [q.1] at a;rcases hX with h|h|h<;>lia
  ·rw [q.2] at a;exact aj a (by decide)⟩) VH) λba o4 o7 o8 el nG=>?_
 refine ⟨ba,?_,nG⟩;generalize hC:cU B K=C at hc eZ;rw [nil_append,nil_append,show cl B (K.length+B.length) [] K=C from hC] at el;have Bx:=hc.1;have w':=VG Bx;have hrs:=Ig Bx;have Ik:((C.map aM++[[],[]]).map List.length).sum+2*(C.map aM++[[],[]]).length<=1000000:=by
  refine (length_append ..).symm▸(length_map ..).symm▸?_;show _+2*(C.length+2)<=_;lia
 have Il:(C.map aM++[[],[]]).map dt=C.map (λi=>46::aM i)++[[],[]]:=by
  refine (map_append ..).symm▸(map_map ..).symm▸?_;exact ae (·++[[],[]]) (eR λi Z=>VE i)
 have ji:∀x∈C.map (λi=>46::aM i)++[[],[]],lK x:=by
  refine Il▸?_;intro x hx;obtain ⟨y,hy,rfl⟩:=bu.mp hx;intro d hd
  match y,hd,w' y hy with
  |[],hd,_=>exact aj hd cp
  |c::y,hd,hy=>
   by_cases e:c=46
   ·subst e
    rcases bA.mp hd with rfl|hd
    ·exact ⟨by decide,by decide⟩
    ·exact hy d hd
   ·rw [Hc e] at hd
    exact hy d hd
 have VI:((C.map (λi=>46::aM i)++[[],[]]).map List.length).sum+2*(C.map (λi=>46::aM i)++[[],[]]).length<=1000000:=by
  have:∀C:List It,((C.map (λi=>46::aM i)++[[],[]]).map List.length).sum=((C.map aM++[[],[]]).map List.length).sum+C.length:=by
   intro C;induction C with
   |nil=>rfl
   |cons i C ih=>
    rw [map_cons,List.cons_append,map_cons,sum_cons,ih,map_cons,List.cons_append,map_cons,sum_cons,length_cons,length_cons];lia
  refine (this ..).symm▸(length_append ..).symm▸(length_map ..).symm▸?_;show _+2*(C.length+2)<=_;lia
 have By:∀{s:ah}{o:aV},s.Y 12=some o->(s.lock (some 12)).unlock (some 12)=s:=λh=>oZ h;have VJ:(C.map dW).length<=lim:=by refine (length_map ..).symm▸?_;exact af eZ (by decide)
 refine (UG ..).symm▸?_;refine Eq.trans (Bg (t:=⟨tS s.Y ba C C,[12,11]⟩) (d:=dX B K) (D:=[some (.d (.list ((K.map aM).map .str))),some (.lit ee),some (.hdr 1),some (.ref 3),o4,some (.hdr 11),some (.ref 12),o7,o8,some (.d (.str (bZ [13,10] (C.map aM++[[],[]])))),some (.d (.list ((C.map (λi=>46::aM i)++[[],[]]).map .str))),some (.d (.list (rm B K))),some (.d (.list (rs B K))),some (.d (.list (rt B K)))]) ?_ T.s30) ?_
 ·refine sq (bI (x:=.hdr 11) (V:=⟨ak s.Y 11 (some (.list ((K.map hI).map hd))),[11]⟩) ?_) ?_
  ·refine (bv (show decide (2<=n+2)=true from fj (by exact (le_add_left _ _)))).trans ((au (x:=.ref 11) (s:=⟨ak s.Y 11 (some (.list ((K.map hI).map hd))),[11]⟩) ?_).trans ?_)
   ·refine (au (x:=((K.map aM).map ab.str,none)) (s:=⟨s.Y,[]⟩) (fH (ag rfl) rfl)).trans ((bv (by show ((K.map aM).map ab.str).length<=lim;refine (length_map ..).symm▸(length_map ..).symm▸?_;exact af Bw (by decide))).trans ((au (x:=(K.map hI).map hd) (s:=⟨s.Y,[]⟩) ?_).trans ?_))
    ·show gU _ ((K.map aM).map ab.str) [] _=_
     refine (map_map ..).symm▸?_;refine Eq.trans (rj (c:=λZ=>true) (g:=λi=>hd (hI i)) (h:=λi=>ab.str (aM i)) λi hi=>?_) ?_
     ·refine gA (c:=true) rfl rfl λZ=>iH (x:=.d (.list [.str (hn i),.str (bC i.2.1)])) (VD (k.ok i hi) (ag rfl) rfl rfl) rfl
     ·refine (List.filter_eq_self.mpr λZ Z=>rfl).symm▸(nil_append ..).symm▸(map_map ..).symm▸?_;rfl
    ·exact gf ru
   ·show ((match (ak s.Y 11 (some (.list ((K.map hI).map hd)))) 11 with|some (.list J)=>some (11,J)|_=>none).bind λq=>if nW q.2=true then some (PV.hdr q.1,_) else none)=_
    refine (ie ..).symm▸?_;exact bv (Ib k.ok)
  refine sq (bI (x:=.ref 12) (V:=⟨tS s.Y ks K [],[12,11]⟩) ?_) ?_
  ·refine (gf (s:=⟨ak s.Y 11 (some (.list ((K.map hI).map hd))),[11]⟩) (o:=.list []) (show (ak s.Y 11 (some (.list ((K.map hI).map hd)))) 12=none from iX)).trans ?_
   refine ae (λY=>some (PV.ref 12,(⟨Y,[12,11]⟩:ah))) ?_
   funext j
   show (if j=12 then _ else if j=11 then _ else s.Y j)=if j=12 then _ else if j=11 then _ else if j=3 then _ else s.Y j
   by_cases e3:j=3
   ·subst e3;exact h3
   ·refine (bK e3).symm▸?_;rfl
  refine sq (tW el) ?_;refine sq (bI (VA (ag rfl) rfl (by rw [length_map];exact (af eZ (by decide:22<=1000))) λp hp=>?_)) ?_
  ·obtain ⟨i,hi,rfl⟩:=bu.mp hp
   have H:=tZ (Bx i hi);rw [wZ] at H;unfold jN at H;rw [length_append,length_cons,length_cons] at H;exact ⟨by exact (af (af (bz _ _) H) (by decide:20<=1000)),by exact (af (af (af (af (bz _ _) (bz _ _)) (le_add_left _ _)) H) (by decide))⟩
  rw [show (C.map hI).map jN=C.map aM by rw [map_map];exact eR λi Z=>(wZ i).symm];have VK:∀(w1 w2 w3 w4 w5 w6 w7 w8 w9 rx ua ub:Pos)(ce:aI)(σ':ah),ce[9]?=some (some (.d (.str (bZ [13,10] (C.map aM++[[],[]])))))->ce[1]?=some (some (.lit ee))->ev (FQ (n+2)) (.me .split (.qrep (.v 9 w1) (.v 1 w2) w3 w4 w5 w6 w7) [(.cS [13,10] w8)] w9 rx) ce σ'=some (.d (.list ((C.map (λi=>46::aM i)++[[],[]]).map .str)),σ'):=by
   intro w1 w2 w3 w4 w5 w6 w7 w8 w9 rx ua ub ce σ' h9 H;exact Ih (L:=C.map (λi=>46::aM i)++[[],[]]) (Il▸U6 (ag h9) (ag H) (by simp) he w' Ik) rfl (by simp) ji VI
  refine sq (bI (VK _ _ _ _ _ _ _ _ _ _ default default _ _ rfl rfl)) ?_;have VL:∀(ce:aI)(w1:Pos),ce[6]?=some (some (.ref 12))->gE (FQ (n+2)) (.val (.v 6 w1)) ce ⟨tS s.Y ba C C,[12,11]⟩=some ((C.map dW,some 12),⟨tS s.Y ba C C,[12,11]⟩):=λce w1 h=>fH (ag h) rfl;refine sq (bI (x:=.d (.list (rm B K))) (V:=⟨tS s.Y ba C C,[12,11]⟩) (Eq.trans (gO (VL _ _ rfl) VJ (rj (c:=λi=>nx i==0&&decide (256<=i.1)) (g:=λi=>.tup [.int i.1,.int i.2.2]) λi hi=>?_)) ?_)) ?_
  ·refine gA (c:=nx i==0&&decide (256<=i.1)) rfl ?_ λZ=>nE (ag rfl) (ag rfl)
   refine (au (x:=nx i==0&&decide (256<=i.1)) (pn (c1:=nx i==0) (c2:=decide (256<=i.1)) (nf (x:=.d (.bool (nx i==0))) (Eq.trans (f5 (aP (ag rfl) b9) (HM (n:=n+1) (nx i:Int))) ?_) rfl) λZ=>nf (x:=.d (.bool (decide (256<=i.1)))) (Eq.trans (f5 (aP (ag rfl) b9) (HL (n:=n+1) (i.1:Int))) ?_) rfl)).trans ?_
   ·refine ae (λb=>some (PV.d (.bool b),_)) ?_
    rw [Bool.eq_iff_iff,beq_iff_eq,beq_iff_eq];lia
   ·refine ae (λb=>some (PV.d (.bool b),_)) (decide_eq_decide.mpr ?_)
    lia
   ·cases nx i==0&&decide (256<=i.1)<;>rfl
  ·rw [By (s:=⟨tS s.Y ba C C,[12,11]⟩) rfl,nil_append]
   unfold rm;rw [hC]
  have Im:∀(ce:aI)(w1 w2 w3 w4:Pos),ce[6]?=some (some (.ref 12))->ce[10]?=some (some (.d (.list ((C.map (λi=>46::aM i)++[[],[]]).map .str))))->gE (FQ (n+2)) (.zip (.v 6 w1) (.v 10 w2) w3 w4) ce ⟨tS s.Y ba C C,[12,11]⟩=some ((C.map (λi=>ab.tup [dW i,.str (46::aM i)]),some 12),⟨tS s.Y ba C C,[12,11]⟩):=by
   intro ce w1 w2 w3 w4 h6 cH;refine (au (ag h6)).trans ((au (ag cH)).trans ?_);rw [map_append,map_map,<-Id [ab.str [],ab.str []] C];rfl
  have Io:∀(i:It)(ce:aI)(σ':ah)(w1 w2 w3 w4 w5:Pos),ce[0]?=some (some (.d (dW i)))->bP (FQ (n+2)) (.e (.call 1 [(.idx (.v 0 w1) (.cI 0 w2) w3)] w4 w5)) ce σ'=some (decide (nx i<256),σ'):=by
   intro i ce σ' w1 w2 w3 w4 w5 h;refine nf (x:=.d (.bool (decide (nx i<256)))) (Eq.trans (f5 (aP (rg (k:=0) (ag h) rfl rfl) b9) (UV (n:=n+1) (nx i:Int))) ?_) rfl;refine ae (λb=>some (PV.d (.bool b),_)) (decide_eq_decide.mpr ?_);lia
  have Ip:(C.map (λi=>ab.tup [dW i,.str (46::aM i)])).length<=lim:=by rw [length_map];exact af eZ (by decide)
  refine sq (bI (x:=.d (.list (rs B K))) (V:=⟨tS s.Y ba C C,[12,11]⟩) (Eq.trans (gO (Im _ _ _ _ _ rfl rfl) Ip (rj (c:=λi=>decide (nx i<256)) (g:=rn) λi hi=>?_)) ?_)) ?_
  ·refine gA (c:=decide (nx i<256)) rfl ?_ λZ=>nE (rg (k:=0) (ag rfl) rfl rfl) (ag rfl)
   refine (au (Io i _ _ _ _ _ _ _ rfl)).trans ?_;cases decide (nx i<256)<;>rfl
  ·rw [By (s:=⟨tS s.Y ba C C,[12,11]⟩) rfl,nil_append]
   unfold rs;rw [hC]
  refine sq (bI (x:=.d (.list (rt B K))) (V:=⟨tS s.Y ba C C,[12,11]⟩) (Eq.trans (gO (Im _ _ _ _ _ rfl rfl) Ip (rj (c:=λi=> !decide (nx i<256)) (g:=rn) λi hi=>?_)) ?_)) ?_
  ·refine gA (c:= !decide (nx i<256)) rfl ?_ λZ=>nE (rg (k:=0) (ag rfl) rfl rfl) (ag rfl)
   refine (au (x:= !decide (nx i<256)) ((au (Io i _ _ _ _ _ _ _ rfl)).trans rfl)).trans ?_;cases decide (nx i<256)<;>rfl
  ·rw [By (s:=⟨tS s.Y ba C C,[12,11]⟩) rfl,nil_append]
   unfold rt;rw [hC]
  refine sr (fe (x:=.d (dX B K)) (V:=⟨tS s.Y ba C C,[12,11]⟩) ?_) rfl;refine au (aP (x:=.d (.list ((fx B K).map .str))) (V:=⟨tS s.Y ba C C,[12,11]⟩) ?_ (aP (x:=.d (.list ((kg B K).map .str))) (V:=⟨tS s.Y ba C C,[12,11]⟩) ?_ (aP (x:=.d (.list (rm B K))) (V:=⟨tS s.Y ba C C,[12,11]⟩) (ag rfl) (aP (x:=.d (.list (rs B K))) (V:=⟨tS s.Y ba C C,[12,11]⟩) (ag rfl) (aP (x:=.d (.list (rt B K))) (V:=⟨tS s.Y ba C C,[12,11]⟩) (ag rfl) b9)))))
  ·unfold fx
   refine (hC ..).symm▸?_;exact Ih (L:=C.map aM++[[],[]]) (ag rfl) rfl (by simp) w' Ik
  ·unfold kg
   rw [hC];exact ag rfl
 ·refine ae (λY=>some (PV.d (dX B K),(⟨Y,s.own⟩:ah))) ?_
  funext j
  show (if j∈[12,11] then none else if j=12 then _ else if j=11 then _ else if j=3 then _ else s.Y j)=if j=3 then _ else s.Y j
  by_cases e1:j=12
  ·subst e1;exact iX.symm
  ·by_cases e2:j=11
   ·subst e2;exact ru.symm
   ·rw [if_neg (by simp [e1,e2]),bK e1,bK e2]
end
def Iq:∀n<300,uE (d6 n)=some n/\(d6 n).length<=9/\(d6 n).all (λc=>decide (48<=c/\c<=57))=true:=by decide+kernel
def ig(K:List It):aa:=bZ [95] (K.map aM)
theorem Ir{P:Nat->Prop}(hc:P c):∀{l:List aa},(∀x∈l,∀d∈x,P d)->∀d∈bZ [c] l,P d
 |[],_,_,h=>nomatch h
 |[x],hl,d,h=>hl x (.head _) d h
 |a::b::l,hl,d,h=>by
  rw [iJ] at h;rcases bD.mp h with h|h
  ·exact hl a (.head _) d h
  ·rcases bA.mp h with rfl|h
   ·exact hc
   ·exact Ir hc (λx hx=>hl x (.tail _ hx)) d h
def xb{K:List It}(h:∀i∈K,ct i):∀d∈ig K,(32<=d/\d<127)/\¬(97<=d/\d<=122):=by
 refine Ir ⟨by decide,by decide⟩ λx hx d hd=>?_;obtain ⟨i,hi,rfl⟩:=bu.mp hx;have:=wA (h i hi) d hd;exact ⟨this.1,this.2.1⟩
theorem Bz:∀{K K':List It},(∀i∈K,ct i)->(∀i∈K',ct i)->K.map aM=K'.map aM->K=K'
 |[],[],_,_,_=>rfl
 |[],_::_,_,_,h=>nomatch h
 |_::_,[],_,_,h=>nomatch h
 |i::K,j::K',H,I,h=>by
  refine aT (List.cons.inj h) λa b=>?_;rw [tI (H i (.head _)) (I j (.head _)) a,Bz (λk hk=>H k (.tail _ hk)) (λk hk=>I k (.tail _ hk)) b]
def BA{K:List It}(h:∀i∈K,ct i):∀x∈K.map aM,∀d∈x,d≠95:=λx hx d hd=>by
 obtain ⟨i,hi,rfl⟩:=bu.mp hx;exact (wA (h i hi) d hd).2.2
def VM{K K':List It}(H:∀i∈K,ct i)(I:∀i∈K',ct i)(n1:K≠[])(n2:K'≠[])(e:ig K=ig K'):K=K':=
 Bz H I (Hb (by simpa using n1) (by simpa using n2) (BA H) (BA I) e)
def i5(Ks:List (List It)):List (aa×aa):=Ks.zipIdx.map λp=>(ig p.1,d6 p.2)
noncomputable def eQ (wl:List (aa×Nat)):List (aa×ab):=wl.map λp=>(p.1,.int p.2)
structure KK(B:List bk)(K:List It):Prop where
 ok:jI K
 all:∀i∈K,i∈fw B
 ne:K≠[]
def KK.len(G:aH B){K:List It}(h:KK B K):K.length<=22:=af (List.Nodup.length_le_of_subset h.ok.nd h.all) (Bn G)
section
theorem Iu{K:List It}(hK:KK B K):∀{Ks:List (List It)}(k:Nat),(∀aW∈Ks,KK B aW)->((Ks.zipIdx k).map λp=>(ig p.1,d6 p.2)).find? (i0 (ig K))=if K∈Ks then some (ig K,d6 (k+Ks.idxOf K)) else none
 |[],_,_=>rfl
 |aW::Ks,k,h=>by
  have ih:=Iu hK (k+1) λbg hI=>h bg (.tail _ hI);have hJ:=h aW (.head _);rw [List.zipIdx_cons,map_cons];by_cases e:aW=K
  ·subst e
   rw [find?_cons_of_pos (by exact beq_self_eq_true _),if_pos (.head _),List.idxOf_cons_self];rfl
  ·have ix:i0 (ig K) (ig aW,d6 k)=false:=eU.mpr λq=>e (VM hJ.ok.ok hK.ok.ok hJ.ne hK.ne (H2 (λd hd=>(xb hJ.ok.ok d hd).2) (λd hd=>(xb hK.ok.ok d hd).2) q))
   rw [find?_cons_of_neg (by rw [ix];decide),ih];by_cases c:K∈Ks
   ·rw [if_pos c,if_pos (.tail _ c),List.idxOf_cons,beq_eq_false_iff_ne.mpr e]
    show some (ig K,d6 (k+1+_))=some (ig K,d6 (k+(_+1)));rw [add_right_comm,Nat.add_assoc]
   ·rw [if_neg c,if_neg λq=>(mem_cons.mp q).elim (λq=>e q.symm) c]
def VN(Ks:List (List It))(K:List It):i5 (Ks++[K])=i5 Ks++[(ig K,d6 Ks.length)]:=by
 unfold i5;rw [List.zipIdx_append,map_append,Nat.zero_add];rfl
noncomputable def BB (S:aa):List aa:=[[]]++S.map (λx=>[x])++S.flatMap (λx=>S.map λy=>[x,y])++S.flatMap (λx=>S.flatMap λy=>S.map λz=>[x,y,z])
def VO(h:∀x∈P,x∈S)(hl:P.length<=3):P∈BB S:=by
 match P,h,hl with
 |[],_,_=>exact cE _ (cE _ (cE _ (.head _)))
 |[x],h,_=>exact cE _ (cE _ (cj _ (bu.mpr ⟨x,h x (.head _),rfl⟩)))
 |[x,y],h,_=>exact cE _ (cj _ (mem_flatMap.mpr ⟨x,h x (.head _),bu.mpr ⟨y,h y (.tail _ (.head _)),rfl⟩⟩))
 |[x,y,z],h,_=>exact cj _ (mem_flatMap.mpr ⟨x,h x (.head _),mem_flatMap.mpr ⟨y,h y (.tail _ (.head _)),bu.mpr ⟨z,h z (.tail _ (.tail _ (.head _))),rfl⟩⟩⟩)
 |_::_::_::_::_,_,hl=>simp only [length_cons] at hl;lia
theorem xc{α β:Type}(k:Nat)(f:α->List β):∀l:List α,(∀x∈l,(f x).length=k)->(l.flatMap f).length=l.length*k
 |[],_=>by rw [List.flatMap_nil,length_nil,length_nil,zero_mul]
 |x::l,h=>by rw [flatMap_cons,length_append,h x (.head _),xc k f l λy hy=>h y (.tail _ hy),length_cons,Nat.succ_mul,Nat.add_comm]
def VP(h:S.length=5):(BB S).length=156:=by
 unfold BB;rw [length_append,length_append,length_append,length_map,xc 5 _ S λx Z=>by rw [length_map,h],xc 25 _ S λx Z=>by rw [xc 5 _ S λy Z=>by rw [length_map,h],h],h]
 rfl
structure BK(B:List bk)(S:aa)(ks:List It)(Ks:List (List It))(wl:List (aa×Nat)):Prop where
 ks:i4 B ks
 nd:Ks.Nodup
 kk:∀K∈Ks,KK B K
 wn:(wl.map (·.1)).Nodup
 ws:∀p∈wl,Ks[p.2]?=some (aL B p.1)
 wp:∀p∈wl,(∀x∈p.1,x∈S)/\p.1.length<=3
 le:Ks.length<=wl.length
 pc:∀p∈wl,∀Q x,p.1=Q++[x]->Q∈wl.map (·.1)
def BK.wlen(hS:S.length=5){ks:List It}(aY:BK B S ks Ks wl):wl.length<=156:=by
 rw [<-VP hS,<-length_map];refine List.Nodup.length_le_of_subset aY.wn λP hP=>?_;obtain ⟨p,hp,rfl⟩:=bu.mp hP;exact VO (aY.wp p hp).1 (aY.wp p hp).2
def kS(B:List bk)(Y:Nat->Option aV)(ks:List It)(Ks:List (List It))(wl:List (aa×Nat)):Nat->Option aV:=
 ak (ak (ak (ak Y 3 (some (.dict (cM ks)))) 4 (some (.list (Ks.map (dX B))))) 5 (some (.dict (eQ wl)))) 6 (some (.list ((i5 Ks).map hd)))
section
end
theorem pu:∀{wl:List (aa×Nat)},dget (eQ wl) P=(wl.find? λp=>p.1==P).map λp=>.int p.2
 |[]=>rfl
 |p::wl=>by
  have ih:=pu (P:=P) (wl:=wl);unfold dget eQ at ih⊢;rw [map_cons];cases e:p.1==P with
  |true=>rw [find?_cons_of_pos (p:=λp:aa×ab=>p.1==P) e,find?_cons_of_pos (p:=λp:aa×Nat=>p.1==P) e];rfl
  |false=>rw [find?_cons_of_neg (by rw [e];decide),find?_cons_of_neg (by rw [e];decide),ih]
def lh{wl:List (aa×Nat)}(hn:(wl.map (·.1)).Nodup)(h:(P,j)∈wl):wl.find? (λp=>p.1==P)=some (P,j):=by
 induction wl with
 |nil=>exact nomatch h
 |cons p wl ih=>
  refine aT (eS.mp hn) λn1 n2=>?_;rcases bA.mp h with rfl|h
  ·exact find?_cons_of_pos (beq_self_eq_true _)
  ·rw [find?_cons_of_neg (p:=λp:aa×Nat=>p.1==P) (λq=>n1 (List.mem_map.mpr ⟨_,h,(beq_iff_eq.mp q).symm⟩)),ih n2 h]
def Iv{wl:List (aa×Nat)}(h:P∉wl.map (·.1)):wl.find? (λp=>p.1==P)=none:=find?_eq_none.mpr λp hp q=>h (bu.mpr ⟨p,hp,bB.mp q⟩)
end
noncomputable abbrev gi (turn:Nat):PV:=.tup [.hdr 1,.ref 3,.ref 4,.ref 5,.hdr 6,.d (.int turn)]
structure FR(B:List bk)(RH:List (aa×aa))(Y:Nat->Option aV):Prop where
 tb:TB B RH Y
 s11:Y 11=none
 s12:Y 12=none
section
variable{p q:Pos}{ks:List It}{Ks:List (List It)}{Gl:Prop}
def rA{x:Nat}(hx:x<1000)(h:ev F e D s=some (.d (.int x),V)):ev F (.bi .chr1 e q p) D s=some (.d (.str [x]),V):=iH h (by
 show (if 0<=(x:Int)/\(x:Int)<1000 then some (ab.str [(x:Int).toNat]) else none)=_;rw [if_pos ⟨(natCast_nonneg _),(ofNat_lt.mpr hx)⟩];rfl)
def jO(H:ev F a D s=some (.d (.str u),V))(I:ev F b D V=some (.d (.str v),s''))(hl:(u++v).length<=lim):ev F (.bin .add a b p) D s=some (.d (.str (u++v)),s''):=dM H I (bv hl)
def rB(h:ev F e D s=some (.d d,V)):ev F (.lst none [e] p) D s=some (.d (.list [d]),V):=au (aP h b9)
theorem BC:∀l:List aa,ab.plainsN 7 (l.map ab.str)=true
 |[]=>rfl
 |x::l=>BC l
def VQ{L:List It}(eY:L.length<64):qb ((L.map aM).map ab.str)=some (.list (((L.mergeSort jq).map aM).map .str)):=by
 unfold qb;rw [if_pos (by rw [length_map,length_map];exact eY),lf];show some (ab.list (((L.map aM).mergeSort pY).map .str))=_;rw [<-List.map_mergeSort (r:=jq) (s:=pY) λa Z b Z=>rfl]
def jP(B:List bk)(Q:aa)(c:It->Bool):List ab:=((cU B (aL B Q)).filter c).map rn
def VR{l:List aa}:xW (.d (.list (l.map .str))) (.d (.list []))=some l.isEmpty:=by
 show (if (ab.plainsN 7 (l.map .str)&&true)=true then some (kr (l.map .str) []) else none)=_;rw [BC];cases l<;>rfl
def VS(h:m<300):ev F e D s=some (.d (.str (d6 m)),V)->ev F (.bi .intS e q p) D s=some (.d (.int m),V):=λh'=>iH h' (by
 refine fC (Iq m h) λH I Z=>?_;show (if (d6 m).length<=9 then (uE (d6 m)).map λ(n:Nat)=>ab.int n else none)=_;rw [if_pos I,H];rfl)
def VT{K:List It}(hK:∀i∈K,i∈fw B){x:Nat}(hx:x≠0):∀i∈go B x K,i∈fw B:=by
 intro i hi;obtain ⟨j,a,b,rfl⟩:=lZ.mp hi;have hj:=pi.mp (Ic hK j a);have hp:=(qU (b▸hx)).1;rcases hj with rfl|rfl|⟨H,I⟩
 ·exact pi.mpr (.inr (.inl rfl))
 ·exact aj hp (by decide)
 ·exact pi.mpr (.inr (.inr ⟨H,hp⟩))
def VU{j:Nat}(h:P∉wl.map (·.1)):fQ (eQ wl) P (.int j)=eQ (wl++[(P,j)]):=by
 unfold fQ;rw [if_neg]
 ·unfold eQ;rw [map_append];rfl
 ·intro q
  refine bt (any_eq_true.mp q) λp hp q=>?_;obtain ⟨p',BD,rfl⟩:=bu.mp hp;exact h (bu.mpr ⟨p',BD,bB.mp q⟩)
def VV(hk:∀K∈Ks,KK B K):∀p∈i5 Ks,dR p.1:=λp hp=>by
 obtain ⟨⟨K,j⟩,h,rfl⟩:=bu.mp hp;have hm:K∈Ks:=by
  refine fC (List.mem_zipIdx h) λZ Z e=>?_;rw [e];exact List.getElem_mem _
 exact λc hc=>(xb (hk K hm).ok.ok c hc).1
def VW(h:m<300):dR (d6 m):=λc hc=>by
 have:=cm (dA.mp (Iq m h).2.2 c hc);lia
def VX(i:Int)(s:ah):nZ .strI (.d (.int i)) s=if 0<=i/\i<100000000 then some (.str (d6 i.toNat)) else none:=rfl
def xe{i j:Int}(h:0<j/\j<2 ^ 30):lD .mod (.d (.int i)) (.d (.int j)) s=some (.d (.int (i % j))):=by
 have e:lD .mod (.d (.int i)) (.d (.int j)) s=Option.map (λk=>PV.d (.int k)) (if 0<j/\j<2 ^ 30 then some (i % j) else none):=rfl;rw [e,if_pos h];rfl
def VY{m:Nat}(hm:m<100000000)(h:ev F e D s=some (.d (.int m),V)):ev F (.bi .strI e q p) D s=some (.d (.str (d6 m)),V):=iH h (by
 rw [VX,if_pos ⟨(natCast_nonneg _),(ofNat_lt.mpr hm)⟩,toNat_natCast])
theorem Iw:∀{K:List It},(∀i∈K,ct i)->((K.map aM).map List.length).sum<=20*K.length
 |[],_=>aD _
 |i::K,h=>by
  have H:=tZ (h i (.head _));have I:=Iw λj hj=>h j (.tail _ hj);rw [map_cons,map_cons,sum_cons,length_cons];lia
def BK.addW(aY:BK B S ks Ks wl)(hk:i4 B ba)(hn:cv.Nodup)(oU:∀K∈cv,KK B K)(kI:∀(i:Nat) (K:List It),Ks[i]?=some K->cv[i]?=some K)(hl:cv.length<=Ks.length+1)(hP:P∉wl.map (·.1))(hj:cv[j]?=some (aL B P))(hs:(∀x∈P,x∈S)/\P.length<=3)(xf:∀Q x,P=Q++[x]->Q∈wl.map (·.1)):BK B S ba cv (wl++[(P,j)]) where
 ks:=hk
 nd:=hn
 kk:=oU
 wn:=by
  rw [map_append];refine nodup_append.mpr ⟨aY.wn,eS.mpr ⟨(λq=>aj q cp),nodup_nil⟩,λa ha b hb e=>?_⟩;rw [mem_singleton.mp hb] at e;exact hP ((show a=P from e)▸ha)
 ws p hp:=by
  rcases bD.mp hp with hp|hp
  ·exact kI _ _ (aY.ws p hp)
  ·rw [mem_singleton.mp hp];exact hj
 wp p hp:=by
  rcases bD.mp hp with hp|hp
  ·exact aY.wp p hp
  ·rw [mem_singleton.mp hp];exact hs
 le:=by
  have:=aY.le;rw [length_append,length_singleton];exact (af hl (dN this _))
 pc p hp Q x e:=by
  rw [map_append];refine cE _ ?_;rcases bD.mp hp with hp|hp
  ·exact aY.pc p hp Q x e
  ·rw [mem_singleton.mp hp] at e;exact xf Q x e
def kT(B:List bk)(t:ah)(ks:List It)(Ks:List (List It))(wl:List (aa×Nat)):ah:=(((t.put 3 (.dict (cM ks))).put 4 (.list (Ks.map (dX B)))).put 5 (.dict (eQ wl))).put 6 (.list ((i5 Ks).map hd))
def Ix(h3:k≠3)(h4:k≠4)(h5:k≠5)(h6:k≠6):(kT B t ks Ks wl).put k o=kT B (t.put k o) ks Ks wl:=by
 unfold kT;rw [gz (Ne.symm h6),gz (Ne.symm h5),gz (Ne.symm h4),gz (Ne.symm h3)]
def VZ:(kT B t ks Ks wl).put 3 (.dict (cM ba))=kT B t ba Ks wl:=by
 unfold kT;rw [gz (by decide),gz (k:=5) (by decide),gz (k:=4) (by decide),gy]
def Iy:(kT B t ks Ks wl).put 5 (.dict (eQ bU))=kT B t ks Ks bU:=by
 unfold kT;rw [gz (by decide),gy]
def V0:((kT B t ks Ks wl).put 6 (.list ((i5 cv).map hd))).put 4 (.list (cv.map (dX B)))=kT B t ks cv wl:=by
 unfold kT;rw [gy,gz (by decide),gz (k:=5) (by decide),gy]
def uc:(kT B t ks Ks wl).Y 4=some (.list (Ks.map (dX B))):=rfl
def px:(kT B t ks Ks wl).Y 5=some (.dict (eQ wl)):=rfl
def V1:(kT B t ks Ks wl).Y 6=some (.list ((i5 Ks).map hd)):=rfl
def V2:(kT B t ks Ks wl).Y 3=some (.dict (cM ks)):=rfl
def f6(h:t.Y k=X)(hk:k∉[3,4,5,6]:=by decide):(kT B t ks Ks wl).Y k=X:=cu (cu (cu (cu h λq=>hk (q.symm▸(show 3∈[3,4,5,6] by decide))) λq=>hk (q.symm▸(show 4∈[3,4,5,6] by decide))) λq=>hk (q.symm▸(show 5∈[3,4,5,6] by decide))) λq=>hk (q.symm▸(show 6∈[3,4,5,6] by decide))
def V3(h:FR B RH t.Y):FR B RH (kT B t ks Ks wl).Y:=⟨⟨f6 h.tb.s1,f6 h.tb.s10,f6 h.tb.s16,f6 h.tb.s30,h.tb.rh⟩,f6 h.s11,f6 h.s12⟩
structure fy(wl bU:List (aa×Nat))(N:List aa):Prop where
 sub:∀p∈wl,p∈bU
 new:∀P∈N,P∈bU.map (·.1)
 back:∀p∈bU,p∈wl\/p.1∈N
def fy.refl(wl:List (aa×Nat)):fy wl wl []:=⟨λZ h=>h,λZ h=>(aj h cp),λZ h=>.inl h⟩
def fy.one:fy wl (wl++[(P,j)]) [P]:=⟨λZ h=>cE _ h,λZ h=>cC.mp h▸bu.mpr ⟨_,cj _ (.head _),rfl⟩,λZ h=>(bD.mp h).imp id λq=>cC.mpr (ae (·.1) (cC.mp q))⟩
def fy.old(h:P∈wl.map (·.1)):fy wl wl [P]:=⟨λZ h=>h,λZ q=>cC.mp q▸h,λZ h=>.inl h⟩
def Iz(K:List It):ab:=.list ((K.map aM).map .str)
def oF(Q:aa)(x:Nat)(picks:List ab)(turn:Nat):aI:=[some (.d (.str Q)),some (.d (.int x)),some (.d (.list picks)),some (gi turn),some (.hdr 1),some (.ref 3),some (.ref 4),some (.ref 5),some (.hdr 6),some (.d (.int turn)),none,none]
def ud(Q:aa)(x:Nat)(picks:List ab)(turn:Nat):aI:=(oF Q x picks turn).set 10 (some (.d (.str (Q++[x]))))
def mh(Q:aa)(x:Nat)(picks:List ab)(turn:Nat)(K:List It):aI:=(ud Q x picks turn).set 11 (some (.d (Iz K)))
variable{K:List It}
def V4(ue:x<1000)(hl:Q.length<3)(h:bo F ts (ud Q x picks turn) s=R):bo F (nS jh 0::nS jh 1::ts) [some (.d (.str Q)),some (.d (.int x)),some (.d (.list picks)),some (gi turn),none,none,none,none,none,none,none,none] s=R:=
 sq (aS:=oF Q x picks turn) (V:=s) rfl (sq (bI (jO rfl (rA ue rfl) (af (iZ (Nat.le_of_lt hl) (aD 1)) (by decide)))) h)
def IA{b:Bool}(h5:s.Y 5=some (.dict (eQ wl)))(hb:(dget (eQ wl) (Q++[x])).isSome=b):bP F (fv (nS jh 2)) (ud Q x picks turn) s=some (b,s):=cT rfl rfl ((Br h5).trans (ae some hb))
def V5(G:aH B)(rC:KK B (aL B Q))(hc:∀i,nx i=x->c i=true):ex F (nS jh 3) (ud Q x (jP B Q c) turn) s=some (.next,mh Q x (jP B Q c) turn (aL B (Q++[x])),s):=by
 have eZ:=xa G rC.ok rC.all;refine bI (x:=.d (Iz (aL B (Q++[x])))) (V:=s) (iH (x:=.d (.list (((((cU B (aL B Q)).filter (nx ·==x)).map adv).map aM).map ab.str))) (V:=s) (Eq.trans (gO (J:=jP B Q c) (lk:=none) (fH rfl rfl) ((length_map ..).symm▸af (length_filter_le _ _) (af eZ (by decide))) (rj (h:=rn) (C:=(cU B (aL B Q)).filter c) λi hi=>gA (c:=nx i==x) rfl ?_ λZ=>ag rfl)) ?_) ?_)
 ·have e:∀(w1 w2 w3:Pos),bP F (.cmp .eq (.v 0 w1) (.v 2 w2) w3) [some (.d (.int (nx i))),some (.d (.str (46::aM i))),some (.d (.int x))] s=some (nx i==x,s):=λw1 w2 w3=>cT rfl rfl (ae some (Bool.eq_iff_iff.mpr ((bB (a:=(nx i:Int))).trans (ofNat_inj.trans bB.symm))))
  refine (au (e _ _ _)).trans ?_;cases nx i==x<;>rfl
 ·refine ae (λl=>some (PV.d (.list l),s)) ((nil_append _).trans ?_)
  rw [List.filter_filter,map_map,map_map,show ((cU B (aL B Q)).filter λa=>(nx a==x)&&c a)=(cU B (aL B Q)).filter (nx ·==x) from List.filter_congr λa Z=>by
   cases e:nx a==x with
   |false=>rfl
   |true=>rw [hc a (beq_iff_eq.mp e)];rfl]
  exact rfl
 ·rw [lX]
  exact VQ ((length_map ..).symm▸dZ (length_filter_le _ _) (dZ eZ (by decide)))
def IB{b:Bool}(hb:K.isEmpty=b):bP F (fv (nS jh 4)) (mh Q x picks turn K) s=some (b,s):=cT rfl rfl (VR.trans (ae some (hb▸List.isEmpty_map ..)))
def V6(G:aH B)(hK:KK B K):ev F (.me .join (.cS [95] w1) [(.v 11 w2)] w3 w4) (mh Q x picks turn K) s=some (.d (.str (ig K)),s):=
 mf rfl (ag rfl) rfl (lf _) (af (Nat.mul_le_mul_right 2 ((length_map ..).symm▸hK.len G)) (by decide)) (af (Iw hK.ok.ok) (af (fO 20 (hK.len G)) (by decide)))
def BE(h4:s.Y 4=some (.list (Ks.map (dX B)))):ev F (.bi .len (.v 6 w1) w2 w3) (mh Q x picks turn K) s=some (.d (.int Ks.length),s):=length_map (dX B)▸t6 rfl h4
def IC(G:aH B)(hK:KK B K)(hm:m<300)(hL:Ks.length<300)(h4:s.Y 4=some (.list (Ks.map (dX B))))(mi:(FQ (n+3)).fn 26 [.hdr 6,.d (.str (ig K)),.d (.str (d6 Ks.length))] s=some (.d (.str (d6 m)),V))(h5:V.Y 5=some (.dict (eQ wl)))(hw:wl.length+1<=lim)(hn:Q++[x]∉wl.map (·.1)):ex (FQ (n+3)) (nS jh 5) (mh Q x picks turn K) s=some (.next,mh Q x picks turn K,V.put 5 (.dict (eQ (wl++[(Q++[x],m)])))):=
 (Bt (VS hm (md rfl (aP (V6 G hK) (aP (VY (dJ hL (by decide)) (BE h4)) b9)) mi)) rfl rfl h5 ((length_map ..).symm▸hw)).trans (ae (λl=>some (Fl.next,_,V.put 5 (.dict l))) (VU hn))
def ID{α:Type}{l:List α}{a:α}(h:l.Nodup)(ha:a∉l):(l++[a]).Nodup:=nodup_append.mpr ⟨h,eS.mpr ⟨(λq=>aj q cp),nodup_nil⟩,λZ hx Z hb e=>ha (cC.mp hb▸e▸hx)⟩
def IE{P:aa}(h:(wl.map (·.1)).Nodup)(hn:P∉wl.map (·.1)){m:Nat}:dget (eQ (wl++[(P,m)])) P=some (.int m):=by
 rw [pu,lh ((map_append ..).symm▸ID h hn) (List.mem_append_right _ (.head _))];rfl
def IF{m:Nat}{b:Bool}(V7:s.Y 5=some (.dict (eQ wl)))(hg:dget (eQ wl) (Q++[x])=some (.int m))(h4:s.Y 4=some (.list (Ks.map (dX B))))(hb:decide (m=Ks.length)=b):bP F (fv (nS jh 6)) (mh Q x picks turn K) s=some (b,s):=cT (t0 rfl rfl V7 hg) (BE h4) ((ae some (Bool.eq_iff_iff.mpr ((bB).trans (ofNat_inj.trans decide_eq_true_iff.symm)))).trans (ae some hb))
noncomputable def nI (t:Nat):aa:=if t=0 then [10] else if t=1 then [13] else [13,10]
def IG(t:Nat):nI t=[10]\/nI t=[13]\/nI t=[13,10]:=by
 unfold nI
 split
 ·exact .inl rfl
 ·split
  ·exact .inr (.inl rfl)
  ·exact .inr (.inr rfl)
def IH{t:Nat}(ht:t<3)(h:ev F e D s=some (.d (.int t),s)):ev F (.idx (.tup [.cL [10] w1,.cL [13] w2,.cL [13,10] w3] w4) e p) D s=some (.lit (nI t),s):=by
 refine (au rfl).trans ((au h).trans (eM ?_));show (bV 3 (t:Int)).bind ([PV.lit [10],.lit [13],.lit [13,10]][·]?)=_;rw [Bk ht];exact ms (P:=λt=>(some t).bind ([PV.lit [10],.lit [13],.lit [13,10]][·]?)=some (.lit (nI t))) rfl rfl rfl ht
def II(G:aH B)(hS:S.length=5)(V8:FR B RH t.Y)(aY:BK B S ks Ks wl)(hQ:(Q,j)∈wl)(IJ:x≠0)(ue:x<1000)(V9:x∈S)(hl:Q.length<3)(hc:∀i,nx i=x->c i=true)
  (C:∀ba cv bU,(FQ (n+4)).fn 8 [.d (.str Q),.d (.int x),.d (.list (jP B Q c)),gi turn] (kT B t ks Ks wl)=some (.d (.list ((ey B Q x).map .str)),kT B t ba cv bU)->BK B S ba cv bU->fy wl bU (ey B Q x)->Gl):Gl:=by
 have hw:=aY.wlen hS;have nJ:Ks.length<=156:=af aY.le hw;have rD:wl.length+1<=lim:=af (dh hw) (by decide);have uf:Ks.length<300:=dZ nJ (by decide);have rC:KK B (aL B Q):=aY.kk _ (ez (aY.ws _ hQ));have run:∀{D:aI}{l:List ab}{ba cv bU},bo (FQ (n+3)) (jh.drop 2) (ud Q x (jP B Q c) turn) (kT B ⟨t.Y,[]⟩ ks Ks wl)=some (.ret (.d (.list l)),D,kT B ⟨t.Y,[]⟩ ba cv bU)->(FQ (n+4)).fn 8 [.d (.str Q),.d (.int x),.d (.list (jP B Q c)),gi turn] (kT B t ks Ks wl)=some (.d (.list l),kT B t ba cv bU):=λh=>(UH _ _ _ _).trans (wT (V4 ue hl h));by_cases hm:Q++[x]∈wl.map (·.1)
 ·obtain ⟨⟨P,j'⟩,hp,rfl⟩:=bu.mp hm
  have eo:ey B Q x=[Q++[x]]:=bK (aY.kk _ (ez (aY.ws _ hp))).ne;rw [eo] at C;exact C ks Ks wl (run (sr (ic (IA px (by rw [pu,lh aY.wn hp];rfl)) (sr (fe (rB (ag rfl))) rfl)) rfl)) aY (.old hm)
 have e2:=gN (F:=FQ (n+3)) (l1:=ph (nS jh 2)) (p:=default) (IA (s:=kT B ⟨t.Y,[]⟩ ks Ks wl) (turn:=turn) (picks:=jP B Q c) px (by rw [pu,Iv hm];rfl)) (l2:=[]) rfl;have e3:=V5 (F:=FQ (n+3)) (s:=kT B ⟨t.Y,[]⟩ ks Ks wl) (turn:=turn) G rC hc;by_cases hk:aL B (Q++[x])=[]
 ·have eo:ey B Q x=[]:=bv hk
  rw [eo] at C;exact C ks Ks wl (run (sq e2 (sq e3 (sr (ic (IB (by rw [hk];rfl)) (sr (fe (x:=.d (.list [])) rfl) rfl)) rfl)))) aY (.refl wl)
 have eo:ey B Q x=[Q++[x]]:=bK hk;rw [eo] at C;have nK:KK B (aL B (Q++[x])):=⟨lX (B:=B) Q x▸Hr G IJ rC.ok,lX (B:=B) Q x▸VT rC.all IJ,hk⟩
 have e4:=gN (F:=FQ (n+3)) (l1:=ph (nS jh 4)) (p:=default) (IB (s:=kT B ⟨t.Y,[]⟩ ks Ks wl) (Q:=Q) (x:=x) (turn:=turn) (picks:=jP B Q c) (K:=aL B (Q++[x])) (b:=false) (List.isEmpty_eq_false_iff.mpr hk)) (l2:=[]) rfl;have IK:(∀z∈Q++[x],z∈S)/\(Q++[x]).length<=3:=⟨λz hz=>(bD.mp hz).elim ((aY.wp _ hQ).1 z) λq=>cC.mp q▸V9,(length_append ..).symm▸hl⟩
 have xf:∀Q' x',Q++[x]=Q'++[x']->Q'∈wl.map (·.1):=λQ' x' e=>(append_inj' e rfl).1▸bu.mpr ⟨_,hQ,rfl⟩;have mi:=U0 (n:=n) (s:=kT B ⟨t.Y,[]⟩ ks Ks wl) (j:=6) (hl:=i5 Ks) (x:=ig (aL B (Q++[x]))) (v:=d6 Ks.length) V1 (λc hc=>(xb nK.ok.ok c hc).1) (VW uf) (VV aY.kk) (by unfold i5;rw [length_map,List.length_zipIdx];exact af (dh nJ) (by decide));rw [show (i5 Ks).find? (i0 (ig (aL B (Q++[x]))))=_ from Iu (B:=B) nK 0 aY.kk] at mi;by_cases kO:aL B (Q++[x])∈Ks
 ·rw [if_pos kO,Nat.zero_add] at mi
  have BF:Ks.idxOf (aL B (Q++[x]))<Ks.length:=List.idxOf_lt_length_of_mem kO;have e5:=(IC (picks:=jP B Q c) (turn:=turn) G nK (dJ BF uf) uf uc mi px rD hm).trans (ae (λt=>some (Fl.next,_,t)) Iy);exact C ks Ks (wl++[(Q++[x],Ks.idxOf (aL B (Q++[x])))]) (run (sq e2 (sq e3 (sq e4 (sq e5 (sq (gN (IF px (IE aY.wn hm) uc (mr (cX BF))) rfl) (sr (fe (rB (ag rfl))) rfl))))))) (aY.addW aY.ks aY.nd aY.kk (λi K h=>h) (le_succ _) hm (by rw [getElem?_eq_getElem BF,List.getElem_idxOf]) IK xf) .one
 ·rw [if_neg kO] at mi
  have mi:=mi.trans (ae (λl=>some (PV.d (.str (d6 Ks.length)),(kT B ⟨t.Y,[]⟩ ks Ks wl).put 6 (.list (List.map hd l)))) (VN Ks (aL B (Q++[x]))).symm);have e5:=(IC (picks:=jP B Q c) (turn:=turn) G nK uf uf uc mi (cu px) rD hm).trans (ae (λt=>some (Fl.next,_,t)) ((gz (by decide)).trans (ae (ah.put · 6 _) Iy)));generalize hz:(kT B ⟨t.Y,[]⟩ ks Ks (wl++[(Q++[x],Ks.length)])).put 6 (.list ((i5 (Ks++[aL B (Q++[x])])).map hd))=z at e5;have z3:z.Y 3=some (.dict (cM ks)):=hz▸cu V2;have z4:z.Y 4=some (.list (Ks.map (dX B))):=hz▸cu uc;have z5:z.Y 5=some (.dict (eQ (wl++[(Q++[x],Ks.length)]))):=hz▸cu px;have zf:FR B RH z.Y:=by
   have f:=V3 (t:=⟨t.Y,[]⟩) (ks:=ks) (Ks:=Ks) (wl:=wl++[(Q++[x],Ks.length)]) V8;exact hz▸⟨⟨cu f.tb.s1,cu f.tb.s10,cu f.tb.s16,cu f.tb.s30,f.tb.rh⟩,cu f.s11,cu f.s12⟩
  have ht:(turn+Ks.length) % 3<3:=mod_lt _ (by decide);refine bt (Ij (n:=n) (s:=z) (ee:=nI ((turn+Ks.length) % 3)) G zf.tb nK.ok nK.all (nK.len G) aY.ks z3 zf.s11 zf.s12 (IG _)) λba V' nG=>?_;have vm:(z.put 3 (.dict (cM ba))).put 4 (.list (Ks.map (dX B)++[dX B (aL B (Q++[x]))]))=kT B ⟨t.Y,[]⟩ ba (Ks++[aL B (Q++[x])]) (wl++[(Q++[x],Ks.length)]):=by
   rw [<-hz,gz (k:=6) (l:=3) (by decide),VZ,show Ks.map (dX B)++[dX B (aL B (Q++[x]))]=(Ks++[aL B (Q++[x])]).map (dX B) from (map_append (l₂:=[aL B (Q++[x])])).symm];exact V0
  have e6:ex (FQ (n+3)) (nS jh 6) (mh Q x (jP B Q c) turn (aL B (Q++[x]))) z=some (.next,mh Q x (jP B Q c) turn (aL B (Q++[x])),kT B ⟨t.Y,[]⟩ ba (Ks++[aL B (Q++[x])]) (wl++[(Q++[x],Ks.length)])):=
   ic (IF z5 (IE aY.wn hm) z4 (fj rfl)) (sq (jp (Eq.trans (nB (ag rfl) z4 (f5 (aP (ag rfl) (aP (IH ht (dM (dM (ag rfl) (BE z4) (x:=.d (.int turn)) (y:=.d (.int Ks.length)) (r:=.d (.int (turn+Ks.length:Nat))) rfl) rfl ((xe ⟨by decide,by decide⟩).trans (ae (λi=>some (PV.d (.int i))) (Int.natCast_emod ..).symm)))) (aP (ag rfl) (aP (ag rfl) b9)))) V') (cu z4) ((length_map ..).symm▸af (dh nJ) (by decide))) (ae (λt=>some (PV.d .none,t)) vm)) rfl) rfl)
  exact C ba (Ks++[aL B (Q++[x])]) (wl++[(Q++[x],Ks.length)]) (run (sq e2 (sq e3 (sq e4 (sq e5 (sq e6 (sr (fe (rB (ag rfl))) rfl))))))) (aY.addW nG (ID aY.nd kO) (λK hK=>(bD.mp hK).elim (aY.kk K) λq=>cC.mp q▸nK) (λi K h=>(getElem?_append_left (fB.mp h).1).trans h) ((length_append ..).symm▸aD _) hm ((getElem?_append_right (aD _)).trans (by rw [sub_self];rfl)) IK xf) .one
end
def fy.keys(h:fy wl bU N)(hP:P∈wl.map (·.1)):P∈bU.map (·.1):=(bu.mp hP).elim λp q=>bu.mpr ⟨p,h.sub p q.1,q.2⟩
def fy.trans{N1 N2:List aa}(H:fy wl w1 N1)(I:fy w1 w2 N2):fy wl w2 (N1++N2):=⟨λp hp=>I.sub p (H.sub p hp),λP hP=>(bD.mp hP).elim (λq=>I.keys (H.new P q)) (I.new P),λp hp=>(I.back p hp).elim (λq=>(H.back p q).imp_right (cE _)) λq=>.inr (cj _ q)⟩
noncomputable def fz (L:List aa):ab:=.list (L.map .str)
def FR.put{t:ah}(h:FR B RH t.Y)(hk:k=13\/k=14):FR B RH (t.put k o).Y:=
 have g:∀{j:Nat},j∉[13,14]->j≠k:=λhj q=>hj (q▸hk.elim (λe=>e▸.head _) λe=>e▸.tail _ (.head _))
 ⟨⟨cu h.tb.s1 (g (by decide)),cu h.tb.s10 (g (by decide)),cu h.tb.s16 (g (by decide)),cu h.tb.s30 (g (by decide)),h.tb.rh⟩,cu h.s11 (g (by decide)),cu h.s12 (g (by decide))⟩
def xg:PS:=nS yo 2
def nL:List PS:=fL xg
section
variable{p q:Pos}{Ls:List (List aa)}{Gl:Prop}
def Wa(h:ev F e D s=some (.ref j,V))(hs:V.Y j=some (.list J))(ha:ev F a D V=some (.d (.list ys),s''))(fb:s''.Y j=some (.list J))(hl:J.length+ys.length<=lim):
  ev F (.me .extend e [a] q p) D s=some (.d .none,s''.put j (.list (J++ys))):=
 gu h (ae (Option.map λZ=> "list") (sf hs)) (aP ha b9) (ae (Option.map λZ=> "list") (sf fb)) (by
  show Option.map _ ((iT s'' j).bind _)=_;rw [oq fb];exact ae (Option.map _) (bv hl))
def IL(h:D[j]?=some (some (.d (.int k)))):ex F (.aug j (.cI 1 w) q p) D s=some (.next,dO j (.d (.int (k+1:Nat))) D,s):=by
 show ((D[j]?).join.bind dn).bind _=_;rw [h];rw [natCast_add];rfl
def pA(h:ev F e D s=some (.d (.str l),V)):ev F (.bi .len e q p) D s=some (.d (.int l.length),V):=iH h rfl
def BG(aY:BK B S ks Ks wl)(hP:(P,j)∈wl){m:Nat}(hm:[ab.list ((fx B (aL B P)).map .str),.list ((kg B (aL B P)).map .str),.list (rm B (aL B P)),.list (rs B (aL B P)),.list (rt B (aL B P))][m]?=some d)(I:D[2]?=some (some (.ref 4)))(h3:D[3]?=some (some (.ref 5)))(hk:D[k]?=some (some (.d (.str P)))):
  ev F (.idx (.idx (.v 2 w1) (.idx (.v 3 w2) (.v k w3) w4) w5) (.cI m w6) w7) D (kT B t ks Ks wl)=some (.d d,kT B t ks Ks wl):=
 rg (wX (ag I) (t0 (ag h3) (ag hk) px (by rw [pu,lh aY.wn hP];rfl)) uc ((getElem?_map ..).trans (ae (Option.map _) (aY.ws _ hP)))) rfl hm
theorem IM(aY:BK B S ks Ks wl):∀(r:aa){Q:aa},Q++r.reverse∈wl.map (·.1)->Q∈wl.map (·.1)
 |[],Q,h=>by rwa [List.reverse_nil,append_nil] at h
 |x::r,Q,h=>by
  rw [reverse_cons,<-append_assoc] at h;refine bt (bu.mp h) λp hp e=>?_;exact IM aY r (aY.pc p hp _ x e)
def Wb(aY:BK B S ks Ks wl){Q r:aa}(h:Q++r∈wl.map (·.1)):Q∈wl.map (·.1):=IM aY r.reverse (by rwa [reverse_reverse])
def IN{line N:List aa}(h5:D[5]?=some (some (.ref 14)))(dG:t.Y 14=some (.list (line.map .str)))(he:ev F e D (kT B t ks Ks wl)=some (.d (.list (N.map .str)),kT B t pB pC kh))(hl:line.length+N.length<=lim):ex F (.ex (.me .extend (.v 5 w1) [e] w2 w3) w4) D (kT B t ks Ks wl)=some (.next,D,kT B (t.put 14 (.list ((line++N).map .str))) pB pC kh):=
 jp (Eq.trans (Wa (ag h5) (f6 dG) he (f6 dG) ((length_map ..).symm▸(length_map ..).symm▸hl)) (ae (λτ=>some (PV.d .none,τ)) ((Ix (by decide) (by decide) (by decide) (by decide)).trans (ae (λl=>kT B (t.put 14 (.list l)) pB pC kh) map_append.symm)))) rfl
def ug{x:Nat}:(ey B P x).length<=1:=by
 unfold ey
 split
 ·exact bN _
 ·exact aD _
def IO{u v:List α}(hv:v.length<=c)(h:u.length+(k+c)<=m):(u++v).length+k<=m:=(length_append ..).symm▸af (dN (dc hv _) k) (by rw [Nat.add_assoc,Nat.add_comm c];exact h)
def Wc(G:aH B)(hS:S.length=5)(We:c≠0)(hc:c<256)(Wg:c∈S)(hw:wd[li]?=some (.int c))(nM:Ls.length=li+1)(v0:aO[0]?=some (some (.d (.list wd))))(v1:aO[1]?=some (some (gi turn)))(v2:aO[2]?=some (some (.ref 4)))(v3:aO[3]?=some (some (.ref 5)))(v4:aO[4]?=some (some (.ref 13)))(v5:aO[5]?=some (some (.ref 14)))(cy:6<aO.length){L:List aa}:∀{line:List aa}{t:ah}{ks:List It}{Ks:List (List It)}{wl:List (aa×Nat)}{D:aI},Kw [6] aO D->FR B RH t.Y->t.Y 13=some (.list (Ls.map fz))->t.Y 14=some (.list (line.map .str))->BK B S ks Ks wl->(∀P∈L,P∈wl.map (·.1)/\P.length<3)->line.length+L.length<=lim->
  (∀v ba cv bU,Kw [6] aO v->dD (lb (FQ (n+4)) [6] (fL (nS nL 1))) (L.map .str) D (kT B t ks Ks wl)=some (.next,v,kT B (t.put 14 (.list ((line++L.flatMap λP=>ey B P c).map .str))) ba cv bU)->BK B S ba cv bU->fy wl bU (L.flatMap λP=>ey B P c)->Gl)->Gl:=by
 induction L with
 |nil=>exact λkw Z Z dG aY Z Z K=>K _ _ _ _ kw (ae (λτ=>some (Fl.next,_,kT B τ _ _ _)) ((ae (λl=>ah.put _ 14 (.list (List.map ab.str l))) (append_nil _)).trans (jM dG)).symm) aY (.refl _)
 |cons P L ih=>
  intro line t ks Ks wl D kw hf cG dG aY hL hl C;have bp:Kw [6] aO (D.set 6 (some (.d (.str P)))):=c8 kw (.head _);have h6:(D.set 6 (some (PV.d (.str P))))[6]?=some (some (.d (.str P))):=bT (c7 kw cy);refine aT (hL P (.head _)) λxh BH=>bt (bu.mp xh) λpj xi e=>?_;obtain ⟨P',j⟩:=pj;obtain rfl:P'=P:=e;refine II G hS hf aY xi We (dJ hc (by decide)) Wg BH (λi h=>fj (h▸hc)) λpB pC kh e1 B1 X1=>ih bp (hf.put (.inr rfl)) (cu cG) f4 B1 (λQ hQ=>⟨X1.keys (hL Q (.tail _ hQ)).1,(hL Q (.tail _ hQ)).2⟩) (IO ug hl) λv ii ij gP kv e2 B2 X2=>C v ii ij gP kv (fu rfl (sq (IN (be bp v5) dG (f5 (aP (ag h6) (aP (ke (ag (be bp v0)) (dM (t6 (ag (be bp v4)) (f6 cG)) rfl (ae (λz=>some (PV.d (.int z))) ?_)) hw) (aP (BG aY xi rfl (be bp v2) (be bp v3) h6) (aP (ag (be bp v1)) b9)))) e1) (af (dc (af ug (dh (bN _))) _) hl)) rfl) (e2.trans (ae (λτ=>some (Fl.next,v,kT B τ ii ij gP)) ?_))) B2 (X1.trans X2)
  ·rw [length_map,nM]
   exact Int.add_sub_cancel (li:Int) 1
  ·rw [gy,append_assoc];rfl
end
section
variable{p q:Pos}{S:aa}{Gl:Prop}
def IP(G:aH B):∀{t:List aa},(∀P∈t,j8 P)->df t<=n->∀P∈t,P∈bf B n t:=by
 induction n with
 |zero=>
  intro t h hw P hP
  match t,hP with
  |Q::t,_=>
   have H:=tN (h Q (.head _)).ne;have:df (Q::t)=wt Q+df t:=rfl;lia
 |succ n ih=>
  intro t h hw P hP
  match t,hP with
  |Q::t,hP=>
   have hQ:=h Q (.head _);have H:=wF G hQ.sym hQ.ne;have I:df (Q::t)=wt Q+df t:=rfl;rcases bA.mp hP with rfl|hP
   ·exact .head _
   ·exact .tail _ (ih (λR hR=>(bD.mp hR).elim (λq=>h R (.tail _ q)) λq=>qV G hQ q) (by rw [wG];lia) P (cE _ hP))
def BJ{k:Nat}(h:ev F a D s=some (.d (.str J),V))(I:ev F b D V=some (.d (.int k),s'')):ev F (.sl a .no (.at_ b) q p) D s=some (.d (.str (J.take k)),s''):=by
 refine (au h).trans ((au rfl).trans ((au ((au I).trans rfl)).trans ?_));show some (PV.d (.str (slc J (dL none J.length) (eB (some (k:Int)) J.length))),s'')=_;rw [HU]
def Wh(G:aH B)(ki:256∈S/\257∈S/\258∈S){r:bk}(h:r∈B):r.1∈S/\r.1≠0/\r.1<1000/\256<=r.1:=by
 rcases (G.ok _ h).left with h|h|h<;>rw [h]
 ·exact ⟨ki.1,by decide,by decide,by decide⟩
 ·exact ⟨ki.2.1,by decide,by decide,by decide⟩
 ·exact ⟨ki.2.2,by decide,by decide,by decide⟩
def BL:List PS:=fL (nS nL 3)
def Wi:List PS:=fL (nS BL 1)
abbrev pD(B:List bk)(P:aa)(i:It):List aa:=ey B (P.take (P.length - i.2.2)) i.1
def Wj(G:aH B)(hS:S.length=5)(ki:256∈S/\257∈S/\258∈S)(Wk:d9 P)(BH:P.length<=3)(v1:aO[1]?=some (some (gi turn)))(v2:aO[2]?=some (some (.ref 4)))(v3:aO[3]?=some (some (.ref 5)))(v5:aO[5]?=some (some (.ref 14)))(v6:aO[6]?=some (some (.d (.str P))))(cy:10<aO.length){M:List It}:∀{line:List aa}{t:ah}{ks:List It}{Ks:List (List It)}{wl:List (aa×Nat)}{D:aI},Kw [8,9,10] aO D->FR B RH t.Y->t.Y 14=some (.list (line.map .str))->BK B S ks Ks wl->P∈wl.map (·.1)->(∀i∈M,i∈iK B P)->line.length+M.length<=lim->
  (∀v ba cv bU,Kw [8,9,10] aO v->dD (lb (FQ (n+4)) [8,9] Wi) (M.map λi=>.tup [.int i.1,.int i.2.2]) D (kT B t ks Ks wl)=some (.next,v,kT B (t.put 14 (.list ((line++M.flatMap (pD B P)).map .str))) ba cv bU)->BK B S ba cv bU->fy wl bU (M.flatMap (pD B P))->Gl)->Gl:=by
 induction M with
 |nil=>exact λkw Z dG aY Z Z Z C=>C _ _ _ _ kw (ae (λτ=>some (Fl.next,_,kT B τ _ _ _)) ((ae (λl=>ah.put _ 14 (.list (List.map ab.str l))) (append_nil _)).trans (jM dG)).symm) aY (.refl _)
 |cons i M ih=>
  intro line t ks Ks wl D kw hf dG aY xh hM hl C;refine nU ((ny G Wk i).mp (hM i (.head _))) λQ eP hk cA hW=>?_;have BM:P.length=Q.length+i.2.2:=by rw [eP,length_append,hk]
  have IQ:P.take (P.length - i.2.2)=Q:=by rw [BM,Nat.add_sub_cancel,eP,take_left]
  have oy:pD B P i=ey B Q i.1:=ae (λl=>ey B l i.1) IQ;refine km (Wh G ki cA) λs1 s2 s3 s4=>bt (bu.mp (Wb aY (eP▸xh))) λqj IR e=>?_;obtain ⟨Q',j⟩:=qj;obtain rfl:Q'=Q:=e;have Wl:Q'.length<3:=bx (Nat.lt_add_of_pos_right (hk▸(G.ok _ cA).len.1)) (BM▸BH);have b:∀{k:Nat},k<11->k<D.length:=λh=>c7 kw (bx h cy);have ff:Kw [8,9,10] aO ((D.set 8 (some (.d (.int i.1)))).set 9 (some (.d (.int i.2.2)))):=c8 (c8 kw);have bp:Kw [8,9,10] aO (((D.set 8 (some (.d (.int i.1)))).set 9 (some (.d (.int i.2.2)))).set 10 (some (.d (.str Q')))):=c8 ff;have cH:(((D.set 8 (some (.d (.int i.1)))).set 9 (some (.d (.int i.2.2)))).set 10 (some (PV.d (.str Q'))))[10]?=some (some (.d (.str Q'))):=bT (bH (bH (b (by decide))));refine II (n:=n) (turn:=turn) (c:=λj=> !decide (nx j<256)) G hS hf aY IR s2 s3 s1 Wl (λj h=>(ae (!·) (mr (cg.mpr (h▸s4)))).trans rfl) λpB pC kh e1 B1 X1=>ih (line:=line++ey B Q' i.1) (t:=t.put 14 (.list ((line++ey B Q' i.1).map .str))) bp (hf.put (.inr rfl)) f4 B1 (X1.keys xh) (λj hj=>hM j (.tail _ hj)) (IO ug hl) λv ii ij gP kv e2 B2 X2=>C v ii ij gP kv (fu rfl (sq (bI (Eq.trans (BJ (k:=P.length - i.2.2) (ag (be ff v6)) (dM (pA (ag (be ff v6))) (ag (bT (bH (b (by decide))))) (ae (λz=>some (PV.d (.int z))) (ofNat_sub (af (le_add_left ..) (cr BM.symm))).symm))) (ae (λl=>some (PV.d (.str l),kT B t ks Ks wl)) IQ))) (sq (IN (be bp v5) dG (f5 (aP (ag cH) (aP (ag (aN (aN (bT (b (by decide)))))) (aP (BG aY IR (m:=4) rfl (be bp v2) (be bp v3) cH) (aP (ag (be bp v1)) b9)))) e1) (af (dc (af ug (dh (bN _))) _) hl)) rfl)) (e2.trans (ae (λτ=>some (Fl.next,v,kT B τ ii ij gP)) ?_))) B2 ?_
  ·rw [gy,append_assoc,flatMap_cons,oy]
  ·rw [flatMap_cons,oy]
   exact X1.trans X2
structure PK(B:List bk)(S:aa)(wl:List (aa×Nat))(P:aa):Prop where
 ok:j8 P
 key:P∈wl.map (·.1)
 len:P.length<=3
def IS:df (P::l)=wt P+df l:=rfl
def Wm(h:∀P∈l,j8 P):l.length<=df l:=by
 induction l with
 |nil=>exact aD _
 |cons R l ih=>exact af (eI (ih λzZ hZ=>h zZ (.tail _ hZ)) (tN (h R (.head _)).ne)) (cr (Nat.add_comm ..))
def Wn(G:aH B)(hP:d9 P){l:List It}(h:∀i∈l,i∈iK B P):(l.flatMap (pD B P)).length=l.length:=by
 induction l with
 |nil=>rfl
 |cons i l ih=>exact d4 (tM G hP (h i (.head _))) λQ' Z a2 Z=>by rw [flatMap_cons,length_append,show pD B P i=[Q'++[i.1]] from a2,ih λj hj=>h j (.tail _ hj),length_cons,Nat.add_comm];rfl
def Wo(G:aH B)(h:PK B S wl P)(hR:R∈ch B P)(hk:R∈bU.map (·.1)):PK B S bU R:=⟨qV G h.ok hR,hk,uA (wE G h.ok.sym hR) λQ x r a1 a2 a3 Z Z=>by
 rw [a2,length_append];exact af (dc (G.ok _ a3).len.1 _) (by have hl:=h.len;rwa [a1,length_append] at hl)⟩
def IU{line:List aa}(v5:D[5]?=some (some (.ref 14)))(v7:D[7]?=some (some (.d (.int k))))(dG:s.Y 14=some (.list (line.map .str))):bP F (fv (nS nL 3)) D s=some (decide (k<line.length),s):=cT (ag v7) (t6 (ag v5) dG) (ae some (decide_eq_decide.mpr (by rw [length_map];exact ofNat_lt)))
def Wp(G:aH B)(hS:S.length=5)(ki:256∈S/\257∈S/\258∈S)(v1:aO[1]?=some (some (gi turn)))(v2:aO[2]?=some (some (.ref 4)))(v3:aO[3]?=some (some (.ref 5)))(v5:aO[5]?=some (some (.ref 14)))(cy:10<aO.length):∀{dm acc:List aa}{t:ah}{ks:List It}{Ks:List (List It)}{wl:List (aa×Nat)}{D:aI},Kw [6,7,8,9,10] aO D->D[7]?=some (some (.d (.int acc.length)))->FR B RH t.Y->t.Y 14=some (.list ((acc++dm).map .str))->BK B S ks Ks wl->df dm<=m->acc.length+df dm<=1000000->(∀P∈dm,PK B S wl P)->
  (∀v ba cv bU,Kw [6,7,8,9,10] aO v->gb (gV (bP (FQ (n+4)) (fv (nS nL 3))) (bo (FQ (n+4)) BL)) D (kT B t ks Ks wl)=some (.next,v,kT B (t.put 14 (.list ((acc++bf B m dm).map .str))) ba cv bU)->BK B S ba cv bU->fy wl bU (bf B m dm)->Gl)->Gl:=by
 have c6:∀{m:Nat}{acc:List aa}{t:ah}{ks:List It}{Ks:List (List It)}{wl:List (aa×Nat)}{D:aI},Kw [6,7,8,9,10] aO D->D[7]?=some (some (.d (.int acc.length)))->t.Y 14=some (.list ((acc++[]).map .str))->BK B S ks Ks wl->(∀v ba cv bU,Kw [6,7,8,9,10] aO v->gb (gV (bP (FQ (n+4)) (fv (nS nL 3))) (bo (FQ (n+4)) BL)) D (kT B t ks Ks wl)=some (.next,v,kT B (t.put 14 (.list ((acc++bf B m []).map .str))) ba cv bU)->BK B S ba cv bU->fy wl bU (bf B m [])->Gl)->Gl:=by
  intro m acc t ks Ks wl D kw h7 dG aY C;have e:bf B m []=[]:=by cases m<;>rfl
  rw [e] at C;exact C D ks Ks wl kw ((tU ((IU (be kw v5) h7 (f6 dG)).trans (ae (λb=>some (b,kT B t ks Ks wl)) (mr (by rw [append_nil];exact dK _))))).trans (ae (λτ=>some (Fl.next,D,kT B τ ks Ks wl)) (jM dG).symm)) aY (.refl wl)
 induction m with
 |zero=>
  intro dm acc t ks Ks wl D kw h7 hf dG aY hm hb hT C;cases dm with
  |nil=>exact c6 kw h7 dG aY C
  |cons P r=>exact aj (af (bz (wt P) (df r)) hm) (Nat.not_le.mpr (tN (hT P (.head _)).ok.ne))
 |succ m ih=>
  intro dm acc t ks Ks wl D kw h7 hf dG aY hm hb hT C;cases dm with
  |nil=>exact c6 kw h7 dG aY C
  |cons P r=>
   have hP:=hT P (.head _);have oX:∀R∈r,PK B S wl R:=λR hR=>hT R (.tail _ hR);have oy:=λc (hc:c∈ch B P)=>qV G hP.ok hc;have H:=wF G hP.ok.sym hP.ok.ne;have IV:df (r++ch B P)+1<=df (P::r):=by rw [wG,IS,Nat.add_assoc,Nat.add_comm (wt P)];exact dc H _
   have IW:df (r++ch B P)<=m:=Nat.le_of_succ_le_succ (af IV hm);have IX:acc.length+1+df (r++ch B P)<=1000000:=by rw [Nat.add_assoc,Nat.add_comm 1];exact af (dc IV _) hb
   have hlen:(acc++P::r).length+(iK B P).length<=lim:=by
    rw [<-Wn G hP.ok.sym.pile (λZ h=>h),<-length_append,show (acc++P::r)++(iK B P).flatMap (pD B P)=(acc++[P])++(r++ch B P) by rw [append_assoc,append_assoc];rfl,length_append,length_append];exact af (dc (Wm λR hR=>(bD.mp hR).elim (λq=>(oX R q).ok) (oy R)) _) (af IX (by decide))
   refine bt (bu.mp hP.key) λpj xi e=>?_;obtain ⟨P',j⟩:=pj;obtain rfl:P'=P:=e;have b:∀{k:Nat},k<11->k<D.length:=λh=>c7 kw (bx h cy);have ff:Kw [6,7,8,9,10] aO (D.set 6 (some (.d (.str P')))):=c8 kw;have h6:(D.set 6 (some (PV.d (.str P'))))[6]?=some (some (.d (.str P'))):=bT (b (by decide));have eT:=(IU (F:=FQ (n+4)) (k:=acc.length) (line:=acc++P'::r) (be kw v5) h7 (f6 (ks:=ks) (Ks:=Ks) (wl:=wl) (B:=B) dG)).trans (ae (λb=>some (b,kT B t ks Ks wl)) (fj (by rw [length_append];exact Nat.lt_add_of_pos_right (succ_pos _))));refine Wj (n:=n) (turn:=turn) G hS ki hP.ok.sym.pile hP.len (be ff v1) (be ff v2) (be ff v3) (be ff v5) h6 (bH (b (by decide))) (M:=iK B P') (line:=acc++P'::r) gv hf dG aY hP.key (λZ h=>h) hlen λw1 pB pC kh fU e1 B1 X1=>?_;have eA:(acc++P'::r)++(iK B P').flatMap (pD B P')=(acc++[P'])++(r++ch B P'):=by rw [append_assoc,append_assoc];rfl
   rw [eA] at e1;have X1:fy wl kh (ch B P'):=X1;refine ih (dm:=r++ch B P') (acc:=acc++[P']) (t:=t.put 14 (.list (((acc++[P'])++(r++ch B P')).map .str))) (D:=w1.set 7 (some (.d (.int (acc.length+1:Nat))))) (c8 (iY ff fU (by decide))) ((bT (c7 fU (bH (b (by decide))))).trans (by rw [length_append];rfl)) (hf.put (.inr rfl)) f4 B1 IW (by rw [length_append];exact IX) (λR hR=>(bD.mp hR).elim (λq=>⟨(oX R q).ok,X1.keys (oX R q).key,(oX R q).len⟩) λq=>Wo G hP q (X1.new R q)) λv ii ij gP kv e2 B2 X2=>C v ii ij gP kv (tT eT (sq (bI (wX (ag (be kw v5)) (ag h7) (f6 dG) ((getElem?_map ..).trans (ae (Option.map _) ((getElem?_append_right (aD _)).trans (by rw [sub_self])))))) (sq (k6 (fH (BG aY xi (m:=2) rfl (be ff v2) (be ff v3) h6) rfl) e1) (sq (IL (be fU (aN h7))) rfl))) (e2.trans (ae (λτ=>some (Fl.next,v,kT B τ ii ij gP)) ?_))) B2 ⟨λp hp=>X2.sub p (X1.sub p hp),λR hR=>(bA.mp hR).elim (λz=>z▸X2.keys (X1.keys hP.key)) (X2.new R),λp hp=>(X2.back p hp).elim (λq=>(X1.back p q).imp_right λq=>.tail _ (IP G (λR hR=>(bD.mp hR).elim (λq=>(oX R q).ok) (oy R)) IW _ (cj _ q))) λq=>.inr (.tail _ q)⟩;rw [gy,append_assoc];rfl
end
section
variable{Ls:List (List aa)}{Gl:Prop}
def xj(h:D[j]?=some (some (.ref k)))(H:k∈s.own)(I:k<100)(h3:(D.set j none).all (λx=>match x with|some p=>jV k p|none=>true)=true)(hs:s.Y k=some (.list J)):
  ex F (.frz j) D s=some (.next,D.set j (some (.d (.list J))),⟨ak s.Y k none,s.own.filter (· !=k)⟩):=by
 show (n6 j D s).map _=_;rw [n6,h];show (if k∈s.own/\k<100/\(D.set j none).all (λx=>match x with|some p=>jV k p|none=>true)=true then o1 (iT s k) _ _ else none).map _=_;rw [if_pos ⟨H,I,h3⟩,oq hs];rfl
def Wq(h:ev F a D s=some (.ref j,V))(hs:V.Y j=some (.list J))(hd:J[J.length - 1]?=some d):ev F (.idx a (.neg (.cI 1 w1) w2) p) D s=some (.d d,V):=by
 refine (au h).trans ((au (x:=PV.d (.int (-1))) (s:=V) (o:=ev F (.neg (.cI 1 w1) w2) D V) rfl).trans (eM ?_));have h0:0<J.length:=by
  have:=(fB.mp hd).1;exact (af (af (le_add_left _ _) this) (aD _))
 show o1 (eW V (.ref j)) (λJ=>(nY J (.d (.int (-1)))).map PV.d) _=_;rw [u4 hs];show ((bV J.length (-1)).bind (J[·]?)).map PV.d=_;rw [HX h0];show (J[J.length - 1]?).map PV.d=_;rw [hd];rfl
def IY{i k:Nat}(h:∀P∈L,P.length<=k):∀P∈f0 B w i L,P.length<=k+1:=λP hP=>bt (mem_flatMap.mp hP) λQ hQ hP=>by
 unfold ey at hP
 split at hP
 ·exact nomatch hP
 ·rw [mem_singleton.mp hP,length_append]
  exact dh (h Q hQ)
def IZ(i:Nat)(L:List aa):(f0 B w i L).length<=L.length:=by
 induction L with
 |nil=>exact aD _
 |cons P L ih=>
  show (ey B P (w i)++f0 B w i L).length<=_;rw [length_append,Nat.add_comm];exact eI ih ug
def I0(h:∀P∈l,wt P<=g):df l<=g*l.length:=by
 induction l with
 |nil=>exact bN _
 |cons P l ih=>
  rw [IS,length_cons,mul_add,Nat.add_comm,Nat.mul_one];exact eI (ih λQ hQ=>h Q (.tail _ hQ)) (h P (.head _))
def I3(h:P.length<=k):wt P<=gw (k+1):=AQ (by
 split
 ·exact dh h
 ·exact af h (le_succ _))
def Wr(h:∀P∈l,P.length<=3):df l<=156*l.length:=I0 λP hP=>I3 (h P hP)
def I4(G:aH B)(hw:fT w):(bc B w 0).length<=200/\(bc B w 1).length<=200/\(bc B w 2).length<=200/\(bc B w 3).length<=100000:=by
 have hb:∀n,(bc B w (n+1)).length<=gw (n+2)*(bc B w n).length:=λn=>
  af (Uo G (wJ hw λP hP=>(l8 G hw n P hP).1)) (af (I0 λP hP=>I3 (IY (λQ hQ=>(l8 G hw n Q hQ).2.1) P hP)) (fO _ (IZ n _)))
 have H:(bc B w 1).length<=6:=hb 0;have I:=af (hb 1) (fO 31 H);exact ⟨af (show 1<=200 by decide) (aD _),af H (by decide),af I (by decide),af (hb 2) (af (fO 156 I) (by decide))⟩
def BN(hk:k∉[3,4,5,6]):(⟨ak (kT B t ks Ks wl).Y k o,ow⟩:ah)=kT B ⟨ak t.Y k o,ow⟩ ks Ks wl:=by
 have g:∀{j:Nat},j∈[3,4,5,6]->j≠k:=λhj q=>hk (q▸hj);refine ae (λY=>(⟨Y,ow⟩:ah)) (show ak (ak (ak (ak (ak t.Y 3 _) 4 _) 5 _) 6 _) k o=ak (ak (ak (ak (ak t.Y k o) 3 _) 4 _) 5 _) 6 _ from ?_);rw [nA (g (by decide)),nA (g (by decide)),nA (g (by decide)),nA (g (by decide))]
def I5(hk:k∉[3,4,5,6])(h:t.Y k=none):(kT B t ks Ks wl).new k o=some (.ref k,kT B ⟨ak t.Y k (some o),k::t.own⟩ ks Ks wl):=(gf (f6 h hk)).trans (ae (λs=>some (PV.ref k,s)) (BN hk))
def Ws(G:aH B)(hS:S.length=5)(ki:256∈S/\257∈S/\258∈S)(hw:fT w){i:Nat}(hi:i<3)(xk:wd[i]?=some (.int (w i)))(BP:w i∈S)(nM:Ls.length=i+1)(BQ:Ls[i]?=some (bc B w i))(kP:(bc B w i).length<=200)(v0:D[0]?=some (some (.d (.list wd))))(v1:D[1]?=some (some (gi turn)))(v2:D[2]?=some (some (.ref 4)))(v3:D[3]?=some (some (.ref 5)))(v4:D[4]?=some (some (.ref 13)))(cy:10<D.length)(hn:Nr 14 5 D)(hf:FR B RH t.Y)(cG:t.Y 13=some (.list (Ls.map fz)))(dG:t.Y 14=none)(ho:14∉t.own)(aY:BK B S ks Ks wl)(hk:∀P∈bc B w i,P∈wl.map (·.1))
  (C:∀v ba cv bU,Kw [5,6,7,8,9,10] D v->bo (FQ (n+4)) nL D (kT B t ks Ks wl)=some (.next,v,kT B (t.put 13 (.list ((Ls++[bc B w (i+1)]).map fz))) ba cv bU)->BK B S ba cv bU->fy wl bU (bc B w (i+1))->Gl):Gl:=by
 have tn:=l8 G hw i;have b:∀{k:Nat},k<11->k<D.length:=λh=>bx h cy;have I6:FR B RH (⟨ak t.Y 14 (some (.list [])),14::t.own⟩:ah).Y:=hf.put (.inr rfl);refine Wc (n:=n) (wd:=wd) (turn:=turn) (Ls:=Ls) (aO:=D.set 5 (some (.ref 14))) (t:=⟨ak t.Y 14 (some (.list [])),14::t.own⟩) G hS (hw.lt i).2 (hw.lt i).1 BP xk nM (aN v0) (aN v1) (aN v2) (aN v3) (aN v4) (bT (b (by decide))) (bH (b (by decide))) (L:=bc B w i) (line:=[]) gv I6 (pf cG (by decide)) Bf aY (λP hP=>⟨hk P hP,dZ (tn P hP).2.1 hi⟩) (af (cr (Nat.zero_add _)) (af kP (by decide))) λu1 pB pC kh I7 e1 B1 X1=>?_;rw [nil_append,show (bc B w i).flatMap (λP=>ey B P (w i))=f0 B w i (bc B w i) from rfl] at e1;have X1:fy wl kh (f0 B w i (bc B w i)):=X1;have hI:∀P∈f0 B w i (bc B w i),PK B S kh P:=λP hP=>⟨wJ hw (λQ hQ=>(tn Q hQ).1) P hP,X1.new P hP,af (IY (λQ hQ=>(tn Q hQ).2.1) P hP) hi⟩
 have Wt:=Wr (l:=f0 B w i (bc B w i)) λP hP=>(hI P hP).len;have rE:Kw [6,7,8,9,10] (D.set 5 (some (.ref 14))) (u1.set 7 (some (.d (.int 0)))):=c8 (iY gv I7 (by decide));refine Wp (n:=n) (turn:=turn) (aO:=u1.set 7 (some (.d (.int 0)))) (t:=ah.put ⟨ak t.Y 14 (some (.list [])),14::t.own⟩ 14 (.list ((f0 B w i (bc B w i)).map .str))) G hS ki (be rE (aN v1)) (be rE (aN v2)) (be rE (aN v3)) (be rE (bT (b (by decide)))) (c7 rE (bH (b (by decide)))) (m:=df (f0 B w i (bc B w i))) (dm:=f0 B w i (bc B w i)) (acc:=[]) gv (bT (c7 I7 (bH (b (by decide))))) (I6.put (.inr rfl)) f4 B1 (aD _) (af (cr (Nat.zero_add _)) (af Wt (af (fO 156 (af (IZ i _) kP)) (by decide)))) hI λu2 ii ij gP Wu e2 B2 X2=>?_;rw [nil_append,show bf B (df (f0 B w i (bc B w i))) (f0 B w i (bc B w i))=bc B w (i+1) from rfl,gy] at e2;have X2:fy kh gP (bc B w (i+1)):=X2;have ku:=iY rE Wu (λZ h=>h);have Wv:∀{l:List ab},(kT B (ah.put ⟨ak t.Y 14 (some (.list [])),14::t.own⟩ 14 (.list l)) ii ij gP).Y 14=some (.list l):=f6 f4;have hz:(⟨ak (kT B (ah.put ⟨ak t.Y 14 (some (.list [])),14::t.own⟩ 14 (.list ((bc B w (i+1)).map .str))) ii ij gP).Y 14 none,(14::t.own).filter (· !=14)⟩:ah)=kT B t ii ij gP:=by
  rw [BN (by decide),HH ho];exact ae (λY=>kT B ⟨Y,t.own⟩ ii ij gP) ((ae (ak · 14 none) ma).trans (ma.trans (HG dG)))
 refine C (u2.set 5 (some (.d (fz (bc B w (i+1)))))) ii ij gP (Ux ku (b (by decide))) (sq (bI (I5 (by decide) dG)) (sq (kf (l:=((bc B w i).map .str,none)) (fH (Wq (d:=fz (bc B w i)) (ag (aN v4)) (f6 (pf cG (by decide))) ?_) rfl) e1) (sq (bI rfl) (sq (tW e2) (sq ((xj (j:=5) (k:=14) (be ku (bT (b (by decide)))) (.head _) (by decide) (rd (l9 ku (Be hn))) Wv).trans (ae (λs=>some (Fl.next,_,s)) hz)) (sq (jp ((nB (ag (aN (be ku (aN v4)))) (f6 cG) (ag (bT (c7 ku (bH (b (by decide)))))) (f6 cG) ?_).trans (ae (λs=>some (PV.d .none,s)) ((Ix (by decide) (by decide) (by decide) (by decide)).trans (ae (λl=>kT B (t.put 13 (.list l)) ii ij gP) (map_append (f:=fz) (l₂:=[bc B w (i+1)])).symm)))) rfl) rfl)))))) B2 ⟨λp hp=>X2.sub p (X1.sub p hp),X2.new,λp hp=>(X2.back p hp).elim (λq=>(X1.back p q).imp_right (IP G (λP hP=>(hI P hP).ok) (aD _) _)) .inr⟩
 ·rw [length_map,nM,getElem?_map,Nat.add_sub_cancel,BQ];rfl
 ·rw [length_map,nM]
  exact af (dh (dh (Nat.le_of_lt hi))) (by decide)
def Ww{i:Nat}(hl:Ls.length=i+1):lD .sub (.d (.int (Ls.map fz).length)) (.d (.int 1)) s=some (.d (.int i)):=ae (λz=>some (PV.d (.int z))) (by rw [length_map,hl];exact Int.add_sub_cancel (i:Int) 1)
def I8{i z:Nat}(v0:D[0]?=some (some (.d (.list wd))))(v4:D[4]?=some (some (.ref 13)))(cG:s.Y 13=some (.list (Ls.map fz)))(hl:Ls.length=i+1)(hz:wd[i]?=some (.int z)):bP (FQ (n+4)) (fv xg) D s=some (!((z:Int)==0),s):=(au (nf (f5 (aP (ke (ag v0) (dM (t6 (ag v4) cG) rfl (Ww hl)) hz) b9) (HM (z:Int))) rfl)).trans rfl
def Wx(G:aH B)(hS:S.length=5)(ki:256∈S/\257∈S/\258∈S)(hf:FR B RH t.Y)(hw:fT w)(BP:∀i,i<3->w i∈S)(aY:BK B S ks Ks wl)(h0:[]∈wl.map (·.1))(cG:t.Y 13=none)(dG:t.Y 14=none)
  (C:∀ba cv bU,(FQ (n+5)).fn 9 [.d (.list [.int (w 0),.int (w 1),.int (w 2),.int 0]),gi turn] (kT B t ks Ks wl)=some (.d (.list ([bc B w 0,bc B w 1,bc B w 2,bc B w 3].map fz)),kT B t ba cv bU)->BK B S ba cv bU->fy wl bU (bc B w 1++bc B w 2++bc B w 3)->Gl):Gl:=by
 have nz:∀i,(!(((w i:Nat):Int)==0))=true:=λi=>(not_eq_true' _).mpr (eU.mpr λe=>(hw.lt i).2 (ofNat_inj.mp e));have Wy:∀{Ls:List (List aa)},FR B RH (ah.put ⟨t.Y,[13]⟩ 13 (.list (Ls.map fz))).Y:=FR.put (t:=⟨t.Y,[13]⟩) hf (.inl rfl);generalize hv:([some (.d (.list [.int (w 0),.int (w 1),.int (w 2),.int 0])),some (gi turn),some (.ref 4),some (.ref 5),some (.ref 13),none,none,none,none,none,none]:aI)=vb;have b0:vb[0]?=some (some (.d (.list [.int (w 0),.int (w 1),.int (w 2),.int 0]))):=hv▸rfl;have b1:vb[1]?=some (some (gi turn)):=hv▸rfl;have b2:vb[2]?=some (some (.ref 4)):=hv▸rfl;have b3:vb[3]?=some (some (.ref 5)):=hv▸rfl;have b4:vb[4]?=some (some (.ref 13)):=hv▸rfl;have hl:∀{v:aI},Kw [5,6,7,8,9,10] vb v->10<v.length:=λk=>c7 k (by rw [<-hv];exact (by decide:10<11));have hn:∀{v:aI},Kw [5,6,7,8,9,10] vb v->Nr 14 5 v:=λk=>l9 k (re (by rw [<-hv];rfl));have st:∀{Gl:Prop}{i:Nat}{Ls:List (List aa)}{v:aI}{ks:List It}{Ks:List (List It)}{wl:List (aa×Nat)},i<3->([.int (w 0),.int (w 1),.int (w 2),.int 0]:List ab)[i]?=some (.int (w i))->Ls.length=i+1->Ls[i]?=some (bc B w i)->(bc B w i).length<=200->Kw [5,6,7,8,9,10] vb v->BK B S ks Ks wl->(∀P∈bc B w i,P∈wl.map (·.1))->(∀v' ba cv bU,Kw [5,6,7,8,9,10] vb v'->(∀{R:RS},gb (gV (bP (FQ (n+4)) (fv xg)) (bo (FQ (n+4)) nL)) v' (kT B (ah.put ⟨t.Y,[13]⟩ 13 (.list ((Ls++[bc B w (i+1)]).map fz))) ba cv bU)=R->gb (gV (bP (FQ (n+4)) (fv xg)) (bo (FQ (n+4)) nL)) v (kT B (ah.put ⟨t.Y,[13]⟩ 13 (.list (Ls.map fz))) ks Ks wl)=R)->BK B S ba cv bU->fy wl bU (bc B w (i+1))->Gl)->Gl:=λ{Gl i Ls v ks Ks wl} hi xk nM BQ kP k aY hk C=>Ws G hS ki hw hi xk (BP i hi) nM BQ kP (be k b0) (be k b1) (be k b2) (be k b3) (be k b4) (hl k) (hn k) Wy f4 (cu dG) (show 14∉[13] by decide) aY hk λv' ba cv bU k' e B' X=>C v' ba cv bU (iY k k' (λZ h=>h)) (λh=>tT ((I8 (be k b0) (be k b4) (f6 f4) nM xk).trans (ae (λb=>some (b,_)) (nz i))) (e.trans (ae (λτ=>some (Fl.next,v',kT B τ ba cv bU)) gy)) h) B' X;refine km (I4 G hw) λl0 l1 l2 Z=>?_;refine st (Ls:=[bc B w 0]) (by decide) rfl rfl rfl l0 gv aY (λP hP=>cC.mp hP▸h0) λv1 pB pC kh k1 e1 B1 X1=>?_;refine st (i:=1) (Ls:=[bc B w 0,bc B w 1]) (by decide) rfl rfl rfl l1 k1 B1 X1.new λv2 ii ij gP k2 e2 B2 X2=>?_;refine st (i:=2) (Ls:=[bc B w 0,bc B w 1,bc B w 2]) (by decide) rfl rfl rfl l2 k2 B2 X2.new λv3 BR BS BT k3 e3 B3 X3=>?_;refine C BR BS BT ((UI ..).trans (wT (D:=v3.set 4 (some (.d (.list ([bc B w 0,bc B w 1,bc B w 2,bc B w 3].map fz))))) (σ':=(kT B t BR BS BT).Y) ?_)) B3 ((X1.trans X2).trans X3);refine sq (aS:=[some (.d (.list [.int (w 0),.int (w 1),.int (w 2),.int 0])),some (gi turn),some (.ref 4),some (.ref 5),none,none,none,none,none,none,none]) (V:=kT B ⟨t.Y,[]⟩ ks Ks wl) rfl ?_;refine sq (Eq.trans (bI (I5 (t:=⟨t.Y,[]⟩) (o:=.list ([bc B w 0].map fz)) (by decide) cG)) (ae (λv=>some (Fl.next,v,_)) hv)) ?_;refine sq (tW (e1 (e2 (e3 (tU (I8 (i:=3) (z:=0) (Ls:=[bc B w 0,bc B w 1,bc B w 2,bc B w 3]) (be k3 b0) (be k3 b4) (f6 f4) rfl rfl)))))) ?_;refine sq ((xj (j:=4) (k:=13) (J:=[bc B w 0,bc B w 1,bc B w 2,bc B w 3].map fz) (be k3 b4) (.head _) (by decide) (rd (l9 k3 (re (by rw [<-hv];rfl)))) (f6 f4)).trans (ae (λs=>some (Fl.next,_,s)) (BN (by decide)))) ?_;refine sr (fe (ag (bT (dJ (by decide) (hl k3))))) ?_;exact ae (λY=>some (Fl.ret _,_,kT B ⟨Y,[]⟩ BR BS BT)) (ma.trans (HG cG))
end
noncomputable abbrev bJ:=List (aa×Nat)
noncomputable def cD (c:bJ):List (aa×ab):=c.map λp=>(p.1,.int p.2)
noncomputable def cf (c:bJ) (P:aa):Nat:=((c.find? λp=>p.1==P).map (·.2)).getD 0
noncomputable def dI (c:bJ) (P:aa) (k:Nat):bJ:=if c.any (λp=>p.1==P) then c.map (λp=>if p.1==P then (p.1,p.2+k) else p) else c++[(P,k)]
def I9(c:bJ)(P:aa):(dget (cD c) P).getD (.int 0)=.int (cf c P):=by
 have:dget (cD c) P=(c.find? λp=>p.1==P).map λp=>.int p.2:=pu;rw [this];unfold cf;cases c.find? λp=>p.1==P<;>rfl
def Wz{c:bJ}:(c.map (λp=>if p.1==P then (p.1,p.2+k) else p)).find? (λp=>p.1==Q)=(c.find? λp=>p.1==Q).map λp=>if p.1==P then (p.1,p.2+k) else p:=by
 induction c with
 |nil=>rfl
 |cons p c ih=>
  have e:(if p.1==P then (p.1,p.2+k) else p).1=p.1:=by split<;>rfl
  rw [map_cons];cases h:p.1==Q with
  |true=>rw [find?_cons_of_pos (by rw [e];exact h),find?_cons_of_pos (p:=λp:aa×Nat=>p.1==Q) h];rfl
  |false=>rw [find?_cons_of_neg (by rw [e,h];decide),find?_cons_of_neg (by rw [h];decide),ih]
def I'(c:bJ)(P Q:aa)(k:Nat):cf (dI c P k) Q=cf c Q+if P=Q then k else 0:=by
 unfold dI;by_cases h:c.any (λp=>p.1==P)=true
 ·rw [if_pos h]
  unfold cf;rw [Wz];cases e:c.find? λp=>p.1==Q with
  |none=>
   by_cases eq:P=Q
   ·subst eq
    refine bt (any_eq_true.mp h) λp hp hq=>?_;exact aj hq (find?_eq_none.mp e p hp)
   ·rw [if_neg eq];rfl
  |some p=>
   have hp:=bB.mp (List.find?_some (p:=λp:aa×Nat=>p.1==Q) e);by_cases eq:P=Q
   ·rw [if_pos eq]
    show (if p.1==P then (p.1,p.2+k) else p).2=_;rw [if_pos (beq_iff_eq.mpr (hp.trans eq.symm))];rfl
   ·rw [if_neg eq]
    show (if p.1==P then (p.1,p.2+k) else p).2=_;rw [if_neg λq=>eq ((beq_iff_eq.mp q).symm.trans hp)];rfl
 ·rw [if_neg h]
  unfold cf;rw [List.find?_append];cases e:c.find? λp=>p.1==Q with
  |some p=>
   have hp:=bB.mp (List.find?_some (p:=λp:aa×Nat=>p.1==Q) e);have eq:P≠Q:=λq=>h (any_eq_true.mpr ⟨p,List.mem_of_find?_eq_some e,bB.mpr (hp.trans q.symm)⟩);rw [if_neg eq];rfl
  |none=>
   by_cases eq:P=Q
   ·subst eq
    rw [if_pos rfl];rw [find?_cons_of_pos (p:=λp:aa×Nat=>p.1==P) (beq_self_eq_true P)];exact (Nat.zero_add k).symm
   ·rw [if_neg eq]
    rw [find?_cons_of_neg (by simpa using eq)];rfl
def WA(c:bJ)(P:aa)(k:Nat):(dI c P k).map (·.1)=if P∈c.map (·.1) then c.map (·.1) else c.map (·.1)++[P]:=by
 have hk:c.any (λp=>p.1==P)=true↔P∈c.map (·.1):=by
  rw [any_eq_true,List.mem_map];exact ⟨λ⟨p,a,b⟩=>⟨p,a,bB.mp b⟩,λ⟨p,a,b⟩=>⟨p,a,bB.mpr b⟩⟩
 unfold dI;by_cases h:c.any (λp=>p.1==P)=true
 ·rw [if_pos h,if_pos (hk.mp h),map_map]
  exact eR λp Z=>by show (if p.1==P then (p.1,p.2+k) else p).1=p.1;split<;>rfl
 ·rw [if_neg h,if_neg λq=>h (hk.mpr q),map_append];rfl
structure dz(c:bJ)(f:aa->Nat):Prop where
 nd:(c.map (·.1)).Nodup
 val:∀P,cf c P=f P
def dz.nil:dz [] λZ=>0:=⟨nodup_nil,λZ=>rfl⟩
def dz.add(h:dz c f)(hg:∀Q,g Q=f Q+if P=Q then k else 0):dz (dI c P k) g where
 nd:=by
  rw [WA];by_cases c1:P∈c.map (·.1)
  ·rw [if_pos c1];exact h.nd
  ·rw [if_neg c1]
   exact nodup_append.mpr ⟨h.nd,eS.mpr ⟨(λq=>nomatch q),nodup_nil⟩,λa ha b hb e=>c1 (cC.mp hb▸e▸ha)⟩
 val Q:=by rw [I',h.val,hg]
def WB(h:(c.map (·.1)).Nodup)(P:aa)(k:Nat):fQ (cD c) P (.int ((cf c P+k:Nat):Int))=cD (dI c P k):=by
 unfold fQ dI;have e:(cD c).any (λp=>p.1==P)=c.any (λp=>p.1==P):=by unfold cD;rw [any_map];rfl
 rw [e];by_cases c1:c.any (λp=>p.1==P)=true
 ·rw [if_pos c1,if_pos c1]
  unfold cD;rw [map_map,map_map];refine eR λp hp=>?_;show (if p.1==P then (p.1,ab.int ((cf c P+k:Nat):Int)) else (p.1,ab.int p.2))=_;by_cases eq:(p.1==P)=true
  ·rw [if_pos eq]
   show _=((if p.1==P then (p.1,p.2+k) else p).1,ab.int ((if p.1==P then (p.1,p.2+k) else p).2:Nat));rw [if_pos eq];have:cf c P=p.2:=by
    unfold cf;rw [show p=(P,p.2) from Prod.ext (beq_iff_eq.mp eq) rfl] at hp;rw [lh h hp];rfl
   rw [this]
  ·rw [if_neg eq]
   show _=((if p.1==P then (p.1,p.2+k) else p).1,ab.int ((if p.1==P then (p.1,p.2+k) else p).2:Nat));rw [if_neg eq]
 ·rw [if_neg c1,if_neg c1]
  have:cf c P=0:=by
   unfold cf;rw [find?_eq_none.mpr λp hp q=>c1 (any_eq_true.mpr ⟨p,hp,q⟩)];rfl
  unfold cD;rw [this,Nat.zero_add,map_append];rfl
def BU(h:dz c f)(hp:∀p∈c,0<p.2)(P:aa):P∈c.map (·.1)↔0<f P:=by
 rw [<-h.val];constructor
 ·intro hm
  obtain ⟨⟨Q,k⟩,hq,e⟩:=bu.mp hm;have e:Q=P:=e;subst e;unfold cf;rw [lh h.nd hq];exact hp _ hq
 ·intro h0
  refine Classical.byContradiction λhm=>?_;unfold cf at h0;rw [Iv hm] at h0;exact aj h0 (dK 0)
def WC{c c':bJ}{f:aa->Nat}(h:dz c f)(h':dz c' f)(hp:∀p∈c,0<p.2)(BD:∀p∈c',0<p.2):lz (cD c) (cD c')=true:=by
 have pm:=(List.perm_ext_iff_of_nodup h.nd h'.nd).mpr λP=>(BU h hp P).trans (BU h' BD P).symm;unfold lz;rw [and_eq_true];constructor
 ·have:=pm.length_eq
  unfold cD;rw [length_map,length_map] at this⊢;exact bB.mpr this
 ·refine dA.mpr λp hq=>?_
  obtain ⟨⟨P,k⟩,hk,rfl⟩:=bu.mp hq;have gs:=pm.mem_iff.mp (bu.mpr ⟨_,hk,rfl⟩);obtain ⟨⟨P',k'⟩,mS,e⟩:=bu.mp gs;have e:=e;subst e;have e1:k=f P':=by rw [<-h.val];unfold cf;rw [lh h.nd hk];rfl
  have e2:k'=f P':=by rw [<-h'.val];unfold cf;rw [lh h'.nd mS];rfl
  have el:dget (cD c') P'=some (.int k'):=(pu).trans (ae (Option.map λp=>ab.int p.2) (lh h'.nd mS));show xV (ab.int k) (dget (cD c') P')=true;rw [el,e1,e2];exact beq_self_eq_true _
noncomputable def jQ:List aa->bJ->bJ
 |[],c=>c
 |P::L,c=>jQ L (dI c P 1)
section
variable{n:Nat}
theorem Ja:∀{L:List aa}{c:bJ}{f:aa->Nat},dz c f->(∀p∈c,0<p.2)->dz (jQ L c) (λP=>f P+L.count P)/\∀p∈jQ L c,0<p.2
 |[],c,f,h,hp=>⟨⟨h.nd,λP=>by show cf c P=_;rw [h.val,List.count_nil];rfl⟩,hp⟩
 |Q::L,c,f,h,hp=>by
  have H:=h.add (P:=Q) (k:=1) λP=>rfl;refine aT (Ja (L:=L) H (λp hq=>by
   unfold dI at hq
   split at hq
   ·obtain ⟨p',a,rfl⟩:=bu.mp hq
    have:=hp p' a
    split
    ·exact succ_pos _
    ·exact this
   ·rcases bD.mp hq with hq|hq
    ·exact hp p hq
    ·rw [mem_singleton.mp hq];exact Nat.one_pos)) λI h3=>?_
  refine ⟨⟨I.nd,λP=>?_⟩,h3⟩;show cf (jQ L (dI c Q 1)) P=_;rw [I.val,count_cons];by_cases e:Q=P
  ·subst e;simp;exact (add_right_comm _ _ _)
  ·simp [e]
def uh(c:bJ)(P:aa)(k:Nat):(dI c P k).length<=c.length+1:=by
 unfold dI
 split
 ·rw [length_map];exact le_succ _
 ·rw [length_append];exact aD _
def BV{z:Nat}(hn:(c.map (·.1)).Nodup)(H:D[j]?=some (some (.ref k)))(hs:s.Y k=some (.dict (cD c)))(I:ev F K1 D s=some (.d (.str P),s))(h3:ev F b D s=some (.d (.int z),s))(h4:ev F K2 D s=some (.d (.str P),s))(hl:c.length+1<=lim):
  ex F (.setI (.v j w1) K2 (.bin .add (.me .dget (.v j w2) [K1,.cI 0 w3] w4 w5) b w6) w7 w8) D s=some (.next,D,s.put k (.dict (cD (dI c P z)))):=by
 rw [<-WB hn P z];refine Bt (dM (x:=.d (.int (cf c P))) (gu (T:= "dict") (ag H) ?_ (aP I rfl) ?_ ?_) h3 ?_) (ag H) h4 hs (by unfold cD;rw [length_map];exact hl)
 ·show (gn s (.ref k)).map (λZ=> "dict")=_
  rw [qm hs];rfl
 ·show (gn s (.ref k)).map (λZ=> "dict")=_
  rw [qm hs];rfl
 ·show Option.map _ ((gn s (.ref k)).bind λal=>some ((dget al P).getD (.int 0)))=_
  rw [qm hs];show some (PV.d ((dget (cD c) P).getD (.int 0)),s)=_;rw [I9]
 ·show some (PV.d (.int ((cf c P:Int)+(z:Int))))=_
  rw [natCast_add]
def BW(h:D[j]?=some (some (.ref k)))(H:k∈s.own)(I:k<100)(h3:(D.set j none).all (λx=>match x with|some p=>jV k p|none=>true)=true)(hs:s.Y k=some (.dict al)):
  ex F (.frz j) D s=some (.next,D.set j (some (.d (.dict al))),⟨ak s.Y k none,s.own.filter (· !=k)⟩):=by
 show (n6 j D s).map _=_;rw [n6,h];show (if k∈s.own/\k<100/\(D.set j none).all (λx=>match x with|some p=>jV k p|none=>true)=true then o1 (iT s k) _ _ else none).map _=_;rw [if_pos ⟨H,I,h3⟩,iT,dictAt,hs];rfl
theorem Jb:∀{L:List aa}{c:bJ}{o2:Option ab}{ld:ab}{s:ah},(c.map (·.1)).Nodup->s.Y 15=some (.dict (cD c))->c.length+L.length<=lim->∃kd:Option ab,dD (λx D s=>(gp [2] x D).bind λD=>bo (FQ n) (fL (nS yp 1)) D s) (L.map ab.str) [some (.d ld),some (.ref 15),o2.map .d] s=some (.next,[some (.d ld),some (.ref 15),kd.map .d],⟨ak s.Y 15 (some (.dict (cD (jQ L c)))),s.own⟩)
 |[],c,o2,ld,s,hn,hs,hl=>⟨o2,by
  refine ae (λY=>some (Fl.next,[some (PV.d ld),some (.ref 15),o2.map PV.d],(⟨Y,s.own⟩:ah))) ?_
  funext k
  show s.Y k=if k=15 then _ else s.Y k
  by_cases e:k=15
  ·rw [if_pos e,e,hs];rfl
  ·rw [if_neg e]⟩
 |P::L,c,o2,ld,s,hn,hs,hl=>by
  rw [length_cons] at hl;have eZ:=uh c P 1;have jA:((dI c P 1).map (·.1)).Nodup:=(dz.add ⟨hn,λZ=>rfl⟩ λZ=>rfl).nd;refine b6 (Jb (s:=s.put 15 (.dict (cD (dI c P 1)))) (L:=L) (o2:=some (.str P)) (ld:=ld) jA HS (by lia)) λkd e=>?_;refine ⟨kd,(wm (sq (BV hn rfl hs rfl rfl rfl ((af (dc (le_add_left _ _) _) hl))) rfl)).trans (e.trans ?_)⟩;refine ae (λY=>some (Fl.next,[some (PV.d ld),some (.ref 15),kd.map PV.d],(⟨Y,s.own⟩:ah))) ?_
  funext k
  show (if k=15 then _ else if k=15 then _ else s.Y k)=if k=15 then _ else s.Y k
  by_cases e:k=15
  ·rw [if_pos e,if_pos e];rfl
  ·rw [if_neg e,if_neg e,if_neg e]
def WD(hl:L.length<=lim)(lj:s.Y 15=none):(FQ (n+1)).fn 10 [.d (fz L)] s=some (.d (.dict (cD (jQ L []))),s):=by
 refine b6 (Jb (n:=n) (s:=⟨ak s.Y 15 (some (.dict [])),[15]⟩) (L:=L) (c:=[]) (o2:=none) (ld:=fz L) nodup_nil (show ak s.Y 15 (some (.dict [])) 15=_ from ie) (by simpa using hl)) λkd e=>?_;rw [UJ];refine Eq.trans (wT (d:=.dict (cD (jQ L []))) (D:=[some (.d (fz L)),some (.d (.dict (cD (jQ L [])))),kd.map .d]) (σ':=ak (ak (ak s.Y 15 (some (.dict []))) 15 (some (.dict (cD (jQ L []))))) 15 none) ?_) ?_
 ·refine sq (bI (x:=.ref 15) (V:=⟨ak s.Y 15 (some (.dict [])),[15]⟩) ?_) ?_
  ·exact gf lj
  refine sq (kf rfl e) ?_;exact sq (BW rfl (.head _) (by decide) (by cases kd<;>rfl) (show ak (ak s.Y 15 (some (.dict []))) 15 (some (.dict (cD (jQ L [])))) 15=_ from ie)) (sr (fe rfl) rfl)
 ·refine ae (λY=>some (PV.d (.dict (cD (jQ L []))),(⟨Y,s.own⟩:ah))) ?_
  funext k
  show (if k=15 then none else if k=15 then _ else if k=15 then _ else s.Y k)=s.Y k;by_cases e:k=15
  ·rw [if_pos e,e,lj]
  ·rw [if_neg e,if_neg e,if_neg e]
end
def fA(Y:Nat->Option aV)(c:bJ)(a b:Nat):Prop:=∃ts,Y 30=some (.tab ts)/\ky ts ((8*a+b:Nat):Int)=some (100+(8*a+b))/\Y (100+(8*a+b))=some (.dict (cD c))
section
variable{p q:Pos}
def iM{i j:Nat}(H:ev F a D s=some (.d (.int i),V))(I:ev F b D V=some (.d (.int j),s'')):ev F (.bin .add a b p) D s=some (.d (.int (i+j:Nat)),s''):=dM H I (by
 show some (PV.d (.int ((i:Int)+(j:Int))))=_;rw [natCast_add])
def ui{i j:Nat}(hi:i<2 ^ 30)(hj:j<2 ^ 30)(H:ev F a D s=some (.d (.int i),V))(I:ev F b D V=some (.d (.int j),s'')):ev F (.bin .mul a b p) D s=some (.d (.int (i*j:Nat)),s''):=dM H I (by
 show Option.map (λk=>PV.d (.int k)) (if ((i:Nat):Int).natAbs<2 ^ 30/\((j:Nat):Int).natAbs<2 ^ 30 then some ((i:Int)*(j:Int)) else none)=_;rw [if_pos ⟨hi,hj⟩,Int.natCast_mul];rfl)
def BX{a b:Nat}(h:fA s.Y c a b)(ha:a<=3)(H:D[j]?=some (some (.ref 30)))(I:D[ja]?=some (some (.d (.int a))))(h3:D[jb]?=some (some (.d (.int b)))):
  ev F (.idx (.v j w1) (.bin .add (.bin .mul (.cI 8 w2) (.v ja w3) w4) (.v jb w5) w6) w7) D s=some (.ref (100+(8*a+b)),s)/\s.Y (100+(8*a+b))=some (.dict (cD c)):=by
 obtain ⟨ts,e1,e2,e3⟩:=h;refine ⟨?_,e3⟩;refine (au (ag H)).trans ((au (iM (i:=8*a) (j:=b) (ui (i:=8) (by decide) (dZ ha (by decide)) rfl (ag I)) (ag h3))).trans (eM ?_));show o1 (eW s (.ref 30)) _ (o1 (gn s (.ref 30)) _ ((uI s (.ref 30)).bind λts=>(ky ts ((8*a+b:Nat):Int)).map PV.ref))=_;rw [show eW s (.ref 30)=none from congrArg (Option.bind · aV.list?) e1,show gn s (.ref 30)=none from congrArg (Option.bind · aV.dict?) e1,show uI s (.ref 30)=some ts from DF e1];show (ky ts _).map _=_;rw [e2];rfl
def Jc{o K:PE}(H:ev F o D s=some (.ref g,s))(hs:s.Y g=some (.dict (cD c)))(I:ev F K D s=some (.d (.str P),s)):ev F (.me .dget o [K,.cI 0 w] q p) D s=some (.d (.int (cf c P)),s):=by
 have ha:=qm hs;refine gu (T:= "dict") H ?_ (aP I rfl) ?_ ?_
 ·show (gn s (.ref g)).map (λZ=> "dict")=_
  rw [ha];rfl
 ·show (gn s (.ref g)).map (λZ=> "dict")=_
  rw [ha];rfl
 ·show Option.map _ ((gn s (.ref g)).bind λal=>some ((dget al P).getD (.int 0)))=_
  rw [ha];show some (PV.d ((dget (cD c) P).getD (.int 0)),s)=_;rw [I9]
def WE{i j:Int}(h:iR i j):Dc (.d (.int i)) (.d (.int j))=some (.d (.rng i j)):=bv h
def ju:ev F (.cI 1 p) D s=some (.d (.int (1:Nat)),s):=rfl
def Jd{i j:Nat}:xW (.d (.int i)) (.d (.int j))=some (decide (i=j)):=ae some (Bool.eq_iff_iff.mpr ((bB).trans (ofNat_inj.trans decide_eq_true_iff.symm)))
def Je{y a b:Nat}(h:fA s.Y c a b)(ha:a<=3):(FQ (n+1)).fn 11 [.d (.str [y]),.d (.int a),.d (.int b),.ref 30] s=some (.d (.int (cf c [y])),s):=by
 refine aT (BX (F:=FQ n) (s:=⟨s.Y,[]⟩) (D:=[some (.d (.str [y])),some (.d (.int a)),some (.d (.int b)),some (.ref 30),none]) (j:=3) (ja:=1) (jb:=2) (w1:=U 247 15 20) (w2:=U 247 21 22) (w3:=U 247 25 30) (w4:=U 247 21 30) (w5:=U 247 33 37) (w6:=U 247 21 37) (w7:=U 247 15 38) h ha rfl rfl rfl) λe1 e2=>?_;rw [HI];refine iI (sr (ic rfl (sr (fe (Jc e1 e2 rfl)) rfl)) rfl)
theorem kj:∀{C:List α}{acc:List ab},(∀i∈C,f (h i) s=some (some (g i),s))->gU f (C.map h) acc s=some (acc++C.map g,s)
 |[],acc,_=>by rw [map_nil,map_nil,append_nil];rfl
 |i::C,acc,hf=>by
  show bS (f (h i) s) _=_;rw [hf i (.head _)];show gU f (C.map h) (acc++[g i]) s=_;rw [kj λj hj=>hf j (.tail _ hj),append_assoc];rfl
theorem Jf(f:α->Nat):∀l:List α,gD (l.map λx=>ab.int (f x))=some (l.map λx=>((f x:Nat):Int))
 |[]=>rfl
 |x::l=>by
  show (gD (l.map λx=>ab.int (f x))).map _=_;rw [Jf f l];rfl
theorem Jg(f:α->Nat):∀l:List α,(l.map λx=>((f x:Nat):Int)).sum=((l.map f).sum:Nat)
 |[]=>rfl
 |x::l=>by
  rw [map_cons,sum_cons,Jg f l,map_cons,sum_cons,natCast_add]
def WF(h:ev F e D s=some (.d (.str (ys++[z])),V)):ev F (.sl e .no (.at_ (.neg (.cI 1 w1) w2)) q p) D s=some (.d (.str ys),V):=by
 refine (au h).trans ((au rfl).trans ((au rfl).trans ?_));show some (PV.d (.str (((ys++[z]).take (jw (ys++[z]).length (-1))).drop 0)),V)=_;have:jw (ys++[z]).length (-1)=ys.length:=(clipAt_neg (ys++[z]).length 1 (aD 1)).trans (ae (· - 1) (length_append ..));rw [this,take_left];rfl
def WG(h:ev F e D s=some (.d (.str (ys++[z])),V)):ev F (.idx e (.neg (.cI 1 w1) w2) p) D s=some (.d (.str [z]),V):=by
 refine (au h).trans ((au (x:=PV.d (.int (-1))) (s:=V) (o:=ev F (.neg (.cI 1 w1) w2) D V) rfl).trans (eM ?_));show ((bV (ys++[z]).length (-1)).bind ((ys++[z])[·]?)).map (λc=>PV.d (.str [c]))=_;rw [HX (by rw [length_append];exact succ_pos _)];show ((ys++[z])[(ys++[z]).length - 1]?).map _=_;rw [length_append,length_singleton,Nat.add_sub_cancel,getElem?_append_right (Nat.le_refl _),sub_self];rfl
def Jh{z a b:Nat}{v:Nat->Nat}{c:Nat->bJ}(hy:ys≠[])(ha:a+ys.length<=100)(hb:b<=3)(h:∀i<b - (a+ys.length),(FQ (n+1)).fn 11 [.d (.str ys),.d (.int a),.d (.int (a+ys.length+i:Nat)),.ref 30] ⟨s.Y,[]⟩=some (.d (.int (v i)),⟨s.Y,[]⟩)/\fA s.Y (c i) (a+ys.length+i) b/\v i<2 ^ 30/\cf (c i) [z]<2 ^ 30):
  (FQ (n+2)).fn 11 [.d (.str (ys++[z])),.d (.int a),.d (.int b),.ref 30] s=some (.d (.int ((List.range (b - (a+ys.length))).map λi=>v i*cf (c i) [z]).sum),s):=by
 have hl:(ys++[z]).length=ys.length+1:=by rw [length_append];rfl
 have hy0:0<ys.length:=List.length_pos_iff.mpr hy;have yQ:(a:Int)+(ys.length+1:Nat) - 1=((a+ys.length:Nat):Int):=by lia
 rw [HI];refine iI (D:=[some (.d (.str (ys++[z]))),some (.d (.int a)),some (.d (.int b)),some (.ref 30),some (.d (.rng (a+ys.length:Nat) b))]) (sq (aS:=[some (.d (.str (ys++[z]))),some (.d (.int a)),some (.d (.int b)),some (.ref 30),none]) (V:=⟨s.Y,[]⟩) (gN (cT (pA (ag rfl)) ju ?_) rfl) ?_)
 ·show some ((((ys++[z]).length:Nat):Int)==((1:Nat):Int))=_
  rw [hl];exact ae some (eU.mpr (by lia))
 refine sq (bI (x:=.d (.rng (a+ys.length:Nat) b)) (V:=⟨s.Y,[]⟩) ?_) ?_
 ·refine (au (dM (x:=.d (.int (a+(ys.length+1):Nat))) (y:=.d (.int (1:Nat))) (r:=.d (.int (a+ys.length:Nat))) (iM (ag rfl) (hl▸pA (ag rfl))) ju ?_)).trans ((au (ag rfl)).trans (eM ?_))
  ·show some (PV.d (.int ((a+(ys.length+1):Nat) - ((1:Nat):Int))))=_
   refine ae (λz=>some (PV.d (.int z))) ?_;lia
  ·exact WE ⟨⟨(natCast_nonneg _),by lia⟩,(Int.lt_of_lt_of_le (by decide) (natCast_nonneg _)),by lia⟩
 refine sr (fe (iH (x:=.d (.list ((List.range (b - (a+ys.length))).map λi=>ab.int (v i*cf (c i) [z]:Nat)))) ?_ ?_)) rfl
 ·refine gO (J:=(List.range (b - (a+ys.length))).map λi=>ab.int (a+ys.length+i:Nat)) (lk:=none) (fH (ag rfl) ?_) ?_ ?_
  ·show some ((List.range (b - (a+ys.length))).map λ(i:Nat)=>ab.int (((a+ys.length:Nat):Int)+(i:Int)),none)=_
   refine ae (λl=>some (l,none)) (eR λi Z=>?_);rw [natCast_add (a+ys.length) i]
  ·rw [length_map,length_range]
   exact af (af (sub_le _ _) hb) (by decide)
  ·refine (kj (g:=λi=>ab.int (v i*cf (c i) [z]:Nat)) λi hi=>?_).trans rfl
   have hi:=mem_range.mp hi;refine km (h i hi) λH I h3 h4=>?_;refine aT (BX (F:=FQ (n+1)) (s:=⟨s.Y,[]⟩) (D:=[some (.d (.int (a+ys.length+i:Nat))),some (.d (.int a)),some (.d (.int b)),some (.ref 30),some (.d (.str (ys++[z])))]) (j:=3) (ja:=0) (jb:=2) (w1:=U 249 59 64) (w2:=U 249 65 66) (w3:=U 249 69 72) (w4:=U 249 65 72) (w5:=U 249 75 79) (w6:=U 249 65 79) (w7:=U 249 59 80) I (by lia) rfl rfl rfl) λe1 e2=>?_;exact gA (c:=true) rfl rfl λZ=>ui h3 h4 (f5 (aP (WF (ag rfl)) (aP (ag rfl) (aP (ag rfl) (aP (ag rfl) b9)))) H) (Jc e1 e2 (WG (ag rfl)))
 ·show ((gD ((List.range (b - (a+ys.length))).map λi=>ab.int (v i*cf (c i) [z]:Nat))).map λl=>ab.int l.sum)=_
  rw [Jf,<-Jg];rfl
end
abbrev dY(r:bk):ab:=.tup [.str [r.1],.str r.2,.str (bC r.2)]
def eG(B:List bk):ab:=.list (B.map dY)
abbrev ik(i:It):ab:=.tup [.str (aM i),.str (cQ i)]
def BY(h:ct i):cQ i=if nx i=0 then [] else [nx i]:=by
 by_cases c:nx i=0
 ·rw [if_pos c]
  unfold cQ;by_cases e:i.2.2<i.2.1.length
  ·have H:i.2.1[i.2.2]?=some (nx i):=by
    unfold nx;rw [getD_eq_getElem?_getD,getElem?_eq_getElem e];rfl
   have I:=nw (h.syms _ (ez H));lia
  ·rw [drop_eq_nil_of_le]
   rw [length_take];lia
 ·rw [if_neg c]
  refine aT (qU c) λH I=>?_;refine b6 (fB.mp I) λh3 h4=>?_;unfold cQ;rw [List.take_succ_eq_append_getElem H,List.drop_append_of_le_length (by rw [length_take];lia),drop_eq_nil_of_le (by rw [length_take];lia),h4];rfl
section
variable{p q:Pos}{Gl:Prop}
def WH(hX:X=256\/X=257\/X=258)(h:D[j]?=some (some (.d (.str [X])))):ev F (.idx (.cS [83,65,66] p1) (.bin .sub (.bi .ord1 (.v j p2) p3 p4) (.cI 256 p5) p6) p7) D s=some (.d (.str (nm X)),s):=by
 refine (au rfl).trans ((au (dM (iH (ag h) rfl) rfl rfl)).trans (eM ?_));rcases hX with rfl|rfl|rfl<;>rfl
def Ji(m k:Nat)(h:0<k):jw m (-(k:Int))=m - k:=clipAt_neg m k h
def Jj(h:ev F e D s=some (.d (.int k),V)):ev F (.neg e p) D s=some (.d (.int (-(k:Int))),V):=(au h).trans rfl
def WI{k:Nat}(h0:0<k)(h:ev F a D s=some (.d (.str J),V))(I:ev F b D V=some (.d (.int k),s'')):ev F (.sl a (.at_ (.neg b w)) .no q p) D s=some (.d (.str (J.drop (J.length - k))),s''):=by
 refine (au h).trans ((au ((au (Jj I)).trans rfl)).trans ((au rfl).trans ?_));show some (PV.d (.str ((J.take J.length).drop (jw J.length (-(k:Int))))),s'')=_;rw [Ji _ _ h0,take_length]
def WJ{k:Nat}(h0:0<k)(h:ev F a D s=some (.d (.str J),V))(I:ev F b D V=some (.d (.int k),s'')):ev F (.sl a .no (.at_ (.neg b w)) q p) D s=some (.d (.str (J.take (J.length - k))),s''):=by
 refine (au h).trans ((au rfl).trans ((au ((au (Jj I)).trans rfl)).trans ?_));show some (PV.d (.str ((J.take (jw J.length (-(k:Int)))).drop 0)),s'')=_;rw [Ji _ _ h0];rfl
def WK{k:Nat}(h:ev F a D s=some (.d (.str J),s))(I:ev F b D s=some (.d (.int k),s))(h3:ev F c D s=some (.d (.int (k+1:Nat)),s)):ev F (.sl a (.at_ b) (.at_ c) q p) D s=some (.d (.str ((J.take (k+1)).drop k)),s):=by
 refine (au h).trans ((au ((au I).trans rfl)).trans ((au ((au h3).trans rfl)).trans ?_));show some (PV.d (.str ((J.take (jw J.length ((k+1:Nat):Int))).drop (jw J.length (k:Int)))),s)=_;rw [rf,rf];by_cases h:k<J.length
 ·rw [Nat.min_eq_left h,Nat.min_eq_left (Nat.le_of_lt h)]
 ·rw [min_eq_right ((le_of_not_lt h)),min_eq_right ((Nat.le_trans (le_of_not_lt h) (Nat.le_add_right _ _))),take_length,List.drop_length,drop_eq_nil_of_le (by rw [length_take];lia)]
def Jk{i j:Int}(h:iR i j):mE i j=some ((List.range (j.toNat - i.toNat)).map λ(k:Nat)=>ab.int (i+(k:Int)),none):=bv h
def WL{k:Nat}(hk:k<=100)(H:ev F a D s=some (.d (.str [46]),V))(I:ev F b D V=some (.d (.int k),s'')):ev F (.bin .mul a b p) D s=some (.d (.str (List.replicate k 46)),s''):=dM H I (by
 have e:∀j:Int,uG (.d (.str [46])) (.d (.int j))=if 0<=j/\j<=100 then some (.d (.str (List.replicate j.toNat 46))) else none:=λj=>rfl
 show uG (.d (.str [46])) (.d (.int (k:Int)))=_;rw [e,if_pos ⟨(natCast_nonneg _),(ofNat_le.mpr hk)⟩,toNat_natCast])
def Jl:jU (.d (.str [z])) (.d (.str l)) s=some (decide (z∈l)):=rfl
def Jm(hl:l=256\/l=257\/l=258)(hs:(bC rr).length<=12)(hk:k<=3)(h0:ev F a D s=some (.d (.str (List.replicate (k+1) 46)),s))(h4:D[4]?=some (some (.d (.str [l]))))(h6:D[6]?=some (some (.d (.str (bC rr))))):
  ev F (.bin .add (.bin .add (.bin .add a (.idx (.cS [83,65,66] w1) (.bin .sub (.bi .ord1 (.v 4 w2) w3 w4) (.cI 256 w5) w6) w7) w8) (.cS [58,32] w9) rx) (.v 6 ua) ub) D s=some (.d (.str (aM (l,rr,k))),s):=by
 have hn:(nm l).length<=1:=by rcases hl with rfl|rfl|rfl<;>decide
 have hr:(List.replicate (k+1) 46).length<=4:=(length_replicate ..).symm▸dh hk;have e:aM (l,rr,k)=((List.replicate (k+1) 46++nm l)++[58,32])++bC rr:=by
  unfold aM;rw [append_assoc,append_assoc];rfl
 rw [e];exact jO (jO (jO h0 (WH hl h4) (af (iZ hr hn) (by decide))) rfl (af (iZ (iZ hr hn) (aD 2)) (by decide))) (ag h6) (af (iZ (iZ (iZ hr hn) (aD 2)) hs) (by decide))
def xl(hl:(J++ys).length<=lim)(H:ev F a D s=some (.d (.list J),V))(I:ev F b D V=some (.d (.list ys),s'')):ev F (.bin .add a b p) D s=some (.d (.list (J++ys)),s''):=dM H I (bv hl)
def Jn:List PS:=fL (nS mI 1)
def BZ:List PS:=fL (nS Jn 0)
def Jo{r:bk}(hr:hU r):(bC r.2).length<=12:=af (o5 hr.sym) (fO 4 hr.len.2)
def WM{r:bk}(tf:0<k)(hk:k<=r.2.length)(dg:s.Y 32=some (.dict al))(hw:∀k,0<k->k<=P.length->dget al (P.take (P.length - k))=some (.str (W B (P.take (P.length - k)))))(h0:D[0]?=some (some (.d (.str P))))(H:D[1]?=some (some (.ref 32)))(h4:D[4]?=some (some (.d (.str [r.1]))))(h5:D[5]?=some (some (.d (.str r.2))))(h7:D[7]?=some (some (.d (.int k)))):bP F (fv (nS BZ 0)) D s=some (nt B P r k,s):=by
 refine Eq.trans (pn (cT (WI tf (ag h0) (ag h7)) (BJ (ag h5) (ag h7)) rfl) λq=>cT (ag h4) (t0 (ag H) (WJ tf (ag h0) (ag h7)) dg (hw k tf ?_)) (Jl)) (ae (λb=>some (b&&_,s)) (Bool.eq_iff_iff.mpr (bB.trans decide_eq_true_iff.symm)));have h:=ae List.length (bB.mp q);rw [length_drop,length_take,Nat.min_eq_left hk] at h;exact af (cr h.symm) (sub_le ..)
def WN{r:bk}(hr:hU r)(hk:k<=r.2.length)(hl:acc.length<=1000)(h3:D[3]?=some (some (.d (.list (acc.map ik)))))(h4:D[4]?=some (some (.d (.str [r.1]))))(h5:D[5]?=some (some (.d (.str r.2))))(h6:D[6]?=some (some (.d (.str (bC r.2)))))(h7:D[7]?=some (some (.d (.int k)))):bo F (ph (nS BZ 0)) D s=some (.next,D.set 3 (some (.d (.list ((acc++[(r.1,r.2,k)]).map ik)))),s):=
 have Jp:=af hk hr.len.2
 sq (bI (Eq.trans (xl (af (iZ ((length_map ..).symm▸hl) (aD 1)) (by decide)) (ag h3) (rB (nE (Jm hr.left (Jo hr) Jp (WL (af (dh Jp) (by decide)) rfl (iM (ag h7) ju)) h4 h6) (WK (ag h5) (ag h7) (iM (ag h7) ju))))) (ae (λl=>some (PV.d (.list l),s)) (map_append (l₂:=[(r.1,r.2,k)])).symm))) rfl
def WO{P:aa}{r:bk}(hr:hU r){al:List (aa×ab)}(dg:s.Y 32=some (.dict al))(hw:∀k,0<k->k<=P.length->dget al (P.take (P.length - k))=some (.str (W B (P.take (P.length - k)))))(cy:10<aO.length)(h0:aO[0]?=some (some (.d (.str P))))(H:aO[1]?=some (some (.ref 32)))(h4:aO[4]?=some (some (.d (.str [r.1]))))(h5:aO[5]?=some (some (.d (.str r.2))))(h6:aO[6]?=some (some (.d (.str (bC r.2))))){L:aa}:∀{acc:List It}{D:aI},Kw [3,7] aO D->D[3]?=some (some (.d (.list (acc.map ik))))->(∀k∈L,0<k/\k<=r.2.length)->acc.length+L.length<=1000->
  (∀v,Kw [3,7] aO v->v[3]?=some (some (.d (.list ((acc++(L.filter (nt B P r)).map λk=>(r.1,r.2,k)).map ik))))->dD (lb F [7] BZ) (L.map λ(k:Nat)=>ab.int k) D s=some (.next,v,s)->Gl)->Gl:=by
 induction L with
 |nil=>exact λkw h3 Z Z K=>K _ kw ((append_nil _).symm▸h3) rfl
 |cons k L ih=>
  intro acc D kw h3 hL hl K;have bp:Kw [3,7] aO (D.set 7 (some (.d (.int k)))):=c8 kw;have h7:(D.set 7 (some (PV.d (.int k))))[7]?=some (some (.d (.int k))):=bT (c7 kw (dJ (by decide) cy));have hk:=hL k (.head _);have et:=WM (F:=F) hk.1 hk.2 dg hw (be bp h0) (be bp H) (be bp h4) (be bp h5) h7;have gY:acc.length+1+L.length<=1000:=by rw [Nat.add_assoc,Nat.add_comm 1];exact hl
  cases ed:nt B P r k with
  |false=>
   rw [ed] at et;refine ih bp (aN h3) (λj hj=>hL j (.tail _ hj)) (le_of_succ_le hl) λv kv hv e=>K v kv ?_ (fu rfl (sq (gN et rfl) rfl) e);rw [filter_cons_of_neg (ed▸Bool.false_ne_true)];exact hv
  |true=>
   rw [ed] at et;refine ih (c8 bp (.head _)) (bT (c7 bp (dJ (by decide) cy))) (λj hj=>hL j (.tail _ hj)) ((length_append ..).symm▸gY) λv kv hv e=>K v kv ?_ (fu rfl (sq (ic et (WN hr hk.2 (af (bz ..) (af (bz ..) gY)) (aN h3) (be bp h4) (be bp h5) (be bp h6) h7)) rfl) e);rw [filter_cons_of_pos ed];rw [append_assoc] at hv;exact hv
def WP{i j:Int}(h:iR i j)(H:ev F a D s=some (.d (.int i),V))(I:ev F b D V=some (.d (.int j),s'')):gE F (.range2 a b q p) D s=some (((List.range (j.toNat - i.toNat)).map λ(k:Nat)=>ab.int (i+(k:Int)),none),s''):=by
 refine (au H).trans ((au I).trans ?_);have e:((dn (.d (.int i))).bind λi=>(dn (.d (.int j))).bind (mE i))=mE i j:=rfl;rw [e,Jk h];rfl
def WR{i m:Nat}(hm:i+m<1000000):iR (i:Int) ((i+m:Nat):Int):=⟨⟨(natCast_nonneg _),by lia⟩,(Int.lt_of_lt_of_le (by decide) (natCast_nonneg _)),(ofNat_lt.mpr hm)⟩
def B4{i m:Nat}(hm:i+m<1000000)(H:ev F a D s=some (.d (.int i),V))(I:ev F b D V=some (.d (.int (i+m:Nat)),s'')):gE F (.range2 a b q p) D s=some (((List.range m).map λ(k:Nat)=>ab.int (k+i:Nat),none),s''):=by
 rw [WP (WR hm) H I,toNat_natCast,toNat_natCast,add_sub_cancel_left];refine ae (λl=>some ((l,none),s'')) (eR λk Z=>ae ab.int ?_);lia
def Jq{r:bk}(hr:hU r):(l4 B P r).length<=3:=(length_map ..).symm▸af (length_filter_le ..) ((length_map ..).symm▸length_range.symm▸hr.len.2)
def WS(dg:s.Y 32=some (.dict al))(hw:∀k,0<k->k<=P.length->dget al (P.take (P.length - k))=some (.str (W B (P.take (P.length - k)))))(cy:10<aO.length)(h0:aO[0]?=some (some (.d (.str P))))(H:aO[1]?=some (some (.ref 32))){R:List bk}:∀{acc:List It}{D:aI},Kw [3,4,5,6,7] aO D->D[3]?=some (some (.d (.list (acc.map ik))))->(∀r∈R,hU r)->acc.length+3*R.length<=900->
  (∀v,Kw [3,4,5,6,7] aO v->v[3]?=some (some (.d (.list ((acc++R.flatMap (l4 B P)).map ik))))->dD (lb F [4,5,6] Jn) (R.map dY) D s=some (.next,v,s)->Gl)->Gl:=by
 induction R with
 |nil=>exact λkw h3 Z Z K=>K _ kw ((append_nil _).symm▸h3) rfl
 |cons r R ih=>
  intro acc D kw h3 hR hl K;have hr:=hR r (.head _);have bp:Kw [3,4,5,6,7] aO (((D.set 4 (some (.d (.str [r.1])))).set 5 (some (.d (.str r.2)))).set 6 (some (.d (.str (bC r.2))))):=c8 (c8 (c8 kw));have b:∀{k:Nat},k<11->k<D.length:=λh=>c7 kw (bx h cy);have h5:(((D.set 4 (some (PV.d (.str [r.1])))).set 5 (some (.d (.str r.2)))).set 6 (some (.d (.str (bC r.2)))))[5]?=some (some (.d (.str r.2))):=aN (bT (bH (b (by decide))));have gY:acc.length+3+3*R.length<=900:=by rw [Nat.add_assoc,Nat.add_comm 3];exact hl
  refine WO (F:=F) (s:=s) (B:=B) hr dg hw (c7 bp cy) (be bp h0) (be bp H) (aN (aN (bT (b (by decide))))) h5 (bT (bH (bH (b (by decide))))) (L:=(List.range r.2.length).map (·+1)) gv (aN (aN (aN h3))) (λk hk=>?_) ((length_map ..).symm▸length_range.symm▸af (dc hr.len.2 _) (af (bz _ _) (af gY (by decide)))) λv1 fU oT e1=>ih (acc:=acc++l4 B P r) (iY bp fU (by decide)) oT (λx hx=>hR x (.tail _ hx)) (af (dN (iZ (aD _) (Jq hr)) _) gY) λv kv hv e=>K v kv ?_ (fu rfl (sq (kf (l:=(((List.range r.2.length).map (·+1)).map λ(k:Nat)=>ab.int k,none)) ?_ e1) rfl) e)
  ·obtain ⟨j,hj,rfl⟩:=bu.mp hk
   exact ⟨succ_pos _,mem_range.mp hj⟩
  ·rw [append_assoc] at hv
   exact hv
  ·rw [map_map]
   refine B4 (i:=1) (m:=r.2.length) (dZ (dc hr.len.2 1) (by decide)) ju ?_;rw [Nat.add_comm];exact iM (pA (ag h5)) ju
abbrev kl(L:List It):ab:=.list ((L.map aM).map .str)
noncomputable abbrev i6 (L:List It):ab:=.str (L.flatMap cQ)
def uj:List PS:=fL (nS mI 6)
def B5:List PS:=fL (nS (ph (nS uj 0)) 0)
def Jr(i:It):(cQ i).length<=1:=length_drop.symm▸Nat.sub_le_of_le_add (length_take▸af (Nat.min_le_left ..) (cr (Nat.add_comm ..)))
def WT(L:List It):(L.flatMap cQ).length<=L.length:=by
 induction L with
 |nil=>exact aD _
 |cons i L ih=>exact af (iZ (Jr i) ih) (cr (Nat.add_comm ..))
def ll{k c:Nat}(h:ev F a D s=some (.d (.str J),V))(I:ev F b D V=some (.d (.int k),s''))(hk:J[k]?=some c):ev F (.idx a b p) D s=some (.d (.str [c]),s''):=by
 refine (au h).trans ((au I).trans (eM ?_));show ((bV J.length (k:Int)).bind (J[·]?)).map (λc=>PV.d (.str [c]))=_;rw [Bk (List.getElem?_eq_some_iff.mp hk).1];exact ae (Option.map _) hk
def Js(r:bk)(R:List bk)(X:Nat):cz (r::R) X=if r.1=X then (r.1,r.2,0)::cz R X else cz R X:=by
 unfold cz;by_cases e:r.1=X
 ·rw [if_pos e,filter_cons_of_pos (p:=λx:bk=>x.1==X) (beq_iff_eq.mpr e),map_cons]
 ·rw [if_neg e,filter_cons_of_neg (p:=λx:bk=>x.1==X) (λq=>e (beq_iff_eq.mp q))]
def WU{X k:Nat}{r:bk}(h4:D[4]?=some (some (.d (.str [r.1]))))(h9:D[9]?=some (some (.d (i6 L))))(cH:D[10]?=some (some (.d (.int k))))(hk:(L.flatMap cQ)[k]?=some X):bP F (fv (nS B5 0)) D s=some (r.1==X,s):=cT (ag h4) (ll (ag h9) (ag cH) hk) (ae some (Bool.and_true (r.1==X)))
def WV{L:List It}{r:bk}(hr:hU r)(hl:L.length<=1000)(cy:10<D.length)(h4:D[4]?=some (some (.d (.str [r.1]))))(h5:D[5]?=some (some (.d (.str r.2))))(h6:D[6]?=some (some (.d (.str (bC r.2)))))(h8:D[8]?=some (some (.d (kl L))))(h9:D[9]?=some (some (.d (i6 L)))):bo F (ph (nS B5 0)) D s=some (.next,(D.set 8 (some (.d (kl (L++[(r.1,r.2,0)]))))).set 9 (some (.d (i6 (L++[(r.1,r.2,0)])))),s):=by
 obtain ⟨y,z,hy⟩:=List.exists_cons_of_length_pos hr.len.1;have WW:cQ (r.1,r.2,0)=[y]:=by
  show (r.2.take 1).drop 0=_;rw [hy];rfl
 refine sq (bI (x:=.d (kl (L++[(r.1,r.2,0)]))) (V:=s) (Eq.trans (xl (ys:=[.str (aM (r.1,r.2,0))]) (af (iZ ((length_map ..).symm▸(length_map ..).symm▸hl) (aD 1)) (by decide)) (ag h8) (rB (Jm hr.left (Jo hr) (by decide) rfl h4 h6))) (ae (λl=>some (PV.d (.list l),s)) (((map_append (f:=aM) (l₂:=[(r.1,r.2,0)])).symm▸map_append).symm)))) (sq (bI (x:=.d (i6 (L++[(r.1,r.2,0)]))) (V:=s) (Eq.trans (jO (ag (aN h9)) (ll (k:=0) (c:=y) (ag (aN h5)) rfl (hy▸rfl)) (af (iZ (af (WT L) hl) (aD 1)) (by decide))) (ae (λl=>some (PV.d (.str l),s)) ?_))) rfl);rw [List.flatMap_append,List.flatMap_singleton,WW]
def WX{X k:Nat}(cy:10<aO.length)(cH:aO[10]?=some (some (.d (.int k)))){R:List bk}:∀{L:List It}{D:aI},Kw [4,5,6,8,9] aO D->D[8]?=some (some (.d (kl L)))->D[9]?=some (some (.d (i6 L)))->(∀r∈R,hU r)->(L.flatMap cQ)[k]?=some X->L.length+R.length<=1000->
  (∀v,Kw [4,5,6,8,9] aO v->v[8]?=some (some (.d (kl (L++cz R X))))->v[9]?=some (some (.d (i6 (L++cz R X))))->dD (lb F [4,5,6] B5) (R.map dY) D s=some (.next,v,s)->Gl)->Gl:=by
 induction R with
 |nil=>exact λkw h8 h9 Z Z Z K=>K _ kw ((append_nil _).symm▸h8) ((append_nil _).symm▸h9) rfl
 |cons r R ih=>
  intro L D kw h8 h9 hR hk hl K;have hr:=hR r (.head _);have Jt:=λx hx=>hR x (.tail _ hx);have bp:Kw [4,5,6,8,9] aO (((D.set 4 (some (.d (.str [r.1])))).set 5 (some (.d (.str r.2)))).set 6 (some (.d (.str (bC r.2))))):=c8 (c8 (c8 kw));have b:∀{k:Nat},k<11->k<D.length:=λh=>c7 kw (bx h cy);have h4:(((D.set 4 (some (PV.d (.str [r.1])))).set 5 (some (.d (.str r.2)))).set 6 (some (.d (.str (bC r.2)))))[4]?=some (some (.d (.str [r.1]))):=aN (aN (bT (b (by decide))));have Ju:=aN (x:=some (PV.d (.str (bC r.2)))) (aN (x:=some (PV.d (.str r.2))) (aN (x:=some (PV.d (.str [r.1]))) h8 (show 8≠4 by decide)) (show 8≠5 by decide)) (show 8≠6 by decide);have B6:=aN (x:=some (PV.d (.str (bC r.2)))) (aN (x:=some (PV.d (.str r.2))) (aN (x:=some (PV.d (.str [r.1]))) h9 (show 9≠4 by decide)) (show 9≠5 by decide)) (show 9≠6 by decide);have et:=WU (F:=F) (s:=s) h4 B6 (be bp cH) hk;have gY:L.length+1+R.length<=1000:=by rw [Nat.add_assoc,Nat.add_comm 1];exact hl
  rw [Js] at K;by_cases c:r.1=X
  ·rw [beq_iff_eq.mpr c] at et
   rw [if_pos c] at K;refine ih (L:=L++[(r.1,r.2,0)]) (c8 (c8 bp)) (aN (bT (bH (bH (bH (b (by decide))))))) (bT (bH (bH (bH (bH (b (by decide))))))) Jt ?_ ((length_append ..).symm▸gY) λv kv k8 k9 e=>?_
   ·rw [List.flatMap_append,getElem?_append_left (List.getElem?_eq_some_iff.mp hk).1]
    exact hk
   ·rw [append_assoc] at k8 k9
    exact K v kv k8 k9 (fu rfl (sq (ic et (WV hr (af (bz ..) hl) (c7 bp cy) h4 (aN (bT (bH (b (by decide))))) (bT (bH (bH (b (by decide))))) Ju B6)) rfl) e)
  ·rw [beq_eq_false_iff_ne.mpr c] at et
   rw [if_neg c] at K;exact ih bp Ju B6 Jt hk (le_of_succ_le hl) λv kv k8 k9 e=>K v kv k8 k9 (fu rfl (sq (gN et rfl) rfl) e)
def Jv(h9:D[9]?=some (some (.d (i6 L))))(cH:D[10]?=some (some (.d (.int k)))):bP F (fv (nS mI 6)) D s=some (decide (k<(L.flatMap cQ).length),s):=cT (ag cH) (pA (ag h9)) (ae some (decide_eq_decide.mpr ofNat_lt))
def WY(h9:D[9]?=some (some (.d (i6 L))))(cH:D[10]?=some (some (.d (.int k))))(hk:(L.flatMap cQ)[k]?=some X)(hA:(L.flatMap cQ).take k=A):bP F (fv (nS uj 0)) D s=some (decide (256<=X)&&decide (X∉A),s):=by
 refine pn (cT (iH (ll (ag h9) (ag cH) hk) rfl) rfl (ae some (decide_eq_decide.mpr (ofNat_lt)))) λZ=>cT (ll (ag h9) (ag cH) hk) (BJ (ag h9) (ag cH)) ?_;subst hA;exact ae some (decide_not ..).symm
def WZ(G:aH B)(cy:10<aO.length)(I:aO[2]?=some (some (.d (eG B)))):∀{seen:aa}{dm acc:List It}{D:aI},Kw [4,5,6,8,9,10] aO D->D[8]?=some (some (.d (kl (acc++dm))))->D[9]?=some (some (.d (i6 (acc++dm))))->D[10]?=some (some (.d (.int (acc.flatMap cQ).length)))->mu B seen dm<=m->acc.length+m<=900->(∀i∈acc++dm,ct i)->(∀X,256<=X->(X∈seen↔X∈acc.flatMap cQ))->
  (∀v,Kw [4,5,6,8,9,10] aO v->v[8]?=some (some (.d (kl (acc++cl B m seen dm))))->v[9]?=some (some (.d (i6 (acc++cl B m seen dm))))->gb (gV (bP F (fv (nS mI 6))) (bo F uj)) D s=some (.next,v,s)->Gl)->Gl:=by
 have c6:∀{acc:List It}{D:aI},D[9]?=some (some (.d (i6 (acc++[]))))->D[10]?=some (some (.d (.int (acc.flatMap cQ).length)))->gb (gV (bP F (fv (nS mI 6))) (bo F uj)) D s=some (.next,D,s):=λh9 cH=>tU ((Jv h9 cH).trans (by rw [append_nil,decide_eq_false (Nat.lt_irrefl _)]));induction m with
 |zero=>
  intro seen dm acc D kw h8 h9 cH hm hl hL hs K;obtain rfl:=AI hm;exact K D kw h8 h9 (c6 h9 cH)
 |succ m ih=>
  intro seen dm acc D kw h8 h9 cH hm hl hL hs K;cases dm with
  |nil=>exact K D kw h8 h9 (c6 h9 cH)
  |cons i r=>
   have hi:=hL i (cj _ (.head _));have er:∀t:List It,acc++i::t=(acc++[i])++t:=λt=>(append_assoc acc [i] t).symm;have kY:(acc++[i]).length+m<=900:=by rw [length_append,length_singleton,Nat.add_assoc,Nat.add_comm 1];exact hl
   have kN:(acc++[i]).flatMap cQ=acc.flatMap cQ++cQ i:=by rw [List.flatMap_append,List.flatMap_singleton]
   by_cases c0:nx i=0
   ·rw [(BY hi).trans (if_pos c0),append_nil] at kN
    rw [lY,if_neg (by rw [c0];exact λq=>aj q.1 (by decide)),er] at K;rw [er] at h8 h9 hL;exact ih kw h8 h9 (kN▸cH) (nq hm) kY hL (kN▸hs) K
   ·have H:cQ i=[nx i]:=(BY hi).trans (bK c0)
    rw [H] at kN;have hA:(acc++i::r).flatMap cQ=acc.flatMap cQ++(nx i::r.flatMap cQ):=by rw [List.flatMap_append,flatMap_cons,H];rfl
    have hk:((acc++i::r).flatMap cQ)[(acc.flatMap cQ).length]?=some (nx i):=by rw [hA,getElem?_append_right (Nat.le_refl _),sub_self];rfl
    have ht:=(Jv (F:=F) (s:=s) h9 cH).trans (ae (λb=>some (b,s)) (fj (fB.mp hk).1));have et:=WY (F:=F) (s:=s) h9 cH hk (hA▸take_left);have W0:(acc.flatMap cQ).length+1=((acc++[i]).flatMap cQ).length:=(kN▸length_append (bs:=[nx i])).symm;have key:∀(sn:aa)(td:List It)(v1:aI),mu B sn td<=m->Kw [4,5,6,8,9,10] aO v1->v1[8]?=some (some (.d (kl (acc++i::td))))->v1[9]?=some (some (.d (i6 (acc++i::td))))->v1[10]?=some (some (.d (.int (acc.flatMap cQ).length)))->ex F (nS uj 0) D s=some (.next,v1,s)->cl B (m+1) seen (i::r)=i::cl B m sn td->(∀j∈acc++i::td,ct j)->(∀X,256<=X->(X∈sn↔X∈acc.flatMap cQ++[nx i]))->Gl:=by
     intro sn td v1 q1 ff q8 q9 W1 q2 q3 q4 q5;rw [q3,er] at K;rw [er] at q8 q9 q4;exact ih (c8 ff) (aN q8) (aN q9) (W0▸bT (c7 ff cy)) q1 kY q4 (kN▸q5) λv kv k8 k9 e=>K v kv k8 k9 (tT ht (sq q2 (sq (IL W1) rfl)) e)
    by_cases c:256<=nx i/\nx i∉seen
    ·have c2:nx i∉acc.flatMap cQ:=λq=>c.2 ((hs _ c.1).mpr q)
     rw [decide_eq_true c.1,decide_eq_true c2] at et;have Jw:(acc++i::r)++cz B (nx i)=acc++i::(r++cz B (nx i)):=append_assoc ..;refine WX (F:=F) (s:=s) (c7 kw cy) cH (R:=B) gv h8 h9 G.ok hk (af (eI (length_append ..▸af (dc (af (bz _ _) hm) _) hl) G.len) (by decide)) λv1 fU k8 k9 e1=>?_;rw [Jw] at k8 k9;refine key (nx i::seen) (r++cz B (nx i)) v1 (np hm c.2) (iY kw fU (by decide)) k8 k9 (be fU cH) (ic et (sq (k6 (l:=(B.map dY,none)) (V:=s) (fH (ag (be kw I)) rfl) e1) rfl)) (by rw [lY,if_pos c]) (Jw▸λj hj=>(bD.mp hj).elim (hL j) λhj=>(qT G hj).1) λX hX=>?_;rw [mem_cons,mem_append,mem_singleton,hs X hX];exact Or.comm
    ·have ef:(decide (256<=nx i)&&decide (nx i∉acc.flatMap cQ))=false:=eq_false_iff.mpr λq=>c ⟨cm ((and_eq_true _ _).mp q).1,λz=>cm ((and_eq_true _ _).mp q).2 ((hs _ (cm ((and_eq_true _ _).mp q).1)).mp z)⟩
     rw [ef] at et;refine key seen r D (nq hm) kw h8 h9 cH (gN et rfl) (by rw [lY,if_neg c]) hL λX hX=>?_;rw [mem_append,mem_singleton,hs X hX];exact ⟨.inl,λq=>q.elim id λq=>q▸(hs _ (q▸hX)).mp (Classical.byContradiction λz=>c ⟨q▸hX,z⟩)⟩
def W2{L:List It}(h:∀i∈L,ct i):L.flatMap cQ=(L.map nx).filter (· !=0):=by
 induction L with
 |nil=>rfl
 |cons i L ih=>
  have ih:=ih λj hj=>h j (.tail _ hj);rw [flatMap_cons,ih,map_cons,BY (h i (.head _))];by_cases c:nx i=0
  ·rw [if_pos c,c];rfl
  ·rw [if_neg c,filter_cons_of_pos (by simpa using c)];rfl
theorem B7:∀l:List aa,bZ [] l=l.flatten
 |[]=>rfl
 |[a]=>(append_nil a).symm
 |a::b::l=>by
  rw [iJ,B7 (b::l),List.flatten_cons];rfl
theorem Jx:∀L:List It,rX (L.map ik)=some (L.map pr)
 |[]=>rfl
 |i::L=>by
  show (rX (L.map ik)).map _=_;rw [Jx L];rfl
def W3{L:List It}(h:L.length<64):qb (L.map ik)=some (.list (((L.map pr).mergeSort pZ).map λp=>.tup [.str p.1,.str p.2])):=by
 unfold qb;rw [if_pos (by rw [length_map];exact h),Jx]
 match L with
 |[]=>
  show some (ab.list ((([]:List aa).mergeSort pY).map .str))=some (ab.list ((([]:List (aa×aa)).mergeSort pZ).map _));rw [List.mergeSort_nil,List.mergeSort_nil];rfl
 |i::L=>rfl
def W4(P:aa):(dget [([],ab.list [.tup [.str [46,58,32,83],.str [256]]]),([256],.list [.tup [.str [46,46,58,32,83],.str []]])] P).getD (.list [])=.list ((jt P).map ik):=by
 unfold jt;by_cases H:P=[]
 ·subst H;rfl
 ·rw [if_neg H]
  by_cases I:P=[256]
  ·subst I;rfl
  ·rw [if_neg I]
   unfold dget;rw [find?_cons_of_neg (p:=λp:aa×ab=>p.1==P) (λq=>H (beq_iff_eq.mp q).symm),find?_cons_of_neg (p:=λp:aa×ab=>p.1==P) (λq=>I (beq_iff_eq.mp q).symm)];rfl
def Jy(G:aH B):(pd B P).length<=16:=by
 have B8:(jt P).length<=1:=by unfold jt;split;exact Nat.le_refl _;split<;>decide
 have h:∀R:List bk,(∀r∈R,hU r)->(R.flatMap (l4 B P)).length<=3*R.length:=by
  intro R;induction R with
  |nil=>exact λZ=>aD _
  |cons r R ih=>exact λhR=>af (iZ (Jq (hR r (.head _))) (ih λx hx=>hR x (.tail _ hx))) (cr (Nat.add_comm ..))
 exact af (iZ B8 (h B G.ok)) (dc (fO 3 G.len) 1)
def W5(L:List It):((L.map cQ).map List.length).sum<=L.length:=by
 induction L with
 |nil=>exact aD _
 |cons i L ih=>exact af (eI (Jr i) ih) (cr (Nat.add_comm ..))
def Jz(G:aH B)(hP:d9 P)(dg:s.Y 32=some (.dict al))(hw:∀k,0<k->k<=P.length->dget al (P.take (P.length - k))=some (.str (W B (P.take (P.length - k))))):
  (FQ (n+1)).fn 12 [.d (.str P),.ref 32,.d (eG B)] s=some (.d (.tup [kl (cU B (aL B P)),.str (W B P)]),s):=by
 have JA:=jK G hP;have JB:=Uf G hP;have hlen:(pd B P).length=(aL B P).length:=by
  have H:=ae List.length JB;rw [List.length_mergeSort,length_map,length_map] at H;exact H
 have nJ:(aL B P).length<=16:=hlen▸Jy G;have JC:((aL B P).map ik).length<=lim:=(length_map ..).symm▸af nJ (by decide);have B8:(jt P).length<=1:=by unfold jt;split;exact Nat.le_refl _;split<;>decide
 have e0:ex (FQ n) (nS mI 0) [some (.d (.str P)),some (.ref 32),some (.d (eG B)),none,none,none,none,none,none,none,none] ⟨s.Y,[]⟩=some (.next,[some (.d (.str P)),some (.ref 32),some (.d (eG B)),none,none,none,none,none,none,none,none].set 3 (some (.d (.list ((jt P).map ik)))),⟨s.Y,[]⟩):=by
  refine bI (gu (T:= "dict") (x:=.d (.dict [([],ab.list [.tup [.str [46,58,32,83],.str [256]]]),([256],.list [.tup [.str [46,46,58,32,83],.str []]])])) (V:=⟨s.Y,[]⟩) rfl rfl (aP (ag rfl) (aP (x:=.d (.list [])) (V:=⟨s.Y,[]⟩) rfl b9)) rfl ?_);exact ae (λd=>some (PV.d d,(⟨s.Y,[]⟩:ah))) (W4 P)
 refine (UK _ _ _).trans ?_;refine WS (F:=FQ n) (s:=⟨s.Y,[]⟩) (B:=B) (P:=P) dg hw (aO:=[some (.d (.str P)),some (.ref 32),some (.d (eG B)),none,none,none,none,none,none,none,none].set 3 (some (.d (.list ((jt P).map ik))))) (show 10<11 by decide) rfl rfl (R:=B) (acc:=jt P) gv rfl G.ok (af (eI B8 (fO 3 G.len)) (by decide)) λv1 fU oT e1=>?_;have l1:∀{k:Nat},k<11->k<v1.length:=λh=>c7 fU h;have a1:∀{k:Nat}{d:PV},k<3->[some (.d (.str P)),some (.ref 32),some (.d (eG B))][k]?=some (some d)->v1[k]?=some (some d):=λhk h=>be fU (aN ((getElem?_append_left (l₂:=[none,none,none,none,none,none,none,none]) (show _<3 from hk)).trans h) (cX hk)) λq=>aj hk (cg.mpr ((show∀k∈[3,4,5,6,7],3<=k by decide) _ q));have c3:(v1.set 3 (some (PV.d (.list ((aL B P).map ik)))))[3]?=some (some (.d (.list ((aL B P).map ik)))):=bT (l1 (by decide));refine WZ (F:=FQ n) (s:=⟨s.Y,[]⟩) (B:=B) G (aO:=(((v1.set 3 (some (.d (.list ((aL B P).map ik))))).set 8 (some (.d (kl (aL B P))))).set 9 (some (.d (i6 (aL B P))))).set 10 (some (.d (.int (0:Nat))))) (bH (bH (bH (bH (l1 (by decide)))))) (aN (aN (aN (aN (a1 (by decide) rfl))))) (m:=(aL B P).length+B.length) (seen:=[]) (dm:=aL B P) (acc:=[]) gv (aN (aN (bT (bH (l1 (by decide)))))) (aN (bT (bH (bH (l1 (by decide)))))) (bT (bH (bH (bH (l1 (by decide)))))) (qR _) (af (dc (eI nJ G.len) 0) (by decide)) JA.ok (λX Z=>⟨(λq=>nomatch q),λq=>nomatch q⟩) λv2 pE k8 k9 e2=>?_;have hW:i6 (cU B (aL B P))=.str (W B P):=ae ab.str (W2 (jr G JA).1);exact iI (D:=v2) (sq e0 (sq (k6 (l:=(B.map dY,none)) (V:=⟨s.Y,[]⟩) (fH (ag rfl) rfl) e1) (sq (bI (iH (ag oT) ((W3 (dZ (Jy G) (by decide))).trans (ae (λl=>some (ab.list l)) ((ae (List.map _) JB).trans (map_map ..)))))) (sq (bI (Eq.trans (gO (lk:=none) (fH (ag c3) rfl) JC ((kj (g:=λi=>ab.str (aM i)) λi Z=>gA (c:=true) rfl rfl λZ=>ag rfl).trans rfl)) (ae (λl=>some (PV.d (.list l),(⟨s.Y,[]⟩:ah))) (map_map (f:=aM) (g:=ab.str)).symm))) (sq (bI (Eq.trans (mf (aA:=[]) (x:=.d (.list ((aL B P).map λi=>ab.str (cQ i)))) (l:=(aL B P).map λi=>ab.str (cQ i)) (J:=(aL B P).map cQ) (V:=⟨s.Y,[]⟩) rfl (gO (lk:=none) (fH (ag (aN c3)) rfl) JC ((kj (g:=λi=>ab.str (cQ i)) λi Z=>gA (c:=true) rfl rfl λZ=>ag rfl).trans rfl)) rfl ((ae gm (map_map (f:=cQ) (g:=ab.str)).symm).trans (lf _)) (af (Nat.mul_le_mul_right 1 ((length_map ..).symm▸nJ)) (by decide)) (af (W5 _) (af nJ (by decide)))) (ae (λl=>some (PV.d (.str l),(⟨s.Y,[]⟩:ah))) (B7 _)))) (sq (bI (x:=.d (.int (0:Nat))) (V:=⟨s.Y,[]⟩) rfl) (sq (tW e2) (sr (fe (nE (ag k8) (ag (hW▸k9)))) rfl))))))))
end
section
variable(B:List bk)(w:Nat->Nat)
def ft(m a:Nat):aa->Nat:=match m with
 |1=>f1 w a
 |2=>f2 B w a
 |_=>f3 B w a
def bm(m a x:Nat):Nat:=if m=1 then bs w x a else 0
def tt(m x a:Nat):Nat:=bm w m a x+Sx B x (ft B w m a)
noncomputable def nN (f:aa->Nat):List bk->bJ->bJ
 |[],c=>c
 |r::R,c=>nN f R (dI c [r.1] (f r.2))
noncomputable def iN (m a:Nat):bJ:=if m=1 then [([w a],1)] else []
def SC(m a:Nat):bJ:=nN (ft B w m a) B (iN w m a)
def W6(m a:Nat):aa->Nat
 |[x]=>tt B w m x a
 |_=>0
end
section
def uk(x a:Nat):tt B w 2 x a=t2 B w x a:=Nat.zero_add _
def W7(x a:Nat):tt B w 3 x a=t3 B w x a:=Nat.zero_add _
noncomputable def ul (R:List bk) (P:aa) (f:aa->Nat):Nat:=(R.map λr=>if [r.1]=P then f r.2 else 0).sum
def W8(R:List bk)(x:Nat)(f:aa->Nat):ul R [x] f=Sx R x f:=by
 unfold ul Sx;refine ae List.sum (eR λr Z=>?_);by_cases e:r.1=x
 ·rw [if_pos e,if_pos (by rw [e])]
 ·rw [if_neg e,if_neg λq=>e (head_eq_of_cons_eq q)]
theorem JD(g:aa->Nat):∀{R:List bk}{c:bJ}{f:aa->Nat},dz c f->dz (nN g R c) λP=>f P+ul R P g
 |[],c,f,h=>h
 |r::R,c,f,h=>by
  have H:=JD g (R:=R) (h.add (g:=λP=>f P+if [r.1]=P then g r.2 else 0) λZ=>rfl);refine ⟨H.nd,λP=>?_⟩;have I:=H.val P;show cf (nN g R (dI c [r.1] (g r.2))) P=_;rw [I];show _=f P+((if [r.1]=P then g r.2 else 0)+ul R P g);rw [Nat.add_assoc]
def W9(h:∀p∈c,∃x,p.1=[x])(hP:P=[x]):∀p∈dI c P k,∃x,p.1=[x]:=by
 intro p hp;unfold dI at hp
 split at hp
 ·obtain ⟨p',a,rfl⟩:=bu.mp hp
  obtain ⟨y,hy⟩:=h p' a;exact ⟨y,by split<;>exact hy⟩
 ·rcases bD.mp hp with hp|hp
  ·exact h p hp
  ·rw [mem_singleton.mp hp];exact ⟨x,hP⟩
theorem JE(g:aa->Nat):∀{R:List bk}{c:bJ},(∀p∈c,∃x,p.1=[x])->∀p∈nN g R c,∃x,p.1=[x]
 |[],c,h=>h
 |r::R,c,h=>JE g (R:=R) (W9 h rfl)
theorem JF(g:aa->Nat):∀(R:List bk)(c:bJ),(nN g R c).length<=c.length+R.length
 |[],c=>aD _
 |r::R,c=>by
  have H:=JF g R (dI c [r.1] (g r.2));have I:=uh c [r.1] (g r.2);show (nN g R (dI c [r.1] (g r.2))).length<=c.length+(R.length+1);omega
def B9(m a:Nat):dz (iN w m a) λP=>match P with
  |[x]=>bm w m a x
  |_=>0:=by
 unfold iN bm;by_cases h:m=1
 ·rw [if_pos h]
  refine ⟨eS.mpr ⟨(λq=>aj q cp),nodup_nil⟩,λP=>?_⟩;unfold cf
  match P with
  |[]=>rfl
  |[x]=>
   show (([([w a],1)].find? λp=>p.1==[x]).map (·.2)).getD 0=if m=1 then bs w x a else 0
   rw [if_pos h];unfold bs;by_cases e:w a=x
   ·rw [if_pos e,find?_cons_of_pos (p:=λp:aa×Nat=>p.1==[x]) (beq_iff_eq.mpr (by rw [e]))];rfl
   ·rw [if_neg e,find?_cons_of_neg (p:=λp:aa×Nat=>p.1==[x]) λq=>e (head_eq_of_cons_eq (beq_iff_eq.mp q))];rfl
  |x::y::P=>
   show (([([w a],1)].find? λp=>p.1==x::y::P).map (·.2)).getD 0=0;rw [find?_cons_of_neg (p:=λp:aa×Nat=>p.1==x::y::P) λq=>nomatch (List.tail_eq_of_cons_eq (beq_iff_eq.mp q):([]:aa)=y::P)];rfl
 ·rw [if_neg h]
  refine ⟨nodup_nil,λP=>?_⟩
  match P with
  |[]=>rfl
  |[x]=>show 0=if m=1 then bs w x a else 0;rw [if_neg h]
  |x::y::P=>rfl
def W'(m a:Nat):∀p∈iN w m a,∃x,p.1=[x]:=by
 unfold iN
 split
 ·exact λp hp=>⟨w a,by rw [mem_singleton.mp hp]⟩
 ·exact λp hp=>aj hp cp
def JG(m a:Nat):(iN w m a).length<=1:=by
 unfold iN
 split
 ·exact aD _
 ·exact bN _
def xm(m a:Nat):dz (SC B w m a) (W6 B w m a):=by
 have h:=JD (ft B w m a) (R:=B) (B9 (w:=w) m a);refine ⟨h.nd,λP=>(h.val P).trans ?_⟩;have z:∀P:aa,(∀x,P≠[x])->ul B P (ft B w m a)=0:=λP hP=>l7 λk hk=>by
  obtain ⟨r,_,rfl⟩:=bu.mp hk;exact bK λq=>hP _ q.symm
 match P with
 |[]=>exact ae (0+·) (z [] λx q=>nomatch q)
 |[x]=>exact ae (bm w m a x+·) (W8 B x _)
 |x::y::P=>exact ae (0+·) (z (x::y::P) λZ q=>nomatch (List.tail_eq_of_cons_eq q:y::P=[]))
def xn(m a:Nat):∀p∈SC B w m a,∃x,p.1=[x]:=JE _ (W' m a)
def Ca(G:aH B)(m a:Nat):(SC B w m a).length<=6:=by
 have H:=JF (ft B w m a) B (iN w m a);have I:=JG (w:=w) m a;have h3:=G.len;exact af H (by omega)
def pF(m a x:Nat):cf (SC B w m a) [x]=tt B w m x a:=(xm m a).val [x]
theorem xp:∀{l:List α},(∀x∈l,f x<=k)->(l.map f).sum<=k*l.length
 |[],_=>bN _
 |x::l,h=>by
  have H:=h x (.head _);have I:=xp λy hy=>h y (.tail _ hy);rw [map_cons,sum_cons,length_cons,mul_add,Nat.mul_one];omega
def Cb(G:aH B)(h:∀r,f r<=k):Sx B x f<=5*k:=by
 have H:Sx B x f<=k*B.length:=xp λr Z=>by
  split
  ·exact h _
  ·exact bN _
 exact af H (Nat.mul_comm k 5▸fO k G.len)
def JH(x i:Nat):bs w x i<=1:=by unfold bs;split<;>decide
def Cc{P:aa->Prop}(h0:P [])(H:∀y,P [y])(I:∀y z,P [y,z])(h3:∀y z u,P [y,z,u])(h4:∀y z u v l,P (y::z::u::v::l)):∀r,P r
 |[]=>h0
 |[y]=>H y
 |[y,z]=>I y z
 |[y,z,u]=>h3 y z u
 |y::z::u::v::l=>h4 y z u v l
def lm(G:aH B)(x i:Nat):t1 B w x i<=6:=eI (b:=1) (d:=5) (JH x i) (Cb (k:=1) G (Cc (P:=λr=>f1 w i r<=1) (bN _) (λy=>JH y i) (λZ Z=>bN _) (λZ Z Z=>bN _) λZ Z Z Z Z=>bN _))
def xq(G:aH B)(x i:Nat):t2 B w x i<=180:=Cb G (Cc (P:=λr=>f2 B w i r<=36) (bN _) (λZ=>bN _) (λZ Z=>mul_le_mul (lm G _ _) (lm G _ _)) (λZ Z Z=>bN _) λZ Z Z Z Z=>bN _)
def JI(G:aH B)(x i:Nat):t3 B w x i<=10800:=Cb (k:=2160) G (Cc (bN _) (λZ=>bN _) (λZ Z=>eI (mul_le_mul (lm G _ _) (xq G _ _)) (mul_le_mul (xq G _ _) (lm G _ _))) (λZ Z Z=>af (mul_le_mul (mul_le_mul (lm G _ _) (lm G _ _)) (lm G _ _)) (by decide)) λZ Z Z Z Z=>bN _)
def Cd(G:aH B)(m x a:Nat):tt B w m x a<=10800:=match m with
 |0=>af (cr (Nat.zero_add (t3 B w x a))) (JI G x a)
 |1=>af (lm G x a) (by decide)
 |2=>uk x a▸af (xq G x a) (by decide)
 |_+3=>af (cr (Nat.zero_add (t3 B w x a))) (JI G x a)
def xr(G:aH B)(m x a:Nat):tt B w m x a<2 ^ 30:=dZ (Cd G m x a) (by decide)
def TW(B:List bk)(w:Nat->Nat)(y z a b:Nat):Nat:=((List.range (b - (a+1))).map λi=>tt B w (a+1+i - a) y a*tt B w (b - (a+1+i)) z (a+1+i)).sum
def Xa(G:aH B)(hb:b<=3):TW B w y z a b<2 ^ 30:=dZ (af (xp λi Z=>mul_le_mul (Cd G _ _ _) (Cd G _ _ _)) (fO (10800*10800) (af (cr length_range) (af (sub_le ..) hb)))) (show 10800*10800*3<2 ^ 30 by decide)
def Xb(hm:0<m)(ha:a+m<=3)(y z:Nat):TW B w y z a (a+m)=ft B w m a [y,z]:=
 mv (P:=λm=>0<m->∀a,a+m<=3->TW B w y z a (a+m)=ft B w m a [y,z]) (λh=>aj h (dK 0))
  (λZ a Z=>by unfold TW;rw [sub_self];rfl)
  (λZ a h=>xT (P:=λa=>TW B w y z a (a+2)=ft B w 2 a [y,z]) rfl rfl (Nat.le_of_succ_le_succ h))
  (λZ a h=>CU (P:=λa=>TW B w y z a (a+3)=ft B w 3 a [y,z]) (by
   show tt B w 1 y 0*tt B w 2 z 1+(tt B w 2 y 0*tt B w 1 z 2+0)=t1 B w y 0*t2 B w z 1+t2 B w y 0*t1 B w z 2;rw [uk,uk,Nat.add_zero];rfl) (Nat.le_of_succ_le_succ (Nat.le_of_succ_le_succ h)))
  (lt_succ_of_le (af (le_add_left ..) ha)) hm a ha
section
def JJ(G:aH B)(hb:b<=3)(xt:a<b)(sub:∀a' b',a<=a'->a'<b'->b'<=b->b' - a'<b - a->fA s.Y (SC B w (b' - a') a') a' b'):(FQ (n+2)).fn 11 [.d (.str [y,z]),.d (.int a),.d (.int b),.ref 30] s=some (.d (.int (TW B w y z a b)),s):=by
 have h:=Jh (n:=n) (ys:=[y]) (z:=z) (c:=λi=>SC B w (b - (a+1+i)) (a+1+i)) (cons_ne_nil _ _) (af xt (af hb (by decide))) hb λi hi=>by
  have cF:=Nat.add_lt_of_lt_sub' hi;have xu:a<a+1+i:=bx (lt_succ_self a) (bz ..);exact ⟨(Je (s:=⟨s.Y,[]⟩) (sub a (a+1+i) (aD _) xu (Nat.le_of_lt cF) (Nat.sub_lt_sub_right (Nat.le_of_lt xu) cF)) (af (Nat.le_of_lt xt) hb)).trans (by rw [pF]),sub _ _ (Nat.le_of_lt xu) cF (aD _) (Nat.sub_lt_sub_left xt xu),xr G _ _ _,pF ..▸xr G _ _ _⟩
 refine h.trans (ae (λk:Nat=>some (PV.d (.int k),s)) (ae List.sum (eR λi Z=>?_)));rw [pF]
def Xc(G:aH B)(hm:0<m)(ha:a+m<=3)(hh:fA s.Y here a (a+m))(hy:∀y,y<256->cf here [y]=bm w m a y)(sub:∀a' b',a<=a'->a'<b'->b'<=a+m->b' - a'<m->fA s.Y (SC B w (b' - a') a') a' b')(hr:r∈B):
  (FQ (n+3)).fn 11 [.d (.str r.2),.d (.int a),.d (.int (a+m:Nat)),.ref 30] s=some (.d (.int (ft B w m a r.2)),s):=by
 obtain ⟨x,r⟩:=r;have Xd:=add_sub_cancel_left a m;have Ce:=lt_succ_of_le (af (le_add_left ..) ha);rcases wM G hr with ⟨y,rfl,lV⟩|⟨y,z,rfl⟩|⟨y,z,u,rfl⟩
 ·refine (Je hh (af (bz ..) ha)).trans (ae (λk:Nat=>some (PV.d (.int k),s)) ((hy y lV).trans ?_))
  exact mv (P:=λm=>0<m->bm w m a y=ft B w m a [y]) (λh=>aj h (dK 0)) (λZ=>rfl) (λZ=>rfl) (λZ=>rfl) Ce hm
 ·exact (JJ G ha (Nat.lt_add_of_pos_right hm) λa' b' H I h3 h4=>sub a' b' H I h3 (Xd▸h4)).trans (ae (λk:Nat=>some (PV.d (.int k),s)) (Xb hm ha y z))
 ·have h:=Jh (n:=n+1) (s:=s) (ys:=[y,z]) (z:=u) (a:=a) (b:=a+m) (v:=λi=>TW B w y z a (a+2+i)) (c:=λi=>SC B w (a+m - (a+2+i)) (a+2+i)) (cons_ne_nil _ _) (show a+2<=100 from af (dN (af (bz ..) ha) 2) (by decide)) ha
  by_cases h3:m=3
  ·subst h3
   obtain rfl:a=0:=le_zero.mp (Nat.le_of_add_le_add_right ha);have h:=h λi hi=>by
    obtain rfl:i=0:=lt_one_iff.mp hi;exact ⟨JJ (n:=n) (s:=⟨s.Y,[]⟩) G (a:=0) (b:=2) (by decide) (by decide) λa' b' H I h3 h4=>sub a' b' H I (af h3 (by decide)) (lt_succ_of_lt h4),sub 2 3 (by decide) (by decide) (by decide) (by decide),Xa G (b:=2) (by decide),pF (B:=B) (w:=w) 1 2 u▸xr G _ _ _⟩
   refine h.trans (ae (λk:Nat=>some (PV.d (.int k),s)) ?_);show (tt B w 1 y 0*tt B w 1 z 1+0)*cf (SC B w 1 2) [u]+0=t1 B w y 0*t1 B w z 1*t1 B w u 2;rw [pF];rfl
  ·have h0:a+m - (a+2)=0:=Nat.sub_eq_zero_of_le (dc (le_of_lt_succ (Nat.lt_of_le_of_ne (le_of_lt_succ Ce) h3)) a)
   have h:=h λi hi=>aj hi (show¬i<a+m - (a+2) from h0▸Nat.not_lt_zero i);refine h.trans (ae (λk:Nat=>some (PV.d (.int k),s)) ?_);show ((List.range (a+m - (a+2))).map _).sum=_;rw [h0];exact mv (P:=λm=>0<m->m≠3->0=ft B w m a [y,z,u]) (λh=>aj h (dK 0)) (λZ Z=>rfl) (λZ Z=>rfl) (λZ h=>aj rfl h) Ce hm h3
end
end
def um:List PS:=fL (nS (fL (nS qi 1)) 0)
def JK:List PS:=fL (nS um 2)
noncomputable def gS (a m:Nat):Nat:=100+(8*a+(a+m))
def rF{a m k:Nat}(h:k<100):k≠gS a m:=cX (bx h (bz 100 _))
section
variable{p q:Pos}{Gl:Prop}
def jR{Y:Nat->Option aV}{k j:Nat}{o:Option aV}(h:j≠k):ak Y k o j=Y j:=bK h
def JL(h:(c.map (·.1)).Nodup)(P:aa)(k:Nat):((dI c P k).map (·.1)).Nodup:=(dz.add ⟨h,λZ=>rfl⟩ λZ=>rfl).nd
def fA.put{Y:Nat->Option aV}{c:bJ}{a b k:Nat}{o:Option aV}(h:fA Y c a b)(H:k≠30)(I:k≠100+(8*a+b)):fA (ak Y k o) c a b:=h.imp λZ h=>⟨(jR (Ne.symm H)).trans h.1,h.2.1,(jR (Ne.symm I)).trans h.2.2⟩
def fA.self{a m:Nat}(h:fA Y c a (a+m)):fA (ak Y (gS a m) (some (.dict (cD c')))) c' a (a+m):=h.imp λZ h=>⟨(jR (rF (by decide))).trans h.1,h.2.1,ie⟩
def JM{a m a' b':Nat}(hm:a+m<=3)(H:a<=a')(I:a'<b')(h3:b' - a'<m):gS a m≠100+(8*a'+b'):=by
 unfold gS;lia
def Xe(G:aH B){m a:Nat}{r:bk}(hm:0<m)(ha:a+m<=3)(I:D[2]?=some (some (.ref 30)))(h6:D[6]?=some (some (.d (.int m))))(h7:D[7]?=some (some (.d (.int a))))(h8:D[8]?=some (some (.ref (gS a m))))(h9:D[9]?=some (some (.d (.str [r.1]))))(cH:D[10]?=some (some (.d (.str r.2))))(hr:r∈B)(hn:(cc.map (·.1)).Nodup)(h:fA s.Y cc a (a+m))(hy:∀y,y<256->cf cc [y]=bm w m a y)(sub:∀a' b',a<=a'->a'<b'->b'<=a+m->b' - a'<m->fA s.Y (SC B w (b' - a') a') a' b')(hl:cc.length+1<=lim):
  bo (FQ (n+3)) JK D s=some (.next,D,s.put (gS a m) (.dict (cD (dI cc [r.1] (ft B w m a r.2))))):=
 sq (BV hn h8 h.choose_spec.2.2 (ag h9) (f5 (aP (ag cH) (aP (ag h7) (aP (iM (ag h7) (ag h6)) (aP (ag I) b9)))) (Xc G hm ha h hy sub hr)) (ag h9) hl) rfl
def Xf(G:aH B){m a:Nat}(hm:0<m)(ha:a+m<=3)(cy:11<aO.length)(I:aO[2]?=some (some (.ref 30)))(h6:aO[6]?=some (some (.d (.int m))))(h7:aO[7]?=some (some (.d (.int a))))(h8:aO[8]?=some (some (.ref (gS a m)))){R:List bk}:∀{cc:bJ}{D:aI}{s:ah},Kw [9,10,11] aO D->(∀r∈R,r∈B)->(cc.map (·.1)).Nodup->fA s.Y cc a (a+m)->(∀y,y<256->cf cc [y]=bm w m a y)->(∀a' b',a<=a'->a'<b'->b'<=a+m->b' - a'<m->fA s.Y (SC B w (b' - a') a') a' b')->cc.length+R.length<=100->
  (∀v,Kw [9,10,11] aO v->dD (lb (FQ (n+3)) [9,10,11] JK) (R.map dY) D s=some (.next,v,s.put (gS a m) (.dict (cD (nN (ft B w m a) R cc))))->Gl)->Gl:=by
 induction R with
 |nil=>exact λkw Z Z h Z Z Z K=>K _ kw (ae (λt=>some (Fl.next,_,t)) (jM h.choose_spec.2.2).symm)
 |cons r R ih=>
  intro cc D s kw hR hn h hy sub hl K;have bp:Kw [9,10,11] aO (((D.set 9 (some (.d (.str [r.1])))).set 10 (some (.d (.str r.2)))).set 11 (some (.d (.str (bC r.2))))):=c8 (c8 (c8 kw));have hr:=hR r (.head _);have hc:cc.length+1+R.length<=100:=by rw [Nat.add_assoc,Nat.add_comm 1];exact hl
  refine ih bp (λx hx=>hR x (.tail _ hx)) (JL hn [r.1] (ft B w m a r.2)) h.self (λy lV=>?_) (λa' b' z1 z2 z3 z4=>(sub a' b' z1 z2 z3 z4).put (Ne.symm (rF (by decide))) (JM ha z1 z2 z4)) (af (dN (uh ..) _) hc) λv kv e=>K v kv (fu rfl (Xe G hm ha (be bp I) (be bp h6) (be bp h7) (be bp h8) (aN (aN (bT (c7 kw (dJ (by decide) cy))))) (aN (bT (bH (c7 kw (dJ (by decide) cy))))) hr hn h hy sub (af (af (bz _ _) hc) (by decide))) (e.trans (ae (λt=>some (Fl.next,v,t)) gy)));refine (I' ..).trans ((ae (cf cc [y]+·) (bK λq=>?_)).trans (hy y lV));have:=(G.ok _ hr).left;rw [head_eq_of_cons_eq q] at this;exact aj lV (by lia)
noncomputable def cR (p:Nat×Nat):Nat:=8*p.1+(p.1+p.2)
def eH(p:Nat×Nat):Prop:=0<p.2/\p.1+p.2<=3
def JN{p q:Nat×Nat}(hp:eH p)(hq:eH q)(h:cR p=cR q):p=q:=by
 unfold cR at h;unfold eH at hp hq;exact Prod.ext (by lia) (by lia)
def mj(l:List (Nat×Nat)):List (Int×Nat):=l.map λp=>((cR p:Nat),100+cR p)
def laid(B:List bk)(w:Nat->Nat)(Y:Nat->Option aV)(l:List (Nat×Nat)):Nat->Option aV:=λk=>if k=30 then some (.tab (mj l)) else match l.find? (λp=>100+cR p==k) with
 |some p=>some (.dict (cD (SC B w p.2 p.1)))
 |none=>Y k
theorem un{p:Nat×Nat}(hp:eH p):∀{l:List (Nat×Nat)},(∀q∈l,eH q)->ky (mj l) ((cR p:Nat):Int)=if p∈l then some (100+cR p) else none
 |[],_=>rfl
 |q::l,h=>by
  have ih:=un hp λr hr=>h r (.tail _ hr);unfold ky at ih⊢;by_cases e:q=p
  ·subst e
   rw [if_pos (.head _),show mj (q::l)=(((cR q:Nat):Int),100+cR q)::mj l from rfl,find?_cons_of_pos (p:=λx:Int×Nat=>x.1==((cR q:Nat):Int)) (beq_self_eq_true _)];rfl
  ·have ix:¬((cR q:Nat):Int)=((cR p:Nat):Int):=λz=>e (JN (h q (.head _)) hp (by lia))
   rw [show mj (q::l)=(((cR q:Nat):Int),100+cR q)::mj l from rfl,find?_cons_of_neg (p:=λx:Int×Nat=>x.1==((cR p:Nat):Int)) (λz=>ix (beq_iff_eq.mp z)),ih];by_cases c:p∈l
   ·rw [if_pos c,if_pos (.tail _ c)]
   ·rw [if_neg c,if_neg λz=>(mem_cons.mp z).elim (λz=>e z.symm) c]
theorem xv{p:Nat×Nat}(hp:eH p):∀{l:List (Nat×Nat)},(∀q∈l,eH q)->l.find? (λq=>100+cR q==100+cR p)=if p∈l then some p else none
 |[],_=>rfl
 |q::l,h=>by
  have ih:=xv hp λr hr=>h r (.tail _ hr);by_cases e:q=p
  ·subst e
   rw [if_pos (.head _),find?_cons_of_pos (by exact beq_self_eq_true _)]
  ·rw [find?_cons_of_neg (p:=λq:Nat×Nat=>100+cR q==100+cR p) (λz=>e (JN (h q (.head _)) hp (Nat.add_left_cancel (beq_iff_eq.mp z)))),ih]
   by_cases c:p∈l
   ·rw [if_pos c,if_pos (.tail _ c)]
   ·rw [if_neg c,if_neg λz=>(mem_cons.mp z).elim (λz=>e z.symm) c]
def JO{Y:Nat->Option aV}{l:List (Nat×Nat)}(h:∀q∈l,eH q){a b:Nat}(xt:a<b)(hp:(a,b - a)∈l):fA (laid B w Y l) (SC B w (b - a) a) a b:=by
 have e:cR (a,b - a)=8*a+b:=by show 8*a+(a+(b - a))=_;lia
 refine ⟨mj l,rfl,?_,?_⟩
 ·rw [<-e,un (h _ hp) h,if_pos hp]
 ·rw [<-e]
  show (if 100+cR (a,b - a)=30 then _ else match l.find? (λp=>100+cR p==100+cR (a,b - a)) with|some p=>some (aV.dict (cD (SC B w p.2 p.1)))|none=>Y _)=_;rw [if_neg ((Nat.ne_of_gt (Nat.le_trans (by decide:31<=100) (Nat.le_add_right _ _)))),xv (h _ hp) h,if_pos hp]
def xw(h:k≠30)(H:k<100):laid B w Y l k=Y k:=by
 show (if k=30 then _ else match l.find? (λp=>100+cR p==k) with|some p=>some (aV.dict (cD (SC B w p.2 p.1)))|none=>Y k)=_;rw [if_neg h,find?_eq_none.mpr λp Z z=>by
  have:=beq_iff_eq.mp z;exact (Nat.lt_irrefl _ (Nat.lt_of_lt_of_le (Nat.le_trans H (Nat.le_add_right _ _)) (Nat.le_of_eq this)))]
def Xg(h:∀q∈l,eH q){a m:Nat}(hp:eH (a,m))(hn:(a,m)∉l):ak (ak (ak (laid B w Y l) (gS a m) o) 30 (some (.tab (mj (l++[(a,m)]))))) (gS a m) (some (.dict (cD (SC B w m a))))=laid B w Y (l++[(a,m)]):=by
 have hg:gS a m=100+cR (a,m):=rfl
 funext j
 show (if j=gS a m then _ else if j=30 then _ else if j=gS a m then _ else laid B w Y l j)=if j=30 then _ else match (l++[(a,m)]).find? (λp=>100+cR p==j) with|some p=>some (aV.dict (cD (SC B w p.2 p.1)))|none=>Y j
 rw [List.find?_append];by_cases e:j=gS a m
 ·have pG:j≠30:=by rw [e];unfold gS;exact (Nat.ne_of_gt (Nat.le_trans (by decide:31<=100) (Nat.le_add_right _ _)))
  rw [if_pos e,if_neg pG,e,hg,xv hp h,if_neg hn];show _=match [(a,m)].find? (λp=>100+cR p==100+cR (a,m)) with|some p=>some (aV.dict (cD (SC B w p.2 p.1)))|none=>_
  rw [find?_cons_of_pos (by exact beq_self_eq_true _)]
 ·rw [if_neg e]
  by_cases pG:j=30
  ·rw [if_pos pG,if_pos pG]
  ·rw [if_neg pG,if_neg pG,if_neg e]
   show (if j=30 then _ else match l.find? (λp=>100+cR p==j) with|some p=>some (aV.dict (cD (SC B w p.2 p.1)))|none=>Y j)=_;rw [if_neg pG];cases l.find? (λp=>100+cR p==j) with
   |some p=>rfl
   |none=>
    show Y j=match [(a,m)].find? (λp=>100+cR p==j) with|some p=>some (aV.dict (cD (SC B w p.2 p.1)))|none=>Y j
    rw [find?_cons_of_neg (p:=λp:Nat×Nat=>100+cR p==j) (λz=>e ((beq_iff_eq.mp z).symm.trans hg.symm))];rfl
def Xi{a m:Nat}(h7:D[7]?=some (some (.d (.int a))))(h6:D[6]?=some (some (.d (.int m)))):yd (some (.lin 7 6)) D=some (some (gS a m)):=by
 show (((D[7]?).join.bind dn).bind λa=>((D[6]?).join.bind dn).map λb=>100+(9*a+b).toNat).map some=_;rw [h7,h6];refine ae (λk=>some (some k)) ?_;unfold gS;lia
def JP{a m:Nat}{es:List PE}{l:List (aa×ab)}(h7:D[7]?=some (some (.d (.int a))))(h6:D[6]?=some (some (.d (.int m))))(Xj:r5 F es D s=some (l,s))(hd:uM l=true)(hn:s.Y (gS a m)=none):ev F (.dct (some (.lin 7 6)) es p) D s=some (.ref (gS a m),⟨ak s.Y (gS a m) (some (.dict l)),gS a m::s.own⟩):=by
 show (yd (some (.lin 7 6)) D).bind _=_;rw [Xi h7 h6];refine (au Xj).trans ((bv hd).trans ?_);exact gf hn
def Xk{j:Nat}{ts:List (Int×Nat)}{k:Int}{g:Nat}{o z:PE}(H:ev F e D s=some (.ref g,s))(I:ev F o D s=some (.ref j,s))(h3:ev F z D s=some (.d (.int k),s))(hs:s.Y j=some (.tab ts))(hl:ts.length+1<=lim/\j∈s.own/\100<=g):ex F (.setI o z e q p) D s=some (.next,D,s.put j (.tab (lB ts k g))):=by
 refine (au H).trans ((au I).trans ((au h3).trans ?_));show ((rV s j).bind _).bind _=_;rw [DF hs];show ((if ts.length+1<=lim/\j∈s.own/\100<=g then some (s.put j (.tab (lB ts k g))) else none).bind _)=_;rw [if_pos hl];rfl
def Xl{ts:List (Int×Nat)}{k:Int}{g:Nat}(h:ky ts k=none):lB ts k g=ts++[(k,g)]:=by
 unfold lB;rw [if_neg];intro q;refine bt (any_eq_true.mp q) λp hp q=>?_;unfold ky at h;have h:=Option.map_eq_none_iff.mp h;exact find?_eq_none.mp h p hp q
def Xm{m a:Nat}{wl:aa}(h0:D[0]?=some (some (.d (.str wl))))(h6:D[6]?=some (some (.d (.int m))))(h7:D[7]?=some (some (.d (.int a))))(rD:wl[a]?=some (w a))(hf:s.Y (gS a m)=none):ex F (nS um 0) D s=some (.next,D.set 8 (some (.ref (gS a m))),⟨ak s.Y (gS a m) (some (.dict (cD (iN w m a)))),gS a m::s.own⟩):=by
 refine bI (Eq.trans (qK (cT (ag h6) ju Jd)) ?_);unfold iN;by_cases c:m=1
 ·rw [decide_eq_true c,if_pos c]
  exact JP (p:=default) h7 h6 ((au (ll (ag h0) (ag h7) rD)).trans rfl) rfl hf
 ·rw [decide_eq_false c,if_neg c]
  exact JP (p:=default) h7 h6 rfl rfl hf
def Xn{Y:Nat->Option aV}{l:List (Nat×Nat)}{a m:Nat}(hp:eH (a,m))(hL:∀q∈l,eH q)(hn:(a,m)∉l)(de:Y (gS a m)=none):laid B w Y l (gS a m)=none:=by
 show (if 100+cR (a,m)=30 then _ else match l.find? (λp=>100+cR p==100+cR (a,m)) with|some p=>some (aV.dict (cD (SC B w p.2 p.1)))|none=>Y (gS a m))=_;rw [if_neg (show¬100+cR (a,m)=30 from Ne.symm (rF (by decide))),xv hp hL,if_neg hn];exact de
def xy(B:List bk)(w:Nat->Nat)(Y:Nat->Option aV)(l:List (Nat×Nat))(a m:Nat):Nat->Option aV:=ak (ak (laid B w Y l) (gS a m) (some (.dict (cD (iN w m a))))) 30 (some (.tab (mj (l++[(a,m)]))))
def Cf{l:List (Nat×Nat)}{x:Nat×Nat}(hL:∀q∈l,eH q)(hp:eH x):∀q∈l++[x],eH q:=λq hq=>(bD.mp hq).elim (hL q) λz=>cC.mp z▸hp
def Xo{Y:Nat->Option aV}{l:List (Nat×Nat)}{a m:Nat}(hp:eH (a,m))(hL:∀q∈l,eH q):fA (xy B w Y l a m) (iN w m a) a (a+m):=⟨_,ie,(un hp (Cf hL hp)).trans (bv (cj _ (.head _))),(jR (Ne.symm (rF (by decide)))).trans ie⟩
def Xp{Y:Nat->Option aV}{l:List (Nat×Nat)}{a m a' b':Nat}(hp:eH (a,m))(hL:∀q∈l,eH q)(H:a<=a')(I:a'<b')(h4:b' - a'<m)(cA:(a',b' - a')∈l):fA (xy B w Y l a m) (SC B w (b' - a') a') a' b':=by
 have e:=ae (8*a'+·) (add_sub_cancel' (Nat.le_of_lt I));exact ⟨_,ie,e▸(un (hL _ cA) (Cf hL hp)).trans (bv (cE _ cA)),(jR (Ne.symm (cX (bx (show 30<100 by decide) (bz 100 _))))).trans ((JO hL I cA).put (Ne.symm (rF (by decide))) (JM hp.2 H I h4)).choose_spec.2.2⟩
def Xq{Y:Nat->Option aV}{l:List (Nat×Nat)}{own:aa}{m a:Nat}(hp:eH (a,m))(hL:∀q∈l,eH q)(hn:(a,m)∉l)(c9:30∈own)(hl:l.length+1<=lim)(I:D[2]?=some (some (.ref 30)))(h6:D[6]?=some (some (.d (.int m))))(h7:D[7]?=some (some (.d (.int a))))(h8:D[8]?=some (some (.ref (gS a m)))):ex F (nS um 1) D ⟨ak (laid B w Y l) (gS a m) (some (.dict (cD (iN w m a)))),own⟩=some (.next,D,⟨xy B w Y l a m,own⟩):=by
 have h:=(un hp hL).trans (bK hn);have ek:9*a+m=cR (a,m):=by show _=8*a+(a+m);lia
 refine Eq.trans (Xk (ag h8) (ag I) (ek▸iM (ui (by decide) (dZ (af (bz _ _) hp.2) (by decide)) rfl (ag h7)) (ag h6)) (jR (rF (by decide))) ⟨(length_map ..).symm▸hl,c9,bz 100 _⟩) (ae (λts=>some (Fl.next,D,(⟨ak (ak (laid B w Y l) (gS a m) (some (.dict (cD (iN w m a))))) 30 (some (.tab ts)),own⟩:ah))) ?_);exact (Xl h).trans (map_append (l₂:=[(a,m)])).symm
def Xr(G:aH B){wl:aa}{m a:Nat}(hp:eH (a,m))(rD:wl[a]?=some (w a)){Y:Nat->Option aV}{l:List (Nat×Nat)}{own:aa}(hL:∀q∈l,eH q)(hn:(a,m)∉l)(de:Y (gS a m)=none)(c9:30∈own)(hl:l.length<=10)(sub:∀a' b',a<=a'->a'<b'->b'<=a+m->b' - a'<m->(a',b' - a')∈l)(cy:11<D.length)(h0:D[0]?=some (some (.d (.str wl))))(H:D[1]?=some (some (.d (eG B))))(I:D[2]?=some (some (.ref 30)))(h6:D[6]?=some (some (.d (.int m))))(h7:D[7]?=some (some (.d (.int a))))
  (K:∀v,Kw [9,10,11] (D.set 8 (some (.ref (gS a m)))) v->bo (FQ (n+3)) um D ⟨laid B w Y l,own⟩=some (.next,v,⟨laid B w Y (l++[(a,m)]),gS a m::own⟩)->Gl):Gl:=by
 have k8:(D.set 8 (some (PV.ref (gS a m))))[8]?=some (some (.ref (gS a m))):=bT (dJ (by decide) cy);refine Xf (n:=n) G hp.1 hp.2 (bH cy) (aN I) (aN h6) (aN h7) k8 (R:=B) (cc:=iN w m a) (s:=⟨xy B w Y l a m,gS a m::own⟩) gv (λr hr=>hr) (B9 m a).nd (Xo hp hL) (λy Z=>(B9 m a).val [y]) (λa' b' z1 z2 z3 z4=>Xp hp hL z1 z2 z4 (sub a' b' z1 z2 z3 z4)) (af (eI (JG ..) G.len) (by decide)) λv kv e=>K v kv (sq (Xm h0 h6 h7 rD (Xn hp hL hn de)) (sq (Xq hp hL hn (.tail _ c9) (af (dh hl) (by decide)) (aN I) (aN h6) (aN h7) k8) (sq (Eq.trans (k6 (fH (ag (aN H)) rfl) e) (ae (λY=>some (Fl.next,v,(⟨Y,gS a m::own⟩:ah))) (Xg hL hp hn))) rfl)))
end
section
variable{D aS aO:aI}{p q:Pos}{Gl:Prop}
def Xs{i:Int}(ok:iR 0 i)(h:ev F a D s=some (.d (.int i),V)):gE F (.range a q p) D s=some (((List.range (i.toNat - 0)).map λ(k:Nat)=>ab.int (0+(k:Int)),none),V):=by
 refine (au h).trans ?_;have e:((dn (.d (.int i))).bind (mE 0))=mE 0 i:=rfl;rw [e,Jk ok];rfl
def Xt{m:Nat}(hm:m<1000000):iR 0 (m:Int):=⟨⟨by lia,by lia⟩,(Int.lt_of_lt_of_le (by decide) (natCast_nonneg _)),(ofNat_lt.mpr hm)⟩
def Cg{m:Nat}(hm:m<1000000)(h:ev F a D s=some (.d (.int m),V)):gE F (.range a q p) D s=some (((List.range m).map λ(k:Nat)=>ab.int (k:Nat),none),V):=by
 rw [Xs (Xt hm) h,toNat_natCast,Nat.sub_zero];refine ae (λl=>some ((l,none),V)) (eR λk Z=>ae ab.int ?_);lia
def Ch(G:aH B)(cy:11<aO.length)(h0:aO[0]?=some (some (.d (.str wl))))(H:aO[1]?=some (some (.d (eG B))))(I:aO[2]?=some (some (.ref 30)))(h6:aO[6]?=some (some (.d (.int m)))){A:aa}:∀{l:List (Nat×Nat)}{own:aa}{D:aI}{x8:Option PV},Kw [7,9,10,11] (aO.set 8 x8) D->A.Nodup->(∀q∈l,eH q)->30∈own->l.length+A.length<=10->(∀a∈A,eH (a,m)/\(a,m)∉l/\wl[a]?=some (w a)/\Y (gS a m)=none/\∀a' b',a<=a'->a'<b'->b'<=a+m->b' - a'<m->(a',b' - a')∈l)->
  (∀v y8,Kw [7,9,10,11] (aO.set 8 y8) v->dD (lb (FQ (n+3)) [7] um) (A.map λa=>ab.int (a:Nat)) D ⟨laid B w Y l,own⟩=some (.next,v,⟨laid B w Y (l++A.map λa=>(a,m)),(A.map λa=>gS a m).reverse++own⟩)->Gl)->Gl:=by
 induction A with
 |nil=>exact λkw Z Z Z Z Z K=>K _ _ kw (ae (λl=>some (Fl.next,_,(⟨laid B w Y l,_⟩:ah))) (append_nil _).symm)
 |cons a A ih=>
  intro l own D x8 kw hn hL c9 hl h K;have bp:Kw [7,9,10,11] (aO.set 8 x8) (D.set 7 (some (.d (.int a)))):=c8 kw;have jB:=c7 bp (bH cy);have at':∀{j:Nat}{X:Option PV},j≠8->j∉[7,9,10,11]->aO[j]?=some X->(D.set 7 (some (.d (.int a))))[j]?=some X:=λh8 hj hx=>be bp (aN hx h8) hj;have hA:l.length+1+A.length<=10:=by rw [Nat.add_assoc,Nat.add_comm 1];exact hl
  refine pV (h a (.head _)) λp1 p2 p3 p4 p5=>Xr G p1 p3 hL p2 p4 c9 (af (bz _ _) (af (bz _ _) hA)) p5 jB (at' (by decide) (by decide) h0) (at' (by decide) (by decide) H) (at' (by decide) (by decide) I) (at' (by decide) (by decide) h6) (bT (c7 kw (bH (dJ (by decide) cy)))) λv kv e=>ih (set_set ..▸iY (wP bp) kv (by decide)) (eS.mp hn).2 (Cf hL p1) (.tail _ c9) (by rw [length_append];exact hA) (λb hb=>(h b (.tail _ hb)).imp_right λq=>⟨λz=>(bD.mp z).elim q.1 λz=>(eS.mp hn).1 ((ae (·.1) (cC.mp z):b=a)▸hb),q.2.1,q.2.2.1,λa' b' z1 z2 z3 z4=>cE _ (q.2.2.2 a' b' z1 z2 z3 z4)⟩) λv2 y8 pE e2=>K v2 y8 pE (fu rfl e (e2.trans ?_));rw [append_assoc,map_cons (f:=λa=>gS a m),reverse_cons,append_assoc];rfl
noncomputable def im:List (Nat×Nat):=[(0,1),(1,1),(2,1),(0,2),(1,2),(0,3)]
noncomputable def iO:aa:=[103,111,102,119,110,101]
def Ci{k m c:Nat}(hm:m<=k)(hk:k<1000)(H:ev F a D s=some (.d (.int k),s))(I:ev F b D s=some (.d (.int m),s))(hc:k - m=c):gE F (.range (.bin .sub a b w1) w2 w3) D s=some (((List.range c).map λ(k:Nat)=>ab.int (k:Nat),none),s):=by
 subst hc;exact Cg (dZ (sub_le ..) (dJ hk (by decide))) (dM H I (ae (λz=>some (PV.d (.int z))) (ofNat_sub hm).symm))
def Xu(G:aH B)(de:∀k,100<=k->Y k=none)(c9:30∈own)(cy:11<D.length)(h0:D[0]?=some (some (.d (.str [w 0,w 1,w 2]))))(H:D[1]?=some (some (.d (eG B))))(I:D[2]?=some (some (.ref 30)))
  (K:∀v y8,Kw [6,7,9,10,11] (D.set 8 y8) v->ex (FQ (n+3)) (nS qi 1) D ⟨laid B w Y [],own⟩=some (.next,v,⟨laid B w Y im,iO++own⟩)->Gl):Gl:=by
 have Cj:∀{a:Nat},a<3->([w 0,w 1,w 2]:aa)[a]?=some (w a):=ms (P:=λa=>([w 0,w 1,w 2]:aa)[a]?=some (w a)) rfl rfl rfl;have Ck:∀a m,Y (gS a m)=none:=λa m=>de _ (bz 100 _);have kb:∀{u v:aI}{y z:Option PV}{d:ab},Kw [6,7,9,10,11] (D.set 8 y) u->Kw [7,9,10,11] ((u.set 6 (some (.d d))).set 8 z) v->Kw [6,7,9,10,11] (D.set 8 z) v:=λh h'=>set_set ..▸iY (wP (c8 h)) h' (by decide);have nx:∀{u:aI}{y:Option PV}{d:ab}{j:Nat}{X:Option PV},Kw [6,7,9,10,11] (D.set 8 y) u->j≠8->j∉[6,7,9,10,11]->D[j]?=some X->(u.set 6 (some (.d d)))[j]?=some X:=λh h8 hj hx=>aN (be h (aN hx h8) hj) (λq=>hj (q▸.head _));have self:∀{u:aI},Kw [7,9,10,11] (u.set 8 u[8]?.join) u:=λ{u}=>⟨(length_set ..).symm,λj=>.inl (by
  by_cases c:j=8
  ·subst c
   by_cases l:8<u.length
   ·rw [getElem?_set_self l,getElem?_eq_getElem l];rfl
   ·exact (wO l).symm
  ·exact (lc c).symm)⟩
 have k0:Kw [6,7,9,10,11] (D.set 8 D[8]?.join) D:=⟨self.1,λj=>.inl ((self.2 j).elim id λq=>by
  by_cases c:j=8
  ·subst c;exact aj q.1 (by decide)
  ·exact (lc c).symm)⟩
 have len:∀{u:aI}{y:Option PV}{d:ab},Kw [6,7,9,10,11] (D.set 8 y) u->11<(u.set 6 (some (PV.d d))).length:=λh=>bH (c7 h (bH cy));have rG:∀{u:aI}{y:Option PV}{d:ab},Kw [6,7,9,10,11] (D.set 8 y) u->(u.set 6 (some (PV.d d)))[6]?=some (some (.d d)):=λh=>bT (c7 h (bH (dJ (by decide) cy)));refine Ch (n:=n) (Y:=Y) (w:=w) G (len k0) (nx k0 (by decide) (by decide) h0) (nx k0 (by decide) (by decide) H) (nx k0 (by decide) (by decide) I) (rG (d:=.int (1:Nat)) k0) (A:=[0,1,2]) (l:=[]) self (by decide) (λq hq=>nomatch hq) c9 (by decide) (λa ha=>?_) λv1 y1 fU e1=>?_
 ·have ha:=(show∀a∈[0,1,2],a<3 by decide) a ha
  exact ⟨⟨Nat.one_pos,Nat.succ_le_of_lt ha⟩,(λq=>nomatch q),Cj ha,Ck a 1,λa' b' Z z2 Z z4=>aj (Nat.sub_pos_of_lt z2) (cg.mpr (le_of_lt_succ z4))⟩
 have k1:=kb k0 fU;refine Ch (n:=n) (Y:=Y) (w:=w) G (len k1) (nx k1 (by decide) (by decide) h0) (nx k1 (by decide) (by decide) H) (nx k1 (by decide) (by decide) I) (m:=2) (rG (d:=.int (2:Nat)) k1) (A:=[0,1]) (l:=[(0,1),(1,1),(2,1)]) (own:=[119,110,101]++own) self (by decide) (show∀q∈[(0,1),(1,1),(2,1)],0<q.2/\q.1+q.2<=3 by decide) (cj _ c9) (by decide) (λa ha=>?_) λv2 y2 pE e2=>?_
 ·have ha:a<2:=(show∀a∈[0,1],a<2 by decide) a ha
  refine ⟨⟨Nat.two_pos,dh (Nat.succ_le_of_lt ha)⟩,(λq=>nomatch (show∀p∈[(0,1),(1,1),(2,1)],p.2=1 by decide) (a,2) q),Cj (lt_succ_of_lt ha),Ck a 2,λa' b' Z z2 z3 z4=>?_⟩;rw [show b' - a'=1 from Nat.le_antisymm (le_of_lt_succ z4) (Nat.sub_pos_of_lt z2)];exact ms (P:=λa'=>(a',1)∈[(0,1),(1,1),(2,1)]) (by decide) (by decide) (by decide) (bx z2 (af z3 (dh (Nat.succ_le_of_lt ha))))
 have k2:=kb k1 pE;refine Ch (n:=n) (Y:=Y) (w:=w) G (len k2) (nx k2 (by decide) (by decide) h0) (nx k2 (by decide) (by decide) H) (nx k2 (by decide) (by decide) I) (m:=3) (rG (d:=.int (3:Nat)) k2) (A:=[0]) (l:=[(0,1),(1,1),(2,1),(0,2),(1,2)]) (own:=[111,102,119,110,101]++own) self (by decide) (show∀q∈[(0,1),(1,1),(2,1),(0,2),(1,2)],0<q.2/\q.1+q.2<=3 by decide) (cj _ c9) (by decide) (λa ha=>?_) λv3 y3 Xv e3=>K v3 y3 (kb k2 Xv) ?_
 ·obtain rfl:=cC.mp ha
  exact ⟨⟨by decide,by decide⟩,by decide,Cj (by decide),Ck 0 3,λa' b' Z z2 z3 z4=>(show∀b'∈List.range 4,∀a'∈List.range b',b' - a'<3->(a',b' - a')∈[(0,1),(1,1),(2,1),(0,2),(1,2)] by decide) b' (mem_range.mpr (lt_succ_of_le z3)) a' (mem_range.mpr z2) z4⟩
 have qX:∀{u:aI}{S:ah}{w1 w2 w3 w4 w5:Pos},u[0]?=some (some (.d (.str [w 0,w 1,w 2])))->ev (FQ (n+3)) (.bin .add (.bi .len (.v 0 w1) w2 w3) (.cI 1 w4) w5) u S=some (.d (.int (4:Nat)),S):=λh=>iM (i:=3) (j:=1) (pA (l:=[w 0,w 1,w 2]) (ag h)) ju;refine kf (l:=((List.range 3).map λ(k:Nat)=>ab.int (k+1:Nat),none)) (B4 (i:=1) (m:=3) (by decide) ju (qX h0)) (fu rfl (sq (kf (Ci (c:=3) (by decide) (by decide) (qX (nx k0 (by decide) (by decide) h0)) (ag (rG k0)) rfl) e1) rfl) (fu rfl (sq (kf (Ci (c:=2) (by decide) (by decide) (qX (nx k1 (by decide) (by decide) h0)) (ag (rG k1)) rfl) e2) rfl) (fu rfl (sq (kf (Ci (c:=1) (by decide) (by decide) (qX (nx k2 (by decide) (by decide) h0)) (ag (rG k2)) rfl) e3) rfl) rfl)))
end
section
variable(B:List bk)(w:Nat->Nat)
def DD:Nat->aa->Nat
 |0=>D0
 |1=>D1 B w
 |2=>D2 B w
 |_=>D3 B w
noncomputable def i7 (WQ Q:aa) (k:Nat):bJ->bJ->bJ
 |[],c=>c
 |p::r,c=>i7 WQ Q k r (if 0<p.2/\p.1.headD 0∈WQ then dI c (Q++p.1) (k*p.2) else c)
def pH(it:bJ):bJ->bJ->bJ
 |[],c=>c
 |p::r,c=>pH it r (i7 (W B p.1) p.1 p.2 it c)
end
section
variable{B:List bk}
theorem xz(WQ Q:aa)(k:Nat):∀{it c:bJ}{f:aa->Nat},dz c f->dz (i7 WQ Q k it c) λP=>f P+(it.map λp=>if (0<p.2/\p.1.headD 0∈WQ)/\Q++p.1=P then k*p.2 else 0).sum
 |[],c,f,h=>h
 |p::r,c,f,h=>by
  show dz (i7 WQ Q k r (if 0<p.2/\p.1.headD 0∈WQ then dI c (Q++p.1) (k*p.2) else c)) _;by_cases e:0<p.2/\p.1.headD 0∈WQ
  ·rw [if_pos e]
   have H:=xz WQ Q k (it:=r) (h.add (P:=Q++p.1) (k:=k*p.2) λZ=>rfl);refine ⟨H.nd,λP=>(H.val P).trans ?_⟩;rw [map_cons,sum_cons,<-Nat.add_assoc];refine ae (λz=>f P+z+_) ?_;by_cases c:Q++p.1=P
   ·rw [if_pos c,if_pos ⟨e,c⟩]
   ·rw [if_neg c,if_neg λq=>c q.2]
  ·rw [if_neg e]
   have H:=xz WQ Q k (it:=r) h;refine ⟨H.nd,λP=>(H.val P).trans ?_⟩;rw [map_cons,sum_cons,if_neg λq=>e q.1,Nat.zero_add]
theorem Cl(WQ Q:aa)(k:Nat):∀(it c:bJ),(i7 WQ Q k it c).length<=c.length+it.length
 |[],c=>aD _
 |p::r,c=>by
  have H:=Cl WQ Q k r (if 0<p.2/\p.1.headD 0∈WQ then dI c (Q++p.1) (k*p.2) else c);have I:=uh c (Q++p.1) (k*p.2);show (i7 WQ Q k r _).length<=c.length+(r.length+1);refine af H ?_
  split<;>lia
def Xw(h:∀p∈c,0<p.2)(hk:0<k):∀p∈dI c P k,0<p.2:=by
 intro p hp;unfold dI at hp
 split at hp
 ·obtain ⟨p',a,rfl⟩:=bu.mp hp
  have:=h p' a
  split
  ·exact Nat.add_pos_left this _
  ·exact this
 ·rcases bD.mp hp with hp|hp
  ·exact h p hp
  ·rw [mem_singleton.mp hp];exact hk
theorem JQ(WQ Q:aa)(hk:0<k):∀{it c:bJ},(∀p∈c,0<p.2)->∀p∈i7 WQ Q k it c,0<p.2
 |[],c,h=>h
 |p::r,c,h=>by
  refine JQ WQ Q hk (it:=r) ?_;by_cases e:0<p.2/\p.1.headD 0∈WQ
  ·rw [if_pos e];exact Xw h (Nat.mul_pos hk e.1)
  ·rw [if_neg e];exact h
theorem Cm{K:aa}{h:Nat->Nat}(h0:h 0=0):∀{c:bJ},(c.map (·.1)).Nodup->(c.map λp=>if p.1=K then h p.2 else 0).sum=h (cf c K)
 |[],_=>h0.symm
 |p::c,hn=>by
  refine aT (eS.mp hn) λn1 n2=>?_;rw [map_cons,sum_cons,Cm h0 n2];unfold cf;by_cases e:p.1=K
  ·have hz:c.find? (λp=>p.1==K)=none:=find?_eq_none.mpr λq hq z=>n1 (bu.mpr ⟨q,hq,(bB.mp z).trans e.symm⟩)
   rw [if_pos e,find?_cons_of_pos (p:=λp:aa×Nat=>p.1==K) (beq_iff_eq.mpr e),hz];show h p.2+h 0=h p.2;rw [h0];rfl
  ·rw [if_neg e,Nat.zero_add,find?_cons_of_neg (p:=λp:aa×Nat=>p.1==K) (λz=>e (beq_iff_eq.mp z))]
def Xx(hn:(it.map (·.1)).Nodup)(H:∀p∈it,∃x,p.1=[x])(Q:aa)(k:Nat)(P:aa):(it.map λp=>if (0<p.2/\p.1.headD 0∈W B Q)/\Q++p.1=P then k*p.2 else 0).sum=fK B P λQ' x=>if Q'=Q then k*cf it [x] else 0:=by
 rcases j9 (P:=P) with rfl|⟨Q',x,rfl⟩
 ·rw [HC]
  exact l7 λm hm=>by
   obtain ⟨p,hp,rfl⟩:=bu.mp hm;refine b6 (H p hp) λy hy=>?_;exact bK λq=>by rw [hy] at q;exact aj (List.append_eq_nil_iff.mp q.2).2 (cons_ne_nil _ _)
 ·rw [jL]
  by_cases e:Q'=Q
  ·subst e
   have I:(it.map λp=>if (0<p.2/\p.1.headD 0∈W B Q')/\Q'++p.1=Q'++[x] then k*p.2 else 0)=it.map λp=>if p.1=[x] then (if 0<p.2/\x∈W B Q' then k*p.2 else 0) else 0:=eR λp Z=>by
    by_cases c:p.1=[x]
    ·rw [if_pos c,c]
     show (if (0<p.2/\x∈W B Q')/\Q'++[x]=Q'++[x] then _ else _)=_;by_cases d:0<p.2/\x∈W B Q'
     ·rw [if_pos ⟨d,rfl⟩,if_pos d]
     ·rw [if_neg λq=>d q.1,if_neg d]
    ·rw [if_neg c,if_neg λq=>c (List.append_cancel_left q.2)]
   rw [I,Cm (h:=λt=>if 0<t/\x∈W B Q' then k*t else 0) rfl hn];show (if 0<cf it [x]/\x∈W B Q' then k*cf it [x] else 0)=_;by_cases d:x∈W B Q'
   ·rw [if_pos d,if_pos rfl]
    by_cases d0:0<cf it [x]
    ·rw [if_pos ⟨d0,d⟩]
    ·rw [if_neg λq=>d0 q.1,Nat.eq_zero_of_not_pos d0,mul_zero]
   ·rw [if_neg d,if_neg λq=>d q.2]
  ·have hz:(if x∈W B Q' then (if Q'=Q then k*cf it [x] else 0) else 0)=0:=by rw [if_neg e];split<;>rfl
   rw [hz];exact l7 λm hm=>by
    obtain ⟨p,hp,rfl⟩:=bu.mp hm;refine b6 (H p hp) λy hy=>?_;exact bK λq=>by rw [hy] at q;exact e (append_inj' q.2 rfl).1.symm
theorem Cn(hn:(it.map (·.1)).Nodup)(H:∀p∈it,∃x,p.1=[x]):∀{dl c:bJ}{f:aa->Nat},dz c f->dz (pH B it dl c) λP=>f P+(dl.map λp=>fK B P λQ' x=>if Q'=p.1 then p.2*cf it [x] else 0).sum
 |[],c,f,h=>h
 |p::r,c,f,h=>by
  have I:=Cn hn H (dl:=r) (xz (W B p.1) p.1 p.2 (it:=it) h);refine ⟨I.nd,λP=>(I.val P).trans ?_⟩;rw [map_cons,sum_cons,Xx hn H,Nat.add_assoc]
def Xy{it dl:bJ}(hn:(dl.map (·.1)).Nodup)(P:aa):(dl.map λp=>fK B P λQ' x=>if Q'=p.1 then p.2*cf it [x] else 0).sum=fK B P λQ' x=>cf dl Q'*cf it [x]:=by
 rcases j9 (P:=P) with rfl|⟨Q',x,rfl⟩
 ·rw [HC]
  exact l7 λm hm=>by
   obtain ⟨p,_,rfl⟩:=bu.mp hm
   rfl
 ·rw [jL]
  by_cases d:x∈W B Q'
  ·rw [if_pos d]
   refine Eq.trans ?_ (Cm (h:=λt=>t*cf it [x]) (zero_mul _) hn);refine ae List.sum (eR λp Z=>?_);rw [jL,if_pos d];by_cases e:p.1=Q'
   ·rw [if_pos e,if_pos e.symm]
   ·rw [if_neg e,if_neg λq=>e q.symm]
  ·rw [if_neg d]
   exact l7 λm hm=>by
    obtain ⟨p,_,rfl⟩:=bu.mp hm;rw [jL,if_neg d]
theorem Co(it:bJ):∀(dl c:bJ),(pH B it dl c).length<=c.length+it.length*dl.length
 |[],c=>aD _
 |p::r,c=>by
  have H:=Co it r (i7 (W B p.1) p.1 p.2 it c);have I:=Cl (W B p.1) p.1 p.2 it c;rw [length_cons,mul_add,Nat.mul_one];show (pH B it r (i7 (W B p.1) p.1 p.2 it c)).length<=_;lia
theorem pI:∀{dl c:bJ},(∀p∈dl,0<p.2)->(∀p∈c,0<p.2)->∀p∈pH B it dl c,0<p.2
 |[],c,_,h=>h
 |p::r,c,hd,h=>pI (dl:=r) (λq hq=>hd q (.tail _ hq)) (JQ _ _ (hd p (.head _)) h)
def Cp(P:aa)(f g:aa->Nat->Nat):fK B P f+fK B P g=fK B P λQ x=>f Q x+g Q x:=by
 rcases j9 (P:=P) with rfl|⟨Q,x,rfl⟩
 ·rfl
 ·rw [jL,jL,jL]
  by_cases d:x∈W B Q
  ·rw [if_pos d,if_pos d,if_pos d]
  ·rw [if_neg d,if_neg d,if_neg d]
def JR(h:∀Q x,f Q x<=k)(P:aa):fK B P f<=k:=by
 rcases j9 (P:=P) with rfl|⟨Q,x,rfl⟩
 ·exact bN _
 ·rw [jL]
  split
  ·exact h _ _
  ·exact bN _
def Cq(h:0<fK B P f):∃Q x,P=Q++[x]/\x∈W B Q/\0<f Q x:=by
 rcases j9 (P:=P) with rfl|⟨Q,x,rfl⟩
 ·exact aj h (dK 0)
 ·rw [jL] at h
  by_cases d:x∈W B Q
  ·rw [if_pos d] at h;exact ⟨Q,x,rfl,d,h⟩
  ·rw [if_neg d] at h;exact aj h (dK 0)
def Cr(P:aa):D0 P<=1:=by unfold D0;split<;>decide
def JS(G:aH B)(P:aa):D1 B w P<=6:=JR (λQ x=>mul_le_mul (Cr Q) (lm G x 0)) P
def Xz(G:aH B)(P:aa):D2 B w P<=216:=JR (λQ x=>eI (mul_le_mul (Cr Q) (xq G x 0)) (mul_le_mul (JS G Q) (lm G x 1))) P
def i8(B:List bk)(w:Nat->Nat)(jv first:Nat)(dl c:bJ):bJ:=pH B (SC B w (jv - first) first) dl c
def rH{dl c:bJ}(hc:dz c f)(hd:dz dl g):dz (i8 B w jv first dl c) λP=>f P+fK B P λQ x=>g Q*tt B w (jv - first) x first:=by
 have h:=Cn (B:=B) (it:=SC B w (jv - first) first) (xm (jv - first) first).nd (xn _ _) (dl:=dl) hc;refine ⟨h.nd,λP=>(h.val P).trans ?_⟩;rw [Xy hd.nd];refine ae (f P+·) (ae (fK B P) ?_)
 funext Q x
 rw [hd.val,pF]
end
noncomputable def dj (f:aa->ab) (TK:List aa):List (aa×ab):=TK.map λP=>(P,f P)
section
def xA:dget (dj f TK) P=if P∈TK then some (f P) else none:=by
 induction TK with
 |nil=>rfl
 |cons Q TK ih=>
  unfold dget at ih⊢;by_cases e:Q=P
  ·subst e
   rw [if_pos (.head _)];exact ae (Option.map _) (find?_cons_of_pos (a:=(Q,f Q)) (l:=dj f TK) (p:=λx:aa×ab=>x.1==Q) (beq_self_eq_true Q))
  ·refine (ae (Option.map _) (find?_cons_of_neg (a:=(Q,f Q)) (l:=dj f TK) (p:=λx:aa×ab=>x.1==P) λz=>e (bB.mp z))).trans (ih.trans ?_)
   by_cases c:P∈TK
   ·rw [if_pos c,if_pos (.tail _ c)]
   ·rw [if_neg c,if_neg λz=>(mem_cons.mp z).elim (λz=>e z.symm) c]
def JT(h:P∉TK):fQ (dj f TK) P (f P)=dj f (TK++[P]):=by
 refine (bK λq=>?_).trans (map_append (l₂:=[P])).symm;obtain ⟨p,hp,q⟩:=any_eq_true.mp q;obtain ⟨Q,hQ,rfl⟩:=bu.mp hp;exact h ((show Q=P from bB.mp q)▸hQ)
def JU:(dj f TK).length=TK.length:=length_map ..
end
def xB:List PS:=fL (nS qi 3)
def JV:List PS:=fL (nS xB 1)
def JX:List PS:=fL (nS JV 0)
def Cs:List PS:=fL (nS JX 0)
noncomputable def pJ (c:bJ):List ab:=c.map λp=>.tup [.str p.1,.int p.2]
def iP(B:List bk)(P:aa):ab:=.str (W B P)
section
variable{s V s'':ah}{Gl:Prop}
def XA{k z t:Nat}(h4:D[4]?=some (some (.ref 32)))(cG:D[13]?=some (some (.d (.str Q))))(lj:D[15]?=some (some (.d (.str [z]))))(gB:D[16]?=some (some (.d (.int t))))(dg:s.Y 32=some (.dict (dj (iP B) TK)))(hQ:Q∈TK):bP F (fv (nS Cs 0)) D s=some (decide (0<t)&&decide (z∈W B Q),s):=
 pn (cT (ag gB) rfl (ae some (decide_eq_decide.mpr Int.natCast_pos))) λZ=>cT (ag lj) (t0 (ag h4) (ag cG) dg (xA.trans (bv hQ))) (Jl)
def XB(hk:k<2 ^ 30)(ht:t<2 ^ 30)(xC:(Q++[z]).length<=lim)(hn:(c.map (·.1)).Nodup)(h8:D[8]?=some (some (.ref 34)))(cG:D[13]?=some (some (.d (.str Q))))(dG:D[14]?=some (some (.d (.int k))))(lj:D[15]?=some (some (.d (.str [z]))))(gB:D[16]?=some (some (.d (.int t))))(gQ:s.Y 34=some (.dict (cD c)))(hl:c.length+1<=lim):bo F (ph (nS Cs 0)) D s=some (.next,D,s.put 34 (.dict (cD (dI c (Q++[z]) (k*t))))):=
 sq (BV hn h8 gQ (jO (ag cG) (ag lj) xC) (ui hk ht (ag dG) (ag gB)) (jO (ag cG) (ag lj) xC) hl) rfl
def XC{Q:aa}{k:Nat}(hk:k<2 ^ 30)(hQ:Q∈TK)(xC:Q.length<=100)(hl:16<aO.length)(h4:aO[4]?=some (some (.ref 32)))(h8:aO[8]?=some (some (.ref 34)))(cG:aO[13]?=some (some (.d (.str Q))))(dG:aO[14]?=some (some (.d (.int k)))){it:bJ}:∀{c:bJ}{D:aI}{s:ah},Kw [15,16] aO D->(c.map (·.1)).Nodup->s.Y 32=some (.dict (dj (iP B) TK))->s.Y 34=some (.dict (cD c))->(∀p∈it,(∃x,p.1=[x])/\p.2<2 ^ 30)->c.length+it.length<=10000->
  (∀v,Kw [15,16] aO v->dD (lb F [15,16] Cs) (pJ it) D s=some (.next,v,s.put 34 (.dict (cD (i7 (W B Q) Q k it c))))->Gl)->Gl:=by
 induction it with
 |nil=>exact λkw Z Z gQ Z Z K=>K _ kw (ae (λt=>some (Fl.next,_,t)) (jM gQ).symm)
 |cons p it ih=>
  intro c D s kw hn dg gQ hi hc K;obtain ⟨P,t⟩:=p;obtain ⟨⟨z,hz⟩,ht⟩:=hi _ (.head _);have hz:=hz;subst hz;have bp:Kw [15,16] aO ((D.set 15 (some (.d (.str [z])))).set 16 (some (.d (.int t)))):=c8 (c8 kw);have lj:((D.set 15 (some (.d (.str [z])))).set 16 (some (.d (.int t))))[15]?=some (some (.d (.str [z]))):=aN (bT (c7 kw (lt_of_succ_lt hl)));have gB:((D.set 15 (some (.d (.str [z])))).set 16 (some (.d (.int t))))[16]?=some (some (.d (.int t))):=bT (bH (c7 kw hl));have et:=XA (F:=F) (k:=k) (be bp h4) (be bp cG) lj gB dg hQ;have lP:=λp hp=>hi p (.tail _ hp);by_cases e:0<t/\z∈W B Q
  ·rw [decide_eq_true e.1,decide_eq_true e.2] at et
   refine ih bp (JL hn (Q++[z]) (k*t)) (cu dg) f4 lP (af (dN (uh ..) _) (by rw [Nat.add_assoc,Nat.add_comm 1];exact hc)) λv kv e2=>K v kv (fu rfl (sq (ic et (XB hk ht (af (by rw [length_append];exact dh xC) (by decide)) hn (be bp h8) (be bp cG) (be bp dG) lj gB gQ (af (af (dc (dh (bN _)) _) hc) (by decide)))) rfl) (e2.trans ?_));rw [gy,show i7 (W B Q) Q k (([z],t)::it) c=i7 (W B Q) Q k it (if 0<t/\z∈W B Q then dI c (Q++[z]) (k*t) else c) from rfl,if_pos e]
  ·have ef:=eq_false_iff.mpr λq=>e ⟨cm ((and_eq_true _ _).mp q).1,cm ((and_eq_true _ _).mp q).2⟩
   rw [ef] at et;refine ih bp hn dg gQ lP (le_of_succ_le hc) λv kv e2=>K v kv (fu rfl (sq (gN et rfl) rfl) (e2.trans ?_));rw [show i7 (W B Q) Q k (([z],t)::it) c=i7 (W B Q) Q k it (if 0<t/\z∈W B Q then dI c (Q++[z]) (k*t) else c) from rfl,if_neg e]
def uo(hg:j≠g):(s.lock (some g)).Y j=s.Y j:=by
 show (match s.Y g with|some o=>s.put g (.lk o)|none=>s).Y j=_;cases s.Y g with
 |none=>rfl
 |some o=>exact jR hg
def XD{o x:aV}(h:s.Y g=some o)(hg:g≠k):((s.lock (some g)).put k x).unlock (some g)=s.put k x:=by
 rw [uO h,uP (cu f4 hg),gz (Ne.symm hg),gy,jM h]
def XE(ha:fi<=3)(hl:16<aO.length)(I:aO[2]?=some (some (.ref 30)))(h4:aO[4]?=some (some (.ref 32)))(h7:aO[7]?=some (some (.d (.int fi))))(h8:aO[8]?=some (some (.ref 34)))(iX:aO[12]?=some (some (.d (.int la))))(hit:∀p∈it,(∃x,p.1=[x])/\p.2<2 ^ 30)(JY:it.length<=6){dl:bJ}:∀{c:bJ}{D:aI}{s:ah},Kw [13,14,15,16] aO D->(c.map (·.1)).Nodup->s.Y 32=some (.dict (dj (iP B) TK))->s.Y 34=some (.dict (cD c))->fA s.Y it fi la->(∀p∈dl,(p.1∈TK/\p.1.length<=100)/\p.2<2 ^ 30)->c.length+6*dl.length<=9000->
  (∀v,Kw [13,14,15,16] aO v->dD (lb F [13,14] JX) (pJ dl) D s=some (.next,v,s.put 34 (.dict (cD (pH B it dl c))))->Gl)->Gl:=by
 induction dl with
 |nil=>exact λkw Z Z gQ Z Z Z K=>K _ kw (ae (λt=>some (Fl.next,_,t)) (jM gQ).symm)
 |cons p dl ih=>
  intro c D s kw hn dg gQ nO hd hc K;have hp:=hd p (.head _);have bp:Kw [13,14,15,16] aO ((D.set 13 (some (.d (.str p.1)))).set 14 (some (.d (.int p.2)))):=c8 (c8 kw);have kF:c.length+6+6*dl.length<=9000:=by rw [Nat.add_assoc,Nat.add_comm 6];exact hc
  have hg:100+(8*fi+la)≠34:=cY (bx (by decide) (bz 100 _));have XF:32≠100+(8*fi+la):=cX (bx (by decide) (bz 100 _));refine XC hp.2 hp.1.1 hp.1.2 (c7 bp hl) (be bp h4) (be bp h8) (aN (bT (c7 kw (dJ (by decide) hl)))) (bT (bH (c7 kw (dJ (by decide) hl)))) gv hn ((uo XF).trans dg) ((uo (Ne.symm hg)).trans gQ) hit (af (dc JY _) (af (af (bz _ _) kF) (by decide))) λv1 fU e1=>ih (iY bp fU (by decide)) (xz (W B p.1) p.1 p.2 ⟨hn,λZ=>rfl⟩).nd (cu dg) f4 (nO.put (by decide) (Ne.symm hg)) (λq hq=>hd q (.tail _ hq)) (af (dN (af (Cl ..) (dc JY _)) _) kF) λv kv e2=>K v kv (fu rfl (sq (Eq.trans (k6 (l:=(pJ it,some (100+(8*fi+la)))) (V:=s) ?_ e1) (ae (λt=>some (Fl.next,v1,t)) (XD nO.choose_spec.2.2 hg))) rfl) (e2.trans (ae (λt=>some (Fl.next,v,t)) gy)));refine (au (BX nO ha (be bp I) (be bp h7) (be bp iX)).1).trans (eM ?_);exact (Lx nO.choose_spec.2.2).trans (ae (λl=>some (l,_)) map_map)
end
structure jS(TK:List aa):Prop where
 pre:∀P∈TK,∀j,P.take j∈TK
 ok:∀P∈TK,d9 P
 len:∀P∈TK,P.length<=3
def xD{p:α->Prop}(h:∀y∈l,p y)(hx:p x):∀y∈l++[x],p y:=λy hy=>(bD.mp hy).elim (h y) λq=>cC.mp q▸hx
def jS.snoc(h:jS TK)(hQ:Q∈TK)(hx:x≠0)(hl:Q.length<3):jS (TK++[Q++[x]]) where
 pre:=xD (λP hP j=>cE _ (h.pre P hP j)) λj=>by
  by_cases c:j<=Q.length
  ·rw [List.take_append_of_le_length c];exact cE _ (h.pre Q hQ j)
  ·rw [List.take_of_length_le (by rw [length_append];exact lt_of_not_le c)];exact cj _ (.head _)
 ok:=xD h.ok (xD (h.ok Q hQ) hx)
 len:=xD h.len (by rw [length_append];exact hl)
def gC(B:List bk)(P:aa):ab:=kl (cU B (aL B P))
def Ct:List PS:=fL (nS xB 2)
section
variable{p q:Pos}{Gl:Prop}
def JZ(hs:s.Y j=some (.dict al))(hl:al.length+1<=lim):mD (.ref j) (.d (.str P)) (.d d) s=some (s.put j (.dict (fQ al P d))):=by
 show (dictAt s j).bind _=_;rw [u0 hs];exact bv hl
def J0(h:ev F e D s=some (.d (.tup [d1,d2]),s))(H:∀{t:ah},ev F u1 D t=some (.ref j1,t))(I:∀{t:ah},ev F z1 D t=some (.d (.str P),t))(h3:∀{t:ah},ev F u2 D t=some (.ref j2,t))(h4:∀{t:ah},ev F z2 D t=some (.d (.str P),t))(hs:s.Y j1=some (.dict fU))(vQ:s.Y j2=some (.dict pE))(ix:j2≠j1)(hl:fU.length+1<=lim)(gY:pE.length+1<=lim):
  ex F (.setI2 u1 z1 u2 z2 e q1 q2 q p) D s=some (.next,D,(s.put j1 (.dict (fQ fU P d1))).put j2 (.dict (fQ pE P d2))):=by
 refine (au h).trans ?_;show bS (ev F u1 D s) _=_;refine (au H).trans ((au I).trans ?_);show (mD (.ref j1) (.d (.str P)) (.d d1) s).bind _=_;rw [JZ hs hl];refine (au h3).trans ((au h4).trans ?_);show (mD (.ref j2) (.d (.str P)) (.d d2) (s.put j1 (.dict (fQ fU P d1)))).bind _=_;rw [JZ (cu vQ ix) gY];rfl
def J1(h:s.Y j=some (.dict (dj f TK))):jU (.d (.str P)) (.ref j) s=some (decide (P∈TK)):=by
 rw [Br h,xA];by_cases c:P∈TK
 ·rw [if_pos c,decide_eq_true c];rfl
 ·rw [if_neg c,decide_eq_false c];rfl
def fM(B:List bk)(s:ah)(TK:List aa):ah:=(s.put 31 (.dict (dj (gC B) TK))).put 32 (.dict (dj (iP B) TK))
def XG(io:s.Y 31=some (.dict (dj (gC B) TK)))(dg:s.Y 32=some (.dict (dj (iP B) TK))):fM B s TK=s:=(ae (ah.put · 32 _) (jM io)).trans (jM dg)
def J2:fM B (fM B s TK) dB=fM B s dB:=by
 unfold fM;rw [gz (l:=31) (by decide),gy,gy]
def J3(hn:P∉TK):((s.put 31 (.dict (fQ (dj (gC B) TK) P (gC B P)))).put 32 (.dict (fQ (dj (iP B) TK) P (iP B P))))=fM B s (TK++[P]):=by
 rw [JT hn,JT hn];rfl
structure XH(TK L dB:List aa):Prop where
 ok:jS dB
 sub:∀P∈TK,P∈dB
 new:∀P∈L,P∈dB
 len:dB.length<=TK.length+L.length
def XI(hT:jS TK){x:Nat}(hQ:Q∈TK)(h0:0<k):dget (dj (iP B) TK) ((Q++[x]).take ((Q++[x]).length - k))=some (.str (W B ((Q++[x]).take ((Q++[x]).length - k)))):=by
 refine xA.trans (bv ?_);rw [length_append,length_singleton,List.take_append_of_le_length (Nat.sub_le_of_le_add (Nat.add_le_add_left h0 _))];exact hT.pre Q hQ _
def XJ(G:aH B){x:Nat}(H:D[1]?=some (some (.d (eG B))))(h3:D[3]?=some (some (.ref 31)))(h4:D[4]?=some (some (.ref 32)))(cG:D[13]?=some (some (.d (.str P))))(io:s.Y 31=some (.dict (dj (gC B) TK)))(dg:s.Y 32=some (.dict (dj (iP B) TK)))(hT:jS TK)(e:P=Q++[x])(hQ:Q∈TK)(hx:x≠0)(hl:Q.length<3)(hn:P∉TK)(pK:TK.length+1<=lim):
  bo (FQ (n+1)) Ct D s=some (.next,D,fM B s (TK++[P])):=by
 subst e;exact sq (ic (cT (ag cG) (ag h3) ((ae (Option.map (!·)) (J1 io)).trans (ae (λb=>some (!b)) (mr hn)))) (sq (J0 (f5 (aP (ag cG) (aP (ag h4) (aP (ag H) b9))) (Jz G ((hT.snoc hQ hx hl).ok _ (cj _ (.head _))) dg λk h0 Z=>XI hT hQ h0)) (ag h3) (ag cG) (ag h4) (ag cG) io dg (by decide) (JU▸pK) (JU▸pK)) (ae (λt=>some (Fl.next,D,t)) (J3 hn)))) rfl
def XK(h3:D[3]?=some (some (.ref 31)))(cG:D[13]?=some (some (.d (.str P))))(io:s.Y 31=some (.dict (dj (gC B) TK)))(hn:P∈TK):bo F Ct D s=some (.next,D,s):=
 sq (gN (cT (ag cG) (ag h3) ((ae (Option.map (!·)) (J1 io)).trans (ae (λb=>some (!b)) (fj hn)))) rfl) rfl
def XL(G:aH B)(cy:13<aO.length)(H:aO[1]?=some (some (.d (eG B))))(h3:aO[3]?=some (some (.ref 31)))(h4:aO[4]?=some (some (.ref 32))){L:List aa}:∀{D:aI}{TK:List aa}{s:ah},Kw [13] aO D->jS TK->s.Y 31=some (.dict (dj (gC B) TK))->s.Y 32=some (.dict (dj (iP B) TK))->(∀P∈L,∃Q x,P=Q++[x]/\Q∈TK/\x≠0/\Q.length<3)->TK.length+L.length<=10000->
  (∀dB v,Kw [13] aO v->dD (lb (FQ (n+1)) [13] Ct) (L.map .str) D s=some (.next,v,fM B s dB)->XH TK L dB->Gl)->Gl:=by
 induction L with
 |nil=>exact λkw hT io dg Z Z k=>k _ _ kw (ae (λt=>some (Fl.next,_,t)) (XG io dg).symm) ⟨hT,λZ h=>h,(λZ h=>nomatch h),aD _⟩
 |cons P L ih=>
  intro D TK s kw hT io dg hL hl k;have bp:Kw [13] aO (D.set 13 (some (.d (.str P)))):=c8 kw (.head _);have cG:(D.set 13 (some (PV.d (.str P))))[13]?=some (some (.d (.str P))):=bT (c7 kw cy);by_cases c:P∈TK
  ·exact ih bp hT io dg (λR hR=>hL R (.tail _ hR)) (le_of_succ_le hl) λdB v kv e g=>k dB v kv (fu rfl (XK (be bp h3) cG io c) e) ⟨g.ok,g.sub,λR hR=>(bA.mp hR).elim (λz=>z▸g.sub P c) (g.new R),le_succ_of_le g.len⟩
  ·have oA:∀m,(TK++[P]).length+m=TK.length+(m+1):=λm=>by rw [length_append,Nat.add_assoc,Nat.add_comm m];rfl
   refine kn (hL P (.head _)) λQ x eP hQ hx J4=>ih (s:=fM B s (TK++[P])) bp (eP▸hT.snoc hQ hx J4) rfl f4 (λR hR=>(hL R (.tail _ hR)).imp λQ h=>h.imp λx h=>⟨h.1,cE _ h.2.1,h.2.2⟩) (oA L.length▸hl) λdB v kv e g=>k dB v kv (fu rfl (XJ G (be bp H) (be bp h3) (be bp h4) cG io dg hT eP hQ hx J4 c (af (dh (af (bz _ _) hl)) (by decide))) (e.trans (ae (λt=>some (Fl.next,v,t)) J2))) ⟨g.ok,λR hR=>g.sub R (cE _ hR),λR hR=>(bA.mp hR).elim (λz=>z▸g.sub P (cj _ (.head _))) (g.new R),oA L.length▸g.len⟩
def XM(G:aH B){m a:Nat}:∀p∈SC B w m a,(∃x,p.1=[x])/\p.2<2 ^ 30:=λp hp=>⟨xn _ _ p hp,by
 obtain ⟨z,hz⟩:=xn _ _ p hp;have hv:cf (SC B w m a) p.1=p.2:=by
  unfold cf;rw [lh (xm m a).nd (hp)];rfl
 rw [hz,pF] at hv;rw [<-hv];exact xr G _ _ _⟩
def XN(G:aH B){dl:Nat->bJ}(XO:la<=3)(cy:16<aO.length)(I:aO[2]?=some (some (.ref 30)))(h4:aO[4]?=some (some (.ref 32)))(h5:aO[5]?=some (some (.ref 33)))(h8:aO[8]?=some (some (.ref 34)))(iX:aO[12]?=some (some (.d (.int la)))){A:aa}:∀{c:bJ}{D:aI}{s:ah},Kw [7,13,14,15,16] aO D->(c.map (·.1)).Nodup->s.Y 32=some (.dict (dj (iP B) TK))->s.Y 33=some (.list XP)->s.Y 34=some (.dict (cD c))->(∀a∈A,a<la/\fA s.Y (SC B w (la - a) a) a la/\XP[a]?=some (.dict (cD (dl a)))/\(∀p∈dl a,(p.1∈TK/\p.1.length<=100)/\p.2<2 ^ 30)/\(dl a).length<=300)->c.length+1800*A.length<=8000->
  (∀v,Kw [7,13,14,15,16] aO v->dD (lb F [7] JV) (A.map λa=>ab.int (a:Nat)) D s=some (.next,v,s.put 34 (.dict (cD (A.foldl (λc a=>i8 B w la a (dl a) c) c))))->Gl)->Gl:=by
 induction A with
 |nil=>exact λkw Z Z Z gQ Z Z k=>k _ kw (ae (λt=>some (Fl.next,_,t)) (jM gQ).symm)
 |cons a A ih=>
  intro c D s kw hn dg nP gQ hA hl k;have bp:Kw [7,13,14,15,16] aO (D.set 7 (some (.d (.int a)))):=c8 kw;have kF:c.length+1800+1800*A.length<=8000:=by rw [Nat.add_assoc,Nat.add_comm 1800];exact hl
  refine pV (hA a (.head _)) λH nO XQ yJ J5=>?_;have yx:(i8 B w la a (dl a) c).length<=c.length+1800:=af (Co ..) (dc (mul_le_mul (Ca G _ _) J5) _);refine XE (af (Nat.le_of_lt H) XO) (c7 bp cy) (be bp I) (be bp h4) (bT (c7 kw (dJ (by decide) cy))) (be bp h8) (be bp iX) (XM G) (Ca G _ _) gv hn dg gQ nO yJ (af (dc (fO 6 J5) _) (af (af (bz _ _) kF) (by decide))) λv1 fU e1=>ih (iY bp fU (by decide)) (Cn (xm (la - a) a).nd (xn _ _) ⟨hn,λZ=>rfl⟩).nd (cu dg) (cu nP) f4 (λb hb=>(hA b (.tail _ hb)).imp_right λh=>⟨h.1.put (by decide) (cX (bx (by decide) (bz 100 _))),h.2⟩) (af (dN yx _) kF) λv kv e2=>k v kv (fu rfl (sq (k6 (l:=(pJ (dl a),none)) ?_ e1) rfl) (e2.trans (ae (λt=>some (Fl.next,v,t)) gy)));refine (au (wX (ag (be bp h5)) (ag (bT (c7 kw (dJ (by decide) cy)))) nP XQ)).trans ?_;exact ae (λl=>some ((l,none),s)) map_map
end
section
variable(B:List bk)(w:Nat->Nat)
noncomputable def C0:bJ:=[([],1)]
def C1:bJ:=i8 B w 1 0 C0 []
def C2:bJ:=i8 B w 2 1 (C1 B w) (i8 B w 2 0 C0 [])
def C3:bJ:=i8 B w 3 2 (C2 B w) (i8 B w 3 1 (C1 B w) (i8 B w 3 0 C0 []))
def CC:Nat->bJ
 |0=>C0
 |1=>C1 B w
 |2=>C2 B w
 |_=>C3 B w
end
section
def xE:dz C0 D0:=⟨eS.mpr ⟨(λq=>nomatch q),nodup_nil⟩,λP=>by
 unfold cf D0;by_cases e:P=[]
 ·subst e;rfl
 ·rw [if_neg e,show C0=[([],1)] from rfl,find?_cons_of_neg (p:=λp:aa×Nat=>p.1==P) (λq=>e (beq_iff_eq.mp q).symm)];rfl⟩
def Cu:dz (C1 B w) (D1 B w):=by
 have h:=rH (B:=B) (w:=w) (jv:=1) (first:=0) dz.nil xE;exact ⟨h.nd,λP=>(h.val P).trans (Nat.zero_add _)⟩
def J6:dz (C2 B w) (D2 B w):=by
 have h:=rH (B:=B) (w:=w) (jv:=2) (first:=1) (rH (B:=B) (w:=w) (jv:=2) (first:=0) dz.nil xE) (Cu (B:=B) (w:=w));refine ⟨h.nd,λP=>(h.val P).trans ?_⟩;rw [Nat.zero_add,Cp];refine ae (fK B P) ?_
 funext Q x
 rw [uk];rfl
def XR:dz (C3 B w) (D3 B w):=by
 have h:=rH (B:=B) (w:=w) (jv:=3) (first:=2) (rH (B:=B) (w:=w) (jv:=3) (first:=1) (rH (B:=B) (w:=w) (jv:=3) (first:=0) dz.nil xE) (Cu (B:=B) (w:=w))) (J6 (B:=B) (w:=w));refine ⟨h.nd,λP=>(h.val P).trans ?_⟩;rw [Nat.zero_add,Cp,Cp];refine ae (fK B P) ?_
 funext Q x
 rw [uk,W7];rfl
def xF:∀p∈C0,0<p.2:=λp hp=>by rw [mem_singleton.mp hp];exact Nat.one_pos
def xG:∀p∈([]:bJ),0<p.2:=λZ hp=>nomatch hp
def Cv:∀p∈C1 B w,0<p.2:=pI xF xG
def J7:∀p∈C2 B w,0<p.2:=pI Cv (pI xF xG)
def XS:∀p∈C3 B w,0<p.2:=pI J7 (pI Cv (pI xF xG))
def xH(j:Nat):dz (CC B w j) (DD B w j):=match j with
 |0=>xE
 |1=>Cu
 |2=>J6
 |_+3=>XR
def J8(j:Nat):∀p∈CC B w j,0<p.2:=match j with
 |0=>xF
 |1=>Cv
 |2=>J7
 |_+3=>XS
def rI(G:aH B)(jv first:Nat)(dl c:bJ):(i8 B w jv first dl c).length<=c.length+6*dl.length:=af (Co _ dl c) (dc (Nat.mul_le_mul_right _ (Ca G _ _)) _)
def J9(G:aH B)(j:Nat):(CC B w j).length<=300:=by
 have h0:C0.length=1:=rfl;have hn:([]:bJ).length=0:=rfl;have H:(C1 B w).length<=6:=af (rI G 1 0 C0 []) (by lia);have I:(C2 B w).length<=42:=by
  have a:=rI (w:=w) G 2 0 C0 [];exact af (rI G 2 1 (C1 B w) (i8 B w 2 0 C0 [])) (by lia)
 have h3:(C3 B w).length<=294:=by
  have a:=rI (w:=w) G 3 0 C0 [];have b:=rI (w:=w) G 3 1 (C1 B w) (i8 B w 3 0 C0 []);exact af (rI G 3 2 (C2 B w) _) (by lia)
 match j with
 |0=>exact af (cr h0) (by decide)
 |1=>exact af H (by decide)
 |2=>exact af I (by decide)
 |_+3=>exact af h3 (by decide)
def XT(H:0<j)(h3:j<=3):CC B w j=(List.range j).foldl (λc a=>i8 B w j a (CC B w a) c) []:=mv (P:=λj=>0<j->CC B w j=(List.range j).foldl (λc a=>i8 B w j a (CC B w a) c) []) (λh=>aj h (dK 0)) (λZ=>rfl) (λZ=>rfl) (λZ=>rfl) (lt_succ_of_le h3) H
def Cw(j:Nat)(P:aa):P∈(CC B w j).map (·.1)↔0<DD B w j P:=BU (xH j) (J8 j) P
def XU(G:aH B)(hj:j<3):∀p∈CC B w j,p.2<=216:=λp hp=>by
 have hv:p.2=DD B w j p.1:=by
  rw [<-(xH j).val];unfold cf;rw [lh (xH j).nd (hp)];rfl
 rw [hv];exact ms (P:=λj=>DD B w j p.1<=216) (af (Cr _) (by decide)) (af (JS G _) (by decide)) (Xz G _) hj
def XV(hj:j<=3)(h:0<DD B w j P):P.length<=j:=cg.mp λq=>aj h (cg.mpr (cr (mv (P:=λj=>j<P.length->DD B w j P=0) wL AY AZ HF (lt_succ_of_le hj) q)))
def rJ(h:0<a*b):0<a:=Nat.pos_of_ne_zero λq=>by rw [q,zero_mul] at h;exact aj h (dK 0)
def Cy(h:0<a+b):0<a\/0<b:=(Nat.eq_zero_or_pos a).elim (λq=>.inr (by rw [q,Nat.zero_add] at h;exact h)) .inl
def Ka(H:0<j)(h3:j<=3)(h:0<DD B w j P):∃Q x i,P=Q++[x]/\x∈W B Q/\i<j/\0<DD B w i Q:=
 mv (P:=λj=>0<j->0<DD B w j P->∃Q x i,P=Q++[x]/\x∈W B Q/\i<j/\0<DD B w i Q) (λh=>aj h (dK 0))
  (λZ h=>du (Cq (show 0<fK B P λQ x=>D0 Q*t1 B w x 0 from h)) λQ x e hx h=>⟨Q,x,0,e,hx,by decide,rJ h⟩)
  (λZ h=>du (Cq (show 0<fK B P λQ x=>D0 Q*t2 B w x 0+D1 B w Q*t1 B w x 1 from h)) λQ x e hx h=>(Cy h).elim (λh=>⟨Q,x,0,e,hx,by decide,rJ h⟩) λh=>⟨Q,x,1,e,hx,by decide,rJ h⟩)
  (λZ h=>du (Cq (show 0<fK B P λQ x=>D0 Q*t3 B w x 0+D1 B w Q*t2 B w x 1+D2 B w Q*t1 B w x 2 from h)) λQ x e hx h=>(Cy h).elim (λh=>(Cy h).elim (λh=>⟨Q,x,0,e,hx,by decide,rJ h⟩) λh=>⟨Q,x,1,e,hx,by decide,rJ h⟩) λh=>⟨Q,x,2,e,hx,by decide,rJ h⟩)
  (lt_succ_of_le h3) H h
end
section
variable{Gl:Prop}
def XW(h:s.Y 34=some o):(fM B (s.lock (some 34)) TK).unlock (some 34)=fM B s TK:=by
 unfold fM;rw [uO h,uP (cu (cu f4)),gz (by decide),gz (l:=34) (by decide),gy,jM h]
def XX(h:s.Y 34=none)(ho:34∉s.own):(⟨ak (fM B ⟨ak s.Y 34 (some o),34::s.own⟩ TK).Y 34 none,(34::s.own).filter (· !=34)⟩:ah)=fM B s TK:=by
 rw [HH ho];refine ae (λτ=>(⟨τ,s.own⟩:ah)) ?_;show ak (ak (ak (ak s.Y 34 (some o)) 31 _) 32 _) 34 none=ak (ak s.Y 31 _) 32 _;rw [nA (l:=31) (by decide),nA (l:=32) (by decide),ma];refine funext λj=>?_;by_cases c:j=34
 ·subst c;exact gM.trans ((dF (by decide)).trans ((dF (by decide)).trans h)).symm
 ·exact dF c
def ml(B:List bk)(w:Nat->Nat)(j:Nat):List ab:=(List.range j).map λi=>.dict (cD (CC B w i))
def XY{j i:Nat}(h:i<j):(ml B w j)[i]?=some (.dict (cD (CC B w i))):=(getElem?_map ..).trans (ae (Option.map _) (List.getElem?_range h))
def XZ(G:aH B)(H:0<j)(h3:j<=3)(cy:16<D.length)(v1:D[1]?=some (some (.d (eG B))))(v2:D[2]?=some (some (.ref 30)))(v3:D[3]?=some (some (.ref 31)))(v4:D[4]?=some (some (.ref 32)))(v5:D[5]?=some (some (.ref 33)))(Kc:D[12]?=some (some (.d (.int j))))(hn:Nr 34 8 D)(io:s.Y 31=some (.dict (dj (gC B) TK)))(dg:s.Y 32=some (.dict (dj (iP B) TK)))(nP:s.Y 33=some (.list (ml B w j)))(gQ:s.Y 34=none)(ho:34∉s.own)(nO:∀a,a<j->fA s.Y (SC B w (j - a) a) a j)(hT:jS TK)(pK:TK.length<=300*j)(cA:∀i,i<j->∀P∈(CC B w i).map (·.1),P∈TK)
  (K:∀dB v,Kw [7,13,14,15,16] (D.set 8 (some (.d (.dict (cD (CC B w j)))))) v->bo (FQ (n+3)) xB D s=some (.next,v,(fM B s dB).put 33 (.list (ml B w (j+1))))->jS dB->dB.length<=300*(j+1)->(∀i,i<j+1->∀P∈(CC B w i).map (·.1),P∈dB)->Gl):Gl:=by
 have hl:=J9 (w:=w) G j;have X0:1800*j<=8000:=af (fO 1800 h3) (by decide);have X4:TK.length<=900:=af pK (fO 300 h3);have u8:(D.set 8 (some (PV.ref 34)))[8]?=some (some (.ref 34)):=bT (dJ (by decide) cy);refine XN (F:=FQ (n+3)) (w:=w) (dl:=CC B w) G h3 (bH cy) (aN v2) (aN v4) (aN v5) u8 (aN Kc) (c:=[]) (s:=⟨ak s.Y 34 (some (.dict [])),34::s.own⟩) gv nodup_nil (pf dg (by decide)) (pf nP (by decide)) Bf (λa ha=>?_) (by rw [length_range,length_nil,Nat.zero_add];exact X0) λw1 ff e1=>?_
 ·have ha:=mem_range.mp ha
  exact ⟨ha,(nO a ha).put (by decide) (cX (bx (by decide) (bz 100 _))),XY ha,λp hp=>⟨⟨cA a ha _ (bu.mpr ⟨p,hp,rfl⟩),af (hT.len _ (cA a ha _ (bu.mpr ⟨p,hp,rfl⟩))) (by decide)⟩,dZ (XU G (bx ha h3) p hp) (by decide)⟩,J9 G a⟩
 rw [<-XT (w:=w) H h3,show ((⟨ak s.Y 34 (some (.dict [])),34::s.own⟩:ah).put 34 (.dict (cD (CC B w j))))=⟨ak s.Y 34 (some (.dict (cD (CC B w j)))),34::s.own⟩ from congrArg (λτ=>(⟨τ,34::s.own⟩:ah)) ma] at e1;have Kd:(⟨ak s.Y 34 (some (.dict (cD (CC B w j)))),34::s.own⟩:ah).Y 34=some (.dict (cD (CC B w j))):=Bf;refine XL (n:=n+2) G (c7 ff (bH (dJ (by decide) cy))) (be ff (aN v1)) (be ff (aN v3)) (be ff (aN v4)) (L:=(CC B w j).map (·.1)) (s:=ah.lock ⟨ak s.Y 34 (some (.dict (cD (CC B w j)))),34::s.own⟩ (some 34)) gv hT ((uo (by decide)).trans (pf io (by decide))) ((uo (by decide)).trans (pf dg (by decide))) (λP hP=>xR (Ka H h3 ((Cw j P).mp hP)) λQ x i e hx hi h=>⟨Q,x,e,cA i hi Q ((Cw i Q).mpr h),(o6.mp hx).1,dZ (XV (af (Nat.le_of_lt hi) h3) h) (bx hi h3)⟩) (by rw [length_map];exact af (eI X4 hl) (by decide)) λdB w2 uq e2 g=>?_;have kw:=iY ff uq (show∀j∈[13],j∈[7,13,14,15,16] by decide);have w8:(w2.set 8 (some (PV.d (.dict (cD (CC B w j))))))[8]?=_:=bT (c7 kw (bH (dJ (by decide) cy)));refine K dB (w2.set 8 (some (.d (.dict (cD (CC B w j)))))) (set_set ..▸wP kw) ?_ g.ok (af g.len (by rw [length_map];exact eI pK hl)) λi hi P hP=>?_
 ·refine sq (bI (gf gQ)) (sq (kf (Cg (m:=j) (dZ h3 (by decide)) (ag (aN Kc))) e1) (sq (Eq.trans (kf (l:=(((CC B w j).map λp:aa×Nat=>p.1).map ab.str,some 34)) (fH (ag (be ff u8)) ?_) e2) (ae (λt=>some (Fl.next,w2,t)) (XW Kd))) (sq (Eq.trans (BW (j:=8) (k:=34) (be kw u8) (.head _) (by decide) (rd (l9 kw (Be hn))) (cu (cu Kd))) (ae (λt=>some (Fl.next,_,t)) (XX gQ ho))) (sq (Eq.trans (jp (nB (ag (aN (be kw (aN v5)))) (cu (cu nP)) (ag w8) (cu (cu nP)) ?_) rfl) ?_) rfl))))
  ·show (match ak s.Y 34 (some (.dict (cD (CC B w j)))) 34 with
    |some (.list J)=>some (J,some 34)
    |some (.dict al)=>some (al.map λ(p:aa×ab)=>ab.str p.1,some 34)
    |_=>none)=_
   rw [gM];exact ae (λl=>some (l,some 34)) ((map_map ..).trans (map_map (l:=CC B w j) (f:=λp:aa×Nat=>p.1) (g:=ab.str)).symm)
  ·rw [show (ml B w j).length=j from (length_map ..).trans length_range]
   exact af (dh h3) (by decide)
  ·refine ae (λl=>some (Fl.next,_,(fM B s dB).put 33 (.list l))) ?_
   unfold ml;rw [List.range_succ,map_append];rfl
 ·by_cases c:i=j
  ·subst c;exact g.new P hP
  ·exact g.sub P (cA i (Nat.lt_of_le_of_ne (le_of_lt_succ hi) c) P hP)
end
section
variable{Gl:Prop}
def X5(h:bo F body (args.map some++List.replicate (nv - args.length) none) ⟨s.Y,[]⟩=some (.ret (.d d),D,t))(c9:30∈t.own)(H:∀k∈t.own,s.Y k=none)(I:∀k,k∉t.own->t.Y k=s.Y k):dv F body nv false args s=some (.d d,s):=by
 show b3 (bo F body _ _) _=_;rw [h];show (if false=true then (some (PV.d d,(⟨t.Y,t.own++s.own⟩:ah))) else if t.own=[]\/(t.Y 30).isNone=true\/30∈t.own then some (PV.d d,⟨jf t.own t.Y,s.own⟩) else none)=_;rw [if_neg (by decide),if_pos (.inr (.inr c9)),HJ H I]
def fV(wl:aa)(B:List bk):aI:=[some (.d (.str wl)),some (.d (eG B)),some (.ref 30),some (.ref 31),some (.ref 32),some (.ref 33),none,none,none,none,none,none,none,none,none,none,none]
def tB(B:List bk)(Y:Nat->Option aV):Nat->Option aV:=ak (ak (ak Y 31 (some (.dict (dj (gC B) [])))) 32 (some (.dict (dj (iP B) [])))) 33 (some (.list [.dict (cD C0)]))
def X6(c9:Y 30=none)(io:Y 31=none)(dg:Y 32=none)(nP:Y 33=none):ex F (nS qi 0) [some (.d (.str wl)),some (.d (eG B)),none,none,none,none,none,none,none,none,none,none,none,none,none,none,none] ⟨Y,[]⟩=
  some (.next,fV wl B,⟨laid B w (tB B Y) [],[33,32,31,30]⟩):=by
 have e:ak (ak (ak (ak Y 30 (some (.tab []))) 31 (some (.dict []))) 32 (some (.dict []))) 33 (some (.list [.dict [([],.int 1)]]))=laid B w (tB B Y) []:=funext λk=>by
  by_cases c:k=30
  ·subst c;rfl
  ·show (if k=33 then _ else if k=32 then _ else if k=31 then _ else if k=30 then _ else Y k)=if k=30 then _ else _
   rw [if_neg c,if_neg c];rfl
 rw [<-e];refine (au (x:=PV.tup [.ref 30,.ref 31,.ref 32,.ref 33]) ?_).trans rfl;refine au (aP (x:=.ref 30) (V:=⟨ak Y 30 (some (.tab [])),[30]⟩) ?_ (aP (V:=⟨ak (ak Y 30 (some (.tab []))) 31 (some (.dict [])),[31,30]⟩) ?_ (aP (V:=⟨ak (ak (ak Y 30 (some (.tab []))) 31 (some (.dict []))) 32 (some (.dict [])),[32,31,30]⟩) ?_ (aP ?_ b9))))
 ·exact gf c9
 ·exact gf io
 ·exact gf dg
 ·exact gf nP
def X7{j a:Nat}(H:j<=3)(h:a<j):(a,j - a)∈im:=(show∀j∈List.range 4,∀a∈List.range j,(a,j - a)∈im by decide) j (mem_range.mpr (lt_succ_of_le H)) a (mem_range.mpr h)
def X8:∀q∈im,eH q:=show∀q∈im,0<q.2/\q.1+q.2<=3 by decide
def sL(B:List bk)(w:Nat->Nat)(s:ah)(TK:List aa)(j:Nat):ah:=(fM B ⟨laid B w (tB B s.Y) im,iO++[33,32,31,30]⟩ TK).put 33 (.list (ml B w j))
def X9:(fM B (sL B w s TK j) dB).put 33 (.list (ml B w j'))=sL B w s dB j':=by
 unfold sL;rw [show∀(t:ah)(o:aV),fM B (t.put 33 o) dB=(fM B t dB).put 33 o from λt o=>by unfold fM;rw [gz (k:=33) (by decide),gz (by decide)],gy,J2]
def Ya{j a:Nat}(H:j<=3)(h:a<j):fA (sL B w s TK m).Y (SC B w (j - a) a) a j:=
 have g:∀{k:Nat},k<100->k≠100+(8*a+j):=λh=>cX (bx h (bz 100 _))
 (((JO X8 h (X7 H h)).put (by decide) (g (by decide))).put (by decide) (g (by decide))).put (by decide) (g (by decide))
def Yb(h:s.Y 34=none):(sL B w s TK j).Y 34=none:=cu (cu (cu (show laid B w (tB B s.Y) im 34=none from (xw (by decide) (by decide)).trans h)))
noncomputable abbrev jJ:aa:=[6,7,9,10,11,12,13,14,15,16]
def Cz(G:aH B){y:Option PV}(H:0<j)(h3:j<=3)(kw:Kw jJ ((fV [w 0,w 1,w 2] B).set 8 y) D)(ur:s.Y 34=none)(hT:jS TK)(pK:TK.length<=300*j)(cA:∀i,i<j->∀P∈(CC B w i).map (·.1),P∈TK)
  (K:∀dB v,Kw jJ ((fV [w 0,w 1,w 2] B).set 8 (some (.d (.dict (cD (CC B w j)))))) v->bo (FQ (n+3)) xB (D.set 12 (some (.d (.int j)))) (sL B w s TK j)=some (.next,v,sL B w s dB (j+1))->jS dB->dB.length<=300*(j+1)->(∀i,i<j+1->∀P∈(CC B w i).map (·.1),P∈dB)->Gl):Gl:=
 have bp:Kw jJ ((fV [w 0,w 1,w 2] B).set 8 y) (D.set 12 (some (.d (.int j)))):=c8 kw;have at':∀{k:Nat}{X:Option PV},(fV [w 0,w 1,w 2] B)[k]?=some X->k<6->(D.set 12 (some (.d (.int j))))[k]?=some X:=λh hk=>be bp (aN h (cX (dJ hk (by decide)))) λq=>aj hk (cg.mpr ((show∀k∈jJ,6<=k by decide) _ q))
 XZ (s:=sL B w s TK j) G H h3 (c7 bp (show 16<17 by decide)) (at' rfl (by decide)) (at' rfl (by decide)) (at' rfl (by decide)) (at' rfl (by decide)) (at' rfl (by decide)) (bT (c7 kw (show 12<17 by decide))) (l9 bp (Be (re rfl))) (cu (cu f4)) (cu f4) f4 (Yb ur) (show 34∉iO++[33,32,31,30] by decide) (λa ha=>Ya h3 ha) hT pK cA λdB v kv e k1 k2 k3=>K dB v (iY (set_set ..▸wP bp) kv (by decide)) (e.trans (ae (λt=>some (Fl.next,v,t)) X9)) k1 k2 k3
def Yc(i9:∀k,30<=k->k<=34->s.Y k=none)(xI:∀k,100<=k->s.Y k=none):∀k,k∉iO++[32,30]->ak (ak (sL B w s TK j).Y 33 none) 31 none k=s.Y k:=λk hk=>by
 by_cases c1:k=31
 ·subst c1;exact gM.trans (i9 31 (by decide) (by decide)).symm
 ·refine (dF c1).trans ?_
  by_cases c3:k=33
  ·subst c3;exact gM.trans (i9 33 (by decide) (by decide)).symm
  ·have c9:k≠30:=λq=>hk (q.symm▸(show 30∈iO++[32,30] by decide))
   have dg:k≠32:=λq=>hk (q.symm▸(show 32∈iO++[32,30] by decide));refine (dF c3).trans ((dF c3).trans ((dF dg).trans ((dF c1).trans ?_)));have hf:im.find? (λp=>100+cR p==k)=none:=find?_eq_none.mpr λp hp q=>hk (bB.mp q▸(show∀p∈im,100+cR p∈iO++[32,30] by decide) p hp);show (if k=30 then _ else match im.find? (λp=>100+cR p==k) with|some p=>some (aV.dict (cD (SC B w p.2 p.1)))|none=>tB B s.Y k)=s.Y k;rw [if_neg c9,hf];exact (dF c3).trans ((dF dg).trans (dF c1))
def Yd(G:aH B)(i9:∀k,30<=k->k<=34->s.Y k=none)(xI:∀k,100<=k->s.Y k=none)
  (K:∀TK:List aa,(FQ (n+4)).fn 13 [.d (.str [w 0,w 1,w 2]),.d (eG B)] s=some (.d (.tup [.list (ml B w 4),.dict (dj (gC B) TK)]),s)->(∀i,i<4->∀P∈(CC B w i).map (·.1),P∈TK)->Gl):Gl:=by
 have ur:=i9 34 (by decide) (by decide);have Ye:jS [[]]:=⟨λP hP j=>by (rw [mem_singleton.mp hP,take_nil];exact .head _),(λP hP x hx=>aj (cC.mp hP▸hx) cp),λP hP=>by rw [mem_singleton.mp hP];exact bN _⟩
 refine Xu (n:=n) (Y:=tB B s.Y) (D:=fV [w 0,w 1,w 2] B) G (λk hk=>(dF (cY (bx (by decide) hk))).trans ((dF (cY (bx (by decide) hk))).trans ((dF (cY (bx (by decide) hk))).trans (xI k hk)))) (own:=[33,32,31,30]) (by decide) (show 11<17 by decide) rfl rfl rfl λv0 y8 kv e1=>?_;have a0:∀{k:Nat}{X:Option PV},(fV [w 0,w 1,w 2] B)[k]?=some X->k<6->v0[k]?=some X:=λh hk=>be kv (aN h (cX (dJ hk (by decide)))) λq=>aj hk (cg.mpr ((show∀k∈[6,7,9,10,11],6<=k by decide) _ q));have b1:=(show laid B w (tB B s.Y) im 31=tB B s.Y 31 from xw (by decide) (by decide))
 have b2:(⟨laid B w (tB B s.Y) im,iO++[33,32,31,30]⟩:ah).Y 32=some (.dict (dj (iP B) [])):=(show laid B w (tB B s.Y) im 32=tB B s.Y 32 from xw (by decide) (by decide))
 have e2:=J0 (F:=FQ (n+3)) (D:=v0) (s:=⟨laid B w (tB B s.Y) im,iO++[33,32,31,30]⟩) (u1:=.v 3 (U 276 4 8)) (u2:=.v 4 (U 276 14 19)) (z1:=.cS [] (U 276 9 11)) (z2:=.cS [] (U 276 20 22)) (q1:=U 276 4 12) (q2:=U 276 14 23) (q:=U 276 4 23) (p:=U 276 4 52) (e:=.call 12 [(.cS [] (U 276 35 37)),(.v 4 (U 276 39 44)),(.v 1 (U 276 46 51))] (U 276 26 34) (U 276 26 52)) (P:=[]) (d1:=gC B []) (d2:=iP B []) (f5 (aP (x:=.d (.str [])) rfl (aP (ag (a0 rfl (by decide))) (aP (ag (a0 rfl (by decide))) b9))) (Jz (n:=n+2) (B:=B) (P:=[]) G (λx hx=>nomatch hx) b2 λk h0 hk=>aj (bx h0 hk) (dK 0))) (ag (a0 rfl (by decide))) rfl (ag (a0 rfl (by decide))) rfl b1 b2 (by decide) (show 0+1<=lim by decide) (show 0+1<=lim by decide);have e3:(fM B ⟨laid B w (tB B s.Y) im,iO++[33,32,31,30]⟩ [[]])=sL B w s [[]] 1:=(jM (k:=33) (cu (j:=33) (cu (j:=33) (show laid B w (tB B s.Y) im 33=tB B s.Y 33 from xw (by decide) (by decide))))).symm;refine Cz (n:=n) (s:=s) G (j:=1) (by decide) (by decide) (iY (aW:=jJ) gv kv (by decide)) ur Ye (by decide) (λi hi=>CU (P:=λi=>∀P∈(CC B w i).map (λp:aa×Nat=>p.1),P∈[([]:aa)]) (λP hP=>hP) hi) λT1 v1 k1 f1 t1 l1 i1=>?_;refine Cz (n:=n) (s:=s) G (j:=2) (by decide) (by decide) k1 ur t1 l1 i1 λT2 v2 k2 f2 t2 l2 i2=>?_;refine Cz (n:=n) (s:=s) G (j:=3) (by decide) (by decide) k2 ur t2 l2 i2 λT3 v3 k3 f3 t3 l3 i3=>K T3 ?_ i3;have a3:∀{k:Nat}{X:Option PV},(fV [w 0,w 1,w 2] B)[k]?=some X->k<6->v3[k]?=some X:=λh hk=>be k3 (aN h (cX (dJ hk (by decide)))) λq=>aj hk (cg.mpr ((show∀k∈jJ,6<=k by decide) _ q));have l3:∀{k:Nat},k<17->k<v3.length:=λh=>c7 k3 h;refine (UL _ _).trans (X5 (D:=(v3.set 5 (some (.d (.list (ml B w 4))))).set 3 (some (.d (.dict (dj (gC B) T3))))) (t:=⟨ak (ak (sL B w s T3 4).Y 33 none) 31 none,iO++[32,30]⟩) (sq (X6 (i9 30 (by decide) (by decide)) (i9 31 (by decide) (by decide)) (i9 32 (by decide) (by decide)) (i9 33 (by decide) (by decide))) (sq e1 (sq (e2.trans (ae (λt=>some (Fl.next,v0,t)) ((J3 cp).trans e3))) (sq (kf (l:=((List.range 3).map λ(k:Nat)=>ab.int (k+1:Nat),none)) (B4 (i:=1) (m:=3) (by decide) ju (iM (i:=3) (j:=1) (pA (l:=[w 0,w 1,w 2]) (ag (a0 rfl (by decide)))) ju)) (fu rfl f1 (fu rfl f2 (fu rfl f3 rfl)))) (sq (xj (a3 rfl (by decide)) (show 33∈iO++[33,32,31,30] by decide) (by decide) (rd (l9 k3 (re rfl))) f4) (sq (BW (aN (a3 rfl (by decide))) (show 31∈(iO++[33,32,31,30]).filter (· !=33) by decide) (by decide) (rd (l9 (c8 (aW:=[5]) gv (.head _)) (l9 k3 (re rfl)))) (pf (cu (cu f4)) (by decide))) (sr (fe (nE (ag (aN (bT (l3 (by decide))))) (ag (bT (bH (l3 (by decide))))))) rfl))))))) (show 30∈iO++[32,30] by decide) (λk hk=>?_) (Yc i9 xI));rcases (show∀k∈iO++[32,30],k=32\/k=30\/100<=k by decide) k hk with rfl|rfl|h
 ·exact i9 32 (by decide) (by decide)
 ·exact i9 30 (by decide) (by decide)
 ·exact xI k h
end
structure iu(S:aa):Prop where
 eq:∃c d,S=[c,d,256,257,258]/\(7<=c/\c<55)/\(7<=d/\d<55)
def Ke(h:7<=c/\c<55):c∈codes:=cE _ (bu.mpr ⟨c - 7,mem_range.mpr (by lia),(Nat.sub_add_cancel h.1)⟩)
def iu.codes(h:iu S):∀c∈S,c∈codes:=by
 obtain ⟨c,d,rfl,hc,hd⟩:=h.eq;intro x hx;rcases bA.mp hx with rfl|hx
 ·exact Ke hc
 rcases bA.mp hx with rfl|hx
 ·exact Ke hd
 ·exact cj _ hx
def iu.len(h:iu S):S.length=5:=by
 obtain ⟨c,d,rfl,_⟩:=h.eq
 rfl
def iu.get(h:iu S)(hk:k<5):S[k]?=some (S.getD k 0)/\S.getD k 0∈S:=by
 have:=h.len;have hk:k<S.length:=(af hk (cr this.symm))
 rw [getD_eq_getElem?_getD,getElem?_eq_getElem hk];exact ⟨rfl,List.getElem_mem _⟩
def iu.two(h:iu S)(hk:k<2):S.getD k 0<256:=by
 obtain ⟨c,d,rfl,hc,hd⟩:=h.eq;exact xT (P:=λk=>[c,d,256,257,258].getD k 0<256) (af hc.2 (by decide:55<=256)) (af hd.2 (by decide:55<=256)) hk
def iu.left(h:iu S)(hk:k<3):S[2+k]?=some (256+k):=by
 obtain ⟨c,d,rfl,_⟩:=h.eq;exact ms (P:=λk=>[c,d,256,257,258][2+k]?=some (256+k)) rfl rfl rfl hk
noncomputable def f7 (r:Nat):aa:=[r / 9 % 5,r / 45 % 5,r / 225 % 5].take (1+r / 3 % 3)
def gj(r:Nat):aa:=if (f7 r).length=1 then [(f7 r).getD 0 0 % 2] else f7 r
noncomputable def gR (bV r:Nat):Nat:=if 0<bV then r % 3 else 0
def gT(S:aa)(r:Nat):aa:=(gj r).map λk=>S.getD k 0
def jc(S:aa)(bV r:Nat):bk:=(256+gR bV r,gT S r)
def Yf(r:Nat):(f7 r).length=1+r / 3 % 3:=by
 unfold f7;rw [length_take];show min (1+r / 3 % 3) 3=_;lia
def Yg(r:Nat):∀k∈f7 r,k<5:=λk hk=>by
 have hk:=mem_of_mem_take hk;rcases bA.mp hk with rfl|hk
 ·exact mod_lt _ (by decide)
 rcases bA.mp hk with rfl|hk
 ·exact mod_lt _ (by decide)
 ·rw [mem_singleton.mp hk];exact mod_lt _ (by decide)
def Kf(r:Nat):∀k∈gj r,k<5:=by
 unfold gj
 split
 ·intro k hk
  rw [mem_singleton.mp hk];exact bx (mod_lt _ (by decide)) (by decide)
 ·exact Yg r
def CA(r:Nat):0<(gj r).length/\(gj r).length<=3:=by
 have h:=Yf r;unfold gj
 split
 ·exact ⟨Nat.one_pos,(show 1<=3 by decide)⟩
 ·constructor<;>lia
def Kg(bV r:Nat):gR bV r<3:=by
 unfold gR
 split
 ·exact mod_lt _ (by decide)
 ·decide
def Yh(h:iu S)(bV r:Nat):hU (jc S bV r) where
 left:=by
  have:=Kg bV r;show 256+gR bV r=256\/256+gR bV r=257\/256+gR bV r=258;lia
 len:=by
  show 0<(gT S r).length/\(gT S r).length<=3;unfold gT;rw [length_map];exact CA r
 sym c hc:=by
  obtain ⟨k,hk,rfl⟩:=bu.mp hc;exact h.codes _ (h.get (Kf r k hk)).2
 lone y hy:=by
  have hl:(gj r).length=1:=by
   have:=ae List.length hy;rw [show (jc S bV r).2=(gj r).map λk=>S.getD k 0 from rfl,length_map] at this;exact this
  by_cases c:(f7 r).length=1
  ·have e:(jc S bV r).2=[S.getD ((f7 r).getD 0 0 % 2) 0]:=by
    show (gj r).map _=_;unfold gj;rw [if_pos c];rfl
   rw [e] at hy;rw [<-head_eq_of_cons_eq hy];exact h.two (mod_lt _ (by decide))
  ·unfold gj at hl
   rw [if_neg c] at hl;exact aj hl c
def Yi(h:∀c∈r,c∈codes)(h':∀c∈r',c∈codes)(e:bC r=bC r'):r=r':=(qQ h).uniq (e▸qQ h')
structure RI(L:List bk)(RH:List (aa×aa))(m:Nat):Prop where
 ok:∀r∈L,hU r
 nd:L.Nodup
 len:L.length<=m
 hlen:RH.length<=m
 all:∀X,X=256\/X=257\/X=258->(RH.filter λp=>bQ p.1==bQ (nm X)).map (·.2)=(cz L X).map λi=>bC i.2.1
 keys:∀p∈RH,dR p.1
def RI.nil:RI [] [] 0:=⟨λZ h=>(nomatch h),nodup_nil,aD _,aD _,λZ Z=>rfl,λZ h=>nomatch h⟩
def RI.mono(h:RI L RH m)(hk:m<=k):RI L RH k:=⟨h.ok,h.nd,af h.len hk,af h.hlen hk,h.all,h.keys⟩
def Yj(hX:X=256\/X=257\/X=258)(hY:yY=256\/yY=257\/yY=258)(e:bQ (nm X)=bQ (nm yY)):X=yY:=by
 rcases hX with rfl|rfl|rfl<;>rcases hY with rfl|rfl|rfl<;>first|rfl|exact aj e (by decide)
def RI.add(h:RI L RH m)(hr:hU r)(hn:r∉L)(hx:dR x)(i9:bQ x=bQ (nm r.1)):RI (L++[r]) (RH++[(x,bC r.2)]) (m+1) where
 ok q hq:=(bD.mp hq).elim (h.ok q) λz=>by rw [mem_singleton.mp z];exact hr
 nd:=nodup_append.mpr ⟨h.nd,eS.mpr ⟨(λq=>nomatch q),nodup_nil⟩,λa ha b hb e=>hn (cC.mp hb▸e▸ha)⟩
 len:=by rw [length_append];exact dh h.len
 hlen:=by rw [length_append];exact dh h.hlen
 all X hX:=by
  have H:=h.all X hX;have I:cz (L++[r]) X=cz L X++cz [r] X:=by
   unfold cz;rw [List.filter_append,map_append]
  rw [I,List.filter_append,map_append,map_append,H,Js];refine ae _ ?_;by_cases e:r.1=X
  ·rw [if_pos e,filter_cons_of_pos (p:=λp:aa×aa=>bQ p.1==bQ (nm X)) (beq_iff_eq.mpr (by rw [i9,e]))];rfl
  ·rw [if_neg e,filter_cons_of_neg (p:=λp:aa×aa=>bQ p.1==bQ (nm X)) (λq=>e (Yj hr.left hX (i9.symm.trans (beq_iff_eq.mp q))))];rfl
 keys p hp:=(bD.mp hp).elim (h.keys p) λz=>by rw [mem_singleton.mp z];exact hx
def Yk(h:RI L RH m)(hr:hU r):bC r.2∈(cz L r.1).map (λi=>bC i.2.1)↔r∈L:=by
 rw [List.mem_map];constructor
 ·rintro ⟨i,hi,e⟩
  refine fC (hV.mp hi) λa b Z=>?_;have:=Yi (h.ok _ a).sym hr.sym e;rw [Prod.ext b.symm this.symm];exact a
 ·intro hm
  exact ⟨(r.1,r.2,0),hV.mpr ⟨hm,rfl,rfl⟩,rfl⟩
def rS(Y:Nat->Option aV)(L:List bk)(RH:List (aa×aa)):Nat->Option aV:=ak (ak Y 2 (some (.list (L.map dY)))) 1 (some (.list (RH.map hd)))
def nQ:List PS:=fL (nS qh 1)
section
variable{D aS:aI}
def Yl:ak (rS Y L RH) 2 (some (.list (L'.map dY)))=rS Y L' RH:=by
 unfold rS;rw [nA (by decide),ma]
def Ym:ak (rS Y L RH) 1 (some (.list (pL.map hd)))=rS Y L pL:=ma
def Yn{i j:Int}(h:0<j/\j<2 ^ 30):lD .fdiv (.d (.int i)) (.d (.int j)) s=some (.d (.int (i / j))):=by
 have e:lD .fdiv (.d (.int i)) (.d (.int j)) s=Option.map (λk=>PV.d (.int k)) (if 0<j/\j<2 ^ 30 then some (i / j) else none):=rfl;rw [e,if_pos h];rfl
def lq{i j:Nat}(H:ev F a D s=some (.d (.int i),V))(I:ev F b D V=some (.d (.int j),s''))(hj:0<j:=by decide)(GC:j<1000000:=by decide):ev F (.bin .mod a b p) D s=some (.d (.int (i % j:Nat)),s''):=dM H I ((xe ⟨by lia,by lia⟩).trans (by rw [Int.natCast_emod]))
def mm{i j:Nat}(H:ev F a D s=some (.d (.int i),V))(I:ev F b D V=some (.d (.int j),s''))(hj:0<j:=by decide)(GC:j<1000000:=by decide):ev F (.bin .fdiv a b p) D s=some (.d (.int (i / j:Nat)),s''):=dM H I ((Yn ⟨by lia,by lia⟩).trans (by rw [Int.natCast_ediv]))
def dS:ev F (.cI (k:Nat) p) D s=some (.d (.int (k:Nat)),s):=rfl
theorem Kh:∀L:List bk,ab.plains (L.map dY)=true
 |[]=>rfl
 |r::L=>Kh L
def Yo(r r':bk):fD (dY r) (dY r')=decide (r=r'):=by
 have e:fD (dY r) (dY r')=([r.1]==[r'.1]&&(r.2==r'.2&&(bC r.2==bC r'.2&&true))):=rfl;rw [e];by_cases c:r=r'
 ·subst c
  rw [beq_self_eq_true,beq_self_eq_true,beq_self_eq_true,decide_eq_true rfl];rfl
 ·rw [decide_eq_false c]
  refine eq_false_iff.mpr λq=>?_;refine aT ((and_eq_true _ _).mp q) λq1 q2=>?_;refine aT ((and_eq_true _ _).mp q2) λq3 Z=>?_;exact c (Prod.ext (head_eq_of_cons_eq (bB.mp q1)) (bB.mp q3))
theorem Ki(r:bk):∀L:List bk,(L.map dY).any (λy=>fD y (dY r))=decide (r∈L)
 |[]=>rfl
 |r'::L=>by
  rw [map_cons,any_cons,Ki r L,Yo,Bool.eq_iff_iff,or_eq_true,decide_eq_true_iff,decide_eq_true_iff,decide_eq_true_iff,mem_cons];exact ⟨λh=>h.imp_left Eq.symm,λh=>h.imp_left Eq.symm⟩
def Yp{r:bk}{L:List bk}(hs:s.Y j=some (.list (L.map dY))):jU (.d (dY r)) (.ref j) s=some (decide (r∈L)):=by
 show o1 (eW s (.ref j)) (λJ=>if (dY r).plain&&ab.plains J then some (J.any λy=>fD y (dY r)) else none) _=_;rw [u4 hs];show (if (dY r).plain&&ab.plains (L.map dY) then _ else _)=_;rw [Kh,Ki];rfl
def Yq{x:aa}(l:List aa):jU (.d (.str x)) (.d (.list (l.map .str))) s=some (decide (x∈l)):=by
 show (if (true&&ab.plainsN 8 (l.map .str))=true then some ((l.map ab.str).any λy=>fD y (.str x)) else none)=_;have H:ab.plainsN 8 (l.map .str)=true:=by
  induction l with
  |nil=>rfl
  |cons y l ih=>exact ih
 rw [H];refine ae some ?_;rw [Bool.eq_iff_iff,any_eq_true,decide_eq_true_iff];constructor
 ·rintro ⟨d,hd,q⟩
  obtain ⟨y,hy,rfl⟩:=bu.mp hd;exact (bB.mp q)▸hy
 ·exact λh=>⟨_,bu.mpr ⟨x,h,rfl⟩,beq_self_eq_true x⟩
theorem Kj(f:α->Nat):∀l:List α,(l.map λk=>[f k]).flatten=l.map f
 |[]=>rfl
 |k::l=>by rw [map_cons,List.flatten_cons,Kj f l];rfl
def Yr(H:ev F a D s=some (.d d1,s))(I:ev F b D s=some (.d d2,s))(h3:ev F c D s=some (.d d3,s)):ev F (.tup [a,b,c] p) D s=some (.d (.tup [d1,d2,d3]),s):=au (aP H (aP I (aP h3 b9)))
def Ys(H:ev F a D s=some (.d d1,s))(I:ev F b D s=some (.d d2,s))(h3:ev F c D s=some (.d d3,s)):ev F (.lst none [a,b,c] p) D s=some (.d (.list [d1,d2,d3]),s):=au (aP H (aP I (aP h3 b9)))
def Yt{r:Nat}(h7:D[7]?=some (some (.d (.int r)))):
  ev F (.sl (.lst none [(.bin .mod (.bin .fdiv (.v 7 w1) (.cI 9 w2) w3) (.cI 5 w4) w5),(.bin .mod (.bin .fdiv (.v 7 w6) (.cI 45 w7) w8) (.cI 5 w9) rx),(.bin .mod (.bin .fdiv (.v 7 ua) (.cI 225 ub) Kk) (.cI 5 Yu) Yv)] Yw) .no (.at_ (.bin .add (.cI 1 Yx) (.bin .mod (.bin .fdiv (.v 7 Yy) (.cI 3 Yz) YA) (.cI 3 YB) YC) YD)) YE YF) D s=some (.d (.list (cV (f7 r))),s):=by
 have h:=wY (F:=F) (D:=D) (s:=s) (V:=s) (s'':=s) (p:=YF) (q:=YE) (k:=1+r / 3 % 3) (Ys (p:=Yw) (lq (p:=w5) (j:=5) (mm (p:=w3) (j:=9) (ag (p:=w1) h7) (dS (p:=w2))) (dS (p:=w4))) (lq (p:=rx) (i:=r / 45) (j:=5) (mm (p:=w8) (i:=r) (j:=45) (ag (p:=w6) h7) (dS (p:=w7))) (dS (p:=w9))) (lq (p:=Yv) (i:=r / 225) (j:=5) (mm (p:=Kk) (i:=r) (j:=225) (ag (p:=ua) h7) (dS (p:=ub))) (dS (p:=Yu)))) (iM (p:=YD) (i:=1) (j:=r / 3 % 3) (dS (p:=Yx)) (lq (p:=YC) (i:=r / 3) (j:=3) (mm (p:=YA) (i:=r) (j:=3) (ag (p:=Yy) h7) (dS (p:=Yz))) (dS (p:=YB))));refine Eq.trans h (ae (λl=>some (PV.d (.list l),s)) ?_);unfold f7 cV;rw [map_take];rfl
def YG{r:Nat}:(if (f7 r).length=1 then (D.set 9 (some (PV.d (.list (cV (f7 r)))))).set 9 (some (PV.d (.list (cV (gj r))))) else D.set 9 (some (PV.d (.list (cV (f7 r))))))=D.set 9 (some (PV.d (.list (cV (gj r))))):=by
 unfold gj;by_cases c:(f7 r).length=1
 ·rw [if_pos c,if_pos c,set_set]
 ·rw [if_neg c,if_neg c]
def YH{r:Nat}(h9:D[9]?=some (some (.d (.list (cV (f7 r)))))):
  ex F (.ite (.cmp .eq (.bi .len (.v 9 w1) w2 w3) (.cI 1 w4) w5) [.asg 9 (.lst none [(.bin .mod (.idx (.v 9 w6) (.cI 0 w7) w8) (.cI 2 w9) rx)] ua) ub Kk] [] pp) D s=some (.next,if (f7 r).length=1 then D.set 9 (some (.d (.list (cV (gj r))))) else D,s):=by
 have ht:bP F (.cmp .eq (.bi .len (.v 9 w1) w2 w3) (.cI 1 w4) w5) D s=some (decide ((f7 r).length=1),s):=cT (iH (ag h9) (ae (λk:Nat=>some (ab.int k)) (length_map (f:=λc:Nat=>ab.int c)))) ju Jd;by_cases c:(f7 r).length=1
 ·rw [if_pos c]
  have hk:(cV (f7 r))[0]?=some (.int ((f7 r).getD 0 0:Nat)):=by
   unfold cV;rw [getElem?_map,getD_eq_getElem?_getD,getElem?_eq_getElem (c▸Nat.one_pos)];rfl
  refine ic (ht.trans (by rw [decide_eq_true c])) (sq (bI (rB (lq (ke (ag h9) rfl hk) (dS)))) ?_);unfold gj;rw [if_pos c];rfl
 ·rw [if_neg c]
  exact gN (ht.trans (by rw [decide_eq_false c])) rfl
noncomputable def lr (k:Nat):aa:=[[83,65,66,115,97,98].getD k 0]
def YI(hl:l<3)(hu:u<2):dR (lr (l+3*u))/\bQ (lr (l+3*u))=bQ (nm (256+l))/\[83,65,66,115,97,98][l+3*u]?=some ([83,65,66,115,97,98].getD (l+3*u) 0):=
 xT (P:=λu=>dR (lr (l+3*u))/\bQ (lr (l+3*u))=bQ (nm (256+l))/\[83,65,66,115,97,98][l+3*u]?=some ([83,65,66,115,97,98].getD (l+3*u) 0))
  (ms (P:=λl=>(∀c∈lr l,(32<=c/\c<127))/\bQ (lr l)=bQ (nm (256+l))/\[83,65,66,115,97,98][l]?=some ([83,65,66,115,97,98].getD l 0)) (by decide) (by decide) (by decide) hl)
  (ms (P:=λl=>(∀c∈lr (l+3),(32<=c/\c<127))/\bQ (lr (l+3))=bQ (nm (256+l))/\[83,65,66,115,97,98][l+3]?=some ([83,65,66,115,97,98].getD (l+3) 0)) (by decide) (by decide) (by decide) hl) hu
def Kl(hl:l<3):[83,65,66][l]?=some ([83,65,66].getD l 0)/\nm (256+l)=[[83,65,66].getD l 0]:=ms (P:=λl=>[83,65,66][l]?=some ([83,65,66].getD l 0)/\nm (256+l)=[[83,65,66].getD l 0]) ⟨rfl,rfl⟩ ⟨rfl,rfl⟩ ⟨rfl,rfl⟩ hl
def YJ{α:Type}{f:α->Nat}{l:List α}(h:∀x∈l,f x<=k)(hl:l.length<=m):(l.map f).sum<=k*m:=af (xp h) (fO _ hl)
def Km(hs:aA.length<=1)(hl:fs.length<=3)(hg:∀k∈fs,(g k).length<=4)(h9:ev F o9 D s=some (.d (.list (cV fs)),s))(hp:∀k∈fs,ev F vx ([some (.d (.int (k:Nat)))]++n8 D [ca]) s=some (.d (.str (g k)),s)):
  ev F (.me .join (.cS aA w1) [(.comp none [ca] [0] 1 (.val o9) [] vx sc ps w2)] w3 w4) D s=some (.d (.str (bZ aA (fs.map g))),s):=by
 refine mf rfl (gO (fH h9 rfl) ((length_map (f:=λc:Nat=>ab.int c)).symm▸af hl (by decide)) ((kj λk hk=>gA (c:=true) rfl rfl λZ=>hp k hk).trans rfl)) rfl ?_ ?_ ?_
 ·rw [<-lf,map_map];rfl
 ·exact af (mul_le_mul ((length_map ..).symm▸hl) (dh hs)) (show 3*2<=8000000 by decide)
 ·rw [map_map]
  exact af (YJ hg hl) (show 4*3<=8000000 by decide)
structure NF(S:aa)(D:aI):Prop where
 l:D.length=12
 v1:D[1]?=some (some (.d (.str S)))
 v2:D[2]?=some (some (.d (.list (S.map λc=>.str (bG c)))))
 v3:D[3]?=some (some (.ref 2))
 v4:D[4]?=some (some (.hdr 1))
def NF.kw(h:NF S D)(k:Kw aW D aS)(hJ:∀j∈aW,4<j):NF S aS:=⟨k.1.trans h.l,be k h.v1 λq=>aj (hJ _ q) (by decide),be k h.v2 λq=>aj (hJ _ q) (by decide),be k h.v3 λq=>aj (hJ _ q) (by decide),be k h.v4 λq=>aj (hJ _ q) (by decide)⟩
def YK(hS:iu S)(ce:NF S D){bV r:Nat}(h5:D[5]?=some (some (.d (.int bV))))(h6:D[6]?=some (some (.d (.int z))))(hr:z % 2250=(r:Int))(hR:bo F [nS nQ 6,nS nQ 7] (((((D.set 7 (some (.d (.int r)))).set 8 (some (.d (.int (gR bV r))))).set 9 (some (.d (.list (cV (gj r)))))).set 10 (some (.d (.str (gT S r))))).set 11 (some (.d (.str (bC (gT S r)))))) s=R):bo F nQ D s=R:=by
 have hl:∀{k:Nat},k<12->k<D.length:=λh=>ce.l.symm▸h;have l5:∀k∈gj r,k<5:=Kf r;have a7:(D.set 7 (some (PV.d (.int r))))[7]?=_:=bT (hl (by decide));have a9:∀{x:Option PV}{y:PV},(((D.set 7 (some (PV.d (.int r)))).set 8 x).set 9 (some y))[9]?=some (some y):=bT (bH (bH (hl (by decide))));refine sq (bI (dM (ag h6) rfl ((xe ⟨by decide,by decide⟩).trans (by rw [hr])))) (sq (bI (x:=.d (.int (gR bV r))) ?_) (sq (bI (Yt (aN a7))) (sq ((YH a9).trans (ae (λv=>some (Fl.next,v,s)) YG)) (sq (bI (x:=.d (.str (gT S r))) (V:=s) (Eq.trans (Km (aA:=[]) (g:=λk=>[S.getD k 0]) (bN _) (CA r).2 (λZ Z=>show 1<=4 by decide) (ag a9) λk hk=>ll (ag (ae (λo=>some (Option.getD o none)) (aN (aN (aN ce.v1))))) (ag rfl) (hS.get (l5 k hk)).1) ?_)) (sq (bI (x:=.d (.str (bC (gT S r)))) (V:=s) (Eq.trans (Km (aA:=[32]) (g:=λk=>bG (S.getD k 0)) (aD _) (CA r).2 (λk hk=>le_succ_of_le (j7 (hS.codes _ (hS.get (l5 k hk)).2)).len.2) (ag (aN a9)) λk hk=>ke (ag (ae (λo=>some (Option.getD o none)) (aN (aN (aN (aN ce.v2)))))) (ag rfl) (by rw [getElem?_map,(hS.get (l5 k hk)).1];rfl)) ?_)) hR)))))
 ·refine Eq.trans (qK (c:=decide (0<bV)) (cT (x:=.d (.int bV)) (y:=.d (.int 0)) (ag (aN h5)) rfl (ae some (decide_eq_decide.mpr Int.natCast_pos)))) ?_
  unfold gR;by_cases c:0<bV
  ·rw [decide_eq_true c,if_pos c]
   exact lq (p:=default) (i:=r) (j:=3) (ag a7) (dS (k:=3))
  ·rw [decide_eq_false c,if_neg c];rfl
 ·rw [B7,Kj];rfl
 ·unfold bC gT
  rw [map_map];rfl
def YL(hS:iu S)(gB:Y 16=none)(c9:Y 30=none)(bg:RI L RH m)(hm:m<=10){bV r:Nat}(hr:r<2250)(ce:NF S D)(h7:D[7]?=some (some (.d (.int r))))(h8:D[8]?=some (some (.d (.int (gR bV r)))))(cH:D[10]?=some (some (.d (.str (gT S r)))))(ru:D[11]?=some (some (.d (.str (bC (gT S r)))))):
  ∃(L':List bk)(pL:List (aa×aa)),bo (FQ (n+2)) [nS nQ 6,nS nQ 7] D ⟨rS Y L RH,own⟩=some (.next,D,⟨rS Y L' pL,own⟩)/\RI L' pL (m+1):=by
 have hl:=Kg bV r;have pN:=Yh hS bV r;have et:∀{w1 w2 w3 w4 w5 w6 w7:Pos},ev (FQ (n+2)) (.tup [(.idx (.v 1 w1) (.bin .add (.cI 2 w2) (.v 8 w3) w4) w5),(.v 10 w6),(.v 11 w7)] default) D ⟨rS Y L RH,own⟩=some (.d (dY (jc S bV r)),⟨rS Y L RH,own⟩):=Yr (ll (ag ce.v1) (iM (i:=2) (dS (k:=2)) (ag h8)) (hS.left hl)) (ag cH) (ag ru);have s2:rS Y L RH 2=some (.list (L.map dY)):=(jR (by decide)).trans ie;have e6:bP (FQ (n+2)) (fv (nS nQ 6)) D ⟨rS Y L RH,own⟩=some (decide (jc S bV r∉L),⟨rS Y L RH,own⟩):=cT et (ag ce.v3) ((ae (Option.map (!·)) (Yp s2)).trans (ae some (decide_not ..).symm));have e7:∀L',bP (FQ (n+2)) (fv (nS nQ 7)) D ⟨rS Y L' RH,own⟩=some (decide (jc S bV r∉L),⟨rS Y L' RH,own⟩):=by
  intro L';have eg:=HO (n:=n) (s:=⟨rS Y L' RH,own⟩) (j:=1) (x:=nm (256+gR bV r)) (show ak (ak Y 2 (some (.list (L'.map dY)))) 1 (some (.list (RH.map hd))) 1=_ from ie) (λc hc=>(tK (.inr pN.left) c hc).1) bg.keys (af bg.hlen (af hm (by decide)));rw [show ((RH.filter λp=>bQ p.1==bQ (nm (256+gR bV r))).map λp=>ab.str p.2)=((cz L (256+gR bV r)).map λi=>bC i.2.1).map .str by rw [<-bg.all (256+gR bV r) pN.left,map_map];rfl] at eg;exact cT (ag ru) (md (ag ce.v4) (aP ((ll rfl (ag h8) (Kl hl).1).trans (by rw [(Kl hl).2])) b9) eg) ((ae (Option.map (!·)) (Yq _)).trans (ae some ((decide_not ..).symm.trans (decide_eq_decide.mpr (not_congr (Yk bg pN))))))
 by_cases c:jc S bV r∈L
 ·have e7:=e7 L
  rw [decide_eq_false (λq=>q c)] at e6 e7;exact ⟨L,RH,sq (gN e6 rfl) (sq (gN e7 rfl) rfl),bg.mono (le_succ _)⟩
 ·obtain ⟨n1,n2,n3⟩:=YI hl (Nat.div_lt_of_lt_mul (show r<1125*2 from hr))
  have e7:=e7 (L++[jc S bV r]);rw [decide_eq_true c] at e6 e7;have YM:dR (bC (gT S r)):=λc hc=>(tJ pN.sym c hc).1;have ji:(bC (gT S r)).length<=1000:=af (o5 pN.sym) (af (fO 4 pN.len.2) (by decide));have ea:=HR (n:=n) (s:=⟨rS Y (L++[jc S bV r]) RH,own⟩) (j:=1) (hl:=RH) (x:=lr (gR bV r+3*(r / 1125))) (v:=bC (gT S r)) (show ak (ak Y 2 (some (.list ((L++[jc S bV r]).map dY)))) 1 (some (.list (RH.map hd))) 1=_ from ie) (by decide) (show rS Y (L++[jc S bV r]) RH 16=none from gB) (show rS Y (L++[jc S bV r]) RH 30=none from c9) n1 YM (af (dh (af bg.hlen hm)) (by decide)) ji;exact ⟨L++[jc S bV r],RH++[(lr (gR bV r+3*(r / 1125)),bC (gT S r))],sq (ic e6 (sq (jp (Eq.trans (nB (ag ce.v3) s2 et s2 ((length_map ..).symm▸af (dh (af bg.len hm)) (by decide))) (ae (λτ=>some (PV.d .none,(⟨τ,own⟩:ah))) ((ae (λl=>ak (rS Y L RH) 2 (some (.list l))) (map_append (f:=dY) (l₂:=[jc S bV r])).symm).trans Yl))) rfl) rfl)) (sq (ic e7 (sq (jp (md (ag ce.v4) (aP (Eq.trans (ll (J:=[83,65,66,115,97,98]) rfl (iM (ag h8) (ui (i:=3) (by decide) (dZ (Nat.div_le_self ..) (dJ hr (by decide))) (dS (k:=3)) (mm (i:=r) (j:=1125) (ag h7) (dS (k:=1125))))) n3) rfl) (aP (ag ru) b9)) (ea.trans (ae (λτ=>some (PV.d .none,(⟨τ,own⟩:ah))) Ym))) rfl) rfl)) rfl),bg.add pN c n1 n2⟩
def YN{Gl:Prop}(hS:iu S)(gB:Y 16=none)(c9:Y 30=none){zs:List Int}:∀{k:Nat}{L:List bk}{RH:List (aa×aa)}{m:Nat}{D:aI},NF S D->RI L RH m->m+zs.length<=10->
  (∀L' pL v,Kw [5,6,7,8,9,10,11] D v->dD (lb (FQ (n+2)) [5,6] nQ) (mF k (zs.map .int)) D ⟨rS Y L RH,own⟩=some (.next,v,⟨rS Y L' pL,own⟩)->RI L' pL (m+zs.length)->Gl)->Gl:=by
 induction zs with
 |nil=>exact λZ bg Z K=>K _ _ _ gv rfl bg
 |cons z zs ih=>
  intro k L RH m D ce bg hm K;obtain ⟨r,hr⟩:∃r:Nat,z % 2250=(r:Int):=⟨(z % 2250).toNat,(Int.toNat_of_nonneg (Int.emod_nonneg _ (by decide))).symm⟩
  have YO:r<2250:=ofNat_lt.mp (hr▸Int.emod_lt_of_pos z (by decide));have ff:Kw [5,6,7,8,9,10,11] D ((D.set 5 (some (.d (.int k)))).set 6 (some (.d (.int z)))):=c8 (c8 gv);have uq:Kw [5,6,7,8,9,10,11] D ((((((((D.set 5 (some (.d (.int k)))).set 6 (some (.d (.int z)))).set 7 (some (.d (.int r)))).set 8 (some (.d (.int (gR k r))))).set 9 (some (.d (.list (cV (gj r)))))).set 10 (some (.d (.str (gT S r))))).set 11 (some (.d (.str (bC (gT S r))))))):=c8 (c8 (c8 (c8 (c8 ff))));have hl:∀{j:Nat},j<12->j<D.length:=λh=>ce.l.symm▸h;have b5:∀j∈[5,6,7,8,9,10,11],4<j:=by decide
  refine lu (YL (n:=n) hS gB c9 bg (af (bz _ _) hm) (own:=own) (bV:=k) YO (ce.kw uq b5) (aN (aN (aN (aN (bT (bH (bH (hl (by decide))))))))) (aN (aN (aN (bT (bH (bH (bH (hl (by decide))))))))) (aN (bT (bH (bH (bH (bH (bH (hl (by decide))))))))) (bT (bH (bH (bH (bH (bH (bH (hl (by decide)))))))))) λaac RH1 e1 I1=>ih (k:=k+1) (ce.kw uq b5) I1 (by rw [Nat.add_assoc,Nat.add_comm 1];exact hm) λL2 YP v kv e2 I2=>K L2 YP v (iY uq kv λZ h=>h) (fu rfl (YK hS (ce.kw ff b5) (aN (bT (hl (by decide)))) (bT (bH (hl (by decide)))) hr e1) e2) ?_;rw [length_cons,Nat.add_comm zs.length,<-Nat.add_assoc];exact I2
def YQ{Gl:Prop}(hS:iu S)(H:s.Y 1=none)(I:s.Y 2=none)(gB:s.Y 16=none)(c9:s.Y 30=none)(zs:List Int)(hz:zs.length<=10)
  (K:∀(L:List bk)(RH:List (aa×aa)),(FQ (n+3)).fn 4 [.d (.list (zs.map .int)),.d (.str S),.d (.list (S.map λc=>.str (bG c)))] s=some (.tup [.d (eG L),.hdr 1],⟨ak s.Y 1 (some (.list (RH.map hd))),1::s.own⟩)->RI L RH zs.length->Gl):Gl:=by
 have ce:NF S [some (.d (.list (zs.map .int))),some (.d (.str S)),some (.d (.list (S.map λc=>.str (bG c)))),some (.ref 2),some (.hdr 1),none,none,none,none,none,none,none]:=⟨rfl,rfl,rfl,rfl,rfl⟩
 refine YN (n:=n) (Y:=s.Y) hS gB c9 (own:=[1,2]) (zs:=zs) (k:=0) (L:=[]) (RH:=[]) (m:=0) ce RI.nil ((Nat.zero_add _).symm▸hz) λL RH v kv e bg=>K L RH ?_ (Nat.zero_add zs.length▸bg);have e0:ex (FQ (n+2)) (nS qh 0) [some (.d (.list (zs.map .int))),some (.d (.str S)),some (.d (.list (S.map λc=>.str (bG c)))),none,none,none,none,none,none,none,none,none] ⟨s.Y,[]⟩=some (.next,[some (.d (.list (zs.map .int))),some (.d (.str S)),some (.d (.list (S.map λc=>.str (bG c)))),some (.ref 2),some (.hdr 1),none,none,none,none,none,none,none],⟨rS s.Y [] [],[1,2]⟩):=by
  refine (au (x:=PV.tup [.ref 2,.hdr 1]) (s:=⟨rS s.Y [] [],[1,2]⟩) ?_).trans rfl;refine au (aP (x:=.ref 2) (V:=⟨ak s.Y 2 (some (.list [])),[2]⟩) ?_ (aP (x:=.hdr 1) (V:=⟨rS s.Y [] [],[1,2]⟩) ?_ b9))
  ·exact gf (s:=⟨s.Y,[]⟩) I
  ·exact (bv (show decide (2<=n+2)=true from fj (le_add_left 2 n))).trans ((au (gf (s:=⟨ak s.Y 2 (some (.list [])),[2]⟩) (k:=1) H)).trans rfl)
 have e3:bo (FQ (n+2)) qh [some (.d (.list (zs.map .int))),some (.d (.str S)),some (.d (.list (S.map λc=>.str (bG c)))),none,none,none,none,none,none,none,none,none] ⟨s.Y,[]⟩=some (.ret (.tup [.d (eG L),.hdr 1]),v.set 3 (some (.d (eG L))),⟨ak (rS s.Y L RH) 2 none,[1]⟩):=
  sq e0 (sq (k6 (l:=(mF 0 (zs.map .int),none)) (V:=⟨rS s.Y [] [],[1,2]⟩) rfl e) (sq (xj (j:=3) (k:=2) (be kv rfl) (show 2∈[1,2] by decide) (by decide) (rd (l9 kv (re rfl))) (show ak (ak s.Y 2 (some (.list (L.map dY)))) 1 (some (.list (RH.map hd))) 2=some (.list (L.map dY)) from (jR (by decide)).trans ie)) (sr (fe (au (aP (ag (bT (c7 kv (show 3<12 by decide)))) (aP (ag (aN (be kv rfl))) b9)))) rfl)))
 refine (UD _ _ _).trans ?_;show b3 (bo (FQ (n+2)) qh _ _) _=_;refine (ae (λr=>b3 r _) e3).trans ?_;refine ae (λτ=>some (PV.tup [.d (eG L),.hdr 1],(⟨τ,1::s.own⟩:ah))) (funext λk=>?_);by_cases c:k=2
 ·subst c
  exact (show ak (rS s.Y L RH) 2 none 2=none from gM).trans ((dF (k:=1) (by decide)).trans I).symm
 ·refine (dF c).trans ?_
  by_cases d:k=1
  ·subst d;exact gM.trans gM.symm
  ·exact (dF d).trans ((dF c).trans (dF d).symm)
end
section
noncomputable def kq (i:It):Bool:=i.1==23||decide (0<i.2.2)
def YR(G:aH B)(X:Nat):(cz B X).filter kq=[]:=List.filter_eq_nil_iff.mpr λi hi q=>by
 refine fC (qT G hi) λZ H I=>?_;rcases (or_eq_true _ _).mp q with q|q
 ·exact H (bB.mp q)
 ·have:=cm q
  exact (dK _ (bx this (cr I)))
theorem CB(G:aH B):∀(n:Nat)(seen:aa)(l:List It),(cl B n seen l).filter kq=l.filter kq
 |0,_,l=>rfl
 |n+1,seen,[]=>rfl
 |n+1,seen,i::r=>by
  rw [cl];have h:(if 256<=nx i/\nx i∉seen then cl B n (nx i::seen) (r++cz B (nx i)) else cl B n seen r).filter kq=r.filter kq:=by
   split
   ·rw [CB G n,List.filter_append,YR G,append_nil]
   ·exact CB G n _ _
  rw [List.filter_cons,List.filter_cons,h]
def Kn(G:aH B){K:List It}(h:jI K):(cU B K).filter kq=K:=by
 unfold cU;rw [CB G];refine List.filter_eq_self.mpr λi hi=>(or_eq_true _ _).mpr ?_;exact (h.k i hi).imp (λq=>bB.mpr q) λq=>fj q
def pO(B:List bk)(K:List It):aa:=bZ [95] (fx B K)
def Ko(G:aH B){K:List It}(h:jI K):∀x∈fx B K,∀d∈x,d≠95:=λx hx d hd=>by
 rcases bD.mp hx with hx|hx
 ·exact BA (jr G h).1 x hx d hd
 ·rcases bA.mp hx with rfl|hx
  ·exact nomatch hd
  ·rw [mem_singleton.mp hx] at hd;exact nomatch hd
def YS(G:aH B){K K':List It}(h:jI K)(h':jI K')(e:pO B K=pO B K'):K=K':=by
 have e1:=Hb (by unfold fx;simp) (by unfold fx;simp) (Ko G h) (Ko G h') e;have e2:=List.append_cancel_right e1;have e3:=Bz (jr G h).1 (jr G h').1 e2;rw [<-Kn G h,<-Kn G h',e3]
theorem Kq(G:aH B):∀{Ks:List (List It)},Ks.Nodup->(∀K∈Ks,KK B K)->(Ks.map (pO B)).Nodup
 |[],_,_=>nodup_nil
 |K::Ks,hn,h=>by
  refine aT (eS.mp hn) λn1 n2=>?_;refine eS.mpr ⟨λq=>?_,Kq G n2 λaW hJ=>h aW (.tail _ hJ)⟩;refine bt (bu.mp q) λaW hJ e=>?_;exact n1 (YS G (h aW (.tail _ hJ)).ok (h K (.head _)).ok e▸hJ)
def YT:∀{l:List aa},l.Nodup->l.eraseDups.length=l.length:=by
 intro l h;have:∀(n:Nat)(l:List aa),l.length<=n->l.Nodup->l.eraseDups=l:=by
  intro n;induction n with
  |zero=>
   intro l hl _;rw [length_eq_zero_iff.mp (le_zero.mp hl)];rfl
  |succ n ih=>
   intro l hl hn
   match l,hl,hn with
   |[],_,_=>rfl
   |x::l,hl,hn=>
    refine aT (eS.mp hn) λn1 n2=>?_;rw [List.eraseDups_cons,List.filter_eq_self.mpr λy hy=>?_,ih l (Nat.le_of_succ_le_succ hl) n2];show (!(y==x))=true;rw [show (y==x)=false from beq_eq_false_iff_ne.mpr λq=>n1 (q▸hy)];rfl
 rw [this l.length l (Nat.le_refl _) h]
def YU(G:aH B)(hQ:d9 Q)(h:x∈W B Q):x<256/\x≠0\/x=256\/x=257\/x=258:=by
 obtain ⟨h0,i,hi,e⟩:=o6.mp h;have eC:=(jr G (jK G hQ)).1 i hi;refine aT (qU (e▸h0)) λZ I=>?_;rw [<-e];exact nw (eC.syms _ (ez I))
def YV(G:aH B)(k:Nat):∀{j:Nat}{P:aa},j<=k->j<=3->0<DD B w j P->fJ P:=by
 have h0:∀{P:aa},0<DD B w 0 P->fJ P:=λ{P} h=>by
  have:P=[]:=by
   refine Classical.byContradiction λc=>?_;rw [show DD B w 0 P=0 from if_neg c] at h;exact aj h (dK 0)
  rw [this];exact λx hx=>nomatch hx
 induction k with
 |zero=>
  intro j P hj _ h;obtain rfl:=le_zero.mp hj;exact h0 h
 |succ k ih=>
  intro j P hj h3 h;by_cases c:j=0
  ·subst c;exact h0 h
  ·refine xR (Ka (Nat.pos_of_ne_zero c) h3 h) λQ x i e hx hi hQ=>?_
   have hs:=ih (by lia) (by lia) hQ;rw [e];intro y hy;rcases bD.mp hy with hy|hy
   ·exact hs y hy
   ·rw [mem_singleton.mp hy];exact YU G hs.pile hx
def Kr(G:aH B)(hw:fT w)(hj:j<=3)(P:aa):(bc B w j).count P=DD B w j P:=by
 by_cases c:fJ P
 ·match j,hj with
  |0,_=>exact N0 P
  |1,_=>exact N1 G hw c
  |2,_=>exact N2 G hw 3 c ((le_add_left _ _))
  |3,_=>exact N3 G hw 4 c ((le_add_left _ _))
 ·rw [List.count_eq_zero.mpr λq=>c (l8 G hw j P q).1]
  exact (Nat.eq_zero_of_not_pos λq=>c (YV G j (aD _) hj q)).symm
def YW(G:aH B)(hw:fT w)(hj:j<=3):lz (cD (jQ (bc B w j) [])) (cD (CC B w j))=true:=by
 refine aT (Ja (L:=bc B w j) dz.nil xG) λH I=>?_;exact WC ⟨H.nd,λP=>(H.val P).trans ((Nat.zero_add _).trans (Kr G hw hj P))⟩ (xH j) I (J8 j)
def CD(G:aH B)(hw:fT w)(hj:j<=3)(h:P∈bc B w j):P∈(CC B w j).map (·.1):=by
 rw [Cw,<-Kr G hw hj];exact List.count_pos_iff.mpr h
end
def ut:List aa:=(List.range 48).map λi=>bG (7+i)
def CE:aa:=match nS jX 0 with
 |.asg _ (.me _ (.cS x _) _ _ _) _ _=>x
 |_=>[]
def YX:cZ [32] [] CE 0=ut:=by decide+kernel
def YY:CE.length<=1000:=by decide+kernel
noncomputable def CF:List Int:=[6765,519,1125,528,1126,11]
noncomputable def pP (l:List Int):List Int:=l.take 6++CF.drop (l.take 6).length
def Kt(l:List Int):(pP l).length=6:=by
 unfold pP;rw [length_append,length_drop,length_take];show min 6 l.length+(6 - min 6 l.length)=6;lia
noncomputable def nR (h:Nat):Nat:=h % 48
def pQ(h:Nat):Nat:=(nR h+1+h / 48 % 47) % 48
def fN(h:Nat):aa:=[7+nR h,7+pQ h,256,257,258]
noncomputable def CG (h k:Nat):Nat:=h / 2256 / 2 ^ k % 2
noncomputable def jT (h:Nat):Nat:=h / 18048
def uu(h:Nat):iu (fN h):=⟨⟨7+nR h,7+pQ h,rfl,by unfold nR;lia,by unfold pQ;lia⟩⟩
def xJ(S:aa):ab:=.list (S.map λc=>.str (bG c))
def iQ(h:Nat):aa:=(List.range 3).map (CG h)
abbrev kV(l N:List Int)(h:Nat)(YZ Y0 Y1 Y2 Y3 Y4 Y5 Y6 Y7 Y8 Y9 Y' Za:Option PV):aI:=[some (.d (.list (l.map .int))),some (.d (.list (ut.map .str))),some (.d (.list (N.map .int))),some (.d (.int h)),some (.d (.int (nR h))),some (.d (.int (pQ h))),some (.d (.str (fN h))),some (.d (xJ (fN h))),some (.d (.list (cV (iQ h)))),some (.d (.int (jT h))),YZ,Y0,Y1,Y2,Y3,Y4,Y5,Y6,Y7,Y8,Y9,Y',Za]
section
variable{p q:Pos}
def Ku{k:Nat}(h:ev F a D s=some (.d (.list J),V))(I:ev F b D V=some (.d (.int k),s'')):ev F (.sl a (.at_ b) .no q p) D s=some (.d (.list (J.drop k)),s''):=by
 refine (au h).trans ((au ((au I).trans rfl)).trans ((au rfl).trans ?_));show some (PV.d (.list ((J.take J.length).drop (jw J.length (k:Int)))),s'')=_;rw [rf,take_length];by_cases c:k<=J.length
 ·rw [Nat.min_eq_left c]
 ·rw [min_eq_right (by lia),List.drop_length,drop_eq_nil_of_le (by lia)]
def Zb{k:Nat}(hk:k<=10)(I:ev F b D s=some (.d (.int k),V)):ev F (.bin .pow (.cI 2 w1) b p) D s=some (.d (.int (2 ^ k:Nat)),V):=dM rfl I (by
 have e:∀j:Int,lD .pow (.d (.int 2)) (.d (.int j)) V=Option.map (λk=>PV.d (.int k)) (if (2:Int)=2/\0<=j/\j<=10 then some (2 ^ j.toNat) else none):=λj=>rfl;rw [e,if_pos ⟨rfl,(natCast_nonneg _),(ofNat_le.mpr hk)⟩,toNat_natCast,Int.natCast_pow];rfl)
def Zc{x aA:aa}(h:0<aA.length/\x.length+2<=lim/\aA.all (λc=>decide (c<256))=true):n5 .split [.d (.str x),.d (.str aA)] s=some (.d (.list ((cZ aA [] x 0).map .str)),s):=by
 have e:n5 .split [.d (.str x),.d (.str aA)] s=Option.map (λd=>(PV.d d,s)) (if 0<aA.length/\x.length+2<=lim/\aA.all (λc=>decide (c<256))=true then some (.list ((cZ aA [] x 0).map .str)) else none):=rfl;rw [e,if_pos h];rfl
def Kv(hk:k<48):(ut.map ab.str)[k]?=some (.str (bG (7+k))):=by
 unfold ut;rw [map_map,getElem?_map,List.getElem?_range hk];rfl
def Zd(l:List Int){h:Nat}(hl:l.length<=63)(hN:pP l=z0::zs)(hh:z0 % 54144=(h:Int))(hR:bo F (jX.drop 9) (kV l (z0::zs) h none none none none none none none none none none none none none) s=R):
  bo F jX [some (.d (.list (l.map .int))),none,none,none,none,none,none,none,none,none,none,none,none,none,none,none,none,none,none,none,none,none,none] s=R:=by
 have H:nR h<48:=mod_lt _ (by decide);have I:pQ h<48:=mod_lt _ (by decide);have yI:=YY;refine sq (bI (x:=.d (.list (ut.map .str))) (V:=s) (gu (T:= "str") (x:=.d (.str CE)) (V:=s) rfl rfl (aP (x:=.d (.str [32])) (V:=s) rfl b9) rfl ?_)) ?_
 ·rw [Zc ⟨by decide,Nat.le_trans (Nat.add_le_add_right yI 2) (by decide),rfl⟩,YX]
 refine sq (bI (x:=.d (.list ((z0::zs).map .int))) (V:=s) (Eq.trans (xl (J:=(l.map .int).take 6) (ys:=(CF.map .int).drop ((l.map ab.int).take 6).length) ?_ (wY (k:=6) (ag rfl) (dS (k:=6))) (Ku (J:=CF.map .int) (V:=s) rfl (iH (x:=.d (.list ((l.map .int).take 6))) (V:=s) (wY (k:=6) (ag rfl) (dS (k:=6))) rfl))) ?_)) ?_
 ·have:=Kt l
  unfold pP at this;rw [<-map_take,<-List.map_drop,<-map_append,length_map,length_map,this];decide
 ·rw [<-hN]
  unfold pP;rw [map_append,map_take,List.map_drop,<-map_take,length_map]
 refine sq (bI (x:=.d (.int h)) (V:=s) (dM (x:=.d (.int z0)) (y:=.d (.int 54144)) (V:=s) (ke (k:=0) (ag rfl) rfl rfl) rfl ((xe ⟨by decide,by decide⟩).trans (by rw [hh])))) ?_;refine sq (bI (lq (i:=h) (j:=48) (ag rfl) (dS (k:=48)))) ?_;refine sq (bI (lq (i:=h % 48+1+h / 48 % 47) (j:=48) (iM (i:=h % 48+1) (iM (ag rfl) ju) (lq (i:=h / 48) (j:=47) (mm (i:=h) (j:=48) (ag rfl) (dS (k:=48))) (dS (k:=47)))) (dS (k:=48)))) ?_;refine sq (bI (jO (jO (jO (jO (rA (x:=7+nR h) (by lia) (iM (i:=7) (dS (k:=7)) (ag rfl))) (rA (x:=7+pQ h) (by lia) rfl) (show 2<=lim by decide)) (rA (x:=256) (by decide) (dS (k:=256))) (show 3<=lim by decide)) (rA (x:=257) (by decide) (dS (k:=257))) (show 4<=lim by decide)) (rA (x:=258) (by decide) (dS (k:=258))) (show 5<=lim by decide))) ?_;refine sq (bI (x:=.d (xJ (fN h))) (V:=s) ((au (aP (ke (k:=nR h) (ag rfl) (ag rfl) (Kv H)) (aP (ke (k:=pQ h) (ag rfl) (ag rfl) (Kv I)) (aP (x:=.d (.str [83])) (V:=s) rfl (aP (x:=.d (.str [65])) (V:=s) rfl (aP (x:=.d (.str [66])) (V:=s) rfl b9)))))).trans rfl)) ?_;refine sq (bI (x:=.d (.list (cV (iQ h)))) (V:=s) (Eq.trans (gO (V:=s) (s'':=s) (J:=(List.range 3).map λ(k:Nat)=>ab.int (k:Nat)) (lk:=none) (Cg (m:=3) (by decide) (dS (k:=3))) (by decide) ((kj (g:=λk=>ab.int (CG h k:Nat)) λk hk=>gA (c:=true) rfl rfl λZ=>lq (i:=h / 2256 / 2 ^ k) (j:=2) (mm (i:=h / 2256) (j:=2 ^ k) (mm (i:=h) (j:=2256) (ag rfl) (dS (k:=2256))) (Zb (af (Nat.le_of_lt (mem_range.mp hk)) (by decide)) (ag rfl)) (Nat.two_pow_pos k) (dZ (Nat.pow_le_pow_right (by decide) (Nat.le_of_lt (mem_range.mp hk))) (by decide))) (dS (k:=2))).trans rfl)) ?_)) ?_
 ·unfold iQ cV
  rw [map_map];rfl
 refine sq (bI (mm (i:=h) (j:=18048) (ag rfl) (dS (k:=18048)))) ?_;rw [<-hR];rfl
end
section
def Ze:i5 [[(23,[256],0)]]=[([46,58,32,83],[48])]:=by decide+kernel
def Zf(h0:∀k,f8 k=none)(xK:zs.length=5)(hh:h<54144):
  ∃(B:List bk)(RH:List (aa×aa))(ks:List It),aH B/\FR B RH (ak f8 1 (some (.list (RH.map hd))))/\i4 B ks/\∀{R:RS},bo (FQ (n+3)) (jX.drop 14) (kV l (z0::zs) h (some (.d (eG B))) (some (.hdr 1)) (some (.ref 3)) (some (.ref 4)) (some (.ref 5)) (some (gi (jT h))) none none none none none none none) ⟨kS B (ak f8 1 (some (.list (RH.map hd)))) ks [aL B []] [([],0)],[6,5,4,3,1]⟩=R->
   bo (FQ (n+3)) (jX.drop 9) (kV l (z0::zs) h none none none none none none none none none none none none none) ⟨f8,[]⟩=R:=by
 refine YQ (n:=n) (s:=⟨f8,[]⟩) (uu h) (h0 1) (h0 2) (h0 16) (h0 30) zs (xK▸by decide) λB RH e1 bg=>?_;rw [xK] at bg;have G:aH B:=⟨bg.ok,bg.nd,bg.len⟩
 have rh:H6 B RH:=⟨bg.all,bg.keys,bg.hlen⟩
 have nn:∀{k:Nat},k≠1->ak f8 1 (some (.list (RH.map hd))) k=none:=λhk=>(jR hk).trans (h0 _);have fr:FR B RH (ak f8 1 (some (.list (RH.map hd)))):=⟨⟨ie,nn (by decide),nn (by decide),nn (by decide),rh⟩,nn (by decide),nn (by decide)⟩
 have ht:jT h<3:=by unfold jT;lia
 have hK:∀i∈aL B [],i∈fw B:=λi hi=>by
  rw [mem_singleton.mp hi];exact pi.mpr (.inl rfl)
 refine bt (Ij (n:=n) (s:=⟨ak (ak f8 1 (some (.list (RH.map hd)))) 3 (some (.dict (cM []))),[3,1]⟩) (ee:=nI (jT h)) (K:=aL B []) (ks:=[]) G ⟨(show ak (ak f8 1 (some (.list (RH.map hd)))) 3 (some (.dict (cM []))) 1=some (.list (RH.map hd)) from (jR (by decide)).trans ie),nn (k:=10) (by decide),nn (k:=16) (by decide),nn (k:=30) (by decide),rh⟩ (jK G λx hx=>nomatch hx) hK (show 1<=22 by decide) ⟨nodup_nil,λj hj=>nomatch hj⟩ (show ak (ak f8 1 (some (.list (RH.map hd)))) 3 (some (.dict (cM []))) 3=some (.dict (cM [])) from ie) (nn (k:=11) (by decide)) (nn (k:=12) (by decide)) (IG _)) λks e2 uv=>?_;refine ⟨B,RH,ks,G,fr,uv,λ{R} hR=>?_⟩;refine sq (aS:=kV l (z0::zs) h (some (.d (eG B))) (some (.hdr 1)) none none none none none none none none none none none) (V:=⟨ak f8 1 (some (.list (RH.map hd))),[1]⟩) ?_ ?_
 ·refine (au (f5 (aP (Ku (ag rfl) (dS)) (aP (ag rfl) (aP (ag rfl) b9))) e1)).trans rfl
 refine sq (bI (gf (nn (k:=3) (by decide)))) ?_;refine sq (bI (x:=.ref 4) (V:=⟨ak (ak (ak (ak f8 1 (some (.list (RH.map hd)))) 3 (some (.dict (cM [])))) 3 (some (.dict (cM ks)))) 4 (some (.list [dX B (aL B [])])),[4,3,1]⟩) ?_) ?_
 ·refine (au (aP (f5 (aP (x:=.d (.list (((aL B []).map aM).map .str))) (V:=⟨ak (ak f8 1 (some (.list (RH.map hd)))) 3 (some (.dict (cM []))),[3,1]⟩) rfl (aP (IH ht (ag rfl)) (aP (ag rfl) (aP (ag rfl) b9)))) e2) b9)).trans ?_
  exact gf (s:=⟨ak (ak (ak f8 1 (some (.list (RH.map hd)))) 3 (some (.dict (cM [])))) 3 (some (.dict (cM ks))),[3,1]⟩) (k:=4) (nn (k:=4) (by decide))
 refine sq (bI (x:=.ref 5) (V:=⟨ak (ak (ak (ak (ak f8 1 (some (.list (RH.map hd)))) 3 (some (.dict (cM [])))) 3 (some (.dict (cM ks)))) 4 (some (.list [dX B (aL B [])]))) 5 (some (.dict (eQ [([],0)]))),[5,4,3,1]⟩) ?_) ?_
 ·exact gf (s:=⟨ak (ak (ak (ak f8 1 (some (.list (RH.map hd)))) 3 (some (.dict (cM [])))) 3 (some (.dict (cM ks)))) 4 (some (.list [dX B (aL B [])])),[4,3,1]⟩) (k:=5) (o:=.dict (eQ [([],0)])) (nn (k:=5) (by decide))
 refine sq (bI (x:=gi (jT h)) (V:=⟨kS B (ak f8 1 (some (.list (RH.map hd)))) ks [aL B []] [([],0)],[6,5,4,3,1]⟩) ?_) hR;have e6:ak (ak (ak (ak (ak (ak f8 1 (some (.list (RH.map hd)))) 3 (some (.dict (cM [])))) 3 (some (.dict (cM ks)))) 4 (some (.list [dX B (aL B [])]))) 5 (some (.dict (eQ [([],0)])))) 6 (some (.list [.tup [.str [46,58,32,83],.str [48]]]))=kS B (ak f8 1 (some (.list (RH.map hd)))) ks [aL B []] [([],0)]:=by
  unfold kS;rw [ma,show i5 [aL B []]=[([46,58,32,83],[48])] from Ze];rfl
 rw [<-e6];refine (au (aP (ag rfl) (aP (ag rfl) (aP (ag rfl) (aP (ag rfl) (aP (x:=.hdr 6) ?_ (aP (ag rfl) b9))))))).trans rfl;refine (bv (show decide (2<=n+3)=true from fj (by exact (af (by decide:2<=3) (le_add_left _ _))))).trans ((au (x:=PV.ref 6) (s:=⟨ak (ak (ak (ak (ak (ak f8 1 (some (.list (RH.map hd)))) 3 (some (.dict (cM [])))) 3 (some (.dict (cM ks)))) 4 (some (.list [dX B (aL B [])]))) 5 (some (.dict (eQ [([],0)])))) 6 (some (.list [.tup [.str [46,58,32,83],.str [48]]])),[6,5,4,3,1]⟩) ?_).trans rfl);exact gf (s:=⟨ak (ak (ak (ak (ak f8 1 (some (.list (RH.map hd)))) 3 (some (.dict (cM [])))) 3 (some (.dict (cM ks)))) 4 (some (.list [dX B (aL B [])]))) 5 (some (.dict (eQ [([],0)]))),[5,4,3,1]⟩) (k:=6) (nn (k:=6) (by decide))
end
def wN(h i:Nat):Nat:=(fN h).getD (CG h i) 0
def uw(h i:Nat):wN h i∈fN h:=((uu h).get (bx (mod_lt _ (by decide)) (by decide))).2
def Kx(h:Nat):fT (wN h):=⟨λi=>⟨(uu h).two (mod_lt _ (by decide)),λq=>by
 have:=nw ((uu h).codes _ (uw h i));lia⟩⟩
section
def Zg(h:Nat):∀k∈iQ h,k<2:=λk hk=>by
 obtain ⟨i,_,rfl⟩:=bu.mp hk;exact mod_lt _ (by decide)
def Ky(h:Y k=none)(h3:k≠3/\k≠4/\k≠5/\k≠6):kS B Y ks Ks wl k=none:=by
 show (if k=6 then _ else if k=5 then _ else if k=4 then _ else if k=3 then _ else Y k)=none;rw [if_neg h3.2.2.2,if_neg h3.2.2.1,if_neg h3.2.1,if_neg h3.1,h]
def Zh(G:aH B)(fr:FR B RH Y)(de:∀k,k≠1->Y k=none)(uv:i4 B ks):
  ∃(ba:List It)(cv:List (List It))(bU:List (aa×Nat))(TK:List aa),BK B (fN h) ba cv bU/\(∀p∈bU,p.1∈TK)/\∀{R:RS},bo (FQ (n+5)) (jX.drop 16) (kV l (z0::zs) h (some (.d (eG B))) (some (.hdr 1)) (some (.ref 3)) (some (.ref 4)) (some (.ref 5)) (some (gi (jT h))) (some (.d (.list ((List.range 4).map λi=>fz (bc B (wN h) i))))) (some (.d (.list ((List.range 4).map λi=>.dict (cD (CC B (wN h) i)))))) (some (.d (.dict (dj (gC B) TK)))) none none none none) ⟨kS B Y ba cv bU,own⟩=R->
   bo (FQ (n+5)) (jX.drop 14) (kV l (z0::zs) h (some (.d (eG B))) (some (.hdr 1)) (some (.ref 3)) (some (.ref 4)) (some (.ref 5)) (some (gi (jT h))) none none none none none none none) ⟨kS B Y ks [aL B []] [([],0)],own⟩=R:=by
 have hw:=Kx h;have hS:=uu h;have B0:BK B (fN h) ks [aL B []] [([],0)]:={
  ks:=uv
  nd:=eS.mpr ⟨(λq=>nomatch q),nodup_nil⟩
  kk:=λK hK=>by
   rw [mem_singleton.mp hK];exact ⟨jK G (λx hx=>nomatch hx),λi hi=>pi.mpr (.inl (cC.mp hi)),cons_ne_nil _ _⟩
  wn:=eS.mpr ⟨(λq=>nomatch q),nodup_nil⟩
  ws:=λp hp=>by rw [mem_singleton.mp hp];rfl
  wp:=λp hp=>by rw [mem_singleton.mp hp];exact ⟨(λx hx=>nomatch hx),bN _⟩
  le:=aD _
  pc:=λp hp Q x e=>by
   rw [mem_singleton.mp hp] at e;exact aj e.symm (by simp)}
 refine Wx (n:=n) (t:=⟨Y,own⟩) (turn:=jT h) (w:=wN h) G rfl ⟨ez (i:=2) rfl,ez (i:=3) rfl,ez (i:=4) rfl⟩ fr hw (λi Z=>uw h i) B0 (.head _) (de 13 (by decide)) (de 14 (by decide)) λba cv bU e1 B1 X1=>?_;refine Yd (n:=n+1) (w:=wN h) (s:=⟨kS B Y ba cv bU,own⟩) G (λk H I=>Ky (de k ((cY (af (by decide:2<=30) H)))) ⟨(cY (af (by decide:4<=30) H)),(cY (af (by decide:5<=30) H)),(cY (af (by decide:6<=30) H)),(cY (af (by decide:7<=30) H))⟩) (λk H=>Ky (de k ((cY (af (by decide:2<=100) H)))) ⟨(cY (af (by decide:4<=100) H)),(cY (af (by decide:5<=100) H)),(cY (af (by decide:6<=100) H)),(cY (af (by decide:7<=100) H))⟩) λTK e2 xL=>?_;refine ⟨ba,cv,bU,TK,B1,λp hp=>?_,λ{R} hR=>?_⟩
 ·rcases X1.back p hp with q|q
  ·rw [mem_singleton.mp q]
   exact xL 0 (by decide) [] (.head _)
  ·rcases bD.mp q with q|q
   ·rcases bD.mp q with q|q
    ·exact xL 1 (by decide) _ (CD G hw (by decide) q)
    ·exact xL 2 (by decide) _ (CD G hw (by decide) q)
   ·exact xL 3 (by decide) _ (CD G hw (by decide) q)
 have CH:∀c∈[wN h 0,wN h 1,wN h 2],c∈codes:=λc hc=>by
  rcases bA.mp hc with rfl|hc
  ·exact hS.codes _ (uw h 0)
  rcases bA.mp hc with rfl|hc
  ·exact hS.codes _ (uw h 1)
  ·rw [mem_singleton.mp hc];exact hS.codes _ (uw h 2)
 have ji:=o5 CH;have cF:∀k,k∈iQ h->k<5:=λk hk=>bx (Zg h k hk) (by decide);have er:=HW (n:=n+4) (s:=⟨kS B Y ks [aL B []] [([],0)],own⟩) (qQ CH) (λc hc=>(tJ CH c hc).1) (show 4<=lim by decide) (de 10 (by decide)) (de 30 (by decide));have et:∀(ce:aI)(S:ah)(w1 w2 w3 w4 w5 w6 w7 w8 w9:Pos)(sc:Scope)(ps:List Pos),ce[8]?=some (some (.d (.list (cV (iQ h)))))->ce[7]?=some (some (.d (xJ (fN h))))->ev (FQ (n+5)) (.me .join (.cS [32] w1) [(.comp none [7] [0] 1 (.val (.v 8 w2)) [] (.idx (.v 1 w3) (.v 0 w4) w5) sc ps w6)] w7 w8) ce S=some (.d (.str (bC [wN h 0,wN h 1,wN h 2])),S):=by
  intro ce S w1 w2 w3 w4 w5 w6 w7 w8 w9 sc ps h8 h7;have CI:n8 ce [7]=[some (.d (xJ (fN h)))]:=by
   show [(ce[7]?).getD none]=_;rw [h7];rfl
  refine Eq.trans (mf (aA:=[32]) (x:=.d (.list ((iQ h).map λk=>ab.str (bG ((fN h).getD k 0))))) (l:=(iQ h).map λk=>ab.str (bG ((fN h).getD k 0))) (J:=(iQ h).map λk=>bG ((fN h).getD k 0)) (V:=S) rfl (gO (V:=S) (s'':=S) (J:=cV (iQ h)) (lk:=none) (fH (ag h8) rfl) (show 3<=lim by decide) ((kj (g:=λk=>ab.str (bG ((fN h).getD k 0))) λk hk=>?_).trans rfl)) rfl ?_ ?_ ?_) rfl
  ·rw [CI]
   exact gA (c:=true) rfl rfl λZ=>ke (ag rfl) (ag rfl) (by rw [getElem?_map,(hS.get (cF k hk)).1];rfl)
  ·rw [<-lf,map_map];rfl
  ·exact (show 3*2<=8000000 by decide)
  ·have:∀l:aa,(∀k∈l,k<5)->((l.map λk=>bG ((fN h).getD k 0)).map List.length).sum<=4*l.length:=by
    intro l;induction l with
    |nil=>intro _;exact aD _
    |cons k l ih=>
     intro h';have H:=ih λj hj=>h' j (.tail _ hj);have I:=(j7 (hS.codes _ (hS.get (h' k (.head _))).2)).len.2;rw [map_cons,map_cons,sum_cons,length_cons];lia
   exact af (this _ cF) (show 4*3<=8000000 by decide)
 have es:∀(ce:aI)(S:ah)(w1 w2 w3 w4 w5 w6 w7 w8 w9:Pos)(sc:Scope)(ps:List Pos),ce[8]?=some (some (.d (.list (cV (iQ h)))))->ce[6]?=some (some (.d (.str (fN h))))->ev (FQ (n+5)) (.me .join (.cS [] w1) [(.comp none [6] [0] 1 (.val (.v 8 w2)) [] (.idx (.v 1 w3) (.v 0 w4) w5) sc ps w6)] w7 w8) ce S=some (.d (.str [wN h 0,wN h 1,wN h 2]),S):=by
  intro ce S w1 w2 w3 w4 w5 w6 w7 w8 w9 sc ps h8 h7;have CI:n8 ce [6]=[some (.d (.str (fN h)))]:=by
   show [(ce[6]?).getD none]=_;rw [h7];rfl
  refine Eq.trans (mf (aA:=[]) (x:=.d (.list ((iQ h).map λk=>ab.str [(fN h).getD k 0]))) (l:=(iQ h).map λk=>ab.str [(fN h).getD k 0]) (J:=(iQ h).map λk=>[(fN h).getD k 0]) (V:=S) rfl (gO (V:=S) (s'':=S) (J:=cV (iQ h)) (lk:=none) (fH (ag h8) rfl) (show 3<=lim by decide) ((kj (g:=λk=>ab.str [(fN h).getD k 0]) λk hk=>?_).trans rfl)) rfl ?_ ?_ ?_) rfl
  ·rw [CI]
   exact gA (c:=true) rfl rfl λZ=>ll (ag rfl) (ag rfl) (hS.get (cF k hk)).1
  ·rw [<-lf,map_map];rfl
  ·exact (show 3*1<=8000000 by decide)
  ·exact (show 3<=8000000 by decide)
 refine sq (bI (x:=.d (.list ((List.range 4).map λi=>fz (bc B (wN h) i)))) (V:=⟨kS B Y ba cv bU,own⟩) (f5 (aP (f5 (aP (et _ _ _ _ _ _ _ _ _ _ default _ _ rfl rfl) b9) er) (aP (ag rfl) b9)) e1)) ?_;refine sq (aS:=kV l (z0::zs) h (some (.d (eG B))) (some (.hdr 1)) (some (.ref 3)) (some (.ref 4)) (some (.ref 5)) (some (gi (jT h))) (some (.d (.list ((List.range 4).map λi=>fz (bc B (wN h) i))))) (some (.d (.list ((List.range 4).map λi=>.dict (cD (CC B (wN h) i)))))) (some (.d (.dict (dj (gC B) TK)))) none none none none) (V:=⟨kS B Y ba cv bU,own⟩) ?_ hR;exact (au (f5 (aP (es _ _ _ _ _ _ _ _ _ _ default _ _ rfl rfl) (aP (ag rfl) b9)) e2)).trans rfl
end
section
def Zi(c:bJ):ab.dictI (.dict (cD c))=true:=dA.mpr λp hp=>by
 obtain ⟨_,_,rfl⟩:=bu.mp hp
 rfl
def Zj{c c':Nat->bJ}(h:∀i,i<4->lz (cD (c i)) (cD (c' i))=true):qa (.d (.list ((List.range 4).map λi=>.dict (cD (c i))))) (.d (.list ((List.range 4).map λi=>.dict (cD (c' i)))))=some false:=by
 have e:∀A aY:ab,qa (.d A) (.d aY)=if A.plain&&aY.plain then some (!fD A aY) else if (A.dictL&&aY.dictL)&&fD A aY then some false else none:=λZ Z=>rfl
 have hL:∀c:Nat->bJ,ab.dictL (.list ((List.range 4).map λi=>.dict (cD (c i))))=true:=λc=>dA.mpr λd hd=>by
  obtain ⟨i,_,rfl⟩:=bu.mp hd;exact Zi _
 rw [e,hL,hL];refine (bK (cx)).trans (bv ?_);show (lz (cD (c 0)) (cD (c' 0))&&(lz (cD (c 1)) (cD (c' 1))&&(lz (cD (c 2)) (cD (c' 2))&&(lz (cD (c 3)) (cD (c' 3))&&true))))=true;rw [h 0 (by decide),h 1 (by decide),h 2 (by decide),h 3 (by decide)];rfl
theorem Kz:∀l:List aa,kr (l.map .str) (l.map .str)=true
 |[]=>rfl
 |x::l=>by
  show (x==x&&kr (l.map .str) (l.map .str))=true;rw [Kz l,beq_self_eq_true];rfl
def KA(l:List aa):qa (.d (.list (l.map .str))) (.d (.list (l.map .str)))=some false:=by
 have e:∀A aY:ab,qa (.d A) (.d aY)=if A.plain&&aY.plain then some (!fD A aY) else if (A.dictL&&aY.dictL)&&fD A aY then some false else none:=λZ Z=>rfl
 rw [e];show (if (ab.plainsN 7 (l.map .str)&&ab.plainsN 7 (l.map .str))=true then some (!kr (l.map .str) (l.map .str)) else _)=_;rw [BC,Kz];rfl
def Zk(x:aa):qa (.d (.str x)) (.d (.str []))=some (!x.isEmpty):=by
 show some (!(x==[]))=_;cases x<;>rfl
def Zl(h:ev F a D s=some (.d (.dict al),V))(I:ev F b D V=some (.d (.str k),s''))(hk:dget al k=some d):ev F (.idx a b p) D s=some (.d d,s''):=by
 refine (au h).trans ((au I).trans (eM ?_));show (dget al k).map PV.d=_;rw [hk];rfl
def Zm{t1 t2:PT}(H:bP F t1 D s=some (false,s))(I:bP F t2 D s=some (false,s)):bP F (.or [t1,t2] p) D s=some (false,s):=(au H).trans ((au I).trans rfl)
noncomputable def xM (x:aa):aa:=if x.isEmpty then [] else 46::x
def Zn(K:List It):(fx B K).map xM=kg B K:=by
 unfold fx kg;rw [map_append,map_map];refine ae (·++[[],[]]) (eR λi Z=>?_);show xM (aM i)=_;unfold aM;rw [List.replicate_succ];rfl
def CJ:List PS:=fL (nS jX 17)
def Zo(G:aH B){Ks:List (List It)}{j:Nat}(oU:KK B (aL B P))(hl:22<D.length)(cG:D[13]?=some (some (.ref 4)))(xN:D[18]?=some (some (.d (.dict (dj (gC B) TK)))))(Zp:D[19]?=some (some (.d (.str P))))(Zq:D[20]?=some (some (.d (.int j))))(hs:s.Y 4=some (.list (Ks.map (dX B))))(hT:P∈TK)(hK:Ks[j]?=some (aL B P)):
  bo F CJ D s=some (.next,(D.set 21 (some (.d (.list ((fx B (aL B P)).map .str))))).set 22 (some (.d (.list ((kg B (aL B P)).map .str)))),s):=by
 have eZ:(cU B (aL B P)).length+2<=lim:=af (dN (xa G oU.ok oU.all) 2) (by decide);have er:(((cU B (aL B P)).map aM).map ab.str++[ab.str [],ab.str []]).length=(cU B (aL B P)).length+2:=by rw [length_append,length_map,length_map];rfl
 have el:((fx B (aL B P)).map ab.str).length=(cU B (aL B P)).length+2:=by unfold fx;rw [length_map,length_append,length_map];rfl
 have KB:((D.set 21 (some (PV.d (.list ((fx B (aL B P)).map .str))))).set 22 (some (.d (.list ((kg B (aL B P)).map .str)))))[21]?=_:=aN (bT (lt_of_succ_lt hl));have Zr:((D.set 21 (some (PV.d (.list ((fx B (aL B P)).map .str))))).set 22 (some (.d (.list ((kg B (aL B P)).map .str)))))[22]?=_:=bT ((length_set ..).symm▸hl);have e1:ex F (nS CJ 0) D s=some (.next,(D.set 21 (some (.d (.list ((fx B (aL B P)).map .str))))).set 22 (some (.d (.list ((kg B (aL B P)).map .str)))),s):=(au (x:=PV.d (.tup [.list ((fx B (aL B P)).map .str),.list ((kg B (aL B P)).map .str)])) (s:=s) ((au (wX (ag cG) (ag Zq) hs (by rw [getElem?_map,hK];rfl))).trans ((au (x:=none) (s:=s) rfl).trans ((au (x:=some (2:Int)) (s:=s) rfl).trans rfl)))).trans rfl;refine sq e1 (sq (gN (Zm (cT (ag KB) (Eq.trans (xl (ys:=[.str [],.str []]) (er▸eZ) (Zl (ag (aN (aN xN))) (ag (aN (aN Zp))) (xA.trans (bv hT))) rfl) (ae (λl=>some (PV.d (.list l),s)) (map_append (f:=ab.str) (l₂:=[[],[]])).symm)) (KA _)) (cT (ag Zr) (Eq.trans (gO (lk:=none) (fH (ag KB) rfl) (el▸eZ) ((kj (g:=λx=>ab.str (xM x)) λx hx=>gA (c:=true) rfl rfl λZ=>?_).trans rfl)) (ae (λl=>some (PV.d (.list l),s)) ((map_map (f:=xM) (g:=ab.str)).symm.trans (ae (List.map ab.str) (Zn _))))) (KA _))) rfl) rfl);refine Eq.trans (qK (c:= !x.isEmpty) (cT (x:=.d (.str x)) (y:=.d (.str [])) (ag rfl) rfl (Zk x))) ?_;have ue:([46]++x).length<=lim:=af (dh (show x.length<=1000 from (bD.mp hx).elim (λhx=>by
  obtain ⟨i,hi,rfl⟩:=bu.mp hx;exact af (tZ ((jr G oU.ok).1 i hi)) (by decide)) λhx=>by
  rcases bA.mp hx with rfl|hx
  ·exact bN _
  ·rw [mem_singleton.mp hx];exact bN _)) (by decide)
 cases x with
 |nil=>rfl
 |cons c x=>exact jO (p:=default) (u:=[46]) rfl (ag rfl) ue
def Zs{Gl:Prop}(G:aH B){Ks:List (List It)}(hk:∀K∈Ks,KK B K)(hs:s.Y 4=some (.list (Ks.map (dX B))))(wl:List (aa×Nat)):∀{D:aI},22<D.length->D[13]?=some (some (.ref 4))->D[18]?=some (some (.d (.dict (dj (gC B) TK))))->(∀p∈wl,p.1∈TK/\Ks[p.2]?=some (aL B p.1))->
  (∀v,v[13]?=some (some (.ref 4))->dD (lb F [19,20] CJ) (pJ wl) D s=some (.next,v,s)->Gl)->Gl:=by
 induction wl with
 |nil=>exact λZ cG Z Z k=>k _ cG rfl
 |cons p wl ih=>
  intro D hl cG xN h k;have hp:=h p (.head _);have l1:22<((D.set 19 (some (PV.d (.str p.1)))).set 20 (some (PV.d (.int p.2)))).length:=(length_set ..).symm▸(length_set ..).symm▸hl;have e:=Zo (F:=F) G (hk _ (ez hp.2)) l1 (aN (aN cG)) (aN (aN xN)) (aN (bT (bx (by decide) hl))) (bT ((length_set ..).symm▸bx (by decide) hl)) hs hp.1 hp.2;exact ih ((length_set ..).symm▸(length_set ..).symm▸l1) (aN (aN (aN (aN cG)))) (aN (aN (aN (aN xN)))) (λq hq=>h q (.tail _ hq)) λv hv e2=>k v hv (fu rfl e e2)
end
section
def Zt(G:aH B)(de:∀k,k≠1->Y k=none)(aY:BK B (fN h) ks Ks wl)(hT:∀p∈wl,p.1∈TK):
  ∃aS:aI,bo (FQ (n+5)) (jX.drop 16) (kV l (z0::zs) h (some (.d (eG B))) (some (.hdr 1)) (some (.ref 3)) (some (.ref 4)) (some (.ref 5)) (some (gi (jT h))) (some (.d (.list ((List.range 4).map λi=>fz (bc B (wN h) i))))) (some (.d (.list ((List.range 4).map λi=>.dict (cD (CC B (wN h) i)))))) (some (.d (.dict (dj (gC B) TK)))) none none none none) ⟨kS B Y ks Ks wl,own⟩=some (.ret (.d (.bool true)),aS,⟨kS B Y ks Ks wl,own⟩):=by
 have hw:=Kx h;have Zu:=aY.wlen rfl;have Bw:Ks.length<=156:=af aY.le Zu;refine km (I4 (B:=B) G hw) λb0 b1 b2 b3=>?_;have s5:(⟨kS B Y ks Ks wl,own⟩:ah).Y 5=some (.dict (eQ wl)):=rfl;have s4:(⟨kS B Y ks Ks wl,own⟩:ah).Y 4=some (.list (Ks.map (dX B))):=rfl;refine Zs (F:=FQ (n+5)) (s:=ah.lock ⟨kS B Y ks Ks wl,own⟩ (some 5)) (D:=kV l (z0::zs) h (some (.d (eG B))) (some (.hdr 1)) (some (.ref 3)) (some (.ref 4)) (some (.ref 5)) (some (gi (jT h))) (some (.d (.list ((List.range 4).map λi=>fz (bc B (wN h) i))))) (some (.d (.list ((List.range 4).map λi=>.dict (cD (CC B (wN h) i)))))) (some (.d (.dict (dj (gC B) TK)))) none none none none) G aY.kk ((uo (by decide)).trans s4) wl (show 22<23 by decide) rfl rfl (λp hp=>⟨hT p hp,aY.ws p hp⟩) λv hv ed=>?_;refine ⟨_,sq (gN (cT (gO (fH (ag rfl) rfl) (show 4<=lim by decide) ((kj λi hi=>gA (c:=true) rfl rfl λZ=>f5 (aP (ag rfl) b9) (WD (n:=n+4) ?_ (de 15 (by decide)))).trans rfl)) (ag rfl) (Zj λi hi=>YW G hw (by lia))) rfl) (sq (Eq.trans (k6 (l:=(pJ wl,some 5)) ?_ ed) (ae (λt=>some (Fl.next,_,t)) (oZ s5))) (sr (fe ?_) rfl))⟩
 ·have hi:=mem_range.mp hi
  exact mv (P:=λi=>(bc B (wN h) i).length<=lim) (af b0 (by decide)) (af b1 (by decide)) (af b2 (by decide)) (af b3 (by decide)) hi
 ·show some (((eQ wl).map λ(p:aa×ab)=>ab.tup [.str p.1,p.2],some 5),(⟨kS B Y ks Ks wl,own⟩:ah))=_
  unfold eQ pJ;rw [map_map];rfl
 ·have cA:∀K∈Ks,(fx B K).length<=24/\((fx B K).map List.length).sum<=440:=λK hK=>by
   have k:=aY.kk K hK;have H:=xa G k.ok k.all;have I:=Ig (jr G k.ok).1;unfold fx;rw [length_append,length_map];exact ⟨dN H 2,af I (by lia)⟩
  have hd:=YT (Kq G aY.nd aY.kk);have ec:∀{w1 w2 w3 w4 w5 w6 w7 w8:Pos}{sc:Scope}{ps:List Pos}(ce:aI),ce[13]?=some (some (.ref 4))->ev (FQ (n+5)) (.comp none [] [0] 1 (.val (.v 13 w1)) [] (.me .join (.cS [95] w2) [(.idx (.v 0 w3) (.cI 0 w4) w5)] w6 w7) sc ps w8) ce ⟨kS B Y ks Ks wl,own⟩=some (.d (.list ((Ks.map (pO B)).map .str)),⟨kS B Y ks Ks wl,own⟩):=by
   intro w1 w2 w3 w4 w5 w6 w7 w8 sc ps ce cG;refine Eq.trans (gO (fH (ag cG) rfl) (by rw [length_map];exact af Bw (by decide)) ((kj λK hK=>gA (c:=true) rfl rfl λZ=>mf (x:=.d (.list ((fx B K).map .str))) (l:=(fx B K).map .str) (J:=fx B K) (V:=ah.lock ⟨kS B Y ks Ks wl,own⟩ (some 4)) rfl (rg (k:=0) (ag rfl) rfl rfl) rfl (lf _) ?_ ?_).trans rfl)) ?_
   ·have:=(cA K hK).1
    show _*2<=_;lia
   ·have:=(cA K hK).2
    exact (af this (by decide:440<=8000000))
   ·rw [oZ s4,map_map];rfl
  refine (au (x:=PV.d (.int (Ks.map (pO B)).eraseDups.length)) (s:=⟨kS B Y ks Ks wl,own⟩) ?_).trans ((au (t6 (ag hv) s4)).trans ?_)
  ·refine (au (ec _ hv)).trans (eM ?_)
   show ((gm ((Ks.map (pO B)).map .str)).bind λl=>if l.length<4000 then some (PV.d (.int l.eraseDups.length)) else none)=_;rw [lf];exact bv (by rw [length_map];lia)
  ·show some (PV.d (.bool (((Ks.map (pO B)).eraseDups.length:Int)==((Ks.map (dX B)).length:Int))),(⟨kS B Y ks Ks wl,own⟩:ah))=_
   rw [hd,length_map,length_map,beq_self_eq_true]
def law_run(l:List Int)(hl:l.length<=63):∃st,(FQ (n+6)).fn 14 [.d (.list (l.map ab.int))] ⟨λZ=>none,[]⟩=some (.d (.bool true),st):=by
 have hN:=Kt l;obtain ⟨z0,zs,eN⟩:∃z0 zs,pP l=z0::zs:=by
  match pP l,hN with
  |z0::zs,_=>exact ⟨z0,zs,rfl⟩
 have xK:zs.length=5:=by
  rw [eN,length_cons] at hN;lia
 have hz:(0:Int)<=z0 % 54144/\z0 % 54144<54144:=by lia
 obtain ⟨h,hh⟩:∃h:Nat,z0 % 54144=(h:Int):=⟨(z0 % 54144).toNat,by lia⟩
 have Zv:h<54144:=by lia
 refine xR (Zf (n:=n+2) (λZ=>rfl) (l:=l) (z0:=z0) xK Zv) λB RH ks G fr uv eb=>?_;have de:∀k,k≠1->ak (λZ=>none) 1 (some (.list (RH.map hd))) k=none:=λk hk=>jR hk;refine CT (Zh (n:=n) G fr de uv (l:=l) (z0:=z0) (zs:=zs) (h:=h) (own:=[6,5,4,3,1])) λba cv bU TK aY hT ec=>?_;refine b6 (Zt (n:=n) G de aY hT (l:=l) (z0:=z0) (zs:=zs) (own:=[6,5,4,3,1])) λaS ed=>?_;refine ⟨_,(UM _).trans (Bg (D:=aS) (Zd l hl eN hh (eb (ec ed))) ?_)⟩;exact de 30 (by decide)
end
noncomputable abbrev pw:=PySem.Challenge.pw_sc0093_01
noncomputable def rK (k:Nat):az:=match k with
 |0=>36
 |1=>41
 |2=>82
 |_=>87
noncomputable def ls (f:Nat):az:=if f<20 then [48,58,65,72,225,230,237,242,247,254,261,266,271,278,283].getD f 0 else [124,192,117,155,163,180,206,213,110].getD (f - 20) 0
noncomputable def rL:az:=216
def xO:Nat->aq
 |0=>.str (mk [13,10]) 342
 |1=>.ref 49
 |2=>.int 256 451
 |3=>.int 0 353
 |k=>.ref (rK (k - 4))
def pR:List (Str×Option aq):=(List.range 8).map (λk=>(qc k,some (xO k)))++jC.map (λp=>(p.1,none))++(List.range 15).map (λf=>(lL f,some (Value.ref (ls f))))++[(Str.ofString "Headers",some (Value.ref rL))]
def CK(w:World):Obj:={cls:=.type "dict",data:=.dict (wx.map λx=>⟨hashStr w (mk x.1),.str (mk x.1) x.2.2.1,.int x.2.1 x.2.2.2⟩).toArray 48}
noncomputable def xP (h:Heap) (as:List az):Frag:=as.map λa=>(a,(h.get? a).getD default)
def Zw(x:as.all (λa=>(h.get? a).isSome)=true):(xP h as).In h:=by
 refine Frag.in_of (as:=as) (by rw [xP,map_map];exact (List.map_id' as).symm) ?_;rw [xP,map_map];refine eR λa ha=>?_;refine b6 (isSome_iff_exists.mp (dA.mp x a ha)) λo e=>?_;rw [e];show some o=some ((h.get? a).getD default);rw [e];rfl
noncomputable def KC:List az:=[2,215,216,124,192,117,155,163,180,206,213,110]
noncomputable def KD:aq->Option Str
 |.str x _=>some x
 |_=>none
noncomputable def fieldsOf:Data->Option (Array aq)
 |.fields D=>some D
 |_=>none
noncomputable def CL:Data->Option (Array aq)
 |.seq D _=>some D
 |_=>none
noncomputable def KF:Data->Option FuncData
 |.func fd=>some fd
 |_=>none
section
def Zx(h:KD v=some x):∃t,v=.str x t:=by
 cases v with
 |str y t=>exact ⟨t,ae (Value.str · t) (ax h)⟩
 |_=>exact av h
def KG(h:fieldsOf d=some D):d=.fields D:=by
 cases d with
 |fields b=>exact ae _ (ax h)
 |_=>exact av h
def KH(h:CL d=some D):∃n,d=.seq D n:=by
 cases d with
 |seq b n=>exact ⟨n,ae (Data.seq · n) (ax h)⟩
 |_=>exact av h
def Zy(h:KF d=some fd):d=.func fd:=by
 cases d with
 |func b=>exact ae _ (ax h)
 |_=>exact av h
end
def KI(h:Heap)(cd:aq)(q:Str):Bool:=(ww cd).any λc=>(h.get? c).any λo=>(fieldsOf o.data).any λD=>D[1]?.any λv=>(KD v).any (·==q)
def Zz{q:Str}(x:KI h cd q=true):h.CodeRec cd q:=
 gq x λc e0 x=>gq x λo e1 x=>gq x λD e2 x=>gq x λv e3 x=>gq x λy e4 x=>(Zx e4).elim λt e5=>⟨c,o,D,t,G8 e0,e1,KG e2,e3.trans (ae some (e5.trans (ae (Value.str · t) (bB.mp x))))⟩
def CM(h:Heap)(T:az):Bool:=(h.get? T).any λo=>(CL o.data).any λD=>decide (D= #[.none])
def KJ(x:CM h T=true):∃o n,h.get? T=some o/\o.data=.seq #[.none] n:=
 gq x λo e1 x=>gq x λD e2 x=>(KH e2).elim λn e3=>⟨o,n,e1,cm x▸e3⟩
def KL(h:Heap)(a:az)(code:aa):Bool:=(h.get? a).any λo=>(fieldsOf o.data).any λD=>(ww (D.getD 5 .none)).any λc=>decide (o.cls=.type "re.Pattern")&&(o.dict.isNone&&(decide (D= #[D.getD 0 .none,D.getD 1 .none,.int 0 0,.none,.none,.ref c,.int 0 0])&&(h.get? c).any λoc=>(CL oc.data).any λws=>decide (ws=(code.map λw=>Value.int (w:Nat) 0).toArray)))
def ZA{code:aa}(x:KL h a code=true):j0 h a code:=
 gq x λo e1 x=>gq x λD e2 x=>gq x λc Z x=>aB x λx1 x=>aB x λx2 x=>aB x λx3 x=>gq x λoc e4 x=>gq x λws e5 x=>(KH e5).elim λn e6=>
  ⟨o,_,_,c,oc,n,e1,cm x1,Option.isNone_iff_eq_none.mp x2,(KG e2).trans (ae _ (cm x3)),e4,cm x▸e6⟩
def rM(s:ay):Bool:=pR.all (λp=>decide (wv s.heap mainGlobals p.1=p.2))&&s.heap.isNs cStatics&&(wv s.heap cStatics sharingNotToldKey).isNone&&(List.range 4).all (λk=>KL s.heap (rK k) (bY k))&&
 KC.all (λa=>(s.heap.get? a).isSome)&&Aj (xP s.heap KC) rL ls&&CM s.heap 103&&CM s.heap 156
structure mn(mg:Str->Option aq)(h:Heap):Prop where
 mg:∀p∈pR,mg p.1=p.2
 nbk:NoneBooked h
 pts:∀k,k<4->j0 h (rK k) (bY k)
 fr:∃K:Frag,K.In h/\kZ K rL ls
 d1:∃o n,h.get? 103=some o/\o.data=.seq #[.none] n
 d2:∃o n,h.get? 156=some o/\o.data=.seq #[.none] n
def mn.of(s:ay)(x:rM s=true):mn (s.heap.nsMap mainGlobals) s.heap:=by
 unfold rM at x;rw [<-G7] at x;refine aB x λx x8=>aB x λx x7=>aB x λx x6=>aB x λx x5=>aB x λx x4=>aB x λx x3=>aB x λx1 x2=>?_;exact ⟨λp hp=>cm (dA.mp x1 p hp),⟨_,.of_isNs x2,Option.isNone_iff_eq_none.mp x3⟩,λk hk=>ZA (dA.mp x4 k (mem_range.mpr hk)),⟨_,Zw x5,R6 x6⟩,KJ x7,KJ x8⟩
def mn.keeps(mg:Str->Option aq)(h h':Heap)(x:mn mg h)(k:∀b o,h.get? b=some o->h'.get? b=some o):mn mg h':=
 ⟨x.mg,x.nbk.imp λZ a=>⟨a.1.keeps k,a.2⟩,λi hi=>(x.pts i hi).keeps k,x.fr.imp λZ a=>⟨a.1.keeps k,a.2⟩,x.d1.imp λZ a=>a.imp λZ a=>⟨k _ _ a.1,a.2⟩,x.d2.imp λZ a=>a.imp λZ a=>⟨k _ _ a.1,a.2⟩⟩
noncomputable abbrev rN:=Arguments×FuncBody×Scope×List (Str×az)×az×az×aq×Bool×Bool
def CN(f:Nat)(h:Heap):Option rN:=(h.get? (ls f)).bind λo=>(KF o.data).bind λfd=>some (fd.params,fd.body,fd.scope,fd.closure,fd.globals,fd.builtins,fd.defaults,KI h fd.code fd.qualname,fd.scope.isCoroutine||fd.scope.isGenerator)
def CP(f:Nat)(b:List Stmt):rN:=(kD f,.stmts b,fF f,[],mainGlobals,builtinsNs,(if f=24 then .ref 156 else if f=28 then .ref 103 else .none),true,false)
def KM(s:ay):Option Obj×List (Option rN)×Option rN:=(s.heap.get? 49,qL.map (λp=>CN p.1 s.heap),CN 28 s.heap)
def KN(w:World):Option Obj×List (Option rN)×Option rN:=(some (CK w),qL.map (λp=>some (CP p.1 (jg (fF p.1) p.2.body))),some (CP 28 (r9 (fF 28))))
def xQ(s:ay):=(KM s,s.toks)
def pT(w:World):=(KN w,938)
def nT(h:Heap)(f:Nat)(b:List Stmt):Prop:=∃o fd,h.get? (ls f)=some o/\o.data=.func fd/\fd.params=kD f/\fd.body=.stmts b/\fd.scope=fF f/\fd.closure=[]/\fd.globals=mainGlobals/\fd.builtins=builtinsNs/\
 fd.defaults=(if f=24 then .ref 156 else if f=28 then .ref 103 else .none)/\h.CodeRec fd.code fd.qualname/\fd.scope.isCoroutine=false/\fd.scope.isGenerator=false
def ZB(h:(a||b)=false):a=false/\b=false:=or_eq_false_iff.mp h
def KO(x:CN f h=some (CP f b)):nT h f b:=
 aG x λo e1 x=>aG x λfd e2 x=>
  have y:=Prod.mk.inj (ax x);have y2:=Prod.mk.inj y.2;have y3:=Prod.mk.inj y2.2;have y4:=Prod.mk.inj y3.2;have y5:=Prod.mk.inj y4.2;have y6:=Prod.mk.inj y5.2;have y7:=Prod.mk.inj y6.2;have y8:=Prod.mk.inj y7.2
  ⟨o,fd,e1,Zy e2,y.1,y2.1,y3.1,y4.1,y5.1,y6.1,y7.1,Zz y8.1,ZB y8.2⟩
def nT.keeps{f:Nat}{h h':Heap}{b:List Stmt}(x:nT h f b)(k:∀b o,h.get? b=some o->h'.get? b=some o):nT h' f b:=
 x.imp λZ x=>x.imp λZ x=>⟨k _ _ x.1,x.2.1,x.2.2.1,x.2.2.2.1,x.2.2.2.2.1,x.2.2.2.2.2.1,x.2.2.2.2.2.2.1,x.2.2.2.2.2.2.2.1,x.2.2.2.2.2.2.2.2.1,x.2.2.2.2.2.2.2.2.2.1.keeps k,x.2.2.2.2.2.2.2.2.2.2⟩
structure mo(w:World)(h:Heap):Prop where
 d:h.get? 49=some (CK w)
 f:∀p∈qL,nT h p.1 (jg (fF p.1) p.2.body)
 i:nT h 28 (r9 (fF 28))
def mo.of(w:World)(s:ay)(x:KM s=KN w):mo w s.heap:=by
 refine aT (Prod.mk.inj x) λx1 x=>?_;refine aT (Prod.mk.inj x) λx2 x3=>?_;exact ⟨x1,λp hp=>KO (List.map_inj_left.mp x2 p hp),KO x3⟩
def mo.keeps(w:World)(h h':Heap)(x:mo w h)(k:∀b o,h.get? b=some o->h'.get? b=some o):mo w h':=⟨k _ _ x.d,λp hp=>(x.f p hp).keeps k,x.i.keeps k⟩
def qv:Program:={pw with main:={pw.main with body:=pw.main.body.getLast?.toList}}
noncomputable def mq:List Str:=pw.boundNames.filter λx=> !Fast.sEq x "law"
def ux(w:World)(N:Nat):=(Az pw "_sre" w N).map λx=>
 ((staticsOk (importedModules pw.main.body) x.1.abs.heap x.2.abs.heap&&namesBound pw x.2.abs.heap&&gensDone x.2.abs&&laidKept x.1.abs.heap x.2.abs.heap),G3 qv mq (importedModules pw.main.body) rM true x.2.abs,xQ x.2.abs)
def ZC(w:World):ux (w.withFollow "special-get-raises" false) 4000=some (true,openGood qv mq,pT (w.withFollow "special-get-raises" false)):=by kernel_rfl
def ZD(w:World):ux (w.withFollow "special-get-raises" true) 4000=some (true,openGood qv mq,pT (w.withFollow "special-get-raises" true)):=by kernel_rfl
def ZE:importedModules pw.main.body=[Str.ofString "_sre"]:=by kernel_rfl
def ZF:pw.main.body.any namesNumpy=false:=by kernel_rfl
def ZG(h:ux w 4000=some (true,openGood qv mq,pT w)):(openEnds treeTable pw w 4000).map (λs=>(openSeen qv mq (importedModules pw.main.body) rM true s,xQ s))=some (openGood qv mq,pT w):=by
 unfold ux at h;rw [<-TI] at h;obtain ⟨⟨s2,s3⟩,e1,e2⟩:=map_eq_some_iff.mp h;refine aT (Prod.mk.inj e2) λe2 e3=>?_;rw [TO ZE ZF e1 e2];exact ae some e3
def ZH:LeftO pw qv mq rM xQ pT 4000:=λw=>
 ZG (byRow2 "special-get-raises" (P:=λw=>ux w 4000=some (true,openGood qv mq,pT w)) ZC ZD w)
def KP:(PySem.strKind prog w).is x (.str x t)=true:=by
 show Value.isStrOf x (.str x t)=true;simp [Value.isStrOf]
def ai.glo{O:Wd}{h:Heap}{P:List az}{m:Mp}(hw:O.hb.get? 49=some (CK O.w))(hp:O.patA=rK){ac:ah}(R:SR O P m ac h){k:Nat}{pv:PV}(e:qP k=some pv):ai O h P m (xO k) pv:=by
 match k,e with
 |0,e=>cases e;exact ⟨⟨342,rfl⟩,by decide,by decide⟩
 |1,e=>
  cases e;have q:¬aC P m 49:=by
   have:=cW hw;rintro (h|⟨k,h⟩)
   ·exact aj this (cg.mpr (R.prv _ h).1)
   ·exact aj this (cg.mpr (R.mem _ _ h).1)
  have kv:∀l:List (aa×Nat×Nat×Nat),(∀x∈l,x.1.length<=lim/\∀c∈x.1,c<1114112)->bR O h (aC P m) (l.map λx=>(mk x.1,Value.int x.2.1 x.2.2.2)) (l.map λx=>(x.1,ab.int x.2.1)):=by
   intro l;induction l with
   |nil=>intro _;exact rfl
   |cons x l ih=>exact λhl=>⟨_,_,rfl,⟨rfl,(hl x (.head _)).1,(hl x (.head _)).2,_,rfl⟩,ih λy hy=>hl y (.tail _ hy)⟩
  have ZI:∀l:List (aa×Nat×Nat×Nat),Pairs (strKind O.prog O.w) (l.map λx=>⟨hashStr O.w (mk x.1),.str (mk x.1) x.2.2.1,.int x.2.1 x.2.2.2⟩) (l.map λx=>(mk x.1,Value.int x.2.1 x.2.2.2)):=by
   intro l;induction l with
   |nil=>exact .nil
   |cons x l ih=>exact .cons KP rfl ih
  refine ⟨49,wx.map λx=>(mk x.1,Value.int x.2.1 x.2.2.2),rfl,q,rfl,⟨_,_,_,R.base _ _ hw,⟨rfl,rfl,rfl⟩,rfl,?_,?_,?_⟩,by decide+kernel,kv _ (by decide+kernel)⟩
  ·intro en ZJ
   obtain ⟨x,_,rfl⟩:=bu.mp (List.mem_toArray.mp ZJ);exact ⟨mk x.1,KP,rfl⟩
  ·exact ZI _
  ·rw [map_map];decide+kernel
 |2,e=>cases e;exact ⟨_,rfl⟩
 |3,e=>cases e;exact ⟨_,rfl⟩
 |4,e=>cases e;show _=Value.ref (O.patA 0);rw [hp];rfl
 |5,e=>cases e;show _=Value.ref (O.patA 1);rw [hp];rfl
 |6,e=>cases e;show _=Value.ref (O.patA 2);rw [hp];rfl
 |7,e=>cases e;show _=Value.ref (O.patA 3);rw [hp];rfl
def ZK(h:k<8):(qc k,some (xO k))∈pR:=cE _ (cE _ (cE _ (bu.mpr ⟨k,mem_range.mpr h,rfl⟩)))
def ZL(h:p∈jC):(p.1,none)∈pR:=cE _ (cE _ (cj _ (bu.mpr ⟨p,h,rfl⟩)))
def KR(h:f<15):(lL f,some (Value.ref (ls f)))∈pR:=cE _ (cj _ (bu.mpr ⟨f,mem_range.mpr h,rfl⟩))
def ZM:(Str.ofString "Headers",some (Value.ref rL))∈pR:=cj _ (.head _)
def ZN:jC.all (λp=>decide (p.1≠Str.ofString "__name__")&&decide (bootBuiltins p.1=some p.2))=true:=by decide+kernel
def KS{O:Wd}{v:aq}(e:v=.ref T)(d:∃o n,O.hb.get? T=some o/\o.data=.seq #[.none] n):∃A o n,v=.ref A/\O.hb.get? A=some o/\o.data=.seq #[.none] n:=⟨T,d.elim λo z=>⟨o,z.elim λn q=>⟨n,e,q⟩⟩⟩
def nT.defOK(x:nT O.hb f b)(d1:∃o n,O.hb.get? 103=some o/\o.data=.seq #[.none] n)(d2:∃o n,O.hb.get? 156=some o/\o.data=.seq #[.none] n):Ar O ls f b:=by
 refine x.elim λo x=>x.elim λfd x=>⟨fd,⟨⟨o,x.1,x.2.1⟩,x.2.2.2.1,x.2.2.2.2.1,x.2.2.2.2.2.1,x.2.2.2.2.2.2.2.2.2.2.1,x.2.2.2.2.2.2.2.2.2.2.2,x.2.2.2.2.2.2.2.2.2.1,x.2.2.2.2.2.2.1,x.2.2.2.2.2.2.2.1⟩,x.2.2.1,?_⟩
 have x9:=x.2.2.2.2.2.2.2.2.1;by_cases H:f=24
 ·rw [if_pos H] at x9
  rw [if_pos (.inl H)];exact KS x9 d2
 ·rw [if_neg H] at x9
  by_cases I:f=28
  ·rw [if_pos I] at x9
   rw [if_pos (.inr I)];exact KS x9 d1
  ·rw [if_neg I] at x9
   rw [if_neg (λq=>q.elim H I)];exact x9
def ZO(g:h.Ns mainGlobals mg)(b:h.Ns builtinsNs mb)(l:h.NoLimit)(hb:∀x:Str,x≠ "__name__" ->mb x=bootBuiltins x)(X:mn mg h)(yY:mo w h):
  ∃K,TF ⟨pw,w,h,mg,mb,rL,rK⟩ ls qP K:=by
 refine bt (X.fr) λK k1 k2=>?_;refine ⟨K,g,b,l,X.nbk,X.pts,λk pv e=>?_,rfl,rfl,λp hp=>?_,k1,k2,λf hf=>X.mg _ (KR hf),λf t e=>(yY.f _ (wq e)).defOK X.d1 X.d2,yY.i.defOK X.d1 X.d2,X.mg _ ZM⟩
 ·have hk:k<8:=by
   refine lt_of_not_le λq=>b6 (Nat.exists_eq_add_of_le' q) λn uy=>?_;subst uy;cases e
  exact ⟨xO k,X.mg _ (ZK hk),λP m ac h' R=>ai.glo yY.d rfl R e⟩
 ·have:=dP (dA.mp ZN p hp)
  exact ⟨X.mg _ (ZL hp),(hb _ (cm this.1)).trans (cm this.2)⟩
noncomputable abbrev lw:OpenLaw:=PySem.Challenge.rw_sc0093_01
section
def ZP{l:List Int}:∀{s:ay}{r:List aq×ay},layAllW R KT P ord (l.map WData.int) s=some r->s.toks<=r.2.toks:=by
 induction l with
 |nil=>exact λh=>ax h▸aD _
 |cons i l ih=>
  refine λh=>du (layAllW_cons h) λa q H I e=>?_;have e1:=ax H;subst e1 e;exact af (le_succ _) (ih I)
def ZQ{O:Wd}{X:az->Prop}{l:List Int}:∀{D:List aq},WellAll P h D (l.map WData.int)->aR O h X D (l.map ab.int):=by
 induction l with
 |nil=>intro D h;cases h;rfl
 |cons i l ih=>intro D h;cases h with|cons a b=>cases a;exact ⟨_,_,rfl,⟨_,rfl⟩,ih b⟩
def ZR{d:WData}(h:WShape.has R d .int=true):∃i,d=.int i:=by
 cases d with
 |int i=>exact ⟨i,rfl⟩
 |_=>exact aj h cx
def ZS{J:List WData}:WShape.hasItems R J .int=true->∃l:List Int,J=l.map WData.int:=by
 induction J with
 |nil=>exact λZ=>⟨[],rfl⟩
 |cons x J ih=>exact λh=>aB h λH I=>b6 (ZR H) λi e=>b6 (ih I) λl e'=>⟨i::l,e▸e'▸rfl⟩
def ZT{d:WData}(h:WShape.has R d (.list .int)=true):∃l:List Int,d=.list (l.map WData.int):=by
 cases d with
 |list J=>exact (ZS ((Bool.or_false _).symm.trans h)).imp λZ e=>ae WData.list e
 |_=>exact aj h cx
def ZU{args:List WData}(h:lw.row.toRowW.claim.pre args=true):∃l:List Int,args=[.list (l.map WData.int)]/\l.length<=63:=by
 refine aT (pre_splitW h) λH I=>du (hasAllW_cons H) λd r e h3 h4=>?_;obtain rfl:=e;obtain rfl:=hasAllW_nil h4;refine (ZT h3).elim λl e=>?_;obtain rfl:=e;refine ⟨l,rfl,le_of_not_lt λq=>?_⟩;have h5:WTm.holds lw.row.records (.and (.not (.lit (.bool (decide ((63:Int)<(l.map WData.int).length))))) (.lit (.bool true))) {args:=[]}=true:=I;rw [decide_eq_true (show (63:Int)<(l.map WData.int).length from ofNat_lt.mpr (length_map WData.int▸q))] at h5;exact aj h5 cx
end
def KU:lw.wellSaid=true:=by
 rw [PySem.W.Fast.te9446332074065402090]
 kernel_rfl
def ZV:lw.row.prog.bare:=⟨rfl,rfl,rfl,rfl,rfl,by decide+kernel⟩
def KV:lw.row.toRowW.promised:=⟨[.list []],by decide+kernel,by decide+kernel⟩
def dq:DefRec:=match PySem.W.defOf qv "law" with
 |some (d,_)=>d
 |none=>⟨"law",⟨[],[],none,[],[],none,[]⟩,[],{kind:=.function,names:=[],isGenerator:=false,isCoroutine:=false},⟨0,0,0,0⟩⟩
def ZW:PySem.W.defOf qv lw.row.name=some (dq,[]):=by kernel_rfl
def ZX:lw.row.prog.theDef lw.row.name=some (dq.params,dq.body,dq.scope):=by kernel_rfl
def ZY:kwWritten? dq.params.kwonlyargs dq.params.kw_defaults=some []:=by kernel_rfl
structure KW:Prop where
 call:∀(w:World)(bq:ay)(mg mb:Str->Option aq),bq.heap.Ns mainGlobals mg->bq.heap.Ns builtinsNs mb->bq.heap.NoLimit->(∀x:Str,x≠ "__name__" ->mb x=bootBuiltins x)->mn mg bq.heap->mo w bq.heap->0<bq.toks->sysModules<bq.heap.objs.size->
  ∀(l:List Int)(a:az)(D:List aq),l.length<=63->bq.heap.get? a=some {cls:=.type "list",data:=.seq D.toArray}->WellAll w.params bq.heap D (l.map WData.int)->
  wpAny (model pw w) callerA (PySem.call (.ref (ls 14)) [.ref a]) (λv V=>v=.bool true/\(∀b o,bq.heap.get? b=some o->V.heap.get? b=some o)/\V.os=bq.os/\V.gens=bq.gens) (λZ Z=>False) bq
def ZZ:(lL 14,some (Value.ref (ls 14)))∈pR:=KR (by decide)
def Z0:lw.row.name=lL 14:=rfl
def Z1{R:WRecords}{KT:Str->Option az}{P:Params}{ord:List DictEntry->List DictEntry}{l:List Int}{s:ay}{r:List aq×ay}(h:layAllW R KT P ord [.list (l.map WData.int)] s=some r):s.toks<=r.2.toks:=by
 refine du (layAllW_cons h) λa q H I e=>?_;have e2:=ax I;subst e2 e;refine bt (layW_list H) λq' h3 e=>?_;exact af (ZP h3) (cr (ae (λx:aq×ay=>x.2.toks) e).symm)
def Z2{P:Params}{h:Heap}{D:List aq}{l:List WData}(hw:WellAll P h D [.list l]):∃a us,D=[.ref a]/\h.get? a=some {cls:=.type "list",data:=.seq us.toArray}/\WellAll P h us l:=by
 cases hw with
 |cons hv uy=>
  cases uy;cases hv with
  |list ho CQ=>exact ⟨_,_,rfl,ho,CQ⟩
def Z3(C:KW)(left:LeftO pw qv mq rM xQ pT 4000):lw.row.Holds:=by
 have left:=LeftO.behind left mn.of (show chainsOk qv=true by kernel_rfl);refine ⟨row_said KU,KV,⟨ZV,(show opensWell pw=true by kernel_rfl),rfl⟩,KV.witness,λw=>⟨(left w).1,λV fb=>?_⟩⟩;refine ((left w).2 V fb).elim λbE z=>z.2.2.elim λs z2=>pV z2 λhT hz uz hg z3=>aT z3 λG0 y=>aT (Prod.mk.inj y) λy yt=>?_;refine ⟨bE,z.1,z.2.1,s,hT,λn uy=>cC.mp uy▸pinned_of_view hg G0 ZW ZX ZY,λx hx=>(nomatch hx),λx hx=>(nomatch hx),?_⟩;have uz:=Array.eq_empty_of_size_eq_zero (bB.mp uz);refine ClaimW.callFrom_of_specG hz uz λargs kI Z4 ord KX=>?_;refine nV (Prod.exists.mp (isSome_iff_exists.mp (layAllW_isSome (P:=w.params) (ord:=ord) G0.has args lw.row.args s (pre_splitW kI).1))) λD bq rO=>?_;have keeps:=layAllW_keeps _ _ _ rO;have kY:=layAllW_rest _ _ _ rO;refine d4 (reads_layAllW KX _ _ _ rO Z4 bq.heap (λZ Z e=>e)) λas Z5 cA Z6=>?_;have L:Laid lw.row.records w s bq args D as:=⟨⟨ord,KX,rO⟩,Z5,cA,Z6,keeps,kY.1.trans uz,kY.2.2.1⟩
 have pU:=G0.keeps mn.keeps keeps;have KY:=mo.keeps _ _ _ (mo.of w s y) keeps;refine bt (ZU kI) λl e hl=>?_;subst e;refine du (Z2 L.well) λa us e ho CQ=>?_;subst e;refine ⟨_,bq,rO,an (wpAny_nsGet pU.T.g ?_)⟩;rw [Z0,pU.X.mg _ ZZ];refine an (di (C.call w bq _ _ pU.T.g pU.T.b pU.T.nolimit pU.T.builtins pU.X KY (bx ((yt)▸by decide) (Z1 rO)) (dJ (by decide) (cW KY.d)) l _ _ hl ho CQ) (λv V q=>?_) λZ Z h=>h.elim);refine km q λe k o g=>aQ ⟨_,rfl,e▸?_⟩;have Z7:lw.row.toRowW.claim.post [.list (l.map WData.int)] (.bool true) [.list (l.map WData.int)]=true:=by kernel_rfl
 have Z8:GoodW lw.row.toRowW.claim (classAt s.heap) (ExcName.means s.heap) _ bq (.ok (.ret (.bool true))) V:=⟨.inl ⟨_,.bool true,[],rfl,λZ=>rfl,.bool _,Z7,λZ=>⟨nodup_nil,λZ h=>(nomatch h)⟩⟩,k,o,g.trans (kY.1.trans uz)⟩
 have z:=Z8.toG.laid (c:=lw.row.toRowW.claim) rfl rfl (ident_freeW rfl rfl rfl) L;exact ⟨z.1,z.2.1,z.2.2,λq=>(nomatch q)⟩
noncomputable def KQ:Nat:=12
noncomputable def CR:ah:=⟨λZ=>none,[]⟩
def Z9(am:∀l:List Int,l.length<=63->∃st,(gL qP KQ).fn 14 [.d (.list (l.map ab.int))] CR=some (.d (.bool true),st)):KW where
 call w s mg mb hg hb hl Z' X yY ht hs l a D hlen ho hw:=by
  refine b6 (ZO (w:=w) hg hb hl Z' X yY) λK T=>?_;refine b6 (am l hlen) λst e=>?_;have R:SR ⟨pw,w,s.heap,mg,mb,rL,rK⟩ [] ⟨λZ=>none,λZ=>False,λZ=>False⟩ CR s.heap:=
   ⟨λZ Z h=>h,aD _,hs,λZ h=>(nomatch h),λZ Z h=>(nomatch h),λZ=>rfl,λZ Z Z h=>(nomatch h),λZ Z Z h=>(nomatch h),λZ h=>h.elim,λZ h=>h.elim,λZ Z h=>(nomatch h)⟩
  refine wpAny_call (codeAny_mono ((Tz T KQ).calls 14 _ _ _ e callerA [] _ s [.ref a] ht ⟨by decide,by decide,rfl⟩ R (.cons ⟨a,D,rfl,λh=>h.elim (λh=>nomatch h) λ⟨_,h⟩=>(nomatch h),⟨_,ho⟩,?_,ZQ hw⟩ .nil)) λres V z=>?_)
  ·rw [length_map]
   exact af hlen (by decide)
  ·obtain ⟨v,rfl,m',R',ad,p⟩:=z
   exact ⟨p,λb o h=>ad.keep b o (λh=>nomatch h) (λZ h=>nomatch h) h,ad.os,ad.gens⟩
def law_holds_of(am:∀l:List Int,l.length<=63->∃st,(gL qP KQ).fn 14 [.d (.list (l.map ab.int))] CR=some (.d (.bool true),st)):lw.Holds:=⟨KU,Z3 (Z9 am) ZH⟩
end
end Mine
set_option maxRecDepth 100000 in
theorem PySem.Challenge.cw_sc0093_01_holds : PySem.Challenge.rw_sc0093_01.Holds :=
 Mine.law_holds_of λl hl=>Mine.law_run (n:=6) l hl
