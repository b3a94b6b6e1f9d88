import PyProof.Rows.All
import Wide.All
import OpenK.AllK
import Wide.FinOn
import PyProof.StrLawsReplace
import PyProof.StrLawsIn
import PyProof.StrLawsJoin
import Lean
import PySem.Challenge.RW_sc0110_01
open PySem PySem.W PySem.Calls PyProof.Rows
set_option Elab.async false
set_option linter.all false
set_option maxRecDepth 100000
set_option genSizeOf false
set_option genInjectivity false
set_option genCtorIdx false
set_option bootstrap.genMatcherCode false
set_option compiler.extract_closed false
namespace Mine
def U:=@wpAny_bind
def ak:=@List.length_append
def au:=@List.append_assoc
def aq:=@Option.some.inj
def ax:=@List.length_map
def am:=@Nat.le_trans
def aj:=@wpAny_pure
def aU:=@Nat.le_of_ble_eq_true
def aJ:=@List.length_cons
def ag:=@congrArg
def bf:=@Heap.get?_push_of_some
def aM:=@Bool.and_eq_true
def aZ:=@List.size_toArray
def bC:=@List.getElem?_eq_getElem
def aS:=@List.append_nil
def bD:=@PySem.F.plainAttrs_list
def bK:=@Nat.eq_of_beq_eq_true
def b0:=@PySem.F.type_list_append
def bi:=@List.getElem?_map
def aF:=@Nat.le_refl
def cJ:=@PySem.F.slot_list_append
def aW:=@Nat.zero_le
def cu:=@Heap.get?_push_size
def a8:=@Exists.elim
def bq:=@wpAny_holding
def c6:=@List.getElem?_set_ne
def cb:=@List.length_drop
def a_:=@wpAny_mono
def bL:=@Nat.ne_of_lt
def dA:=@Nat.lt_of_lt_of_le
def dH:=@List.length_reverse
def dQ:=@Nat.add_le_add_right
def d8:=@Nat.ble_eq_true_of_le
def d_:=@Heap.get?_update_self
def bT:=@Heap.lt_size
def ef:=@List.mem_of_getElem?
def cy:=@List.map_cons
def eg:=@Heap.SameBut.update
def aH:=@if_neg
def fF:=@List.getElem?_set_self
def c7:=@Nat.add_assoc
def dh:=@wpAny_standAt
def fG:=@List.mem_append_left
def er:=@Nat.lt_succ_self
def dR:=@decide_eq_false
def eP:=@List.reverse_cons
def dS:=@List.length_set
def dI:=@decide_eq_true
def a6:=@if_pos
def lL:=@PyProof.Rows.F.plain_set_update_loop
def gi:=@Array.length_toList
def fH:=@Nat.lt_succ_of_lt
def dj:=@sizeLine_eq
def gL:=@List.reverse_reverse
def gM:=@Heap.get?_none_of_le
def dJ:=@Nat.ne_of_gt
def gj:=@Int.natCast_nonneg
def fe:=@codeAny_builtin
def fg:=@List.map_append
def dk:=@cond_false
def il:=@Around.under_plainId
def fJ:=@wpAny_loadPart'
def fK:=@List.length_nil
def cS:=@cond_true
def bM:=@Ne.symm
def kq:=@List.getElem?_eq_none_iff
def io:=@List.map_congr_left
def gN:=@wpAny_newObj_type
def gO:=@List.flatMap_cons
def gP:=@List.count_append
def gQ:=@Bool.not_eq_true'
def ju:=@builtinLookup_eq_fast
def eQ:=@Nat.zero_add
def eR:=@Nat.le_of_lt
def gR:=@Nat.le_add_right
def gS:=@List.map_reverse
def gT:=@List.cons_ne_nil
def ip:=@of_decide_eq_true
def kr:=@PySem.F.plainAttrs_str
def iq:=@Nat.le_succ_of_le
def ir:=@Nat.le_of_succ_le
def eT:=@Nat.le_succ
def kt:=@PySem.F.slot_list_pop
def iu:=@wpAny_askSetting
def eA:=@Nat.mod_lt
def iw:=@List.cons_append
def jv:=@Bool.false_eq_true
def fL:=@codeAny_mono
def fM:=@Nat.lt_trans
def fN:=@Nat.le_of_eq
def gU:=@Nat.add_le_add
def gV:=@List.drop_zero
def eU:=@strKind_is
def qb:=@PyProof.Rows.F.entry_set_update_loop
def gl:=@Int.le_trans
def gW:=@plainId_quiet
def fO:=@Int.le_refl
def jw:=@Nat.succ_le_succ
def jx:=@List.length_take
def i0:=@Bool.false_ne_true
def jX:=@PySem.F.type_list_pop
def jY:=@List.getElem?_toArray
def lM:=@PySem.F.plain_extend_loop
def hV:=@wpAny_execs_nil
def hX:=@typeLookup_type
def i4:=@wpAny_setState_of
def fU:=@Nat.succ.inj
def jZ:=@List.drop_eq_nil_iff
def fV:=@Int.zero_add
def eN:=@wpAny_rule
def j4:=@List.getElem?_range
def j5:=@List.flatMap_append
def i5:=@wpAny_call_entry
def i6:=@List.filter_cons
def i7:=@List.all_eq_true
def j6:=@wpAny_setField_rec
def fh:=@wpAny_call
def gz:=@Nat.add_comm
def lN:=@Heap.get?_update_other
def hY:=@List.cons.inj
def lO:=@List.set_append_right
def j7:=@List.length_range
def lP:=@wpAny_loadName_local
def gA:=@wpAny_field
def lQ:=@List.mem_of_mem_drop
def lR:=@List.dropLast_concat
def j8:=@wpAny_isInstance
def j9:=@Nat.min_eq_right
def hZ:=@Nat.beq_refl
def j_:=@List.mem_reverse
def h_:=@List.map_map
def ka:=@List.flatMap_nil
def lS:=@Value.isStrOf_shape
def lT:=@List.reverse_append
def lU:=@Int.negSucc_lt_zero
def i8:=@listUpdate_at
def i9:=@Value.ref.inj
def i_:=@Nat.lt_irrefl
def kb:=@Nat.min_eq_left
def kc:=@List.nil_append
def ou:=@PySem.F.slot_dict_items
def d6:=@trivial
def ke:=@isSubtype_type
def fi:=@any_some
def kg:=@Value.type.inj
def ow:=@Nat.le_of_succ_le_succ
def oz:=@List.take_of_length_le
def oA:=@List.drop_eq_nil_of_le
def kh:=@Heap.size_push
def oB:=@List.mem_append_right
def oD:=@List.length_replicate
def lV:=@Nat.succ_ne_zero
def lW:=@Nat.min_le_right
def ki:=@List.map_drop
def kj:=@List.any_cons
def oE:=@codeAny_call_builtin
def oF:=@Nat.mul_le_mul_right
def oG:=@List.set_append_left
def oH:=@List.mem_of_mem_take
def rz:=@List.eq_nil_of_length_eq_zero
section
variable {P p:Prop}{α β γ δ ε:Type}{q:α->Prop}{b:α->β->γ->δ->Prop}{d:α->β->γ->δ->ε->Prop}
set_option maxHeartbeats 200000
theorem xA{q:Prop}(h:p/\q)(k:p->q->P):P:=And.elim k h
theorem xE{p:α->Prop}(h:∃x,p x)(k:∀x,p x->P):P:=a8 h k
theorem t_{q a:Prop}(h:p/\q/\a)(k:p->q->a->P):P:=And.elim (λa h=>xA h (k a)) h
theorem Tv(h:p/\(∃x,q x))(k:p->∀x,q x->P):P:=And.elim (λa h=>xE h (k a)) h
theorem bx{p:α->Prop}(h:∃x,p x/\q x)(k:∀x,p x->q x->P):P:=a8 h λx h=>xA h (k x)
theorem w8{p:α->β->Prop}(h:∃x,∃y,p x y)(k:∀x,∀y,p x y->P):P:=a8 h λx h=>xE h (k x)
theorem FC{q a b:Prop}(h:p/\q/\a/\b)(k:p->q->a->b->P):P:=And.elim (λa h=>t_ h (k a)) h
theorem LQ{q:Prop}{a:α->Prop}(h:p/\q/\(∃x,a x))(k:p->q->∀x,a x->P):P:=And.elim (λa h=>Tv h (k a)) h
theorem jy{a:α->Prop}(h:p/\(∃x,q x/\a x))(k:p->∀x,q x->a x->P):P:=And.elim (λa h=>bx h (k a)) h
theorem zf{p a:α->Prop}(h:∃x,p x/\q x/\a x)(k:∀x,p x->q x->a x->P):P:=a8 h λx h=>t_ h (k x)
theorem Yl{p:α->Prop}{q:α->β->Prop}(h:∃x,p x/\(∃y,q x y))(k:∀x,p x->∀y,q x y->P):P:=a8 h λx h=>Tv h (k x)
theorem dB{p q:α->β->Prop}(h:∃x,∃y,p x y/\q x y)(k:∀x,∀y,p x y->q x y->P):P:=a8 h λx h=>bx h (k x)
theorem FD{p:α->β->γ->Prop}(h:∃x,∃y,∃z,p x y z)(k:∀x,∀y,∀z,p x y z->P):P:=a8 h λx h=>w8 h (k x)
theorem Ot{q a b c:Prop}(h:p/\q/\a/\b/\c)(k:p->q->a->b->c->P):P:=And.elim (λa h=>FC h (k a)) h
theorem TV{q:Prop}{a b:α->Prop}(h:p/\q/\(∃x,a x/\b x))(k:p->q->∀x,a x->b x->P):P:=And.elim (λa h=>jy h (k a)) h
theorem DM{a b:α->Prop}(h:p/\(∃x,q x/\a x/\b x))(k:p->∀x,q x->a x->b x->P):P:=And.elim (λa h=>zf h (k a)) h
theorem Ou{q a:α->β->Prop}(h:p/\(∃x,∃y,q x y/\a x y))(k:p->∀x,∀y,q x y->a x y->P):P:=And.elim (λa h=>dB h (k a)) h
theorem Ov{q:α->β->γ->Prop}(h:p/\(∃x,∃y,∃z,q x y z))(k:p->∀x,∀y,∀z,q x y z->P):P:=And.elim (λa h=>FD h (k a)) h
theorem zg{p a b:α->Prop}(h:∃x,p x/\q x/\a x/\b x)(k:∀x,p x->q x->a x->b x->P):P:=a8 h λx h=>FC h (k x)
theorem Hw{p:α->Prop}{a:α->β->Prop}(h:∃x,p x/\q x/\(∃y,a x y))(k:∀x,p x->q x->∀y,a x y->P):P:=a8 h λx h=>LQ h (k x)
theorem TW{p:α->Prop}{q a:α->β->Prop}(h:∃x,p x/\(∃y,q x y/\a x y))(k:∀x,p x->∀y,q x y->a x y->P):P:=a8 h λx h=>jy h (k x)
theorem dZ{p q a:α->β->Prop}(h:∃x,∃y,p x y/\q x y/\a x y)(k:∀x,∀y,p x y->q x y->a x y->P):P:=a8 h λx h=>zf h (k x)
theorem mX{p q:α->β->γ->Prop}(h:∃x,∃y,∃z,p x y z/\q x y z)(k:∀x,∀y,∀z,p x y z->q x y z->P):P:=a8 h λx h=>dB h (k x)
theorem TX{p:α->β->γ->δ->Prop}(h:∃x,∃y,∃z,∃u,p x y z u)(k:∀x,∀y,∀z,∀u,p x y z u->P):P:=a8 h λx h=>FD h (k x)
theorem Hx{q a b c d:Prop}(h:p/\q/\a/\b/\c/\d)(k:p->q->a->b->c->d->P):P:=And.elim (λa h=>Ot h (k a)) h
theorem BC{q a:Prop}{b c:α->Prop}(h:p/\q/\a/\(∃x,b x/\c x))(k:p->q->a->∀x,b x->c x->P):P:=And.elim (λa h=>TV h (k a)) h
theorem w9{q:Prop}{a b:α->β->Prop}(h:p/\q/\(∃x,∃y,a x y/\b x y))(k:p->q->∀x,∀y,a x y->b x y->P):P:=And.elim (λa h=>Ou h (k a)) h
theorem PB{a b c:α->Prop}(h:p/\(∃x,q x/\a x/\b x/\c x))(k:p->∀x,q x->a x->b x->c x->P):P:=And.elim (λa h=>zg h (k a)) h
theorem ua{a b:α->β->Prop}(h:p/\(∃x,q x/\(∃y,a x y/\b x y)))(k:p->∀x,q x->∀y,a x y->b x y->P):P:=And.elim (λa h=>TW h (k a)) h
theorem PC{q a b:α->β->Prop}(h:p/\(∃x,∃y,q x y/\a x y/\b x y))(k:p->∀x,∀y,q x y->a x y->b x y->P):P:=And.elim (λa h=>dZ h (k a)) h
theorem PD{q a:α->β->γ->Prop}(h:p/\(∃x,∃y,∃z,q x y z/\a x y z))(k:p->∀x,∀y,∀z,q x y z->a x y z->P):P:=And.elim (λa h=>mX h (k a)) h
theorem PE{p a b c:α->Prop}(h:∃x,p x/\q x/\a x/\b x/\c x)(k:∀x,p x->q x->a x->b x->c x->P):P:=a8 h λx h=>Ot h (k x)
theorem Hy{p:α->Prop}{q a:α->β->γ->Prop}(h:∃x,p x/\(∃y,∃z,q x y z/\a x y z))(k:∀x,p x->∀y,∀z,q x y z->a x y z->P):P:=a8 h λx h=>Ou h (k x)
theorem PF{p:α->Prop}{q:α->β->γ->δ->Prop}(h:∃x,p x/\(∃y,∃z,∃u,q x y z u))(k:∀x,p x->∀y,∀z,∀u,q x y z u->P):P:=a8 h λx h=>Ov h (k x)
theorem ub{p q a b:α->β->Prop}(h:∃x,∃y,p x y/\q x y/\a x y/\b x y)(k:∀x,∀y,p x y->q x y->a x y->b x y->P):P:=a8 h λx h=>zg h (k x)
theorem jb{p q a:α->β->γ->Prop}(h:∃x,∃y,∃z,p x y z/\q x y z/\a x y z)(k:∀x,∀y,∀z,p x y z->q x y z->a x y z->P):P:=a8 h λx h=>dZ h (k x)
theorem BD{p q:α->β->γ->δ->Prop}(h:∃x,∃y,∃z,∃u,p x y z u/\q x y z u)(k:∀x,∀y,∀z,∀u,p x y z u->q x y z u->P):P:=a8 h λx h=>mX h (k x)
theorem LR{q a b c d e:Prop}(h:p/\q/\a/\b/\c/\d/\e)(k:p->q->a->b->c->d->e->P):P:=And.elim (λa h=>Hx h (k a)) h
theorem mr{a b:α->β->γ->Prop}(h:p/\(∃x,q x/\(∃y,∃z,a x y z/\b x y z)))(k:p->∀x,q x->∀y,∀z,a x y z->b x y z->P):P:=And.elim (λa h=>Hy h (k a)) h
theorem w_{a:α->β->γ->δ->Prop}(h:p/\(∃x,q x/\(∃y,∃z,∃u,a x y z u)))(k:p->∀x,q x->∀y,∀z,∀u,a x y z u->P):P:=And.elim (λa h=>PF h (k a)) h
theorem DN{p a b c d:α->Prop}(h:∃x,p x/\q x/\a x/\b x/\c x/\d x)(k:∀x,p x->q x->a x->b x->c x->d x->P):P:=a8 h λx h=>Hx h (k x)
theorem LS{p a:α->Prop}{b c:α->β->Prop}(h:∃x,p x/\q x/\a x/\(∃y,b x y/\c x y))(k:∀x,p x->q x->a x->∀y,b x y->c x y->P):P:=a8 h λx h=>BC h (k x)
theorem LT{p q a b c:α->β->Prop}(h:∃x,∃y,p x y/\q x y/\a x y/\b x y/\c x y)(k:∀x,∀y,p x y->q x y->a x y->b x y->c x y->P):P:=a8 h λx h=>PE h (k x)
theorem fZ{p q a b:α->β->γ->Prop}(h:∃x,∃y,∃z,p x y z/\q x y z/\a x y z/\b x y z)(k:∀x,∀y,∀z,p x y z->q x y z->a x y z->b x y z->P):P:=a8 h λx h=>ub h (k x)
theorem LU{p q a:α->β->γ->δ->Prop}(h:∃x,∃y,∃z,∃u,p x y z u/\q x y z u/\a x y z u)(k:∀x,∀y,∀z,∀u,p x y z u->q x y z u->a x y z u->P):P:=a8 h λx h=>jb h (k x)
theorem Hz{q a b c d e f:Prop}(h:p/\q/\a/\b/\c/\d/\e/\f)(k:p->q->a->b->c->d->e->f->P):P:=And.elim (λa h=>LR h (k a)) h
theorem zh{p q a b c d:α->β->Prop}(h:∃x,∃y,p x y/\q x y/\a x y/\b x y/\c x y/\d x y)(k:∀x,∀y,p x y->q x y->a x y->b x y->c x y->d x y->P):P:=a8 h λx h=>DN h (k x)
theorem HA{p q a:α->β->Prop}{b c:α->β->γ->Prop}(h:∃x,∃y,p x y/\q x y/\a x y/\(∃z,b x y z/\c x y z))(k:∀x,∀y,p x y->q x y->a x y->∀z,b x y z->c x y z->P):P:=a8 h λx h=>LS h (k x)
theorem gX{p q a b c:α->β->γ->Prop}(h:∃x,∃y,∃z,p x y z/\q x y z/\a x y z/\b x y z/\c x y z)(k:∀x,∀y,∀z,p x y z->q x y z->a x y z->b x y z->c x y z->P):P:=a8 h λx h=>LT h (k x)
theorem gY{p q a:α->β->γ->δ->Prop}(h:∃x,∃y,∃z,∃u,p x y z u/\q x y z u/\a x y z u/\b x y z u)(k:∀x,∀y,∀z,∀u,p x y z u->q x y z u->a x y z u->b x y z u->P):P:=a8 h λx h=>fZ h (k x)
theorem zi{p q a:α->β->γ->δ->ε->Prop}(h:∃x,∃y,∃z,∃u,∃v,p x y z u v/\q x y z u v/\a x y z u v)(k:∀x,∀y,∀z,∀u,∀v,p x y z u v->q x y z u v->a x y z u v->P):P:=a8 h λx h=>LU h (k x)
theorem FE{q a b c d:α->β->γ->Prop}(h:p/\(∃x,∃y,∃z,q x y z/\a x y z/\b x y z/\c x y z/\d x y z))(k:p->∀x,∀y,∀z,q x y z->a x y z->b x y z->c x y z->d x y z->P):P:=And.elim (λa h=>gX h (k a)) h
theorem FF{p a b c d e f:α->Prop}(h:∃x,p x/\q x/\a x/\b x/\c x/\d x/\e x/\f x)(k:∀x,p x->q x->a x->b x->c x->d x->e x->f x->P):P:=a8 h λx h=>Hz h (k x)
theorem rA{p q a b c d:α->β->γ->Prop}(h:∃x,∃y,∃z,p x y z/\q x y z/\a x y z/\b x y z/\c x y z/\d x y z)(k:∀x,∀y,∀z,p x y z->q x y z->a x y z->b x y z->c x y z->d x y z->P):P:=a8 h λx h=>zh h (k x)
theorem rB{p q a:α->β->γ->Prop}{c:α->β->γ->δ->Prop}(h:∃x,∃y,∃z,p x y z/\q x y z/\a x y z/\(∃u,b x y z u/\c x y z u))(k:∀x,∀y,∀z,p x y z->q x y z->a x y z->∀u,b x y z u->c x y z u->P):P:=a8 h λx h=>HA h (k x)
theorem oI{p q a c:α->β->γ->δ->Prop}(h:∃x,∃y,∃z,∃u,p x y z u/\q x y z u/\a x y z u/\b x y z u/\c x y z u)(k:∀x,∀y,∀z,∀u,p x y z u->q x y z u->a x y z u->b x y z u->c x y z u->P):P:=a8 h λx h=>gX h (k x)
theorem BE{q a c d:α->β->γ->δ->Prop}(h:p/\(∃x,∃y,∃z,∃u,q x y z u/\a x y z u/\b x y z u/\c x y z u/\d x y z u))(k:p->∀x,∀y,∀z,∀u,q x y z u->a x y z u->b x y z u->c x y z u->d x y z u->P):P:=And.elim (λa h=>oI h (k a)) h
theorem BF{p:α->Prop}{q a c d:α->β->γ->δ->Prop}(h:∃x,p x/\(∃y,∃z,∃u,q x y z u/\a x y z u/\b x y z u/\c x y z u/\d x y z u))(k:∀x,p x->∀y,∀z,∀u,q x y z u->a x y z u->b x y z u->c x y z u->d x y z u->P):P:=a8 h λx h=>FE h (k x)
theorem BG{p q a b c d e f:α->β->Prop}(h:∃x,∃y,p x y/\q x y/\a x y/\b x y/\c x y/\d x y/\e x y/\f x y)(k:∀x,∀y,p x y->q x y->a x y->b x y->c x y->d x y->e x y->f x y->P):P:=a8 h λx h=>FF h (k x)
theorem BH{p q a c d:α->β->γ->δ->Prop}(h:∃x,∃y,∃z,∃u,p x y z u/\q x y z u/\a x y z u/\b x y z u/\c x y z u/\d x y z u)(k:∀x,∀y,∀z,∀u,p x y z u->q x y z u->a x y z u->b x y z u->c x y z u->d x y z u->P):P:=a8 h λx h=>rA h (k x)
theorem uc{p q a b c:α->β->γ->δ->ε->Prop}(h:∃x,∃y,∃z,∃u,∃v,p x y z u v/\q x y z u v/\a x y z u v/\b x y z u v/\c x y z u v)(k:∀x,∀y,∀z,∀u,∀v,p x y z u v->q x y z u v->a x y z u v->b x y z u v->c x y z u v->P):P:=a8 h λx h=>oI h (k x)
theorem zj{a c d e:α->β->γ->δ->Prop}(h:p/\(∃x,q x/\(∃y,∃z,∃u,a x y z u/\b x y z u/\c x y z u/\d x y z u/\e x y z u)))(k:p->∀x,q x->∀y,∀z,∀u,a x y z u->b x y z u->c x y z u->d x y z u->e x y z u->P):P:=And.elim (λa h=>BF h (k a)) h
theorem zk{p:α->Prop}{q a b c:α->β->γ->δ->ε->Prop}(h:∃x,p x/\(∃y,∃z,∃u,∃v,q x y z u v/\a x y z u v/\b x y z u v/\c x y z u v/\d x y z u v))(k:∀x,p x->∀y,∀z,∀u,∀v,q x y z u v->a x y z u v->b x y z u v->c x y z u v->d x y z u v->P):P:=a8 h λx h=>BE h (k x)
theorem zm{p q a b c d e f:α->β->γ->Prop}(h:∃x,∃y,∃z,p x y z/\q x y z/\a x y z/\b x y z/\c x y z/\d x y z/\e x y z/\f x y z)(k:∀x,∀y,∀z,p x y z->q x y z->a x y z->b x y z->c x y z->d x y z->e x y z->f x y z->P):P:=a8 h λx h=>BG h (k x)
theorem zn{p q a b c:α->β->γ->δ->ε->Prop}(h:∃x,∃y,∃z,∃u,∃v,p x y z u v/\q x y z u v/\a x y z u v/\b x y z u v/\c x y z u v/\d x y z u v)(k:∀x,∀y,∀z,∀u,∀v,p x y z u v->q x y z u v->a x y z u v->b x y z u v->c x y z u v->d x y z u v->P):P:=a8 h λx h=>BH h (k x)
theorem xa{a b c e:α->β->γ->δ->ε->Prop}(h:p/\(∃x,q x/\(∃y,∃z,∃u,∃v,a x y z u v/\b x y z u v/\c x y z u v/\d x y z u v/\e x y z u v)))(k:p->∀x,q x->∀y,∀z,∀u,∀v,a x y z u v->b x y z u v->c x y z u v->d x y z u v->e x y z u v->P):P:=And.elim (λa h=>zk h (k a)) h
theorem xb{q a b c e:α->β->γ->δ->ε->Prop}(h:p/\(∃x,∃y,∃z,∃u,∃v,q x y z u v/\a x y z u v/\b x y z u v/\c x y z u v/\d x y z u v/\e x y z u v))(k:p->∀x,∀y,∀z,∀u,∀v,q x y z u v->a x y z u v->b x y z u v->c x y z u v->d x y z u v->e x y z u v->P):P:=And.elim (λa h=>zn h (k a)) h
theorem xc{p q a c d e f:α->β->γ->δ->Prop}(h:∃x,∃y,∃z,∃u,p x y z u/\q x y z u/\a x y z u/\b x y z u/\c x y z u/\d x y z u/\e x y z u/\f x y z u)(k:∀x,∀y,∀z,∀u,p x y z u->q x y z u->a x y z u->b x y z u->c x y z u->d x y z u->e x y z u->f x y z u->P):P:=a8 h λx h=>zm h (k x)
theorem lz{p q a b c e f:α->β->γ->δ->ε->Prop}(h:∃x,∃y,∃z,∃u,∃v,p x y z u v/\q x y z u v/\a x y z u v/\b x y z u v/\c x y z u v/\d x y z u v/\e x y z u v/\f x y z u v)(k:∀x,∀y,∀z,∀u,∀v,p x y z u v->q x y z u v->a x y z u v->b x y z u v->c x y z u v->d x y z u v->e x y z u v->f x y z u v->P):P:=a8 h λx h=>xc h (k x)
theorem ud{q a b c e f g:α->β->γ->δ->ε->Prop}(h:p/\(∃x,∃y,∃z,∃u,∃v,q x y z u v/\a x y z u v/\b x y z u v/\c x y z u v/\d x y z u v/\e x y z u v/\f x y z u v/\g x y z u v))(k:p->∀x,∀y,∀z,∀u,∀v,q x y z u v->a x y z u v->b x y z u v->c x y z u v->d x y z u v->e x y z u v->f x y z u v->g x y z u v->P):P:=And.elim (λa h=>lz h (k a)) h
theorem nS{x:α}(h:none=some x):P:=nomatch h
theorem LG{x:α}(h:some x=none):P:=nomatch h
theorem nB(h:false=true):P:=nomatch h
theorem yU(h:true=false):P:=nomatch h
inductive Ex|v(i:Nat)|n(k:Nat)|a(x y:Ex)|m(k:Nat)(x:Ex)
noncomputable def Xr:List Nat->Nat->Nat
 | [],_=>0
 |a::_,0=>a
 |_::t,i+1=>Xr t i
noncomputable def Ex.den(c:List Nat):Ex->Nat
 | .v i=>Xr c i
 | .n k=>k
 | .a x y=>x.den c+y.den c
 | .m k x=>k*x.den c
noncomputable def nb:List Nat->List Nat->List Nat
 | [],q=>q
 |a::p,[]=>a::p
 |a::p,b::q=>(a+b)::nb p q
noncomputable def nq(k:Nat):List Nat->List Nat
 | []=>[]
 |a::p=>k*a::nq k p
noncomputable def Xs:List Nat->List Nat->Bool
 | [],_=>true
 |a::p,[]=>Nat.beq a 0&&Xs p []
 |a::p,b::q=>Nat.ble a b&&Xs p q
noncomputable def HB:Nat->List Nat
 |0=>[1]
 |i+1=>0::HB i
noncomputable def Ex.pol:Ex->List Nat
 | .v i=>0::HB i
 | .n k=>[k]
 | .a x y=>nb x.pol y.pol
 | .m k x=>nq k x.pol
noncomputable def oX:List Nat->List Nat->Nat
 |x::c,a::p=>a*x+oX c p
 |_,_=>0
theorem qc(c:List Nat):oX c []=0:=by cases c<;>rfl
theorem ms:∀(c p q:List Nat),oX c (nb p q)=oX c p+oX c q
 | [],p,q=>by cases p<;>cases q<;>rfl
 |x::c,[],q=>by cases q<;>exact(eQ _).symm
 |x::c,a::p,[]=>(Nat.add_zero _).symm
 |x::c,a::p,b::q=>by show(a+b)*x+oX c (nb p q)=a*x+oX c p+(b*x+oX c q);rw[ms c p q,Nat.add_mul];exact Nat.add_add_add_comm _ _ _ _
theorem oJ(k:Nat):∀(c p:List Nat),oX c (nq k p)=k*oX c p
 | [],p=>by cases p<;>rfl
 |x::c,[]=>rfl
 |x::c,a::p=>by show k*a*x+oX c (nq k p)=k*(a*x+oX c p);rw[oJ k c p,Nat.mul_add,Nat.mul_assoc]
theorem BI:∀(c p q:List Nat),Xs p q=true->oX c p<=oX c q
 |c,[],q,_=>by rw[qc];exact aW _
 | [],a::p,q,_=>aW _
 |x::c,a::p,[],h=>by have h:=(aM _ _).mp h;have h1:=bK h.1;have h2:=BI c p [] h.2;rw[qc] at h2;show a*x+oX c p<=0;rw[h1,Nat.zero_mul,eQ];exact h2
 |x::c,a::p,b::q,h=>by have h:=(aM _ _).mp h;exact gU (oF x (aU h.1)) (BI c p q h.2)
theorem DO:∀(c:List Nat)(i:Nat),oX c (HB i)=Xr c i
 | [],i=>by cases i<;>rfl
 |x::c,0=>by show 1*x+oX c []=x;rw[qc,Nat.one_mul];rfl
 |x::c,i+1=>by show 0*x+oX c (HB i)=Xr c i;rw[Nat.zero_mul,eQ];exact DO c i
theorem mt(c:List Nat):∀e:Ex,e.den c=oX (1::c) e.pol
 | .v i=>by show _=0*1+oX c (HB i);rw[DO];exact(eQ _).symm
 | .n k=>by show _=k*1+oX c [];rw[qc];exact(Nat.mul_one k).symm
 | .a x y=>by show _+_=oX (1::c) (nb _ _);rw[ms,<-mt c x,<-mt c y]
 | .m k x=>by show _*_=oX (1::c) (nq _ _);rw[oJ,<-mt c x]
inductive Hs|nil|c(k:Nat)(l r:Ex)(t:Hs)|e(k:Nat)(l r:Ex)(t:Hs)|f(k:Nat)(l r:Ex)(t:Hs)|g(k:Nat)(l r:Ex)(t:Hs)
def Hs.imp(c:List Nat)(G:Prop):Hs->Prop
 | .nil=>G
 | .c _ l r t=>l.den c<=r.den c->t.imp c G
 | .e _ l r t=>l.den c=r.den c->t.imp c G
 | .f _ l r t=>l.den c=r.den c->t.imp c G
 | .g _ l r t=>¬ l.den c<=r.den c->t.imp c G
noncomputable def Hs.lo:Hs->List Nat
 | .nil=>[]
 | .c k l _ t=>nb (nq k l.pol) t.lo
 | .e k l _ t=>nb (nq k l.pol) t.lo
 | .f k _ r t=>nb (nq k r.pol) t.lo
 | .g k _ r t=>nb (nq k (Ex.a r (.n 1)).pol) t.lo
noncomputable def Hs.hi:Hs->List Nat
 | .nil=>[]
 | .c k _ r t=>nb (nq k r.pol) t.hi
 | .e k _ r t=>nb (nq k r.pol) t.hi
 | .f k l _ t=>nb (nq k l.pol) t.hi
 | .g k l _ t=>nb (nq k l.pol) t.hi
noncomputable def Hs.flip:Hs->Hs
 | .nil=>.nil
 | .c k l r t=>.c k l r t.flip
 | .e k l r t=>.f k l r t.flip
 | .f k l r t=>.e k l r t.flip
 | .g k l r t=>.g k l r t.flip
noncomputable def Hs.TY(h:Hs)(k:Nat)(l r:Ex):Bool:=Xs (nb (nq (k+1) l.pol) h.hi) (nb (nq (k+1) r.pol) (nb h.lo [k]))
def Hs.ok(h:Hs)(c:List Nat):Prop:=oX (1::c) h.lo<=oX (1::c) h.hi
theorem kZ(c:List Nat)(k:Nat)(l r:Ex)(p q:List Nat)(h:l.den c<=r.den c)(h2:oX (1::c) p<=oX (1::c) q):oX (1::c) (nb (nq k l.pol) p)<=oX (1::c) (nb (nq k r.pol) q):=by rw[ms,ms,oJ,oJ,<-mt,<-mt];exact gU (Nat.mul_le_mul_left k h) h2
theorem Hs.pt(c:List Nat)(G:Prop):∀h:Hs,(h.ok c->h.flip.ok c->G)->h.imp c G
 | .nil,F=>F (aF _) (aF _)
 | .c k l r t,F=>λh=>t.pt c G λh2 h3=>F (kZ c k l r _ _ h h2) (kZ c k l r _ _ h h3)
 | .e k l r t,F=>λh=>t.pt c G λh2 h3=>F (kZ c k l r _ _ (fN h) h2) (kZ c k r l _ _ (fN h.symm) h3)
 | .f k l r t,F=>λh=>t.pt c G λh2 h3=>F (kZ c k r l _ _ (fN h.symm) h2) (kZ c k l r _ _ (fN h) h3)
 | .g k l r t,F=>λh=>t.pt c G λh2 h3=>F (kZ c k (.a r (.n 1)) l _ _ (Nat.not_le.mp h) h2) (kZ c k (.a r (.n 1)) l _ _ (Nat.not_le.mp h) h3)
theorem xd(c:List Nat)(h:Hs)(k:Nat)(l r:Ex)(e:h.TY k l r=true)(h1:h.ok c):l.den c<=r.den c:=by
 have h2:=BI (1::c) _ _ e;rw[ms,ms,ms,oJ,oJ,<-mt,<-mt] at h2;have h3:oX (1::c) [k]=k:=by show k*1+oX c []=k;rw[qc,Nat.mul_one];rfl
 rw[h3] at h2;have h1:oX (1::c) h.lo<=oX (1::c) h.hi:=h1;refine Nat.le_of_not_lt λh4=>?_;have h5:(k+1)*(r.den c+1)<=(k+1)*l.den c:=Nat.mul_le_mul_left _ h4;rw[Nat.mul_add,Nat.mul_one] at h5;have h6:=am (am (dQ h5 _) h2) (Nat.add_le_add_left (dQ h1 k) _);rw[c7,gz (k+1)] at h6;exact Nat.not_succ_le_self k (Nat.le_of_add_le_add_left (Nat.le_of_add_le_add_left h6))
theorem aQ(c:List Nat)(h:Hs)(k:Nat)(l r:Ex)(e:h.TY k l r=true):h.imp c (l.den c<=r.den c):=h.pt c _ λh1 _=>xd c h k l r e h1
theorem fB(c:List Nat)(h:Hs)(k:Nat)(l r:Ex)(e:h.TY k l r=true)(e2:h.flip.TY k r l=true):h.imp c (l.den c=r.den c):=h.pt c _ λh1 h2=>Nat.le_antisymm (xd c h k l r e h1) (xd c _ k r l e2 h2)
theorem zo(c:List Nat)(h:Hs)(k:Nat)(e:h.TY k (.n 1) (.n 0)=true):h.imp c False:=h.pt c _ λh1 _=>Nat.not_succ_le_zero 0 (xd c h k (.n 1) (.n 0) e h1)
theorem lA{a b:Nat}(f:b<=a->a-b+b=a->P)(j:a+1<=b->a-b=0->P):P:=(Nat.lt_or_ge a b).elim (λh=>j h (Nat.sub_eq_zero_of_le (eR h))) λh=>f h (Nat.sub_add_cancel h)
theorem tt:true=true:=rfl
noncomputable def rC(i:Nat):Stmt:=PySem.Challenge.pw_sc0110_01.main.body.getD i (.Pass ⟨0,0,0,0⟩)
noncomputable def Ym(s:Stmt):List Stmt:=by
 cases s with
 |ClassDef _ _ _ b=>exact b
 |_=>exact[]
noncomputable def tc(i j:Nat):Stmt:=(Ym (rC i)).getD j (.Pass ⟨0,0,0,0⟩)
noncomputable def tJ(qn:Str)(dV kV pm cd:Value)(s:Stmt):Obj:=by
 cases s with
 |FunctionDef name args body _ _ _ scope=>exact⟨.type "function",none,.func (fnOf name qn args body scope dV kV .none pm none cd .none), #[]⟩
 |_=>exact⟨.none,none,.plain, #[]⟩
noncomputable def ent(P:Params)(k:Str)(t:Tok)(v:Value):DictEntry:=⟨PyData.keyHash P k,.str k t,v⟩
noncomputable def dc(es:List DictEntry)(n:Nat):Data:=.dict es.toArray n
noncomputable def PG(P:Params):List DictEntry:=[ent P "http://www.w3.org/XML/1998/namespace" 329 (.str "xml" 330),ent P "http://www.w3.org/1999/xhtml" 331 (.str "html" 332),ent P "http://www.w3.org/1999/02/22-rdf-syntax-ns#" 333 (.str "rdf" 334),ent P "http://schemas.xmlsoap.org/wsdl/" 335 (.str "wsdl" 336),ent P "http://www.w3.org/2001/XMLSchema" 337 (.str "xs" 338),ent P "http://www.w3.org/2001/XMLSchema-instance" 339 (.str "xsi" 340),ent P "http://purl.org/dc/elements/1.1/" 341 (.str "dc" 342)]
noncomputable def cdO(n q:Str)(t:Tok)(L a d f:Int)(r:Nat)(z:Nat)(x y w:Value):Obj:=⟨.type "code",none,.fields #[.str n t,.str q (t+1),.str "/claim/cut.py" (t+2),.int L 0,.int a 0,.int 0 0,.int d 0,.int f 0,.ref r,.bool true,.int 276 0,.ref (r+1),.none,x,y,w,.int z 0,.int L 0,.str "/claim/cut.py" (z+1)], #[]⟩
noncomputable def vZ(n q:Str)(t:Tok)(L a d f:Int)(r:Nat)(z:Nat):Obj:=cdO n q t L a d f r z (.ref (r+2)) (.ref (r+3)) (.ref (r+4))
noncomputable def Yo(n q:Str)(t:Tok)(L a d f:Int)(r:Nat)(z:Nat):Obj:=cdO n q t L a d f r z .none .none (.ref (r+2))
noncomputable def Hp:Value:=.str "cpy313.xml.etree.ElementTree" 289
noncomputable def LV:Value:=.str "law_sc0110_01" 635
noncomputable def Xt:Value:=.str "cpy313.netrc" 539
noncomputable def KK(P:Params):Frag:=[
 (2,⟨.none,none,dc [ent P "\x69mport.loaded._sre" 183 (.bool true),ent P "class._frozen_importlib.BuiltinImporter" 185 (.ref 14),ent P "watched.\x69mport" 206 (.ref 18),ent P "class._frozen_importlib.ModuleSpec" 216 (.ref 22),ent P "sys.modules.booked-epoch" 245 (.int 3 0),ent P "\x69mport.later-laid._sre" 270 (.bool true),ent P "watched.library" 272 (.ref 27),ent P "watched.library-objects" 0 (.str "\x0c" 0),ent P "watched.library-deep._sre" 273 (.str "\x04\x00\x00\x0b\x04\x00\x00\x0b\x04\x00\x00\x03\x04\x00\x00\x0b\x08\x04dict\x02" 0)] 9, #[]⟩),
 (3,⟨.type "dict",none,dc [ent P "__name__" 165 LV,ent P "__doc__" 166 .none,ent P "__package__" 167 .none,ent P "__loader__" 168 (.builtin "__main__.__loader__#opaque"),ent P "__spec__" 169 .none,ent P "__annotations__" 170 (.ref 6),ent P "__builtins__" 171 (.ref 4),ent P "__file__" 173 (.str "/claim/cut.py" 172),ent P "__cached__" 174 .none,ent P "_sre" 275 (.ref 12),ent P "_wall" 288 (.ref 38),ent P "_twin_re_1" 328 (.ref 43),ent P "_namespace_map" 350 (.ref 44),ent P "_raise_serialization_error" 357 (.ref 51),ent P "_looks_like_prefix_name" 359 (.ref 52),ent P "C14NWriterTarget" 524 (.ref 150),ent P "_escape_cdata_c14n" 531 (.ref 161),ent P "_escape_attrib_c14n" 538 (.ref 168),ent P "_netrclex" 598 (.ref 206),ent P "_MAX_STRING_SIZE" 602 (.int 40 601),ent P "_MOVE_COST" 604 (.int 2 603),ent P "_CASE_COST" 606 (.int 1 605),ent P "_substitution_cost" 614 (.ref 217),ent P "_levenshtein_distance" 634 (.ref 224),ent P "_law_cells" 646 (.ref 231),ent P "_law_names" 652 (.ref 238),ent P "_law_events" 664 (.ref 245),ent P "_law_walk" 670 (.ref 250),ent P "_law_page" 687 (.ref 257),ent P "_law_words" 701 (.ref 264),ent P "_law_rule" 724 (.ref 271),ent P "law" 730 (.ref 276)] 32, #[]⟩),
 (44,⟨.type "dict",none,dc (PG P) 7, #[]⟩),
 (60,⟨.type "dict",none,dc [ent P "with_comments" 372 (.bool false),ent P "strip_text" 373 (.bool false),ent P "rewrite_prefixes" 374 (.bool false),ent P "qname_aware_tags" 375 .none,ent P "qname_aware_attrs" 376 .none,ent P "exclude_attrs" 377 .none,ent P "exclude_tags" 378 .none] 7, #[]⟩),
 (66,vZ "__init__" "C14NWriterTarget.__init__" 379 13 2 7 3 61 391),
 (67,tJ "C14NWriterTarget.__init__" .none (.ref 60) Hp (.ref 66) (tc 7 0)),
 (68,⟨.type "tuple",none,.seq #[.type "reversed"] 0, #[]⟩),
 (74,vZ "_iter_namespaces" "C14NWriterTarget._iter_namespaces" 394 41 3 0 35 69 401),
 (75,tJ "C14NWriterTarget._iter_namespaces" (.ref 68) .none Hp (.ref 74) (tc 7 1)),
 (83,⟨.type "tuple",none,.seq #[.none] 0, #[]⟩),
 (89,vZ "_qname" "C14NWriterTarget._qname" 416 53 3 0 3 84 426),
 (90,tJ "C14NWriterTarget._qname" (.ref 83) .none Hp (.ref 89) (tc 7 3)),
 (96,vZ "data" "C14NWriterTarget.data" 429 80 2 0 3 91 434),
 (97,tJ "C14NWriterTarget.data" .none .none Hp (.ref 96) (tc 7 4)),
 (98,⟨.type "builtin_function_or_method",none,.fields #[.builtin "str.join",.str "" 437], #[]⟩),
 (99,⟨.type "tuple",none,.seq #[.ref 98] 0, #[]⟩),
 (105,vZ "_flush" "C14NWriterTarget._flush" 439 84 2 0 3 100 447),
 (106,tJ "C14NWriterTarget._flush" (.ref 99) .none Hp (.ref 105) (tc 7 5)),
 (112,vZ "start_ns" "C14NWriterTarget.start_ns" 450 98 3 0 3 107 456),
 (113,tJ "C14NWriterTarget.start_ns" .none .none Hp (.ref 112) (tc 7 6)),
 (119,vZ "start" "C14NWriterTarget.start" 459 105 3 0 3 114 466),
 (120,tJ "C14NWriterTarget.start" .none .none Hp (.ref 119) (tc 7 7)),
 (121,⟨.type "tuple",none,.seq #[.none] 0, #[]⟩),
 (125,Yo "_start" "C14NWriterTarget._start" 469 118 5 0 3 122 472),
 (126,tJ "C14NWriterTarget._start" (.ref 121) .none Hp (.ref 125) (tc 7 8)),
 (132,vZ "end" "C14NWriterTarget.end" 475 163 2 0 3 127 480),
 (133,tJ "C14NWriterTarget.end" .none .none Hp (.ref 132) (tc 7 9)),
 (149,⟨.type "dict",none,dc [ent P "__module__" 367 Hp,ent P "__firstlineno__" 371 (.int 11 370),ent P "__init__" 393 (.ref 67),ent P "_iter_namespaces" 403 (.ref 75),ent P "_resolve_prefix_name" 415 (.ref 82),ent P "_qname" 428 (.ref 90),ent P "data" 436 (.ref 97),ent P "_flush" 449 (.ref 106),ent P "start_ns" 458 (.ref 113),ent P "start" 468 (.ref 120),ent P "_start" 474 (.ref 126),ent P "end" 482 (.ref 133),ent P "comment" 490 (.ref 140),ent P "pi" 499 (.ref 147),ent P "__static_attributes__" 517 (.ref 148),ent P "__dict__" 519 (.ref 151),ent P "__weakref__" 521 (.ref 152),ent P "__doc__" 522 .none] 4, #[]⟩),
 (150,⟨.type "type",none,.cls ⟨"C14NWriterTarget",[.type "object"],[.ref 150,.type "object"],149,"C14NWriterTarget",true,[],[],false,none,false⟩, #[none,none,some (.str "C14NWriterTarget" 360),some (.str "C14NWriterTarget" 368),some (.builtin "object.__new__"),some (.bool true)]⟩),
 (160,vZ "_escape_cdata_c14n" "_escape_cdata_c14n" 525 180 1 0 3 155 529),
 (161,tJ "_escape_cdata_c14n" .none .none Hp (.ref 160) (rC 8)),
 (167,vZ "_escape_attrib_c14n" "_escape_attrib_c14n" 532 193 1 0 3 162 536),
 (168,tJ "_escape_attrib_c14n" .none .none Hp (.ref 167) (rC 9)),
 (181,vZ "__init__" "_netrclex.__init__" 553 213 2 0 3 176 558),
 (182,tJ "_netrclex.__init__" .none .none Xt (.ref 181) (tc 11 0)),
 (188,vZ "_read_char" "_netrclex._read_char" 561 219 1 0 3 183 566),
 (189,tJ "_netrclex._read_char" .none .none Xt (.ref 188) (tc 11 1)),
 (195,vZ "get_token" "_netrclex.get_token" 569 225 1 0 3 190 576),
 (196,tJ "_netrclex.get_token" .none .none Xt (.ref 195) (tc 11 2)),
 (205,⟨.type "dict",none,dc [ent P "__module__" 548 Xt,ent P "__firstlineno__" 552 (.int 211 551),ent P "__init__" 560 (.ref 182),ent P "_read_char" 568 (.ref 189),ent P "get_token" 578 (.ref 196),ent P "push_token" 586 (.ref 203),ent P "__static_attributes__" 591 (.ref 204),ent P "__dict__" 593 (.ref 207),ent P "__weakref__" 595 (.ref 208),ent P "__doc__" 596 .none] 4, #[]⟩),
 (206,⟨.type "type",none,.cls ⟨"_netrclex",[.type "object"],[.ref 206,.type "object"],205,"_netrclex",true,[],[],false,none,false⟩, #[none,none,some (.str "_netrclex" 541),some (.str "_netrclex" 549),some (.builtin "object.__new__"),some (.bool true)]⟩),
 (216,vZ "_substitution_cost" "_substitution_cost" 607 258 2 0 3 211 612),
 (217,tJ "_substitution_cost" .none .none (.str "cpy313.traceback" 599) (.ref 216) (rC 16)),
 (223,vZ "_levenshtein_distance" "_levenshtein_distance" 615 264 3 0 3 218 632),
 (224,tJ "_levenshtein_distance" .none .none (.str "cpy313.traceback" 599) (.ref 223) (rC 17)),
 (230,vZ "_law_cells" "_law_cells" 637 303 1 0 3 225 644),
 (231,tJ "_law_cells" .none .none LV (.ref 230) (rC 19)),
 (237,vZ "_law_names" "_law_names" 647 308 0 0 3 232 650),
 (238,tJ "_law_names" .none .none LV (.ref 237) (rC 20)),
 (244,vZ "_law_events" "_law_events" 653 310 1 0 3 239 662),
 (245,tJ "_law_events" .none .none LV (.ref 244) (rC 21)),
 (249,Yo "_law_walk" "_law_walk" 665 327 1 0 3 246 668),
 (250,tJ "_law_walk" .none .none LV (.ref 249) (rC 22)),
 (256,vZ "_law_page" "_law_page" 671 329 4 0 3 251 685),
 (257,tJ "_law_page" .none .none LV (.ref 256) (rC 23)),
 (263,vZ "_law_words" "_law_words" 688 345 1 0 3 258 699),
 (264,tJ "_law_words" .none .none LV (.ref 263) (rC 24)),
 (270,vZ "_law_rule" "_law_rule" 702 360 4 0 3 265 722),
 (271,tJ "_law_rule" .none .none LV (.ref 270) (rC 25)),
 (275,Yo "law" "law" 725 395 1 0 3 272 728),
 (276,tJ "law" .none .none LV (.ref 275) (rC 26))]
end
section
variable {C a:Addr}{params:Arguments}{A:Around}{zp:Array (Option Value)}{b:Bool}{h h':Heap}{d7:List Addr}{ds:List DictEntry}{args es:List PySem.Expr}{body:List Stmt}{us:List Value}{M:Model}{i k:Nat}{o ob HE:Obj}{op:Operator}{pos:Pos}{P:Prop}{e iter r target rD:PySem.Expr}{s s':Shared}{n' qn x:Str}{α β:Type}{f u:Value}{E:Value->Shared->Prop}{l:List α}{m:List β}{t:Sem α}{c:α}
inductive V where
 |none
 |bool (b:Bool)
 |int (i:Int)
 |str (s:Str)
 |e_ (v:Value)
 |loc (l:Nat)
set_option genCtorIdx true in
inductive FK where
 |meth|sD|mY|TZ|bI
noncomputable def FK.name:FK->String
 | .meth=>"method"
 | .sD=>"builtin_function_or_method"
 | .mY=>"callable_iterator"
 | .TZ=>"list_iterator"
 | .bI=>"dict_items"
set_option genCtorIdx true in
inductive O where
 |list (xs:List V)
 |tup (xs:List V)
 |dict (es:List (Str×V))
 |inst (C:Addr) (d:Nat)
 |cell (v:V)
 |de
 |bP (k:FK) (vs:List V)
 |set (xs:List Str)
 |rows (rs:List (List V))
 |tab (t:Nat) (b:Bool)
 |rng (a b c:Int)
 |fn (t:Nat) (ls:List Nat)
 |sset (xs:List Str)
def aA(o:Option α)(K:α->Prop):Prop:=match o with
 |some v=>K v
 |none=>False
theorem ah{o:Option α}{K:α->Prop}(h:aA o K)(k:∀v,o=some v->K v->P):P:=by
 cases o with
 |none=>exact h.elim
 |some v=>exact k v rfl h
theorem gm{o:Option α}{K:α->Prop}{v:α}(e:o=some v)(h:K v):aA o K:=e.symm▸h
theorem aI{o:Option α}{f:α->Option β}{b:β}(h:o.bind f=some b)(k:∀a,o=some a->f a=some b->P):P:=by
 cases o with
 |none=>exact nS h
 |some v=>exact k v rfl h
theorem bE{o:Option α}{f:α->Option β}{a:α}(h:o=some a):o.bind f=f a:=by rw[h];rfl
noncomputable def O.ls(o:O):Option (List V):=@O.casesOn (λ_=>Option (List V)) o some (λ_=>none) (λ_=>none) (λ_ _=>none) (λ_=>none) none (λ_ _=>none) (λ_=>none) (λ_=>none) (λ_ _=>none) (λ_ _ _=>none) (λ_ _=>none) (λ_=>none)
noncomputable def O.tu(o:O):Option (List V):=@O.casesOn (λ_=>Option (List V)) o (λ_=>none) some (λ_=>none) (λ_ _=>none) (λ_=>none) none (λ_ _=>none) (λ_=>none) (λ_=>none) (λ_ _=>none) (λ_ _ _=>none) (λ_ _=>none) (λ_=>none)
noncomputable def O.di(o:O):Option (List (Str×V)):=@O.casesOn (λ_=>Option (List (Str×V))) o (λ_=>none) (λ_=>none) some (λ_ _=>none) (λ_=>none) none (λ_ _=>none) (λ_=>none) (λ_=>none) (λ_ _=>none) (λ_ _ _=>none) (λ_ _=>none) (λ_=>none)
noncomputable def O.ce(o:O):Option V:=@O.casesOn (λ_=>Option V) o (λ_=>none) (λ_=>none) (λ_=>none) (λ_ _=>none) some none (λ_ _=>none) (λ_=>none) (λ_=>none) (λ_ _=>none) (λ_ _ _=>none) (λ_ _=>none) (λ_=>none)
noncomputable def O.fl(o:O):Option (FK×List V):=@O.casesOn (λ_=>Option (FK×List V)) o (λ_=>none) (λ_=>none) (λ_=>none) (λ_ _=>none) (λ_=>none) none (λk l=>some (k,l)) (λ_=>none) (λ_=>none) (λ_ _=>none) (λ_ _ _=>none) (λ_ _=>none) (λ_=>none)
noncomputable def O.ins(o:O):Option (Addr×Nat):=@O.casesOn (λ_=>Option (Addr×Nat)) o (λ_=>none) (λ_=>none) (λ_=>none) (λC d=>some (C,d)) (λ_=>none) none (λ_ _=>none) (λ_=>none) (λ_=>none) (λ_ _=>none) (λ_ _ _=>none) (λ_ _=>none) (λ_=>none)
theorem O.LW{o:O}{p}(h:o.ins=some p):o= .inst p.1 p.2:=by cases o<;>first|exact nS h|exact ag (λp:Addr×Nat=>O.inst p.1 p.2) (aq h)
noncomputable def O.se(o:O):Option (List Str):=@O.casesOn (λ_=>Option (List Str)) o (λ_=>none) (λ_=>none) (λ_=>none) (λ_ _=>none) (λ_=>none) none (λ_ _=>none) some (λ_=>none) (λ_ _=>none) (λ_ _ _=>none) (λ_ _=>none) (λ_=>none)
theorem O.BJ{o:O}{xs}(h:o.se=some xs):o= .set xs:=by cases o<;>first|exact nS h|exact ag _ (aq h)
noncomputable def O.rg(o:O):Option (Int×Int×Int):=@O.casesOn (λ_=>Option (Int×Int×Int)) o (λ_=>none) (λ_=>none) (λ_=>none) (λ_ _=>none) (λ_=>none) none (λ_ _=>none) (λ_=>none) (λ_=>none) (λ_ _=>none) (λa b c=>some (a,b,c)) (λ_ _=>none) (λ_=>none)
theorem O.BK{o:O}{p}(h:o.rg=some p):o= .rng p.1 p.2.1 p.2.2:=by cases o<;>first|exact nS h|exact ag (λp:Int×Int×Int=>O.rng p.1 p.2.1 p.2.2) (aq h)
noncomputable def O.tb(o:O):Option (Nat×Bool):=@O.casesOn (λ_=>Option (Nat×Bool)) o (λ_=>none) (λ_=>none) (λ_=>none) (λ_ _=>none) (λ_=>none) none (λ_ _=>none) (λ_=>none) (λ_=>none) (λt b=>some (t,b)) (λ_ _ _=>none) (λ_ _=>none) (λ_=>none)
theorem O.PH{o:O}{p}(h:o.tb=some p):o= .tab p.1 p.2:=by cases o<;>first|exact nS h|exact ag (λp:Nat×Bool=>O.tab p.1 p.2) (aq h)
noncomputable def O.fd(o:O):Option (Nat×List Nat):=@O.casesOn (λ_=>Option (Nat×List Nat)) o (λ_=>none) (λ_=>none) (λ_=>none) (λ_ _=>none) (λ_=>none) none (λ_ _=>none) (λ_=>none) (λ_=>none) (λ_ _=>none) (λ_ _ _=>none) (λt l=>some (t,l)) (λ_=>none)
theorem O.PJ{o:O}{p}(h:o.fd=some p):o= .fn p.1 p.2:=by cases o<;>first|exact nS h|exact ag (λp:Nat×List Nat=>O.fn p.1 p.2) (aq h)
noncomputable def O.ss(o:O):Option (List Str):=@O.casesOn (λ_=>Option (List Str)) o (λ_=>none) (λ_=>none) (λ_=>none) (λ_ _=>none) (λ_=>none) none (λ_ _=>none) (λ_=>none) (λ_=>none) (λ_ _=>none) (λ_ _ _=>none) (λ_ _=>none) some
theorem O.PK{o:O}{xs}(h:o.ss=some xs):o= .sset xs:=by cases o<;>first|exact nS h|exact ag _ (aq h)
theorem qd{o:Option α}(h:o.isSome=true)(k:∀v,o=some v->P):P:=by
 cases o with
 |none=>exact nB h
 |some v=>exact k v rfl
theorem O.ue{o:O}{xs}(h:o.ls=some xs):o= .list xs:=by cases o<;>first|exact nS h|exact ag _ (aq h)
theorem O.BL{o:O}{xs}(h:o.tu=some xs):o= .tup xs:=by cases o<;>first|exact nS h|exact ag _ (aq h)
theorem O.BM{o:O}{xs}(h:o.di=some xs):o= .dict xs:=by cases o<;>first|exact nS h|exact ag _ (aq h)
theorem O.PL{o:O}{xs}(h:o.ce=some xs):o= .cell xs:=by cases o<;>first|exact nS h|exact ag _ (aq h)
theorem O.BN{o:O}{p}(h:o.fl=some p):o= .bP p.1 p.2:=by cases o<;>first|exact nS h|exact ag (λp:FK×List V=>O.bP p.1 p.2) (aq h)
theorem eZ{f:O->Option α}{c:α->O}(S:∀{o x},f o=some x->o=c x){o:Option O}{x:α}(h:o.bind f=some x):o=some (c x):=aI h λ_ e h=>e.trans (ag some (S h))
noncomputable def FK.me(k:FK):Bool:=@FK.casesOn (λ_=>Bool) k true false false false false
noncomputable def FK.bm(k:FK):Bool:=@FK.casesOn (λ_=>Bool) k false true false false false
noncomputable def FK.ci(k:FK):Bool:=@FK.casesOn (λ_=>Bool) k false false true false false
noncomputable def FK.it(k:FK):Bool:=@FK.casesOn (λ_=>Bool) k false false false false true
theorem FK.PM{k:FK}(h:k.me=true):k= .meth:=by cases k<;>first|rfl|exact nB h
theorem FK.PN{k:FK}(h:k.bm=true):k= .sD:=by cases k<;>first|rfl|exact nB h
theorem FK.PO{k:FK}(h:k.ci=true):k= .mY:=by cases k<;>first|rfl|exact nB h
theorem FK.PQ{k:FK}(h:k.it=true):k= .bI:=by cases k<;>first|rfl|exact nB h
theorem k0{o:Option α}(h:cond b o none=some c)(k:b=true->o=some c->P):P:=by
 cases b with
 |true=>exact k rfl h
 |false=>exact nS h
noncomputable def l1(l:List V):Option V:=@List.casesOn V (λ_=>Option V) l none λa l=>@List.casesOn V (λ_=>Option V) l (some a) λ_ _=>none
noncomputable def l2(l:List V):Option (V×V):=@List.casesOn V (λ_=>Option (V×V)) l none λa l=>(l1 l).bind λb=>some (a,b)
noncomputable def l3(l:List V):Option (V×V×V):=@List.casesOn V (λ_=>Option (V×V×V)) l none λa l=>(l2 l).bind λb=>some (a,b)
theorem xe{l:List V}{a:V}(h:l1 l=some a):l=[a]:=by
 cases l with
 |nil=>exact nS h
 |cons a l=>cases l with
  |nil=>exact ag (λa=>[a]) (aq h)
  |cons _ _=>exact nS h
theorem BO{l:List V}{p:V×V}(h:l2 l=some p):l=[p.1,p.2]:=by
 cases l with
 |nil=>exact nS h
 |cons a l=>exact aI h λb e h=>by rw[xe e,<-aq h]
theorem PR{l:List V}{p:V×V×V}(h:l3 l=some p):l=[p.1,p.2.1,p.2.2]:=by
 cases l with
 |nil=>exact nS h
 |cons a l=>exact aI h λb e h=>by rw[BO e,<-aq h]
noncomputable def V.bo(v:V):Option Bool:=@V.casesOn (λ_=>Option Bool) v Option.none some (λ_=>Option.none) (λ_=>Option.none) (λ_=>Option.none) (λ_=>Option.none)
noncomputable def V.no(v:V):Bool:=@V.casesOn (λ_=>Bool) v true (λ_=>false) (λ_=>false) (λ_=>false) (λ_=>false) (λ_=>false)
theorem V.PS{v:V}{x}(h:v.bo=some x):v= .bool x:=by cases v<;>first|exact nS h|exact ag _ (aq h)
theorem V.HF{v:V}(h:v.no=true):v= .none:=by cases v<;>first|rfl|exact nB h
noncomputable def V.iv(v:V):Option Int:=@V.casesOn (λ_=>Option Int) v Option.none (λ_=>Option.none) some (λ_=>Option.none) (λ_=>Option.none) (λ_=>Option.none)
noncomputable def V.sv(v:V):Option Str:=@V.casesOn (λ_=>Option Str) v Option.none (λ_=>Option.none) (λ_=>Option.none) some (λ_=>Option.none) (λ_=>Option.none)
noncomputable def V.lo(v:V):Option Nat:=@V.casesOn (λ_=>Option Nat) v Option.none (λ_=>Option.none) (λ_=>Option.none) (λ_=>Option.none) (λ_=>Option.none) some
noncomputable def V.im(v:V):Option Value:=@V.casesOn (λ_=>Option Value) v Option.none (λ_=>Option.none) (λ_=>Option.none) (λ_=>Option.none) some (λ_=>Option.none)
theorem V.rE{v:V}{x}(h:v.iv=some x):v= .int x:=by cases v<;>first|exact nS h|exact ag _ (aq h)
theorem V.pu{v:V}{x}(h:v.sv=some x):v= .str x:=by cases v<;>first|exact nS h|exact ag _ (aq h)
theorem V.lB{v:V}{x}(h:v.lo=some x):v= .loc x:=by cases v<;>first|exact nS h|exact ag _ (aq h)
theorem V.BP{v:V}{x}(h:v.im=some x):v= .e_ x:=by cases v<;>first|exact nS h|exact ag _ (aq h)
structure Wd where
 ρ:Nat->Addr
 n:Nat
 fz:Addr->Option Obj
structure Wd.Le(a b:Wd):Prop where
 n:a.n<=b.n
 ρ:∀l,l<a.n->b.ρ l=a.ρ l
 fz:∀x o,a.fz x=some o->b.fz x=some o
theorem Wd.Le.refl(a:Wd):Wd.Le a a:=⟨aF _,λ_ _=>rfl,λ_ _ e=>e⟩
theorem Wd.Le.trans{a b c:Wd}(x:Wd.Le a b)(y:Wd.Le b c):Wd.Le a c:=⟨am x.n y.n,λl h=>(y.ρ l (dA h x.n)).trans (x.ρ l h),λz o e=>y.fz z o (x.fz z o e)⟩
inductive aE{α β:Type}(R:α->β->Prop):List α->List β->Prop where
 |nil:aE R [] []
 |cons {a_q b_q l_q m_q}:R a_q b_q->aE R l_q m_q->aE R (a_q::l_q) (b_q::m_q)
section
variable {γ:Type}{R S:α->β->Prop}
theorem aE.mono(h:∀a b,R a b->S a b)(x:aE R l m):aE S l m:=by
 induction x with
 |nil=>exact .nil
 |cons x _ T=>exact .cons (h _ _ x) T
theorem aE.len(x:aE R l m):l.length=m.length:=by
 induction x with
 |nil=>rfl
 |cons _ _ T=>exact ag Nat.succ T
theorem aE.get(x:aE R l m){a:α}(e:l[i]?=some a):∃b,m[i]?=some b/\R a b:=by
 induction x generalizing i with
 |nil=>exact nS e
 |cons x _ T=>
  cases i with
  |zero=>obtain rfl:=aq e;exact⟨_,rfl,x⟩
  |succ i=>exact T e
theorem aE.append{l':List α}{f:List β}(x:aE R l m)(y:aE R l' f):aE R (l++l') (m++f):=by
 induction x with
 |nil=>exact y
 |cons x _ T=>exact .cons x T
theorem aE.set{a:α}{b:β}(x:aE R l m)(h:R a b)(i:Nat):aE R (l.set i a) (m.set i b):=by
 induction x generalizing i with
 |nil=>exact .nil
 |cons x y T=>
  cases i with
  |zero=>exact .cons h y
  |succ i=>exact .cons x (T i)
theorem aE.take(x:aE R l m)(n:Nat):aE R (l.take n) (m.take n):=by
 induction x generalizing n with
 |nil=>cases n<;>exact .nil
 |cons x _ T=>
  cases n with
  |zero=>exact .nil
  |succ n=>exact .cons x (T n)
theorem aE.drop(x:aE R l m)(n:Nat):aE R (l.drop n) (m.drop n):=by
 induction x generalizing n with
 |nil=>cases n<;>exact .nil
 |cons x y T=>
  cases n with
  |zero=>exact .cons x y
  |succ n=>exact T n
theorem aE.reverse(h:aE R l m):aE R l.reverse m.reverse:=by
 induction h with
 |nil=>exact .nil
 |cons x _ T=>rw[eP,eP];exact T.append (.cons x .nil)
end
def VR(wd:Wd):V->Value->Prop
 | .none,u=>u= .none
 | .bool b,u=>u= .bool b
 | .int i,u=>∃t,u= .int i t
 | .str s,u=>∃t,u= .str s t
 | .e_ v,u=>u=v
 | .loc l,u=>l<wd.n/\u= .ref (wd.ρ l)
theorem VR.map{a b:Wd}(hn:a.n<=b.n)(i:∀l,l<a.n->b.ρ l=a.ρ l){v:V}(e:VR a v u):VR b v u:=by
 cases v with
 |loc l=>exact⟨dA e.1 hn,e.2.trans (ag Value.ref (i l e.1).symm)⟩
 |_=>exact e
theorem VR.mono{a b:Wd}(h:Wd.Le a b){v:V}(e:VR a v u):VR b v u:=e.map h.n h.ρ
theorem VR.int{w:Wd}{v:V}{x:Int}(e:v.iv=some x)(h:VR w v u):∃t,u= .int x t:=by rw[V.rE e] at h;exact h
theorem VR.str{w:Wd}{v:V}(e:v.sv=some x)(h:VR w v u):∃t,u= .str x t:=by rw[V.pu e] at h;exact h
theorem VR.ref{w:Wd}{v:V}{x:Nat}(e:v.lo=some x)(h:VR w v u):x<w.n/\u= .ref (w.ρ x):=by rw[V.lB e] at h;exact h
noncomputable def aG(ty:String)(I:List Value)(e:Nat):Obj:={cls:=.type ty,data:=.seq I.toArray e}
noncomputable def HG(ty:String)(I:List Value):Obj:={cls:=.type ty,data:=.fields I.toArray}
structure G where
 prog:Program
 w:World
 K:Frag
 hb:Heap
 mg:Str->Option Value
 mb:Str->Option Value
 p:Program
 loose:List Str
 mean:ExcName->Option Value
 os:OsState
 tp:Nat->Pos
 tq:Nat->Str
 ff:Nat->List Str
 fo:Nat->List (Str×Addr)->Value->Addr->Value->Obj
 tabs:List Addr
 X:K.In hb
 T:Top p loose mean mg mb hb
 sm:∃z o,sysModules<z/\hb.get? z=some o
 sa:Addr
 sn:List Int
 su:List Value
 sl:hb.IsList sa su.toArray
 si:IntsAre su sn
def sE(o:Obj)(q:Str):Prop:=∃vs t,o.data= .fields vs/\vs[1]?=some (.str q t)
def Perm(o:Obj):Prop:=(∃zs n,o=aG "tuple" zs n)\/∃q,sE o q
def OR(g:G)(wd:Wd):O->Obj->Prop
 | .list xs,o=>∃I e,o=aG "list" I e/\aE (VR wd) xs I
 | .tup xs,o=>∃I e,o=aG "tuple" I e/\aE (VR wd) xs I
 | .dict es,o=>∃(ds:List DictEntry)(e:Nat),o=dictOf ds e/\aE (λ(p:Str×V) d=>∃t u,d=⟨PyData.keyHash g.w.params p.1,.str p.1 t,u⟩/\VR wd p.2 u) es ds
 | .inst C d,o=>o=instObj C (wd.ρ d)/\d<wd.n
 | .cell v,o=>∃u,o.data= .cell (some u)/\VR wd v u
 | .de,o=>o.data= .cell none
 | .bP k vs,o=>∃I,o=HG k.name I/\aE (VR wd) vs I
 | .set xs,o=>o.SetObjOf (strKind g.prog g.w) (λk=>decide (k∈xs)) xs.length/\o.cls= .type "set"/\o.dict=none
 | .rows rs,o=>∃I e,o=aG "list" I e/\aE (λ(r:List V) u=>∃a zs n,u= .ref a/\wd.fz a=some (aG "tuple" zs n)/\aE (VR wd) r zs) rs I
 | .tab t b,o=>match b with
  |false=>o=tabObj #[]
  |true=>∃c oc,o=tabObj #[rawInt (g.tp t).line,rawInt (g.tp t).col,.ref c]/\wd.fz c=some oc/\sE oc (g.tq t)
 | .rng a b c,o=>∃t u v,o={cls:=.type "range",dict:=none,data:=.fields #[.int a t,.int b u,.int c v],slots:= #[]}
 | .fn t ls,o=>∃c oc ij fw,o=g.fo t (((g.ff t).zip (ls.map wd.ρ)).reverse) fw c ij/\wd.fz c=some oc/\sE oc (g.tq t)/\(∀l∈ls,l<wd.n)/\o.isFreed=false
 | .sset xs,o=>∃es ep t,o={cls:=.type "set",dict:=none,data:=.set es ep t,slots:= #[]}/\(∃I:List Str,I.Perm xs/\aE (λ(x:Str)(e:Int×Value)=>e.1=hashStr g.w x/\∃tk,e.2= .str x tk) I es.toList)/\
  t.led= !(g.w.params.followText "set-order")/\t.fits es.size=true/\(es.size=0\/t.plain=false)
theorem OR.map{g:G}{a b:Wd}(hn:a.n<=b.n)(i:∀l,l<a.n->b.ρ l=a.ρ l)(S:∀c o,a.fz c=some o->Perm o->b.fz c=some o){v:O}(x:OR g a v o):OR g b v o:=by
 cases v with
 |list _=>exact dB x λI e h1 h2=>⟨I,e,h1,h2.mono λ_ _=>VR.map hn i⟩
 |tup _=>exact dB x λI e h1 h2=>⟨I,e,h1,h2.mono λ_ _=>VR.map hn i⟩
 |dict _=>exact dB x λI e h1 h2=>⟨I,e,h1,h2.mono λ_ _ y=>dB y λt u h3 h4=>⟨t,u,h3,VR.map hn i h4⟩⟩
 |inst _ d=>exact⟨x.1.trans (ag _ (i d x.2).symm),dA x.2 hn⟩
 |cell _=>exact bx x λu h1 h2=>⟨u,h1,VR.map hn i h2⟩
 |bP _ _=>exact bx x λI h1 h2=>⟨I,h1,h2.mono λ_ _=>VR.map hn i⟩
 |rows _=>exact dB x λI e h1 h2=>⟨I,e,h1,h2.mono λ_ _ y=>jb y λx zs n h3 h4 h5=>⟨x,zs,n,h3,S _ _ h4 (.inl ⟨zs,n,rfl⟩),h5.mono λ_ _=>VR.map hn i⟩⟩
 |tab _ t=>
  cases t with
  |false=>exact x
  |true=>exact dZ x λc oc h1 h2 h3=>⟨c,oc,h1,S _ _ h2 (.inr ⟨_,h3⟩),h3⟩
 |fn t ls=>exact oI x λc oc ij fw h1 h4 h5 h2 h3=>⟨c,oc,ij,fw,h1.trans (by rw[io λl Z=>i l (h2 l Z)]),S _ _ h4 (.inr ⟨_,h5⟩),h5,λl Z=>dA (h2 l Z) hn,h3⟩
 |_=>exact x
theorem OR.mono{g:G}{a b:Wd}(h:Wd.Le a b){v:O}(x:OR g a v o):OR g b v o:=x.map h.n h.ρ λc o e _=>h.fz c o e
theorem lv{x:Obj}(h:o=x)(e:x.isFreed=false):o.isFreed=false:=h.symm▸e
theorem OR.live{g:G}{wd:Wd}{v:O}(x:OR g wd v o):o.isFreed=false:=by
 cases v with
 |list _=>exact dB x λ_ _ h _=>lv h rfl
 |tup _=>exact dB x λ_ _ h _=>lv h rfl
 |dict _=>exact dB x λ_ _ h _=>lv h rfl
 |inst _ _=>exact lv x.1 rfl
 |cell _=>exact bx x λ_ h _=>by cases o;obtain rfl:_=_:=h;rfl
 |de=>cases o;obtain rfl:_=_:=x;rfl
 |bP _ _=>exact bx x λ_ h _=>lv h rfl
 |set _=>exact PD x.1 λ_ es ep t hd _=>by cases o;obtain rfl:_=_:=hd;rfl
 |rows _=>exact dB x λ_ _ h _=>lv h rfl
 |tab _ t=>
  cases t with
  |false=>exact lv x rfl
  |true=>exact dB x λ_ _ h _=>lv h rfl
 |rng _ _ _=>exact FD x λ_ _ _ h=>lv h rfl
 |fn _ _=>exact oI x λ_ _ _ _ _ _ _ _ h=>h
 |sset _=>exact mX x λ_ _ _ h _=>lv h rfl
structure df where
 qual:Str
 cd:Value
 scope:Scope
 names:List Str
 cells:List Str
structure g_ where
 L:Addr
 fn:Option Addr
 fr:Option Addr
 cl:List (Str×Addr)
noncomputable abbrev aK (F:df) (d:g_):Env:={scope:=F.scope,locals:=d.L,globals:=mainGlobals,cells:=d.cl,qual:=F.qual,func:=d.fn,code:=F.cd,frame:=d.fr,builtins:=builtinsNs}
structure St where
 loc:List (Option V)
 ix:List Nat
 mem:List O
def zt(F:df)(wd:Wd)(loc:List (Option V))(m:Str->Option Value):Prop:=∀(i:Nat)(x:Str)(v:V),F.names[i]?=some x->loc[i]?=some (some v)->∃u,m x=some u/\VR wd v u
def v3(F:df)(wd:Wd)(ix:List Nat)(cl:List (Str×Addr)):Prop:=∀(i:Nat)(x:Str)(l:Nat),F.cells[i]?=some x->ix[i]?=some l->l<wd.n/\cl.lookup x=some (wd.ρ l)
def LX(g:G)(wd:Wd):Prop:=∀(i:Nat)(P:Addr),g.tabs[i]?=some P->i<wd.n/\wd.ρ i=P
theorem LX.mono{g:G}{a b:Wd}(x:LX g a)(h:Wd.Le a b):LX g b:=λi P e=>xA (x i P e) λh1 h2=>⟨dA h1 h.n,(h.ρ i h1).trans h2⟩
structure hJ(g:G)(wd:Wd)(mem:List O)(h:Heap):Prop where
 len:wd.n=mem.length
 rF:∀a o,wd.fz a=some o->h.get? a=some o
 base:∀a o,g.hb.get? a=some o->wd.fz a=some o
 own:∀(l:Nat)(o:O),mem[l]?=some o->∃ob,h.get? (wd.ρ l)=some ob/\OR g wd o ob
 low:∀l,l<wd.n->wd.ρ l≠sysModules
 inj:∀l l',l<wd.n->l'<wd.n->wd.ρ l=wd.ρ l'->l=l'
 new:∀l,l<wd.n->wd.fz (wd.ρ l)=none
 tabs:LX g wd
structure bU(g:G)(F:df)(d:g_)(wd:Wd)(σ:St)(s:Shared):Prop where
 mem:hJ g wd σ.mem s.heap
 loc:∃m,s.heap.Ns d.L m/\zt F wd σ.loc m
 ix:v3 F wd σ.ix d.cl
 pv:wd.fz d.L=none
 kR:∀l,l<wd.n->wd.ρ l≠d.L
 gens:s.gens= #[]
 os:s.os=g.os
structure cK(A:Around)(k:Nat):Prop where
 depth:A.depth+2*k<recursionLimit
 units:A.units+16*k+80<cLine
 handled:A.handled=none
abbrev ad(β:Type):=St->(β->St->Prop)->Prop
abbrev iy(g:G)(F:df)(d:g_)(RA:Wd->β->α->Prop)(wd:Wd)(Q:β->St->Prop):α->Shared->Prop:=λa s'=>∃bg b a9,Wd.Le wd bg/\bU g F d bg a9 s'/\RA bg b a/\Q b a9
abbrev yV:Value->Shared->Prop:=λ_ _=>False
theorem iy.elim{g:G}{F:df}{d:g_}{RA:Wd->β->α->Prop}{wd:Wd}{Q:β->St->Prop}{a:α}(h:iy g F d RA wd Q a s')(k:∀bg b a9,Wd.Le wd bg->bU g F d bg a9 s'->RA bg b a->Q b a9->P):P:=fZ h k
theorem az{g:G}{F:df}{d:g_}{RA:Wd->β->α->Prop}{wd:Wd}{Q:β->St->Prop}{a:α}(bg:Wd)(b:β)(a9:St)(h1:Wd.Le wd bg)(h2:bU g F d bg a9 s')(h3:RA bg b a)(h4:Q b a9):iy g F d RA wd Q a s':=⟨bg,b,a9,h1,h2,h3,h4⟩
def bb(g:G)(F:df)(d:g_)(A:Around)(af:Wd)(RA:Wd->β->α->Prop)(t:Sem α)(W:ad β):Prop:=∀(s:Shared)(wd:Wd)(σ:St)(Q:β->St->Prop),Wd.Le af wd->bU g F d wd σ s->W σ Q->
  wpAny (model g.prog g.w) A t (iy g F d RA wd Q) yV s
section
variable {γ δ:Type}{g:G}{F:df}{d:g_}{af:Wd}{RA:Wd->β->α->Prop}{RC:Wd->δ->γ->Prop}
theorem bb.bind{f:α->Sem γ}{T0:ad β}{T4:β->ad δ}(iz:bb g F d A af RA t T0)(Yp:∀wd a b,Wd.Le af wd->RA wd b a->bb g F d A wd RC (f a) (T4 b)):bb g F d A af RC (t>>=f) (λσ Q=>T0 σ λb a9=>T4 b a9 Q):=by intro s wd σ Q Z hR J;refine U (a_ (iz s wd σ _ Z hR J) (λa s' h=>?_) λ_ _ h=>h);refine iy.elim h λbg b a9 j hR' D C=>?_;clear h;refine a_ (Yp bg a b (Z.trans j) D s' bg a9 Q (.refl _) hR' C) (λc v4 h=>?_) λ_ _ h=>h;refine iy.elim h λo e m PT Yq hC hQ'=>?_;clear h;exact⟨o,e,m,j.trans PT,Yq,hC,hQ'⟩
theorem bb.go{W:ad β}{wd:Wd}{σ:St}{K:β->St->Prop}{Q:α->Shared->Prop}(h:bb g F d A af RA t W)(Z:Wd.Le af wd)(R:bU g F d wd σ s)(J:W σ K)(k:∀a s' bg b a9,Wd.Le wd bg->bU g F d bg a9 s'->RA bg b a->K b a9->Q a s'):wpAny (model g.prog g.w) A t Q E s:=a_ (h s wd σ K Z R J) (λa s' x=>fZ x (k a s')) λ_ _ x=>x.elim
theorem bb.conv{W W':ad β}(h:bb g F d A af RA t W)(J:∀σ Q,W' σ Q->W σ Q):bb g F d A af RA t W':=λs wd σ Q Z hR T5=>h s wd σ Q Z hR (J σ Q T5)
theorem bb.holding{vs:List Value}{W:ad β}(h:bb g F d A af RA t W):bb g F d A af RA (holding vs t) W:=λs wd σ Q Z hR J=>bq (h s wd σ Q Z hR J)
theorem bb.standAt{q:Pos}{W:ad β}(h:bb g F d A af RA t W):bb g F d A af RA (do standAt q;t) W:=λs wd σ Q Z hR J=>U (dh (h s wd σ Q Z hR J))
theorem bb.operate{vs:List Value}{t:Sem Value}{RA:Wd->β->Value->Prop}{W:ad β}(h:bb g F d A af RA t W):bb g F d A af RA (operate vs t) W:=λs wd σ Q Z hR J=>wpAny_operateT (h s wd σ Q Z hR J)
end
theorem hJ.keeps{g:G}{wd:Wd}{mem:List O}(R:hJ g wd mem h)(k:∀b o,h.get? b=some o->h'.get? b=some o):hJ g wd mem h':=⟨R.len,λa o e=>k _ _ (R.rF a o e),R.base,λl o e=>bx (R.own l o e) λob h1 h2=>⟨ob,k _ _ h1,h2⟩,R.low,R.inj,R.new,R.tabs⟩
theorem bU.keeps{g:G}{F:df}{d:g_}{wd:Wd}{σ:St}(R:bU g F d wd σ s)(k:∀b o,s.heap.get? b=some o->s'.heap.get? b=some o)(K:s'.gens=s.gens:=by rfl) (ho:s'.os=s.os:=by rfl):bU g F d wd σ s':=⟨R.mem.keeps k,bx R.loc λm h1 h2=>⟨m,h1.keeps k,h2⟩,R.ix,R.pv,R.kR,K.trans R.gens,ho.trans R.os⟩
theorem bU.toks{g:G}{F:df}{d:g_}{wd:Wd}{σ:St}{n:Nat}(R:bU g F d wd σ s):bU g F d wd σ {s with toks:=n}:=R.keeps λ_ _ e=>e
theorem bU.hb{g:G}{F:df}{d:g_}{wd:Wd}{σ:St}(R:bU g F d wd σ s):∀a o,g.hb.get? a=some o->s.heap.get? a=some o:=λa o e=>R.mem.rF a o (R.mem.base a o e)
theorem hJ.set{g:G}{wd:Wd}{mem:List O}(R:hJ g wd mem h){l:Nat}{o':O}(Z:l<wd.n)(M:Heap.SameBut (wd.ρ l) h h')(K:h'.get? (wd.ρ l)=some HE)(ho:OR g wd o' HE):hJ g wd (mem.set l o') h':=by
 refine⟨by rw[dS];exact R.len,λa o e=>?_,R.base,λHH o e=>?_,R.low,R.inj,R.new,R.tabs⟩
 ·have ne:a≠wd.ρ l:=λq=>by rw[q,R.new l Z] at e;exact nS e
  exact(M.2 a ne).trans (R.rF a o e)
 ·by_cases Y:HH=l
  ·subst Y;rw[fF (by rw[<-R.len];exact Z)] at e;obtain rfl:=aq e;exact⟨HE,K,ho⟩
  ·rw[c6 (bM Y)] at e;refine bx (R.own HH o e) λob h1 h2=>?_;have T6:HH<wd.n:=by rw[R.len];exact(List.getElem?_eq_some_iff.mp e).1
   exact⟨ob,(M.2 _ λq=>Y (R.inj _ _ T6 Z q)).trans h1,h2⟩
noncomputable def Wd.push(wd:Wd)(a:Addr):Wd:=⟨λl=>if l=wd.n then a else wd.ρ l,wd.n+1,wd.fz⟩
theorem Wd.aT(wd:Wd)(a:Addr):Wd.Le wd (wd.push a):=⟨eT _,λl h=>by show(if l=wd.n then a else wd.ρ l)=_;rw[aH (bL h)],λ_ _ e=>e⟩
theorem Wd.lX(wd:Wd)(a:Addr):(wd.push a).ρ wd.n=a:=by show(if wd.n=wd.n then a else wd.ρ wd.n)=a;rw[a6 rfl]
theorem Wd.eB{wd:Wd}{l:Nat}(Z:l<(wd.push a).n)(f:l<wd.n->(wd.push a).ρ l=wd.ρ l->P)(j:l=wd.n->(wd.push a).ρ l=a->P):P:=(Nat.lt_succ_iff_lt_or_eq.mp Z).elim (λh=>f h ((Wd.aT wd a).ρ l h)) λe=>j e (by rw[e];exact Wd.lX wd a)
theorem hJ.T7{g:G}{wd:Wd}{mem:List O}(R:hJ g wd mem h){o:O}(kf:∀b o,wd.fz b=some o->h'.get? b=some o)(ko:∀l o,l<wd.n->h.get? (wd.ρ l)=some o->h'.get? (wd.ρ l)=some o) (new:wd.fz a=none) (own:∀l,l<wd.n->wd.ρ l≠a)(K:h'.get? a=some ob) (ho:OR g (wd.push a) o ob) (p:a≠sysModules):hJ g (wd.push a) (mem++[o]) h':=by
 refine⟨by rw[ak,<-R.len];rfl,kf,R.base,λl Yr e=>?_,λl Z=>Wd.eB Z (λh1 e1=>e1▸R.low l h1) λ_ e1=>λq=>p (e1.symm.trans q),
  λl l' Z j e=>Wd.eB Z (λh1 e1=>Wd.eB j (λh2 e2=>R.inj l l' h1 h2 (e1.symm.trans (e.trans e2))) λh2 e2=>absurd (e1.symm.trans (e.trans e2)) (own l h1)) λh1 e1=>
   Wd.eB j (λh2 e2=>absurd (e1.symm.trans (e.trans e2)).symm (own l' h2)) λh2 e2=>h1.trans h2.symm,
  λl Z=>Wd.eB Z (λh1 e1=>e1▸R.new l h1) λ_ e1=>(ag wd.fz e1).trans new,R.tabs.mono (Wd.aT wd a)⟩
 have Z:l<(wd.push a).n:=by have:=(List.getElem?_eq_some_iff.mp e).1;rw[ak,<-R.len] at this;exact this
 refine Wd.eB Z (λh1 e1=>?_) λh1 e1=>?_
 ·rw[List.getElem?_append_left (by rw[<-R.len];exact h1)] at e;exact bx (R.own l Yr e) λOw x1 x2=>⟨Ow,e1.symm▸ko l Ow h1 x1,x2.mono (Wd.aT wd a)⟩
 ·rw[h1,R.len,List.getElem?_concat_length] at e;exact⟨ob,e1.symm▸K,aq e▸ho⟩
theorem hJ.HI{g:G}{wd:Wd}{mem:List O}(R:hJ g wd mem h){o:O}(kf:∀b o,wd.fz b=some o->h'.get? b=some o)(ko:∀l o,l<wd.n->h.get? (wd.ρ l)=some o->h'.get? (wd.ρ l)=some o) (ha:h.get? a=none)(K:h'.get? a=some ob) (ho:OR g (wd.push a) o ob) (p:a≠sysModules):hJ g (wd.push a) (mem++[o]) h':=by
 refine R.T7 kf ko ?_ (λl Z q=>bx (R.own l (mem[l]'(by rw[<-R.len];exact Z)) (bC _)) λob h1 _=>by rw[q,ha] at h1;exact nS h1) K ho p;cases Y:wd.fz a with
 |none=>rfl
 |some o=>have:=R.rF a o Y;rw[ha] at this;exact nS this
theorem hJ.alloc{g:G}{wd:Wd}{mem:List O}(R:hJ g wd mem h){o:O}(k:∀b o,h.get? b=some o->h'.get? b=some o)(ha:h.get? a=none)(K:h'.get? a=some ob) (ho:OR g (wd.push a) o ob) (p:a≠sysModules):hJ g (wd.push a) (mem++[o]) h':=R.HI (λb o e=>k _ _ (R.rF b o e)) (λl o _ e=>k _ _ e) ha K ho p
section
variable {g:G}{F:df}{d:g_}{wd:Wd}{σ:St}
theorem zt.mono{a b:Wd}(h:Wd.Le a b){loc:List (Option V)}{m:Str->Option Value}(x:zt F a loc m):zt F b loc m:=λi y v e1 e2=>bx (x i y v e1 e2) λu h1 h2=>⟨u,h1,VR.mono h h2⟩
theorem v3.mono{a b:Wd}(h:Wd.Le a b){ix:List Nat}{cl:List (Str×Addr)}(x:v3 F a ix cl):v3 F b ix cl:=λi y l e1 e2=>xA (x i y l e1 e2) λh1 h2=>⟨dA h1 h.n,h2.trans (ag some (h.ρ l h1).symm)⟩
theorem bU.there(R:bU g F d wd σ s):∃o,s.heap.get? d.L=some o:=bx R.loc λ_ hn _=>mX hn λo _ _ h _=>⟨o,h⟩
theorem bU.alloc(R:bU g F d wd σ s){o:O}(k:∀b o,s.heap.get? b=some o->s'.heap.get? b=some o)(ha:s.heap.get? a=none)(K:s'.heap.get? a=some ob)(ho:OR g (wd.push a) o ob) (p:a≠sysModules) (h1:s'.gens=s.gens:=by rfl) (h2:s'.os=s.os:=by rfl):bU g F d (wd.push a) {σ with mem:=σ.mem++[o]} s':=bx (R.loc) λm hn hm=>
  ⟨R.mem.alloc k ha K ho p,⟨m,hn.keeps k,hm.mono (Wd.aT wd a)⟩,R.ix.mono (Wd.aT wd a),R.pv,λl Z=>Wd.eB Z (λh1 e1=>e1▸R.kR l h1) λ_ e1 e2=>xE (R.there) λx B=>by
   rw[<-e2,e1,ha] at B;exact nS B,h1.trans R.gens,h2.trans R.os⟩
theorem bU.pushed(R:bU g F d wd σ s):VR (wd.push a) (.loc σ.mem.length) (.ref a):=by have e:=R.mem.len.symm;refine⟨by rw[e];exact er _,by rw[e,Wd.lX]⟩
theorem bU.setM(R:bU g F d wd σ s){l:Nat}{o':O}(Z:l<wd.n)(M:Heap.SameBut (wd.ρ l) s.heap s'.heap)(K:s'.heap.get? (wd.ρ l)=some HE)(ho:OR g wd o' HE)(h1:s'.gens=s.gens:=by rfl) (h2:s'.os=s.os:=by rfl):bU g F d wd {σ with mem:=σ.mem.set l o'} s':=by refine bx (R.loc) λm hn hm=>?_;exact⟨R.mem.set Z M K ho,⟨m,hn.sameBut M (R.kR l Z).symm,hm⟩,R.ix,R.pv,R.kR,h1.trans R.gens,h2.trans R.os⟩
theorem bU.get(R:bU g F d wd σ s){l:Nat}{o:O}(e:σ.mem[l]?=some o):l<wd.n/\∃ob,s.heap.get? (wd.ρ l)=some ob/\OR g wd o ob:=⟨by rw[R.mem.len];exact(List.getElem?_eq_some_iff.mp e).1,R.mem.own l o e⟩
theorem bU.lst(R:bU g F d wd σ s){l:Nat}{xs:List V}(e:(σ.mem[l]?).bind O.ls=some xs)(k:∀I n,l<wd.n->s.heap.get? (wd.ρ l)=some (aG "list" I n)->aE (VR wd) xs I->P):P:=mr (R.get (eZ O.ue e)) λZ ob h I n e h'=>k I n Z (h.trans (ag some e)) h'
theorem bU.tpl(R:bU g F d wd σ s){l:Nat}{xs:List V}(e:(σ.mem[l]?).bind O.tu=some xs)(k:∀I n,l<wd.n->s.heap.get? (wd.ρ l)=some (aG "tuple" I n)->aE (VR wd) xs I->P):P:=mr (R.get (eZ O.BL e)) λZ ob h I n e h'=>k I n Z (h.trans (ag some e)) h'
end
def pw(wd:Wd)(v:V)(u:Value):Prop:=VR wd v u
def td(_:Wd)(_:Unit)(_:Unit):Prop:=True
def Xu(_:Wd)(b:Bool)(a:Bool):Prop:=a=b
inductive Fl where
 |next|brk|cont
 |ret (v:V)
def Tw(wd:Wd):Fl->Flow->Prop
 | .next,f=>f= .next
 | .brk,f=>f= .brk
 | .cont,f=>f= .cont
 | .ret v,f=>∃u,f= .ret u/\VR wd v u
def be(g:G)(F:df)(k:Nat)(e:PySem.Expr)(W:ad V):Prop:=∀d A af,cK A k->bb g F d A af pw (eval e (aK F d)) W
def qe(g:G)(F:df)(k:Nat)(e:PySem.Expr)(W:ad Bool):Prop:=∀d A af,cK A k->bb g F d A af Xu (isTrue e (aK F d) (eval e (aK F d))) W
def iT(g:G)(F:df)(k:Nat)(st:Stmt)(W:ad Fl):Prop:=∀d A af,cK A k->bb g F d A af Tw (exec st (aK F d)) W
def kT(g:G)(F:df)(k:Nat)(b:List Stmt)(W:ad Fl):Prop:=∀d A af,cK A k->bb g F d A af Tw (execs b (aK F d)) W
section
variable {g:G}{F:df}
def dX(i:Nat):ad V:=λσ Q=>aA (σ.loc[i]?) λo=>aA o λv=>Q v σ
theorem qf{σ:St}{Q:V->St->Prop}(h:dX i σ Q)(k:∀v,σ.loc[i]?=some (some v)->Q v σ->P):P:=ah h λo e h=>ah h λv e' h=>k v (e.trans (ag some e')) h
theorem LY{σ:St}{v:V}{Q:V->St->Prop}(e:σ.loc[i]?=some (some v))(h:Q v σ):dX i σ Q:=gm e h
theorem Ys(i:Nat)(B:F.names[i]?=some x)(hk:F.scope.kind= .function)(Z:∀d,(aK F d).kindOf x=some .local) (hd:(x==("__debug__":Str))=false):be g F k (.Name x pos) (dX i):=by
 intro d A af _ s wd σ Q _ R J;exact qf J λv e J=>bx (R.loc) λm hn hm=>bx (hm i x v B e) λu N hv=>
  wpAny_Name (lP hk (Z d) hn N (az wd v σ (.refl _) R hv J)) hd
def eH(v:V):ad V:=λσ Q=>Q v σ
theorem Yt{i:Int}{n:Nat}:be g F k (.Constant (.int i) n pos) (eH (.int i)):=λ_ _ _ _ s wd σ _ _ R J=>wpAny_Constant_int (az wd (.int i) σ (.refl _) R.toks ⟨_,rfl⟩ J)
theorem Yu{n:Nat}:be g F k (.Constant (.str x) n pos) (eH (.str x)):=λ_ _ _ _ s wd σ _ _ R J=>wpAny_Constant_str (az wd (.str x) σ (.refl _) R.toks ⟨_,rfl⟩ J)
theorem T8{n:Nat}:be g F k (.Constant .none n pos) (eH .none):=λ_ _ _ _ s wd σ _ _ R J=>wpAny_Constant_none (az wd .none σ (.refl _) R rfl J)
theorem T9{n:Nat}:be g F k (.Constant (.bool b) n pos) (eH (.bool b)):=λ_ _ _ _ s wd σ _ _ R J=>wpAny_Constant_bool (az wd (.bool b) σ (.refl _) R rfl J)
theorem T_{v:Value}(e:g.mg x=some v)(hk:F.scope.kind= .function)(B:∀d,(aK F d).kindOf x=some .globalImplicit) (hd:(x==("__debug__":Str))=false):be g F k (.Name x pos) (eH (.e_ v)):=λd _ _ _ s wd σ _ _ R J=>Name_function_global hk (B d) (loadGlobal_global (g.T.g.keeps R.hb) e (az wd (.e_ v) σ (.refl _) R rfl J)) hd
theorem HJ{i:Int}{t:Tok}(e:g.mg x=some (.int i t))(hk:F.scope.kind= .function)(B:∀d,(aK F d).kindOf x=some .globalImplicit) (hd:(x==("__debug__":Str))=false):be g F k (.Name x pos) (eH (.int i)):=λd _ _ _ s wd σ _ _ R J=>Name_function_global hk (B d) (loadGlobal_global (g.T.g.keeps R.hb) e (az wd (.int i) σ (.refl _) R ⟨t,rfl⟩ J)) hd
theorem PU{v:Value}(e:g.mg x=none)(hv:bootBuiltins x=some v)(hn:x≠"__name__")(hk:F.scope.kind= .function)(B:∀d,(aK F d).kindOf x=some .globalImplicit) (hd:(x==("__debug__":Str))=false):be g F k (.Name x pos) (eH (.e_ v)):=λd _ _ _ s wd σ _ _ R J=>Name_function_global hk (B d) (loadGlobal_builtin (g.T.g.keeps R.hb) e (g.T.b.keeps R.hb) ((g.T.builtins x hn).trans hv) (az wd (.e_ v) σ (.refl _) R rfl J)) hd
def uf(i:Nat):ad V:=λσ Q=>aA (σ.ix[i]?) λl=>aA ((σ.mem[l]?).bind O.ce) λv=>Q v σ
theorem zu{d:g_}{wd:Wd}{σ:St}{Q:V->St->Prop}(R:bU g F d wd σ s)(B:F.cells[i]?=some x)(h:uf i σ Q)(k:∀a v u,d.cl.lookup x=some a->(∃ob,s.heap.get? a=some ob/\ob.data= .cell (some u))->VR wd v u->Q v σ->P):P:=ah h λl e h=>ah h λv e' h=>xA (R.ix i x l B e) λ_ h2=>ua (R.get (eZ O.PL e')) λ_ ob h3 u h4 h5=>k _ v u h2 ⟨ob,h3,h4⟩ h5 h
theorem HK(i:Nat)(B:F.cells[i]?=some x)(hk:F.scope.kind= .function)(Z:∀d,(aK F d).kindOf x=some .cell) (hd:(x==("__debug__":Str))=false):be g F k (.Name x pos) (uf i):=by intro d A af _ s wd σ Q _ R J;exact zu R B J λa v u h2 h3 h5 J=>wpAny_Name (wpAny_loadName_cell hk (Z d) h2 h3 (az wd v σ (.refl _) R h5 J)) hd
theorem FG(i:Nat)(B:F.cells[i]?=some x)(hk:F.scope.kind= .function)(Z:∀d,(aK F d).kindOf x=some .free) (hd:(x==("__debug__":Str))=false) (hn:(x==("__classdict__":Str))=false):be g F k (.Name x pos) (uf i):=by intro d A af _ s wd σ Q _ R J;exact zu R B J λa v u h2 h3 h5 J=>wpAny_Name (wpAny_loadName_free hk (Z d) h2 h3 (az wd v σ (.refl _) R h5 J) hn) hd
theorem kz{v:V}{d:g_}{af:Wd}(hv:VR af v u)(B:F.names[i]?=some x)(nc:F.names.Nodup)(hk:F.scope.kind= .function)(Z:(aK F d).kindOf x=some .local):bb g F d A af td (storeName (aK F d) x u) (λσ Q=>Q () {σ with loc:=σ.loc.set i (some v)}):=by
 intro s wd σ Q gG R J;refine bx (R.loc) λm hn hm=>?_;refine wpAny_storeName_local Z hn (λh' k M=>az wd () _ (.refl _) ?_ d6 J) (by show(F.scope.kind== .class||(F.scope.kind== .module&&d.L !=mainGlobals))=false;rw[hk];rfl);have keep:∀b o,b≠d.L->s.heap.get? b=some o->h'.get? b=some o:=λb o hb e=>(M.2 b hb).trans e;refine⟨⟨R.mem.len,λa o e=>keep a o (λq=>?_) (R.mem.rF a o e),R.mem.base,λl o e=>?_,R.mem.low,R.mem.inj,R.mem.new,R.mem.tabs⟩,⟨_,k,λj y f e1 e2=>?_⟩,R.ix,R.pv,R.kR,R.gens,R.os⟩
 ·rw[q,R.pv] at e;exact nS e
 ·refine jy (R.get e) λh1 ob h2 h3=>?_;exact⟨ob,keep _ _ (R.kR l h1) h2,h3⟩
 ·dsimp only at e2 ⊢;by_cases hj:j=i
  ·subst hj;have:y=x:=by rw[B] at e1;exact(aq e1).symm
   subst this;have dP:j<σ.loc.length:=by have:=(List.getElem?_eq_some_iff.mp e2).1;rwa[dS] at this
   rw[fF dP] at e2;cases e2;exact⟨u,a6 rfl,VR.mono gG hv⟩
  ·rw[c6 (bM hj)] at e2;refine bx (hm j y f e1 e2) λu' h1 h2=>?_;have p5:y≠x:=λq=>by subst q;have h1:=List.getElem?_eq_some_iff.mp e1;have h2:=List.getElem?_eq_some_iff.mp B;exact hj ((List.getElem_inj nc).mp (h1.2.trans h2.2.symm))
   exact⟨u',(aH p5).trans h1,h2⟩
end
def gd(b:Bool)(P:Prop):Prop:=match b with
 |true=>P
 |false=>False
theorem BQ:gd b P↔b=true/\P:=by cases b<;>simp[gd]
theorem aL(h:gd b P):b=true/\P:=BQ.mp h
def br(b:Bool)(P Q:Prop):Prop:=match b with
 |true=>P
 |false=>Q
theorem bu{Q:Prop}(h1:b=true->P)(h2:b=false->Q):br b P Q:=by cases b<;>simp_all [br]
noncomputable def bw(n:Nat):Bool:=Nat.ble n 16777216
theorem dp{n:Nat}(h:bw n=true):n<=sizeLine:=by have:=aU h;rw[dj];exact aQ [_] (.c 1 (.v 0) (.n 16777216) .nil) 0 (.v 0) (.n 16777216) tt this
theorem cT{n:Nat}(h:n<=16777216):bw n=true:=d8 h
theorem b9{I:List Value}{e:Nat}(x:h.get? a=some (aG "list" I e)):h.IsList a I.toArray:=⟨_,x,rfl,e,rfl⟩
section
variable {g:G}{F:df}
def xf(g:G)(op:Operator)(W:V->V->ad V):Prop:=∀(F:df)(d:g_)(A:Around)(af:Wd)(a b:V)(u v:Value),VR af a u->VR af b v->bb g F d A af pw (binaryOp op u v) (W a b)
theorem Yv{l:PySem.Expr}{wa wb:ad V}{W:V->V->ad V}(ho:xf g op W)(ha:be g F k l wa)(hb:be g F k r wb):be g F k (.BinOp l op r pos) (λσ Q=>wa σ λa G=>wb G λb E=>W a b E Q):=by intro d A af hr;rw[eval_BinOp];refine bb.bind (ha d A af hr) λwd u a Z D=>?_;refine bb.bind (bb.holding (hb d A wd hr)) λP v b q w=>?_;exact bb.standAt (bb.operate (ho F d A P a b u v (VR.mono q D) w))
theorem FI{w:Wd}{a b:V}{v:Value}{K:Int->Int->Prop}{P:Value->Value->Prop}(ha:VR w a u)(hb:VR w b v)(h:aA a.iv λx=>aA b.iv λy=>K x y)(k:∀x y t C,K x y->P (.int x t) (.int y C)):P u v:=by refine ah h λx e h=>ah h λy e' h=>?_;rw[V.rE e] at ha;rw[V.rE e'] at hb;refine xE ha λt ha=>xE hb λC hb=>?_;rw[ha,hb];exact k x y t C h
theorem PV{w:Wd}{a b:V}{v:Value}{K:Str->Str->Prop}{P:Value->Value->Prop}(ha:VR w a u)(hb:VR w b v)(h:aA a.sv λx=>aA b.sv λy=>K x y)(k:∀x y t C,K x y->P (.str x t) (.str y C)):P u v:=by refine ah h λx e h=>ah h λy e' h=>?_;rw[V.pu e] at ha;rw[V.pu e'] at hb;refine xE ha λt ha=>xE hb λC hb=>?_;rw[ha,hb];exact k x y t C h
def v5(o:Option α)(K:α->Prop)(D:Prop):Prop:=@Option.casesOn α (λ_=>Prop) o D K
theorem gZ{o:Option α}{K:α->Prop}{D:Prop}(h:v5 o K D)(k:aA o K->P)(j:D->P):P:=by
 cases o with
 |none=>exact j h
 |some v=>exact k h
theorem xg{W:V->V->ad V}{K:Int->Int->ad V}(J:∀{a b σ Q},W a b σ Q->aA a.iv λx=>aA b.iv λy=>K x y σ Q)(h:∀(F d A s wd σ Q x y t C),bU g F d wd σ s->K x y σ Q->wpAny (model g.prog g.w) A (binaryOp op (.int x t) (.int y C)) (iy g F d pw wd Q) yV s):xf g op W:=λF d A af a b u v ha hb s wd σ Q Z R hw=>FI (P:=λu v=>wpAny (model g.prog g.w) A (binaryOp op u v) (iy g F d pw wd Q) yV s) ha hb (J hw) λx y t C hw=>h F d A s wd σ Q x y t C R hw
theorem FJ{o:Option α}{K:α->Prop}{D:Prop}(h:v5 o K D)(k:∀v,o=some v->K v->P)(j:o=none->D->P):P:=by
 cases o with
 |none=>exact j rfl h
 |some v=>exact k v rfl h
def PW(a b:V):ad V:=λσ Q=>v5 a.iv (λx=>aA b.iv λy=>Q (.int (x+y)) σ) (aA a.sv λx=>aA b.sv λy=>gd (bw (x.length+y.length)) (Q (.str (x++y)) σ))
theorem f_:xf g .Add PW:=by
 intro F d A af a b u v ha hb s wd σ Q Z R J;refine gZ J (λJ=>?_) λJ=>?_
 ·refine FI (P:=λu v=>wpAny (model g.prog g.w) A (binaryOp .Add u v) (iy g F d pw wd Q) yV s) ha hb J λx y t C J=>?_;exact PyProof.Rows.add_int (az wd (V.int _) σ (.refl _) R.toks ⟨_,rfl⟩ J)
 ·refine PV (P:=λu v=>wpAny (model g.prog g.w) A (binaryOp .Add u v) (iy g F d pw wd Q) yV s) ha hb J λx y t C J=>?_;refine xA (aL J) λh1 h2=>?_;exact PyProof.Rows.add_str (λC tk=>az wd (V.str _) σ (.refl _) R.toks ⟨_,rfl⟩ h2) (dp h1)
def Ua(a b:V):ad V:=λσ Q=>aA a.iv λx=>aA b.iv λy=>Q (.int (x-y)) σ
theorem qg:xf g .Sub Ua:=xg (λh=>h) λF d A s wd σ Q x y t C R J=>PyProof.Rows.sub_int (az wd (V.int _) σ (.refl _) R.toks ⟨_,rfl⟩ J)
def Yw(a b:V):ad V:=λσ Q=>aA a.iv λx=>aA b.iv λy=>gd (Nat.ble x.natAbs 1000000) (Q (.int (x*y)) σ)
theorem wm:xf g .Mult Yw:=by refine xg (λh=>h) λF d A s wd σ Q x y t C R J=>?_;refine xA (aL J) λh1 h2=>?_;have h3:=aU h1;exact PyProof.Rows.mul_int (az wd (V.int _) σ (.refl _) R.toks ⟨_,rfl⟩ h2) (IntMulOk.of_left (intBits_le_64 (by omega) (by omega)))
def oK(a b:V):ad V:=λσ Q=>aA a.iv λx=>aA b.iv λy=>gd (!(Builtin.divisionGoesByPylong x y)&& !(y==0)) (Q (.int (x.fdiv y)) σ)
theorem eC:xf g .FloorDiv oK:=by refine xg (λh=>h) λF d A s wd σ Q x y t C R J=>?_;refine xA (aL J) λh1 h2=>?_;refine xA ((aM _ _).mp h1) λh3 h4=>?_;exact PyProof.Rows.floordiv_int (by simpa using h4) (az wd (V.int _) σ (.refl _) R.toks ⟨_,rfl⟩ h2) (.inl (by simpa using h3))
def HL(a b:V):ad V:=λσ Q=>aA a.iv λx=>aA b.iv λy=>gd (!(y==0)) (Q (.int (x.fmod y)) σ)
theorem lY:xf g .Mod HL:=by refine xg (λh=>h) λF d A s wd σ Q x y t C R J=>?_;refine xA (aL J) λh1 h2=>?_;exact PyProof.Rows.mod_int' (by simpa using h1) (az wd (V.int _) σ (.refl _) R.toks ⟨_,rfl⟩ h2)
theorem Yx{i:Int}{n:Nat}{p q:Pos}:be g F k (.UnaryOp .USub (.Constant (.int i) n p) q) (eH (.int (-i))):=λd A af hr s wd σ Q _ R J=>wpAny_UnaryOp (wpAny_Constant_int (PyProof.Rows.neg_int (az wd (.int (-i)) σ (.refl _) R.toks ⟨_,rfl⟩ J)))
def HM(o:Option O)(K:Bool->Prop):Prop:=aA (o.bind O.ls) λxs=>gd (bw xs.length) (K (!(Nat.beq xs.length 0)))
def nr:V->ad Bool
 | .none=>λσ Q=>Q false σ
 | .bool b=>λσ Q=>Q b σ
 | .int i=>λσ Q=>Q (!(i==0)) σ
 | .str x=>λσ Q=>gd (bw x.length) (Q (!(Nat.beq x.length 0)) σ)
 | .loc l=>λσ Q=>HM σ.mem[l]? λb=>Q b σ
 | .e_ _=>λ_ _=>False
theorem PY(n:Nat):((n:Int) !=0)= !(Nat.beq n 0):=by
 cases n with
 |zero=>rfl
 |succ n=>simp[Nat.beq];omega
theorem HO(I:List α):(!I.toArray.isEmpty)= !(Nat.beq I.length 0):=by cases I<;>simp[Nat.beq]
theorem zv{prog:Program}{w:World}{a:Int}{t:Tok}{Q:Bool->Shared->Prop}(h:Q (a !=0) s):wpAny (model prog w) A (truthy (.int a t)) Q E s:=P.truthy_int h
theorem qi{n:Nat}(h:bw n=true):(n:Int)<2 ^ 63:=by have:=aU h;omega
theorem wn{d:g_}{af:Wd}{a:V}(ha:VR af a u):bb g F d A af Xu (truthy u) (nr a):=by
 intro s wd σ Q Z R J;cases a with
 |none=>obtain rfl:=ha;exact aj (az wd false σ (.refl _) R rfl J)
 |bool b=>obtain rfl:=ha;exact wpAny_truthy_bool (az wd b σ (.refl _) R rfl J)
 |int i=>exact xE ha λt ha=>ha.symm▸zv (az wd _ σ (.refl _) R rfl J)
 |str x=>exact xE ha λt ha=>ha.symm▸xA (aL J) λh1 h2=>P.truthy_str (Int.not_le.mpr (qi h1)) (az wd _ σ (.refl _) R.toks (PY _) h2)
 |e_ v=>exact J.elim
 |loc l=>rw[(VR.mono Z ha).2];refine ah J λxs e J=>mr (R.get (eZ O.ue e)) λdP ob Y I n j dL=>xA (aL J) λh1 h2=>?_;rw[j] at Y;exact wpAny_truthy_list (b9 Y) (by rw[aZ,<-dL.len];exact qi h1) (az wd _ σ (.refl _) R.toks (by rw[dL.len];exact HO I) h2)
theorem HP{W:ad V}(h:be g F k e W)(hv:∀bc b,PySem.isTrue e bc b=(do let v <-b;standAt e.pos;holding [v] (truthy v))):qe g F k e (λσ Q=>W σ λv a9=>nr v a9 Q):=by intro d A af hr;rw[hv];exact bb.bind (h d A af hr) λwd u a Z D=>bb.standAt (bb.holding (wn D))
theorem HQ{W:ad Bool}(h:qe g F k e W):qe g F k (.UnaryOp .Not e pos) (λσ Q=>W σ λb a9=>Q (!b) a9):=by intro d A af hr s wd σ Q Z R J;refine wpAny_isTrue_Not (bb.go (h d A af hr) Z R J λb s' bg b' a9 h1 h2 h3 h4=>?_);exact az bg (!b') a9 h1 h2 (ag (!·) h3) h4
def nw(g:G)(F:df)(k:Nat)(op:BoolOp)(es:List PySem.Expr)(W:ad Bool):Prop:=∀d A af,cK A k->bb g F d A af Xu (allTrue op es (aK F d)) W
theorem LZ:nw g F k .And [] (λσ Q=>Q true σ):=λ_ _ _ _ s wd σ Q _ R J=>wpAny_allTrue_And_nil (az wd true σ (.refl _) R rfl J)
theorem PZ:nw g F k .Or [] (λσ Q=>Q false σ):=λ_ _ _ _ s wd σ Q _ R J=>wpAny_allTrue_Or_nil (az wd false σ (.refl _) R rfl J)
theorem HR{W W':ad Bool}(h:qe g F k e W)(h':nw g F k .And es W'):nw g F k .And (e::es) (λσ Q=>W σ λb a9=>br b (W' a9 Q) (Q false a9)):=by
 intro d A af hr s wd σ Q Z R J;refine wpAny_allTrue_And_cons (bb.go (h d A af hr) Z R J λb s' bg b' a9 h1 h2 h3 h4=>?_);obtain rfl:=h3;cases b with
 |true=>refine bb.go (h' d A af hr) (Z.trans h1) h2 h4 λc v4 o c' m y1 O y3 y4=>?_;exact az o c' m (h1.trans y1) O y3 y4
 |false=>exact az bg false a9 h1 h2 rfl h4
theorem L1{W W':ad Bool}(h:qe g F k e W)(h':nw g F k .Or es W'):nw g F k .Or (e::es) (λσ Q=>W σ λb a9=>br b (Q true a9) (W' a9 Q)):=by
 intro d A af hr s wd σ Q Z R J;refine wpAny_allTrue_Or_cons (bb.go (h d A af hr) Z R J λb s' bg b' a9 h1 h2 h3 h4=>?_);obtain rfl:=h3;cases b with
 |false=>refine bb.go (h' d A af hr) (Z.trans h1) h2 h4 λc v4 o c' m y1 O y3 y4=>?_;exact az o c' m (h1.trans y1) O y3 y4
 |true=>exact az bg true a9 h1 h2 rfl h4
theorem FM{op:BoolOp}{W:ad Bool}(h:nw g F k op es W):qe g F k (.BoolOp op es pos) W:=λd A af hr s wd σ Q Z R J=>wpAny_isTrue_BoolOp (h d A af hr s wd σ Q Z R J)
theorem bb.ite{d:g_}{af:Wd}{RA:Wd->β->α->Prop}{C:Sem α}{W W':ad β}(h:bb g F d A af RA t W)(h':bb g F d A af RA C W'):bb g F d A af RA (if b=true then t else C) (λσ Q=>br b (W σ Q) (W' σ Q)):=by
 cases b with
 |true=>exact h
 |false=>exact h'
theorem P0{body c:PySem.Expr}{Wt:ad Bool}{W W':ad V}(ht:qe g F k rD Wt)(h:be g F k body W)(h':be g F k c W'):be g F k (.IfExp rD body c pos) (λσ Q=>Wt σ λb a9=>br b (W a9 Q) (W' a9 Q)):=by intro d A af hr;rw[arm_eval_IfExp];refine bb.bind (ht d A af hr) λwd u a Z D=>?_;obtain rfl:=D;exact bb.ite (h d A wd hr) (h' d A wd hr)
def kC(g:G)(op:CmpOp)(W:V->V->ad Bool):Prop:=∀(F:df)(d:g_)(A:Around)(af:Wd)(a b:V)(u v:Value),cK A 0->VR af a u->VR af b v->bb g F d A af (λ_ (b:Bool)(r:Value)=>r= .bool b) (compareOp op u v) (W a b)
theorem cK.zero(h:cK A k):cK A 0:=⟨by have:=h.depth;exact aQ [_,_,_] (.c 1 (.a (.a (.v 0) (.m 2 (.v 1))) (.n 1)) (.v 2) .nil) 0 (.a (.a (.v 0) (.m 2 (.n 0))) (.n 1)) (.v 2) tt this,by have:=h.units;exact aQ [_,_,_] (.c 1 (.a (.a (.a (.v 0) (.m 16 (.v 1))) (.n 80)) (.n 1)) (.v 2) .nil) 0 (.a (.a (.a (.v 0) (.m 16 (.n 0))) (.n 80)) (.n 1)) (.v 2) tt this,h.handled⟩
theorem Yy{l:PySem.Expr}{op:CmpOp}{wa wb:ad V}{W:V->V->ad Bool}(ho:kC g op W)(ha:be g F k l wa)(hb:be g F k r wb)(hm:behindInMarks op r=false):be g F k (.Compare l [op] [r] pos) (λσ Q=>wa σ λa G=>wb G λb E=>W a b E λc H=>Q (.bool c) H):=by intro d A af hr;rw[eval_Compare1,markedBehindIn_of_false hm];refine bb.bind (ha d A af hr) λwd u a Z D=>?_;refine bb.bind (bb.holding (hb d A wd hr)) λP v b q w=>?_;refine bb.standAt (bb.operate ?_);intro s X σ Q zz R J;refine bb.go (ho F d A P a b u v hr.zero (VR.mono q D) w) zz R J λc s' bg c' a9 h1 h2 h3 h4=>?_;exact az bg (.bool c') a9 h1 h2 h3 h4
theorem HS{l:PySem.Expr}{op:CmpOp}{wa wb:ad V}{W:V->V->ad Bool}(ho:kC g op W)(ha:be g F k l wa)(hb:be g F k r wb)(hm:behindInMarks op r=false):qe g F k (.Compare l [op] [r] pos) (λσ Q=>wa σ λa G=>wb G λb E=>W a b E Q):=by intro d A af hr;rw[isTrue_Compare1,markedBehindIn_of_false hm];refine bb.bind (ha d A af hr) λwd u a Z D=>?_;refine bb.bind (bb.holding (hb d A wd hr)) λP v b q w=>?_;refine bb.standAt ?_;refine bb.bind (bb.operate (ho F d A P a b u v hr.zero (VR.mono q D) w)) λX c r zz hC=>?_;subst hC;refine bb.holding ?_;exact λs wd σ Q _ R J=>wpAny_truthy_bool (az wd r σ (.refl _) R rfl J)
noncomputable def P1:List Nat->List Nat->Bool
 | [],[]=>true
 |a::l,b::m=>Nat.beq a b&&P1 l m
 |_,_=>false
theorem mu(l:List Nat):∀m,P1 l m=true↔l=m:=by
 induction l with
 |nil=>exact λm=>by cases m with
  |nil=>exact⟨λ_=>rfl,λ_=>rfl⟩
  |cons _ _=>exact⟨λh=>nB h,λh=>nomatch h⟩
 |cons a l T=>exact λm=>by cases m with
  |nil=>exact⟨λh=>nB h,λh=>nomatch h⟩
  |cons b m=>exact⟨λh=>xA ((aM _ _).mp h) λh1 h2=>by rw[bK h1,(T m).mp h2],λh=>by
   rw[<-(hY h).1];exact(aM _ _).mpr ⟨hZ a,(T m).mpr (hY h).2⟩⟩
noncomputable def d3(x y:Str):Bool:=P1 x.cps.toList y.cps.toList
theorem L5(x y:Str):(x.cps.toList==y.cps.toList)=d3 x y:=by
 cases h:d3 x y with
 |true=>exact beq_iff_eq.mpr ((mu _ _).mp h)
 |false=>refine beq_eq_false_iff_ne.mpr λe=>?_;rw[show d3 x y=true from(mu _ _).mpr e] at h;exact yU h
theorem cq(x y:Str):d3 x y=true↔x=y:=⟨λh=>by cases x;cases y;exact ag _ (ag Array.mk ((mu _ _).mp h)),λh=>(mu _ _).mpr (by rw[h])⟩
def wEq(a b:V):ad Bool:=λσ Q=>v5 a.iv (λx=>aA b.iv λy=>Q (x==y) σ) (aA a.sv λx=>aA b.sv λy=>Q (d3 x y) σ)
theorem gq:kC g .Eq wEq:=by
 intro F d A af a b u v _ ha hb s wd σ Q Z R J;refine gZ J (λJ=>?_) λJ=>?_
 ·refine FI (P:=λu v=>wpAny (model g.prog g.w) A (compareOp .Eq u v) (iy g F d _ wd Q) yV s) ha hb J λx y t C J=>?_;exact PyProof.Rows.eq_int (az wd _ σ (.refl _) R rfl J)
 ·refine PV (P:=λu v=>wpAny (model g.prog g.w) A (compareOp .Eq u v) (iy g F d _ wd Q) yV s) ha hb J λx y t C J=>?_;exact P.eq_str (az wd _ σ (.refl _) R (by rw[L5]) J)
theorem DP{op:CmpOp}{W:V->V->ad Bool}{f:Int->Int->Bool}(J:∀{a b σ Q},W a b σ Q->aA a.iv λx=>aA b.iv λy=>Q (f x y) σ)(h:∀(A s Q x y t C),Q (.bool (f x y)) s->wpAny (model g.prog g.w) A (compareOp op (.int x t) (.int y C)) Q yV s):kC g op W:=λF d A af a b u v _ ha hb s wd σ Q Z R hw=>FI (P:=λu v=>wpAny (model g.prog g.w) A (compareOp op u v) (iy g F d _ wd Q) yV s) ha hb (J hw) λx y t C hw=>h A s _ x y t C (az wd _ σ (.refl _) R rfl hw)
def wLt(a b:V):ad Bool:=λσ Q=>aA a.iv λx=>aA b.iv λy=>Q (decide (x<y)) σ
theorem Ox:kC g .Lt wLt:=DP (λh=>h) λA s Q x y t C h=>PyProof.Rows.lt_int h
def wGt(a b:V):ad Bool:=λσ Q=>aA a.iv λx=>aA b.iv λy=>Q (decide (y<x)) σ
theorem ug:kC g .Gt wGt:=DP (λh=>h) λA s Q x y t C h=>PyProof.Rows.gt_int h
noncomputable def Ub(v:Value):Option Bool:=match v with
 | .ref _=>some false
 |_=>none
noncomputable def tK(v:V):Option Bool:=@V.casesOn (λ_=>Option Bool) v (some true) (λ_=>some false) (λ_=>some false) (λ_=>some false) Ub (λ_=>some false)
theorem uh{wd:Wd}{a:V}(h:VR wd a u)(e:tK a=some b):(u== .none)=b:=by
 cases a with
 |none=>rw[h];exact aq e
 |bool _=>rw[h];exact aq e
 |int _=>exact xE h λ_ h=>by rw[h];exact aq e
 |str _=>exact xE h λ_ h=>by rw[h];exact aq e
 |loc _=>rw[h.2];exact aq e
 |e_ v=>
  rw[h];cases v with
  |ref _=>exact aq e
  |_=>exact nS e
def P2(f:Bool->Bool)(a b:V):ad Bool:=λσ Q=>@V.casesOn (λ_=>Prop) b (aA (tK a) λb=>Q (f b) σ) (λ_=>False) (λ_=>False) (λ_=>False) (λ_=>False) (λ_=>False)
theorem HT{op:CmpOp}{f:Bool->Bool}(h:∀(A s Q u),Q (.bool (f (u== .none))) s->wpAny (model g.prog g.w) A (compareOp op u .none) Q yV s):kC g op (P2 f):=by
 intro F d A af a b u v _ ha hb s wd σ Q Z R J;cases b with
 |none=>rw[hb];exact ah J λb e J=>h A s _ u (az wd (f b) σ (.refl _) R (by rw[uh ha e]) J)
 |_=>exact J.elim
def wIs:V->V->ad Bool:=P2 id
theorem Uc:kC g .Is wIs:=HT λA s Q u h=>is_none h
def P3:V->V->ad Bool:=P2 (!·)
theorem jz:kC g .IsNot P3:=HT λA s Q u h=>isNot_none h
end
section
variable {g:G}{F:df}
def LRr(wd:Wd)(vs:List V)(us:List Value):Prop:=aE (VR wd) vs us
def rG(g:G)(F:df)(k:Nat)(es:List PySem.Expr)(W:ad (List V)):Prop:=∀d A af pos,cK A k->bb g F d A af LRr (spliced (backTo pos (starEach es (aK F d)))) W
theorem HU:rG g F k [] (λσ Q=>Q [] σ):=λd A af pos hr s wd σ Q Z R J=>wpAny_items_nil (az wd [] σ (.refl _) R .nil J)
theorem BR{W:ad V}{W':ad (List V)}(h:be g F k e W)(h':rG g F k es W')(he:∀bc,starEach (e::es) bc=(false,eval e bc)::starEach es bc):rG g F k (e::es) (λσ Q=>W σ λv G=>W' G λvs E=>Q (v::vs) E):=by intro d A af pos hr s wd σ Q Z R J;refine wpAny_items_cons (bb.go (h d A af hr) Z R J λu s' bg v a9 h1 h2 h3 h4=>?_) (he _);refine bb.go (h' d A af pos hr) (Z.trans h1) h2 h4 λus v4 o vs m y1 O y3 y4=>?_;exact az o (v::vs) m (h1.trans y1) O (.cons (VR.mono y1 h3) y3) y4
theorem c5(h:Heap):h.get? h.objs.size=none:=by
 cases q:h.get? h.objs.size with
 |none=>rfl
 |some o=>exact absurd (bT q) (i_ _)
def jR(o:O):ad V:=λσ Q=>Q (.loc σ.mem.length) {σ with mem:=σ.mem++[o]}
def ui(xs:List V):ad V:=λσ Q=>gd (bw xs.length) (jR (.list xs) σ Q)
def oM(xs:List V):ad V:=λσ Q=>gd (bw xs.length) (jR (.tup xs) σ Q)
theorem bU.g6{d:g_}{wd:Wd}{σ:St}(R:bU g F d wd σ s):s.heap.objs.size≠sysModules:=by refine dB (g.sm) λz o h1 h2=>?_;have h3:=bT (R.hb z o h2);exact dJ (fM h1 h3)
theorem bU.cE{d:g_}{wd:Wd}{σ:St}(R:bU g F d wd σ s){o:O}(ho:OR g (wd.push s.heap.objs.size) o ob):bU g F d (wd.push s.heap.objs.size) {σ with mem:=σ.mem++[o]} {s with heap:=s.heap.push ob}:=R.alloc (λ_ _ e=>bf _ e) (c5 _) (cu _ ho.live) ho R.g6
theorem zA{d:g_}{af:Wd}{vs:List V}(h:aE (VR af) vs us):bb g F d A af pw (newList us) (ui vs):=by
 intro s wd σ Q Z R J;refine xA (aL J) λh1 h2=>?_;have hz:us.length<=sizeLine:=by rw[<-h.len];exact dp h1
 refine gN (az (wd.push s.heap.objs.size) (.loc σ.mem.length) _ (Wd.aT _ _) (R.cE (o:=.list vs) ⟨us,0,rfl,h.mono λ_ _=>VR.mono (Z.trans (Wd.aT _ _))⟩) R.pushed h2) ?_;refine(?_ :us.toArray.size<=sizeLine);rw[aZ];exact hz
theorem BS{d:g_}{af:Wd}{vs:List V}(h:aE (VR af) vs us):bb g F d A af pw (newTuple us) (oM vs):=by
 intro s wd σ Q Z R J;refine xA (aL J) λh1 h2=>?_;have hz:us.length<=sizeLine:=by rw[<-h.len];exact dp h1
 refine gN (az (wd.push s.heap.objs.size) (.loc σ.mem.length) _ (Wd.aT _ _) (R.cE (o:=.tup vs) ⟨us,0,rfl,h.mono λ_ _=>VR.mono (Z.trans (Wd.aT _ _))⟩) R.pushed h2) ?_;refine(?_ :us.toArray.size<=sizeLine);rw[aZ];exact hz
theorem Ud{W:ad (List V)}(h:rG g F k es W):be g F k (.List es pos) (λσ Q=>W σ λvs a9=>ui vs a9 Q):=by intro d A af hr;rw[arm_eval_List];exact bb.standAt (bb.bind (h d A af pos hr) λwd us vs Z D=>zA D)
theorem Yz{n:Nat}{W:ad (List V)}(h:rG g F k es W):be g F k (.Tuple es n pos) (λσ Q=>W σ λvs a9=>oM vs a9 Q):=by intro d A af hr;rw[arm_eval_Tuple];exact bb.standAt (bb.bind (h d A af pos hr) λwd us vs Z D=>BS D)
noncomputable def uj(xs:List α):Int->Option α
 | .ofNat n=>Tx (bw n) xs[n]?
 | .negSucc n=>Tx (Nat.ble (n+1) xs.length&&bw xs.length) xs[xs.length-(n+1)]?
where Tx (b:Bool) (o:Option α):Option α:=match b with
 |true=>o
 |false=>none
theorem zB{o:Option α}{v:α}(h:uj.Tx b o=some v)(k:b=true->o=some v->P):P:=by
 cases b with
 |true=>exact k rfl h
 |false=>exact nS h
def ixN(i:Int)(m j:Nat):Prop:=seqIndex? i m=some j/\ -2 ^ 63<=i/\i<2 ^ 63/\((0<=i/\i.toNat=j)\/i<0/\ -(m:Int)<=i/\(i+m).toNat=j)
theorem HV{i:Int}{m j:Nat}(h:(0<=i/\i.toNat=j)\/i<0/\ -(m:Int)<=i/\(i+m).toNat=j)(hj:j<m)(h1:i<2 ^ 62)(h2: -2 ^ 62<=i):ixN i m j:=by
 refine⟨?_,gl (by decide) h2,Int.lt_of_lt_of_le h1 (by decide),h⟩;unfold seqIndex?;rcases h with h|h
 ·simp only[show ¬ i<0 from Int.not_lt.mpr h.1,if_false];rw[a6 (by rw[dI h.1,dI ((Int.toNat_lt h.1).mp (by rw[h.2];exact hj))];rfl),h.2]
 ·simp only[h.1,if_true];rw[a6 (by rw[dI (by have:=Int.add_le_add_right h.2.1 (m:Int);rwa[Int.add_left_neg] at this),dI (by have:=Int.add_lt_add_right h.1 (m:Int);rwa[fV] at this)];rfl),h.2.2]
theorem xh{xs:List α}{i:Int}{v:α}(h:uj xs i=some v)(k:∀j,ixN i xs.length j->xs[j]?=some v->P):P:=by
 cases i with
 |ofNat n=>refine zB h λh1 h2=>?_;have h3:=aU h1;have h4:=(List.getElem?_eq_some_iff.mp h2).1;exact k n (HV (.inl ⟨gj n,rfl⟩) h4 (Int.ofNat_lt.mpr (Nat.lt_of_le_of_lt h3 (by decide:16777216<2 ^ 62))) (gl (by decide) (gj n))) h2
 |negSucc n=>refine zB h λh1 h2=>xA ((aM _ _).mp h1) λh3 h4=>?_;have h5:=aU h3;have h6:=aU h4;exact k _ (HV (.inr ⟨lU n,Int.neg_le_neg (Int.ofNat_le.mpr h5),ag Int.toNat (Int.subNatNat_of_le h5)⟩) (Nat.sub_lt (dA (Nat.succ_pos n) h5) (Nat.succ_pos n)) (Int.lt_trans (lU n) (by decide)) (gl (b:= -((16777216:Nat):Int)) (by decide) (by rw[Int.negSucc_eq];exact Int.neg_le_neg (Int.ofNat_le.mpr (am h5 h6))))) h2
def P4(o:Option O)(i:V)(K:V->Prop):Prop:=aA i.iv λi=>v5 (o.bind O.ls) (λxs=>aA (uj xs i) K) (aA (o.bind O.tu) λxs=>aA (uj xs i) K)
def sF(a i:V):ad V:=λσ Q=>v5 a.lo (λl=>P4 σ.mem[l]? i λv=>Q v σ) (aA a.sv λx=>aA i.iv λi=>aA (uj x.cps.toList i) λc=>Q (.str ⟨#[c]⟩) σ)
noncomputable def nx(e:PySem.Expr):Bool:=by
 cases e with
 |Slice=>exact false
 |_=>exact true
theorem k5(h:nx e=true)(o i:Value):subscripted e false o i=PySem.operate [o,i] (getItem o i):=by
 cases e with
 |Slice=>exact nB h
 |_=>rfl
theorem sG{d:g_}{af:Wd}{a i:V}{v:Value}(ha:VR af a u)(hi:VR af i v):bb g F d A af pw (getItem u v) (sF a i):=by
 intro s wd σ Q Z R J;refine gZ J (λJ=>ah J λl e J=>ah J λi r J=>?_) λJ=>ah J λx e J=>ah J λi r J=>ah J λc hc Y=>?_
 ·rw[V.lB e] at ha;rw[V.rE r] at hi;rw[(VR.mono Z ha).2];refine xE hi λt hi=>?_;rw[hi];refine gZ J (λJ=>ah J λxs e J=>R.lst e λI n _ ho dL=>?_) λJ=>ah J λxs e J=>R.tpl e λI n _ ho dL=>?_
  ·refine ah J λw hw Y=>xh hw λj h1 h2=>bx (dL.get h2) λy hy Xv=>?_;rw[dL.len] at h1;rcases h1.2.2.2 with h3|h3
   ·exact wpAny_getItem_list (b9 ho) h3.1 h1.2.2.1 (by rw[h3.2];simpa using hy) (az wd w σ (.refl _) R Xv Y)
   ·exact wpAny_getItem_list_neg (b9 ho) h3.1 (by rw[aZ];exact h3.2.1) h1.2.1 (by rw[aZ,h3.2.2];simpa using hy) (az wd w σ (.refl _) R Xv Y)
  ·refine ah J λw hw Y=>xh hw λj h1 h2=>bx (dL.get h2) λy hy Xv=>?_;rw[dL.len] at h1;exact getItem_tuple ⟨_,ho,rfl,n,rfl⟩ h1.2.1 h1.2.2.1 (by rw[aZ];exact h1.1) (by simpa using hy) (az wd w σ (.refl _) R Xv Y)
 ·rw[V.pu e] at ha;rw[V.rE r] at hi;refine xE hi λt hi=>xE ha λC ha=>?_;rw[hi,ha];refine xh hc λj h1 h2=>?_;refine P.getItem_str ?_ ?_ (az wd (.str ⟨#[c]⟩) σ (.refl _) R.toks ⟨_,rfl⟩ Y)
  ·rw[dR (Int.not_lt.mpr h1.2.1),dR (Int.not_le.mpr h1.2.2.1)];rfl
  ·rw[show x.length=x.cps.toList.length by simp[Str.length],h1.1];simpa using h2
noncomputable def HW(o:O):Option String:=match o with
 | .list _=>some "list"
 | .tup _=>some "tuple"
 |_=>none
noncomputable def Oy(σ:St)(v:V):Option String:=@V.casesOn (λ_=>Option String) v none (λ_=>none) (λ_=>none) (λ_=>some "str") (λ_=>none) λl=>(σ.mem[l]?).bind HW
theorem HX{a i:V}{σ:St}{Q:V->St->Prop}(h:sF a i σ Q):∃T,Oy σ a=some T:=by
 refine gZ h (λh=>ah h λl e h=>ah h λ_ _ h=>?_) λh=>ah h λx e _=>?_
 ·rw[V.lB e];exact gZ h (λh=>ah h λxs e _=>⟨"list",ag (Option.bind · HW) (eZ O.ue e)⟩) λh=>ah h λxs e _=>⟨"tuple",ag (Option.bind · HW) (eZ O.BL e)⟩
 ·rw[V.pu e];exact⟨_,rfl⟩
theorem HY{d:g_}{wd:Wd}{σ:St}(R:bU g F d wd σ s){a:V}(ha:VR wd a u){T:String}(h:Oy σ a=some T):s.TypeIs u T/\∃id,typeLookup (.type T) "__getitem__"=Pure.pure (some (.builtin id)):=by
 cases a with
 |loc l=>
  refine aI h λo e h=>jy (R.get e) λ_ ob Y ho=>?_;rw[ha.2];cases o with
  |list xs=>rw[<-aq h];exact dB ho λI n e _=>⟨⟨ob,Y,by rw[e];rfl⟩,_,slot_list_getitem.lookup⟩
  |tup xs=>rw[<-aq h];exact dB ho λI n e _=>⟨⟨ob,Y,by rw[e];rfl⟩,_,slot_tuple_getitem.lookup⟩
  |_=>exact nS h
 |str x=>rw[<-aq h];exact xE ha λt ha=>ha.symm▸⟨typeIs_str s x t,_,PySem.F.slot_str_getitem.lookup⟩
 |_=>exact nS h
theorem YA{value b:PySem.Expr}{wa h:ad V}(ha:be g F k value wa)(hi:be g F k b h)(hp:nx b=true):be g F k (.Subscript value b pos) (λσ Q=>wa σ λa G=>h G λi E=>sF a i E Q):=by intro d A af hr s wd σ Q Z R J;refine Subscript_ (bb.go (ha d A af hr) Z R J λu s' bg a a9 h1 h2 h3 h4=>?_);refine bb.go (hi d A af hr) (Z.trans h1) h2 h4 λv v4 o i m y1 O y3 y4=>?_;refine xE (HX y4) λT y=>?_;refine Tv (HY O (VR.mono y1 h3) y) λt1 id t2=>?_;refine tail_any t1 t2 (bb.go (sG (VR.mono y1 h3) y3) (.refl _) O y4 λr c X r' H L z2 z3 z4=>?_) (k5 hp _ _);exact az X r' H ((h1.trans y1).trans L) z2 z3 z4
end
noncomputable def Wd.jn(wd:Wd)(a:Addr)(o:Obj):Wd:=⟨wd.ρ,wd.n,λx=>if x=a then some o else wd.fz x⟩
noncomputable def Wd.jS(wd:Wd)(a:Addr):Wd:=⟨wd.ρ,wd.n,λx=>if x=a then none else wd.fz x⟩
theorem Wd.ny{wd:Wd}(h:wd.fz a=none):Wd.Le wd (wd.jn a o):=⟨aF _,λ_ _=>rfl,λx o' e=>by
  refine(?_ :(if x=a then some o else wd.fz x)=some o');rw[aH (λq=>by rw[q,h] at e;exact nS e)];exact e⟩
theorem Wd.oN{wd bg:Wd}(h:wd.fz a=none)(Z:Wd.Le (wd.jn a o) bg):Wd.Le wd (bg.jS a):=⟨Z.n,Z.ρ,λx o' e=>by
  have ne:x≠a:=λq=>by rw[q,h] at e;exact nS e
  refine(?_ :(if x=a then none else bg.fz x)=some o');rw[aH ne];exact Z.fz x o' (by show(if x=a then some o else wd.fz x)=some o';rw[aH ne];exact e)⟩
theorem Wd.P5{wd bg:Wd}(Z:Wd.Le (wd.jn a o) bg):bg.fz a=some o:=Z.fz a o (by show(if a=a then some o else wd.fz a)=some o;rw[a6 rfl])
theorem OR.jS{g:G}{wd:Wd}(ha:∀o,wd.fz a=some o->¬ Perm o){v:O}(x:OR g wd v o):OR g (wd.jS a) v o:=OR.map (a:=wd) (b:=wd.jS a) (aF _) (λ_ _=>rfl) (x:=x) λc o h p=>by refine(?_ :(if c=a then none else wd.fz c)=_);rw[aH λq:c=a=>ha _ (q▸h) p];exact h
theorem VR.jn{wd:Wd}{v:V}(h:VR wd v u):VR (wd.jn a o) v u:=VR.map (e:=h) (aF _) λ_ _=>rfl
theorem VR.jS{wd:Wd}{v:V}(h:VR wd v u):VR (wd.jS a) v u:=VR.map (e:=h) (aF _) λ_ _=>rfl
theorem hJ.jn{g:G}{wd:Wd}{mem:List O}(R:hJ g wd mem h)(ha:h.get? a=some o)(S:wd.fz a=none)(hn:∀l,l<wd.n->wd.ρ l≠a):hJ g (wd.jn a o) mem h:=by
 have Z:Wd.Le wd (wd.jn a o):=Wd.ny S;refine⟨R.len,λb ob e=>?_,λb ob e=>Z.fz b ob (R.base b ob e),λl o e=>bx (R.own l o e) λob h1 h2=>⟨ob,h1,h2.mono Z⟩,R.low,R.inj,λl dP=>?_,R.tabs.mono Z⟩
 ·by_cases q:b=a
  ·subst q;have:(wd.jn b o).fz b=some o:=a6 rfl;rw[this] at e;obtain rfl:=aq e;exact ha
  ·exact R.rF b ob (by have:(wd.jn a o).fz b=wd.fz b:=aH q;rw[this] at e;exact e)
 ·refine(?_ :(if wd.ρ l=a then some o else wd.fz (wd.ρ l))=none);rw[aH (hn l dP)];exact R.new l dP
theorem hJ.jS{g:G}{wd:Wd}{mem:List O}(R:hJ g wd mem h)(ha:∀o,wd.fz a=some o->¬ Perm o)(hb:g.hb.get? a=none):hJ g (wd.jS a) mem h:=by
 have sub:∀x o,(wd.jS a).fz x=some o->wd.fz x=some o:=λx o e=>by
  by_cases q:x=a
  ·have:(wd.jS a).fz x=none:=a6 q;rw[this] at e;exact nS e
  ·have:(wd.jS a).fz x=wd.fz x:=aH q;rw[this] at e;exact e
 refine⟨R.len,λb ob e=>R.rF b ob (sub b ob e),λb ob e=>?_,λl o e=>bx (R.own l o e) λob h1 h2=>⟨ob,h1,h2.jS ha⟩,R.low,R.inj,λl Z=>?_,λi P e=>R.tabs i P e⟩
 ·have ne:b≠a:=λq=>by rw[q,hb] at e;exact nS e
  have:(wd.jS a).fz b=wd.fz b:=aH ne;rw[this];exact R.base b ob e
 ·refine(?_ :(if wd.ρ l=a then none else wd.fz (wd.ρ l))=none);rw[R.new l Z];exact ite_self _
section
variable {g:G}{F:df}
theorem Ue:kT g F k [] (λσ Q=>Q .next σ):=λd A af hr s wd σ Q Z R J=>hV (az wd .next σ (.refl _) R rfl J)
def rH(W':ad Fl)(Q:Fl->St->Prop):Fl->St->Prop
 | .next=>λa9=>W' a9 Q
 | .brk=>Q .brk
 | .cont=>Q .cont
 | .ret v=>Q (.ret v)
def aV(W W':ad Fl):ad Fl:=λσ Q=>W σ (rH W' Q)
def P6(go:St->Prop)(Q:Fl->St->Prop):Fl->St->Prop
 | .next=>go
 | .cont=>go
 | .brk=>Q .next
 | .ret v=>Q (.ret v)
theorem P7{st:Stmt}{aD:List Stmt}{W W':ad Fl}(h:iT g F k st W)(h':kT g F k aD W'):kT g F k (st::aD) (aV W W'):=by
 intro d A af hr s wd σ Q Z R J;refine wpAny_execs_cons (bb.go (h d A af hr) Z R J λf s' bg j a9 h1 h2 h3 h4=>?_);cases j with
 |next=>rw[h3];exact bb.go (h' d A af hr) (Z.trans h1) h2 h4 λc v4 o c' m y1 O y3 y4=>az o c' m (h1.trans y1) O y3 y4
 |brk=>rw[h3];exact az bg .brk a9 h1 h2 rfl h4
 |cont=>rw[h3];exact az bg .cont a9 h1 h2 rfl h4
 |ret v=>exact bx h3 λu e hv=>e.symm▸az bg (.ret v) a9 h1 h2 ⟨u,rfl,hv⟩ h4
def uk:ad β:=λ_ _=>False
theorem P8:be g F k e uk:=λ_ _ _ _ _ _ _ _ _ _ J=>J.elim
theorem P9:qe g F k e uk:=λ_ _ _ _ _ _ _ _ _ _ J=>J.elim
theorem P_{e:List Stmt}:kT g F k e uk:=λ_ _ _ _ _ _ _ _ _ _ J=>J.elim
noncomputable def St.nf(σ:St)(i:Nat)(v:V):St:={σ with loc:=σ.loc.set i (some v)}
theorem L6(i:Nat){p:Pos}{W:ad V}(h:be g F k e W)(B:F.names[i]?=some x)(nc:F.names.Nodup)(hk:F.scope.kind= .function)(Z:∀d,(aK F d).kindOf x=some .local) (M:∀d,swapsWith e (some (.Name x p)) pos.line (aK F d)=Pure.pure false):iT g F k (.Assign [.Name x p] e pos) (λσ Q=>W σ λv a9=>Q .next (a9.nf i v)):=by intro d A af hr s wd σ Q gG R J;refine wpAny_Assign_Name (bb.go (h d A af hr) gG R J λu s' bg v a9 h1 h2 h3 h4=>?_) (M d);refine bb.go (kz h3 B nc hk (Z d)) (K:=(λ_ m=>Q .next m)) (.refl _) h2 h4 λ_ v4 o _ m y1 O _ y4=>?_;exact az o .next m (h1.trans y1) O rfl y4
theorem Uf{W:ad V}(h:be g F k e W)(hi:∀d,interactive (aK F d)=false)(M:∀d,swapsWith e none pos.line (aK F d)=Pure.pure false):iT g F k (.Expr e pos) (λσ Q=>W σ λ_ a9=>Q .next a9):=by intro d A af hr s wd σ Q gG R J;refine wpAny_Expr_any (bb.go (h d A af hr) gG R J λu s' bg v a9 h1 h2 h3 h4=>?_) (hi d) (M d);exact az bg .next a9 h1 h2 rfl h4
theorem L7{W:ad V}(h:be g F k e W):iT g F k (.Return (some e) pos) (λσ Q=>W σ λv a9=>Q (.ret v) a9):=by intro d A af hr s wd σ Q gG R J;refine wpAny_Return_some (bb.go (h d A af hr) gG R J λu s' bg v a9 h1 h2 h3 h4=>?_);exact az bg (.ret v) a9 h1 h2 ⟨u,rfl,h3⟩ h4
theorem HZ:iT g F k (.Return none pos) (λσ Q=>Q (.ret .none) σ):=λd A af hr s wd σ Q gG R J=>wpAny_Return_none (az wd (.ret .none) σ (.refl _) R ⟨_,rfl,rfl⟩ J)
theorem rIf{c:List Stmt}{Wt:ad Bool}{W W':ad Fl}(ht:qe g F k rD Wt)(h:kT g F k body W)(h':kT g F k c W'):iT g F k (.If rD body c pos) (λσ Q=>Wt σ λb a9=>br b (W a9 Q) (W' a9 Q)):=by intro d A af hr;rw[exec_If];refine bb.standAt (bb.bind (ht d A af hr) λwd u a Z D=>?_);obtain rfl:=D;exact bb.ite (h d A wd hr) (h' d A wd hr)
theorem Ug:iT g F k (.Continue pos) (λσ Q=>Q .cont σ):=λd A af hr s wd σ Q gG R J=>wpAny_Continue (az wd .cont σ (.refl _) R rfl J)
def sH(g:G)(op:Operator)(W:V->V->ad V):Prop:=∀(F:df)(d:g_)(A:Around)(af:Wd)(a b:V)(u v:Value),VR af a u->VR af b v->bb g F d A af pw (inplaceOp op u v) (W a b)
theorem kE:sH g .Add PW:=by
 intro F d A af a b u v ha hb s wd σ Q Z R J;refine gZ J (λJ=>?_) λJ=>?_
 ·refine FI (P:=λu v=>wpAny (model g.prog g.w) A (inplaceOp .Add u v) (iy g F d pw wd Q) yV s) ha hb J λx y t C J=>?_;exact PyProof.Rows.iadd_int (az wd (V.int _) σ (.refl _) R.toks ⟨_,rfl⟩ J)
 ·refine PV (P:=λu v=>wpAny (model g.prog g.w) A (inplaceOp .Add u v) (iy g F d pw wd Q) yV s) ha hb J λx y t C J=>?_;refine xA (aL J) λh1 h2=>?_;exact PyProof.Rows.iadd_str (λC tk=>az wd (V.str _) σ (.refl _) R.toks ⟨_,rfl⟩ h2) (dp h1)
theorem BT:sH g .Sub Ua:=by intro F d A af a b u v ha hb s wd σ Q Z R J;refine FI (P:=λu v=>wpAny (model g.prog g.w) A (inplaceOp .Sub u v) (iy g F d pw wd Q) yV s) ha hb J λx y t C J=>?_;exact PyProof.Rows.isub_int (az wd (V.int _) σ (.refl _) R.toks ⟨_,rfl⟩ J)
theorem L8{d:g_}{af:Wd}(B:F.names[i]?=some x)(hk:F.scope.kind= .function)(Z:(aK F d).kindOf x=some .local):bb g F d A af pw (loadName (aK F d) x) (dX i):=λs wd σ Q _ R J=>qf J λv e J=>bx (R.loc) λm hn hm=>bx (hm i x v B e) λu N hv=>
  lP hk Z hn N (az wd v σ (.refl _) R hv J)
theorem YB(i:Nat){p:Pos}{W:ad V}{Wo:V->V->ad V}(ho:sH g op Wo)(h:be g F k e W)(B:F.names[i]?=some x)(nc:F.names.Nodup)(hk:F.scope.kind= .function) (Z:∀d,(aK F d).kindOf x=some .local):iT g F k (.AugAssign (.Name x p) op e pos) (λσ Q=>dX i σ λa G=>W G λb E=>Wo a b E λc H=>Q .next (H.nf i c)):=by intro d A af hr;rw[exec_AugAssign_Name];refine bb.standAt (bb.bind (L8 B hk (Z d)) λwd u a gG D=>?_);refine bb.bind (bb.holding (h d A wd hr)) λP v b Qa w=>?_;refine bb.standAt (bb.bind (bb.operate (ho F d A P a b u v (VR.mono Qa D) w)) λX r c YC hC=>?_);refine bb.standAt ?_;intro s ul σ Q Qb R J;refine U (wpAny_bindName ?_);refine bb.go (kz (VR.mono Qb hC) B nc hk (Z d)) (K:=(λ_ m=>Q .next m)) (.refl _) R J λ_ v4 o _ m y1 O _ y4=>?_;exact aj (az o .next m y1 O rfl y4)
def whK(Wb:ad Fl)(K Q:Fl->St->Prop)(b:Bool)(σ:St):Prop:=br b (Wb σ K) (Q .next σ)
def mv(Wt:ad Bool)(Wb:ad Fl):Nat->St->(Fl->St->Prop)->Prop
 |0,_,_=>False
 |n+1,σ,Q=>Wt σ (whK Wb (P6 (λE=>mv Wt Wb n E Q) Q) Q)
def whI(g:G)(F:df)(d:g_)(Wt:ad Bool)(Wb:ad Fl)(wd:Wd)(Q:Fl->St->Prop)(n:Nat)(s:Shared):Prop:=∃bg σ,Wd.Le wd bg/\bU g F d bg σ s/\mv Wt Wb n σ Q
def Xw(g:G)(F:df)(d:g_)(wd:Wd)(Q:Fl->St->Prop):Except Value Flow->Shared->Prop:=λr s'=>match r with| .ok f=>iy g F d Tw wd Q f s'| .error _=>False
theorem Qc{Wt:ad Bool}{Wb:ad Fl}(ht:qe g F k rD Wt)(hb:kT g F k body Wb):iT g F k (.While rD body [] pos) (λσ Q=>∃n,mv Wt Wb n σ Q):=by
 intro d A af hr s wd σ Q gG R J;refine xE J λn J=>?_;refine wpAny_While ?_;refine fL (codeAny_whileLoop (R:=Xw g F d wd Q) (whI g F d Wt Wb wd Q) ?_ n ⟨wd,σ,.refl _,R,J⟩) λr s' x=>by cases r<;>first|exact x|exact x.elim
 intro n s hI;refine dZ hI λbg σ h1 h2 h3=>?_;cases n with
 |zero=>exact h3.elim
 |succ n=>
  refine bb.go (ht d A af hr) (gG.trans h1) h2 h3 λb s' P b' E x1 x2 x3 x4=>?_;rw[x3];cases b' with
  |false=>exact hV (az P .next E (h1.trans x1) x2 rfl x4)
  |true=>
   refine bb.go (hb d A af hr) ((gG.trans h1).trans x1) x2 x4 λf v4 X j H y1 O y3 y4=>?_;have go:mv Wt Wb n H Q->whI g F d Wt Wb wd Q n v4:=λh=>⟨X,H,(h1.trans x1).trans y1,O,h⟩;cases j with
   |next=>rw[y3];exact⟨n,er _,go y4⟩
   |cont=>rw[y3];exact⟨n,er _,go y4⟩
   |brk=>rw[y3];exact az X .next H ((h1.trans x1).trans y1) O rfl y4
   |ret v=>exact bx y3 λu e hv=>e.symm▸az X (.ret v) H ((h1.trans x1).trans y1) O ⟨u,rfl,hv⟩ y4
end
theorem jT(x y:Str):(x==y)=d3 x y:=by
 cases h:d3 x y with
 |true=>exact beq_iff_eq.mpr ((cq _ _).mp h)
 |false=>refine beq_eq_false_iff_ne.mpr λe=>?_;rw[(cq x y).mpr e] at h;exact yU h
noncomputable def eK(n:Str):List (Str×V)->Option V
 | []=>none
 |p::r=>cond (d3 p.1 n) (some p.2) (eK n r)
noncomputable def cQ(n:Str)(v:V):List (Str×V)->List (Str×V)
 | []=>[(n,v)]
 |p::r=>cond (d3 p.1 n) ((p.1,v)::r) (p::cQ n v r)
abbrev lZ(g:G)(wd:Wd)(p:Str×V)(d:DictEntry):Prop:=∃t u,d=⟨PyData.keyHash g.w.params p.1,.str p.1 t,u⟩/\VR wd p.2 u
section
variable {g:G}{wd:Wd}
theorem FN{es:List (Str×V)}(h:aE (lZ g wd) es ds):(ds.any λx=>x.refKey)=false:=by
 induction h with
 |nil=>rfl
 |cons e _ T=>refine dB e λt u e _=>?_;rw[kj,T,e];rfl
theorem tM{n:Str}{es:List (Str×V)}(h:aE (lZ g wd) es ds):(∀v,eK n es=some v->∃u,getL n ds=some (some u)/\VR wd v u)/\(eK n es=none->getL n ds=some none):=by
 induction h with
 |nil=>exact⟨λv e=>nS e,λ_=>rfl⟩
 | @cons p d es ds e _ T=>
  refine dB e λt u e hv=>?_;have hk:d.key.isStr n=d3 p.1 n:=by rw[e];exact jT p.1 n
  have S:d.refKey=false:=by rw[e];rfl
  have N:d.val=u:=by rw[e]
  unfold getL;rw[List.find?_cons,hk,kj,S];show(∀v,cond (d3 p.1 n) (some p.2) (eK n es)=some v->_)/\(cond (d3 p.1 n) (some p.2) (eK n es)=none->_);cases d3 p.1 n with
  |true=>exact⟨λv e=>⟨u,ag (λx=>some (some x)) N,aq e▸hv⟩,λe=>LG e⟩
  |false=>exact T
theorem L9{n:Str}{t:Tok}{v:V}(hv:VR wd v u){es:List (Str×V)}(h:aE (lZ g wd) es ds):aE (lZ g wd) (cQ n v es) (putL n (PyData.keyHash g.w.params n) (.str n t) u ds):=by
 induction h with
 |nil=>exact .cons ⟨t,u,rfl,hv⟩ .nil
 | @cons p d es ds e y T=>
  refine dB e λC u' e' Tz=>?_;have hk:d.key.isStr n=d3 p.1 n:=by rw[e'];exact jT p.1 n
  unfold putL;rw[hk];show aE _ (cond (d3 p.1 n) ((p.1,v)::es) (p::cQ n v es)) _;cases d3 p.1 n with
  |true=>rw[e'];exact .cons ⟨C,u,rfl,hv⟩ y
  |false=>exact .cons e T
end
theorem H5(n:Str)(hsh:Int)(ky v:Value)(ds:List DictEntry):(putL n hsh ky v ds).length<=ds.length+1:=by
 induction ds with
 |nil=>exact aF _
 |cons p r T=>
  unfold putL;by_cases h:p.key.isStr n=true
  ·rw[a6 h];exact eT _
  ·rw[aH h];exact jw T
structure rI(K:Frag)(C:Addr):Prop where
 ga:findIn K (.ref C) "__getattribute__"=some (some (.builtin "object.__getattribute__"))
 gt:findIn K (.ref C) "__getattr__"=some none
 sa:findIn K (.ref C) "__setattr__"=some (some (.builtin "object.__setattr__"))
 po:plainOver K C=true
 hd:hasDictIn K C=true
structure NameK(K:Frag)(C:Addr)(n:Str):Prop where
 there:∃a,findIn K (.ref C) n=some a/\∀f,a=some f->∃x get,f= .ref x/\specialIn K f "__get__"=some get/\takesIn K f=some false
theorem NameK.taker{K:Frag}{n:Str}(N:NameK K C n):takerIn K C n=some none:=by
 refine bx (N.there) λa h1 h2=>(bE h1).trans ?_;cases a with
 |none=>rfl
 |some f=>exact dZ (h2 f rfl) λx get _ h3 h4=>ag (Option.map λb=>if b=true then some f else none) h4
theorem NameK.find{K:Frag}{n:Str}(N:NameK K C n)(hh:hasDictIn K C=true){od:Obj}{v:Value}(Z:lookIn n od=some (some v)):findObj K C (some od) n=some (.value v):=by
 refine bx (fi hh) λcd hc hd=>bx (N.there) λa h1 h2=>?_;have ho:W.ownOf cd (some od) n=some (some v):=(a6 hd).trans Z;refine(bE hc).trans ((bE h1).trans ?_);cases a with
 |none=>exact(bE ho).trans rfl
 |some f=>
  refine dZ (h2 f rfl) λx get _ h3 h4=>(bE h3).trans ?_;cases get with
  |none=>exact(bE ho).trans rfl
  |some gv=>exact(bE h4).trans ((bE ho).trans rfl)
section
variable {g:G}{F:df}
noncomputable def nA:V->Bool
 | .e_ (.builtin i)=>(withoutEnding? i "#data").isNone
 |_=>true
theorem zC{wd:Wd}{v:V}(h:VR wd v u)(e:nA v=true):handedIn u=true:=by
 cases v with
 |int i=>exact xE h λt h=>by rw[h];rfl
 |str i=>exact xE h λt h=>by rw[h];rfl
 |loc l=>rw[h.2];rfl
 |e_ w=>rw[h];cases w<;>exact e
 |_=>rw[h];rfl
noncomputable def H6(C:Addr)(o:Option O):Option Nat:=(o.bind O.ins).bind λp=>cond (Nat.beq p.1 C) (some p.2) none
noncomputable def qj(o:Option O):Option (List (Str×V)):=o.bind O.di
noncomputable def d4(C:Addr)(mem:List O)(v:V):Option (Nat×List (Str×V)):=v.lo.bind λl=>(H6 C mem[l]?).bind λd=>(qj mem[d]?).bind λes=>some (d,es)
theorem kF{a:α}(h:cond b (some a) none=some c)(k:b=true->a=c->P):P:=by
 cases b with
 |true=>exact k rfl (aq h)
 |false=>exact nS h
theorem FO{o:Option O}{d:Nat}(h:H6 C o=some d):o=some (.inst C d):=aI h λp e h=>kF h λh1 h2=>(eZ O.LW e).trans (by rw[bK h1,h2])
theorem nC{d:g_}{wd:Wd}{σ:St}(R:bU g F d wd σ s){a:V}(ha:VR wd a u){p:Nat×List (Str×V)}(h:d4 C σ.mem a=some p):∃x ds n,u= .ref x/\PySem.W.InstAt s.heap x (instObj C (wd.ρ p.1)) C (some (dictOf ds n))/\aE (lZ g wd) p.2 ds/\p.1<wd.n/\s.heap.get? (wd.ρ p.1)=some (dictOf ds n)/\σ.mem[p.1]?=some (.dict p.2):=by
 refine aI h λl e h=>aI h λc e1 h=>aI h λtN e2 h=>?_;rw[V.lB e] at ha;rw[<-aq h];have e3:=eZ O.BM e2;exact DM (R.get (FO e1)) λ_ ob ho e4 _=>mr (R.get e3) λh2 ob2 Xx ds n E H=>
  have Xx:=Xx.trans (ag some E)
  ⟨_,ds,n,ha.2,⟨ho.trans (ag some e4),rfl,rfl,Xx⟩,H,h2,Xx,e3⟩
def zD(C:Addr)(n:Str)(a:V):ad V:=λσ Q=>aA (d4 C σ.mem a) λp=>aA (eK n p.2) λv=>gd (nA v) (Q v σ)
theorem DQ{n:Str}(HC:rI g.K C)(q:NameK g.K C n){d:g_}{af:Wd}{a:V}{ex:Bool}(ha:VR af a u):bb g F d A af pw (getAttr u n ex) (zD C n a):=by intro s wd σ Q Z R J;refine ah J λp h1 J=>ah J λv h2 J=>xA (aL J) λh3 J=>fZ (nC R (VR.mono Z ha) h1) λx ds m pz I H _=>?_;rw[pz];refine bx ((tM H).1 v h2) λw hw hv=>?_;exact get_value (g.X.keeps R.hb) I HC.ga (q.find HC.hd (by rw[lookIn_dict];exact hw)) (zC hv h3) (az wd v σ (.refl _) R.toks hv J)
theorem Uh{n:Str}{o:PySem.Expr}{W:ad V}(h:be g F k o W)(hn:n=n')(HC:rI g.K C)(q:NameK g.K C n')(he:∀bc,eval (.Attribute o n pos) bc=(do
  let o' <-eval o bc
  standAt pos.atName
  let r <-holding [o'] (getAttr o' n true)
  letTemporaryGo o o' r
  Pure.pure r)):be g F k (.Attribute o n pos) (λσ Q=>W σ λa a9=>zD C n' a a9 Q):=by
 subst hn;intro d A af hr;rw[he];refine bb.bind (h d A af hr) λwd u a Z D=>bb.standAt ?_;intro s bg σ Q j R J;refine U (bq (a_ (DQ HC q D s bg σ Q j R J) (λr s' x=>?_) λ_ _ x=>x));exact U (wpAny_letTemporaryGo (aj x))
theorem L_{prog:Program}{w:World}{K:Frag}{x dx:Addr}{name:Str}{tk:Tok}{v:Value}{n:Nat}{R:Result->Shared->Prop}(X:K.In s.heap)(I:PySem.W.InstAt s.heap x (instObj C dx) C (some (dictOf ds n))) (hp:plainOver K C=true) (ht:takerIn K C name=some none) (hh:hasDictIn K C=true) (hz:ds.length<=900) (hr:(ds.any λe=>e.refKey)=false)(h:R (.ok (.ret .none)) {s with heap:=s.heap.update dx (Obj.putName name (PyData.keyHash w.params name) (.str name s.toks) v),toks:=s.toks+1}):codeAny (model prog w) A (.call (.builtin "object.__setattr__") ⟨[.ref x,.str name tk,v],[]⟩) R s:=by
 refine osa_open X I hp ht λb=>?_;refine bx (fi hh) λcd hc LH=>?_;obtain⟨B,L,hn,G⟩:=I;have D:=G;have e':Obj.putName name (PyData.keyHash w.params name) (.str name s.toks) v (dictOf ds n)=dictOf (putL name (PyData.keyHash w.params name) (.str name s.toks) v ds) (putN name ds n):=putName_dict ..;have D':(s.heap.update dx (Obj.putName name (PyData.keyHash w.params name) (.str name s.toks) v)).get? dx=some (dictOf (putL name (PyData.keyHash w.params name) (.str name s.toks) v ds) (putN name ds n)):=by rw[<-e'];exact d_ _ D (by rw[e'];rfl)
 refine U (aj (U (U (wpAny_loadPart B (U ((looks_clsIn X hc).here ?_))))));rw[LH];refine aj (U (aj (U ?_)));unfold nsSet;refine U (U (iu (aj (U (wpAny_mkText (U (wpAny_loadPart D ?_)))))));dsimp only;have c:aRefKeyMayBeTheName name ds.toArray=false:=by
  rw[aRefKeyMayBeTheName_at];have:(ds.toArray.any λe=>e.refKey)=false:=by simpa using hr
  rw[this,Bool.and_false]
 rw[c];refine wpAny_updatePart D ?_;refine U (wpAny_lookBehind D' (pastItsLine_dict ?_) ?_)
 ·rw[aZ,dj];have:=H5 name (PyData.keyHash w.params name) (.str name s.toks) v ds;exact aQ [_,_] (.c 1 (.v 0) (.n 900) (.c 1 (.v 1) (.a (.v 0) (.n 1)) .nil)) 0 (.v 1) (.a (.n 16777216) (.n 1)) tt hz this
 ·exact aj h
def FP(C:Addr)(n:Str)(a v:V):ad Unit:=λσ Q=>aA (d4 C σ.mem a) λp=>gd (Nat.ble p.2.length 800) (Q () {σ with mem:=σ.mem.set p.1 (.dict (cQ n v p.2))})
theorem DS{n:Str}(HC:rI g.K C)(q:NameK g.K C n){d:g_}{af:Wd}{a v:V}{r:Value}(ha:VR af a u)(hv:VR af v r):bb g F d A af td (setAttr u n r) (FP C n a v):=by intro s wd σ Q Z R J;refine ah J λp h1 J=>xA (aL J) λh3 J=>rA (nC R (VR.mono Z ha) h1) λx ds m pz I H S hdo hdm=>?_;rw[pz];have gG:=aU h3;have cn:=H.len;refine set_plain (g.X.keeps R.hb) I HC.sa (L_ (g.X.keeps R.hb) I HC.po q.taker HC.hd (aQ [_,_] (.c 1 (.v 0) (.n 800) (.f 1 (.v 0) (.v 1) .nil)) 0 (.v 1) (.n 900) tt gG cn) (FN H) ?_);refine az wd () _ (.refl _) ?_ d6 J;have e':=putName_dict n (PyData.keyHash g.w.params n) (.str n (s.toks+1)) r ds m;refine R.setM S (eg ..) ?_ (HE:=dictOf (putL n (PyData.keyHash g.w.params n) (.str n (s.toks+1)) r ds) (putN n ds m)) ⟨_,_,rfl,L9 (VR.mono Z hv) H⟩;rw[<-e'];exact d_ _ hdo (by rw[e'];rfl)
theorem zE{n:Str}{o:PySem.Expr}{p:Pos}{Wv Wo:ad V}(hv:be g F k e Wv)(ho:be g F k o Wo)(hn:n=n')(HC:rI g.K C)(q:NameK g.K C n')(M:∀d,swapsWith e (some (.Attribute o n p)) pos.line (aK F d)=Pure.pure false):iT g F k (.Assign [.Attribute o n p] e pos) (λσ Q=>Wv σ λv G=>Wo G λa E=>FP C n' a v E λ_ H=>Q .next H):=by subst hn;intro d A af hr s wd σ Q Z R J;refine plainObj_wpAny_Assign_Attribute (bb.go (hv d A af hr) Z R J λu s' D v G h1 h2 h3 h4=>?_) (M d);refine bb.go (ho d A af hr) (Z.trans h1) h2 h4 λr v4 P a E x1 x2 x3 x4=>?_;refine bb.go (DS HC q x3 (VR.mono x1 h3)) (.refl _) x2 x4 λ_ c X _ H y1 O _ y4=>?_;exact az X .next H ((h1.trans x1).trans y1) O rfl y4
theorem H7{n:Str}{o:PySem.Expr}{p:Pos}{We Wo:ad V}{W:V->V->ad V}(LI:sH g op W)(ho:be g F k o Wo)(he:be g F k e We)(hn:n=n')(HC:rI g.K C)(q:NameK g.K C n'):iT g F k (.AugAssign (.Attribute o n p) op e pos) (λσ Q=>Wo σ λa G=>zD C n' a G λz E=>We E λv H=>W z v H λr h=>FP C n' a r h λ_ mZ=>Q .next mZ):=by subst hn;intro d A af hr s wd σ Q Z R J;refine wpAny_AugAssign_AttributeAny (bb.go (ho d A af hr) Z R J λu s' D a G h1 h2 h3 h4=>?_);refine bb.go (DQ HC q h3) (.refl _) h2 h4 λz mw P Qd E x1 x2 x3 x4=>?_;refine bb.go (he d A af hr) ((Z.trans h1).trans x1) x2 x4 λr c X f H y1 O y3 y4=>?_;refine bb.go (LI F d A X Qd f z r (VR.mono y1 x3) y3) (.refl _) O y4 λacD BU ul r' h L z2 z3 z4=>?_;refine bb.go (DS HC q (VR.mono ((x1.trans y1).trans L) h3) z3) (.refl _) z2 z4 λ_ FQ qm _ mZ t1 t2 _ t4=>?_;exact az qm .next mZ ((((h1.trans x1).trans y1).trans L).trans t1) t2 rfl t4
end
theorem my{n:Str}{cs:List (Str×α)}(hn:(cs.map (·.1)).Nodup)(hm:(n,c)∈cs):cs.lookup n=some c:=by
 induction cs with
 |nil=>exact nomatch hm
 |cons p r T=>
  rw[cy,List.nodup_cons] at hn;rw[List.lookup_cons];refine(List.mem_cons.mp hm).elim (λe=>?_) λe=>?_
  ·rw[<-e,beq_self_eq_true]
  ·rw[beq_eq_false_iff_ne.mpr λq:n=p.1=>hn.1 (by rw[<-q];exact List.mem_map_of_mem e)];exact T hn.2 e
theorem qo{a:α}{b:β}(h1:l[i]?=some a)(h2:m[i]?=some b):(a,b)∈l.zip m:=by
 induction l generalizing m i with
 |nil=>exact nS h1
 |cons x l T=>
  cases m with
  |nil=>exact nS h2
  |cons y m=>
   cases i with
   |zero=>rw[<-aq h1,<-aq h2];exact List.mem_cons_self
   |succ i=>exact List.mem_cons_of_mem _ (T h1 h2)
theorem nE(l:List α)(m:List β):((l.zip m).map (·.1)).Sublist l:=by
 induction l generalizing m with
 |nil=>exact .slnil
 |cons a l T=>
  cases m with
  |nil=>exact List.nil_sublist _
  |cons b m=>exact .cons_cons a (T m)
theorem pA{names:List Str}{m:Nat}(hn:names.Nodup)(h1:names[i]?=some x)(h2:us[i]?=some u)(hm:i<m):((names.take m).zip us).reverse.lookup x=some u:=by
 refine my ?_ ?_
 ·rw[gS];exact List.pairwise_reverse.mpr ((((nE _ _).nodup ((List.take_sublist _ _).nodup hn))).imp λh=>bM h)
 ·rw[j_];exact qo (by rw[List.getElem?_take_of_lt hm];exact h1) h2
theorem cK.deeper{bc:Env}(h:cK A (k+1)):cK (A.deeper bc) k:=by
 refine⟨?_,?_,h.handled⟩
 ·have:=h.depth;show A.depth+1+2*k<_;exact aQ [_,_,_] (.c 1 (.a (.a (.v 0) (.m 2 (.a (.v 1) (.n 1)))) (.n 1)) (.v 2) .nil) 0 (.a (.a (.a (.v 0) (.n 1)) (.m 2 (.v 1))) (.n 1)) (.v 2) tt this
 ·have:=h.units;show A.units+3+16*k+80<_;exact aQ [_,_,_] (.c 1 (.a (.a (.a (.v 0) (.m 16 (.a (.v 1) (.n 1)))) (.n 80)) (.n 1)) (.v 2) .nil) 0 (.a (.a (.a (.a (.v 0) (.n 3)) (.m 16 (.v 1))) (.n 80)) (.n 1)) (.v 2) tt this
theorem cK.xi(h:cK A k):A.depth<recursionLimit:=by have:=h.depth;exact aQ [_,_,_] (.c 1 (.a (.a (.v 0) (.m 2 (.v 1))) (.n 1)) (.v 2) .nil) 0 (.a (.v 0) (.n 1)) (.v 2) tt this
theorem cK.Qe(h:cK A k):A.units<cLine:=by have:=h.units;exact aQ [_,_,_] (.c 1 (.a (.a (.a (.v 0) (.m 16 (.v 1))) (.n 80)) (.n 1)) (.v 2) .nil) 0 (.a (.v 0) (.n 1)) (.v 2) tt this
def cz(g:G)(k:Nat)(f:Value)(W:List V->ad V):Prop:=∀(F:df)(d:g_)(A:Around)(af:Wd)(vs:List V)(us:List Value),cK A k->aE (VR af) vs us->bb g F d A af pw (call f us []) (W vs)
def H8(g:G)(F:df)(d:g_)(wd:Wd)(Q:V->St->Prop):Result->Shared->Prop:=λr s'=>match r with| .ok (.ret v)=>iy g F d pw wd Q v s'| .ok _=>False| .error _=>False
def cO(g:G)(k:Nat)(f:Value)(W:List V->ad V):Prop:=∀(F:df)(d:g_)(A:Around)(af:Wd)(vs:List V)(us:List Value),cK A k->aE (VR af) vs us->∀(s:Shared)(wd:Wd)(σ:St)(Q:V->St->Prop),Wd.Le af wd->bU g F d wd σ s->W vs σ Q->
  codeAny (model g.prog g.w) A (.call f ⟨us,[]⟩) (H8 g F d wd Q) s
theorem cO.ok{g:G}{W:List V->ad V}(h:cO g k f W):cz g k f W:=λF d A af vs us hr D s wd σ Q Z R J=>fh (h F d A af vs us hr D s wd σ Q Z R J)
noncomputable def nF:Fl->V
 | .ret v=>v
 |_=>.none
noncomputable def iA(m:Nat)(vs:List V):List (Option V):=vs.map some++List.replicate m none
theorem rJ{w:Wd}{m:Nat}{vs:List V}{v:V}(D:aE (VR w) vs us)(e:(iA m vs)[i]?=some (some v)):i<vs.length/\∃u,us[i]?=some u/\VR w v u:=by
 unfold iA at e;have hi:=Nat.lt_of_not_le λk=>by rw[List.getElem?_append_right (by rw[ax];exact k)] at e;exact nomatch (List.mem_replicate.mp (ef e)).2
 rw[List.getElem?_append_left (by rw[ax];exact hi),bi] at e;exact⟨hi,bx (Option.map_eq_some_iff.mp e) λf Tz e3=>D.get (aq e3▸Tz)⟩
theorem zF{L:Addr}{m:Str->Option Value}(hn:h.Ns L m)(ho:h.get? L=some o):¬ Perm o:=λp=>
 jb hn λo' es ep h1 h2 _=>by
 have e:=aq (ho.symm.trans h1);refine p.elim (λp=>w8 p λzs n p=>?_) λp=>xE p λq p=>dB p λvs t e1 e2=>?_
 ·rw[<-e,p] at h2;exact nomatch h2
 ·rw[<-e,e1] at h2;exact nomatch h2
section
variable {g:G}{F:df}
theorem bU.enter{F':df}{d c:g_}{wd:Wd}{σ:St}(R:bU g F d wd σ s)(ho:s.heap.get? d.L=some o){iz:Heap}{tk:Nat}{f:Str->Option Value}{loc:List (Option V)}(S:c.L=s.heap.objs.size) (y:iz.Ns c.L f) (hk:∀b ob,s.heap.get? b=some ob->iz.get? b=some ob) (hm:zt F' (wd.jn d.L o) loc f):bU g F' c (wd.jn d.L o) {loc:=loc,ix:=[],mem:=σ.mem} {s with heap:=iz,toks:=tk}:=by
 have lC:s.heap.get? c.L=none:=by rw[S];exact c5 _
 have M:=(R.mem.jn ho R.pv R.kR);refine⟨M.keeps hk,⟨f,y,hm⟩,λi x l _ e=>by simp at e,?_,λl Z e=>?_,R.gens,R.os⟩
 ·cases q:(wd.jn d.L o).fz c.L with
  |none=>rfl
  |some ob=>have:=M.rF _ _ q;rw[lC] at this;exact nS this
 ·obtain⟨ob,h1,_⟩:=M.own l (σ.mem[l]'(by rw[<-M.len];exact Z)) (bC _);have h1:=h1;have e:=e;rw[e,lC] at h1;exact nS h1
theorem bU.leave{F':df}{d c:g_}{wd bg:Wd}{σ a9:St}(R:bU g F d wd σ s)(ho:s.heap.get? d.L=some o)(R':bU g F' c bg a9 s')(Z:Wd.Le (wd.jn d.L o) bg):bU g F d (bg.jS d.L) {σ with mem:=a9.mem} s':=by
 refine bx (R.loc) λm hn hm=>?_;have j:=Wd.P5 Z;have k6:=R'.mem.rF _ _ j;have gG:=Wd.oN R.pv Z;refine⟨R'.mem.jS (λo' e=>?_) ?_,⟨m,?_,hm.mono gG⟩,R.ix.mono gG,a6 rfl,λl dP e=>?_,R'.gens,R'.os⟩
 ·rw[j] at e;obtain rfl:=aq e;exact zF hn ho
 ·cases q:g.hb.get? d.L with
  |none=>rfl
  |some ob=>have:=R.mem.base _ _ q;rw[R.pv] at this;exact nS this
 ·refine mX hn λoo es ep h1 h2=>?_;try clear hn
  rw[ho] at h1;obtain rfl:=aq h1;exact⟨o,es,ep,k6,h2⟩
 ·have h1:=R'.mem.new l dP;have e:bg.ρ l=d.L:=e;rw[e,j] at h1;exact LG h1
theorem zH{F':df}{Wb:ad Fl}(hb:kT g F' k body Wb){f:Addr}{name:Str}{dV kV fw pm ct oc:Value}{an od:Option Addr}(ho:g.K.lookup f=some ⟨oc,od,.func (fnOf name qn params body F'.scope dV kV fw pm an F'.cd ct),zp⟩) (Qf:codeIn g.K F'.cd qn=true) (Y:F'.qual=qn++".<locals>.")(nc:F'.names.Nodup) (xj:∀x∈F'.names,F'.scope.names.lookup x=some .local) (qp:∀x∈F'.scope.names,x.2≠ .cell)(E:F'.scope.isCoroutine=false) (H:F'.scope.isGenerator=false) (hk:F'.scope.kind= .function){d:g_} {vs:List V} {args:Args} {wd:Wd} {σ:St} {Q:V->St->Prop} {m:Nat} (hr:cK A (k+1)) (D:aE (VR wd) vs us) (hm:vs.length<=m)(Qg:BindsTo s (fnOf name qn params body F'.scope dV kV fw pm an F'.cd ct) args ((F'.names.take m).zip us)) (R:bU g F d wd σ s)(J:Wb ⟨iA F'.names.length vs,[],σ.mem⟩ λfl a9=>Q (nF fl) {σ with mem:=a9.mem}):codeAny (model g.prog g.w) A (.call (.ref f) args) (H8 g F d wd Q) s:=by
 refine xE (R.there) λU W=>?_;refine(codeAny_call_def hr.xi ((g.X.keeps R.hb) _ _ ho) rfl (g.T.nolimit.keeps R.hb) (codeRec_of (g.X.keeps R.hb) Qf) rfl Qg qp
  (λx B=>xj _ (oH (List.of_mem_zip B).1)) (λiz y um=>?_) E H hk)
 have R1:bU g F' ⟨s.heap.objs.size,some f,some s.heap.objs.size,[]⟩ (wd.jn d.L U) ⟨iA F'.names.length vs,[],σ.mem⟩ {s with heap:=iz,toks:=s.toks+((F'.names.take m).zip us).length}:=by refine R.enter W rfl y um λi x v e1 e2=>?_;exact jy (rJ (D.mono λ_ _ h=>VR.jn h) e2) λhi u N Ma=>⟨u,pA nc e1 N (dA hi hm),Ma⟩
 have ee:callEnv (fnOf name qn params body F'.scope dV kV fw pm an F'.cd ct) s.heap.objs.size f=aK F' ⟨s.heap.objs.size,some f,some s.heap.objs.size,[]⟩:=by unfold aK;rw[Y];rfl
 rw[ee];refine bb.go (hb ⟨s.heap.objs.size,some f,some s.heap.objs.size,[]⟩ _ (wd.jn d.L U) hr.deeper) (.refl _) R1 J λfl s' bg Mb a9 x1 x2 x3 x4=>?_;refine az (bg.jS d.L) (nF Mb) _ (Wd.oN R.pv x1) (R.leave W x2 x1) ?_ x4;cases Mb with
 |ret v=>exact bx x3 λu e hv=>by rw[e];exact VR.jS hv
 |next=>rw[x3];rfl
 |brk=>rw[x3];rfl
 |cont=>rw[x3];rfl
theorem Mc{F':df}{Wb:ad Fl}(hb:kT g F' k body Wb){f:Addr}{name:Str}{dV kV fw pm ct oc:Value}{an od:Option Addr}(ho:g.K.lookup f=some ⟨oc,od,.func (fnOf name qn params body F'.scope dV kV fw pm an F'.cd ct),zp⟩) (Qf:codeIn g.K F'.cd qn=true) (Y:F'.qual=qn++".<locals>.") (n:Nat) (dflt:List V)(m:∀(s:Shared)(us:List Value),g.K.In s.heap->us.length=n->∃ds,(∀wd,aE (VR wd) dflt ds)/\BindsTo s (fnOf name qn params body F'.scope dV kV fw pm an F'.cd ct) ⟨us,[]⟩ ((F'.names.take (n+dflt.length)).zip (us++ds)))(nc:F'.names.Nodup) (xj:∀x∈F'.names,F'.scope.names.lookup x=some .local) (qp:∀x∈F'.scope.names,x.2≠ .cell)(E:F'.scope.isCoroutine=false) (H:F'.scope.isGenerator=false) (hk:F'.scope.kind= .function):cO g (k+1) (.ref f) (λvs σ Q=>gd (Nat.beq vs.length n) (Wb ⟨iA F'.names.length (vs++dflt),[],σ.mem⟩ λfl a9=>Q (nF fl) {σ with mem:=a9.mem})):=by intro F d A af vs us hr D s wd σ Q Z R J;refine xA (aL J) λh1 J=>?_;have hn:=bK h1;have cn:=D.len;refine bx (m s us (g.X.keeps R.hb) (fB [_,_,_] (.e 1 (.v 0) (.v 1) (.f 1 (.v 0) (.v 2) .nil)) 0 (.v 2) (.v 1) tt tt hn cn)) λds G Qg=>?_;exact zH hb ho Qf Y nc xj qp E H hk hr ((D.mono λ_ _ h=>VR.mono Z h).append (G wd)) (by rw[ak,hn];exact aF _) Qg R J
theorem jU{args:List (Bool×Sem Value)}{Q:Args->Shared->Prop}(h:args.any (·.1)=false)(x:wpAny M A (spliced args) (λvs s'=>Q ⟨vs,[]⟩ s') E s):wpAny M A (evalArgs f true args []) Q E s:=by
 cases args with
 |nil=>unfold evalArgs;refine(?_ :wpAny M A (spliced []>>=_) Q E s);refine U (a_ x (λvs s' h'=>?_) λ_ _ x=>x);refine bq ?_;exact U (aj (U (aj (aj h'))))
 |cons p aD=>obtain⟨b,t⟩:=p;rw[kj,Bool.or_eq_false_iff] at h;obtain rfl:b=false:=h.1;exact evalArgs_plain x
def jH(M:Model)(h:Heap)(f:Value):Prop:=∃k,(k=Keeper.frame\/k=Keeper.machine\/k=Keeper.boundFrame)/\Looks M h (keeperOf f) k
theorem fW{T:String}:jH M h (.type T):=⟨.machine,.inr (.inl rfl),Looks.of_pure rfl⟩
theorem aX{i:String}:jH M h (.builtin i):=⟨.machine,.inr (.inl rfl),Looks.of_pure rfl⟩
theorem H9(hk:keepIn g.K f=true)(X:g.K.In h):jH M h f:=keeps_K hk h X
theorem jV{wa:ad (List V)}(ha:rG g F k args wa)(i:∀bc pos,((backTo pos (starEach args bc)).any (·.1))=false){d:g_}{af:Wd}{first:List Value}{W:List V->ad V} (hr:cK A k)(N:∀wd σ s vs (Q:V->St->Prop),Wd.Le af wd->bU g F d wd σ s->W vs σ Q->jH (model g.prog g.w) s.heap f)(hc:∀wd vs us,Wd.Le af wd->aE (VR wd) vs us->bb g F d A wd pw (call f (first++us) []) (W vs)):bb g F d A af pw (callWith pos f first (backTo pos (starEach args (aK F d))) []) (λσ Q=>wa σ λvs a9=>W vs a9 Q):=by intro s wd σ Q Z R J;refine callWith_of (by rw[i];rfl) (λh x=>x) (jU (i _ _) ?_);refine bb.go (ha d A af pos hr) Z R J λus s' bg vs a9 h1 h2 h3 h4=>?_;refine⟨N bg a9 s' vs Q (Z.trans h1) h2 h4,?_⟩;refine bb.go (hc bg vs us (Z.trans h1) h3) (.refl _) h2 h4 λr v4 o r' m y1 O y3 y4=>?_;exact az o r' m (h1.trans y1) O y3 y4
theorem Ui{p:Pos}{wa:ad (List V)}{W:List V->ad V}(S:be g F k (.Name x p) (eH (.e_ f)))(ha:rG g F k args wa)(N:∀M h,g.K.In h->jH M h f) (hc:cz g k f W) (i:∀bc pos,((backTo pos (starEach args bc)).any (·.1))=false):be g F k (.Call (.Name x p) args [] pos) (λσ Q=>wa σ λvs a9=>W vs a9 Q):=by
 intro d A af hr;refine(?_ :bb g F d A af pw (do callWith pos (<-eval (.Name x p) (aK F d)) [] (backTo pos (starEach args (aK F d))) []) _);refine bb.conv (W:=λσ Q=>eH (.e_ f) σ λt G=>wa G λvs a9=>W vs a9 Q) ?_ (λσ Q h=>h)
 refine bb.bind (RA:=λ_ _ u=>u=f) ?_ λwd u a Z D=>?_
 ·intro s wd σ Q Z R J;refine a_ (S d A af hr s wd σ (λb a9=>b= .e_ f/\Q b a9) Z R ⟨rfl,J⟩) (λu s' y=>?_) λ_ _ y=>y;refine gX y λbg b a9 y1 O y3 P y4=>?_;try clear y
  obtain rfl:=P;exact az bg _ a9 y1 O y3 y4
 ·subst D;refine jV ha i hr (λbg σ s vs Q _ R _=>N _ _ (g.X.keeps R.hb)) λbg vs us j YD=>?_;exact hc F d A bg vs us hr YD
set_option genCtorIdx true in
inductive Ty where
 |str|list|dict|set|tup
noncomputable def Ty.name:Ty->String
 | .str=>"str"
 | .list=>"list"
 | .dict=>"dict"
 | .set=>"set"
 | .tup=>"tuple"
noncomputable def tyS(mem:List O)(v:V)(T:Ty):Bool:=match T with
 | .str=>v.sv.isSome
 | .list=>(v.lo.bind λl=>(mem[l]?).bind O.ls).isSome
 | .dict=>(v.lo.bind λl=>(mem[l]?).bind O.di).isSome
 | .set=>(v.lo.bind λl=>(mem[l]?).bind O.se).isSome
 | .tup=>(v.lo.bind λl=>(mem[l]?).bind O.tu).isSome
noncomputable def v6(mem:List O)(a:V)(T:Ty):Bool:=tyS mem a T
theorem Md{d:g_}{wd:Wd}{σ:St}(R:bU g F d wd σ s){a:V}(ha:VR wd a u){T:Ty}(h:v6 σ.mem a T=true):s.TypeIs u T.name/\∀x,u= .ref x->∃o,s.heap.get? x=some o/\o.dict=none:=by
 have at_:∀{α:Type}{f:O->Option α}{T:String},(∀{o x ob},f o=some x->OR g wd o ob->ob.cls= .type T/\ob.dict=none)->(a.lo.bind λl=>(σ.mem[l]?).bind f).isSome=true->
  s.TypeIs u T/\∀x,u= .ref x->∃o,s.heap.get? x=some o/\o.dict=none:=λS h=>
  qd h λx e=>aI e λl e e'=>aI e' λo e1 e2=>jy (R.get e1) λ_ ob ho i=>by rw[V.lB e] at ha;rw[ha.2];exact⟨⟨ob,ho,(S e2 i).1⟩,λx e=>⟨ob,i9 e▸ho,(S e2 i).2⟩⟩
 cases T with
 |str=>exact qd h λy e=>by rw[V.pu e] at ha;exact xE ha λt ha=>by rw[ha];exact⟨typeIs_str s y t,λ_ e=>nomatch e⟩
 |list=>exact at_ (λe h=>by rw[O.ue e] at h;exact dB h λ_ _ h _=>by rw[h];exact⟨rfl,rfl⟩) h
 |dict=>exact at_ (λe h=>by rw[O.BM e] at h;exact dB h λ_ _ h _=>by rw[h];exact⟨rfl,rfl⟩) h
 |set=>exact at_ (λe h=>by rw[O.BJ e] at h;exact h.2) h
 |tup=>exact at_ (λe h=>by rw[O.BL e] at h;exact dB h λ_ _ h _=>by rw[h];exact⟨rfl,rfl⟩) h
def fQ(o:PySem.Expr)(n:Str)(ap:Pos)(args:List PySem.Expr)(pos:Pos):Prop:=∀bc,∃pl,eval (.Call (.Attribute o n ap) args [] pos) bc=(do
  let b <-eval o bc
  standAt ap.atName
  let (f,first) <-holding [b] (getMethod b n pl)
  callWith pos f first (backTo pos (starEach args bc)) [])
theorem Qh{o:PySem.Expr}{n:Str}{ap:Pos}{Wo:ad V}{wa:ad (List V)}{W:List V->ad V}(T:Ty){id:String}(ho:be g F k o Wo)(ha:rG g F k args wa)(f:PlainAttrs T.name) (nG:Slot T.name n id) (YE:typeOf (.builtin id)=Pure.pure (.type "method_descriptor")) (hc:cz g k (.builtin id) W)(l:fQ o n ap args pos) (i:∀bc pos,((backTo pos (starEach args bc)).any (·.1))=false):be g F k (.Call (.Attribute o n ap) args [] pos) (λσ Q=>Wo σ λb G=>gd (v6 G.mem b T) (wa G λvs E=>W (b::vs) E Q)):=by intro d A af hr;refine xE (l (aK F d)) λpl he=>?_;rw[he];refine bb.bind (ho d A af hr) λwd u b Z D=>bb.standAt ?_;intro s bg σ Q j R J;refine xA (aL J) λYF J=>?_;refine xA (Md R (VR.mono j D) YF) λt1 t2=>?_;refine U (bq (getMethod_builtin t1 f nG YE t2 ?_));refine jV ha i hr (λ_ _ _ _ _ _ _ _=>aX) (λP vs us q H_=>?_) s bg σ Q j R J;exact hc F d A P (b::vs) (u::us) hr (.cons (VR.mono q D) H_)
theorem Qi{o:PySem.Expr}{n:Str}{ap:Pos}{Wo:ad V}{wa:ad (List V)}{W:List V->ad V}(C:Addr){f:Addr}(ho:be g F k o Wo)(ha:rG g F k args wa)(hn:n=n')(HC:rI g.K C) (S:findIn g.K (.ref C) n'=some (some (.ref f))) (Uj:typeIn g.K (.ref f)=some (.type "function")) (Uk:keepIn g.K (.ref f)=true) (hc:cz g k (.ref f) W)(l:fQ o n ap args pos) (i:∀bc pos,((backTo pos (starEach args bc)).any (·.1))=false):be g F k (.Call (.Attribute o n ap) args [] pos) (λσ Q=>Wo σ λb G=>aA (d4 C G.mem b) λp=>gd (eK n' p.2).isNone (wa G λvs E=>W (b::vs) E Q)):=by subst hn;intro d A af hr;refine xE (l (aK F d)) λpl he=>?_;rw[he];refine bb.bind (ho d A af hr) λwd u b Z D=>bb.standAt ?_;intro s bg σ Q j R J;refine ah J λp h1 J=>xA (aL J) λh2 J=>fZ (nC R (VR.mono j D) h1) λx ds m pz I H _=>?_;rw[pz] at D ⊢;have nH:=(tM H).2 (by simpa using h2);refine U (bq (method_fn (g.X.keeps R.hb) I HC.ga HC.gt S Uj (by show(lookIn n (dictOf ds m)).map _=_;rw[lookIn_dict,nH];rfl) ?_));refine jV ha i hr (λ_ _ s _ _ _ R _=>H9 Uk (g.X.keeps R.hb)) (λP vs us q H_=>?_) s bg σ Q j R J;exact hc F d A P (b::vs) (.ref x::us) hr (.cons (VR.mono q D) H_)
end
noncomputable def Wd.jA(wd:Wd)(d7:List Addr)(h:Heap):Wd:=⟨wd.ρ,wd.n,λx=>if x∈d7 then h.get? x else wd.fz x⟩
noncomputable def Wd.d5(wd:Wd)(d7:List Addr):Wd:=⟨wd.ρ,wd.n,λx=>if x∈d7 then none else wd.fz x⟩
structure jB(g:G)(d:g_)(wd:Wd)(d7:List Addr):Prop where
 fz:∀x∈d7,wd.fz x=none
 own:∀x∈d7,∀l,l<wd.n->wd.ρ l≠x
 L:d.L∉d7
 hb:∀x∈d7,g.hb.get? x=none
section
variable {g:G}{F:df}{d:g_}{wd bg:Wd}{σ a9:St}
theorem jB.le(H:jB g d wd d7)(h:Heap):Wd.Le wd (wd.jA d7 h):=⟨aF _,λ_ _=>rfl,λx o e=>by
  have ne:x∉d7:=λq=>by rw[H.fz x q] at e;exact nS e
  refine(?_ :(if x∈d7 then h.get? x else wd.fz x)=some o);rw[aH ne];exact e⟩
theorem jB.le'(H:jB g d wd d7)(Z:Wd.Le (wd.jA d7 h) bg):Wd.Le wd (bg.d5 d7):=⟨Z.n,Z.ρ,λx o e=>by
  have ne:x∉d7:=λq=>by rw[H.fz x q] at e;exact nS e
  refine(?_ :(if x∈d7 then none else bg.fz x)=some o);rw[aH ne];exact Z.fz x o (by show(if x∈d7 then h.get? x else wd.fz x)=some o;rw[aH ne];exact e)⟩
theorem jB.at(H:jB g d wd d7)(Z:Wd.Le (wd.jA d7 h) bg){x:Addr}(B:x∈d7)(ho:h.get? x=some o):bg.fz x=some o:=Z.fz x o (by show(if x∈d7 then h.get? x else wd.fz x)=some o;rw[a6 B];exact ho)
theorem VR.jA{v:V}(x:VR wd v u):VR (wd.jA d7 h) v u:=x.map (aF _) λ_ _=>rfl
theorem VR.d5{v:V}(x:VR wd v u):VR (wd.d5 d7) v u:=x.map (aF _) λ_ _=>rfl
theorem OR.d5(ha:∀x∈d7,∀o,wd.fz x=some o->¬ Perm o){v:O}(x:OR g wd v o):OR g (wd.d5 d7) v o:=OR.map (a:=wd) (b:=wd.d5 d7) (aF _) (λ_ _=>rfl) (x:=x) λc o h p=>by refine(?_ :(if c∈d7 then none else wd.fz c)=_);rw[aH λq=>ha c q _ h p];exact h
theorem bU.other(R:bU g F d wd σ s)(H:jB g d wd d7)(k:∀b o,b∉d7->s.heap.get? b=some o->s'.heap.get? b=some o)(h1:s'.gens=s.gens:=by rfl)(h2:s'.os=s.os:=by rfl):bU g F d wd σ s':=by
 refine bx (R.loc) λm hn hm=>?_;refine⟨⟨R.mem.len,λa o e=>k a o (λq=>?_) (R.mem.rF a o e),R.mem.base,λl o e=>?_,R.mem.low,R.mem.inj,R.mem.new,R.mem.tabs⟩,⟨m,?_,hm⟩,R.ix,R.pv,R.kR,h1.trans R.gens,h2.trans R.os⟩
 ·rw[H.fz a q] at e;exact nS e
 ·refine jy (R.get e) λZ ob x1 x2=>?_;exact⟨ob,k _ _ (λq=>H.own _ q l Z rfl) x1,x2⟩
 ·refine mX hn λo es ep x1 x2=>?_;try clear hn
  exact⟨o,es,ep,k _ _ H.L x1,x2⟩
theorem bU.jA(R:bU g F d wd σ s)(H:jB g d wd d7)(B:∀x∈d7,∃o,s.heap.get? x=some o):bU g F d (wd.jA d7 s.heap) σ s:=by
 have Z:=H.le s.heap;refine bx (R.loc) λm hn hm=>?_;refine⟨⟨R.mem.len,λa o e=>?_,λb ob e=>Z.fz b ob (R.mem.base b ob e),λl o e=>bx (R.mem.own l o e) λob h1 h2=>⟨ob,h1,h2.mono Z⟩,R.mem.low,R.mem.inj,λl dP=>?_,R.mem.tabs.mono Z⟩,⟨m,hn,hm.mono Z⟩,R.ix.mono Z,?_,R.kR,R.gens,R.os⟩
 ·by_cases q:a∈d7
  ·have:(wd.jA d7 s.heap).fz a=s.heap.get? a:=a6 q;rw[this] at e;exact e
  ·have:(wd.jA d7 s.heap).fz a=wd.fz a:=aH q;rw[this] at e;exact R.mem.rF a o e
 ·refine(?_ :(if wd.ρ l∈d7 then s.heap.get? (wd.ρ l) else wd.fz (wd.ρ l))=none);rw[aH (λq=>H.own _ q l dP rfl)];exact R.mem.new l dP
 ·refine(?_ :(if d.L∈d7 then s.heap.get? d.L else wd.fz d.L)=none);rw[aH H.L];exact R.pv
theorem bU.d5(R:bU g F d wd σ s)(H:jB g d wd d7)(B:∀x∈d7,∃o,s.heap.get? x=some o/\¬ Perm o)(R':bU g F d bg a9 s')(Z:Wd.Le (wd.jA d7 s.heap) bg):bU g F d (bg.d5 d7) a9 s'/\jB g d (bg.d5 d7) d7/\∀x∈d7,∀o,s.heap.get? x=some o->s'.heap.get? x=some o:=by
 have j:∀x∈d7,∀o,s.heap.get? x=some o->bg.fz x=some o:=λx q o ho=>H.at Z q ho;have sub:∀x o,(bg.d5 d7).fz x=some o->bg.fz x=some o:=λx o e=>by
  by_cases q:x∈d7
  ·have:(bg.d5 d7).fz x=none:=a6 q;rw[this] at e;exact nS e
  ·have:(bg.d5 d7).fz x=bg.fz x:=aH q;rw[this] at e;exact e
 have Oz:∀x∈d7,∀l,l<bg.n->bg.ρ l≠x:=λx q l dP e=>by refine bx (B x q) λo ho _=>?_;have h1:=R'.mem.new l dP;rw[e,j x q o ho] at h1;exact LG h1
 have YG:∀x∈d7,∀o,bg.fz x=some o->¬ Perm o:=λx q o e=>bx (B x q) λo' k6 k=>aq ((j x q o' k6).symm.trans e)▸k;have le':Wd.Le (bg.d5 d7) bg:=⟨aF _,λ_ _=>rfl,sub⟩;refine bx (R'.loc) λm hn hm=>?_;refine⟨⟨⟨R'.mem.len,λa o e=>R'.mem.rF a o (sub a o e),λb ob e=>?_,λl o e=>bx (R'.mem.own l o e) λob h1 h2=>⟨ob,h1,OR.d5 YG h2⟩,R'.mem.low,R'.mem.inj,λl dP=>?_,λi P e=>R'.mem.tabs i P e⟩,
  ⟨m,hn,λi x v e1 e2=>bx (hm i x v e1 e2) λu h1 h2=>⟨u,h1,VR.d5 h2⟩⟩,R'.ix,?_,R'.kR,R'.gens,R'.os⟩,⟨λx q=>a6 q,Oz,H.L,H.hb⟩,λx q o ho=>R'.mem.rF x o (j x q o ho)⟩
 ·have ne:b∉d7:=λq=>by rw[H.hb b q] at e;exact nS e
  have:(bg.d5 d7).fz b=bg.fz b:=aH ne;rw[this];exact R'.mem.base b ob e
 ·refine(?_ :(if bg.ρ l∈d7 then none else bg.fz (bg.ρ l))=none);rw[aH (λq=>Oz _ q l dP rfl)];exact R'.mem.new l dP
 ·refine(?_ :(if d.L∈d7 then none else bg.fz d.L)=none);rw[aH H.L];exact R'.pv
theorem jB.fresh(R:bU g F d wd σ s)(S:∀x∈d7,s.heap.get? x=none):jB g d wd d7:=by
 refine⟨λx q=>?_,λx q l Z e=>?_,λq=>?_,λx q=>?_⟩
 ·cases h:wd.fz x with
  |none=>rfl
  |some o=>have:=R.mem.rF x o h;rw[S x q] at this;exact nS this
 ·obtain⟨ob,h1,_⟩:=R.mem.own l (σ.mem[l]'(by rw[<-R.mem.len];exact Z)) (bC _);rw[e,S x q] at h1;exact nS h1
 ·refine xE (R.there) λo ho=>?_;rw[S _ q] at ho;exact nS ho
 ·cases h:g.hb.get? x with
  |none=>rfl
  |some o=>have:=R.hb x o h;rw[S x q] at this;exact nS this
end
section
variable {g:G}{F:df}
def qq(g:G)(F:df)(k:Nat)(t:PySem.Expr)(W:V->ad Unit):Prop:=∀d A af v u,cK A k->VR af v u->bb g F d A af td (assign t (aK F d) u) (W v)
theorem BV(i:Nat){p:Pos}(B:F.names[i]?=some x)(nc:F.names.Nodup)(hk:F.scope.kind= .function)(Z:∀d,(aK F d).kindOf x=some .local):qq g F k (.Name x p) (λv σ Q=>Q () (σ.nf i v)):=by intro d A af v u hr hv s wd σ Q j R J;exact wpAny_assign_Name (kz hv B nc hk (Z d) s wd σ Q j R J)
structure FS(g:G)(A:Around)(it:Addr)(d7:List Addr){β:Type}(RI:Wd->β->Value->Prop)(S:Wd->Nat->Heap->Prop)(cL:Mine.St->Nat->Option (Option β)):Prop where
 step:∀(F:df)(d:g_)(wd:Wd)(σ:Mine.St)(i:Nat)(s:Shared)(v:β)(Q:Option Value->Shared->Prop)(E:Value->Shared->Prop),bU g F d wd σ s->jB g d wd d7->S wd i s.heap->cL σ i=some (some v)->
  (∀u s' bg,RI bg v u->Wd.Le wd bg->bU g F d bg σ s'->jB g d bg d7->S bg (i+1) s'.heap->Q (some u) s')->wpAny (model g.prog g.w) A (pyNext (.ref it)) Q E s
 stop:∀(F:df)(d:g_)(wd:Wd)(σ:Mine.St)(i:Nat)(s:Shared)(Q:Option Value->Shared->Prop)(E:Value->Shared->Prop),bU g F d wd σ s->jB g d wd d7->S wd i s.heap->cL σ i=some none->
  (∀s',bU g F d wd σ s'->Q none s')->wpAny (model g.prog g.w) A (pyNext (.ref it)) Q E s
 stay:∀wd bg i h h',S wd i h->Wd.Le wd bg->(∀x∈d7,∀o,h.get? x=some o->h'.get? x=some o)->S bg i h'
 live:∀wd i h,S wd i h->∀x∈d7,∃o,h.get? x=some o/\¬ Perm o
 owned:∀(F:df)(d:g_)(wd:Wd)(σ:Mine.St)(i:Nat)(s:Shared)(target:PySem.Expr)(u:Value)(Q:Unit->Shared->Prop)(E:Value->Shared->Prop),bU g F d wd σ s->jB g d wd d7->S wd i s.heap->
  (∀s',bU g F d wd σ s'->S wd i s'.heap->Q () s')->wpAny (model g.prog g.w) A (letOwnedTupleGo target (.ref it) u) Q E s
def sI(W:ad β)(Q:β->St->Prop)(_:α)(σ:St):Prop:=W σ Q
def gr(cL:St->Nat->Option (Option β))(As:β->ad Unit)(Wb:ad Fl):Nat->Nat->St->(Fl->St->Prop)->Prop
 |0,_,_,_=>False
 |n+1,i,σ,Q=>aA (cL σ i) λo=>match o with
  |none=>Q .next σ
  |some b=>As b σ (sI Wb (P6 (λE=>gr cL As Wb n (i+1) E Q) Q))
def Me(g:G)(F:df)(d:g_)(S:Wd->Nat->Heap->Prop)(d7:List Addr)(cL:St->Nat->Option (Option β))(As:β->ad Unit)(Wb:ad Fl)(wd:Wd)(Q:Fl->St->Prop)(n:Nat)(s:Shared):Prop:=∃bg σ i,Wd.Le wd bg/\bU g F d bg σ s/\jB g d bg d7/\S bg i s.heap/\gr cL As Wb n i σ Q
theorem sJ{it:Addr}{RI:Wd->β->Value->Prop}{S:Wd->Nat->Heap->Prop}{cL:St->Nat->Option (Option β)}(I:FS g A it d7 RI S cL)(Ul:∀wd bg b u,Wd.Le wd bg->RI wd b u->RI bg b u){d:g_} {af:Wd} {As:β->ad Unit} {Wb:ad Fl} (hr:cK A k)(ha:∀af b u,RI af b u->bb g F d A af td (assign target (aK F d) u) (As b)) (hb:kT g F k body Wb) {wd:Wd} {σ:St} {Q:Fl->St->Prop} (gG:Wd.Le af wd) (R:bU g F d wd σ s) (H:jB g d wd d7) {BW:Nat} (G:S wd BW s.heap)(J:∃n,gr cL As Wb n BW σ Q):wpAny (model g.prog g.w) A (runOwn (.forLoop target (.ref it) body [] (aK F d)) (aK F d)) (iy g F d Tw wd Q) yV s:=by
 refine xE J λn J=>?_;refine wpAny_runOwn ?_;refine(?_ :codeAny (model g.prog g.w) A _ _ s);refine fL (codeAny_forLoop_any (R:=Xw g F d wd Q) (Me g F d S d7 cL As Wb wd Q) ?_ n ⟨wd,σ,BW,.refl _,R,H,G,J⟩) λr s' x=>by cases r<;>first|exact x|exact x.elim
 intro n s hI;refine gX hI λD σ i h1 R H G J=>?_;cases n with
 |zero=>exact J.elim
 |succ n=>
  refine ah J λo ho J=>?_;cases o with
  |none=>exact I.stop F d D σ i s _ _ R H G ho λs' R'=>hV (az D .next σ h1 R' rfl J)
  |some b=>
   refine I.step F d D σ i s b _ _ R H G ho λu s' P N q R₂ H₂ a=>?_;refine I.owned F d P σ (i+1) s' target u _ _ R₂ H₂ a λc Ia uo=>?_;have nI:=I.live _ _ _ uo;have R₄:=Ia.jA H₂ λx B=>bx (nI x B) λo ho _=>⟨o,ho⟩;refine bb.go (ha (P.jA d7 c.heap) b u (Ul _ _ _ _ (H₂.le c.heap) N)) (.refl _) R₄ J λ_ FQ qm _ mZ x1 x2 _ x4=>?_;refine bb.go (hb d A (P.jA d7 c.heap) hr) x1 x2 x4 λf zJ k7 j t y1 O y3 y4=>?_;refine t_ (Ia.d5 H₂ nI O (x1.trans y1)) λt1 t2 t3=>?_;have sK:=H₂.le' (x1.trans y1);have Ib:=(h1.trans q).trans sK;have go:gr cL As Wb n (i+1) t Q->Me g F d S d7 cL As Wb wd Q n zJ:=λh=>⟨k7.d5 d7,t,i+1,Ib,t1,t2,I.stay _ (k7.d5 d7) _ _ zJ.heap uo sK t3,h⟩;cases j with
   |next=>rw[y3];exact⟨n,er _,go y4⟩
   |cont=>rw[y3];exact⟨n,er _,go y4⟩
   |brk=>rw[y3];exact az (k7.d5 d7) .next t Ib t1 rfl y4
   |ret v=>exact bx y3 λu' e hv=>e.symm▸az (k7.d5 d7) (.ret v) t Ib t1 ⟨u',rfl,VR.d5 hv⟩ y4
theorem fc{c:Bool}{a b:Sem α}{Q:α->Shared->Prop}(hc:c=false)(h:wpAny M A b Q E s):wpAny M A (if c=true then a else b) Q E s:=by subst hc;exact h
theorem pB{it:Addr}{Q:Unit->Shared->Prop}(ho:s.heap.get? it=some o){T:String}(hc:o.cls= .type T)(y:(["enumerate","zip","dict_itemiterator","dict_reverseitemiterator","odict_iterator","itertools.zip_longest","itertools.pairwise"]:List String).contains T=false) (h:Q () s):wpAny M A (letOwnedTupleGo target (.ref it) u) Q E s:=by
 have key:∀e n p,wpAny M A (letOwnedTupleGo (.Tuple e n p) (.ref it) u) Q E s:=λe n p=>by
  cases u with
  |ref a=>
   refine(?_ :wpAny M A (load it>>=_) Q E s);refine U (wpAny_load ho ?_);cases o with
   |mk cls dict data slots=>
    rw[show cls= .type T from hc];cases data with
    |fields vs=>exact fc (by rw[y];rfl) (aj h)
    |_=>exact aj h
  |_=>exact aj h
 cases target with
 |Tuple e n p=>exact key e n p
 |List e p=>exact key e 0 p
 |_=>exact aj h
noncomputable def sL(o:Option O):Option (List V):=o.bind O.ls
noncomputable def bj(l:Nat)(σ:St)(i:Nat):Option (Option V):=(sL σ.mem[l]?).bind λxs=>some xs[i]?
theorem mz{l:Nat}{σ:St}{o:Option V}(h:bj l σ i=some o)(k:∀xs,(σ.mem[l]?).bind O.ls=some xs->xs[i]?=o->P):P:=aI h λxs e h=>k xs e (aq h)
theorem zK{RI:Wd->β->Value->Prop}{cL:St->Nat->Option (Option β)}{it l:Nat}(hh:A.handled=none)(K:∀(F:df)(d:g_)(wd:Wd)(σ:St)(s:Shared)(i:Nat)(o:Option β)(P:Prop),bU g F d wd σ s->cL σ i=some o->(∀xs I n,s.heap.get? (wd.ρ l)=some (aG "list" I n)->aE (RI wd) xs I->xs[i]?=o->P)->P):FS g A it [it] RI (λwd i h=>l<wd.n/\h.IsListIter it (wd.ρ l) i) cL where
 step F d wd σ i s v Q E R H G hi C:=K F d wd σ s i _ _ R hi λxs I n ho dL e2=>bx (dL.get e2) λy hy hv=>
  wpAny_pyNext_list_item G.2 (b9 ho) (by simpa using hy) λh' K M=>
   C y _ wd hv (.refl _) (R.other H λb o hb e=>(M.2 b (λq=>hb (by rw[q];exact .head _))).trans e) H ⟨G.1,K⟩
 stop F d wd σ i s Q E R H G hi C:=K F d wd σ s i _ _ R hi λxs I n ho dL e2=>
  wpAny_pyNext_list_end hh G.2 (b9 ho) (by rw[jY,kq,<-dL.len];exact List.getElem?_eq_none_iff.mp e2) λh' M=>
   C _ (R.other H λb o hb e=>M b o (λq=>hb (by rw[q];exact .head _)) e)
 stay wd bg i h h' G Z hk:=jy G λh1 o h2 h3=>⟨dA h1 Z.n,o,hk it (.head _) o h2,by rw[Z.ρ l h1];exact h3⟩
 live wd i h G x B:=by
  refine DM G λh1 o h2 h3 h4=>⟨o,List.mem_singleton.mp B▸h2,λp=>p.elim (λp=>w8 p λzs n p=>?_) λp=>xE p λq p=>dB p λvs t e1 e2=>?_⟩
  ·rw[p] at h3;exact absurd (kg h3) (by decide)
  ·rw[<-Data.fields.inj (h4.symm.trans e1)] at e2;exact nomatch e2
 owned F d wd σ i s target u Q E R H G C:=DM G λh1 o h2 h3 h4=>pB h2 h3 (by decide) (C s R ⟨h1,o,h2,h3,h4⟩)
theorem FT{it l:Nat}(hh:A.handled=none):FS g A it [it] VR (λwd i h=>l<wd.n/\h.IsListIter it (wd.ρ l) i) (bj l):=zK hh λF d wd σ s i o P R hi k=>mz hi λxs e1 e2=>R.lst e1 λI n _ ho dL=>k xs I n ho dL e2
theorem nJ:∀wd bg b u,Wd.Le wd bg->VR wd b u->VR bg b u:=λ_ _ _ _ h x=>VR.mono h x
noncomputable def oY:V->Option Nat:=V.lo
theorem pC:∀x∈[h.objs.size],h.get? x=none:=λx B=>by rw[List.mem_singleton.mp B];exact c5 _
theorem xk{Wi:ad V}{Wl:Nat->ad Fl}(hi:be g F k iter Wi)(z:∀bc v,foldedSetIterable iter bc v=Pure.pure v)(h:∀d A wd σ s l Q,cK A k->bU g F d wd σ s->l<wd.n->Wl l σ Q->wpAny (model g.prog g.w) A (pyIter (.ref (wd.ρ l))) (λit s'=>wpAny (model g.prog g.w) A (runOwn (.forLoop target it body [] (aK F d)) (aK F d)) (iy g F d Tw wd Q) yV s') yV s):iT g F k (.For target iter body [] pos) (λσ Q=>Wi σ λv G=>aA (oY v) λl=>Wl l G Q):=by intro d A af hr;rw[arm_exec_For];refine bb.standAt (bb.bind (hi d A af hr) λwd u v Z D=>?_);rw[z];intro s bg σ Q j R J;refine U (aj (U (dh ?_)));refine ah J λl e J=>?_;have D:=VR.mono j D;rw[V.lB e] at D;rw[D.2];exact U (bq (h d A bg σ s l Q hr R D.1 J))
theorem Mf{RI:Wd->β->Value->Prop}{cL:Nat->St->Nat->Option (Option β)}{Wi:ad V}{As:β->ad Unit}{Wb:ad Fl}(hi:be g F k iter Wi)(Ul:∀wd bg b u,Wd.Le wd bg->RI wd b u->RI bg b u) (ha:∀d A af b u,cK A k->RI af b u->bb g F d A af td (assign target (aK F d) u) (As b)) (hb:kT g F k body Wb) (z:∀bc v,foldedSetIterable iter bc v=Pure.pure v)(K:∀(l:Nat)(F:df)(d:g_)(wd:Wd)(σ:St)(s:Shared)(i:Nat)(o:Option β)(P:Prop),bU g F d wd σ s->cL l σ i=some o->(∀xs I n,s.heap.get? (wd.ρ l)=some (aG "list" I n)->aE (RI wd) xs I->xs[i]?=o->P)->P):iT g F k (.For target iter body [] pos) (λσ Q=>Wi σ λv G=>aA (oY v) λl=>∃n,gr (cL l) As Wb n 0 G Q):=xk hi z λd A wd σ s l Q hr R dP J=>xE J λn J=>by
  cases n with
  |zero=>exact J.elim
  |succ n=>
   refine ah J λo ho _=>K l F d wd σ s 0 o _ R ho λxs I m Y _ _=>?_;refine wpAny_pyIter_list (b9 Y) ?_;exact sJ (zK hr.handled (K l)) Ul hr (λaf b u h=>ha d A af b u hr h) hb (.refl _) (R.keeps λb o e=>bf _ e) (jB.fresh R pC)
    ⟨dP,_,cu _ rfl,rfl,rfl⟩ ⟨n+1,J⟩
theorem Ic{Wi:ad V}{As:V->ad Unit}{Wb:ad Fl}(hi:be g F k iter Wi)(ha:qq g F k target As)(hb:kT g F k body Wb)(z:∀bc v,foldedSetIterable iter bc v=Pure.pure v):iT g F k (.For target iter body [] pos) (λσ Q=>Wi σ λv G=>aA (oY v) λl=>∃n,gr (bj l) As Wb n 0 G Q):=Mf hi nJ ha hb z λl F d wd σ s i o P R hi k=>mz hi λxs e1 e2=>R.lst e1 λI n _ ho dL=>k xs I n ho dL e2
end
end
section
variable {C a it x:Addr}{A:Around}{xs:Array Value}{d:g_}{F:df}{g:G}{h:Heap}{es:List (Str×V)}{X:List Addr}{ds:List DictEntry}{args ts:List PySem.Expr}{vs:List V}{us I:List Value}{M:Model}{k l:Nat}{p pos:Pos}{prog:Program}{P:Prop}{e o t value:PySem.Expr}{pl:Sem Bool}{wa:ad (List V)}{We Wi Wo:ad V}{s:Shared}{σ:St}{tk:Tok}{α β:Type}{v:V}{W:V->List V->ad V}{u:Value}{Q:Value×List Value->Shared->Prop}{E:Value->Shared->Prop}{wd af:Wd}{w:World}{R:α->β->Prop}
section
def sM(g:G)(F:df)(k:Nat)(ts:List PySem.Expr)(W:List V->ad Unit):Prop:=∀d A af vs us,cK A k->aE (VR af) vs us->bb g F d A af td (assignInOrder ((assignEach ts (aK F d)).map (·.2)) us) (W vs)
theorem Qj:sM g F k [] (λ_ σ Q=>Q () σ):=λd A af vs us hr D s wd σ Q Z R J=>assignInOrder_nil (az wd () σ (.refl _) R d6 J)
def zL(vs:List V)(K:V->List V->Prop):Prop:=@List.casesOn V (λ_=>Prop) vs False K
theorem Mg{W:V->ad Unit}{W':List V->ad Unit}(h:qq g F k t W)(h':sM g F k ts W')(he:∀bc,assignEach (t::ts) bc=(false,assign t bc)::assignEach ts bc):sM g F k (t::ts) (λvs σ Q=>zL vs λv r=>W v σ λ_ a9=>W' r a9 Q):=by
 intro d A af vs us hr D s wd σ Q Z R J;cases D with
 |nil=>exact J.elim
 |cons hv D=>rw[he];refine assignInOrder_cons (bb.go (h d A af _ _ hr hv) Z R J λ_ s' bg _ a9 x1 x2 _ x4=>?_);refine bb.go (h' d A af _ _ hr D) (Z.trans x1) x2 x4 λ_ v4 o u m y1 O y3 y4=>?_;exact az o u m (x1.trans y1) O y3 y4
noncomputable def up(mem:List O)(v:V):Option (List V):=v.lo.bind λl=>(mem[l]?).bind λo=>match o with
 | .list xs=>some xs
 | .tup xs=>some xs
 |_=>none
theorem DV(R:bU g F d wd σ s){a:V}(ha:VR wd a u){xs:List V}(h:up σ.mem a=some xs):∃x I,u= .ref x/\aE (VR wd) xs I/\(s.heap.IsList x I.toArray\/IsTup s.heap x I.toArray):=by
 refine aI h λl e h=>aI h λo e' h=>jy (R.get e') λ_ ob ho i=>?_;rw[V.lB e] at ha;cases o with
 |list zs=>rw[<-aq h];exact dB i λI n e dL=>⟨_,I,ha.2,dL,.inl (b9 (ho.trans (ag some e)))⟩
 |tup zs=>rw[<-aq h];exact dB i λI n e dL=>⟨_,I,ha.2,dL,.inr ⟨_,ho.trans (ag some e),rfl,n,rfl⟩⟩
 |_=>exact nS h
theorem jI(hh:A.handled=none)(R:bU g F d wd σ s)(B:s.heap.IsList x I.toArray\/IsTup s.heap x I.toArray){Q:List Value->Shared->Prop}{n:Nat}(hn:n=I.length)(h:∀s',bU g F d wd σ s'->Q I s'):wpAny (model g.prog g.w) A (unpackItems (.ref x) n none) Q E s:=by
 have e:n=I.toArray.size:=by rw[aZ];exact hn
 rw[e];have S:=jB.fresh R pC;rcases B with B|B
 ·refine kun_itemsOf hh B λh' M=>?_;exact h _ (R.other S λb o hb e=>M b o (λq=>hb (by rw[q];exact .head _)) e)
 ·refine unpackItems_tuple hh B λh' M=>?_;exact h _ (R.other S λb o hb e=>M b o (λq=>hb (by rw[q];exact .head _)) e)
theorem Um{n:Nat}{W:List V->ad Unit}(h:sM g F k ts W)(M:∀bc,(assignEach ts bc).findIdx? (·.1)=none)(cn:∀bc,(assignEach ts bc).length=ts.length):qq g F k (.Tuple ts n pos) (λv σ Q=>aA (up σ.mem v) λxs=>gd (Nat.beq xs.length ts.length) (W xs σ Q)):=by intro d A af v u hr hv;rw[assign_Tuple];refine bb.standAt ?_;intro s wd σ Q Z R J;refine ah J λxs e J=>xA (aL J) λh1 J=>dZ (DV R (VR.mono Z hv) e) λx I jJ dL B=>?_;have h1:=bK h1;rw[jJ];unfold unpack;rw[M,cn];refine U (bq (jI hr.handled R B (by rw[<-dL.len];exact h1.symm) λs' R'=>?_));exact h d A wd xs I hr dL s' wd σ Q (.refl _) R' J
def BX(wd:Wd)(r:List V)(u:Value):Prop:=∃a zs n,u= .ref a/\wd.fz a=some (aG "tuple" zs n)/\aE (VR wd) r zs
theorem BX.mono:∀wd bg b u,Wd.Le wd bg->BX wd b u->BX bg b u:=λ_ _ _ _ h x=>jb x λa zs n h1 h2 h3=>⟨a,zs,n,h1,h.fz _ _ h2,h3.mono λ_ _=>VR.mono h⟩
theorem Mh{n:Nat}{W:List V->ad Unit}(h:sM g F k ts W)(M:∀bc,(assignEach ts bc).findIdx? (·.1)=none)(cn:∀bc,(assignEach ts bc).length=ts.length) {r:List V} (hr:cK A k) (hv:BX af r u):bb g F d A af td (assign (.Tuple ts n pos) (aK F d) u) (λσ Q=>gd (Nat.beq r.length ts.length) (W r σ Q)):=by rw[assign_Tuple];refine bb.standAt ?_;intro s wd σ Q Z R J;refine xA (aL J) λh1 J=>?_;have h1:=bK h1;refine jb (BX.mono _ _ _ _ Z hv) λx zs m pz hz hzs=>?_;rw[pz];have B:IsTup s.heap x zs.toArray:=⟨_,R.mem.rF _ _ hz,rfl,m,rfl⟩;unfold unpack;rw[M,cn];refine U (bq (jI hr.handled R (.inr B) (by rw[<-hzs.len];exact h1.symm) λs' R'=>?_));exact h d A wd r zs hr hzs s' wd σ Q (.refl _) R' J
noncomputable def zM(o:Option O):Option (Int×Int×Int):=o.bind O.rg
noncomputable def gB(a b c:Int)(_:St)(i:Nat):Option (Option V):=some (cond (Nat.blt i (Builtin.Range.rangeSize a b c).toNat) (some (.int (a+(i:Int)*c))) none)
theorem uq{a b c:Int}(hh:A.handled=none):FS g A it [it] VR (λwd i h=>IsRangeIter h it (a+(i:Int)*c) (Builtin.Range.rangeSize a b c-i) c) (gB a b c) where
 step F d wd σ i s v Q E R H G hi C:=kF (aq hi) λdP e=>by have dP:=aU dP;rw[<-e] at C;refine wpAny_pyNext_range_item G (Int.sub_pos_of_lt (Int.lt_toNat.mp dP)) λh' K M=>?_;refine C _ _ wd ⟨s.toks,rfl⟩ (.refl _) (R.other H λb o hb e=>(M.2 b (λq=>hb (by rw[q];exact .head _))).trans e) H ?_;refine(?_ :IsRangeIter h' it (a+((i+1:Nat):Int)*c) (Builtin.Range.rangeSize a b c-((i+1:Nat):Int)) c);rw[Int.natCast_add,Int.add_mul,<-Int.add_assoc,<-Int.sub_sub];show IsRangeIter h' it (a+(i:Int)*c+1*c) _ c;rw[Int.one_mul];exact K
 stop F d wd σ i s Q E R H G hi C:=by refine wpAny_pyNext_range_end hh G ?_ λh' M=>C _ (R.other H λb o hb e=>M b o (λq=>hb (by rw[q];exact .head _)) e);have hi:=aq hi;refine Int.sub_nonpos_of_le (Int.not_lt.mp λq=>?_);rw[show Nat.blt i (Builtin.Range.rangeSize a b c).toNat=true from d8 (Int.lt_toNat.mpr q)] at hi;exact LG hi
 stay wd bg i h h' G Z hk:=hk it (.head _) _ G
 live wd i h G x B:=by
  refine⟨_,List.mem_singleton.mp B▸G,λp=>p.elim (λp=>w8 p λzs n e=>?_) λp=>xE p λq p=>dB p λvs t e1 e2=>?_⟩
  ·exact absurd (kg (ag Obj.cls e)) (by decide)
  ·rw[<-Data.fields.inj e1] at e2;exact nomatch e2
 owned F d wd σ i s target u Q E R H G C:=pB G rfl (by decide) (C s R G)
theorem BY{n:Int}(N:VR af (.int n) u):bb g F d A af pw (call (.type "range") [u] []) (jR (.rng 0 n 1)):=by intro s wd σ Q Z R J;refine xE N λt N=>?_;rw[N];refine call_range_1 ?_;have R':=R.cE (o:=.rng 0 n 1) ⟨s.toks,t,s.toks+1,rfl⟩;exact az (wd.push s.heap.objs.size) (.loc σ.mem.length) _ (Wd.aT _ _) R'.toks R.pushed J
def kG(vs:List V)(K:V->ad β):ad β:=λσ Q=>zL vs λv r=>@List.casesOn V (λ_=>Prop) r (K v σ Q) λ_ _=>False
def o7(vs:List V)(K:V->V->ad β):ad β:=λσ Q=>zL vs λv r=>kG r (K v) σ Q
def Id(vs:List V)(K:V->V->V->ad β):ad β:=λσ Q=>zL vs λv r=>o7 r (K v) σ Q
section
variable {R:V->Value->Prop}{Q:β->St->Prop}
theorem qr(D:aE R vs us){K:V->ad β}(h:kG vs K σ Q)(k:∀v u,us=[u]->R v u->K v σ Q->P):P:=by
 cases D with
 |nil=>exact h.elim
 |cons h1 h2=>
  cases h2 with
  |nil=>exact k _ _ rfl h1 h
  |cons _ _=>exact h.elim
theorem xl(D:aE R vs us){K:V->V->ad β}(h:o7 vs K σ Q)(k:∀v w u x,us=[u,x]->R v u->R w x->K v w σ Q->P):P:=by
 cases D with
 |nil=>exact h.elim
 |cons h1 h2=>exact qr h2 h λw x e h3 h=>k _ w _ x (ag _ e) h1 h3 h
theorem Uo(D:aE R vs us){K:V->V->V->ad β}(h:Id vs K σ Q)(k:∀v w y u x z,us=[u,x,z]->R v u->R w x->R y z->K v w y σ Q->P):P:=by
 cases D with
 |nil=>exact h.elim
 |cons h1 h2=>exact xl h2 h λw y x z e h3 h4 h=>k _ w y _ x z (ag _ e) h1 h3 h4 h
end
theorem ur{v:α}{us:List β}(h:aE R [v] us)(k:∀u,us=[u]->R v u->P):P:=by
 cases h with
 |cons h1 h2=>cases h2;exact k _ rfl h1
theorem BZ{v w:α}{us:List β}(h:aE R [v,w] us)(k:∀u x,us=[u,x]->R v u->R w x->P):P:=by
 cases h with
 |cons h1 h2=>exact ur h2 λx e h3=>k _ x (ag _ e) h1 h3
theorem Qk{v w y:α}{us:List β}(h:aE R [v,w,y] us)(k:∀u x z,us=[u,x,z]->R v u->R w x->R y z->P):P:=by
 cases h with
 |cons h1 h2=>exact BZ h2 λx z e h3 h4=>k _ x z (ag _ e) h1 h3 h4
def DW(vs:List V):ad V:=kG vs λv σ Q=>aA v.iv λn=>jR (.rng 0 n 1) σ Q
theorem mA:cz g k (.type "range") DW:=by intro F d A af vs us hr D s wd σ Q Z R J;refine qr D J λv u e hv J=>ah J λn hn J=>?_;rw[V.rE hn] at hv;rw[e];exact BY hv s wd σ Q Z R J
theorem FU{target iter:PySem.Expr}{body:List Stmt}{As:V->ad Unit}{Wb:ad Fl}(hi:be g F k iter Wi)(ha:qq g F k target As)(hb:kT g F k body Wb)(z:∀bc v,foldedSetIterable iter bc v=Pure.pure v):iT g F k (.For target iter body [] pos) (λσ Q=>Wi σ λv G=>aA (oY v) λl=>aA (zM G.mem[l]?) λp=>gd (Builtin.Range.small p.1 p.2.1 p.2.2) (∃n,gr (gB p.1 p.2.1 p.2.2) As Wb n 0 G Q)):=xk hi z λd A wd σ s l Q hr R dP J=>by refine ah J λp e J=>Tv (aL J) λr n J=>w_ (R.get (eZ O.BK e)) λ_ ob Y t u' f P=>?_;rw[P] at Y;refine wpAny_pyIter_range Y r ?_;refine sJ (uq hr.handled) nJ hr (λaf b u h=>ha d A af b u hr h) hb (.refl _) (R.keeps λb o e=>bf _ e) (jB.fresh R pC) ?_ ⟨n,J⟩;refine(?_ :IsRangeIter _ _ (p.1+((0:Nat):Int)*p.2.2) (Builtin.Range.rangeSize p.1 p.2.1 p.2.2-((0:Nat):Int)) p.2.2);rw[show p.1+((0:Nat):Int)*p.2.2=p.1 by simp,show Builtin.Range.rangeSize p.1 p.2.1 p.2.2-((0:Nat):Int)=Builtin.Range.rangeSize p.1 p.2.1 p.2.2 from Int.sub_zero _];exact cu _ rfl
end
noncomputable def DX(h:Heap)(X:List Addr):List (Addr×Obj):=(List.range h.objs.size).filterMap λa=>if a∈X then none else(h.get? a).map λo=>(a,o)
theorem FV{o:Obj}(e:h.get? a=some o)(B:a∉X):(a,o)∈DX h X:=by refine List.mem_filterMap.mpr ⟨a,List.mem_range.mpr (bT e),?_⟩;rw[aH B,e];rfl
theorem FW{p:Addr×Obj}(e:p∈DX h X):h.get? p.1=some p.2/\p.1∉X:=by
 refine bx (List.mem_filterMap.mp e) λa _ h2=>?_;by_cases B:a∈X
 ·rw[a6 B] at h2;exact nS h2
 ·rw[aH B] at h2;exact bx (Option.map_eq_some_iff.mp h2) λo ho jJ=>by rw[<-jJ];exact⟨ho,B⟩
noncomputable def ut:Heap:={}
theorem uu(a:Addr):ut.get? a=none:=by refine(?_ :(match (#[]:Array Obj)[a]? with|some ⟨_,_,.freed,_⟩=>none|o=>o)=none);simp
section
theorem bU.fr(R:bU g F d wd σ s):∃m,Fr ut d.L s.heap m/\zt F wd σ.loc m:=by refine bx (R.loc) λm h1 h2=>?_;exact⟨m,⟨h1,λb o e=>(by rw[uu] at e;exact nS e),aW _⟩,h2⟩
theorem bU.news(R:bU g F d wd σ s)(X:List Addr):News ut d.L s.heap (DX s.heap (d.L::X)):=λp hp=>xA (FW hp) λh1 h2=>
 ⟨h1,λe=>h2 (by rw[e];exact .head _),uu _⟩
theorem bU.Ie(R:bU g F d wd σ s){m:Str->Option Value}{h':Heap}{tk:Nat}{ob:Obj}{o:O}(hm:zt F wd σ.loc m)(Fm:Fr ut d.L h' m)(N:News ut d.L h' ((a,ob)::DX s.heap [d.L]))(ha:s.heap.get? a=none)(ho:OR g (wd.push a) o ob) (p:a≠sysModules):bU g F d (wd.push a) {σ with mem:=σ.mem++[o]} {s with heap:=h',toks:=tk}:=by
 have k:∀b o,b≠d.L->s.heap.get? b=some o->h'.get? b=some o:=λb o hb e=>(N _ (.tail _ (FV e (by simpa using hb)))).1;have hw:=Wd.aT wd a;exact⟨R.mem.HI (λb o e=>k b o (λq=>by rw[q,R.pv] at e;exact nS e) (R.mem.rF b o e)) (λl o Z e=>k _ _ (R.kR l Z) e) ha (N _ (.head _)).1 ho p,⟨m,Fm.ns,hm.mono hw⟩,R.ix.mono hw,R.pv,
  λl Z=>Wd.eB Z (λh1 e1=>e1▸R.kR l h1) λ_ e1 q=>(N _ (.head _)).2.1 (e1.symm.trans q),R.gens,R.os⟩
end
section
noncomputable def dC(mem:List O)(v:V):Option (Nat×List V):=v.lo.bind λl=>(sL mem[l]?).bind λxs=>some (l,xs)
theorem bU.lv(R:bU g F d wd σ s){a:V}(ha:VR wd a u){p:Nat×List V}(h:dC σ.mem a=some p)(k:∀I n,u= .ref (wd.ρ p.1)->p.1<wd.n->s.heap.get? (wd.ρ p.1)=some (aG "list" I n)->aE (VR wd) p.2 I->P):P:=by refine aI h λl e h=>aI h λxs e' h=>?_;rw[V.lB e] at ha;rw[<-aq h] at k;exact R.lst e' λI n Z ho dL=>k I n ha.2 Z ho dL
def gC(vs:List V):ad V:=o7 vs λa v σ Q=>aA (dC σ.mem a) λp=>gd (bw p.2.length) (Q .none {σ with mem:=σ.mem.set p.1 (.list (p.2++[v]))})
theorem bB:cz g k (.builtin "list.append") gC:=by
 intro F d A af vs us hr D s wd σ Q Z R J;refine xl D J λa v u x e ha hv J=>ah J λp e' J=>xA (aL J) λh1 J=>R.lv (VR.mono Z ha) e' λI n N dP ho dL=>?_;rw[e,N];refine append_at ho (λh' M k6=>az wd .none _ (.refl _) (R.setM dP M k6 (o':=.list (p.2++[v])) ⟨I++[x],n+1,?_,dL.append (.cons (VR.mono Z hv) .nil)⟩) rfl J) ?_
 ·unfold aG;simp
 ·rw[aZ,<-dL.len];exact dp h1
noncomputable def zN(l:List V):Option (List V×V):=l.getLast?.map λy=>(l.dropLast,y)
theorem FX{l:List V}{q:List V×V}(h:zN l=some q):l=q.1++[q.2]:=bx (Option.map_eq_some_iff.mp h) λy e1 e2=>xE (List.getLast?_eq_some_iff.mp e1) λI e3=>by rw[<-e2,e3,lR]
theorem sN(p:List V)(y:V):zN (p++[y])=some (p,y):=by unfold zN;rw[List.getLast?_concat,lR];rfl
theorem aE.snoc{p:List α}{y:α}{us:List β}(h:aE R (p++[y]) us):∃q z,us=q++[z]/\aE R p q/\R y z:=by
 induction p generalizing us with
 |nil=>
  cases h with
  |cons h1 h2=>cases h2;exact⟨[],_,rfl,.nil,h1⟩
 |cons x p T=>
  cases h with
  |cons h1 h2=>exact dZ (T h2) λq z e h3 h4=>⟨_::q,z,ag _ e,.cons h1 h3,h4⟩
def YH(vs:List V):ad V:=kG vs λa σ Q=>aA (dC σ.mem a) λp=>gd (bw p.2.length) (aA (zN p.2) λq=>Q q.2 {σ with mem:=σ.mem.set p.1 (.list q.1)})
theorem DY{q:List Value}{z:Value}{n:Nat}(hk:k=q.length):Obj.mapSeq (λxs=>xs.eraseIdxIfInBounds k) (aG "list" (q++[z]) n)=aG "list" q (n+1):=by
 have E:(q++[z]).toArray.eraseIdxIfInBounds k=q.toArray:=by rw[hk,kl_erase,aS]
 unfold Obj.mapSeq aG;dsimp only;rw[E,aH];rw[aZ,aZ,ak];simp
theorem oO:cz g k (.builtin "list.pop") YH:=by
 intro F d A af vs us hr D s wd σ Q Z R J;refine qr D J λa u e ha J=>ah J λp e' J=>xA (aL J) λh1 J=>ah J λq e2 J=>R.lv (VR.mono Z ha) e' λI n N dP ho dL=>?_;rw[e,N];have cn:=dL.len;rw[FX e2] at dL;refine dZ dL.snoc λq' z jJ Y hz=>?_;rw[jJ] at ho cn;have L:(q'++[z]).toArray.size<=sizeLine:=by rw[aZ,<-cn];exact dp h1
 have hk:(q'++[z]).toArray.size-1=q'.length:=by rw[aZ,ak];rfl
 have hy:(q'++[z]).toArray[(q'++[z]).toArray.size-1]?=some z:=by rw[hk];simp
 refine call_meets kt ⟨_,ho,rfl⟩ PySem.F.entry_list_pop (PySem.F.args_list_pop_1 _) (PySem.MeetsSeq.list_pop_last _ _ n z hy L) ⟨ho,?_⟩;refine az wd q.2 _ (.refl _) (R.setM dP (eg ..) (o':=.list q.1) ?_ ⟨q',n+1,rfl,Y⟩) hz J;exact(d_ _ ho (by rw[DY hk];rfl)).trans (ag some (DY hk))
def Mi(vs:List V):ad V:=o7 vs λa b σ Q=>aA (dC σ.mem a) λp=>aA (dC σ.mem b) λq=>gd (bw (p.2.length+q.2.length)) (Q .none {σ with mem:=σ.mem.set p.1 (.list (p.2++q.2))})
theorem DZ(I h:List Value)(n:Nat):Obj.mapSeq (λx=>x++h.toArray) (aG "list" I n)=aG "list" (I++h) (if (I.toArray++h.toArray).size==I.toArray.size then n else n+1):=by unfold Obj.mapSeq aG;simp
theorem B0:cz g k (.builtin "list.extend") Mi:=by
 intro F d A af vs us hr D s wd σ Q Z R J;refine xl D J λa b u x e ha hb J=>ah J λp e1 J=>ah J λp' e2 J=>xA (aL J) λh1 J=>R.lv (VR.mono Z ha) e1 λI n N dP ho dL=>R.lv (VR.mono Z hb) e2 λh n' Ql _ k6 B1=>?_;rw[e,N,Ql];have Qn:I.toArray.size+h.toArray.size<=sizeLine:=by rw[aZ,aZ,<-dL.len,<-B1.len];exact dp h1
 refine call_meets PySem.F.slot_list_extend ⟨_,ho,rfl⟩ PySem.F.entry_list_extend (PySem.F.args_list_extend_2 _ _) (AutoSeq1.list_extend_list_list_0 _ I.toArray n _ h.toArray n' (extend_door Qn) (am (gR _ _) Qn) (iq Qn)) ⟨ho,k6,?_⟩;refine az wd .none _ (.refl _) (R.setM dP (eg ..) (o':=.list (p.2++p'.2)) ?_ ⟨I++h,(if (I.toArray++h.toArray).size==I.toArray.size then n else n+1),rfl,dL.append B1⟩) rfl J;exact(d_ _ ho (by rw[DZ];rfl)).trans (ag some (DZ I h n))
noncomputable def Ig(n:Nat):Int->Nat
 | .ofNat i=>Nat.min i n
 | .negSucc i=>n-(i+1)
noncomputable def l5(v:V):Option (Option Int):=@V.casesOn (λ_=>Option (Option Int)) v (some none) (λ_=>none) (λi=>some (some i)) (λ_=>none) (λ_=>none) (λ_=>none)
noncomputable def Up(n:Nat):Option Int->Nat
 |some i=>Ig n i
 |none=>0
noncomputable def Uq(n:Nat):Option Int->Nat
 |some i=>Ig n i
 |none=>n
theorem Qo(n:Nat):∀h,Uq n h<=n
 |none=>aF _
 |some (.ofNat _)=>lW _ _
 |some (.negSucc _)=>Nat.sub_le _ _
noncomputable def fR(xs:List α)(lo hi:Option Int):List α:=(xs.drop (Up xs.length lo)).take (Uq xs.length hi-Up xs.length lo)
theorem qt{p:Option Int}(h:VR wd v u)(e:l5 v=some p):IsPart u p/\∃q:Option (Int×Tok),q.map (·.1)=p/\u=partValue q:=by
 cases v with
 |none=>rw[<-aq e,h];exact⟨.none,none,rfl,rfl⟩
 |int i=>rw[<-aq e];exact xE h λt h=>by rw[h];exact⟨.int i t,some (i,t),rfl,rfl⟩
 |_=>exact nS e
theorem Mj(n:Nat)(i:Int):max 0 (min (if i<0 then i+(n:Int) else i) (n:Int))=(Ig n i:Int):=by
 cases i with
 |ofNat i=>
  rw[aH (show ¬ (Int.ofNat i<0) from Int.not_lt.mpr (gj i))];refine(?_ :max 0 (min (i:Int) n)=((min i n:Nat):Int));refine(Nat.le_total i n).elim (λh=>?_) λh=>?_
  ·rw[Int.min_eq_left (Int.ofNat_le.mpr h),kb h];exact Int.max_eq_right (gj _)
  ·rw[Int.min_eq_right (Int.ofNat_le.mpr h),j9 h];exact Int.max_eq_right (gj _)
 |negSucc i=>
  rw[a6 (lU i)];refine(?_ :max 0 (min (Int.subNatNat n (i+1)) n)=((n-(i+1):Nat):Int));refine(Nat.lt_or_ge n (i+1)).elim (λh=>?_) λh=>?_
  ·rw[Int.subNatNat_of_lt h,Nat.sub_eq_zero_of_le (eR h)];exact Int.max_eq_left (gl (Int.min_le_left _ _) (Int.le_of_lt (lU _)))
  ·rw[Int.subNatNat_of_le h,Int.min_eq_left (Int.ofNat_le.mpr (Nat.sub_le _ _))];exact Int.max_eq_right (gj _)
theorem m0(I:List α)(c:Nat):(List.range c).filterMap (λk=>I[k]?)=I.take c:=by
 induction c with
 |zero=>rfl
 |succ c T=>rw[List.range_succ,List.filterMap_append,T,List.take_add_one];congr 1
theorem o8(a b:Nat):(sliceRange (a:Int) (b:Int) 1)=(List.range (b-a)).map λk=>a+k:=by
 have:(if (a:Int)<(b:Int) then((b:Int)-(a:Int)+1-1) / 1 else 0).toNat=b-a:=by
  by_cases h:(a:Int)<(b:Int)
  ·rw[a6 h,Int.add_sub_cancel,Int.ediv_one];exact Int.toNat_sub b a
  ·rw[aH h];exact(Nat.sub_eq_zero_of_le (Int.ofNat_le.mp (Int.not_lt.mp h))).symm
 refine(?_ :List.map _ (List.range (if (a:Int)<(b:Int) then((b:Int)-(a:Int)+1-1) / 1 else 0).toNat)=_);rw[this];exact io λk _=>by rw[Int.one_mul];rfl
theorem uv(xs:List α)(a b:Nat):(sliceRange (a:Int) (b:Int) 1).filterMap (λi=>xs[i]?)=(xs.drop a).take (b-a):=by rw[o8,List.filterMap_map,<-m0];congr 1;funext k;exact(List.getElem?_drop ..).symm
theorem m3(n:Nat)(lo hi:Option Int):sliceBounds lo hi none n=((Up n lo:Int),(Uq n hi:Int),1):=by
 unfold sliceBounds Up Uq;have h1:(1:Int)>0:=by decide
 simp only[Option.getD_none,h1,if_true];cases lo<;>cases hi<;>simp[Mj]
theorem rM(xs:List α)(lo hi:Option Int):(sliceRange (sliceBounds lo hi none xs.length).1 (sliceBounds lo hi none xs.length).2.1 (sliceBounds lo hi none xs.length).2.2).filterMap (λi=>xs[i]?)=fR xs lo hi:=by rw[m3];exact uv xs _ _
theorem D2(x:Str)(lo hi:Option Int):Builtin.Str.strSliceIndices lo hi 1 x.length=sliceRange (sliceBounds lo hi none x.cps.toList.length).1 (sliceBounds lo hi none x.cps.toList.length).2.1 (sliceBounds lo hi none x.cps.toList.length).2.2:=by rw[show x.length=x.cps.toList.length by simp[Str.length]];rfl
theorem Mk(x:Str)(lo hi:Option Int):(Builtin.Str.strSliceIndices lo hi 1 x.length).filterMap (x.cps[·]?)=fR x.cps.toList lo hi:=by rw[D2,<-rM];congr 1;funext i;simp
theorem FY(xs:List α):(sliceRange (sliceBounds none none (some (-1)) xs.length).1 (sliceBounds none none (some (-1)) xs.length).2.1 (sliceBounds none none (some (-1)) xs.length).2.2).filterMap (λi=>xs[i]?)=xs.reverse:=by
 have e:sliceBounds none none (some (-1)) xs.length=((xs.length:Int)-1, -1, -1):=rfl;rw[e];have e2:sliceRange ((xs.length:Int)-1) (-1) (-1)=(List.range xs.length).map λk=>xs.length-1-k:=by
  have:(if (xs.length:Int)-1> -1 then((xs.length:Int)-1- -1- -1-1) / (- -1) else 0).toNat=xs.length:=by
   by_cases h:(xs.length:Int)-1> -1
   ·rw[a6 h,show(- -1:Int)=1 from rfl,Int.ediv_one,show(xs.length:Int)-1- -1- -1-1=xs.length from(Int.add_sub_cancel _ _).trans (Int.sub_add_cancel _ _)];rfl
   ·rw[aH h];omega
  refine(?_ :List.map _ (List.range (if (xs.length:Int)-1> -1 then((xs.length:Int)-1- -1- -1-1) / (- -1) else 0).toNat)=_);rw[this];exact io λk _=>by rw[Int.neg_mul,Int.one_mul,Nat.sub_sub,<-Int.toNat_sub,Int.natCast_add];exact ag Int.toNat (Int.sub_sub _ _ _)
 rw[e2,List.filterMap_map];have e3:=m0 xs.reverse xs.length;rw[oz (by simp)] at e3;rw[<-e3];have cg:∀(l:List Nat)(f h:Nat->Option α),(∀k∈l,f k=h k)->l.filterMap f=l.filterMap h:=by
  intro l f h e;induction l with
  |nil=>rfl
  |cons x l T=>rw[List.filterMap_cons,List.filterMap_cons,e x (.head _),T λk hk=>e k (.tail _ hk)]
 refine cg _ _ _ λk hk=>?_;have:=List.mem_range.mp hk;rw[List.getElem?_reverse this];rfl
end
section
def Ih(g:G)(F:df)(k:Nat)(e:Option PySem.Expr)(W:ad V):Prop:=∀d A af,cK A k->bb g F d A af pw (evalPart e (aK F d)) W
theorem Qp:Ih g F k none (eH .none):=λd A af hr s wd σ Q Z R J=>aj (az wd .none σ (.refl _) R rfl J)
theorem Qq{W:ad V}(h:be g F k e W):Ih g F k (some e) W:=h
def Ii(a lo hi:V):ad V:=λσ Q=>aA (l5 lo) λlo=>aA (l5 hi) λhi=>v5 a.sv (λx=>gd (bw x.length) (Q (.str ⟨(fR x.cps.toList lo hi).toArray⟩) σ))
 (aA (dC σ.mem a) λp=>gd (bw p.2.length) (jR (.list (fR p.2 lo hi)) σ Q))
theorem zO(xs:List α)(lo hi:Option Int):(fR xs lo hi).Sublist xs:=(List.take_sublist _ _).trans (List.drop_sublist _ _)
theorem Ij(xs:List α)(lo hi:Option Int)(h:Uq xs.length hi-Up xs.length lo=xs.length):fR xs lo hi=xs:=(zO xs lo hi).eq_of_length (by
  unfold fR;rw[jx,cb,h];exact kb (am (fN h.symm) (Nat.sub_le_sub_right (Qo _ _) _)))
theorem Ml{x:Str}{lo hi:Option Int}(h:(Builtin.Str.strSliceIndices lo hi 1 x.length).length=x.length):x=⟨(fR x.cps.toList lo hi).toArray⟩:=by rw[D2,m3,o8,ax,j7] at h;rw[Ij _ _ _ (h.trans (by simp[Str.length]))]
theorem aE.cut{l:List α}{m:List β}(h:aE R l m)(lo hi:Option Int):aE R (fR l lo hi) (fR m lo hi):=by unfold fR;rw[h.len];exact(h.drop _).take _
theorem Ik(I:List Value)(l h:Option Int):slicePick I.toArray l h none=(fR I l h).toArray:=by unfold slicePick;rw[aZ,<-rM I l h];congr 1;apply ag (λf=>List.filterMap f _);funext i;simp
theorem Il(I:List Value):slicePick I.toArray none none (some (-1))=I.reverse.toArray:=by unfold slicePick;rw[aZ,<-FY I];congr 1;apply ag (λf=>List.filterMap f _);funext i;simp
theorem Qr{lower sO:Option PySem.Expr}{wa wl wu:ad V}(ha:be g F k value wa)(m:Ih g F k lower wl)(Ur:Ih g F k sO wu):be g F k (.Subscript value (.Slice lower sO none p) pos) (λσ Q=>wa σ λa G=>wl G λlo E=>wu E λhi H=>Ii a lo hi H Q):=by
 intro d A af hr s wd σ Q Z R J;refine Subscript_ (bb.go (ha d A af hr) Z R J λu dG D a G x1 x2 x3 x4=>?_);refine wpAny_Slice (bb.go (m d A af hr) (Z.trans x1) x2 x4 λvl mw P lo E y1 O y3 y4=>?_);refine bb.go (Ur d A af hr) ((Z.trans x1).trans y1) O y4 λvu c X hi H L z2 z3 z4=>?_;refine aj ?_;refine ah z4 λl r J=>ah J λh eh J=>jy (qt (VR.mono L y3) r) λp1 ql hql e1=>jy (qt z3 eh) λp2 qh hqh e2=>?_;have z:=VR.mono (y1.trans L) x3;have zz:=(x1.trans y1).trans L;have R3:bU g F d X H {c with heap:=c.heap.push {cls:=.type "slice",data:=.fields #[vl,vu,.none]}}:=z2.keeps λb o e=>bf _ e;have j:(c.heap.push {cls:=.type "slice",data:=.fields #[vl,vu,.none]}).get? c.heap.objs.size=some {cls:=.type "slice",data:=.fields #[vl,vu,.none]}:=cu _ rfl;refine gZ J (λJ=>ah J λx ex J=>xA (aL J) λh1 J=>xE (VR.str ex z) λt N=>?_) λJ=>ah J λq y J=>xA (aL J) λh1 J=>R3.lv z y λI n N dP ho dL=>?_
 ·rw[N];refine tail_any (typeIs_str _ x t) PySem.F.slot_str_getitem.lookup (wpAny_getItem_str_slice (st:=none) ⟨_,j,rfl,by rw[e1,e2];rfl⟩ rfl ?_) rfl;have B:slicePicked x ql qh none=Builtin.Str.strSliceIndices l h 1 x.length:=by unfold slicePicked;rw[hql,hqh];rfl
  unfold sliceMade;rw[B,Mk];have he:(if ((Option.map (·.1) (none:Option (Int×Tok))).getD 1==1&&(Builtin.Str.strSliceIndices l h 1 x.length).length==x.length)=true then x else(⟨(fR x.cps.toList l h).toArray⟩:Str))=⟨(fR x.cps.toList l h).toArray⟩:=by
   split
   ·rename_i hc;exact Ml (eq_of_beq ((aM _ _).mp hc).2)
   ·rfl
  refine post_val_or_str ⟨?_,λC tk=>?_⟩
  ·split
   ·exact dp h1
   ·refine am ?_ (dp h1);refine(?_ :((fR x.cps.toList l h).toArray).size<=x.length);rw[aZ];exact am (zO _ _ _).length_le (by simp[Str.length])
  ·rw[he];exact az X (.str _) H zz R3.toks ⟨_,rfl⟩ J
 ·rw[N];have S:=b9 ho;refine tail_any S.typeIs slot_list_getitem.lookup (wpAny_getItem_list_slice S ⟨_,j,rfl,rfl⟩ p1 p2 .none (by simp) ?_ (by rw[aZ,<-dL.len];exact dp h1)) rfl;rw[Ik];exact az _ (.loc H.mem.length) _ (zz.trans (Wd.aT _ _)) (R3.cE (o:=.list (fR q.2 l h)) ⟨fR I l h,0,rfl,(dL.cut l h).mono λ_ _=>VR.mono (Wd.aT _ _)⟩) R3.pushed J
def Qs(a:V):ad V:=λσ Q=>aA (dC σ.mem a) λp=>gd (bw p.2.length) (jR (.list p.2.reverse) σ Q)
theorem FZ{st:PySem.Expr}{wa:ad V}(ha:be g F k value wa)(T:be g F k st (eH (.int (-1)))):be g F k (.Subscript value (.Slice none none (some st) p) pos) (λσ Q=>wa σ λa G=>Qs a G Q):=by intro d A af hr s wd σ Q Z R J;refine Subscript_ (bb.go (ha d A af hr) Z R J λu dG D a G x1 x2 x3 x4=>?_);refine wpAny_Slice (aj (aj ?_));refine a_ (T d A af hr dG D G (λv a9=>v= .int (-1)/\Qs a a9 Q) (Z.trans x1) x2 ⟨rfl,x4⟩) (λvs c z=>?_) λ_ _ x=>x;refine gX z λX v H L z2 z3 P J=>?_;rw[P] at z3;refine xE z3 λt z3=>ah J λq e J=>xA (aL J) λh1 J=>?_;rw[z3];have R3:bU g F d X H {c with heap:=c.heap.push {cls:=.type "slice",data:=.fields #[.none,.none,.int (-1) t]}}:=z2.keeps λb o e=>bf _ e;have j:(c.heap.push {cls:=.type "slice",data:=.fields #[.none,.none,.int (-1) t]}).get? c.heap.objs.size=some {cls:=.type "slice",data:=.fields #[.none,.none,.int (-1) t]}:=cu _ rfl;refine R3.lv (VR.mono L x3) e λI n N dP ho dL=>?_;rw[N];have S:=b9 ho;refine tail_any S.typeIs slot_list_getitem.lookup (wpAny_getItem_list_slice S ⟨_,j,rfl,rfl⟩ .none .none (.int (-1) t) (by decide) ?_ (by rw[aZ,<-dL.len];exact dp h1)) rfl;rw[Il];exact az _ (.loc H.mem.length) _ ((x1.trans L).trans (Wd.aT _ _)) (R3.cE (o:=.list q.2.reverse) ⟨I.reverse,0,rfl,dL.reverse.mono λ_ _=>VR.mono (Wd.aT _ _)⟩) R3.pushed J
def Us(a b:V):ad V:=λσ Q=>aA (dC σ.mem a) λp=>aA (dC σ.mem b) λq=>gd (bw (p.2.length+q.2.length)) (jR (.list (p.2++q.2)) σ Q)
theorem Qt:xf g .Add Us:=by intro F d A af a b u v ha hb s wd σ Q Z R J;refine ah J λp e1 J=>ah J λq e2 J=>xA (aL J) λh1 J=>R.lv (VR.mono Z ha) e1 λI n N dP ho dL=>R.lv (VR.mono Z hb) e2 λh n' Ql _ k6 B1=>bx (R.fr) λm Fm hm=>?_;rw[N,Ql];refine add_lists Fm (R.news []) (b9 ho) (b9 k6) (λh' F' N'=>?_) (by rw[<-dL.len,<-B1.len];exact dp h1);exact az _ (.loc σ.mem.length) _ (Wd.aT _ _) (R.Ie hm F' N' (c5 _) (o:=.list (p.2++q.2)) ⟨I++h,0,rfl,(dL.append B1).mono λ_ _=>VR.mono (Wd.aT _ _)⟩ R.g6) R.pushed J
noncomputable def Qu(mem:List O)(v:V):Option Nat:=@V.casesOn (λ_=>Option Nat) v none (λ_=>none) (λ_=>none) (λx=>some x.length) (λ_=>none) λl=>(sL mem[l]?).bind λxs=>some xs.length
def Ut(vs:List V):ad V:=kG vs λa σ Q=>aA (Qu σ.mem a) λn=>gd (bw n) (Q (.int n) σ)
theorem eW:cz g k (.builtin "len") Ut:=by
 intro F d A af vs us hr D s wd σ Q Z R J;refine qr D J λa u e ha J=>ah J λn e1 J=>xA (aL J) λh1 Y=>?_;rw[e];cases a with
 |str x=>rw[<-aq e1] at h1 Y;exact xE ha λt N=>by rw[N];exact PySem.P.len_str (Int.not_le.mpr (qi h1)) (az wd (.int x.length) σ (.refl _) R.toks ⟨_,rfl⟩ Y)
 |loc l=>refine aI e1 λxs r e1=>R.lst r λI n dP ho dL=>?_;rw[(VR.mono Z ha).2];rw[<-aq e1,dL.len] at h1 Y;exact call_len_list (b9 ho) (by rw[aZ];exact qi h1) (az wd (.int I.length) σ (.refl _) R.toks ⟨s.toks+1,rfl⟩ Y)
 |_=>exact nS e1
def Uu(vs:List V):ad V:=o7 vs λa b σ Q=>aA a.iv λx=>aA b.iv λy=>br (decide (y<x)) (Q (.int y) σ) (Q (.int x) σ)
theorem D3:cz g k (.builtin "min") Uu:=by
 intro F d A af vs us hr D s wd σ Q Z R J;refine xl D J λa b u v e ha hb J=>ah J λx ex J=>ah J λy ey J=>xE (VR.int ex ha) λt N=>xE (VR.int ey hb) λC hv=>?_;rw[e,N,hv];refine min_two_ints hr.handled λh' tk hk=>?_;have R':bU g F d wd σ {s with heap:=h',toks:=tk}:=R.keeps hk;by_cases hc:y<x
 ·rw[a6 hc];rw[dI hc] at J;exact az wd (.int y) σ (.refl _) R' ⟨_,rfl⟩ J
 ·rw[aH hc];rw[dR hc] at J;exact az wd (.int x) σ (.refl _) R' ⟨_,rfl⟩ J
noncomputable def YI(v:Value):Bool:=match v with
 | .type T=>T=="bool"
 |_=>false
def Mm(vs:List V):ad V:=o7 vs λa b σ Q=>aA a.iv λ_=>aA b.im λw=>gd (YI w) (Q (.bool false) σ)
theorem uz:cz g k (.builtin "isinstance") Mm:=by
 intro F d A af vs us hr D s wd σ Q Z R J;refine xl D J λa b u v e ha hb J=>ah J λx ex J=>ah J λw ew J=>xA (aL J) λh1 Y=>xE (VR.int ex ha) λt N=>?_;rw[V.BP ew] at hb;rw[e,N,hb];cases w with
 |type T=>rw[eq_of_beq (show(T=="bool")=true from h1)];exact IsiPair.int_bool (az wd (.bool false) σ (.refl _) R.toks rfl Y)
 |_=>exact nB h1
end
section
noncomputable def kH:List V->Option (List Str)
 | []=>some []
 |v::r=>v.sv.bind λx=>(kH r).bind λt=>some (x::t)
theorem qv{xs:List V}{ts:List Str}(h:aE (VR wd) xs us)(e:kH xs=some ts):∃l:List (Str×Tok),us=strValues l/\l.map (·.1)=ts:=by
 induction h generalizing ts with
 |nil=>exact⟨[],rfl,aq e⟩
 |cons h _ T=>exact aI e λx e1 e=>aI e λt e2 e=>bx (T e2) λl e3 e4=>xE (VR.str e1 h) λtk E=>⟨(x,tk)::l,by rw[E,e3];rfl,by rw[<-aq e,<-e4];rfl⟩
theorem l6(ts:List Str):kH (ts.map V.str)=some ts:=by
 induction ts with
 |nil=>rfl
 |cons x r T=>exact bE T
theorem Im{xs:List V}{ts:List Str}(h:aE (VR wd) xs us)(e:kH xs=some ts):StrsAre us ts:=bx (qv h e) λl e1 e2=>by rw[e1,<-e2];exact strsAre_of_values l
theorem wo(l:List (Str×Tok)):aE (VR wd) (l.map λp=>V.str p.1) (strValues l):=by
 induction l with
 |nil=>exact .nil
 |cons p r T=>exact .cons ⟨p.2,rfl⟩ T
def Io(vs:List V):ad V:=o7 vs λa b σ Q=>aA a.sv λMn=>aA (dC σ.mem b) λp=>aA (kH p.2) λts=>gd (JoinOk Mn ts) (Q (.str (Txt.join Mn ts)) σ)
theorem zQ:cz g k (.builtin "str.join") Io:=by intro F d A af vs us hr D s wd σ Q Z R J;refine xl D J λa b u v e ha hb J=>ah J λMn e1 J=>ah J λp e2 J=>ah J λts e3 J=>xA (aL J) λh1 J=>xE (VR.str e1 ha) λt N=>R.lv (VR.mono Z hb) e2 λI n hv dP ho dL=>bx (qv dL e3) λll e4 E=>?_;rw[e,N,hv];rw[e4] at ho;exact SC.join (b9 ho) E h1 λC tk=>az wd (.str _) σ (.refl _) R.toks ⟨_,rfl⟩ J
def Qv(vs:List V):ad V:=kG vs λa σ Q=>aA a.sv λx=>gd (Nat.ble x.length 5592405) (Q (.str (Txt.lower x)) σ)
theorem wq:cz g k (.builtin "str.lower") Qv:=by intro F d A af vs us hr D s wd σ Q Z R J;refine qr D J λa u e ha J=>ah J λx e1 J=>xA (aL J) λh1 J=>xE (VR.str e1 ha) λt N=>?_;rw[e,N];exact SC.lower (fit_lower (aU h1)) (az wd (.str _) σ (.refl _) R.toks ⟨_,rfl⟩ J)
def B2(f:Str->Str->Int->List Str)(vs:List V):ad V:=Id vs λa b c σ Q=>aA a.sv λx=>aA b.sv λy=>aA c.iv λi=>gd (bw (x.length+2)&&Nat.ble 1 y.length&&Nat.ble i.natAbs 1000000) (jR (.list ((f x y i).map V.str)) σ Q)
theorem F0{i:Int}(h:i.natAbs<=1000000):(decide (i< -(2 ^ 63:Int))||decide (i≥2 ^ 63))=false:=by simp only[Bool.or_eq_false_iff,decide_eq_false_iff_not];omega
theorem wt{f:Str->Str->Int->List Str}{w:Wd}{Q:V->St->Prop}(D:aE (VR w) vs us)(h:B2 f vs σ Q)(k:∀x y i t C Uv,us=[.str x t,.str y C,.int i Uv]->(y.length==0)=false->(decide (i< -(2 ^ 63:Int))||decide (i≥2 ^ 63))=false->x.length+2<=sizeLine->jR (.list ((f x y i).map V.str)) σ Q->P):P:=by refine Uo D h λa b c u v z e ha hb hc h=>ah h λx ex h=>ah h λy ey h=>ah h λi r h=>xA (aL h) λh1 h=>xE (VR.str ex ha) λt N=>xE (VR.str ey hb) λC hv=>xE (VR.int r hc) λUv hz=>xA ((aM _ _).mp h1) λh1 h3=>xA ((aM _ _).mp h1) λh1 h2=>?_;exact k x y i t C Uv (by rw[e,N,hv,hz]) (beq_eq_false_iff_ne.mpr (dJ (aU h2))) (F0 (aU h3)) (dp h1) h
theorem F1:cz g k (.builtin "str.split") (B2 Txt.splitMax):=by intro F d A af vs us hr D s wd σ Q Z R J;refine wt D J λx y i t C Uv e h2 h3 h1 J=>bx (R.fr) λm Fm hm=>?_;rw[e];refine splitN2A Fm (R.news []) h2 h3 (λl h' tk e M cn S F' N'=>?_) h1;exact az _ (.loc σ.mem.length) _ (Wd.aT _ _) (R.Ie hm F' N' (c5 _) (o:=.list ((Txt.splitMax x y i).map V.str)) ⟨strValues l,0,rfl,by rw[<-e,h_];exact wo l⟩ R.g6) R.pushed J
theorem B3:cz g k (.builtin "str.rsplit") (B2 Txt.rsplitMax):=by intro F d A af vs us hr D s wd σ Q Z R J;refine wt D J λx y i t C Uv e h2 h3 h1 J=>bx (R.fr) λm Fm hm=>?_;rw[e];refine rsplitN2A Fm (R.news []) h2 h3 (λl h' tk e M cn S F' N'=>?_) h1;exact az _ (.loc σ.mem.length) _ (Wd.aT _ _) (R.Ie hm F' N' (c5 _) (o:=.list ((Txt.rsplitMax x y i).map V.str)) ⟨strValues l,0,rfl,by rw[<-e,h_];exact wo l⟩ R.g6) R.pushed J
noncomputable def v7(y x:Str):Bool:= !(Builtin.Str.occurrences x y 0 x.length 1).isEmpty
noncomputable def dN(y:Str):List Str->Bool
 | []=>false
 |x::r=>d3 x y||dN y r
theorem uA(y:Str)(xs:List Str):xs.any (· ==y)=dN y xs:=by
 induction xs with
 |nil=>rfl
 |cons x r T=>rw[kj,jT,T];rfl
theorem fS(y:Str)(xs:List Str):dN y xs=true↔y∈xs:=by rw[<-uA,List.any_eq_true];exact⟨λh=>bx h λx h1 h2=>eq_of_beq h2▸h1,λh=>⟨y,h,beq_self_eq_true y⟩⟩
theorem uB(y:Str)(xs:List Str):decide (y∈xs)=dN y xs:=by
 cases h:dN y xs with
 |true=>exact dI ((fS y xs).mp h)
 |false=>exact dR λe=>by rw[(fS y xs).mpr e] at h;exact yU h
def Uw(o:Option O)(y:Str)(K:Bool->Prop):Prop:=v5 (o.bind O.se) (λxs=>gd (Nat.ble xs.length 30) (K (dN y xs))) (aA (o.bind O.ls) λxs=>aA (kH xs) λts=>K (dN y ts))
def wIn(a b:V):ad Bool:=λσ Q=>aA a.sv λy=>v5 b.sv (λx=>Q (v7 y x) σ) (aA b.lo λl=>Uw σ.mem[l]? y λb=>Q b σ)
def Qw(a b:V):ad Bool:=λσ Q=>aA a.sv λy=>aA b.lo λl=>Uw σ.mem[l]? y λb=>Q (!b) σ
theorem mB{n:Nat}(h:n<=30):n<scanBound:=Nat.lt_of_le_of_lt h (by decide+kernel)
theorem Ip(R:bU g F d wd σ s){y:Str}{K:Bool->Prop}(h:Uw σ.mem[l]? y K)(f:∀xs ob,s.heap.get? (wd.ρ l)=some ob->ob.SetObjOf (strKind g.prog g.w) (λk=>decide (k∈xs)) xs.length->xs.length<scanBound->K (dN y xs)->P)(j:∀I ts,s.heap.IsList (wd.ρ l) I->StrsAre I.toList ts->K (dN y ts)->P):P:=gZ h (λh=>ah h λxs e h=>xA (aL h) λh1 h=>DM (R.get (eZ O.BJ e)) λ_ ob ho M _=>f xs ob ho M (mB (aU h1)) h)
  λh=>ah h λxs e h=>ah h λts e2 h=>R.lst e λI n _ ho dL=>j I.toArray ts (b9 ho) (Im dL e2) h
theorem wv:kC g .In wIn:=by
 intro F d A af a b u v _ ha hb s wd σ Q Z R J;refine ah J λy e J=>xE (VR.str e ha) λt N=>?_;rw[N];refine gZ J (λJ=>ah J λx e J=>xE (VR.str e hb) λC hv=>?_) λJ=>ah J λl e J=>?_
 ·rw[hv];exact PySem.P.in_str (az wd _ σ (.refl _) R rfl J)
 ·rw[(VR.ref e (VR.mono Z hb)).2];exact Ip R J (λxs ob ho M h1 J=>wpAny_inSet_of (eU _ _ _ t) rfl (M.setOf ho h1) (az wd _ σ (.refl _) R.toks (by rw[uB]) J))
   λI ts ho M J=>in_list_strs ho M (az wd _ σ (.refl _) R (by rw[uA]) J)
theorem uC:kC g .NotIn Qw:=by
 intro F d A af a b u v _ ha hb s wd σ Q Z R J;refine ah J λy e J=>xE (VR.str e ha) λt N=>ah J λl e J=>?_;rw[N,(VR.ref e (VR.mono Z hb)).2];exact Ip R J (λxs ob ho M h1 J=>wpAny_notInSet_of (eU _ _ _ t) rfl (M.setOf ho h1) (az wd _ σ (.refl _) R.toks (by rw[uB]) J))
  λI ts ho M J=>notin_list_strs ho M (az wd _ σ (.refl _) R (by rw[uA]) J)
noncomputable def wx(f:V->Option PyData):List V->Option (List PyData)
 | []=>some []
 |v::r=>(f v).bind λd=>(wx f r).bind λds=>some (d::ds)
noncomputable def YJ(f:Nat->Option PyData)(v:V):Option PyData:=@V.casesOn (λ_=>Option PyData) v (some .none) (λb=>some (.bool b)) (λi=>some (.int i)) (λx=>some (.str x)) (λ_=>none) f
noncomputable def pyL(mem:List O)(f:V->Option PyData)(l:Nat):Option PyData:=(mem[l]?).bind λo=>match o with
 | .list xs=>(wx f xs).bind λds=>some (.list ds)
 | .tup xs=>(wx f xs).bind λds=>some (.tuple ds)
 |_=>none
noncomputable def xm(mem:List O):Nat->V->Option PyData
 |0=>YJ λ_=>none
 |n+1=>YJ (pyL mem (xm mem n))
theorem zR{f:V->Option PyData}(S:∀v u d,VR wd v u->f v=some d->∃as,Reads h u d as){xs:List V}{ds:List PyData}(x:aE (VR wd) xs us)(e:wx f xs=some ds):∃as,ReadsAll h us ds as:=by
 induction x generalizing ds with
 |nil=>rw[<-aq e];exact⟨[],.nil⟩
 |cons h1 _ T=>exact aI e λd e1 e=>aI e λXy e2 e=>xE (S _ _ _ h1 e1) λas ha=>xE (T e2) λbs hb=>by rw[<-aq e];exact⟨_,.cons ha hb⟩
theorem Iq{f:Nat->Option PyData}(S:∀l d,l<wd.n->f l=some d->∃as,Reads h (.ref (wd.ρ l)) d as)(v:V)(u:Value)(d:PyData)(hv:VR wd v u)(e:YJ f v=some d):∃as,Reads h u d as:=by
 cases v with
 |none=>rw[<-aq e,hv];exact⟨_,.none⟩
 |bool b=>rw[<-aq e,hv];exact⟨_,.bool _⟩
 |int i=>rw[<-aq e];exact xE hv λt hv=>by rw[hv];exact⟨_,.int _ _⟩
 |str x=>rw[<-aq e];exact xE hv λt hv=>by rw[hv];exact⟨_,.str _ _⟩
 |e_ _=>exact nS e
 |loc l=>rw[hv.2];exact S l d hv.1 e
theorem Ir(R:bU g F d wd σ s)(n:Nat):∀(v:V)(u:Value)(dt:PyData),VR wd v u->xm σ.mem n v=some dt->∃as,Reads s.heap u dt as:=by
 induction n with
 |zero=>exact Iq λl d _ e=>nS e
 |succ n T=>
  refine Iq λl d _ e=>aI e λo eo e=>jy (R.get eo) λ_ ob ho i=>?_;cases o with
  |list xs=>exact aI e λds e1 e=>dB i λI m e2 dL=>xE (zR T dL e1) λas ha=>by rw[<-aq e];rw[e2] at ho;exact⟨_,reads_list_at ho rfl rfl ha⟩
  |tup xs=>exact aI e λds e1 e=>dB i λI m e2 dL=>xE (zR T dL e1) λas ha=>by rw[<-aq e];rw[e2] at ho;exact⟨_,reads_tuple_at ho rfl rfl ha⟩
  |_=>exact nS e
def Qx(a b:V):ad Bool:=λσ Q=>aA (xm σ.mem 4 a) λx=>aA (xm σ.mem 4 b) λy=>gd (SeqAt.shaped x&&SeqAt.shaped y) (Q (PyData.eqv x y) σ)
def Ux(a b:V):ad Bool:=λσ Q=>Qx a b σ λr a9=>Q (!r) a9
theorem D4{af:Wd}(R:bU g F d wd σ s)(hr:cK A 0){a b:V}{v:Value}(ha:VR wd a u)(hb:VR wd b v){Q:Bool->St->Prop}(h:Qx a b σ Q)(k:∀x y as bs,Reads s.heap u x as->Reads s.heap v y bs->SeqAt.shaped x=true->SeqAt.shaped y=true->A.units+64<cLine->Q (PyData.eqv x y) σ->P):P:=ah h λx e1 h=>ah h λy e2 h=>xA (aL h) λh1 h=>xA ((aM _ _).mp h1) λh1 h2=>xE (Ir R 4 a u x ha e1) λas ra=>xE (Ir R 4 b v y hb e2) λbs rb=>
  k x y as bs ra rb h1 h2 (by have:=hr.units;exact aQ [_,_] (.c 1 (.a (.a (.a (.v 0) (.m 16 (.n 0))) (.n 80)) (.n 1)) (.v 1) .nil) 0 (.a (.a (.v 0) (.n 64)) (.n 1)) (.v 1) tt this) h
theorem B4:kC g .Eq Qx:=λF d A af a b u v hr ha hb s wd σ Q Z R J=>D4 (af:=af) R hr (VR.mono Z ha) (VR.mono Z hb) J λx y as bs ra rb h1 h2 N J=>by exact SeqAt.compareEq_shaped ra rb h1 h2 N (az wd _ σ (.refl _) R rfl J)
theorem B5:kC g .NotEq Ux:=λF d A af a b u v hr ha hb s wd σ Q Z R J=>D4 (af:=af) R hr (VR.mono Z ha) (VR.mono Z hb) J λx y as bs ra rb h1 h2 N J=>by exact SeqAt.compareNe_shaped ra rb h1 h2 N (az wd _ σ (.refl _) R rfl J)
end
section
theorem F2(w:World)(x:Str):PyData.keyHash w.params x=hashStr w x:=rfl
theorem uD(h:aE (lZ g wd) es ds):∀e∈ds,∃k,(strKind g.prog g.w).is k e.key=true/\e.hash=(strKind g.prog g.w).hash k:=by
 induction h with
 |nil=>exact λ_ h=>nomatch h
 | @cons p _ _ _ e _ T=>exact λe' h=>(List.mem_cons.mp h).elim (λq=>dB e λt u e _=>by rw[q,e];exact⟨p.1,eU _ _ _ t,F2 _ _⟩) λq=>T e' q
theorem It(k x:Str)(t:Tok):(strKind g.prog g.w).is k (.str x t)=d3 x k:=by refine(?_ :Value.isStrOf k (.str x t)=_);unfold Value.isStrOf;exact jT x k
theorem uE{n:Str}(h:aE (lZ g wd) es ds):(∀v,eK n es=some v->∃u,(ds.find? λe=>(strKind g.prog g.w).is n e.key).map (·.val)=some u/\VR wd v u)/\(eK n es=none->(ds.find? λe=>(strKind g.prog g.w).is n e.key).map (·.val)=none):=by
 induction h with
 |nil=>exact⟨λv e=>nS e,λ_=>rfl⟩
 | @cons p d es ds e _ T=>
  refine dB e λt u e hv=>?_;rw[List.find?_cons,show(strKind g.prog g.w).is n d.key=d3 p.1 n by rw[e];exact It _ _ _];show(∀v,cond (d3 p.1 n) (some p.2) (eK n es)=some v->_)/\(cond (d3 p.1 n) (some p.2) (eK n es)=none->_);cases d3 p.1 n with
  |true=>exact⟨λv e'=>⟨u,by rw[e];rfl,aq e'▸hv⟩,λe=>LG e⟩
  |false=>exact T
noncomputable def l8:List (Str×V)->Bool
 | []=>true
 |p::r=>(eK p.1 r).isNone&&l8 r
theorem F3{n:Str}(h:eK n es=none):n∉es.map (·.1):=by
 induction es with
 |nil=>exact λh=>nomatch h
 |cons p r T=>
  replace h:cond (d3 p.1 n) (some p.2) (eK n r)=none:=h;cases Y:d3 p.1 n with
  |true=>rw[Y] at h;exact LG h
  |false=>rw[Y] at h;exact λe=>(List.mem_cons.mp e).elim (λe=>by rw[(cq _ _).mpr e.symm] at Y;exact yU Y) (T h)
theorem pD(h:l8 es=true):(es.map (·.1)).Nodup:=by
 induction es with
 |nil=>exact .nil
 |cons p r T=>exact xA ((aM _ _).mp h) λh1 h2=>List.nodup_cons.mpr ⟨F3 (Option.isNone_iff_eq_none.mp h1),T h2⟩
noncomputable def jO(es:List (Str×V))(ds:List DictEntry):List (Str×Value):=(es.map (·.1)).zip (ds.map (·.val))
theorem F4(h:aE (lZ g wd) es ds):Pairs (strKind g.prog g.w) ds (jO es ds):=by
 induction h with
 |nil=>exact .nil
 |cons e _ T=>exact dB e λt u e _=>.cons (by rw[e];exact eU _ _ _ t) (by rw[e]) T
theorem oP(h:aE (lZ g wd) es ds):(jO es ds).map (·.1)=es.map (·.1):=by unfold jO;rw[List.map_fst_zip];simp[h.len]
theorem qw(ds:List DictEntry)(n:Nat):(dictOf ds n).ExactDict:=⟨rfl,rfl,rfl⟩
theorem gu{n:Nat}(ho:h.get? a=some (dictOf ds n))(he:aE (lZ g wd) es ds)(hn:l8 es=true):h.DictOf (strKind g.prog g.w) a (jO es ds):=by refine⟨_,ds.toArray,n,ho,qw ds n,rfl,λe h=>uD he e (by simpa using h),by simpa using F4 he,?_⟩;rw[oP he];exact pD hn
theorem wy{n:Nat}(ho:h.get? a=some (dictOf ds n))(he:aE (lZ g wd) es ds):h.MapOf (strKind g.prog g.w) a (λn=>(ds.find? λe=>(strKind g.prog g.w).is n e.key).map (·.val)):=by
 refine⟨_,ds.toArray,n,ho,qw ds n,rfl,λe h=>uD he e (by simpa using h),λk=>?_⟩;unfold findBy;first
  |rfl
  |simp
noncomputable def sP(mem:List O)(v:V):Option (Nat×List (Str×V)):=v.lo.bind λl=>(qj mem[l]?).bind λes=>some (l,es)
theorem pE{o:Option O}(h:qj o=some es):o=some (.dict es):=eZ O.BM h
theorem bU.dv(R:bU g F d wd σ s){a:V}(ha:VR wd a u){p:Nat×List (Str×V)}(h:sP σ.mem a=some p)(k:∀ds n,u= .ref (wd.ρ p.1)->p.1<wd.n->s.heap.get? (wd.ρ p.1)=some (dictOf ds n)->aE (lZ g wd) p.2 ds->P):P:=by refine aI h λl e h=>aI h λes e' h=>?_;rw[V.lB e] at ha;rw[<-aq h] at k;exact mr (R.get (pE e')) λZ ob ho ds n E G=>k ds n ha.2 Z (ho.trans (ag some E)) G
theorem xn{mem:List O}(M:hJ g wd mem h)(Z:l<wd.n):(wd.ρ l==sysModules)=false:=beq_eq_false_iff_ne.mpr (M.low l Z)
def Uy(a i:V):ad V:=λσ Q=>aA (sP σ.mem a) λp=>aA i.sv λx=>aA (eK x p.2) λv=>Q v σ
theorem YK{b:PySem.Expr}{wa h:ad V}(ha:be g F k value wa)(hi:be g F k b h)(hp:nx b=true):be g F k (.Subscript value b pos) (λσ Q=>wa σ λa G=>h G λi E=>Uy a i E Q):=by intro d A af hr s wd σ Q Z R J;refine Subscript_ (bb.go (ha d A af hr) Z R J λu s' bg a a9 h1 h2 h3 h4=>?_);refine bb.go (hi d A af hr) (Z.trans h1) h2 h4 λv v4 o i m y1 O y3 y4=>?_;refine ah y4 λp e J=>ah J λx ex J=>ah J λf e2 J=>xE (VR.str ex y3) λt hv=>O.dv (VR.mono y1 h3) e λds n N dP ho H=>bx ((uE H).1 f e2) λu' Ql Tz=>?_;rw[hv,N];refine tail_any ⟨_,ho,rfl⟩ slot_dict_getitem.lookup (wpAny_getItem_of (eU _ _ x t) (wy ho H) Ql ?_) (k5 hp _ _);exact az o f m (h1.trans y1) O.toks Tz J
def zS(vs:List V):ad V:=o7 vs λa b σ Q=>aA (sP σ.mem a) λp=>aA b.sv λx=>v5 (eK x p.2) (λv=>Q v σ) (Q .none σ)
theorem zT:cz g k (.builtin "dict.get") zS:=by
 intro F d A af vs us hr D s wd σ Q Z R J;refine xl D J λa b u v e ha hb J=>ah J λp e1 J=>ah J λx ex J=>xE (VR.str ex hb) λt hv=>R.dv (VR.mono Z ha) e1 λds n N dP ho H=>?_;rw[e,N,hv];refine call_meetsIn PySem.F.slot_dict_get ⟨_,ho,rfl⟩ PySem.F.entry_dict_get (PySem.F.args_dict_get_2 _ _) (meets_dict_get (strKind g.prog g.w) _ (eU _ _ x t) (xn R.mem dP)) ⟨_,wy ho H,?_⟩;refine(?_ :∃bg b a9,_);refine FJ J (λf e2 J=>bx ((uE H).1 f e2) λu' N hv=>?_) λe2 J=>?_
 ·rw[N];exact az wd f σ (.refl _) R.toks hv J
 ·rw[(uE H).2 e2];exact az wd .none σ (.refl _) R.toks rfl J
def D5(a:V):ad Bool:=λσ Q=>aA (sP σ.mem a) λp=>gd (l8 p.2&&bw p.2.length) (Q (!(Nat.beq p.2.length 0)) σ)
theorem F5{W:ad V}(h:be g F k e W)(hv:∀bc b,PySem.isTrue e bc b=(do let v <-b;standAt e.pos;holding [v] (truthy v))):qe g F k e (λσ Q=>W σ λv a9=>D5 v a9 Q):=by
 intro d A af hr;rw[hv];refine bb.bind (h d A af hr) λwd u a Z D=>bb.standAt (bb.holding ?_);intro s bg σ Q j R J;refine ah J λp e J=>xA (aL J) λh1 J=>xA ((aM _ _).mp h1) λh1 h2=>R.dv (VR.mono j D) e λds n N dP ho H=>?_;rw[N];have cn:(jO p.2 ds).length=p.2.length:=by have:=ag List.length (oP H);simpa using this
 refine wpAny_truthy_dict (xn R.mem dP) (gu ho H h1) (by rw[cn];exact qi h2) ?_;rw[show(!(jO p.2 ds).isEmpty)= !(Nat.beq p.2.length 0) by rw[<-cn];cases jO p.2 ds<;>rfl];exact az bg _ σ (.refl _) R.toks rfl J
def Qy(vs:List V):ad V:=kG vs λa σ Q=>aA (sP σ.mem a) λp=>gd (l8 p.2) (jR (.bP .bI [a]) σ Q)
theorem F6:cz g k (.builtin "dict.items") Qy:=by intro F d A af vs us hr D s wd σ Q Z R J;refine qr D J λa u e ha J=>ah J λp e1 J=>xA (aL J) λh1 J=>R.dv (VR.mono Z ha) e1 λds n N dP ho H=>?_;rw[N] at ha;rw[e,N];refine call_meetsIn ou ⟨_,ho,rfl⟩ PySem.F.entry_dict_items (PySem.F.args_dict_items_1 _) (meets_dict_items (strKind g.prog g.w) _ (xn R.mem dP)) ⟨⟨_,gu ho H h1⟩,?_⟩;exact az _ (.loc σ.mem.length) _ (Wd.aT _ _) (R.cE (o:=.bP .bI [a]) ⟨_,rfl,.cons (VR.mono (Z.trans (Wd.aT _ _)) ha) .nil⟩) R.pushed J
theorem Qz:be g F k (.Dict [] [] pos) (jR (.dict [])):=by intro d A af hr s wd σ Q Z R J;refine wpAny_Dict_empty ?_;exact az _ (.loc σ.mem.length) _ (Wd.aT _ _) (R.cE (o:=.dict []) ⟨[],0,rfl,.nil⟩) R.pushed J
theorem Iu:cz g k (.type "set") (λvs=>match vs with
 | []=>jR (.set [])
 |_=>uk):=by
 intro F d A af vs us hr D s wd σ Q Z R J;cases D with
 |nil=>refine call_set_0 λled=>?_;exact az _ (.loc σ.mem.length) _ (Wd.aT _ _) (R.cE (o:=.set []) ⟨by simpa using setObjOf_fresh led,rfl,rfl⟩) R.pushed J
 |cons _ _=>exact J.elim
noncomputable def QA(o:Option O):Option (List Str):=o.bind O.se
noncomputable def QB(mem:List O)(v:V):Option (Nat×List Str):=v.lo.bind λl=>(QA mem[l]?).bind λxs=>some (l,xs)
theorem F7{o:Option O}{xs:List Str}(h:QA o=some xs):o=some (.set xs):=eZ O.BJ h
noncomputable def jC(x:Str)(xs:List Str):List Str:=cond (dN x xs) xs (xs++[x])
theorem uF(x:Str)(xs:List Str):(jC x xs).length=if decide (x∈xs)=true then xs.length else xs.length+1:=by rw[uB];unfold jC;cases dN x xs<;>simp
theorem uG(x y:Str)(xs:List Str):decide (y∈jC x xs)=(decide (y∈xs)||decide (y=x)):=by
 unfold jC;cases h:dN x xs with
 |true=>
  have h1:=(fS x xs).mp h;by_cases e:y=x
  ·subst e;simp[h1]
  ·simp[e]
 |false=>simp
def Mo(vs:List V):ad V:=o7 vs λa b σ Q=>aA (QB σ.mem a) λp=>aA b.sv λx=>gd (Nat.ble p.2.length 20) (Q .none {σ with mem:=σ.mem.set p.1 (.set (jC x p.2))})
theorem B6:cz g k (.builtin "set.add") Mo:=by intro F d A af vs us hr D s wd σ Q Z R J;refine xl D J λa b u v e ha hb J=>ah J λp e1 J=>ah J λx ex J=>xA (aL J) λh1 J=>xE (VR.str ex hb) λt hv=>aI e1 λl r e1=>aI e1 λxs es e1=>?_;rw[<-aq e1] at h1 J;have h1:=aU h1;refine PB (R.get (F7 es)) λdP o ho M hc hd=>?_;rw[e,(VR.ref r (VR.mono Z ha)).2,hv];refine call_set_add (eU _ _ x t) rfl (M.setOf ho (mB (am h1 (by decide)))) (mB (am (jw h1) (by decide))) λh' z q=>bx (q.objOf) λso' k6 Uz=>?_;have i:=Uz.1;refine az wd .none _ (.refl _) (R.setM dP z k6 (o':=.set (jC x xs)) ⟨?_,i.1,i.2.1⟩) rfl J;rw[uF,<-show(λj=>decide (j∈xs)||decide (j=x))=λk=>decide (k∈jC x xs) from funext λk=>(uG x k xs).symm];exact Uz
noncomputable def Mp(xs:List V)(i:Int)(v:V):Option (List V):=match i with
 | .ofNat n=>cond (Nat.blt n xs.length&&bw xs.length) (some (xs.set n v)) none
 | .negSucc n=>cond (Nat.blt n xs.length&&bw xs.length) (some (xs.set (xs.length-(n+1)) v)) none
def l9(a i v:V):ad Unit:=λσ Q=>aA (dC σ.mem a) λp=>aA i.iv λi=>aA (Mp p.2 i v) λI=>Q () {σ with mem:=σ.mem.set p.1 (.list I)}
theorem D6{x:Value}{n j:Nat}(h:k=j):Obj.mapSeq (λxs=>xs.setIfInBounds k x) (aG "list" us n)=aG "list" (us.set j x) n:=by rw[h];unfold Obj.mapSeq aG;simp
theorem QC{m n:Nat}(hm:m<n):(Int.negSucc m+(n:Int)).toNat=n-(m+1):=by rw[show Int.negSucc m+(n:Int)=Int.subNatNat n (m+1) from rfl,Int.subNatNat_of_le hm];rfl
theorem sQ{a i:V}{j x:Value}(ha:VR af a u)(hi:VR af i j)(hv:VR af v x):bb g F d A af td (setItem u j x) (l9 a i v):=by
 intro s wd σ Q Z R J;refine ah J λp e J=>ah J λi r J=>ah J λI e2 Y=>xE (VR.int r hi) λt hj=>R.lv (VR.mono Z ha) e λus n N dP ho Mq=>?_;rw[N,hj];cases i with
 |negSucc m=>refine kF e2 λhc e2=>xA ((aM _ _).mp hc) λhm hz=>?_;rw[<-e2] at Y;have hm0:=aU hm;have hm:=Mq.len▸hm0;have hz:=Mq.len▸aU hz;refine ki_setBack (items:=us.toArray) (n:=n) ho (lU m) (by rw[aZ];omega) (by omega) ?_;have e4:=D6 (us:=us) (x:=x) (n:=n) (k:=(Int.negSucc m+(us.toArray.size:Int)).toNat) (j:=p.2.length-(m+1)) (by rw[aZ,<-Mq.len];exact QC hm0);exact az wd () _ (.refl _) (R.setM dP (eg ..) (o':=.list (p.2.set (p.2.length-(m+1)) v)) ((d_ _ ho (by rw[e4];rfl)).trans (ag some e4)) ⟨_,n,rfl,Mq.set (VR.mono Z hv) _⟩) d6 Y
 |ofNat m=>refine kF e2 λhc e2=>xA ((aM _ _).mp hc) λhm hz=>?_;rw[<-e2] at Y;have hm:=Mq.len▸aU hm;have hz:=Mq.len▸aU hz;refine ki_setAt ho (gj m) (Int.ofNat_lt.mpr (dA (dA hm hz) (by decide:16777216<=2 ^ 63))) (by rw[aZ];exact Int.ofNat_lt.mpr hm) ?_;have e4:=D6 (us:=us) (x:=x) (n:=n) (k:=(Int.ofNat m).toNat) rfl;exact az wd () _ (.refl _) (R.setM dP (eg ..) (o':=.list (p.2.set m v)) ((d_ _ ho (by rw[e4];rfl)).trans (ag some e4)) ⟨us.set m x,n,rfl,Mq.set (VR.mono Z hv) m⟩) d6 Y
theorem Iv{i:PySem.Expr}(he:be g F k e We)(ho:be g F k o Wo)(hi:be g F k i Wi)(M:∀d,swapsWith e (some (.Subscript o i p)) pos.line (aK F d)=Pure.pure false):iT g F k (.Assign [.Subscript o i p] e pos) (λσ Q=>We σ λv G=>Wo G λa E=>Wi E λj H=>l9 a j v H λ_ h=>Q .next h):=by intro d A af hr s wd σ Q Z R J;refine wpAny_Assign_Subscript (bb.go (he d A af hr) Z R J λu dG D v G x1 x2 x3 x4=>?_) (M d);refine bb.go (ho d A af hr) (Z.trans x1) x2 x4 λb mw P a E y1 O y3 y4=>?_;refine bb.go (hi d A af hr) ((Z.trans x1).trans y1) O y4 λiv c X j H L z2 z3 z4=>?_;refine bb.go (sQ (VR.mono L y3) z3 (VR.mono (y1.trans L) x3)) (.refl _) z2 z4 λ_ BU ul _ h t1 t2 _ t4=>?_;exact az ul .next h (((x1.trans y1).trans L).trans t1) t2 rfl t4
theorem Iw{i:PySem.Expr}{op:Operator}{W:V->V->ad V}(LI:sH g op W)(ho:be g F k o Wo)(hi:be g F k i Wi)(he:be g F k e We)(ha:∀b iv new,augStore i b iv new=(do holding [new,b,iv] (setItem b iv new);release [new,b,iv] [];pure .next)):iT g F k (.AugAssign (.Subscript o i p) op e pos) (λσ Q=>Wo σ λa G=>Wi G λj E=>sF a j E λz H=>We H λv h=>W z v h λr mZ=>l9 a j r mZ λ_ t=>Q .next t):=by intro d A af hr s wd σ Q Z R J;refine wpAny_AugAssign_SubscriptAny (bb.go (ho d A af hr) Z R J λu dG D a G x1 x2 x3 x4=>?_) ha;refine bb.go (hi d A af hr) (Z.trans x1) x2 x4 λiv mw P j E y1 O y3 y4=>?_;refine bb.go (sG (VR.mono y1 x3) y3) (.refl _) O y4 λz c X Qd H L z2 z3 z4=>?_;refine bb.go (he d A af hr) (((Z.trans x1).trans y1).trans L) z2 z4 λr BU ul f h t1 t2 t3 t4=>?_;refine bb.go (LI F d A ul Qd f z r (VR.mono t1 z3) t3) (.refl _) t2 t4 λacH FQ qm r' mZ q1 q2 q3 q4=>?_;refine bb.go (sQ (VR.mono (((y1.trans L).trans t1).trans q1) x3) (VR.mono ((L.trans t1).trans q1) y3) q3) (.refl _) q2 q4 λ_ zJ k7 _ t w1 w2 _ w4=>?_;exact az k7 .next t (((((x1.trans y1).trans L).trans t1).trans q1).trans w1) w2 rfl w4
def te(v:V)(K:Str->Prop):Prop:=aA v.sv K
theorem YL{W:ad V}(h:be g F k e W):be g F k (.FormattedValue e (-1) none pos) (λσ Q=>W σ λv a9=>te v λx=>gd (bw x.length) (Q (.str x) a9)):=by intro d A af hr s wd σ Q Z R J;refine wpAny_FormattedValue_plain (bb.go (h d A af hr) Z R J λu dG D v G x1 x2 x3 x4=>?_);refine ah x4 λy e x4=>xA (aL x4) λh1 x5=>xE (VR.str e x3) λt N=>?_;rw[N];exact wpAny_formatField_str (az D (.str y) G x1 x2 ⟨_,rfl⟩ x5) (az D (.str y) G x1 x2.toks ⟨_,rfl⟩ x5) (dp h1)
def Ix(g:G)(F:df)(k:Nat)(es:List PySem.Expr)(W:Str->ad Str):Prop:=∀d A af bV s wd σ (Q:Str->St->Prop),cK A k->Wd.Le af wd->bU g F d wd σ s->W bV σ Q->
  Joins (model g.prog g.w) A (λ_ _=>False) (evalEach es (aK F d)) bV (λm s'=>∃bg a9,Wd.Le wd bg/\bU g F d bg a9 s'/\Q m a9) s
theorem UA:Ix g F k [] (λbV σ Q=>Q bV σ):=λd A af bV s wd σ Q hr Z R J=>⟨wd,σ,.refl _,R,J⟩
theorem uH{Q Q':Str->Shared->Prop}(Y:∀o s,Q o s->Q' o s)(ts:List (Sem Value)):∀(bV:Str)(s:Shared),Joins M A E ts bV Q s->Joins M A E ts bV Q' s:=by
 induction ts with
 |nil=>exact λbV s h=>Y _ _ h
 |cons t r T=>exact λbV s h=>a_ h (λv dG x=>dZ x λy tk e hz hr=>⟨y,tk,e,hz,T _ _ hr⟩) λ_ _ x=>x
theorem QD{es:List PySem.Expr}{W:ad V}{W':Str->ad Str}(h:be g F k e W)(h':Ix g F k es W')(he:∀bc,evalEach (e::es) bc=eval e bc::evalEach es bc):Ix g F k (e::es) (λbV σ Q=>W σ λv G=>te v λy=>gd (bw (bV.length+y.length)) (W' (bV++y) G Q)):=by intro d A af bV s wd σ Q hr Z R J;rw[he];refine bb.go (h d A af hr) Z R J λu dG D v G x1 x2 x3 x4=>?_;refine ah x4 λy e x4=>xA (aL x4) λh1 x5=>xE (VR.str e x3) λt N=>?_;exact⟨y,t,N,by rw[Str.length_append];exact dp h1,uH (λo s' z=>dZ z λbg a9 L z2 z3=>⟨bg,a9,x1.trans L,z2,z3⟩) _ _ _ (h' d A af (bV++y) dG D G Q hr (Z.trans x1) x2 x5)⟩
theorem Mr{i c:PySem.Expr}{es:List PySem.Expr}{W:Str->ad Str}(h:Ix g F k (i::c::es) W):be g F k (.JoinedStr (i::c::es) pos) (λσ Q=>W Str.empty σ λm a9=>gd (bw m.length) (Q (.str m) a9)):=by
 intro d A af hr s wd σ Q Z R J;refine wpAny_JoinedStr (uH (λo s' z=>?_) _ _ _ (h d A af Str.empty s wd σ _ hr Z R J));refine dZ z λbg a9 L z2 z3=>?_;try clear z
 refine xA (aL z3) λh1 z4=>?_;exact⟨dp h1,bg,.str o,a9,L,z2.toks,⟨_,rfl⟩,z4⟩
end
set_option maxHeartbeats 1000000
theorem F8:typeLookup (.type "list") "append"=Pure.pure (some (.builtin "list.append")):=by rw[hX,ju];kernel_rfl
theorem nK:Slot "method_descriptor" "__get__" "method_descriptor.__get__":=.of (owner:="method_descriptor") (n:="__get__") (by rw[hX,ju];kernel_rfl) (by decide+kernel) (by decide+kernel) (by decide+kernel)
  (by first|exact .inl (by decide+kernel)|exact .inr (by decide+kernel)) (by rw[ke];kernel_rfl)
theorem F9:typeLookup (.type "method_descriptor") "__set__"=Pure.pure none:=by rw[hX,ju];kernel_rfl
theorem F_:typeLookup (.type "method_descriptor") "__delete__"=Pure.pure none:=by rw[hX,ju];kernel_rfl
theorem xo:entryFor table "method_descriptor.__get__"=some Builtin.«method_descriptor.__get__» :=entryFor_of_tree (by kernel_rfl)
theorem zU(a b c:Value):argsOk "method_descriptor.__get__" ⟨[a,b,c],[]⟩:=by unfold argsOk;kernel_rfl
theorem zV:Manifest.toldItsClass.contains "list.append"=false:=by decide+kernel
theorem xp:(".".intercalate ("list.append".cutAt '.').dropLast)="list":=by first|kernel_rfl|decide+kernel
noncomputable def qx(a:Addr):Obj:={cls:=.type "builtin_function_or_method",data:=.fields #[.builtin "list.append",.ref a]}
section
variable {g:Array GenState}{d:Drawn}{t:Nat}{os:OsState}{o:Obj}
theorem B8{R:Result->Shared->Prop}(B:h.get? a=some o)(hc:o.cls= .type "list")(Y:R (.ok (.ret (.ref h.objs.size))) ⟨h.push (qx a),g,d,t,os⟩):codeAny (model prog w) A (.call (.builtin "method_descriptor.__get__") ⟨[.builtin "list.append",.ref a,.type "list"],[]⟩) R ⟨h,g,d,t,os⟩:=by
 have y:(⟨h,g,d,t,os⟩:Shared).TypeIs (.ref a) "list":=⟨_,B,hc⟩;have hT5:=b0;have f9:=zV;have f8:=sub_list_list;refine oE nK.plain xo (nK.check _ _ _ _ _ _ _ _ hT5 (zU _ _ _) ?_);have f10:isSubtype (.type "list") (.type (".".intercalate ("list.append".cutAt '.').dropLast))=Pure.pure true:=by rw[xp];exact sub_list_list
 repeat (any_goals (first|assumption|wp_step))
theorem xq{Q:PySem.Fin->Shared->Prop}{n:Nat}(B:h.get? a=some {cls:=.type "list",dict:=none,data:=.seq xs n,slots:= #[]})(Y:Q (.done (.ret (.ref h.objs.size))) ⟨h.push (qx a),g,d,t,os⟩):wpAny (model prog w) A (Builtin.«object.__getattribute__» ⟨[.ref a,.str "append" tk],[]⟩) Q E ⟨h,g,d,t,os⟩:=by
 have y:(⟨h,g,d,t,os⟩:Shared).TypeIs (.ref a) "list":=⟨_,B,rfl⟩;have hT5:=b0;have f4:=F8;have f5:=b0;have f6:=nK.lookup;have f7:=F9;have f8:=F_;repeat (any_goals (first|assumption|wp_step))
 refine B8 B rfl ?_;repeat (any_goals (first|assumption|wp_step))
theorem zW{R:Result->Shared->Prop}{n:Nat}(B:h.get? a=some {cls:=.type "list",dict:=none,data:=.seq xs n,slots:= #[]})(Y:R (.ok (.ret (.ref h.objs.size))) ⟨h.push (qx a),g,d,t,os⟩):codeAny (model prog w) A (.call (.builtin "list.__getattribute__") ⟨[.ref a,.str "append" tk],[]⟩) R ⟨h,g,d,t,os⟩:=oE PySem.F.slot_list_getattribute.plain PySem.F.entry_list_ga (PySem.F.slot_list_getattribute.check _ _ _ _ _ _ _ _ (show(⟨h,g,d,t,os⟩:Shared).TypeIs (.ref a) "list" from⟨_,B,rfl⟩) (PySem.F.args_list_getattribute_2 _ _) (xq B Y))
theorem zX{Q:Value->Shared->Prop}{n:Nat}{ex:Bool}(B:h.get? a=some {cls:=.type "list",dict:=none,data:=.seq xs n,slots:= #[]})(Y:Q (.ref h.objs.size) ⟨h.push (qx a),g,d,t+1,os⟩):wpAny (model prog w) A (getAttr (.ref a) "append" ex) Q E ⟨h,g,d,t,os⟩:=by
 have y:∀t,(⟨h,g,d,t,os⟩:Shared).TypeIs (.ref a) "list":=λ_=>⟨_,B,rfl⟩;have q:=PySem.F.slot_list_getattribute.lookup;have f3:=PySem.F.slot_list_getattribute.bind (.ref a);unfold getAttr getAttrBy;repeat (any_goals (first|assumption|exact y _|wp_step))
 rw[aH (by cases ex<;>decide)];repeat (any_goals (first|assumption|exact y _|wp_step))
 refine zW B ?_;repeat (any_goals (first|assumption|exact y _|wp_step))
end
section
def gc(g:G)(k:Nat)(W:V->List V->ad V):Prop:=(∀(F:df)(d:g_)(wd:Wd)(σ:St)(s:Shared)(v:V)(u:Value)(vs:List V)(Q:V->St->Prop),bU g F d wd σ s->VR wd v u->W v vs σ Q->jH (model g.prog g.w) s.heap u)/\
 (∀(F:df)(d:g_)(A:Around)(af:Wd)(v:V)(u:Value)(vs:List V)(us:List Value),cK A k->VR af v u->aE (VR af) vs us->bb g F d A af pw (call u us) (W v vs))
noncomputable def UB(w:Value):Option Addr:=match w with
 | .ref b=>some b
 |_=>none
theorem Iy{w:Value}{b:Addr}(h:UB w=some b):w= .ref b:=by cases w<;>first|exact nS h|exact ag _ (aq h)
noncomputable def uI(a:Addr)(v:V):Bool:=(v.im.bind UB).any λb=>Nat.beq b a
theorem nL(h:uI a v=true):v= .e_ (.ref a):=bx (fi h) λb e h=>aI e λw e1 e2=>by rw[V.BP e1,Iy e2,bK h]
theorem OA(f:Addr){W:List V->ad V}(N:∀M h,(∀a o,g.hb.get? a=some o->h.get? a=some o)->jH M h (.ref f))(hc:cz g k (.ref f) W):gc g k (λv vs σ Q=>gd (uI f v) (W vs σ Q)):=by
 refine⟨λF d wd σ s v u vs Q R hv J=>xA (aL J) λh1 _=>?_,λF d A af v u vs us hr hv D s wd σ Q Z R J=>xA (aL J) λh1 T=>?_⟩
 ·rw[nL h1] at hv;rw[show u= .ref f from hv];exact N _ _ R.hb
 ·rw[nL h1] at hv;rw[show u= .ref f from hv];exact hc F d A af vs us hr D s wd σ Q Z R T
theorem bU.fl2(R:bU g F d wd σ s){p:FK×List V}{q:V×V}(e:(σ.mem[l]?).bind O.fl=some p)(e2:l2 p.2=some q)(k:∀u v,l<wd.n->s.heap.get? (wd.ρ l)=some (HG p.1.name [u,v])->VR wd q.1 u->VR wd q.2 v->P):P:=ua (R.get (eZ O.BN e)) λZ ob ho I e4 dL=>by rw[BO e2] at dL;exact BZ dL λu v E N hv=>k u v Z (ho.trans (by rw[e4,E])) N hv
noncomputable def wA(f:Addr)(o:Option O):Option V:=(o.bind O.fl).bind λp=>cond p.1.me ((l2 p.2).bind λq=>cond (uI f q.1) (some q.2) none) none
noncomputable def zY(f:Addr)(mem:List O)(v:V):Option V:=v.lo.bind λl=>wA f mem[l]?
theorem qy{f:Addr}(R:bU g F d wd σ s)(hv:VR wd v u){self:V}(h:zY f σ.mem v=some self):∃x su,u= .ref x/\s.heap.get? x=some (methodObj (.ref f) su)/\VR wd self su:=aI h λl e h=>aI h λp ep h=>k0 h λhm h=>aI h λq y h=>k0 h λhi h=>R.fl2 ep y λa b dP ho ha hb=>by rw[nL hi] at ha;rw[FK.PM hm,show a= .ref f from ha] at ho;exact⟨_,b,(VR.ref e hv).2,ho,aq h▸hb⟩
theorem QE(f:Addr){W:List V->ad V}(QF:fnIn g.K f=true)(hc:cO g k (.ref f) W):gc g k (λv vs σ Q=>aA (zY f σ.mem v) λself=>W (self::vs) σ Q):=by
 refine⟨λF d wd σ s v u vs Q R hv J=>ah J λself h1 _=>dZ (qy R hv h1) λx su e B _=>?_,λF d A af v u vs us hr hv D s wd σ Q Z R J=>ah J λself h1 J=>dZ (qy R (VR.mono Z hv) h1) λx su e B M=>?_⟩
 ·rw[e];exact keeps_M QF s.heap ⟨B,g.X.keeps R.hb⟩
 ·rw[e];exact fh (method_call B (hc F d A wd (self::vs) (su::us) hr (.cons M (D.mono λ_ _=>VR.mono Z)) s wd σ Q (.refl _) R J))
noncomputable def OB(w:Value):Bool:=match w with
 | .builtin i=>i=="list.append"
 |_=>false
theorem Ga{w:Value}(h:OB w=true):w= .builtin "list.append":=by cases w<;>first|exact nB h|exact ag _ (eq_of_beq h)
noncomputable def OD(o:Option O):Option V:=(o.bind O.fl).bind λp=>cond p.1.bm ((l2 p.2).bind λq=>cond (q.1.im.any OB) (some q.2) none) none
noncomputable def Iz(mem:List O)(v:V):Option V:=v.lo.bind λl=>OD mem[l]?
theorem zZ(R:bU g F d wd σ s)(hv:VR wd v u){self:V}(h:Iz σ.mem v=some self):∃x su,u= .ref x/\s.heap.get? x=some {cls:=.type "builtin_function_or_method",data:=.fields #[.builtin "list.append",su]}/\VR wd self su:=aI h λl e h=>aI h λp ep h=>k0 h λhm h=>aI h λq y h=>k0 h λhi h=>bx (fi hi) λw ew hw=>R.fl2 ep y λa b dP ho ha hb=>by rw[V.BP ew,Ga hw] at ha;rw[FK.PN hm,show a= .builtin "list.append" from ha] at ho;exact⟨_,b,(VR.ref e hv).2,ho,aq h▸hb⟩
theorem uJ{vs:Array Value}(B:h.get? x=some {cls:=.type "builtin_function_or_method",data:=.fields vs}):jH M h (.ref x):=⟨.machine,.inr (.inl rfl),(Looks.ld B).andThen .now⟩
theorem jd{c:Bool}{a b:Sem α}{Q:α->Shared->Prop}(hc:c=true)(h:wpAny M A a Q E s):wpAny M A (if c=true then a else b) Q E s:=by subst hc;exact h
theorem tf:isSubtype (.type "list") (.type "module")=Pure.pure false:=by rw[ke];kernel_rfl
theorem z9:builtinKind "list.append"=some .method:=by decide+kernel
theorem uK:Manifest.varargsMethods.contains "list.append"=false:=by decide+kernel
noncomputable def wB:Manifest.Signature:=(Manifest.signature? "list.append").getD ⟨.positional,"","",.none,[]⟩
theorem B9:Manifest.signature? "list.append"=some wB:=by kernel_rfl
theorem Gb(a:Addr)(v:Value):Bind.checkArgs "list.append" {wB with full:=s!"{Bind.lastOf "list"}.{Bind.lastOf "list.append"}"} ⟨[.ref a,v],[]⟩=Pure.pure ():=by first|kernel_rfl|rfl
theorem B_{Q:Unit->Shared->Prop}{v:Value}{n:Nat}(B:s.heap.get? a=some {cls:=.type "list",dict:=none,data:=.seq xs n,slots:= #[]})(Y:Q () s):wpAny M A (checkBoundCall "list.append" ⟨[.ref a,v],[]⟩) Q E s:=by obtain⟨h,g,d,t,os⟩:=s;have y:(⟨h,g,d,t,os⟩:Shared).TypeIs (.ref a) "list":=⟨_,B,rfl⟩;have p:=tf;unfold checkBoundCall;rw[B9,z9];dsimp only;refine fc (by decide) ?_;refine U (j8 y p ?_);rw[uK];refine fc (by decide) ?_;have hb:=Gb a v;refine U ?_;repeat (any_goals (first|assumption|wp_step))
theorem qz(I:List Value)(y:Value)(n:Nat):Obj.mapSeq (·.push y) (aG "list" I n)=aG "list" (I++[y]) (n+1):=by unfold aG;rw[mapSeq_push];simp
theorem IA:(Value.type "builtin_function_or_method"==Value.type "method"||Value.type "builtin_function_or_method"==Value.type "builtin_function_or_method"||Value.type "builtin_function_or_method"==Value.type "method-wrapper")=true:=by decide
theorem OE:(Value.type "builtin_function_or_method" !=Value.type "method")=true:=by decide
theorem uL:gc g k (λv vs σ Q=>aA (Iz σ.mem v) λself=>gC (self::vs) σ Q):=by
 refine⟨λF d wd σ s v u vs Q R hv J=>ah J λself h1 _=>dZ (zZ R hv h1) λx su e B _=>?_,λF d A af v u vs us hr hv D s wd σ Q Z R J=>ah J λself h1 J=>dZ (zZ R (VR.mono Z hv) h1) λx su e B M=>?_⟩
 ·rw[e];exact uJ B
 ·have J:kG vs (λv σ Q=>aA (dC σ.mem self) λp=>gd (bw p.2.length) (Q .none {σ with mem:=σ.mem.set p.1 (.list (p.2++[v]))})) σ Q:=J;refine qr D J λf y e1 Tz J=>ah J λp e2 J=>xA (aL J) λh2 J=>R.lv M e2 λI n N dP ho dL=>?_;rw[e,e1];rw[N] at B;refine fh (codeAny_of_tree ?_);refine(?_ :wpAny _ A.in1 (load x>>=_) _ _ s);refine U (wpAny_load B ?_);refine jd IA ?_;refine jd OE ?_;refine U (B_ ho ?_);refine U (aj (aj ?_));refine⟨gW PySem.F.slot_list_append.plain _,fe PySem.F.entry_list_append ?_⟩;refine(?_ :wpAny _ _ (updateSeq (wd.ρ p.1) (·.push y)>>=λ_=>ret .none) _ _ s);have hz:=dp h2;rw[dL.len] at hz;refine U (wpAny_updateSeq ho rfl (aj ?_) (by rw[aZ];exact hz) (by rw[Array.size_push,aZ];exact jw hz));exact az wd .none _ (.refl _) (R.setM dP (eg ..) (o':=.list (p.2++[f])) ((d_ _ ho (by rw[qz];rfl)).trans (ag some (qz I y n))) ⟨I++[y],n+1,rfl,dL.append (.cons (VR.mono Z Tz) .nil)⟩) rfl J
theorem z_(x:Str)(t:Tok)(v:Value):checkBoundCall "str.join" ⟨[.str x t,v],[]⟩=Pure.pure ():=by first|kernel_rfl|rfl
theorem Gc{Mn:Str}{t:Tok}(ha:g.hb.get? a=some {cls:=.type "builtin_function_or_method",data:=.fields #[.builtin "str.join",.str Mn t]}):cz g k (.ref a) (λvs=>Io (.str Mn::vs)):=by intro F d A af vs us hr D s wd σ Q Z R J;have J:kG vs (λb σ Q=>aA (dC σ.mem b) λp=>aA (kH p.2) λts=>gd (JoinOk Mn ts) (Q (.str (Txt.join Mn ts)) σ)) σ Q:=J;refine qr D J λb v e hb J=>ah J λp e2 J=>ah J λts e3 J=>xA (aL J) λh1 J=>R.lv (VR.mono Z hb) e2 λI n N dP ho dL=>bx (qv dL e3) λll e4 E=>?_;rw[e,N];rw[e4] at ho;rw[<-E] at h1 J;refine fh (codeAny_of_tree ?_);refine(?_ :wpAny _ A.in1 (load a>>=_) _ _ s);refine U (wpAny_load (R.hb _ _ ha) ?_);refine jd IA ?_;refine jd OE ?_;refine U (wpAny_of_eq (z_ _ _ _) ?_);refine U (aj (aj ?_));refine⟨gW PySem.F.slot_str_join.plain _,fe PySem.F.entry_str_join ?_⟩;have LJ:=h1;unfold JoinOk at LJ;rw[gQ] at LJ;rw[il PySem.F.slot_str_join.plain _];exact meets_str_join_list Mn t (wd.ρ p.1) ll LJ g.prog g.w A (H8 g F d wd Q) s ⟨b9 ho,post_join ll ⟨joinFit_length LJ,λC tk=>az wd (.str _) σ (.refl _) R.toks ⟨_,rfl⟩ J⟩⟩
def sR(a:V):ad V:=λσ Q=>aA (dC σ.mem a) λ_=>jR (.bP .sD [.e_ (.builtin "list.append"),a]) σ Q
theorem Aa{n:Str}{W:ad V}(h:be g F k o W)(hn:n="append")(he:∀bc,eval (.Attribute o n pos) bc=(do
  let o' <-eval o bc
  standAt pos.atName
  let r <-holding [o'] (getAttr o' n true)
  letTemporaryGo o o' r
  Pure.pure r)):be g F k (.Attribute o n pos) (λσ Q=>W σ λa a9=>sR a a9 Q):=by
 subst hn;intro d A af hr;rw[he];refine bb.bind (h d A af hr) λwd u a Z D=>bb.standAt ?_;intro s bg σ Q j R J;have ha:=VR.mono j D;refine ah J λp e T=>R.lv ha e λI n N dP ho dL=>?_;rw[N] at ha ⊢;refine U (bq (zX ho ?_));refine U (wpAny_letTemporaryGo (aj ?_));exact az _ (.loc σ.mem.length) _ (Wd.aT _ _) ((R.cE (o:=.bP .sD [.e_ (.builtin "list.append"),a]) ⟨[.builtin "list.append",.ref (bg.ρ p.1)],rfl,.cons rfl (.cons (VR.mono (Wd.aT _ _) ha) .nil)⟩).toks) R.pushed T
structure Ms(K:Frag)(C:Addr)(n:Str)(f:Addr):Prop where
 find:findIn K (.ref C) n=some (some (.ref f))
 ty:typeIn K (.ref f)=some (.type "function")
 get:specialIn K (.ref f) "__get__"=some (some (.builtin "function.__get__"))
 takes:takesIn K (.ref f)=some false
 fn:fnIn K f=true
 keep:keepIn K (.ref f)=true
 copied:copiedNames.contains n=false
def IB(C:Addr)(n:Str)(f:Addr)(a:V):ad V:=λσ Q=>aA (d4 C σ.mem a) λp=>gd (eK n p.2).isNone (jR (.bP .meth [.e_ (.ref f),a]) σ Q)
theorem Mt{f:Addr}{n n':Str}{W:ad V}(h:be g F k o W)(hn:n=n')(HC:rI g.K C)(HD:Ms g.K C n' f)(he:∀bc,eval (.Attribute o n pos) bc=(do
  let o' <-eval o bc
  standAt pos.atName
  let r <-holding [o'] (getAttr o' n true)
  letTemporaryGo o o' r
  Pure.pure r)):be g F k (.Attribute o n pos) (λσ Q=>W σ λa a9=>IB C n' f a a9 Q):=by
 subst hn;intro d A af hr;rw[he];refine bb.bind (h d A af hr) λwd u a Z D=>bb.standAt ?_;intro s bg σ Q j R J;have ha:=VR.mono j D;refine ah J λp h1 T=>xA (aL T) λh2 Ca=>fZ (nC R ha h1) λx ds m pz I H _=>?_;rw[pz] at ha ⊢;have nH:=(tM H).2 (by simpa using h2);refine U (bq (get_bind (g.X.keeps R.hb) I HC.ga (findObj_fn HC.hd HD.find HD.get HD.takes HD.copied (by rw[lookIn_dict,nH])) HC.gt
  (fh (fn_get (g.X.keeps R.hb) HD.ty (handed_on rfl (U (wpAny_letTemporaryGo (aj ?_))))))))
 exact az _ (.loc σ.mem.length) _ (Wd.aT _ _) ((R.cE (o:=.bP .meth [.e_ (.ref f),a]) ⟨[.ref f,.ref x],rfl,.cons rfl (.cons (VR.mono (Wd.aT _ _) ha) .nil)⟩).toks) R.pushed Ca
theorem xr{K:Frag}{ox od:Obj}{name:Str}{f:Addr}{v:Value}(X:K.In s.heap) (I:PySem.W.InstAt s.heap x ox C (some od)) (hga:findIn K (.ref C) "__getattribute__"=some (some (.builtin "object.__getattribute__"))) (hk:findIn K (.ref C) "__getattr__"=some none)(S:findIn K (.ref C) name=some (some (.ref f))) (ht:typeIn K (.ref f)=some (.type "function")) (M:lookIn name od=some (some v))(h:wpAny (model prog w) A (getAttr (.ref x) name) (λv=>Q (v,[])) E s):wpAny (model prog w) A (getMethod (.ref x) name pl) Q E s:=by
 have YM:=PySem.F.canon_object_ga;have u:=U (a_ h (λ_ _ z=>aj z) λ_ _ z=>z);unfold getMethod specialOf;refine U (U (I.type.here ((looks_findIn X hga).here ?_)));dsimp only;rw[YM,aH (by decide)];refine U (U (I.type.here ((looks_findIn X hk).here ?_)));refine U (U (I.type.here ((looks_findIn X S).here (U ((looks_typeIn X ht).here ?_)))));rw[aH (by decide+kernel)];refine U (wpAny_loadPart I.at_ ?_);have hd:=I.dict;cases e:ox.dict with
 |none=>rw[e] at hd;exact hd.elim
 |some dx=>rw[e] at hd;refine U (U (wpAny_loadPart hd ?_));rw[nsLook_of M];refine aj ?_;dsimp only[Option.isSome];exact jd rfl u
structure wC(K:Frag)(C:Addr)(n:Str):Prop extends NameK K C n where
 fn:∀f,findIn K (.ref C) n=some (some f)->typeIn K f=some (.type "function")
theorem uM{n:Str}(HC:rI g.K C)(q:wC g.K C n){a:V}(R:bU g F d wd σ s)(ha:VR wd a u){P:V->St->Prop}(J:zD C n a σ P) (h:∀v r s',VR wd v r->bU g F d wd σ s'->P v σ->Q (r,[]) s'):wpAny (model g.prog g.w) A (getMethod u n pl) Q E s:=by
 refine ah J λp h1 J=>ah J λv h2 J=>xA (aL J) λh3 J=>fZ (nC R ha h1) λx ds m pz I H _=>bx ((tM H).1 v h2) λw hw hv=>?_;rw[pz];have OF:lookIn n (dictOf ds m)=some (some w):=by rw[lookIn_dict];exact hw
 have UC:wpAny (model g.prog g.w) A (getAttr (.ref x) n) (λv=>Q (v,[])) E s:=
  get_value (g.X.keeps R.hb) I HC.ga (q.toNameK.find HC.hd OF) (zC hv h3) (h v w _ hv R.toks J)
 refine bx (q.there) λb TA hb2=>?_;cases b with
 |none=>exact method_usual (g.X.keeps R.hb) I HC.ga HC.gt TA rfl UC
 |some f=>refine dB (hb2 f rfl) λy get jJ _=>?_;rw[jJ] at TA;exact xr (g.X.keeps R.hb) I HC.ga HC.gt TA (q.fn _ TA) OF UC
theorem o9(hc:gc g k W)(ha:rG g F k args wa)(i:∀bc pos,((backTo pos (starEach args bc)).any (·.1))=false){f:Value}(hr:cK A k) (hv:VR af v f):bb g F d A af pw (callWith pos f [] (backTo pos (starEach args (aK F d))) []) (λσ Q=>wa σ λvs a9=>W v vs a9 Q):=jV ha i hr (λwd σ s vs Q Z R J=>hc.1 F d wd σ s v f vs Q R (VR.mono Z hv) J) λwd vs us Z D=>hc.2 F d A wd v f vs us hr (VR.mono Z hv) D
theorem Gd{x:Str}{wf:ad V}(S:be g F k (.Name x p) wf)(ha:rG g F k args wa)(hc:gc g k W)(i:∀bc pos,((backTo pos (starEach args bc)).any (·.1))=false):be g F k (.Call (.Name x p) args [] pos) (λσ Q=>wf σ λv G=>wa G λvs E=>W v vs E Q):=by intro d A af hr;refine(?_ :bb g F d A af pw (do callWith pos (<-eval (.Name x p) (aK F d)) [] (backTo pos (starEach args (aK F d))) []) _);exact bb.bind (S d A af hr) λwd u v Z D=>o9 hc ha i hr D
theorem Ge{n n':Str}{ap:Pos}(ho:be g F k o Wo)(ha:rG g F k args wa)(hn:n=n')(HC:rI g.K C)(q:wC g.K C n')(hc:gc g k W)(l:fQ o n ap args pos) (i:∀bc pos,((backTo pos (starEach args bc)).any (·.1))=false):be g F k (.Call (.Attribute o n ap) args [] pos) (λσ Q=>Wo σ λb G=>zD C n' b G λt E=>wa E λvs H=>W t vs H Q):=by subst hn;intro d A af hr;refine xE (l (aK F d)) λpl he=>?_;rw[he];refine bb.bind (ho d A af hr) λwd u b Z D=>bb.standAt ?_;intro s bg σ Q j R J;refine U (bq (uM HC q R (VR.mono j D) J λv r s' hv R' T5=>?_));exact o9 hc ha i hr hv s' bg σ Q (.refl _) R' T5
end
set_option maxHeartbeats 200000
section
theorem YN{x y:PySem.Expr}{Wx Wy:ad V}(B:be g F k x Wx)(hy:be g F k y Wy):be g F k (.BoolOp .Or [x,y] pos) (λσ Q=>Wx σ λv G=>nr v G λb E=>br b (Q v E) (Wy E Q)):=by
 intro d A af hr s wd σ Q Z R J;refine wpAny_Or2 (bb.go (B d A af hr) Z R J λu dG D v G x1 x2 x3 x4=>?_);refine bb.go (wn x3) (.refl _) x2 x4 λb mw P b' E y1 O y3 y4=>?_;rw[show b=b' from y3];cases b' with
 |true=>exact az P v E (x1.trans y1) O (VR.mono y1 x3) y4
 |false=>exact bb.go (hy d A af hr) ((Z.trans x1).trans y1) O y4 λr c X r' H L z2 z3 z4=>az X r' H ((x1.trans y1).trans L) z2 z3 z4
def D7(g:G)(F:df)(k:Nat)(ts:List PySem.Expr)(W:V->ad Unit):Prop:=∀d A af v u,cK A k->VR af v u->bb g F d A af td (assignAll u ((assignEach ts (aK F d)).map (·.2))) (W v)
theorem QG{W:V->ad Unit}(h:qq g F k t W)(he:∀bc,(assignEach [t] bc).map (·.2)=[assign t bc]):D7 g F k [t] W:=by intro d A af v u hr hv;rw[he];exact h d A af v u hr hv
theorem QH{C:PySem.Expr}{W W':V->ad Unit}(h:qq g F k t W)(h':qq g F k C W')(he:∀bc,(assignEach [t,C] bc).map (·.2)=[assign t bc,assign C bc]):D7 g F k [t,C] (λv σ Q=>W v σ λ_ G=>W' v G Q):=by intro d A af v u hr hv;rw[he];show bb g F d A af td (do holding [u] (assign t (aK F d) u);assignAll u [assign C (aK F d)]) _;refine bb.bind (bb.holding (h d A af v u hr hv)) λwd _ _ Z _=>?_;exact h' d A wd v u hr (VR.mono Z hv)
theorem Cb{W:V->ad Unit}(he:be g F k e We)(ht:D7 g F k ts W)(M:∀d,swapsWithSole ts e pos.line (aK F d)=Pure.pure false) (hw:∀d,swappedStores ts e (aK F d)=Pure.pure none):iT g F k (.Assign ts e pos) (λσ Q=>We σ λv G=>W v G λ_ E=>Q .next E):=by intro d A af hr s wd σ Q Z R J;refine wpAny_Assign_stores (bb.go (he d A af hr) Z R J λu dG D v G x1 x2 x3 x4=>?_) (M d) (hw d);refine bb.go (ht d A D v u hr x3) (.refl _) x2 x4 λ_ mw P _ E y1 O _ y4=>?_;exact az P .next E (x1.trans y1) O rfl y4
theorem QI(i j:Nat){a b:Str}{n:Nat}{f m tp:Pos}(he:be g F k e We)(hi:F.names[i]?=some a)(hj:F.names[j]?=some b)(nc:F.names.Nodup)(hk:F.scope.kind= .function)(ha:∀d,(aK F d).kindOf a=some .local) (hb:∀d,(aK F d).kindOf b=some .local)(hw:∀d,swappedStores [.Tuple [.Name a f,.Name b m] n tp] e (aK F d)=Pure.pure (some [a,b]))(M:∀d,swapsWithSole [.Tuple [.Name a f,.Name b m] n tp] e pos.line (aK F d)=Pure.pure false):iT g F k (.Assign [.Tuple [.Name a f,.Name b m] n tp] e pos) (λσ Q=>We σ λv G=>aA (up G.mem v) λxs=>aA (l2 xs) λp=>Q .next ((G.nf j p.2).nf i p.1)):=by intro d A af hr s wd σ Q Z R J;rw[arm_exec_Assign];refine U (dh ?_);rw[M];refine U (aj ?_);rw[aH (by decide)];refine U (bb.go (he d A af hr) Z R J λu dG D v G x1 x2 x3 x4=>?_);rw[hw];refine U (aj ?_);refine ah x4 λxs e1 J=>ah J λp ep J=>dZ (DV x2 x3 e1) λx I jJ dL B=>?_;rw[BO ep] at dL;refine BZ dL λu1 u2 e2 h1 h2=>?_;rw[e2] at B;rw[jJ];unfold assignStores;dsimp only;refine U (eN (U (jI hr.handled x2 B rfl λmw R₂=>U ?_)));refine(?_ :wpAny _ A (assignInOrder [bindName (aK F d) b,bindName (aK F d) a] [u2,u1]) _ _ mw);refine assignInOrder_cons (wpAny_bindName (bb.go (kz h2 hj nc hk (hb d)) (K:=(λ_ a9=>Q .next (a9.nf i p.1))) (.refl _) R₂ J λ_ c X _ H y1 O _ y4=>?_));refine assignInOrder_cons (wpAny_bindName (bb.go (kz (VR.mono y1 h1) hi nc hk (ha d)) (K:=(λ_ a9=>Q .next a9)) (.refl _) O y4 λ_ BU ul _ h L z2 _ z4=>?_));exact assignInOrder_nil (aj (az ul .next h ((x1.trans y1).trans L) z2 rfl z4))
theorem Mu{l sl:Addr}{n:Nat}{Q:Unit->Shared->Prop}(ho:s.heap.get? l=some (aG "list" I n))(M:s.heap.IsSliceOf sl .none .none .none)(hz:I.length<=sizeLine) (h:∀h' n',Heap.SameBut l s.heap h'->h'.get? l=some (aG "list" [] n')->Q () {s with heap:=h'}):wpAny (model prog w) A (delItem (.ref l) (.ref sl)) Q E s:=by
 have Z:=b9 ho;refine zf (id M) λos Xz hcs G=>?_;have hTs:s.TypeIs (.ref sl) "slice":=⟨os,Xz,hcs⟩;refine wpAny_delItem_slot Z.typeIs (by decide) PySem.F.slot_list_delitem (i5 PySem.F.slot_list_delitem Z.typeIs PySem.F.entry_list_delitem ?_ (PySem.F.args_list_delitem_2 _ _));refine(?_ :wpAny _ _ (Builtin.List.listSubscript? (.ref sl)>>=_) _ _ s);refine U ?_;unfold Builtin.List.listSubscript?;refine U (wpAny_specialOf hTs slice_no_index ?_);simp only[Option.isNone_none,if_true];refine aj ?_;refine(?_ :wpAny _ _ (typeOf (.ref sl)>>=_) _ _ s);refine U (wpAny_typeOf hTs ?_);rw[aH (by decide)];rw[listSliceParts_eq];refine U (U (gA Xz G rfl (U (wpAny_listPart .none ?_))));rw[aH (by decide)];refine U (gA Xz G rfl (U (wpAny_listPart .none ?_)));refine U (gA Xz G rfl (U (wpAny_listPart .none (aj ?_))));refine U ?_;unfold Builtin.List.listItems;refine U (wpAny_seqItems ho rfl (aj ?_));refine U (wpAny_of_eq (sliceIndices_raw none none none I.toArray.size (by simp)) ?_);refine U (eN ?_);have z:∀(f:Array Value->Array Value),f I.toArray= #[]->∃n',(s.heap.update l (Obj.mapSeq f)).get? l=some (aG "list" [] n'):=by
  intro f S;have e4:Obj.mapSeq f (aG "list" I n)=aG "list" [] (if (#[]:Array Value).size==I.toArray.size then n else n+1):=by unfold Obj.mapSeq aG;dsimp only;rw[S]
  exact⟨_,by rw[d_ _ ho (by rw[e4];rfl),e4]⟩
 have e1:∀(f:Array Value->Array Value),f I.toArray= #[]->wpAny (model prog w) A.in1 (Builtin.List.listUpdate (.ref l) f) (λ_ s'=>∃h' n',s'={s with heap:=h'}/\Heap.SameBut l s.heap h'/\h'.get? l=some (aG "list" [] n')) E s:=by intro f S;refine xE (z f S) λn' k=>?_;exact i8 ho rfl ⟨_,n',rfl,eg ..,k⟩ (by rw[aZ];exact hz) (by rw[S];exact aW _)
 refine U (a_ (e1 _ ?_) (λ_ s' x=>?_) λ_ _ x=>x)
 ·have e2:∀(f:Value×Nat->Option Value),(∀x∈I.zipIdx,f x=none)->(List.filterMap f I.toArray.toList.zipIdx).toArray= #[]:=by intro f S;have:List.filterMap f I.toArray.toList.zipIdx=[]:=List.filterMap_eq_nil_iff.mpr (by simpa using S);rw[this]
  refine e2 _ λx B=>a6 ?_;have hk:x.2<I.length:=by have:=(List.mem_zipIdx B).2.1;rwa[eQ] at this
  refine(?_ :(if (1:Int)>0 then(decide ((0:Int)<=(x.2:Int))&&decide ((x.2:Int)<(I.toArray.size:Int))&&(((x.2:Int)-0) % 1==0)) else _)=true);rw[a6 (by decide),aZ];simp only[aM,decide_eq_true_eq,beq_iff_eq];exact⟨⟨gj _,Int.ofNat_lt.mpr hk⟩,Int.emod_one _⟩
 ·refine dZ x λh' n' jJ h1 h2=>?_;rw[jJ];exact U (wpAny_letGo (aj ⟨_,rfl,h h' n' h1 h2⟩))
theorem Mv{QJ:Pos}(ho:be g F k o Wo):iT g F k (.Delete [.Subscript o (.Slice none none none p) pos] QJ) (λσ Q=>Wo σ λa G=>aA (dC G.mem a) λq=>gd (bw q.2.length) (Q .next {G with mem:=G.mem.set q.1 (.list [])})):=by intro d A af hr s wd σ Q Z R J;refine wpAny_Delete (wpAny_deleteEach_cons (wpAny_delete_Subscript (bb.go (ho d A af hr) Z R J λu dG D a G x1 x2 x3 x4=>?_)));refine ah x4 λp e J=>xA (aL J) λh1 J=>?_;refine wpAny_Slice (aj (aj (aj ?_)));have R1:bU g F d D G {dG with heap:=dG.heap.push {cls:=.type "slice",data:=.fields #[.none,.none,.none]}}:=x2.keeps λb o e=>bf _ e;refine R1.lv x3 e λI n N dP k6 dL=>?_;rw[N];refine Mu k6 ⟨_,cu _ rfl,rfl,rfl⟩ (by rw[<-dL.len];exact dp h1) λh' n' M K=>?_;refine wpAny_deleteEach_nil ?_;exact az D .next _ x1 (R1.setM dP M K (o':=.list []) ⟨[],n',rfl,.nil⟩) rfl J
noncomputable def k8(y z x:Str):Str:=cond (v7 y x) (Txt.replace x y z) x
theorem Gf{i:Nat}(e:σ.loc[i]?=some (some v)):σ.nf i v=σ:=by
 unfold St.nf;rw[show σ.loc.set i (some v)=σ.loc from List.ext_getElem? λj=>by
  by_cases q:j=i
  ·subst q;rw[fF (List.getElem?_eq_some_iff.mp e).1,e]
  ·rw[c6 (bM q)]]
set_option maxHeartbeats 2000000 in
theorem Mw(i:Nat){x:Str}{y z:Str}{QK Cc Cd:Nat}{QL QM Ce Cf Cg Ch Ci IC ID QN:Pos}{nm:Str}(YO:(y==z)=false)(B:F.names[i]?=some x)(hnm:nm="replace")(nc:F.names.Nodup)(hk:F.scope.kind= .function)(Z:∀d,(aK F d).kindOf x=some .local) (hd:(x==("__debug__":Str))=false)(l:fQ (.Name x Ce) nm Cf [.Constant (.str y) Cc Cg,.Constant (.str z) Cd Ch] Ci)(M:∀d,swapsWith (.Call (.Attribute (.Name x Ce) nm Cf) [.Constant (.str y) Cc Cg,.Constant (.str z) Cd Ch] [] Ci) (some (.Name x IC)) ID.line (aK F d)=Pure.pure false):iT g F k (.If (.Compare (.Constant (.str y) QK QL) [.In] [.Name x QM] QN) [.Assign [.Name x IC] (.Call (.Attribute (.Name x Ce) nm Cf) [.Constant (.str y) Cc Cg,.Constant (.str z) Cd Ch] [] Ci) ID] [] pos) (λσ Q=>dX i σ λv G=>te v λt=>gd (Nat.ble (t.length+(t.length+1)*z.length) 16777216) (Q .next (G.nf i (.str (k8 y z t))))):=by
 subst hnm;intro d A af hr s wd σ Q j R J;refine qf J λv e J=>ah J λt I J=>xA (aL J) λh1 T=>bx (R.loc) λm hn hm=>bx (hm i x _ B e) λu N hv=>xE (VR.str I hv) λtk pz=>?_;have h1:=aU h1;rw[V.pu I] at e;rw[pz] at N;have name:∀{s':Shared}{px:Pos}{Q':Value->Shared->Prop},s'.heap=s.heap->Q' (.str t tk) s'->wpAny (model g.prog g.w) A (eval (.Name x px) (aK F d)) Q' (λ_ _=>False) s':=
  λhh Y=>wpAny_Name (lP hk (Z d) (by rw[hh];exact hn) N Y) hd
 rw[exec_If];refine U (dh (U ?_));rw[isTrue_Compare1,markedBehindIn_of_false (by with_unfolding_all rfl)];refine U (wpAny_Constant_str (U (bq (name rfl (U (dh (U (wpAny_operateT (PySem.P.in_str (bq (wpAny_truthy_bool ?_)))))))))));refine(?_ :wpAny _ A (if v7 y t=true then _ else _) _ _ _);unfold k8 at T;cases hb:v7 y t with
 |false=>rw[aH i0];rw[hb] at T;exact hV (az wd .next _ (.refl _) (by rw[show(cond false (Txt.replace t y z) t)=t from rfl,Gf e];exact R.toks) rfl T)
 |true=>rw[a6 rfl];rw[hb] at T;refine wpAny_execs_cons (wpAny_Assign_Name ?_ (M d));refine xE (l (aK F d)) λpl he=>?_;rw[he];refine U (name rfl ?_);refine U (dh ?_);refine U (bq ?_);refine getMethod_builtin (typeIs_str _ _ _) kr PySem.F.slot_str_replace PySem.F.type_str_replace (λ_ e=>nomatch e) ?_;dsimp only;refine callWith_of (P:=λ_=>True) rfl (λh _=>aX) (jU rfl ?_);refine wpAny_items_cons (wpAny_Constant_str (wpAny_items_cons (wpAny_Constant_str (wpAny_items_nil ⟨d6,?_⟩)) rfl)) rfl;refine SC.replace (lV _) (lV _) (bL (er _)) YO h1 λC QO=>?_;refine bb.go (kz (v:=.str (Txt.replace t y z)) ⟨C,rfl⟩ B nc hk (Z d)) (K:=λ_ a9=>Q .next a9) (.refl _) (R.toks) T λ_ c X _ H y1 O _ y4=>?_;exact hV (az X .next H y1 O rfl y4)
end
structure OG(g:G){ι β:Type}(RI:Wd->β->Value->Prop)(ok:V->St->Option ι)(cL:ι->St->Nat->Option (Option β))(S:ι->Addr->Wd->Nat->Heap->Prop):Prop where
 mono:∀wd bg b u,Wd.Le wd bg->RI wd b u->RI bg b u
 start:∀(F:df)(d:g_)(A:Around)(wd:Wd)(σ:St)(s:Shared)(v:V)(u:Value)(i:ι)(Q:Value->Shared->Prop)(E:Value->Shared->Prop),bU g F d wd σ s->VR wd v u->ok v σ=some i->
  (∀it s',bU g F d wd σ s'->jB g d wd [it]->S i it wd 0 s'.heap->Q (.ref it) s')->wpAny (model g.prog g.w) A (pyIter u) Q E s
 self:∀(A:Around)(i:ι)(it:Addr)(wd:Wd)(j:Nat)(s:Shared)(Q:Value->Shared->Prop)(E:Value->Shared->Prop),S i it wd j s.heap->Q (.ref it) s->wpAny (model g.prog g.w) A (pyIter (.ref it)) Q E s
 iter:∀(A:Around)(it:Addr)(i:ι),A.handled=none->FS g A it [it] RI (S i it) (cL i)
noncomputable def kI(v:V)(σ:St):Option Nat:=v.lo.bind λl=>(sL σ.mem[l]?).bind λ_=>some l
theorem Ab(R:bU g F d wd σ s):jB g d wd [s.heap.objs.size]:=jB.fresh R pC
theorem mC:OG g VR kI bj (λl it wd i h=>l<wd.n/\h.IsListIter it (wd.ρ l) i) where
 mono:=nJ
 start F d A wd σ s v u l Q E R hv hi C:=aI hi λl' e hi=>aI hi λxs r hi=>by rw[<-aq hi] at C;refine R.lst r λI n _ ho dL=>?_;rw[(VR.ref e hv).2];refine wpAny_pyIter_list (b9 ho) ?_;exact C _ _ (R.keeps λb o e=>bf _ e) (Ab R) ⟨(VR.ref e hv).1,_,cu _ rfl,rfl,rfl⟩
 self A i it wd j s Q E G C:=wpAny_pyIter_listiter G.2 C
 iter:=λA it i hh=>FT hh
noncomputable def IE(v:V)(σ:St):Option (Int×Int×Int):=v.lo.bind λl=>(zM σ.mem[l]?).bind λp=>cond (Builtin.Range.small p.1 p.2.1 p.2.2) (some p) none
theorem YP{p:Int×Int×Int}(x:IsRangeIter h it p.1 (Builtin.Range.rangeSize p.1 p.2.1 p.2.2) p.2.2):IsRangeIter h it (p.1+((0:Nat):Int)*p.2.2) (Builtin.Range.rangeSize p.1 p.2.1 p.2.2-((0:Nat):Int)) p.2.2:=by rw[show p.1+((0:Nat):Int)*p.2.2=p.1 by simp,show Builtin.Range.rangeSize p.1 p.2.1 p.2.2-((0:Nat):Int)=Builtin.Range.rangeSize p.1 p.2.1 p.2.2 from Int.sub_zero _];exact x
theorem QP:OG g VR IE (λp=>gB p.1 p.2.1 p.2.2) (λp it wd i h=>IsRangeIter h it (p.1+(i:Int)*p.2.2) (Builtin.Range.rangeSize p.1 p.2.1 p.2.2-i) p.2.2) where
 mono:=nJ
 start F d A wd σ s v u p Q E R hv hi C:=aI hi λl e hi=>aI hi λq y hi=>kF hi λr hi=>by rw[<-hi] at C;refine w_ (R.get (eZ O.BK y)) λ_ ob Y t u' f P=>?_;rw[P] at Y;rw[(VR.ref e hv).2];refine wpAny_pyIter_range Y r ?_;exact C _ _ (R.keeps λb o e=>bf _ e) (Ab R) (YP (cu _ rfl))
 self A i it wd j s Q E G C:=wpAny_pyIter_rangeiter G C
 iter:=λA it i hh=>uq hh
section
noncomputable def oQ(ifs:List PySem.Expr)(bc:Env):Sem Bool:=forIn ifs true λc r=>if r=true then do let ok <-isTrue c bc (eval c bc);Pure.pure (ForInStep.yield ok) else Pure.pure (ForInStep.yield r)
def lD(g:G)(F:df)(k:Nat)(ifs:List PySem.Expr)(W:ad Bool):Prop:=∀d A af,cK A k->bb g F d A af Xu (oQ ifs (aK F d)) W
theorem IF:lD g F k [] (λσ Q=>Q true σ):=λd A af hr s wd σ Q Z R J=>aj (az wd true σ (.refl _) R rfl J)
theorem UD{c:PySem.Expr}{W:ad Bool}(h:qe g F k c W):lD g F k [c] W:=by intro d A af hr s wd σ Q Z R J;exact wpAny_tests_one (h d A af hr s wd σ Q Z R J)
noncomputable def nM(p:Pos)(target:PySem.Expr)(ifs:List PySem.Expr)(it:Value)(bc:Env)(rP:Sem Unit)(next:Code):Sem PySem.Fin:=do
 standAt p
 match <-pyNext it with
 |none=>Pure.pure (.done .next)
 |some v=>do
  letOwnedTupleGo target it v
  assign target bc v
  let ok <-oQ ifs bc
  if ok then rP
  again next
def goK(go:St->Prop)(_:α)(σ:St):Prop:=go σ
def OH(We:ad Unit)(go:St->Prop)(ok:Bool)(σ:St):Prop:=br ok (We σ (goK go)) (go σ)
def gw(cL:St->Nat->Option (Option β))(As:β->ad Unit)(Wt:ad Bool)(We:ad Unit):Nat->Nat->St->(Unit->St->Prop)->Prop
 |0,_,_,_=>False
 |n+1,i,σ,Q=>aA (cL σ i) λo=>match o with
  |none=>Q () σ
  |some b=>As b σ (sI Wt (OH We (λE=>gw cL As Wt We n (i+1) E Q)))
structure iB(prog:Program)(w:World)(e:PySem.Expr)(depth:Nat)(it bV:Value)(bc:Env)(p:Pos)(target:PySem.Expr)(ifs:List PySem.Expr)(rP:Sem Unit):Prop where
 quiet:(Code.compLoop e depth it bV bc).quiet=true
 under:∀A:Around,A.under (.compLoop e depth it bV bc)=A
 den:(model prog w).den (.compLoop e depth it bV bc)=(compTurn e depth it bV bc).onRaise (λx=>do noteFrame x bc;theTreesLotGoes x)
 turn:compTurn e depth it bV bc=nM p target ifs it bc rP (.compLoop e depth it bV bc)
def OI(g:G)(F:df)(d:g_)(S:Wd->Nat->Heap->Prop)(d7:List Addr)(cL:St->Nat->Option (Option β))(As:β->ad Unit)(Wt:ad Bool)(We:ad Unit)(wd:Wd)(Q:Unit->St->Prop)(n:Nat)(s:Shared):Prop:=∃bg σ i,Wd.Le wd bg/\bU g F d bg σ s/\jB g d bg d7/\S bg i s.heap/\gw cL As Wt We n i σ Q
def OJ(g:G)(F:df)(d:g_)(wd:Wd)(Q:Unit->St->Prop):Result->Shared->Prop:=λr s'=>match r with| .ok _=>∃bg a9,Wd.Le wd bg/\bU g F d bg a9 s'/\Q () a9| .error _=>False
theorem qA{d7:List Addr}{RI:Wd->β->Value->Prop}{S:Wd->Nat->Heap->Prop}{cL:St->Nat->Option (Option β)}(I:FS g A it d7 RI S cL)(Ul:∀wd bg b u,Wd.Le wd bg->RI wd b u->RI bg b u) {depth:Nat} {bV:Value} {target:PySem.Expr} {ifs:List PySem.Expr} {rP:Sem Unit} (C:iB g.prog g.w e depth (.ref it) bV (aK F d) p target ifs rP) {As:β->ad Unit} {Wt:ad Bool} {We:ad Unit} (hr:cK A k)
 (ha:∀af b u,RI af b u->bb g F d A af td (assign target (aK F d) u) (As b)) (hi:lD g F k ifs Wt) (he:bb g F d A af td rP We) {Q:Unit->St->Prop} (gG:Wd.Le af wd) (R:bU g F d wd σ s) (H:jB g d wd d7) {BW:Nat} (G:S wd BW s.heap)
 (J:∃n,gw cL As Wt We n BW σ Q):
 codeAny (model g.prog g.w) A (.compLoop e depth (.ref it) bV (aK F d)) (OJ g F d wd Q) s:=by
 refine xE J λn J=>?_;refine codeAny_loop C.quiet (OI g F d S d7 cL As Wt We wd Q) (λn s hI=>?_) n ⟨wd,σ,BW,.refl _,R,H,G,J⟩;rw[C.under,C.den,C.turn];refine wpAny_noted ?_;refine gX hI λD σ i h1 R H G J=>?_;cases n with
 |zero=>exact J.elim
 |succ n=>
  refine ah J λo ho J=>?_;refine U (dh (U ?_));cases o with
  |none=>exact I.stop F d D σ i s _ _ R H G ho λs' R'=>aj ⟨D,σ,h1,R',J⟩
  |some b=>
   refine I.step F d D σ i s b _ _ R H G ho λu s' P N q R₂ H₂ a=>?_;refine U (I.owned F d P σ (i+1) s' target u _ _ R₂ H₂ a λc Ia uo=>U ?_);have nI:=I.live _ _ _ uo;have mD:=H₂.le c.heap;have R₄:=Ia.jA H₂ λx B=>bx (nI x B) λo ho _=>⟨o,ho⟩;refine bb.go (ha (P.jA d7 c.heap) b u (Ul _ _ _ _ mD N)) (.refl _) R₄ J λ_ FQ qm _ mZ x1 x2 _ x4=>U ?_;refine bb.go (hi d A (P.jA d7 c.heap) hr) x1 x2 x4 λok zJ k7 ok' t y1 O y3 y4=>?_;have fin:∀(Gg:Shared)(uN:Wd)(wD:St),Wd.Le qm uN->bU g F d uN wD Gg->gw cL As Wt We n (i+1) wD Q->∃m,m<n+1/\OI g F d S d7 cL As Wt We wd Q m Gg:=λGg uN wD L z2 z4=>
    t_ (Ia.d5 H₂ nI z2 (x1.trans L)) λt1 t2 t3=>have sK:=H₂.le' (x1.trans L)
     ⟨n,er _,uN.d5 d7,wD,i+1,(h1.trans q).trans sK,t1,t2,I.stay _ (uN.d5 d7) _ _ Gg.heap uo sK t3,z4⟩
   rw[show ok=ok' from y3];cases ok' with
   |true=>exact U (bb.go he ((((gG.trans h1).trans q).trans mD).trans (x1.trans y1)) O y4 λ_ Gg uN _ wD L z2 _ z4=>aj ⟨rfl,fin Gg uN wD (y1.trans L) z2 z4⟩)
   |false=>exact U (aj (aj ⟨rfl,fin zJ k7 t y1 O y4⟩))
end
end
section
variable {P a c f it:Addr}{params:Arguments}{A:Around}{b:Bool}{gn:Comprehension}{d:g_}{bc:Env}{rP:Env->Value->Sem Unit}{F F' Fc:df}{g:G}{h:Heap}{ps:List (PySem.Expr×PySem.Expr)}{es:List (Str×V)}{kvs r:List (Str×Value)}{gs aD:List Comprehension}{ds:List DictEntry}{ls fX:List Nat}{ifs:List PySem.Expr}{body:List Stmt}{M:Model}{wE k l t:Nat}{We:Nat->ad Unit}{pF:O}{ob:Obj}{o:Option O}{p pos:Pos}{prog:Program}{e oR i2 iter kx t2 target vx:PySem.Expr}{scope:Scope}{rQ:Sem Value}{W:ad (List (Str×V))}{Wt:ad Bool}{Wb:ad Fl}{Wi Wk Wv:ad V}{s:Shared}{σ:St}{name x y:Str}{q:Str×Value}{kd:Str->Option NameKind}{α β ι:Type}{v:V}{bV u:Value}{E Q:Value->Shared->Prop}{wd af:Wd}{w:World}{ok:V->St->Option ι}{RI:Wd->β->Value->Prop}{As:β->ad Unit}{S:ι->Addr->Wd->Nat->Heap->Prop}{cL:ι->St->Nat->Option (Option β)}
noncomputable def Cj(ix:List Nat):List Nat->Option (List Nat)
 | []=>some []
 |i::r=>(ix[i]?).bind λl=>(Cj ix r).bind λls=>some (l::ls)
theorem uO{ix:List Nat}(e:Cj ix fX=some ls)(j l:Nat)(h:ls[j]?=some l):∃i:Nat,fX[j]?=some i/\ix[i]?=some l:=by
 induction fX generalizing ls j with
 |nil=>rw[<-aq e] at h;exact nS h
 |cons i r T=>
  refine aI e λl' e1 e=>aI e λls' e2 e=>?_;rw[<-aq e] at h;cases j with
  |zero=>exact⟨i,rfl,e1.trans h⟩
  |succ j=>exact T e2 j h
theorem Ac{ix:List Nat}(e:Cj ix fX=some ls):ls.length=fX.length:=by
 induction fX generalizing ls with
 |nil=>rw[<-aq e]
 |cons i r T=>exact aI e λl' e1 e=>aI e λls' e2 e=>by rw[<-aq e];exact ag Nat.succ (T e2)
noncomputable def c9(scope:Scope):List Str:=(scope.names.filter λx=>x.2== .free).map (·.1)
theorem Gh(bc:Env)(f:Str->Addr)(names:List (Str×NameKind))(cs:List (Str×Addr))(h:∀x∈names,x.2= .free->bc.cells.lookup x.1=some (f x.1)):(forIn names cs λ(x:Str×NameKind)(r:List (Str×Addr))=>if (x.2== .free)=true then(do let a <-cellOf bc x.1;Pure.pure (ForInStep.yield ((x.1,a)::r)):Sem (ForInStep (List (Str×Addr)))) else Pure.pure (ForInStep.yield r))= Pure.pure ((((names.filter λx=>x.2== .free).map (·.1)).map λx=>(x,f x)).reverse++cs):=by
 induction names generalizing cs with
 |nil=>exact rfl
 |cons x r T=>
  rw[List.forIn_cons];by_cases hk:(x.2==NameKind.free)=true
  ·have e:cellOf bc x.1=Pure.pure (f x.1):=by unfold cellOf;rw[h x (.head _) (eq_of_beq hk)]
   rw[a6 hk,e];simp only[pure_bind];rw[T ((x.1,f x.1)::cs) λx B=>h x (.tail _ B),List.filter_cons_of_pos (by simpa using hk)];simp
  ·rw[aH hk];simp only[pure_bind];rw[T cs λx B=>h x (.tail _ B),List.filter_cons_of_neg (by simpa using hk)]
theorem o_(scope:Scope)(bc:Env)(f:Str->Addr)(h:∀x∈scope.names,x.2= .free->bc.cells.lookup x.1=some (f x.1)):closureFor scope bc=Pure.pure ((c9 scope).map λx=>(x,f x)).reverse:=by have e:=Gh bc f scope.names [] h;rw[aS] at e;unfold c9;rw[<-e];unfold closureFor;simp only[bind_pure]
theorem uP(f:Str->Addr):∀{xs:List Str},xs.Nodup->∀x∈xs,((xs.map λx=>(x,f x)).reverse).lookup x=some (f x):=by
 intro xs hn x B;refine my ?_ ?_
 ·rw[gS,h_];have:((λx=>x.fst)∘λx=>(x,f x))=(id:Str->Str):=rfl;rw[this,List.map_id];exact(List.reverse_perm xs).nodup_iff.mpr hn
 ·rw[j_];exact List.mem_map.mpr ⟨x,B,rfl⟩
section
theorem jB.push{d7:List Addr}(H:jB g d wd d7)(ha:a∉d7):jB g d (wd.push a) d7:=⟨H.fz,λx B l Z e=>Wd.eB Z (λh1 e1=>H.own x B l h1 (e1.symm.trans e)) λ_ e1=>ha ((e1.symm.trans e)▸B),H.L,H.hb⟩
theorem bU.enterX{c:g_}(R:bU g F d wd σ s){o:Obj}(ho:s.heap.get? d.L=some o){iz:Heap}{tk:Nat}{f:Str->Option Value}{loc:List (Option V)}{ix:List Nat}(S:s.heap.get? c.L=none) (y:iz.Ns c.L f) (hk:∀b ob,s.heap.get? b=some ob->iz.get? b=some ob) (hm:zt F' (wd.jn d.L o) loc f) (hc:v3 F' (wd.jn d.L o) ix c.cl):bU g F' c (wd.jn d.L o) {loc:=loc,ix:=ix,mem:=σ.mem} {s with heap:=iz,toks:=tk}:=by
 have M:=(R.mem.jn ho R.pv R.kR);refine⟨M.keeps hk,⟨f,y,hm⟩,hc,?_,λl Z e=>?_,R.gens,R.os⟩
 ·cases q:(wd.jn d.L o).fz c.L with
  |none=>rfl
  |some ob=>have:=M.rF _ _ q;rw[S] at this;exact nS this
 ·obtain⟨ob,h1,_⟩:=M.own l (σ.mem[l]'(by rw[<-M.len];exact Z)) (bC _);have h1:=h1;have e:=e;rw[e,S] at h1;exact nS h1
structure mE(F Fc:df)(scope:Scope)(fX:List Nat):Prop where
 Mx:∀d,relabel scope (aK F d)=Fc.scope
 qual:Fc.qual=F.qual
 YQ:Fc.cd=F.cd
 free:c9 scope=Fc.cells
 nodup:Fc.cells.Nodup
 D8:∀(j:Nat)(x:Str),Fc.cells[j]?=some x->∃i:Nat,fX[j]?=some i/\F.cells[i]?=some x
 Ad:fX.length=Fc.cells.length
 kind:scope.kind= .function
 names:∀x∈scope.names,x.2= .local->scope.names.lookup x.1=some .local
 QQ:∀x∈scope.names,x.2≠ .cell
theorem D9(C:mE F Fc scope fX){ix iC:List Nat}(hc:v3 F wd ix d.cl)(M:Cj ix fX=some iC):∃cl,closureFor scope (aK F d)=Pure.pure cl/\v3 Fc wd iC cl:=by
 have YR:∀x∈Fc.cells,∃a,d.cl.lookup x=some a:=by intro x B;refine xE (List.mem_iff_getElem?.mp B) λj hj=>bx (C.D8 j _ hj) λi h1 h2=>?_;have Z:=bC (by rw[Ac M,C.Ad];exact(List.getElem?_eq_some_iff.mp hj).1);exact bx (uO M j _ Z) λi' h3 h4=>⟨_,(hc i _ _ h2 (aq (h1.symm.trans h3)▸h4)).2⟩
 have S:∃f:Str->Addr,∀x∈Fc.cells,d.cl.lookup x=some (f x):=⟨λx=>(d.cl.lookup x).getD 0,λx B=>xE (YR x B) λa e=>by show _=some ((d.cl.lookup x).getD 0);rw[e];rfl⟩;refine xE S λf S=>?_;refine⟨_,o_ scope (aK F d) f λx B hk=>S _ ?_,?_⟩
 ·rw[<-C.free];exact List.mem_map.mpr ⟨x,List.mem_filter.mpr ⟨B,by rw[hk];rfl⟩,rfl⟩
 ·rw[C.free];intro j x l hj Z;refine bx (uO M j l Z) λi h3 h4=>?_;refine bx (C.D8 j x hj) λi' h1 h2=>?_;refine xA (hc i x l (aq (h1.symm.trans h3)▸h2) h4) λq1 q2=>?_;have B:=ef hj;refine⟨q1,?_⟩;rw[uP f C.nodup x B,<-S x B,q2]
def hM(prog:Program)(w:World)(e:PySem.Expr)(depth:Nat)(bV:Value)(bc:Env):Prop:=∀(A:Around)(it:Value)(R:Result->Shared->Prop)(s:Shared),(∀e s,¬ R (.error e) s)->codeAny (model prog w) A (.compLoop e depth it bV bc) R s->
  wpAny (model prog w) A (pyIter it) (λYS s'=>codeAny (model prog w) A (.compLoop e depth YS bV bc) R s') (λ_ _=>False) s->codeAny (model prog w) A (.compStart e depth it bV bc) R s
theorem uQ(X:OG g RI ok cL S) (C:mE F Fc scope fX)
 (Ae:∀(M:Model)(A:Around)(E:Value->Shared->Prop)(s:Shared)(Q:Value->Shared->Prop),Q (.ref s.heap.objs.size) {s with heap:=s.heap.push ob}->wpAny M A rQ Q E s) (Y:∀wd,OR g wd pF ob)
 (nN:∀it bV d,iB g.prog g.w e 0 it bV (aK Fc d) p target ifs (rP (aK Fc d) bV)) (pG:∀bV d,hM g.prog g.w e 0 bV (aK Fc d)) (hr:cK A k)
 (ha:∀d A af b u,cK A k->RI af b u->bb g Fc d A af td (assign target (aK Fc d) u) (As b)) (hi:lD g Fc k ifs Wt)
 (he:∀d A af l u,cK A k->VR af (.loc l) u->bb g Fc d A af td (rP (aK Fc d) u) (We l)) {i:ι} (R:bU g F d wd σ s) (H:jB g d wd [it]) (G:S i it wd 0 s.heap) {cl:List (Str×Addr)} {iC:List Nat} (YT:v3 Fc wd iC cl) {P:List O->Prop} {nl:Nat}
 (J:∃n,gw (cL i) As Wt (We σ.mem.length) n 0 ⟨List.replicate nl none,iC,σ.mem++[pF]⟩ (λ_ a9=>P a9.mem)) {RR:Value->Addr->Result->Shared->Prop}
 (hRR:∀bV C f s' bg Af,Wd.Le wd bg->VR bg (.loc σ.mem.length) bV->bU g F d bg ⟨σ.loc,σ.ix,Af⟩ s'->jB g d bg [C]->(∃m,s'.heap.Ns C m)->P Af->RR bV C (.ok f) s') (hRE:∀bV C e s,¬ RR bV C (.error e) s):
 wpAny (model g.prog g.w) A rQ (λbV c=>wpAny (model g.prog g.w) A (newFunctionEnv scope (aK F d).globals cl [] (aK F d).qual none .none (some (aK F d)))
  (λMy BU=>codeAny (model g.prog g.w) A (.compStart e 0 (.ref it) bV {My with scope:=relabel scope (aK F d)}) (RR bV My.locals) BU) (λ_ _=>False) c) (λ_ _=>False) s:=by
 refine Ae _ _ _ _ _ ?_;have I:=X.iter A it i hr.handled;refine bx (I.live _ _ _ G it (.head _)) λoit UE _=>?_;have p5:s.heap.objs.size≠it:=λq=>by have:=bT UE;rw[<-q] at this;exact i_ _ this
 have R₁:=R.cE (Y _);have H₁:=H.push (by simpa using p5);have Ag:S i it (wd.push s.heap.objs.size) 0 (s.heap.push ob):=I.stay _ _ _ _ _ G (Wd.aT _ _) λx B o ho=>bf _ ho;have Ah:VR (wd.push s.heap.objs.size) (.loc σ.mem.length) (.ref s.heap.objs.size):=R.pushed;generalize OK:({s with heap:=s.heap.push ob}:Shared)=c at R₁ Ag ⊢;replace Ag:S i it (wd.push s.heap.objs.size) 0 c.heap:=by rw[<-OK];exact Ag
 have D_:c.heap.get? it=some oit:=by rw[<-OK];exact bf _ UE
 refine wpAny_newFunctionEnv C.QQ (by intro x B;cases B) (λiz y z=>?_) C.kind;refine xE (R₁.there) λU W=>?_;have lC:c.heap.get? c.heap.objs.size=none:=c5 _;have N:∀b o,c.heap.get? b=some o->iz.get? b=some o:=λb o e=>(z.2 b (λq=>by rw[q,lC] at e;exact nS e)).trans (bf _ e);have hLC:d.L≠c.heap.objs.size:=λq=>by rw[q,lC] at W;exact nS W
 have ee:({newEnv scope c.heap.objs.size (aK F d).globals cl (aK F d).qual none .none (some (aK F d)) builtinsNs with scope:=relabel scope (aK F d)}:Env)=aK Fc ⟨c.heap.objs.size,none,d.fr,cl⟩:=by rw[C.Mx];unfold aK;rw[C.qual,C.YQ];rfl
 have IG:∀tk,codeAny (model g.prog g.w) A (.compLoop e 0 (.ref it) (.ref s.heap.objs.size) (aK Fc ⟨c.heap.objs.size,none,d.fr,cl⟩)) (RR (.ref s.heap.objs.size) c.heap.objs.size) {c with heap:=iz,toks:=tk}:=by
  intro tk;have mD:Wd.Le (wd.push s.heap.objs.size) ((wd.push s.heap.objs.size).jn d.L U):=Wd.ny R₁.pv;have Ri:bU g Fc ⟨c.heap.objs.size,none,d.fr,cl⟩ ((wd.push s.heap.objs.size).jn d.L U) ⟨List.replicate nl none,iC,σ.mem++[pF]⟩ {c with heap:=iz,toks:=tk}:=by refine R₁.enterX W lC y N (λj x v e1 e2=>?_) (YT.mono ((Wd.aT _ _).trans mD));have:=ef e2;rw[List.mem_replicate] at this;cases this.2
  have Hi:jB g ⟨c.heap.objs.size,none,d.fr,cl⟩ ((wd.push s.heap.objs.size).jn d.L U) [it]:=by
   refine⟨λx B=>?_,H₁.own,λB=>?_,H₁.hb⟩
   ·refine(?_ :(if x=d.L then some U else(wd.push s.heap.objs.size).fz x)=none);rw[aH (λq:x=d.L=>H₁.L (q▸B))];exact H₁.fz x B
   ·obtain q:=List.mem_singleton.mp B;rw[<-q] at D_;have hz:=D_;rw[lC] at hz;exact nS hz
  have UF:=I.stay _ _ _ _ _ Ag mD λx B o ho=>N _ _ ho;refine fL (qA I X.mono (nN _ _ _) hr (λaf b u h=>ha _ A af b u hr h) hi (he _ A _ σ.mem.length _ hr (VR.mono mD Ah)) (.refl _) Ri Hi UF J) λr s' x=>?_;cases r with
  |error e=>exact x.elim
  |ok f=>
   refine dZ x λbg a9 x1 x2 x3=>?_;have hLe:=Wd.oN R₁.pv x1;have Rl:=R₁.leave W x2 x1;refine hRR _ _ f s' (bg.jS d.L) a9.mem ((Wd.aT _ _).trans hLe) (VR.mono hLe Ah) Rl ⟨λx B=>?_,λx B l Z e=>?_,λB=>?_,λx B=>?_⟩ (bx x2.loc λm hm _=>⟨m,hm⟩) x3
   ·rw[List.mem_singleton.mp B];refine(?_ :(if _=d.L then none else bg.fz _)=none);rw[x2.pv];exact ite_self _
   ·exact x2.kR l Z (e.trans (List.mem_singleton.mp B))
   ·exact hLC (List.mem_singleton.mp B)
   ·rw[List.mem_singleton.mp B];cases q:g.hb.get? c.heap.objs.size with
    |none=>rfl
    |some o=>have:=x2.mem.base _ _ q;rw[x2.pv] at this;exact nS this
 refine(?_ :codeAny (model g.prog g.w) A (.compStart e 0 (.ref it) (.ref s.heap.objs.size) _) _ _);rw[ee];refine pG _ _ A (.ref it) _ _ (λe s=>hRE _ _ e s) (IG _) (X.self A i it _ 0 _ _ _ (I.stay _ _ _ _ _ Ag (.refl _) λx B o ho=>N _ _ ho) (IG _))
end
section
noncomputable def kJ(oR:PySem.Expr)(bc:Env)(bV:Value):Sem Unit:=do let _ <-call (.builtin "list.append") [bV,<-eval oR bc]
theorem uR{it:Value}:iB prog w (.ListComp oR [⟨target,iter,ifs,0⟩] scope pos) 0 it bV bc iter.pos target ifs (kJ oR bc bV) where
 quiet:=rfl
 under:=λ_=>rfl
 den:=rfl
 turn:=by rw[compTurn_list];unfold nM kJ oQ;rfl
theorem mF:hM prog w (.ListComp oR (⟨target,iter,ifs,0⟩::aD) scope pos) 0 bV bc:=λA it R s hE h0 h=>codeAny_compStart_list h0 (a_ h (λ_ _ x=>x) λ_ _ x=>x.elim)
theorem mG{We:ad V}(he:be g Fc k oR We)(hr:cK A k)(N:VR af (.loc l) u):bb g Fc d A af td (kJ oR (aK Fc d) u) (λσ Q=>We σ λv a9=>gC [.loc l,v] a9 λ_ m=>Q () m):=by unfold kJ;refine bb.bind (he d A af hr) λwd x v Z B=>?_;intro s bg σ Q j R J;refine U (bb.go (bB Fc d A wd [.loc l,v] [u,x] hr (.cons (VR.mono Z N) (.cons B .nil))) j R J λ_ s' o _ m y1 O _ y4=>?_);exact aj ⟨o,(),m,y1,O,d6,y4⟩
def UG(G:St)(Q:V->St->Prop)(_:Unit)(a9:St):Prop:=Q (.loc G.mem.length) ⟨G.loc,G.ix,a9.mem⟩
def OL(ok:V->St->Option ι)(cL:ι->St->Nat->Option (Option β))(nl:Nat)(pF:O)(As:β->ad Unit)(Wt:ad Bool)(We:Nat->ad Unit)(iC:List Nat)(Q:V->St->Prop)(v:V)(G:St):Prop:=aA (ok v G) λi=>∃n,gw (cL i) As Wt (We G.mem.length) n 0 ⟨List.replicate nl none,iC,G.mem++[pF]⟩ (UG G Q)
def nO(fX:List Nat)(ok:V->St->Option ι)(cL:ι->St->Nat->Option (Option β))(nl:Nat)(pF:O)(Wi:ad V)(As:β->ad Unit)(Wt:ad Bool)(We:Nat->ad Unit):ad V:=λσ Q=>aA (Cj σ.ix fX) λiC=>Wi σ (OL ok cL nl pF As Wt We iC Q)
def IH(g:G)(A:Around)(use:Option (Value->Sem Unit))(P:Value->Shared->Prop)(bV:Value)(C:Addr):Result->Shared->Prop:=λr s'=>match r with| .ok f=>compPost (model g.prog g.w) A yV use P bV C (.ok f) s'| .error _=>False
section
theorem Ai(X:OG g RI ok cL S)(C:mE F Fc scope fX){I:Pos}(L:clausesOf e=gn::gs) (z:∀bc x,foldedSetIterable gn.iter bc x=Pure.pure x)(Ae:∀(M:Model)(A:Around)(E:Value->Shared->Prop)(s:Shared)(Q:Value->Shared->Prop),Q (.ref s.heap.objs.size) {s with heap:=s.heap.push ob}->wpAny M A rQ Q E s) (Y:∀wd,OR g wd pF ob)(nN:∀it bV d,iB g.prog g.w e 0 it bV (aK Fc d) p gn.target gn.ifs (rP (aK Fc d) bV)) (pG:∀bV d,hM g.prog g.w e 0 bV (aK Fc d))(hi:be g F k gn.iter Wi) (ha:∀d A af b u,cK A k->RI af b u->bb g Fc d A af td (assign gn.target (aK Fc d) u) (As b)) (xt:lD g Fc k gn.ifs Wt)(he:∀d A af l u,cK A k->VR af (.loc l) u->bb g Fc d A af td (rP (aK Fc d) u) (We l)) (nl:Nat) (hr:cK A k):bb g F d A af pw (comprehension e scope (aK F d) I rQ false (eval gn.iter (aK F d)) none) (nO fX ok cL nl pF Wi As Wt We):=by
 intro s wd σ Q Z R J;refine ah J λiC QR TB=>?_;clear J;refine bx (D9 C R.ix QR) λcl II IJ=>?_;refine wpAny_comprehension_free L (z _) II C.kind C.names (bb.go (hi d A af hr) Z R TB λu dG D v G x1 x2 x3 x4=>?_);refine ah x4 λi LJ T=>?_;refine X.start F d A D G dG v u i _ _ x2 x3 LJ λit mw R₂ H₂ a=>?_;refine a_ (uQ X C Ae Y nN pG hr ha xt he R₂ H₂ a (IJ.mono x1) (P:=λAf=>Q (.loc G.mem.length) ⟨G.loc,G.ix,Af⟩) T
  (RR:=IH g A none (iy g F d pw wd Q)) ?_ (λ_ _ _ _ h=>h)) (λbV c QS=>?_) λ_ _ x=>x
 ·intro bV C f s' bg Af gG Ah R' H' y j;refine xE y λm hm=>?_;try clear y
  refine⟨m,hm,λh' N=>?_⟩;exact⟨bg,.loc G.mem.length,_,x1.trans gG,R'.other H' λb o hb e=>(N.2 b (λq=>hb (by rw[q];exact .head _))).trans e,Ah,j⟩
 ·refine a_ QS (λMy BU QT=>fL QT λr s' x=>?_) λ_ _ x=>x;cases r with
  |ok f=>exact x
  |error e=>exact x.elim
theorem sS(X:OG g RI ok cL S)(C:mE F Fc scope fX){I:Pos}(L:clausesOf e=gn::gs) (z:∀bc x,foldedSetIterable gn.iter bc x=Pure.pure x)(Ae:∀(M:Model)(A:Around)(E:Value->Shared->Prop)(s:Shared)(Q:Value->Shared->Prop),Q (.ref s.heap.objs.size) {s with heap:=s.heap.push ob}->wpAny M A rQ Q E s) (Y:∀wd,OR g wd pF ob)(nN:∀it bV d,iB g.prog g.w e 0 it bV (aK Fc d) p gn.target gn.ifs (rP (aK Fc d) bV)) (pG:∀bV d,hM g.prog g.w e 0 bV (aK Fc d)) {t:PySem.Expr} {Wa:V->ad Unit}(hi:be g F k gn.iter Wi) (ha:∀d A af b u,cK A k->RI af b u->bb g Fc d A af td (assign gn.target (aK Fc d) u) (As b)) (xt:lD g Fc k gn.ifs Wt)(he:∀d A af l u,cK A k->VR af (.loc l) u->bb g Fc d A af td (rP (aK Fc d) u) (We l)) (ht:qq g F k t Wa) (nl:Nat) (hr:cK A k):bb g F d A af (λ_ (_:Unit)(_:Value)=>True) (comprehension e scope (aK F d) I rQ false (eval gn.iter (aK F d)) (some (assign t (aK F d)))) (λσ Q=>nO fX ok cL nl pF Wi As Wt We σ λv a9=>Wa v a9 Q):=by
 intro s wd σ Q Z R J;refine ah J λiC QR TB=>?_;clear J;refine bx (D9 C R.ix QR) λcl II IJ=>?_;refine wpAny_comprehension_free L (z _) II C.kind C.names (bb.go (hi d A af hr) Z R TB λu dG D v G x1 x2 x3 x4=>?_);refine ah x4 λi LJ T=>?_;refine X.start F d A D G dG v u i _ _ x2 x3 LJ λit mw R₂ H₂ a=>?_;refine a_ (uQ X C Ae Y nN pG hr ha xt he R₂ H₂ a (IJ.mono x1) (P:=λAf=>Wa (.loc G.mem.length) ⟨G.loc,G.ix,Af⟩ Q) T
  (RR:=IH g A (some (assign t (aK F d))) (iy g F d (λ_ (_:Unit)(_:Value)=>True) wd Q)) ?_ (λ_ _ _ _ h=>h)) (λbV c QS=>?_) λ_ _ x=>x
 ·intro bV C f s' bg Af gG Ah R' H' y j;refine xE y λm hm=>?_;try clear y
  refine mX hm λoC es ep XA OM=>?_;try clear hm
  have hnt:=zF ⟨oC,es,ep,XA,OM⟩ XA;have B:∀x∈[C],∃o,s'.heap.get? x=some o/\¬ Perm o:=λx B=>by rw[List.mem_singleton.mp B];exact⟨oC,XA,hnt⟩
  have Ri:=R'.jA H' λx q=>bx (B x q) λo ho _=>⟨o,ho⟩;have hi:=H'.le s'.heap;refine(?_ :wpAny _ A (assign t (aK F d) bV) _ _ s');refine bb.go (ht d A _ (.loc G.mem.length) bV hr (VR.mono hi Ah)) (.refl _) Ri j λ_ FQ qm _ mZ y1 O _ y4=>?_;refine t_ (R'.d5 H' B O y1) λt1 t2 t3=>?_;refine⟨m,⟨oC,es,ep,t3 C (.head _) oC XA,OM⟩,λh' N=>?_⟩;exact⟨qm.d5 [C],(),mZ,(x1.trans gG).trans (H'.le' y1),t1.other t2 λb o hb e=>(N.2 b (λq=>hb (by rw[q];exact .head _))).trans e,d6,y4⟩
 ·refine a_ QS (λMy BU QT=>fL QT λr s' x=>?_) λ_ _ x=>x;cases r with
  |ok f=>exact x
  |error e=>exact x.elim
theorem uS(M:Model)(A:Around)(E:Value->Shared->Prop)(s:Shared)(Q:Value->Shared->Prop)(h:Q (.ref s.heap.objs.size) {s with heap:=s.heap.push (aG "list" [] 0)}):wpAny M A (newList []) Q E s:=gN h (aW _)
theorem IK(M:Model)(A:Around)(E:Value->Shared->Prop)(s:Shared)(Q:Value->Shared->Prop)(h:Q (.ref s.heap.objs.size) {s with heap:=s.heap.push (dictOf [] 0)}):wpAny M A (newDict) Q E s:=by unfold newDict newObj;exact U (wpAny_alloc (aj h))
theorem Gi(X:OG g RI ok cL S){We:ad V}(nl:Nat)(C:mE F Fc scope fX) (hi:be g F k iter Wi) (ha:∀d A af b u,cK A k->RI af b u->bb g Fc d A af td (assign target (aK Fc d) u) (As b)) (xt:lD g Fc k ifs Wt) (he:be g Fc k oR We)(z:∀bc x,foldedSetIterable iter bc x=Pure.pure x):be g F k (.ListComp oR [⟨target,iter,ifs,0⟩] scope pos) (nO fX ok cL nl (.list []) Wi As Wt (λl σ Q=>We σ λv a9=>gC [.loc l,v] a9 λ_ m=>Q () m)):=by intro d A af hr;rw[eval_ListComp];exact Ai X C (gn:=⟨target,iter,ifs,0⟩) (pF:=.list []) rfl z uS (λwd=>⟨[],0,rfl,.nil⟩) (λit bV d=>uR) (λbV d=>mF) hi ha xt (λd A af l u hr N=>mG he hr N) nl hr
theorem m4(X:OG g RI ok cL S){tg:Pos}{We:ad V}(nl i:Nat)(C:mE F Fc scope fX) (hi:be g F k iter Wi) (ha:∀d A af b u,cK A k->RI af b u->bb g Fc d A af td (assign target (aK Fc d) u) (As b)) (xt:lD g Fc k ifs Wt) (he:be g Fc k oR We)(z:∀bc x,foldedSetIterable iter bc x=Pure.pure x) (c:∀d,swapsWith (.ListComp oR [⟨target,iter,ifs,0⟩] scope pos) (some (.Name y p)) tg.line (aK F d)=Pure.pure true)(B:F.names[i]?=some y) (nc:F.names.Nodup) (hk:F.scope.kind= .function) (Z:∀d,(aK F d).kindOf y=some .local):iT g F k (.Assign [.Name y p] (.ListComp oR [⟨target,iter,ifs,0⟩] scope pos) tg) (λσ Q=>nO fX ok cL nl (.list []) Wi As Wt (λl σ Q=>We σ λv a9=>gC [.loc l,v] a9 λ_ m=>Q () m) σ λv a9=>Q .next (a9.nf i v)):=by
 intro d A af hr s wd σ Q gG R J;rw[exec_Assign_Name_used _ _ _ _ (c d)];refine U (dh (U ?_));refine(?_ :wpAny _ A (do let _ <-comprehension (.ListComp oR [⟨target,iter,ifs,0⟩] scope pos) scope (aK F d) _ (newList []) false (eval iter (aK F d)) (some (assign (.Name y p) (aK F d)))) _ _ s);refine U (a_ (sS X C (gn:=⟨target,iter,ifs,0⟩) (pF:=.list []) rfl z uS (λwd=>⟨[],0,rfl,.nil⟩) (λit bV d=>uR) (λbV d=>mF) hi ha xt
  (λd A af l u hr N=>mG he hr N) (BV i B nc hk Z) nl hr s wd σ (λ_ a9=>Q .next a9) gG R J) (λ_ s' x=>?_) λ_ _ x=>x)
 refine iy.elim x λbg _ a9 x1 x2 _ x4=>?_;clear x;exact aj (aj ⟨bg,.next,a9,x1,x2,rfl,x4⟩)
end
end
section
def KR(wd:Wd)(p:Str×V)(q:Str×Value):Prop:=q.1=p.1/\VR wd p.2 q.2
theorem UH(h:aE (lZ g wd) es ds):aE (KR wd) es (jO es ds):=by
 induction h with
 |nil=>exact .nil
 |cons e _ T=>exact dB e λt u e h=>.cons ⟨rfl,by rw[e];exact h⟩ T
theorem Gj(h:x∉kvs.map (·.1)):kvs.map (λkv=>if kv.1=x then(kv.1,u) else kv)=kvs:=by
 induction kvs with
 |nil=>rfl
 |cons q r T=>rw[cy,List.mem_cons] at h;rw[cy,aH (λe=>h (.inl e.symm)),T (λB=>h (.inr B))]
theorem uT(h:¬ q.1=x):stored (q::r) x u=q::stored r x u:=by
 unfold stored;rw[kj,dR h,Bool.false_or];split
 ·rw[cy,aH h]
 ·rfl
theorem uU(h:q.1=x)(hn:x∉r.map (·.1)):stored (q::r) x u=(q.1,u)::r:=by unfold stored;rw[kj,dI h,Bool.true_or,a6 rfl,cy,a6 h,Gj hn]
theorem Aj(h:aE (KR wd) es kvs):kvs.map (·.1)=es.map (·.1):=by
 induction h with
 |nil=>rfl
 |cons h _ T=>rw[cy,cy,h.1,T]
theorem Cl(hv:VR wd v u)(h:aE (KR wd) es kvs)(hn:l8 es=true):aE (KR wd) (cQ x v es) (stored kvs x u):=by
 induction h with
 |nil=>exact .cons ⟨rfl,hv⟩ .nil
 | @cons p q es kvs h y T=>
  have k:=pD hn;rw[cy,List.nodup_cons] at k;show aE (KR wd) (cond (d3 p.1 x) ((p.1,v)::es) (p::cQ x v es)) _;cases he:d3 p.1 x with
  |true=>have B:=(cq _ _).mp he;rw[uU (h.1.trans B) (by rw[Aj y,<-B];exact k.1)];exact .cons ⟨h.1,hv⟩ y
  |false=>rw[uT λe:q.1=x=>by rw[h.1] at e;rw[(cq _ _).mpr e] at he;exact yU he];exact .cons h (T ((aM _ _).mp hn).2)
theorem Mz(h:aE (KR wd) es kvs)(hp:Pairs (strKind g.prog g.w) ds kvs)(hk:∀e∈ds,∃k,(strKind g.prog g.w).is k e.key=true/\e.hash=(strKind g.prog g.w).hash k):aE (lZ g wd) es ds:=by
 induction h generalizing ds with
 |nil=>cases hp;exact .nil
 | @cons p q _ _ h _ T=>
  cases hp with
  | @cons e kv tN acT h1 h2 h3=>refine bx (hk e (.head _)) λj QU YU=>xE (lS h1) λt I=>?_;refine .cons ⟨t,e.val,?_,by rw[h2];exact h.2⟩ (T h3 λe he=>hk e (.tail _ he));show(⟨e.hash,e.key,e.val⟩:DictEntry)=_;rw[show e.key=Value.str q.1 t from I,YU,<-(strKind g.prog g.w).inj _ _ _ h1 QU,h.1];rfl
theorem wF(hd:h.DictOf (strKind g.prog g.w) a kvs)(hk:aE (KR wd) es kvs):∃ds n,h.get? a=some (dictOf ds n)/\aE (lZ g wd) es ds:=by refine rA hd λo ea ep ho i YV UI hp hn=>⟨ea.toList,ep,ho.trans ?_,Mz hk hp λe he=>UI e (by simpa using he)⟩;show some (⟨o.cls,o.dict,o.data,o.slots⟩:Obj)=_;exact t_ i λh1 h2 h3=>by rw[h1,h2,h3,YV]
def tO(l:Nat)(x:Str)(v:V):ad Unit:=λσ Q=>aA (qj σ.mem[l]?) λes=>gd (l8 es&&Nat.ble es.length 100) (Q () {σ with mem:=σ.mem.set l (.dict (cQ x v es))})
theorem Ak{t:Tok}(ha:VR af (.loc l) (.ref a))(hv:VR af v u):bb g F d A af td (dictSet a (.str x t) u) (tO l x v):=by
 intro s wd σ Q Z R J;refine ah J λes e T=>xA (aL T) λh1 Ca=>xA ((aM _ _).mp h1) λh1 h2=>mr (R.get (pE e)) λdP ob ho ds n j H=>?_;have h2:=aU h2;rw[j] at ho;rw[i9 (VR.mono Z ha).2];have cn:(jO es ds).length=es.length:=by have:=ag List.length (oP H);simpa using this
 refine wpAny_dictSet_pairs (eU _ _ x t) (gu ho H h1) (λh' hm' N=>?_) (by rw[cn,dj];exact am h2 (by decide));refine dB (wF hm' (Cl (VR.mono Z hv) (UH H) h1)) λXy n' K QV=>?_;refine az wd () _ (.refl _) (R.setM dP N K (o':=.dict (cQ x v es)) ⟨Xy,n',rfl,QV⟩) d6 Ca
noncomputable def qB(kx vx:PySem.Expr)(bc:Env)(bV:Value):Sem Unit:=do
 let kv <-eval kx bc;let vv <-holding [kv] (eval vx bc)
 match bV with
 | .ref d=>do
  standAt {kx.pos with endLine:=vx.pos.endLine,endCol:=vx.pos.endCol}
  holding [kv,vv] (dictSet d kv vv)
 |_=>unsupported "internal:dictcomp"
theorem Cm{it:Value}:iB prog w (.DictComp kx vx [⟨target,iter,ifs,0⟩] scope pos) 0 it bV bc iter.pos target ifs (qB kx vx bc bV) where
 quiet:=rfl
 under:=λ_=>rfl
 den:=rfl
 turn:=by unfold nM qB oQ;rfl
theorem xu:hM prog w (.DictComp kx vx (⟨target,iter,ifs,0⟩::aD) scope pos) 0 bV bc:=λA it R s hE h0 h=>codeAny_compStart_dict h0 (a_ h (λ_ _ x=>x) λ_ _ x=>x.elim)
theorem xw(hk:be g Fc k kx Wk)(hv:be g Fc k vx Wv)(hr:cK A k)(N:VR af (.loc l) u):bb g Fc d A af td (qB kx vx (aK Fc d) u) (λσ Q=>Wk σ λa G=>Wv G λv E=>te a λx=>tO l x v E Q):=by unfold qB;refine bb.bind (hk d A af hr) λwd x a Z B=>?_;refine bb.bind (bb.holding (hv d A wd hr)) λP y v q hy=>?_;have hu2:=N;rw[N.2] at hu2 ⊢;refine bb.standAt (bb.holding ?_);intro s bg σ Q j R J;refine ah J λz ez J=>xE (VR.str ez B) λt e=>?_;rw[e];exact Ak (VR.mono (Z.trans q) hu2) hy s bg σ Q j R J
section
theorem th(X:OG g RI ok cL S){tg:Pos}(nl i:Nat)(C:mE F Fc scope fX) (hi:be g F k iter Wi) (ha:∀d A af b u,cK A k->RI af b u->bb g Fc d A af td (assign target (aK Fc d) u) (As b)) (xt:lD g Fc k ifs Wt) (hke:be g Fc k kx Wk) (hve:be g Fc k vx Wv)(z:∀bc x,foldedSetIterable iter bc x=Pure.pure x) (c:∀d,swapsWith (.DictComp kx vx [⟨target,iter,ifs,0⟩] scope pos) (some (.Name y p)) tg.line (aK F d)=Pure.pure true)(B:F.names[i]?=some y) (nc:F.names.Nodup) (hk:F.scope.kind= .function) (Z:∀d,(aK F d).kindOf y=some .local):iT g F k (.Assign [.Name y p] (.DictComp kx vx [⟨target,iter,ifs,0⟩] scope pos) tg) (λσ Q=>nO fX ok cL nl (.dict []) Wi As Wt (λl σ Q=>Wk σ λa G=>Wv G λv E=>te a λx=>tO l x v E Q) σ λv a9=>Q .next (a9.nf i v)):=by
 intro d A af hr s wd σ Q gG R J;rw[exec_Assign_Name_used _ _ _ _ (c d)];refine U (dh (U ?_));refine(?_ :wpAny _ A (do let _ <-comprehension (.DictComp kx vx [⟨target,iter,ifs,0⟩] scope pos) scope (aK F d) _ newDict false (eval iter (aK F d)) (some (assign (.Name y p) (aK F d)))) _ _ s);refine U (a_ (sS X C (gn:=⟨target,iter,ifs,0⟩) (pF:=.dict []) rfl z IK (λwd=>⟨[],0,rfl,.nil⟩) (λit bV d=>Cm) (λbV d=>xu) hi ha xt
  (λd A af l u hr N=>xw hke hve hr N) (BV i B nc hk Z) nl hr s wd σ (λ_ a9=>Q .next a9) gG R J) (λ_ s' x=>?_) λ_ _ x=>x)
 refine iy.elim x λbg _ a9 x1 x2 _ x4=>?_;clear x;exact aj (aj (az bg .next a9 x1 x2 rfl x4))
end
theorem xx{bV:List (Str×Value)}(h:x∉bV.map (·.1)):stored bV x u=bV++[(x,u)]:=by unfold stored;rw[aH];intro e;refine bx (List.any_eq_true.mp e) λq h1 h2=>?_;exact h (List.mem_map.mpr ⟨q,h1,ip h2⟩)
theorem xy(kvs bV:List (Str×Value))(h:((bV++kvs).map (·.1)).Nodup):merged bV kvs=bV++kvs:=by
 induction kvs generalizing bV with
 |nil=>exact(aS _).symm
 |cons q r T=>
  refine(?_ :merged (stored bV q.1 q.2) r=_);have Y:q.1∉bV.map (·.1):=by rw[fg,List.nodup_append] at h;exact λhm=>h.2.2 _ hm _ (.head _) rfl
  rw[xx Y,T (bV++[(q.1,q.2)]) (by rw[au];exact h),au];rfl
def Am(g:G)(F:df)(k:Nat)(pos:Pos)(ps:List (PySem.Expr×PySem.Expr))(W:ad (List (Str×V))):Prop:=∀d A af,cK A k->bb g F d A af (λwd es vs=>∃kvs,Carries (strKind g.prog g.w) vs kvs/\aE (KR wd) es kvs) (evalPairs (ps.map λp=>(eval p.1 (aK F d),do let x <-eval p.2 (aK F d);standAt pos;Pure.pure x))) W
theorem QW:Am g F k pos [] (λσ Q=>Q [] σ):=λd A af hr s wd σ Q Z R J=>evalPairs_nil (az wd [] σ (.refl _) R ⟨[],d6,.nil⟩ J)
theorem MA(hk:be g F k kx Wk)(hv:be g F k vx Wv)(h:Am g F k pos ps W):Am g F k pos ((kx,vx)::ps) (λσ Q=>Wk σ λa G=>Wv G λv E=>te a λx=>W E λes H=>Q ((x,v)::es) H):=by intro d A af hr s wd σ Q Z R J;refine evalPairs_cons (bb.go (hk d A af hr) Z R J λu dG D a G x1 x2 x3 x4=>?_);refine U (a_ (hv d A af hr dG D G _ (Z.trans x1) x2 x4) (λr mw y=>U (dh (aj ?_))) λ_ _ x=>x);refine iy.elim y λP v E y1 O y3 y4=>?_;clear y;refine ah y4 λz ez y4=>xE (VR.str ez x3) λt e=>?_;rw[e];refine bb.go (h d A af hr) ((Z.trans x1).trans y1) O y4 λvs c X es H L z2 YW z4=>?_;exact bx YW λkvs z3 z3'=>az X ((z,v)::es) H ((x1.trans y1).trans L) z2 ⟨(z,r)::kvs,⟨eU _ _ z t,rfl,z3⟩,.cons ⟨rfl,VR.mono L y3⟩ z3'⟩ z4
noncomputable def IL(o:Option (List α)):Bool:=o.any List.isEmpty
theorem ON{UJ:List (Option PySem.Expr)}{IM:List PySem.Expr}(h:Am g F k pos ps W)(h0:ps≠[])(cn:ps.length<=15)(Cn:∀bc,(evalEachOpt UJ bc).zip ((evalEach IM bc).map λv=>do let x <-v;standAt pos;Pure.pure x)=(ps.map λp=>(eval p.1 bc,do let x <-eval p.2 bc;standAt pos;Pure.pure x)).map λp=>(some p.1,p.2)):be g F k (.Dict UJ IM pos) (λσ Q=>W {σ with mem:=σ.mem++[.dict []]} λes a9=>gd (IL (qj a9.mem[σ.mem.length]?)&&l8 es) (Q (.loc σ.mem.length) {a9 with mem:=a9.mem.set σ.mem.length (.dict es)})):=by intro d A af hr s wd σ Q Z R J;have R₁:=R.cE (o:=.dict []) ⟨[],0,rfl,.nil⟩;have hp:=R.pushed (a:=s.heap.objs.size);refine wpAny_Dict_pairs (knd:=strKind g.prog g.w) (Cn _) (by simpa using h0) (by simpa using cn) ?_;refine bb.go (h d A af hr) (Z.trans (Wd.aT _ _)) R₁ J λvs dG D es G x1 x2 YW x4=>?_;refine bx YW λkvs hc hk=>xA (aL x4) λh1 C=>xA ((aM _ _).mp h1) λh1 h2=>bx (fi h1) λzs hz L=>mr (x2.get (pE hz)) λdP ob ho ds n j H=>?_;rw[List.isEmpty_iff.mp L] at H;have i:=(i9 (VR.mono x1 hp).2).symm;rw[i,j] at ho;refine⟨kvs,hc,by have:=gu ho H rfl;cases H;exact this,λh' hd N=>?_⟩;rw[xy kvs [] (by rw[kc,Aj hk];exact pD h2),kc] at hd;refine dB (wF hd hk) λXy n' K QV=>?_;rw[<-i] at N K;have R₂:=x2.setM (s':={dG with heap:=h',toks:=dG.toks+vs.length}) dP N K (o':=.dict es) ⟨Xy,n',rfl,QV⟩;exact az D (.loc σ.mem.length) _ ((Wd.aT _ _).trans x1) R₂ (VR.mono x1 hp) C
theorem xz:hM prog w (.ListComp oR [⟨target,iter,ifs,0⟩,⟨t2,i2,[],0⟩] scope pos) 1 bV bc:=by
 intro A it R s hE h0 h;refine codeAny_of_tree ?_;show wpAny _ A ((compStart (.ListComp oR [⟨target,iter,ifs,0⟩,⟨t2,i2,[],0⟩] scope pos) 1 it bV bc).onRaise (λx=>do noteFrame x bc;standAt theWindowsPlace)) _ _ s;refine wpAny_notedAt ?_;unfold compStart;refine(?_ :wpAny _ A (ask>>=_) _ _ s);refine U (iu (wpAny_ite ?_));have h':=a_ (E':=notedBy (model prog w) A bc λx s'=>R (.error x) s') h (λ_ _ x=>x) λ_ _ x=>x.elim;split
 ·first
   |exact U (aj (aj (And.intro rfl h0)))
   |exact aj (And.intro rfl h0)
 ·first
   |exact U (eN (U (dh (U (a_ h' (λYS s' h'=>aj (And.intro rfl h')) λ_ _ x=>x)))))
   |(refine U (eN ?_);show wpAny _ _ (standAt i2.pos>>=_) _ _ s;exact U (dh (U (a_ h' (λYS s' h'=>aj (And.intro rfl h')) λ_ _ x=>x))))
theorem Co{it:Value}:iB prog w (.ListComp oR [⟨target,iter,ifs,0⟩,⟨t2,i2,[],0⟩] scope pos) 1 it bV bc i2.pos t2 [] (kJ oR bc bV) where
 quiet:=rfl
 under:=λ_=>rfl
 den:=rfl
 turn:=by unfold nM kJ oQ;rfl
noncomputable def qC(e i2:PySem.Expr)(bc:Env)(bV:Value):Sem Unit:=do
 let x <-eval i2 bc
 standAt i2.pos
 let x <-foldedSetIterable i2 bc x;let _ <-runOwn (.compStart e 1 (<-holding [x] (pyIter x)) bV bc) bc
theorem Cp{it:Value}:iB prog w (.ListComp oR [⟨target,iter,ifs,0⟩,⟨t2,i2,[],0⟩] scope pos) 0 it bV bc iter.pos target ifs (qC (.ListComp oR [⟨target,iter,ifs,0⟩,⟨t2,i2,[],0⟩] scope pos) i2 bc bV) where
 quiet:=rfl
 under:=λ_=>rfl
 den:=rfl
 turn:=by unfold nM qC oQ;simp only[bind_assoc,pure_bind];rfl
theorem xB{p We:ad V}{As:V->ad Unit}(hi:be g Fc k i2 p)(z:∀bc x,foldedSetIterable i2 bc x=Pure.pure x)(nN:∀it bV d,iB g.prog g.w e 1 it bV (aK Fc d) i2.pos t2 [] (kJ oR (aK Fc d) bV)) (pG:∀bV d,hM g.prog g.w e 1 bV (aK Fc d)) (ha:qq g Fc k t2 As) (he:be g Fc k oR We) (hr:cK A k) (N:VR af (.loc l) u):bb g Fc d A af td (qC e i2 (aK Fc d) u) (λσ Q=>p σ λv G=>aA (kI v G) λi=>∃n,gw (bj i) As (λσ Q=>Q true σ) (λσ Q=>We σ λv a9=>gC [.loc l,v] a9 λ_ m=>Q () m) n 0 G Q):=by
 unfold qC;refine bb.bind (hi d A af hr) λwd x v Z B=>bb.standAt ?_;rw[z];intro s bg σ Q j R J;refine U (aj ?_);refine ah J λi LJ T=>?_;refine U (bq (mC.start Fc d A bg σ s v x i _ _ R (VR.mono j B) LJ λit mw R₂ H₂ a=>U (wpAny_runOwn ?_)));refine(?_ :codeAny (model g.prog g.w) A _ _ mw);have I:=(mC (g:=g)).iter A it i hr.handled;have IG:codeAny (model g.prog g.w) A (.compLoop e 1 (.ref it) u (aK Fc d)) (OJ g Fc d bg Q) mw:=
  qA I nJ (nN _ _ _) hr (λaf b u h=>ha d A af b u hr h) IF (mG he hr (VR.mono (Z.trans j) N)) (.refl _) R₂ H₂ a T
 refine fL (pG u d A (.ref it) _ mw (λ_ _ h=>h) IG (mC.self A i it _ 0 _ _ _ a IG)) λr s' x=>?_;cases r with
 |error e=>exact x.elim
 |ok f=>
  refine dZ x λP a9 x1 x2 x3=>?_;try clear x
  exact aj (az P () a9 x1 x2 d6 x3)
theorem Cq{p We:ad V}{As MB:V->ad Unit}(nl:Nat)(C:mE F Fc scope fX) (hi:be g F k iter Wi) (ha:qq g Fc k target As) (TC:be g Fc k i2 p) (YX:qq g Fc k t2 MB) (he:be g Fc k oR We)(z:∀bc x,foldedSetIterable iter bc x=Pure.pure x) (xC:∀bc x,foldedSetIterable i2 bc x=Pure.pure x):be g F k (.ListComp oR [⟨target,iter,[],0⟩,⟨t2,i2,[],0⟩] scope pos) (nO fX kI bj nl (.list []) Wi As (λσ Q=>Q true σ)
  (λl σ Q=>p σ λv G=>aA (kI v G) λi=>∃n,gw (bj i) MB (λσ Q=>Q true σ) (λσ Q=>We σ λv a9=>gC [.loc l,v] a9 λ_ m=>Q () m) n 0 G Q)):=by
 intro d A af hr;rw[eval_ListComp];exact Ai mC C (gn:=⟨target,iter,[],0⟩) (pF:=.list []) rfl z uS (λwd=>⟨[],0,rfl,.nil⟩)
  (λit bV d=>Cp) (λbV d=>mF) hi (λd A af b u hr h=>ha d A af b u hr h) IF (λd A af l u hr N=>xB TC xC (λit bV d=>Co) (λbV d=>xz) YX he hr N) nl hr
end
theorem jK:Slot "callable_iterator" "__next__" "callable_iterator.__next__":=.of (owner:="callable_iterator") (n:="__next__") (by rw[hX,ju];kernel_rfl) (by decide+kernel) (by decide+kernel) (by decide+kernel)
  (by first|exact .inl (by decide+kernel)|exact .inr (by decide+kernel)) (by rw[ke];kernel_rfl)
theorem m5:Slot "callable_iterator" "__iter__" "callable_iterator.__iter__":=.of (owner:="callable_iterator") (n:="__iter__") (by rw[hX,ju];kernel_rfl) (by decide+kernel) (by decide+kernel) (by decide+kernel)
  (by first|exact .inl (by decide+kernel)|exact .inr (by decide+kernel)) (by rw[ke];kernel_rfl)
theorem rR:entryFor table "callable_iterator.__next__"=some Builtin.«callable_iterator.__next__» :=entryFor_of_tree (by kernel_rfl)
theorem rS:entryFor table "callable_iterator.__iter__"=some Builtin.«dict_keyiterator.__iter__» :=entryFor_alias (id':="dict_keyiterator.__iter__") (by kernel_rfl) rfl (by decide+kernel) (by kernel_rfl)
theorem ti(a:Value):argsOk "callable_iterator.__next__" ⟨[a],[]⟩:=by unfold argsOk;kernel_rfl
theorem tj(a:Value):argsOk "callable_iterator.__iter__" ⟨[a],[]⟩:=by unfold argsOk;kernel_rfl
noncomputable def fT(f x e:Value):Obj:={cls:=.type "callable_iterator",data:=.fields #[f,x,e]}
section
theorem xD{f x e:Value}(ho:s.heap.get? it=some (fT f x e))(h:Q (.ref it) s):wpAny (model prog w) A (pyIter (.ref it)) Q E s:=by have y:s.TypeIs (.ref it) "callable_iterator":=⟨_,ho,rfl⟩;refine wpAny_pyIter_slot y m5 (i5 m5 y rS ?_ (tj _));refine(?_ :wpAny _ _ (ret (.ref it)) _ _ s);exact aj ⟨_,rfl,"callable_iterator",_,y,jK.lookup,h⟩
theorem pH{f:Value}{pos:List Value}(hc:codeAny M A (.call f ⟨pos,[]⟩) (λr s'=>match r with| .ok (.ret v)=>Q v s'| .ok _=>False| .error e=>E e s') s):wpAny M A (callBorrowed f pos) Q E s:=λΓ p hΓ=>by
  have:=hc _ p rfl (hΓ.enter (.call f ⟨pos,[]⟩) none p (by intro x;exact nS x));unfold callBorrowed;rw[Sem.wp];refine wpCode_mono (λr s' h=>?_) this;rcases r with e|(v|_|_|_)
  ·exact h
  ·exact h.elim
  ·exact h.elim
  ·exact h.elim
  ·exact h
def MC(s:Shared)(e:Value)(s':Shared):Prop:=∃a h',e= .ref a/\s'={s with heap:=h'}/\(∃o,h'.get? a=some o/\o.cls= .type "StopIteration")/\∀b o,s.heap.get? b=some o->h'.get? b=some o
theorem sU(hh:A.handled=none){Q:α->Shared->Prop}:wpAny (model prog w) A (Builtin.SmallTypes.stopIteration:Sem α) Q (MC s) s:=by unfold Builtin.SmallTypes.stopIteration;refine(?_ :wpAny _ _ (newExc (.type "StopIteration") []>>=_) _ _ _);refine U ?_;simp only[newExc,newTuple];refine U (gN ?_ (by size_fits));refine U (wpAny_of_eq (by first|rfl|(simp only[firstArgMember];rfl)) ?_);refine gN ?_ (by size_fits);unfold raiseNew;refine U (wpAny_handled ?_);rw[hh];refine U (aj (wpAny_throw ?_));exact⟨_,_,rfl,rfl,⟨_,cu _ rfl,rfl⟩,λb o e=>bf _ (bf _ e)⟩
end
theorem cK.in1(h:cK A (k+1)):cK A.in1 k:=⟨by have:=h.depth;show A.depth+2*k<_;exact aQ [_,_,_] (.c 1 (.a (.a (.v 0) (.m 2 (.a (.v 1) (.n 1)))) (.n 1)) (.v 2) .nil) 0 (.a (.a (.v 0) (.m 2 (.v 1))) (.n 1)) (.v 2) tt this,by have:=h.units;show A.units+1+16*k+80<_;exact aQ [_,_,_] (.c 1 (.a (.a (.a (.v 0) (.m 16 (.a (.v 1) (.n 1)))) (.n 80)) (.n 1)) (.v 2) .nil) 0 (.a (.a (.a (.a (.v 0) (.n 1)) (.m 16 (.v 1))) (.n 80)) (.n 1)) (.v 2) tt this,h.handled⟩
section
noncomputable def rT(x:Str):Bool:=d3 x ⟨#[]⟩
noncomputable def MD(o:Option O):Option (V×V×V):=(o.bind O.fl).bind λp=>cond p.1.ci (l3 p.2) none
noncomputable def QX(b:Bool)(v:V):Bool:=v.bo.any (· ==b)
theorem An(h:QX b v=true):v= .bool b:=bx (fi h) λc e h=>by rw[V.PS e,eq_of_beq h]
noncomputable def uV(f:Addr)(mem:List O)(l:Nat):Option V:=(MD mem[l]?).bind λq=>cond (QX false q.2.2) (q.1.lo.bind λa=>q.2.1.sv.bind λx=>cond (rT x) (wA f mem[a]?) none) none
noncomputable def nP(mem:List O)(l:Nat):Bool:=(MD mem[l]?).any λq=>QX true q.2.2&&(q.1.no&&q.2.1.no)
theorem xF(R:bU g F d wd σ s){q:V×V×V}{P:Prop}(h:MD σ.mem[l]?=some q)(k:∀a b c,l<wd.n->s.heap.get? (wd.ρ l)=some (fT a b c)->VR wd q.1 a->VR wd q.2.1 b->VR wd q.2.2 c->P):P:=aI h λp e h=>k0 h λhc h=>ua (R.get (eZ O.BN e)) λZ ob ho I e4 dL=>by rw[PR h] at dL;exact Qk dL λa b c E ha hb f=>k a b c Z (ho.trans (by rw[e4,E,FK.PO hc];rfl)) ha hb f
theorem wG(R:bU g F d wd σ s){self:V}(h:uV f σ.mem l=some self):∃q su t,s.heap.get? (wd.ρ l)=some (fT (.ref q) (.str ⟨#[]⟩ t) (.bool false))/\s.heap.get? q=some (methodObj (.ref f) su)/\VR wd self su/\l<wd.n:=aI h λp ep h=>k0 h λS h=>aI h λq y h=>aI h λx ex h=>k0 h λB h=>xF R ep λa b c dP ho ha hb hc=>xE (VR.str ex hb) λt I=>by rw[V.lB y] at ha;rw[An S] at hc;rw[ha.2,I,(cq _ _).mp B,show c= .bool false from hc] at ho;exact dZ (qy (v:=.loc q) R ⟨ha.1,rfl⟩ h) λx' su e1 hm M=>⟨_,su,t,ho,by rw[i9 e1];exact hm,M,dP⟩
theorem Ao(R:bU g F d wd σ s)(h:nP σ.mem l=true):s.heap.get? (wd.ρ l)=some (fT .none .none (.bool true))/\l<wd.n:=bx (fi h) λq ep h=>xA ((aM _ _).mp h) λh1 h=>xA ((aM _ _).mp h) λh2 h3=>xF R ep λa b c dP ho ha hb hc=>by rw[V.HF h2] at ha;rw[V.HF h3] at hb;rw[An h1] at hc;rw[show a= .none from ha,show b= .none from hb,show c= .bool true from hc] at ho;exact⟨ho,dP⟩
def ncK(f:Addr)(l:Nat)(Q:Option V->St->Prop)(r:V)(G:St):Prop:=gd (uV f G.mem l).isSome (te r λx=>br (rT x) (Q none {G with mem:=G.mem.set l (.bP .mY [.none,.none,.bool true])}) (Q (some (.str x)) G))
def iD(f:Addr)(W:List V->ad V)(l:Nat):ad (Option V):=λσ Q=>br (nP σ.mem l) (Q none σ) (aA (uV f σ.mem l) λself=>W [self] σ (ncK f l Q))
def ONr(wd:Wd)(v:Option V)(u:Option Value):Prop:=match v with
 |none=>u=none
 |some v=>∃r,u=some r/\VR wd v r
def YY(Q:Option Value->Shared->Prop)(r:PySem.Fin)(s:Shared):Prop:=∃v,r= .done (.ret v)/\Q (some v) s
def TD(Q:Option Value->Shared->Prop)(e:Value)(s:Shared):Prop:=∃a,e= .ref a/\(∃o,s.heap.get? a=some o/\o.cls= .type "StopIteration")/\Q none s
theorem wH{f x e:Value}{Q:Option Value->Shared->Prop}(ho:s.heap.get? it=some (fT f x e))(hb:wpAny (model prog w) A.in1 (Builtin.«callable_iterator.__next__» ⟨[.ref it],[]⟩) (YY Q) (TD Q) s):wpAny (model prog w) A (pyNext (.ref it)) Q E s:=by
 have y:s.TypeIs (.ref it) "callable_iterator":=⟨_,ho,rfl⟩;unfold pyNext;refine U (wpAny_attempt (wpAny_callSpecial?_slot y jK (i5 jK y rR (a_ hb (λfin s' z=>?_) λe s' z=>?_) (ti _))))
 ·exact bx z λv e hv=>by rw[e];exact⟨v,rfl,aj hv⟩
 ·refine zf z λa e ho Y=>bx ho λo k6 hc=>?_;rw[e];exact U (j8 ⟨o,k6,hc⟩ isSubtype_stop (aj Y))
theorem YZ{f x e:Value}(ho:h.get? it=some (fT f x e)):(h.update it (Obj.mapFields (·.setIfInBounds 0 .none))).get? it=some (fT .none x e):=by rw[d_ _ ho rfl];rfl
theorem fe2{f x e:Value}(ho:h.get? it=some (fT f x e)):(h.update it (Obj.mapFields (·.setIfInBounds 1 .none))).get? it=some (fT f .none e):=by rw[d_ _ ho rfl];rfl
theorem fe3{f x e:Value}(ho:h.get? it=some (fT f x e)):(h.update it (Obj.mapFields (·.setIfInBounds 2 (.bool true)))).get? it=some (fT f x (.bool true)):=by rw[d_ _ ho rfl];rfl
theorem ME{K:Frag}(h:fnIn K f=true):∃o fd,K.lookup f=some o/\o.data= .func fd:=by
 unfold fnIn at h;cases hk:K.lookup f with
 |none=>rw[hk] at h;exact nB h
 |some o=>
  rw[hk] at h;cases o with
  |mk c d dt sl=>cases dt with
   |func fd=>exact⟨_,fd,rfl,rfl⟩
   |_=>exact nB h
theorem qD{q:Addr}{su:Value}{o:Obj}{fd:FuncData}{Q:Bool->Shared->Prop}(Y:s.heap.get? q=some (methodObj (.ref f) su))(ho:s.heap.get? f=some o)(XB:o.data= .func fd)(h:Q true s):wpAny M A (borrowsExactly (.ref q)) Q E s:=by unfold borrowsExactly;refine U (wpAny_load Y ?_);dsimp only;refine jd (by decide) ?_;refine(?_ :wpAny _ _ (load f>>=_) _ _ s);refine U (wpAny_load ho ?_);rw[XB];exact aj h
theorem Cr(z:Str):(decide ((⟨#[]⟩:Str)=z))=rT z:=by
 unfold rT;cases Y:d3 z ⟨#[]⟩ with
 |true=>exact dI ((cq _ _).mp Y).symm
 |false=>exact dR λq=>by rw[(cq _ _).mpr q.symm] at Y;exact yU Y
theorem Eb(hh:A.handled=none){D:Wd}{Q:Option V->St->Prop}{Q':α->Shared->Prop}(Z:Wd.Le wd D)(R:bU g F d D σ s)(C:Q none σ):wpAny (model g.prog g.w) A.in1 (Builtin.SmallTypes.stopIteration:Sem α) Q' (TD (iy g F d ONr wd Q)) s:=a_ (sU (A:=A.in1) hh) (λ_ _ h=>h) λe s' h=>ub h λa h' e1 e2 ho hk=>by rw[e2];exact⟨a,e1,ho,D,none,σ,Z,R.keeps hk,rfl,C⟩
theorem Gk{W:List V->ad V}(QF:fnIn g.K f=true)(hc:cO g k (.ref f) W)(hr:cK A (k+1))(N:VR af (.loc l) u):bb g F d A af ONr (pyNext u) (iD f W l):=by
 intro s wd σ Q Z R J;have N:=VR.mono Z N;rw[N.2];unfold iD at J;cases he:nP σ.mem l with
 |true=>rw[he] at J;refine xA (Ao R he) λho _=>wH ho ?_;refine(?_ :wpAny _ _ (field (.ref (wd.ρ l)) 2>>=_) _ _ s);refine U (gA ho rfl rfl ?_);refine jd rfl ?_;exact U (eN (U (Eb (σ:=σ) hr.handled (.refl _) R J)))
 |false=>
  rw[he] at J;refine ah J λself e1 T=>fZ (wG R e1) λq su t ho Y M _=>wH ho ?_;refine(?_ :wpAny _ _ (field (.ref (wd.ρ l)) 2>>=_) _ _ s);refine U (gA ho rfl rfl ?_);refine fc rfl ?_;refine U (gA ho rfl rfl ?_);refine U (wpAny_attempt ?_);refine dB (ME QF) λof fd hof XB=>?_;refine(?_ :wpAny _ _ (borrowsExactly (.ref q)>>=_) _ _ s);refine U (qD Y (g.X.keeps R.hb _ _ hof) XB ?_);refine jd rfl ?_;refine pH (method_call Y (fL (hc F d A.in1 wd [self] [su] hr.in1 (.cons M .nil) s wd σ _ (.refl _) R T) λr s' x=>?_));rcases r with e|(_|_|_|v)
  ·exact x.elim
  ·exact x.elim
  ·exact x.elim
  ·exact x.elim
  ·refine fZ x λD rv G x1 x2 x3 x4=>xA (aL x4) λh5 x6=>qd h5 λabz E=>fZ (wG x2 E) λq' su' C k6 hq' _ Y0=>ah x6 λz ez x6=>xE (VR.str ez x3) λtz etz=>?_;have i:=x1.ρ l N.1;rw[i] at k6;rw[etz];refine U (gA k6 rfl rfl ?_);refine fc rfl ?_;refine U (gA k6 rfl rfl ?_);refine U (bq (wpAny_eqBool_str ?_));rw[Cr z];cases hb:rT z with
   |false=>rw[hb] at x6;refine jd rfl ?_;exact aj ⟨_,rfl,D,some (.str z),G,x1,x2,⟨_,rfl,tz,rfl⟩,x6⟩
   |true=>rw[hb] at x6;refine fc rfl ?_;refine U (eN (U ?_));refine U (gA k6 rfl rfl ?_);refine U ?_;refine(?_ :wpAny _ _ (borrowsExactly (.ref q')>>=_) _ _ s');refine U (qD hq' (g.X.keeps x2.hb _ _ hof) XB ?_);refine jd rfl ?_;refine aj ?_;refine U (wpAny_setField k6 rfl (by simp) ?_);refine U (wpAny_setField (YZ k6) rfl (by simp) ?_);refine wpAny_setField (fe2 (YZ k6)) rfl (by simp) ?_;refine Eb hr.handled x1 ?_ x6;exact x2.setM Y0 (i.symm▸((eg ..).trans (eg ..)).trans (eg ..)) (i.symm▸fe3 (fe2 (YZ k6))) ⟨[.none,.none,.bool true],rfl,.cons rfl (.cons rfl (.cons rfl .nil))⟩
theorem Gl:builtinKind "iter"=none:=by decide+kernel
theorem Cs:plainId "iter"=true:=by decide+kernel
theorem Ct:entryFor table "iter"=some Builtin.«iter»:=entryFor_of_tree (by kernel_rfl)
theorem Cu(a b:Value):argsOk "iter" ⟨[a,b],[]⟩:=by unfold argsOk;kernel_rfl
theorem uW:∃i,typeLookup (.type "method") "__call__"=Pure.pure (some (.builtin i)):=⟨"method.__call__",by rw[hX,ju];kernel_rfl⟩
def QY(f:Addr)(vs:List V):ad V:=o7 vs λa b σ Q=>aA (zY f σ.mem a) λ_=>aA b.sv λx=>jR (.bP .mY [a,.str x,.bool false]) σ Q
theorem Gm:cz g k (.builtin "iter") (QY f):=by intro F d A af vs us hr D s wd σ Q Z R J;refine xl D J λa b u v e ha hb J=>ah J λself e1 J=>ah J λx ex J=>xE (VR.str ex hb) λt I=>dZ (qy R (VR.mono Z ha) e1) λq su y Y _=>xE uW λi hi=>?_;have z:=VR.mono Z ha;rw[y] at z;rw[e,y,I];refine call_function_entry Gl Cs Ct (Cu _ _) ?_;refine(?_ :wpAny _ _ (specialOf (.ref q) "__call__" >>=_) _ _ s);refine U (wpAny_specialOf ⟨_,Y,rfl⟩ hi ?_);refine fc rfl ?_;refine U (eN (U ?_));unfold newFields;refine gN (aj ?_);exact⟨_,rfl,wd.push s.heap.objs.size,.loc σ.mem.length,_,Wd.aT _ _,R.cE (o:=.bP .mY [a,.str x,.bool false]) ⟨[.ref q,.str x t,.bool false],rfl,.cons (VR.mono (Wd.aT _ _) z) (.cons ⟨t,rfl⟩ (.cons rfl .nil))⟩,R.pushed,J⟩
noncomputable def mH(mem:List O)(l:Nat):Bool:=(MD mem[l]?).isSome
theorem uX(R:bU g F d wd σ s)(h:mH σ.mem l=true):∃f x e,s.heap.get? (wd.ρ l)=some (fT f x e)/\l<wd.n:=qd h λq e=>xF R e λa b c dP ho _ _ _=>⟨a,b,c,ho,dP⟩
def ciK(l:Nat)(As:V->ad Unit)(Q:Fl->St->Prop)(K:Unit->St->Prop)(o:Option V)(G:St):Prop:=match o with
 |none=>Q .next G
 |some v=>gd (mH G.mem l) (As v G K)
def uY(Wn:ad (Option V))(l:Nat)(As:V->ad Unit)(Wb:ad Fl):Nat->St->(Fl->St->Prop)->Prop
 |0,_,_=>False
 |n+1,σ,Q=>Wn σ (ciK l As Q (sI Wb (P6 (λH=>uY Wn l As Wb n H Q) Q)))
def UK(g:G)(F:df)(d:g_)(Wn:ad (Option V))(l:Nat)(As:V->ad Unit)(Wb:ad Fl)(wd:Wd)(Q:Fl->St->Prop)(n:Nat)(s:Shared):Prop:=∃D σ,Wd.Le wd D/\bU g F d D σ s/\uY Wn l As Wb n σ Q
theorem IN{W:List V->ad V}(QF:fnIn g.K f=true)(hc:cO g k (.ref f) W){As:V->ad Unit}(hi:be g F (k+1) iter Wi)(ha:qq g F (k+1) target As)(hb:kT g F (k+1) body Wb)(z:∀bc v,foldedSetIterable iter bc v=Pure.pure v):iT g F (k+1) (.For target iter body [] pos) (λσ Q=>Wi σ λv G=>aA (oY v) λl=>gd (mH G.mem l) (∃n,uY (iD f W l) l As Wb n G Q)):=by
 refine xk hi z λd A bg σ s l Q hr R dP J=>?_;refine Tv (aL J) λh1 n T=>mX (uX R h1) λcf cx ce ho _=>?_;refine xD ho ?_;refine wpAny_runOwn ?_;refine(?_ :codeAny (model g.prog g.w) A _ _ _);refine fL (codeAny_forLoop_any (R:=Xw g F d bg Q) (UK g F d (iD f W l) l As Wb bg Q) ?_ n ⟨bg,_,.refl _,R,T⟩) λr s' x=>by cases r<;>first|exact x|exact x.elim
 intro n s hI;refine dZ hI λD σ h1 R J=>?_;cases n with
 |zero=>exact J.elim
 |succ n=>
  refine bb.go (Gk QF hc hr ⟨dP,rfl⟩) h1 R J λo mw P o' E x1 x2 x3 x4=>?_;cases o' with
  |none=>rw[show o=none from x3];exact hV (az P .next E (h1.trans x1) x2 rfl x4)
  |some b=>
   refine bx x3 λu eu x3=>xA (aL x4) λh5 x5=>mX (uX x2 h5) λcf cx ce ho _=>?_;rw[eu];rw[(h1.trans x1).ρ l dP] at ho;refine pB ho rfl (by decide) ?_;refine bb.go (ha d A P b u hr x3) (.refl _) x2 x5 λ_ FQ qm _ mZ y1 O _ y4=>?_;refine bb.go (hb d A P hr) y1 O y4 λf zJ k7 j t L z2 z3 z4=>?_;have S:=((h1.trans x1).trans y1).trans L;cases j with
   |next=>rw[z3];exact⟨n,er _,k7,t,S,z2,z4⟩
   |cont=>rw[z3];exact⟨n,er _,k7,t,S,z2,z4⟩
   |brk=>rw[z3];exact az k7 .next t S z2 rfl z4
   |ret v=>exact bx z3 λu' e hv=>e.symm▸az k7 (.ret v) t S z2 ⟨u',rfl,hv⟩ z4
end
theorem hJ.own1{mem:List O}(R:hJ g wd mem h){o:O}(ha:h.get? a=some ob)(ho:OR g (wd.push a) o ob)(S:wd.fz a=none)(hn:∀l,l<wd.n->wd.ρ l≠a)(M:a≠sysModules):hJ g (wd.push a) (mem++[o]) h:=R.T7 R.rF (λ_ _ _ e=>e) S hn ha ho M
noncomputable def Wd.pushes(wd:Wd):List Addr->Wd
 | []=>wd
 |a::r=>(wd.push a).pushes r
theorem Wd.wI(as:List Addr)(wd:Wd):Wd.Le wd (wd.pushes as):=by
 induction as generalizing wd with
 |nil=>exact .refl _
 |cons a r T=>exact(Wd.aT wd a).trans (T (wd.push a))
theorem Wd.Ap(as:List Addr)(wd:Wd):(wd.pushes as).n=wd.n+as.length:=by
 induction as generalizing wd with
 |nil=>rfl
 |cons a r T=>exact(T (wd.push a)).trans ((c7 wd.n 1 r.length).trans (ag (wd.n+ ·) (gz 1 _)))
theorem Wd.wJ(as:List Addr)(wd:Wd)(i:Nat)(a:Addr)(h:as[i]?=some a):(wd.pushes as).ρ (wd.n+i)=a:=by
 induction as generalizing wd i with
 |nil=>exact nS h
 |cons b r T=>
  cases i with
  |zero=>rw[<-aq h];exact((Wd.wI r (wd.push b)).ρ (wd.n+0) (er _)).trans (Wd.lX wd b)
  |succ i=>have:=T (wd.push b) i h;rw[show(wd.push b).n+i=wd.n+(i+1) from Nat.succ_add wd.n i] at this;exact this
theorem Wd.Gn(as:List Addr)(wd:Wd):(wd.pushes as).fz=wd.fz:=by
 induction as generalizing wd with
 |nil=>rfl
 |cons a r T=>exact T (wd.push a)
theorem hJ.adds(as:List (Addr×O)){mem:List O}(R:hJ g wd mem h)(H:∀p∈as,wd.fz p.1=none/\(∀l,l<wd.n->wd.ρ l≠p.1)/\p.1≠sysModules/\∃ob,h.get? p.1=some ob/\∀bg,Wd.Le wd bg->OR g bg p.2 ob) (hn:(as.map (·.1)).Nodup):hJ g (wd.pushes (as.map (·.1))) (mem++as.map (·.2)) h:=by
 induction as generalizing wd mem with
 |nil=>rw[List.map_nil,List.map_nil,aS];exact R
 |cons p r T=>
  refine BC (H p (.head _)) λh1 h2 h3 ob h4 h5=>?_;rw[cy,List.nodup_cons] at hn;refine(?_ :hJ g ((wd.push p.1).pushes (r.map (·.1))) (mem++(p.2::r.map (·.2))) h);rw[List.append_cons];exact T (R.own1 h4 (h5 _ (Wd.aT _ _)) h1 h2 h3) (λq Y=>BC (H q (.tail _ Y)) λq1 q2 q3 oq q4 q5=>
   ⟨q1,λl Z e=>Wd.eB Z (λh1 e1=>q2 l h1 (e1.symm.trans e)) λ_ e1=>hn.1 (by rw[e1.symm.trans e];exact List.mem_map_of_mem Y),q3,oq,q4,λbg Z=>q5 bg ((Wd.aT _ _).trans Z)⟩) hn.2
theorem Aq(bs:List (Str×Value))(m:Str->Option Value)(y:Str)(h:y∉bs.map (·.1)):bindL kd bs m y=m y:=by
 induction bs generalizing m with
 |nil=>rfl
 |cons b r T=>
  rw[cy,List.mem_cons] at h;refine(T _ λq=>h (.inr q)).trans ?_;split
  ·exact aH (λe=>h (.inl e))
  ·rfl
theorem IO(bs:List (Str×Value))(m:Str->Option Value)(y:Str)(u:Value)(hn:(bs.map (·.1)).Nodup)(hm:(y,u)∈bs)(hk:kd y=some .local):bindL kd bs m y=some u:=by
 induction bs generalizing m with
 |nil=>exact nomatch hm
 |cons b r T=>rw[cy,List.nodup_cons] at hn;refine(List.mem_cons.mp hm).elim (λe=>?_) λe=>T _ hn.2 e;rw[<-e] at hn ⊢;refine(Aq r _ _ hn.1).trans ?_;rw[a6 hk];exact a6 rfl
theorem sV(bs:List (Str×Value))(m:Str->Option Value)(y:Str)(h:y∉bs.map (·.1)):bindC kd bs m y=m y:=by
 induction bs generalizing m with
 |nil=>rfl
 |cons b r T=>
  rw[cy,List.mem_cons] at h;refine(T _ λq=>h (.inr q)).trans ?_;split
  ·rfl
  ·exact aH (λe=>h (.inl e))
theorem IP(bs:List (Str×Value))(m:Str->Option Value)(y:Str)(u:Value)(hn:(bs.map (·.1)).Nodup)(hm:(y,u)∈bs)(hk:kd y≠some .local):bindC kd bs m y=some u:=by
 induction bs generalizing m with
 |nil=>exact nomatch hm
 |cons b r T=>rw[cy,List.nodup_cons] at hn;refine(List.mem_cons.mp hm).elim (λe=>?_) λe=>T _ hn.2 e;rw[<-e] at hn ⊢;refine(sV r _ _ hn.1).trans ?_;rw[aH hk];exact a6 rfl
noncomputable def Y1(vs:List V):Option Nat->Option V
 |some j=>vs[j]?
 |none=>none
noncomputable def uZ(vs:List V):Option Nat->O
 |some j=>match vs[j]? with
  |some v=>.cell v
  |none=>.de
 |none=>.de
structure Cv(F':df)(ps:List Str)(lm cm:List (Option Nat)):Prop where
 ac4:lm.length=F'.names.length
 UL:cm.length=F'.cells.length
 atL:∀(i:Nat)(x:Str)(j:Nat),F'.names[i]?=some x->lm[i]?=some (some j)->ps[j]?=some x
 atC:∀(i:Nat)(x:Str)(j:Nat),F'.cells[i]?=some x->cm[i]?=some (some j)->ps[j]?=some x
 noC:∀(i:Nat)(x:Str),F'.cells[i]?=some x->cm[i]?=some none->x∉ps
 kdL:∀x∈F'.names,F'.scope.names.lookup x=some .local
 kdC:∀x∈F'.cells,F'.scope.names.lookup x=some .cell
 psn:ps.Nodup
 psk:∀x∈ps,F'.scope.names.lookup x=some .local\/x∈F'.cells
 cells:∀n:Nat,cellsFrom n F'.scope.names []=((F'.cells.zip ((List.range F'.cells.length).map (n+ ·)))).reverse
 nodup:F'.cells.Nodup
theorem qE{ps:List Str}{lm cm:List (Option Nat)}(C:Cv F' ps lm cm)(n i:Nat)(x:Str)(h:F'.cells[i]?=some x):(cellsFrom n F'.scope.names []).lookup x=some (n+i):=by
 rw[C.cells];have hi:=(List.getElem?_eq_some_iff.mp h).1;refine my ?_ ?_
 ·rw[gS];exact(List.reverse_perm _).nodup_iff.mpr (((nE _ _).nodup C.nodup))
 ·rw[j_];exact qo h (by rw[bi,j4 hi];rfl)
section
theorem xG{qn:Str}(hb:kT g F' k body Wb){ps:List Str}{lm cm:List (Option Nat)}(C:Cv F' ps lm cm){dV kV fw pm ct oc:Value}{an od:Option Addr}{zp:Array (Option Value)}(ho:g.K.lookup f=some ⟨oc,od,.func (fnOf name qn params body F'.scope dV kV fw pm an F'.cd ct),zp⟩) (Qf:codeIn g.K F'.cd qn=true) (Y:F'.qual=qn++".<locals>.") (n:Nat) (dflt:List V) (QZ:ps.length=n+dflt.length)(m:∀(s:Shared)(us:List Value),g.K.In s.heap->us.length=n->∃ds,(∀wd,aE (VR wd) dflt ds)/\BindsTo s (fnOf name qn params body F'.scope dV kV fw pm an F'.cd ct) ⟨us,[]⟩ (ps.zip (us++ds)))(E:F'.scope.isCoroutine=false) (H:F'.scope.isGenerator=false) (hk:F'.scope.kind= .function):cO g (k+1) (.ref f) (λvs σ Q=>gd (Nat.beq vs.length n) (Wb ⟨lm.map (Y1 (vs++dflt)),(List.range F'.cells.length).map (σ.mem.length+ ·),σ.mem++cm.map (uZ (vs++dflt))⟩ λfl a9=>Q (nF fl) {σ with mem:=a9.mem})):=by
 intro F d A af vs us hr D s wd σ Q Z R J;refine xA (aL J) λh1 J=>?_;have hn:=bK h1;have cn:=D.len;refine bx (m s us (g.X.keeps R.hb) (fB [_,_,_] (.e 1 (.v 0) (.v 1) (.f 1 (.v 0) (.v 2) .nil)) 0 (.v 2) (.v 1) tt tt hn cn)) λds G Qg=>?_;refine xE (R.there) λU W=>?_;have S:=(G wd).len;have IQ:=(D.mono λ_ _ h=>VR.mono Z h).append (G _);have Ar:(us++ds).length=ps.length:=by rw[ak];exact fB [_,_,_,_,_,_] (.f 1 (.v 0) (.a (.v 1) (.v 2)) (.e 1 (.v 3) (.v 1) (.f 1 (.v 3) (.v 4) (.f 1 (.v 2) (.v 5) .nil)))) 0 (.a (.v 4) (.v 5)) (.v 0) tt tt QZ hn cn S
 have IR:(ps.zip (us++ds)).map (·.1)=ps:=by rw[List.map_fst_zip];exact aQ [_,_] (.f 1 (.v 0) (.v 1) .nil) 0 (.v 1) (.v 0) tt Ar
 have nc:((ps.zip (us++ds)).map (·.1)).Nodup:=by rw[IR];exact C.psn
 refine codeAny_call_function hr.xi ((g.X.keeps R.hb) _ _ ho) rfl E H rfl (codeRec_of (g.X.keeps R.hb) Qf) (Qg _ _ _ _ ?_);refine wpAny_newFunctionEnv_cells hk (λx B=>?_) λac_ he s' x=>?_
 ·have Y2:x.1∈ps:=by rw[<-IR];exact List.mem_map_of_mem B
  rcases C.psk x.1 Y2 with h|h
  ·exact .inl h
  ·obtain⟨i,hi,e⟩:=List.getElem_of_mem h;exact .inr ⟨C.kdC _ h,by rw[qE C _ i x.1 (by rw[bC hi,e])];rfl⟩
 subst he;refine⟨(g.T.nolimit.keeps R.hb).keeps x.toInCall.keep,codeAny_func ?_⟩;refine dB (x.done) λiz tk jJ _=>?_;obtain rfl:=jJ;have um:=x.toInCall.keep;have ee:newEnv F'.scope s.heap.objs.size mainGlobals (cellsFrom (s.heap.objs.size+1) F'.scope.names []) (qn++".<locals>.") (some f) F'.cd none builtinsNs=aK F' ⟨s.heap.objs.size,some f,some s.heap.objs.size,cellsFrom (s.heap.objs.size+1) F'.scope.names []⟩:=by unfold aK;rw[Y];rfl
 have lC:s.heap.get? s.heap.objs.size=none:=c5 _;have mD:Wd.Le wd (wd.jn d.L U):=Wd.ny R.pv;have IS:∀i x,F'.cells[i]?=some x->(cellsFrom (s.heap.objs.size+1) F'.scope.names []).lookup x=some (s.heap.objs.size+1+i):=λi x e=>qE C _ i x e;have M0:=(R.mem.jn W R.pv R.kR).keeps um;have nH:∀i:Nat,s.heap.get? (s.heap.objs.size+1+i)=none:=λi=>gM (aQ [_,_] .nil 0 (.v 0) (.a (.a (.v 0) (.n 1)) (.v 1)) tt);let as:List (Addr×O):=((List.range F'.cells.length).map (s.heap.objs.size+1+ ·)).zip (cm.map (uZ (vs++dflt)));have Cw:as.map (·.1)=(List.range F'.cells.length).map (s.heap.objs.size+1+ ·):=by refine(?_ :(List.zip _ _).map _=_);rw[List.map_fst_zip];simp[C.UL]
 have UM:as.map (·.2)=cm.map (uZ (vs++dflt)):=by refine(?_ :(List.zip _ _).map _=_);rw[List.map_snd_zip];simp[C.UL]
 have M1:hJ g ((wd.jn d.L U).pushes (as.map (·.1))) (σ.mem++as.map (·.2)) iz:=by
  refine M0.adds as (λp hp=>?_) ?_
  ·obtain⟨i,hi,e⟩:=List.getElem_of_mem hp;have Go:i<F'.cells.length:=by
    have:as.length=F'.cells.length:=by have:=ag List.length Cw;simpa using this
    exact aQ [_,_,_] (.c 1 (.a (.v 0) (.n 1)) (.v 1) (.e 1 (.v 1) (.v 2) .nil)) 0 (.a (.v 0) (.n 1)) (.v 2) tt hi this
   have hp1:p.1=s.heap.objs.size+1+i:=by
    have h2:(as.map (·.1))[i]?=some p.1:=by rw[bi,bC hi,e];rfl
    rw[Cw,bi,j4 Go] at h2;exact(aq h2).symm
   have Y3:∃oj,cm[i]?=some oj/\p.2=uZ (vs++dflt) oj:=by
    have h2:(as.map (·.2))[i]?=some p.2:=by rw[bi,bC hi,e];rfl
    rw[UM,bi] at h2;refine bx (Option.map_eq_some_iff.mp h2) λoj q1 q2=>?_;exact⟨oj,q1,q2.symm⟩
   refine bx Y3 λoj hoj Y3=>?_;have B:=bC Go;refine bx (x.cell _ _ (IS i _ B)) λoc' Q0 MF=>?_;rw[hp1];have Gp:=nH i;refine⟨?_,λl dP e=>?_,?_,oc',Q0,λbg gG=>?_⟩
   ·cases q:(wd.jn d.L U).fz (s.heap.objs.size+1+i) with
    |none=>rfl
    |some o'=>have:=(R.mem.jn W R.pv R.kR).rF _ _ q;rw[Gp] at this;exact nS this
   ·refine bx (R.mem.own l (σ.mem[l]'(by rw[<-R.mem.len];exact dP)) (bC _)) λob q1 _=>?_;rw[show wd.ρ l=s.heap.objs.size+1+i from e,Gp] at q1;exact nS q1
   ·refine dB (g.sm) λz o h1 h2=>?_;have h3:=bT (R.hb z o h2);have h4:z<s.heap.objs.size+1+i:=dA h3 (am (eT _) (gR _ _));exact dJ (fM h1 h4)
   ·rw[Y3];cases oj with
    |none=>have XC:=C.noC i _ B hoj;rw[sV _ _ _ (by rw[IR];exact XC)] at MF;exact MF
    |some j=>
     have XD:=C.atC i _ j B hoj;have hj:=(List.getElem?_eq_some_iff.mp XD).1;obtain⟨v,hv⟩:∃v,(vs++dflt)[j]?=some v:=⟨_,bC (by rw[IQ.len];exact aQ [_,_,_] (.f 1 (.v 0) (.v 1) (.c 1 (.a (.v 2) (.n 1)) (.v 1) .nil)) 0 (.a (.v 2) (.n 1)) (.v 0) tt Ar hj)⟩;refine bx (IQ.get hv) λu N Ma=>?_;have hb:=IP (kd:=(newEnv F'.scope s.heap.objs.size mainGlobals (cellsFrom (s.heap.objs.size+1) F'.scope.names []) (qn++".<locals>.") (some f) F'.cd none builtinsNs).kindOf) (ps.zip (us++ds)) (λ_=>none) F'.cells[i] u nc (qo XD N) (by
      refine(?_ :¬ F'.scope.names.lookup _=_);rw[C.kdC _ (List.getElem_mem Go)];intro e;cases e)
     rw[hb] at MF;rw[show uZ (vs++dflt) (some j)= .cell v from by
      refine(?_ :(match (vs++dflt)[j]? with|some v=>O.cell v|none=>O.de)=_);rw[hv]]
     exact⟨u,MF,VR.mono (mD.trans gG) Ma⟩
  ·rw[Cw];exact List.pairwise_map.mpr ((List.nodup_range (n:=F'.cells.length)).imp λ{a b} h e=>h (Nat.add_left_cancel e))
 have MG:Wd.Le (wd.jn d.L U) ((wd.jn d.L U).pushes (as.map (·.1))):=Wd.wI _ _;have R1:bU g F' ⟨s.heap.objs.size,some f,some s.heap.objs.size,cellsFrom (s.heap.objs.size+1) F'.scope.names []⟩ ((wd.jn d.L U).pushes (as.map (·.1)))
  ⟨lm.map (Y1 (vs++dflt)),(List.range F'.cells.length).map (σ.mem.length+ ·),σ.mem++cm.map (uZ (vs++dflt))⟩ {s with heap:=iz,toks:=tk}:=by
  refine⟨UM▸M1,⟨_,x.toInCall.ns,λi y v e1 e2=>?_⟩,λi y l e1 e2=>?_,?_,λl dP e=>?_,R.gens,R.os⟩
  ·dsimp only at e2;rw[bi] at e2;refine bx (Option.map_eq_some_iff.mp e2) λoj q1 q2=>?_;cases oj with
   |none=>exact nS q2
   |some j=>have q2:=q2;have XD:=C.atL i y j e1 q1;refine bx (IQ.get q2) λu N Ma=>?_;exact⟨u,IO (ps.zip (us++ds)) _ y u nc (qo XD N) (C.kdL y (ef e1)),VR.mono (mD.trans MG) Ma⟩
  ·dsimp only at e2;have hi:=(List.getElem?_eq_some_iff.mp e1).1;rw[bi,j4 hi] at e2;have r:=(aq e2).symm;subst r;have XE:=R.mem.len.symm;refine⟨?_,?_⟩
   ·rw[Wd.Ap,Cw];refine(?_ :σ.mem.length+i<wd.n+_);simp;exact aQ [_,_,_,_] (.c 1 (.a (.v 0) (.n 1)) (.v 1) (.e 1 (.v 2) (.v 3) .nil)) 0 (.a (.a (.v 2) (.v 0)) (.n 1)) (.a (.v 3) (.v 1)) tt hi XE
   ·rw[IS i y e1,XE];have:=Wd.wJ (as.map (·.1)) (wd.jn d.L U) i (s.heap.objs.size+1+i) (by rw[Cw,bi,j4 hi];rfl);rw[show(wd.jn d.L U).n=wd.n from rfl] at this;rw[this]
  ·rw[Wd.Gn];cases q:(wd.jn d.L U).fz s.heap.objs.size with
   |none=>rfl
   |some ob=>have:=(R.mem.jn W R.pv R.kR).rF _ _ q;rw[lC] at this;exact nS this
  ·refine(Nat.lt_or_ge l wd.n).elim (λh2=>?_) λh2=>?_
   ·rw[MG.ρ l h2] at e;refine bx (R.mem.own l (σ.mem[l]'(by rw[<-R.mem.len];exact h2)) (bC _)) λob q1 _=>?_;rw[show wd.ρ l=s.heap.objs.size from e,lC] at q1;exact nS q1
   ·rw[Wd.Ap,Cw] at dP;have dP:=dP;simp at dP;refine xE (Nat.le.dest h2) λi XF=>?_;rw[<-XF] at dP e;have hi:=Nat.lt_of_add_lt_add_left dP;have:=Wd.wJ (as.map (·.1)) (wd.jn d.L U) i (s.heap.objs.size+1+i) (by rw[Cw,bi,j4 hi];rfl);rw[show(wd.jn d.L U).n=wd.n from rfl] at this;rw[this] at e;have e:=e;exact zo [_,_] (.e 1 (.a (.a (.v 0) (.n 1)) (.v 1)) (.v 0) .nil) 0 tt e
 refine(?_ :wpAny (model g.prog g.w) (A.deeper (newEnv F'.scope s.heap.objs.size mainGlobals (cellsFrom (s.heap.objs.size+1) F'.scope.names []) (qn++".<locals>.") (some f) F'.cd none builtinsNs)) (execs body (newEnv F'.scope s.heap.objs.size mainGlobals (cellsFrom (s.heap.objs.size+1) F'.scope.names []) (qn++".<locals>.") (some f) F'.cd none builtinsNs)) _ _ _);rw[ee];refine bb.go (hb _ _ ((wd.jn d.L U).pushes (as.map (·.1))) hr.deeper) (.refl _) R1 J λfl s' bg Mb a9 x1 x2 x3 x4=>?_;refine az (bg.jS d.L) (nF Mb) _ (Wd.oN R.pv (MG.trans x1)) (R.leave W x2 (MG.trans x1)) ?_ x4;cases Mb with
 |ret v=>exact bx x3 λu e hv=>by rw[e];exact VR.jS hv
 |next=>rw[x3];rfl
 |brk=>rw[x3];rfl
 |cont=>rw[x3];rfl
end
structure nQ(g:G)(F:df)(t:Nat)(c P:Addr):Prop where
 cd:F.cd= .ref c
 hd:CodeHd g.hb c P
 tab:g.tabs[t]?=some P
noncomputable def UN(t:Nat)(o:Option O):Option Bool:=(o.bind O.tb).bind λp=>cond (Nat.beq p.1 t) (some p.2) none
theorem Ec(h:UN t o=some b):o=some (.tab t b):=aI h λp e h=>kF h λh1 h2=>(eZ O.PH e).trans (by rw[bK h1,h2])
def wK(t:Nat)(fX:List Nat):ad V:=λσ Q=>aA (UN t σ.mem[t]?) λ_=>aA (Cj σ.ix fX) λls=>Q (.loc σ.mem.length) {σ with mem:=σ.mem.set t (.tab t true)++[.fn t ls]}
structure rU(F:df)(scope:Scope)(fX:List Nat):Prop where
 nodup:(c9 scope).Nodup
 D8:∀(j:Nat)(x:Str),(c9 scope)[j]?=some x->∃i:Nat,fX[j]?=some i/\F.cells[i]?=some x
 Ad:fX.length=(c9 scope).length
section
theorem Cx(f:α->β)(xs:List α)(I:List β)(Z:xs.length=I.length)(h:∀(i:Nat)(x:α),xs[i]?=some x->I[i]?=some (f x)):xs.map (λx=>(x,f x))=xs.zip I:=by
 induction xs generalizing I with
 |nil=>rfl
 |cons x xs T=>
  cases I with
  |nil=>exact nomatch Z
  |cons y I=>rw[cy,List.zip_cons_cons,T I (fU Z) λi z e=>h (i+1) z e,aq (h 0 x rfl)]
theorem Ed(C:rU F scope fX){ix:List Nat}(hc:v3 F wd ix d.cl)(M:Cj ix fX=some ls):closureFor scope (aK F d)=Pure.pure (((c9 scope).zip (ls.map wd.ρ)).reverse)/\∀l∈ls,l<wd.n:=by
 have cn:=Ac M;have at':∀(j:Nat)(x:Str)(l:Nat),(c9 scope)[j]?=some x->ls[j]?=some l->l<wd.n/\d.cl.lookup x=some (wd.ρ l):=by intro j x l hj Z;refine bx (C.D8 j x hj) λi h1 h2=>?_;refine bx (uO M j l Z) λi' h3 h4=>?_;exact hc i x l h2 (aq (h1.symm.trans h3)▸h4)
 have S:∃f:Str->Addr,∀(j:Nat)(x:Str),(c9 scope)[j]?=some x->d.cl.lookup x=some (f x)/\(ls.map wd.ρ)[j]?=some (f x):=by
  refine⟨λx=>(d.cl.lookup x).getD 0,λj x hj=>?_⟩;have hjl:j<ls.length:=by rw[cn,C.Ad];exact(List.getElem?_eq_some_iff.mp hj).1
  refine xA (at' j x ls[j] hj (bC hjl)) λh1 h2=>?_;dsimp only;rw[h2,bi,bC hjl];exact⟨rfl,rfl⟩
 refine xE S λf S=>⟨?_,λl Z=>?_⟩
 ·rw[o_ scope (aK F d) f λx B hk=>?_,Cx f (c9 scope) (ls.map wd.ρ) (by rw[ax,cn,C.Ad]) λi x e=>(S i x e).2];have hm:x.1∈c9 scope:=List.mem_map.mpr ⟨x,List.mem_filter.mpr ⟨B,by rw[hk];rfl⟩,rfl⟩;exact xE (List.mem_iff_getElem?.mp hm) λj hj=>(S j x.1 hj).1
 ·exact xE (List.mem_iff_getElem?.mp Z) λj hj=>(at' j _ _ (bC (by rw[<-C.Ad,<-cn];exact(List.getElem?_eq_some_iff.mp hj).1)) hj).1
theorem bU.grown{s':Shared}(R:bU g F d wd σ s){c':Addr}{oc:Obj}(ht:σ.mem[t]?=some (.tab t b))(j:wd.ρ t=P)(B:Heap.ExtBut P s.heap s'.heap) (k:s.heap.objs.size<=c') (Q1:s'.heap.get? c'=some oc) (E:sE oc (g.tq t)) (UO:s'.heap.get? P=some (tabObj #[rawInt (g.tp t).line,rawInt (g.tp t).col,.ref c']))(h1:s'.gens=s.gens:=by rfl) (h2:s'.os=s.os:=by rfl):bU g F d (wd.jn c' oc) {σ with mem:=σ.mem.set t (.tab t true)} s':=by
 refine jy (R.get ht) λTE ot f _=>?_;have Y5:=gM k;have MH:wd.fz c'=none:=by
  cases q:wd.fz c' with
  |none=>rfl
  |some o=>have:=R.mem.rF _ _ q;rw[Y5] at this;exact nS this
 have Q0:∀l,l<wd.n->wd.ρ l≠c':=λl Z e=>bx (R.mem.own l (σ.mem[l]'(by rw[<-R.mem.len];exact Z)) (bC _)) λob q1 _=>by rw[e,Y5] at q1;exact nS q1
 have Z:=Wd.ny (o:=oc) MH;refine bx (R.loc) λm hn hm=>?_;refine⟨⟨by rw[dS];exact R.mem.len,λa o e=>?_,λa o e=>Z.fz a o (R.mem.base a o e),λl o e=>?_,R.mem.low,R.mem.inj,λl dP=>?_,R.mem.tabs.mono Z⟩,⟨m,hn.extBut B ?_,hm.mono Z⟩,R.ix.mono Z,?_,R.kR,h1.trans R.gens,h2.trans R.os⟩
 ·by_cases q:a=c'
  ·subst q;have:(wd.jn a oc).fz a=some oc:=a6 rfl;rw[this] at e;obtain rfl:=aq e;exact Q1
  ·have e:wd.fz a=some o:=by have:(wd.jn c' oc).fz a=wd.fz a:=aH q;rw[this] at e;exact e
   refine B a o (λq=>?_) (R.mem.rF a o e);have:=R.mem.new t TE;rw[j,<-q,e] at this;exact LG this
 ·by_cases q:l=t
  ·subst q;rw[fF (by rw[<-R.mem.len];exact TE)] at e;obtain rfl:=aq e;exact⟨_,(by show s'.heap.get? (wd.ρ l)=_;rw[j];exact UO),c',oc,rfl,a6 rfl,E⟩
  ·rw[c6 (bM q)] at e;refine jy (R.get e) λdP ob q1 q2=>?_;exact⟨ob,B _ _ (λe1=>q (R.mem.inj _ _ dP TE (e1.trans j.symm))) q1,q2.mono Z⟩
 ·refine(?_ :(if wd.ρ l=c' then some oc else wd.fz (wd.ρ l))=none);rw[aH (Q0 l dP)];exact R.mem.new l dP
 ·exact λq=>R.kR t TE (by rw[j,q])
 ·refine(?_ :(if d.L=c' then some oc else wd.fz d.L)=none);rw[aH λq=>?_]
  ·exact R.pv
  ·refine xE (R.there) λo ho=>?_;rw[q,Y5] at ho;exact nS ho
theorem mI{s:Shared}(k:∀a o,g.hb.get? a=some o->h.get? a=some o){ps:Array Value}(j:h.get? P=some (tabObj ps)):h.BuiltinsAt g.mg P/\mainGlobals≠P:=by
 have Q2:=g.T.g.keeps k;refine zh (g.T.bmain) λbm ob u b2 b3 b4 b5 b6=>?_;have Q3:mainGlobals≠P:=λq=>by refine jb Q2 λo es ep e hd _=>?_;rw[q,j] at e;rw[<-aq e] at hd;exact nomatch hd
 have hbP:bm≠P:=λq=>by have e:=k _ _ b3;rw[q,j] at e;rw[<-aq e] at b4;exact nomatch b4
 have hbG:bm≠mainGlobals:=λq=>by refine jb (g.T.g) λo es ep e hd _=>?_;rw[q,e] at b3;rw[<-aq b3,hd] at b6;exact nomatch b6
 exact⟨⟨bm,ob,u,b2,hbG,hbP,k _ _ b3,b4,b5,b6⟩,Q3⟩
theorem bU.made{D:Wd}{G:St}{dG:Shared}(R:bU g F d D G dG){oc:Obj}{c':Addr}{ij fw:Value}{Q:V->St->Prop}(gG:Wd.Le wd D)(p:∀l∈ls,l<D.n)(ho:ob=g.fo t (((g.ff t).zip (ls.map D.ρ)).reverse) fw c' ij) (XG:ob.isFreed=false) (MH:D.fz c'=some oc) (E:sE oc (g.tq t)) (C:Q (.loc G.mem.length) {G with mem:=G.mem++[.fn t ls]}):iy g F d pw wd Q (.ref dG.heap.objs.size) {dG with heap:=dG.heap.push ob}:=az _ (.loc G.mem.length) _ (gG.trans (Wd.aT _ _)) (R.cE (o:=.fn t ls)
  ⟨c',oc,ij,fw,ho.trans (by rw[io λl Z=>((Wd.aT D dG.heap.objs.size).ρ l (p l Z)).symm]),MH,E,λl Z=>fH (p l Z),XG⟩) R.pushed C
theorem xH{mem:List O}{o:O}(ht:mem[t]?=some o):mem.set t o=mem:=by have h4:=(List.getElem?_eq_some_iff.mp ht).2;rw[<-h4,List.set_getElem_self]
theorem At(N:nQ g F t c P){qual:Str}(C:rU F scope fX)(a:g.fo t=λfy fw c' ij=>fnMade name qual params body scope fy fw ((g.mg "__name__").getD .none) c' ij) (e:g.tp t=pos) (w:g.tq t=qual) (l:g.ff t=c9 scope) :bb g F d A af pw (makeFunction name qual params (.stmts body) scope (aK F d) [] [] [] pos wE) (wK t fX):=by
 intro s wd σ Q Z R J;refine ah J λb h1 J=>?_;refine ah J λls h2 J=>?_;have ht:=Ec h1;refine jy (R.get ht) λTE ot f OO=>?_;have j:=(R.mem.tabs t P N.tab).2;refine xA (Ed C R.ix h2) λL p=>?_;have Q2:=g.T.g.keeps R.hb;rw[j] at f;cases b with
 |false=>
  rw[show ot=tabObj #[] from OO] at f;refine xA (mI (g:=g) (s:=s) R.hb f) λhb Q3=>?_;refine makeFunction_K (mg:=g.mg) L rfl Q2 N.cd (N.hd.keeps R.hb) f d6 rfl Q3 hb λc' ij fw h' tk B k dP Q4 UO=>?_;refine gY Q4 λY6 oc vs tq e2 Q1 hd hv=>?_;rw[<-i9 e2] at Q1;have E:sE oc (g.tq t):=⟨vs,tq,hd,by rw[w];exact hv⟩;have R1:bU g F d (wd.jn c' oc) {σ with mem:=σ.mem.set t (.tab t true)} {s with heap:=h',toks:=tk}:=R.grown (P:=P) ht j B k Q1 E (by rw[e];exact UO);have gG:Wd.Le wd (wd.jn c' oc):=Wd.ny (by
   cases q:wd.fz c' with
   |none=>rfl
   |some o=>have:=R.mem.rF _ _ q;rw[gM k] at this;exact nS this)
  exact R1.made gG p (by rw[a,l];rfl) rfl (a6 rfl) E (by show Q (.loc (σ.mem.set t _).length) _;rw[dS];exact J)
 |true=>refine dZ OO λc' oc jJ MH E=>?_;rw[jJ] at f;refine xA (mI (s:=s) R.hb f) λhb Q3=>?_;refine makeFunction_hit (cv:=.ref c') L rfl Q2 N.cd (N.hd.keeps R.hb) f (by simp[TriplesOk,rawInt]) (by simp[codeAmong,rawInt,e]) hb λij fw h' tk hk D=>?_;have R1:bU g F d wd σ {s with heap:=h'}:=R.keeps hk;rw[xH ht] at J;exact R1.toks.made (.refl _) p (by rw[a,l]) rfl MH E J
theorem IT(i:Nat)(N:nQ g F t c P){qual:Str}(C:rU F scope fX)(a:g.fo t=λfy fw c' ij=>fnMade name qual params body scope fy fw ((g.mg "__name__").getD .none) c' ij) (e:g.tp t=pos) (w:g.tq t=qual) (l:g.ff t=c9 scope)(Q5:∀d,qualnameIn (aK F d) name name=qual) (hd0:params.defaults=[]) (TF:params.kw_defaults=[]) (MI:∀d,annTrees params none (aK F d)=[])(B:F.names[i]?=some name) (nc:F.names.Nodup) (hk:F.scope.kind= .function) (Z:∀d,(aK F d).kindOf name=some .local):iT g F k (.FunctionDef name params body [] none [] scope none name pos) (λσ Q=>wK t fX σ λv a9=>Q .next (a9.nf i v)):=by intro d A af hr s wd σ Q gG R J;refine nestDef_K hd0 TF (MI d) ?_;rw[Q5 d];refine bb.go (At N C a e w l) gG R J λv s' bg b a9 h1 h2 h3 h4=>?_;refine bb.go (kz h3 B nc hk (Z d)) (K:=(λ_ m=>Q .next m)) (.refl _) h2 h4 λ_ v4 o _ m g1 p _ g4=>?_;exact az o .next m (h1.trans g1) p rfl g4
noncomputable def Y7(t:Nat)(o:Option O):Option (List Nat):=(o.bind O.fd).bind λp=>cond (Nat.beq p.1 t) (some p.2) none
theorem Q6(h:Y7 t o=some ls):o=some (.fn t ls):=aI h λp e h=>kF h λh1 h2=>(eZ O.PJ e).trans (by rw[bK h1,h2])
noncomputable def UP(t:Nat)(mem:List O)(v:V):Option (List Nat):=v.lo.bind λl=>Y7 t mem[l]?
theorem xJ(R:bU g F d wd σ s)(hv:VR wd v u)(h:UP t σ.mem v=some ls):∃x c oc ij fw,u= .ref x/\s.heap.get? x=some (g.fo t (((g.ff t).zip (ls.map wd.ρ)).reverse) fw c ij)/\s.heap.get? c=some oc/\sE oc (g.tq t)/\∀l∈ls,l<wd.n:=aI h λl e h=>xa (R.get (Q6 h)) λ_ ob ho c oc ij fw Q7 MH E p _=>⟨_,c,oc,ij,fw,(VR.ref e hv).2,ho.trans (ag some Q7),R.mem.rF _ _ MH,E,p⟩
theorem IU(hn:F'.cells.Nodup)(p:∀l∈ls,l<wd.n):v3 F' wd ls (((F'.cells).zip (ls.map wd.ρ)).reverse):=by
 intro i x l e1 e2;refine⟨p l (ef e2),my ?_ ?_⟩
 ·rw[gS];exact(List.reverse_perm _).nodup_iff.mpr ((nE _ _).nodup hn)
 ·rw[j_];exact qo e1 (by rw[bi,e2];rfl)
theorem Q8{F':Value->df}{qual:Str}(hb:∀c,kT g (F' (.ref c)) k body Wb)(a:g.fo t=λfy fw c' ij=>fnMade name qual params body scope fy fw ((g.mg "__name__").getD .none) c' ij) (w:g.tq t=qual){names cells:List Str} (hF:F'=λcd=>⟨qual++".<locals>.",cd,scope,names,cells⟩) (l:g.ff t=cells) (n:Nat)(m:∀(s:Shared)(us:List Value)(fy:List (Str×Addr))(fw pm cd ij:Value),us.length=n->BindsTo s (fnX name qual params body scope fy .none .none fw pm none cd ij) ⟨us,[]⟩ ((names.take n).zip us))(nc:names.Nodup) (Y8:cells.Nodup) (xj:∀x∈names,scope.names.lookup x=some .local) (qp:∀x∈scope.names,x.2≠ .cell)(E:scope.isCoroutine=false) (H:scope.isGenerator=false) (hk:scope.kind= .function):gc g (k+1) (λv vs σ Q=>aA (UP t σ.mem v) λls=>gd (Nat.beq vs.length n) (Wb ⟨iA names.length vs,ls,σ.mem⟩ λfl a9=>Q (nF fl) {σ with mem:=a9.mem})):=by
 subst hF l w;refine⟨λF d wd σ s v u vs Q R hv J=>?_,λF d A af v u vs us hr hv D s wd σ Q Z R J=>?_⟩
 ·refine ah J λls h1 _=>?_;refine zi (xJ R hv h1) λx c oc ij fw j B _=>?_;rw[a] at B;rw[j];exact keeps_F s.heap ⟨_,_,_,_,B⟩
 ·refine ah J λls h1 J=>?_;refine xA (aL J) λh2 J=>?_;have hn:=bK h2;have cn:=D.len;refine uc (xJ R (VR.mono Z hv) h1) λf c oc ij fw j S hc nN p=>?_;rw[a] at S;rw[j];refine xE (R.there) λU W=>?_;refine dB nN λK tq hd1 UQ=>?_;refine fh (codeAny_call_function hr.xi S rfl E H rfl ⟨c,oc,K,tq,rfl,hc,hd1,UQ⟩ (m _ us _ _ _ _ _ (fB [_,_,_] (.e 1 (.v 0) (.v 1) (.f 1 (.v 0) (.v 2) .nil)) 0 (.v 2) (.v 1) tt tt hn cn) _ _ _ _ ?_));refine wpAny_newFunctionEnv qp (λx B=>xj _ (oH (List.of_mem_zip B).1)) (λiz y z=>?_) hk;have um:∀b o,s.heap.get? b=some o->iz.get? b=some o:=λb o e=>z.extBut b o (bL (bT e)) (bf _ e);refine⟨((g.T.nolimit).keeps R.hb).fresh _ z,codeAny_func ?_⟩;have mD:Wd.Le wd (wd.jn d.L U):=Wd.ny R.pv;have R1:bU g ⟨g.tq t++".<locals>.",.ref c,scope,names,g.ff t⟩ ⟨s.heap.objs.size,some f,some s.heap.objs.size,((g.ff t).zip (ls.map wd.ρ)).reverse⟩ (wd.jn d.L U) ⟨iA names.length vs,ls,σ.mem⟩
   {s with heap:=iz,toks:=s.toks+((names.take n).zip us).length}:=by
   refine R.enterX W (c5 _) y um (λi x v e1 e2=>?_) (IU Y8 p);exact jy (rJ (D.mono λ_ _ h=>VR.mono (Z.trans mD) h) e2) λhi u N Ma=>⟨u,pA nc e1 N (hn▸hi),Ma⟩
  refine bb.go (hb c ⟨s.heap.objs.size,some f,some s.heap.objs.size,((g.ff t).zip (ls.map wd.ρ)).reverse⟩ _ (wd.jn d.L U) hr.deeper) (.refl _) R1 J λfl s' bg Mb a9 x1 x2 x3 x4=>?_;refine az (bg.jS d.L) (nF Mb) _ (Wd.oN R.pv x1) (R.leave W x2 x1) ?_ x4;cases Mb with
  |ret v=>exact bx x3 λu e hv=>by rw[e];exact VR.jS hv
  |next=>rw[x3];rfl
  |brk=>rw[x3];rfl
  |cont=>rw[x3];rfl
end
section
theorem Aw(N:nQ g F t c P){qual:Str}{body:PySem.Expr}(C:rU F scope fX)(a:g.fo t=λfy fw c' ij=>kla_obj name qual params body scope fy ((g.mg "__name__").getD .none) c' ij) (e:g.tp t=pos) (w:g.tq t=qual) (l:g.ff t=c9 scope) :bb g F d A af pw (makeFunction name qual params (.expr body) scope (aK F d) [] [] [] pos wE) (wK t fX):=by
 intro s wd σ Q Z R J;refine ah J λb h1 J=>?_;refine ah J λls h2 J=>?_;have ht:=Ec h1;refine jy (R.get ht) λTE ot f OO=>?_;have j:=(R.mem.tabs t P N.tab).2;refine xA (Ed C R.ix h2) λL p=>?_;have Q2:=g.T.g.keeps R.hb;rw[j] at f;cases b with
 |false=>
  rw[show ot=tabObj #[] from OO] at f;refine xA (mI (g:=g) (s:=s) R.hb f) λhb Q3=>?_;refine kla_makeFunction (mg:=g.mg) L rfl Q2 N.cd (N.hd.keeps R.hb) f d6 rfl Q3 hb λc' ij h' tk B k dP Q4 UO=>?_;refine gY Q4 λY6 oc vs tq e2 Q1 hd hv=>?_;rw[<-i9 e2] at Q1;have E:sE oc (g.tq t):=⟨vs,tq,hd,by rw[w];exact hv⟩;have R1:bU g F d (wd.jn c' oc) {σ with mem:=σ.mem.set t (.tab t true)} {s with heap:=h',toks:=tk}:=R.grown (P:=P) ht j B k Q1 E (by rw[e];exact UO);have gG:Wd.Le wd (wd.jn c' oc):=Wd.ny (by
   cases q:wd.fz c' with
   |none=>rfl
   |some o=>have:=R.mem.rF _ _ q;rw[gM k] at this;exact nS this)
  exact R1.made (fw:=.none) (ij:=ij) gG p (by rw[a,l];rfl) rfl (a6 rfl) E (by show Q (.loc (σ.mem.set t _).length) _;rw[dS];exact J)
 |true=>refine dZ OO λc' oc jJ MH E=>?_;rw[jJ] at f;refine xA (mI (g:=g) (s:=s) R.hb f) λhb Q3=>?_;refine kla_makeFunctionHit (cv:=.ref c') L rfl Q2 N.cd (N.hd.keeps R.hb) f (by simp[TriplesOk,rawInt]) (by simp[codeAmong,rawInt,e]) hb λij h' tk hk D=>?_;have R1:bU g F d wd σ {s with heap:=h'}:=R.keeps hk;rw[xH ht] at J;exact R1.toks.made (fw:=.none) (.refl _) p (by rw[a,l]) rfl MH E J
theorem MJ(N:nQ g F t c P){qual:Str}{body:PySem.Expr}(C:rU F scope fX)(a:g.fo t=λfy fw c' ij=>kla_obj "<lambda>" qual params body scope fy ((g.mg "__name__").getD .none) c' ij) (e:g.tp t=pos) (w:g.tq t=qual) (l:g.ff t=c9 scope)(Q5:F.qual++"<lambda>"=qual) (hd0:∀d,defaultsOf params (aK F d)=([],[])):be g F k (.Lambda params body scope pos) (wK t fX):=by subst Q5;intro d A af hr s wd σ Q gG R J;exact kla_eval (hd0 d) (Aw N C a e w l s wd σ Q gG R J)
theorem UR{F':Value->df}{qual:Str}{body:PySem.Expr}{We:ad V}(hb:∀c,be g (F' (.ref c)) k body We)(a:g.fo t=λfy fw c' ij=>kla_obj name qual params body scope fy ((g.mg "__name__").getD .none) c' ij) (w:g.tq t=qual){names cells:List Str} (hF:F'=λcd=>⟨qual++".<locals>.",cd,scope,names,cells⟩) (l:g.ff t=cells) (n:Nat)(m:∀(us:List Value)(fy:List (Str×Addr))(pm cd ij:Value),us.length=n->bindArgs (kla_fn name qual params body scope fy pm cd ij) ⟨us,[]⟩=Pure.pure ((names.take n).zip us))(nc:names.Nodup) (Y8:cells.Nodup) (xj:∀x∈names,scope.names.lookup x=some .local) (qp:∀x∈scope.names,x.2≠ .cell)(E:scope.isCoroutine=false) (H:scope.isGenerator=false) (hk:scope.kind= .function):gc g (k+1) (λv vs σ Q=>aA (UP t σ.mem v) λls=>gd (Nat.beq vs.length n) (We ⟨iA names.length vs,ls,σ.mem⟩ λr a9=>Q r {σ with mem:=a9.mem})):=by
 subst hF l w;refine⟨λF d wd σ s v u vs Q R hv J=>?_,λF d A af v u vs us hr hv D s wd σ Q Z R J=>?_⟩
 ·refine ah J λls h1 _=>?_;refine zi (xJ R hv h1) λx c oc ij fw j B _=>?_;rw[a] at B;rw[j];exact keeps_F s.heap ⟨_,_,_,_,B⟩
 ·refine ah J λls h1 J=>?_;refine xA (aL J) λh2 J=>?_;have hn:=bK h2;have cn:=D.len;refine uc (xJ R (VR.mono Z hv) h1) λf c oc ij fw j S hc nN p=>?_;rw[a] at S;rw[j];refine xE (R.there) λU W=>?_;refine dB nN λK tq hd1 UQ=>?_;refine fh (kla_callFunE hr.xi S rfl E H rfl ⟨c,oc,K,tq,rfl,hc,hd1,UQ⟩ ?_);rw[m us _ _ _ _ (fB [_,_,_] (.e 1 (.v 0) (.v 1) (.f 1 (.v 0) (.v 2) .nil)) 0 (.v 2) (.v 1) tt tt hn cn)];refine aj (wpAny_newFunctionEnv qp (λx B=>xj _ (oH (List.of_mem_zip B).1)) (λiz y z=>?_) hk);have um:∀b o,s.heap.get? b=some o->iz.get? b=some o:=λb o e=>z.extBut b o (bL (bT e)) (bf _ e);refine⟨((g.T.nolimit).keeps R.hb).fresh _ z,kla_codeExpr ?_⟩;have mD:Wd.Le wd (wd.jn d.L U):=Wd.ny R.pv;have R1:bU g ⟨g.tq t++".<locals>.",.ref c,scope,names,g.ff t⟩ ⟨s.heap.objs.size,some f,some s.heap.objs.size,((g.ff t).zip (ls.map wd.ρ)).reverse⟩ (wd.jn d.L U) ⟨iA names.length vs,ls,σ.mem⟩
   {s with heap:=iz,toks:=s.toks+((names.take n).zip us).length}:=by
   refine R.enterX W (c5 _) y um (λi x v e1 e2=>?_) (IU Y8 p);exact jy (rJ (D.mono λ_ _ h=>VR.mono (Z.trans mD) h) e2) λhi u N Ma=>⟨u,pA nc e1 N (hn▸hi),Ma⟩
  refine bb.go (hb c ⟨s.heap.objs.size,some f,some s.heap.objs.size,((g.ff t).zip (ls.map wd.ρ)).reverse⟩ _ (wd.jn d.L U) hr.deeper) (.refl _) R1 J λr s' bg r' a9 x1 x2 x3 x4=>?_;exact az (bg.jS d.L) r' _ (Wd.oN R.pv x1) (R.leave W x2 x1) (VR.jS x3) x4
end
set_option maxHeartbeats 1000000
section
open PySem.AutoSeq1 (wpAny_loadPart')
def rV(xs:Array Value):Prop:=∀(i:Nat)(v:Value),xs[i]?=some v->∃x t,v= .str x t
theorem MK{prog:Program}{w:World}(l b:Addr)(xs I:Array Value)(n n2:Nat)(B:rV xs)(hy:rV I)(k:Nat):∀(i:Nat)(A:Around)(R:Result->Shared->Prop)(s:Shared),xs.size-i=k->s.heap.get? l=some {cls:=.type "list",dict:=none,data:=.seq xs n,slots:= #[]}->s.heap.get? b=some {cls:=.type "list",dict:=none,data:=.seq I n2,slots:= #[]}-> (∀c,R (.ok (.ret (.bool c))) s)->codeAny (model prog w) A (.builtin "list.__eq__.loop" ⟨[.ref l,.ref b,rawInt i,rawInt 0],[]⟩) R s:=by
 induction k with
 |zero=>
  intro i A R s hk Z hb h;obtain⟨hp,g,d,tk,os⟩:=s;refine fe MeetsSeq3.entry_eq_loop ?_;wp_walk using fJ Z,fJ hb;have US:xs[((i:Nat):Int).toNat]?=none:=by simp;exact lA (λq1 q2=>aQ [_,_,_] (.e 1 (.v 0) (.n 0) (.f 1 (.a (.v 0) (.v 1)) (.v 2) .nil)) 0 (.v 2) (.v 1) tt hk q2) (λq1 q2=>aQ [_,_] (.c 1 (.a (.v 0) (.n 1)) (.v 1) .nil) 0 (.v 0) (.v 1) tt q1)
  rw[US];wp_walk using fJ Z,fJ hb;exact h _
 |succ k T=>
  intro i A R s hk Z hb h;obtain⟨hp,g,d,tk,os⟩:=s;refine fe MeetsSeq3.entry_eq_loop ?_;wp_walk using fJ Z,fJ hb;have dP:i<xs.size:=Nat.lt_of_sub_pos (by rw[hk];exact Nat.succ_pos k);have US:xs[((i:Nat):Int).toNat]?=some xs[i]:=by simp[dP]
  rw[US];cases TC:I[((i:Nat):Int).toNat]? with
  |none=>wp_walk using fJ Z,fJ hb;exact h _
  |some y=>
   refine w8 (B i xs[i] (by simp[dP])) λa t ha=>?_;refine w8 (hy _ y TC) λc u hc=>?_;subst hc;rw[ha] at US ⊢;refine U (wpAny_eqBool_str ?_);split
   ·refine U (aj (aj ?_));have e:((i:Nat):Int)+1=((i+1:Nat):Int):=by push_cast;rfl
    rw[e];exact⟨gW MeetsSeq3.plain_eq_loop _,T (i+1) _ R _ (by rw[Nat.sub_add_eq,hk];rfl) Z hb h⟩
   ·wp_walk using fJ Z,fJ hb;rw[US,TC];refine U (PySem.P.lt_str ?_);exact aj (h _)
theorem Ax{l b:Addr}{xs I:Array Value}{n n2:Nat}{Q:Bool->Shared->Prop}(N:A.units<cLine)(Z:s.heap.get? l=some {cls:=.type "list",dict:=none,data:=.seq xs n,slots:= #[]}) (hb:s.heap.get? b=some {cls:=.type "list",dict:=none,data:=.seq I n2,slots:= #[]}) (B:rV xs) (hy:rV I)(h:∀c,Q c s):wpAny (model prog w) A (keyLt' oneType' (.ref l) (.ref b)) Q E s:=by rw[keyLt'_oneType,oneLt'_eq];simp only[if_true];refine U (wpAny_cRoomFor N ?_);have y:s.TypeIs (.ref l) "list":=⟨_,Z,rfl⟩;have hT2:s.TypeIs (.ref b) "list":=⟨_,hb,rfl⟩;refine U (wpAny_callSpecialIfBound?_slot y PySem.F.slot_list_lt (fh (oE PySem.F.slot_list_lt.plain PySem.F.entry_list_lt (PySem.F.slot_list_lt.check _ _ _ _ _ _ _ _ y (PySem.F.args_list_lt_2 _ _) ?_))));have f3:=AutoSeq1.sub_list_list;obtain⟨hp,g,d,tk,os⟩:=s;wp_walk using fJ Z,fJ hb;exact⟨gW MeetsSeq3.plain_eq_loop _,MK l b xs I n n2 B hy _ 0 _ _ _ rfl Z hb λc=>wpAny_truthy_bool (h c)⟩
end
end
section
variable {C D S a fI:Addr}{A:Around}{es:Array (Int×Value)}{Q:Bool->Shared->Prop}{d:g_}{F:df}{h:Heap}{kvs:List (Str×Value)}{ds:List DictEntry}{ts:List PySem.Expr}{body:List Stmt}{xs:List Str}{W:List V->ad V}{ks us:List Value}{e ep i it k ln:Nat}{p pos tp:Pos}{prog:Program}{Wb:ad Fl}{t:SetTable}{s:Shared}{σ:St}{kw x:Str}{tk:Tok}{f fu u:Value}{E:Value->Shared->Prop}{wd af:Wd}{w:World}
noncomputable def xK(P:Array Nat->Bool):KasT (Array Nat)->Bool
 | .ret a=>P a
 | .ask i j k=>Nat.blt i 2&&Nat.blt j 2&&xK P (k true)&&xK P (k false)
theorem ML{κ:SortKind}{P:Array Nat->Bool}{G:Array Nat->Shared->Prop}(Y9:∀(i j:Nat)(C:Bool->Shared->Prop),i<2->j<2->(∀b,C b s)->kas_ask prog w A κ ks i j C s)(f:∀p,P p=true->G p s) (t:KasT (Array Nat)) (h:xK P t=true):t.kasWp (kas_ask prog w A κ ks) G s:=by
 induction t with
 |ret a=>exact f a h
 |ask i j k T=>
  refine xA ((aM _ _).mp h) λh h4=>xA ((aM _ _).mp h) λh h3=>xA ((aM _ _).mp h) λh1 h2=>?_;refine Y9 i j _ (aU h1) (aU h2) λb=>?_;cases b
  ·exact T false h4
  ·exact T true h3
noncomputable def Ee(p:Array Nat):Bool:=P1 p.toList [0,1]||P1 p.toList [1,0]
theorem Gs:xK Ee (kas_sort 2)=true:=by kernel_rfl
section
variable {g:G}
def u0(W:V->List V->ad V)(t:V):List V->List V->St->(List V->St->Prop)->Prop
 | [],ks,σ,K=>K ks σ
 |x::r,ks,σ,K=>W t [x] σ λkv a9=>u0 W t r (ks++[kv]) a9 K
noncomputable def Ay(mem:List O)(v:V):Bool:=(v.lo.bind λl=>(sL mem[l]?).bind kH).isSome
theorem MM(R:bU g F d wd σ s){v:V}(hv:VR wd v u)(h:Ay σ.mem v=true):∃a xs n,u= .ref a/\s.heap.get? a=some {cls:=.type "list",dict:=none,data:=.seq xs n,slots:= #[]}/\rV xs:=qd h λts h=>aI h λl e h=>aI h λxs r h=>R.lst r λI n _ ho dL=>bx (qv dL h) λll e1 e3=>⟨_,_,n,(VR.ref e hv).2,ho,λi v hv=>by
  rw[jY,e1] at hv;exact bx (Option.map_eq_some_iff.mp ((bi ..).symm.trans hv)) λp _ e=>⟨_,_,e.symm⟩⟩
def KF(g:G)(F:df)(d:g_)(wd:Wd)(l a:Addr)(oa:Obj)(n:Nat)(K:List V->St->Prop)(s':Shared):Prop:=∃bg a9 TG UT e',Wd.Le wd bg/\bU g F d bg a9 s'/\jB g d bg [l,a]/\s'.heap.get? a=some oa/\s'.heap.get? l=some (aG "list" UT e')/\aE (VR bg) TG UT/\UT.length=n/\K TG a9
theorem u4:¬ Perm (aG "list" ks e):=λp=>p.elim (λp=>w8 p λzs n q=>absurd (kg (ag Obj.cls q)) (by decide)) λp=>xE p λq p=>dB p λvs t e1 _=>nomatch e1
theorem IV{W:V->List V->ad V}(hc:gc g k W)(hr:cK A k){t:V}(S:VR af t fu){l:Addr}{oa:Obj}(Q9:l≠a)(hna:¬ Perm oa){K:List V->St->Prop} {body:Value->PUnit->Sem (ForInStep PUnit)}
 (hb:∀x (s:Shared)(P:Shared->Prop),wpAny (model g.prog g.w) A (call fu [x]) (λkv dG=>∃(ks:List Value)(e:Nat),dG.heap.get? l=some (aG "list" ks e)/\ks.length<64/\
  ∀h' c,Heap.SameBut l dG.heap h'->h'.get? l=some (aG "list" (ks++[kv]) c)->P {dG with heap:=h'}) (λ_ _=>False) s->
  wpAny (model g.prog g.w) A (body x ⟨⟩) (λr s'=>r= .yield ⟨⟩/\P s') E s)
 {xs:List V} (TH:aE (VR af) xs us):∀(kv:List V)(ks:List Value)(wd:Wd)(σ:St)(s:Shared)(e:Nat),Wd.Le af wd->bU g F d wd σ s->jB g d wd [l,a]->s.heap.get? a=some oa->s.heap.get? l=some (aG "list" ks e)->
  aE (VR wd) kv ks->ks.length+us.length<64->u0 W t xs kv σ K->
  wpAny (model g.prog g.w) A (forIn us PUnit.unit body) (λ_=>KF g F d wd l a oa (ks.length+us.length) K) E s:=by
 induction TH with
 |nil=>intro kv ks wd σ s e Z R H ha hk OP cn J;rw[List.forIn_nil];exact aj ⟨wd,σ,kv,ks,e,.refl _,R,H,ha,hk,OP,rfl,J⟩
 | @cons x u xs us B TH T=>
  intro kv ks wd σ s e Z R H ha hk OP cn J;rw[List.forIn_cons];have nI:∀y∈[l,a],∃o,s.heap.get? y=some o/\¬ Perm o:=λy hy=>(List.mem_cons.mp hy).elim (λq=>q▸⟨_,hk,u4⟩) λhy=>List.mem_singleton.mp hy▸⟨_,ha,hna⟩;have R₁:=R.jA H λy hy=>bx (nI y hy) λo ho _=>⟨o,ho⟩;have mD:=H.le s.heap;have UU:=hc.2 F d A (wd.jA [l,a] s.heap) t fu [x] [u] hr (VR.mono (Z.trans mD) S) (.cons (VR.mono (Z.trans mD) B) .nil) s _ σ _ (.refl _) R₁ J;have UV:=cn;refine U (a_ (hb u s (KF g F d wd l a oa (ks.length+1) (λTG a9=>u0 W t xs TG a9 K)) (a_ UU (λv dG x=>?_) λ_ _ x=>x.elim)) (λq s' Y=>?_) λ_ _ x=>x)
  ·refine fZ x λD b G x1 x2 x3 x4=>t_ (R.d5 H nI x2 x1) λt1 t2 t3=>?_;have gG:=H.le' x1;refine⟨ks,e,t3 l (.head _) _ hk,by exact aQ [_,_] (.c 1 (.a (.a (.v 0) (.v 1)) (.n 1)) (.n 64) .nil) 0 (.a (.v 0) (.n 1)) (.n 64) tt cn,λh' c M f=>?_⟩;exact⟨D.d5 [l,a],G,kv++[b],ks++[v],c,gG,t1.other t2 λy o hy ho=>(M.2 y λq=>hy (by rw[q];exact .head _)).trans ho,t2,(M.2 a (bM Q9)).trans (t3 a (.tail _ (.head _)) _ ha),f,(OP.mono λ_ _=>VR.mono gG).append (.cons (VR.d5 x3) .nil),by simp,x4⟩
  ·refine ud Y λCz D G UW OQ i y1 O y3 y4 y5 y6 y7 y8=>?_;rw[Cz];have e7:OQ.length+us.length=ks.length+(us.length+1):=by rw[y7,c7,gz 1]
   refine a_ (T UW OQ D G s' i (Z.trans y1) O y3 y4 y5 y6 (by rw[e7];exact UV) y8) (λ_ v4 z=>?_) λ_ _ x=>x;exact lz z λbg a9 TG UT e' L z2 z3 z4 z5 z6 z7 z8=>⟨bg,a9,TG,UT,e',y1.trans L,z2,z3,z4,z5,z6,z7.trans e7,z8⟩
end
theorem CA{α:Type}{us:List α}(h:us.length=2):∃u1 u2,us=[u1,u2]:=by
 cases us with
 |nil=>exact nomatch h
 |cons u1 us=>cases us with
  |nil=>exact nomatch h
  |cons u2 us=>exact⟨u1,u2,by rw[List.length_eq_zero_iff.mp (fU (fU h))]⟩
theorem IW{p:Array Nat}(h:Ee p=true):p.toList=[0,1]\/p.toList=[1,0]:=((Bool.or_eq_true _ _).mp h).imp (mu _ _).mp (mu _ _).mp
theorem Az(h:i<ks.length):ks.getD i .none∈ks:=by
 have e:ks.getD i .none=ks[i]:=by simp[List.getD,bC h]
 rw[e];exact List.getElem_mem h
section
variable {g:G}
theorem xL{l:Addr}{e1:Nat}{st:SortSt}{m:List Value}{P:PySem.Fin->Shared->Prop}(Q9:l≠a)(Y_:(arrOf st).map (·.2)=m.toArray) (S:failedOf st=none) (hz:m.length<64) (hkz:ks.length<64) (ha:s.heap.get? a=some (aG "list" [] e1)) (hk:s.heap.get? l=some (aG "list" ks e))(h:∀h' n c,(∀b,b≠a->b≠l->h'.get? b=s.heap.get? b)->h'.get? a=some (aG "list" m n)->h'.get? l=some (aG "list" [] c)->P (.done (.ret .none)) {s with heap:=h'}):wpAny (model prog w) A (ksk_tail a false e1 (.ref l) st) P E s:=by
 have s1:=eg s.heap l (Obj.mapSeq λ_=>(#[]:Array Value));have hck:=get?_update_seq hk λ_=>#[];have UX:=(s1.2 a (bM Q9)).trans ha;have s2:=eg (s.heap.update l (Obj.mapSeq λ_=>(#[]:Array Value))) a (Obj.mapSeq λ_=>m.toArray);have Q_:=get?_update_seq UX λ_=>m.toArray;unfold ksk_tail;try dsimp only
 rw[Y_];simp only[jv,if_false];refine U (i8 hk rfl ?_ (by rw[aZ,dj];exact aQ [_] (.c 1 (.a (.v 0) (.n 1)) (.n 64) .nil) 0 (.v 0) (.n 16777216) tt hkz) (aW _));refine U (wpAny_letGo ?_);refine U (seqEpoch_at UX rfl ?_);refine U (i8 UX rfl ?_ (aW _) (by rw[aZ,dj];exact aQ [_] (.c 1 (.a (.v 0) (.n 1)) (.n 64) .nil) 0 (.v 0) (.a (.n 16777216) (.n 1)) tt hz));rw[S];simp only[bne_self_eq_false,jv,if_false];refine aj (h _ _ _ (λb h1 h2=>(s2.2 b h1).trans (s1.2 b h2)) Q_ ((s2.2 l Q9).trans hck))
def ksR(g:G)(F:df)(d:g_)(wd:Wd)(a:Addr)(us:List Value)(K:List V->St->Prop):PySem.Fin->Shared->Prop:=λfin s'=>fin= .done (.ret .none)/\∃bg a9 kv f n',Wd.Le wd bg/\bU g F d bg a9 s'/\jB g d bg [a]/\s'.heap.get? a=some (aG "list" f n')/\(f=us\/f=us.reverse)/\K kv a9
theorem MN{W:V->List V->ad V}(hc:gc g k W)(hr:cK A k){t:V}(S:VR af t fu){xs:List V}{n:Nat}{K:List V->St->Prop} (TH:aE (VR af) xs us) (Z:Wd.Le af wd) (R:bU g F d wd σ s) (H:jB g d wd [a]) (ha:s.heap.get? a=some (aG "list" us n)) (h2:us.length<=2)
 (J:u0 W t xs [] σ λkv a9=>gd (kv.all (Ay a9.mem)) (K kv a9)):
 wpAny (model g.prog g.w) A (ksk_tree a fu false) (ksR g F d wd a us K) E s:=by
 have s1:=eg s.heap a (Obj.mapSeq λ_=>(#[]:Array Value));obtain⟨e1,UY⟩:∃e1,(s.heap.update a (Obj.mapSeq λ_=>(#[]:Array Value))).get? a=some (aG "list" [] e1):=⟨_,get?_update_seq ha λ_=>#[]⟩;have hkS:((s.heap.update a (Obj.mapSeq λ_=>(#[]:Array Value))).push (aG "tuple" us 0)).objs.size=s.heap.objs.size+1:=by rw[size_push',Heap.size_update]
 have dP:=bT ha;unfold ksk_tree;refine U (listItems_at ha rfl ?_);refine U (i8 ha rfl ?_ (by rw[aZ,dj];exact aQ [_] (.c 1 (.v 0) (.n 2) .nil) 0 (.v 0) (.n 16777216) tt h2) (aW _));refine U (seqEpoch_at UY rfl ?_);refine U (wpAny_newTuple ?_ (by show us.length<=_;rw[dj];exact aQ [_] (.c 1 (.v 0) (.n 2) .nil) 0 (.v 0) (.n 16777216) tt h2));refine U (wpAny_newList ?_ (aW _));refine bq ?_;show wpAny (model g.prog g.w) A (ksk_rest a fu false us.toArray e1 (.ref ((s.heap.update a (Obj.mapSeq λ_=>(#[]:Array Value))).push (aG "tuple" us 0)).objs.size)) _ E
  {s with heap:=((s.heap.update a (Obj.mapSeq λ_=>(#[]:Array Value))).push (aG "tuple" us 0)).push (aG "list" [] 0)}
 have XH:∃hp,hp=((s.heap.update a (Obj.mapSeq λ_=>(#[]:Array Value))).push (aG "tuple" us 0)).push (aG "list" [] 0):=⟨_,rfl⟩;refine xE XH λhp XI=>?_;try clear XH
 have TI:∃l,l=((s.heap.update a (Obj.mapSeq λ_=>(#[]:Array Value))).push (aG "tuple" us 0)).objs.size:=⟨_,rfl⟩;refine xE TI λl XJ=>?_;try clear TI
 have hk:hp.get? l=some (aG "list" [] 0):=by rw[XI,XJ];exact cu _ rfl
 have keep:∀b o,b≠a->s.heap.get? b=some o->hp.get? b=some o:=λb o hb q=>by rw[XI];exact bf _ (bf _ ((s1.2 b hb).trans q))
 have hap:hp.get? a=some (aG "list" [] e1):=by rw[XI];exact bf _ (bf _ UY)
 have Q9:l≠a:=dJ (by rw[XJ,hkS];exact fH dP);rw[<-XJ,<-XI];have R0:bU g F d wd σ {s with heap:=hp}:=R.other H λb o hb e=>keep b o (λq=>hb (by rw[q];exact .head _)) e;have nH:s.heap.get? l=none:=gM (by rw[XJ,hkS];exact aQ [_] .nil 0 (.v 0) (.a (.v 0) (.n 1)) tt);have Hk:=jB.fresh R λx B=>by rw[List.mem_singleton.mp B];exact nH
 have H2:jB g d wd [l,a]:=⟨λx B=>(List.mem_cons.mp B).elim (λq=>Hk.fz x (by rw[q];exact .head _)) (H.fz x),λx B=>(List.mem_cons.mp B).elim (λq=>Hk.own x (by rw[q];exact .head _)) (H.own x),
  λq=>(List.mem_cons.mp q).elim (λq=>Hk.L (by rw[q];exact .head _)) H.L,λx B=>(List.mem_cons.mp B).elim (λq=>Hk.hb x (by rw[q];exact .head _)) (H.hb x)⟩
 unfold ksk_rest;refine U (eN ?_);first
  |rw[List.forIn_toArray]
  |(rw[<-Array.forIn_toList];simp only[List.toList_toArray])
  |rw[<-Array.forIn_toList]
 refine U (a_ (IV (F:=F) (E:=E) (K:=λkv a9=>gd (kv.all (Ay a9.mem)) (K kv a9)) hc hr S Q9 u4 (λx s' P B=>?_) TH [] [] wd σ _ 0 Z R0 H2 hap hk .nil (by show 0+us.length<64;exact aQ [_] (.c 1 (.v 0) (.n 2) .nil) 0 (.a (.a (.n 0) (.v 0)) (.n 1)) (.n 64) tt h2) J) (λ_ s' hd=>?_) λ_ _ x=>x)
 ·refine U (wpAny_attempt (a_ B (λkv v4 hk=>?_) λ_ _ hF=>hF.elim));refine dZ hk λks e h1 h2 h3=>?_;have s1:=eg v4.heap l (Obj.mapSeq (·.push kv));have ea:(List.toArray ks).push kv=List.toArray (ks++[kv]):=by simp
  obtain⟨c2,Q_⟩:∃c2,(v4.heap.update l (Obj.mapSeq (·.push kv))).get? l=some (aG "list" (ks++[kv]) c2):=by unfold aG;rw[<-ea];exact⟨_,get?_update_seq h1 (·.push kv)⟩
  try dsimp only
  refine U (i8 h1 rfl ?_ (by rw[aZ,dj];exact aQ [_] (.c 1 (.a (.v 0) (.n 1)) (.n 64) .nil) 0 (.v 0) (.n 16777216) tt h2) (am (fN (Array.size_push ..)) (by rw[aZ,dj];exact aQ [_] (.c 1 (.a (.v 0) (.n 1)) (.n 64) .nil) 0 (.a (.v 0) (.n 1)) (.a (.n 16777216) (.n 1)) tt h2)));exact aj ⟨rfl,h3 _ c2 s1 Q_⟩
 ·refine lz hd λbg a9 kv ks e y1 O y3 y4 y5 y6 y7 y8=>xA (aL y8) λZa hK=>?_;have M:ks.length=us.length:=by rw[y7];simp
  try dsimp only
  refine U (listItems_at y5 rfl ?_);have fin:∀(st:SortSt)(m:List Value),(arrOf st).map (·.2)=m.toArray->failedOf st=none->(m=us\/m=us.reverse)->
   wpAny (model g.prog g.w) A (ksk_tail a false e1 (.ref l) st) (ksR g F d wd a us K) E s':=by
   intro st m ho OS OO;have XK:m.length=us.length:=OO.elim (ag _) λe=>by rw[e,dH]
   refine xL Q9 ho OS (aQ [_,_] (.c 1 (.v 0) (.n 2) (.e 1 (.v 1) (.v 0) .nil)) 0 (.a (.v 1) (.n 1)) (.n 64) tt h2 XK) (aQ [_,_] (.c 1 (.v 0) (.n 2) (.e 1 (.v 1) (.v 0) .nil)) 0 (.a (.v 1) (.n 1)) (.n 64) tt h2 M) y4 y5 λh' n' c hb z TJ=>⟨rfl,bg,a9,kv,m,n',y1,?_,?_,z,OO,hK⟩
   ·exact O.other y3 λb o D e=>(hb b (λq=>D (by rw[q];exact .tail _ (.head _))) (λq=>D (by rw[q];exact .head _))).trans e
   ·exact⟨λx B=>y3.fz x (.tail _ B),λx B=>y3.own x (.tail _ B),λq=>y3.L (.tail _ q),λx B=>y3.hb x (.tail _ B)⟩
  unfold ksk_end;try dsimp only
  simp only[jv,if_false];by_cases cn:us.length=2
  ·have UZ:¬ us.toArray.size<2:=by rw[aZ];exact(λq=>zo [_] (.f 1 (.v 0) (.n 2) (.c 1 (.a (.v 0) (.n 1)) (.n 2) .nil)) 0 tt cn q)
   rw[aH UZ,aH UZ];have IX:∀u∈ks,∃b I n,u= .ref b/\s'.heap.get? b=some {cls:=.type "list",dict:=none,data:=.seq I n,slots:= #[]}/\rV I:=λu N=>by
    refine xE (List.mem_iff_getElem?.mp N) λi hi=>?_;have Go:i<kv.length:=by rw[y6.len];exact(List.getElem?_eq_some_iff.mp hi).1
    exact bx (y6.get (bC Go)) λu' Ql hv=>MM O (aq (Ql.symm.trans hi)▸hv) (List.all_eq_true.mp Za _ (List.getElem_mem Go))
   have hkd:wpAny (model g.prog g.w) A (keyKind' ks.toArray) (λκ v4=>κ=oneType'/\v4=s') (λ_ _=>False) s':=by refine kas_kind (T:=.type "list") (aQ [_,_] (.f 1 (.v 0) (.v 1) (.f 1 (.v 1) (.n 2) .nil)) 0 (.n 2) (.v 0) tt M cn) (λv hv=>?_) (by decide) (by decide) ⟨rfl,rfl⟩;exact jb (IX v hv) λb I n pz hb _=>pz.symm▸(Looks.ld hb).andThen .now
   refine U (a_ hkd (λκ v4 q=>?_) λ_ _ x=>x.elim);refine xA q λCz Y=>?_;rw[Cz,Y];refine U (a_ (kat_run (E:=E) (κ:=oneType') (ks:=ks) (vs:=us) (Q:=λZb sz=>∃p:Array Nat,Ee p=true/\arrOf Zb=p.map (kas_item (ks.toArray.zip us.toArray))/\failedOf Zb=none/\sz=s') (G:=λp sz=>Ee p=true/\sz=s')
    M (aQ [_] (.f 1 (.v 0) (.n 2) .nil) 0 (.n 2) (.v 0) tt cn) (aQ [_] (.e 1 (.v 0) (.n 2) .nil) 0 (.a (.v 0) (.n 1)) (.n 64) tt cn) (λp Zb s' X a2 a3 a4=>⟨p,a4.1,a2,a3,a4.2⟩) ?_) ?_ λ_ _ x=>x)
   ·rw[cn];refine ML (λi j C hi hj hC=>?_) (λp hp=>⟨hp,rfl⟩) _ Gs;refine jb (IX (ks.getD i .none) (Az (aQ [_,_,_] (.f 1 (.v 0) (.v 1) (.f 1 (.v 1) (.n 2) (.c 1 (.a (.v 2) (.n 1)) (.n 2) .nil))) 0 (.a (.v 2) (.n 1)) (.v 0) tt M cn hi))) λb I n e1 hb dL=>?_;refine jb (IX (ks.getD j .none) (Az (aQ [_,_,_] (.f 1 (.v 0) (.v 1) (.f 1 (.v 1) (.n 2) (.c 1 (.a (.v 2) (.n 1)) (.n 2) .nil))) 0 (.a (.v 2) (.n 1)) (.v 0) tt M cn hj))) λb' h n' e1' D B1=>?_;unfold kas_ask;rw[e1,e1'];exact Ax hr.Qe hb D dL B1 hC
   ·intro r s3 hr3;refine zg hr3 λp hp har OS es=>?_;rw[es];refine fin r.2 _ (kat_snds M har) OS ?_;refine w8 (CA cn) λu1 u2 jJ=>?_;rw[jJ];exact(IW hp).elim (λe=>by rw[e];exact .inl rfl) λe=>by rw[e];exact .inr rfl
  ·have UZ:us.toArray.size<2:=by rw[aZ];exact(Nat.lt_or_gt_of_ne cn).elim (λq=>aQ [_] (.c 1 (.a (.v 0) (.n 1)) (.n 2) .nil) 0 (.a (.v 0) (.n 1)) (.n 2) tt q) (λq=>aQ [_] (.c 2 (.v 0) (.n 2) (.c 1 (.a (.n 2) (.n 1)) (.v 0) .nil)) 0 (.a (.v 0) (.n 1)) (.n 2) tt h2 q)
   rw[a6 UZ,a6 UZ];refine U (aj ?_);refine U (aj ?_);try dsimp only
   refine fin _ us ?_ rfl (.inl rfl);refine(?_ :((ks.toArray.zip us.toArray).map (·.2))=us.toArray);apply Array.toList_inj.mp;rw[Array.toList_map,ksk_zip];refine(?_ :(ks.zip us).map (·.2)=us);rw[List.map_snd_zip];exact aQ [_,_] (.f 1 (.v 0) (.v 1) .nil) 0 (.v 1) (.v 0) tt M
end
structure jf(led:Bool)(t:SetTable)(n:Nat):Prop where
 XL:t.dummies= #[]
 mask:7<=t.mask
 led:t.led=led
 fits:t.fits n=true
theorem jf.fresh(led:Bool):jf led (.fresh 0 0 led) 0:=⟨rfl,aF _,rfl,by decide+revert⟩
theorem jf.standIn{led:Bool}{n m:Nat}(h:jf led t n)(hm:1<=m):jf led (t.standIn m) m:=⟨rfl,by show 7<=4*m+4;exact aQ [_] (.c 3 (.n 1) (.v 0) .nil) 0 (.n 7) (.a (.m 4 (.v 0)) (.n 4)) tt hm,h.led,SetTable.standIn_fits t m⟩
theorem jf.lay{led:Bool}(H:jf led t es.size)(h:Int)(x:Value):jf led (layNew t es h x).2.1 (layNew t es h x).1.size:=by
 have S:=layNew_fits t es h x;revert S;unfold layNew;split
 ·rename_i nG wd _;dsimp only;intro S;have hd:(t.put nG).1.dummies= #[]:=by
   unfold SetTable.put;dsimp only;rw[H.XL];split
   ·rename_i q;exact absurd q (by unfold SetTable.has;simp)
   ·rfl
  unfold SetTable.orStandIn at S ⊢;split
  ·rename_i q;exact⟨hd,H.mask,H.led,q⟩
  ·refine⟨rfl,?_,H.led,SetTable.standIn_fits _ _⟩;refine(?_ :7<=4*(SetTable.insertAt es (t.put nG).2 (h,x)).size+4);have:1<=(SetTable.insertAt es (t.put nG).2 (h,x)).size:=by unfold SetTable.insertAt;simp;exact aQ [_,_] .nil 0 (.n 1) (.a (.a (.v 0) (.n 1)) (.v 1)) tt
   exact aQ [_] (.c 3 (.n 1) (.v 0) .nil) 0 (.n 7) (.a (.m 4 (.v 0)) (.n 4)) tt this
 ·dsimp only;intro _;have e:(es.push (h,x)).size=es.size+1:=Array.size_push ..;rw[e];exact H.standIn (aQ [_] .nil 0 (.n 1) (.a (.v 0) (.n 1)) tt)
noncomputable def iE(es:Array (Int×Value))(ep:Nat)(t:SetTable):Obj:={cls:=.type "set",dict:=none,data:=.set es ep t,slots:= #[]}
section
theorem Gu{led:Bool}{v:Value}(MO:(PySem.strKind prog w).is x v=true)(hsc:v.scannable=true)(ho:s.heap.get? a=some (iE es ep t))(Hr:ElemsOf (PySem.strKind prog w) es.toList)(H:jf led t es.size) (D:es.size<=2) (Ae:∀e∈es.toList,(PySem.strKind prog w).is x e.2=false)(h:∀h' tN C,Heap.SameBut a s.heap h'->h'.get? a=some (iE tN (ep+1) C)->tN.toList.Perm (es.toList++[((PySem.strKind prog w).hash x,v)])->jf led C tN.size->C.plain=false->Q true {s with heap:=h'}):wpAny (model prog w) A (setAddHashed a v ((PySem.strKind prog w).hash x)) Q E s:=by
 have hd:(iE es ep t).data= .set es ep t:=rfl;have hb:es.size<scanBound:=by have:scanBound=4096:=rfl;exact aQ [_,_] (.c 1 (.v 0) (.n 2) (.f 1 (.v 1) (.n 4096) .nil)) 0 (.a (.v 0) (.n 1)) (.v 1) tt D this
 unfold setAddHashed setAddHashedIn;refine bq (U (i4 ho hd H.fits ?_));dsimp only;rw[byScan_of hsc hb Hr];simp only[↓reduceIte];unfold setAddByScan;refine U ?_;refine U (eN ?_);refine U (wpAny_setScan_of MO ho hd H.fits Hr ?_);rw[List.findIdx?_eq_none_iff.mpr λe he=>Ae e he];dsimp only;have hgw:∀(b:Bool){dG:Shared}{Q':Unit->Shared->Prop},Q' () dG->wpAny (model prog w) A (match b with|true=>rule "set.scan.the-table-gave-way" |false=>pure ()) Q' E dG:=
  λb dG Q' Y=>by cases b<;>first|exact aj Y|exact eN Y
 have XM:plainKind v=false:=xE (lS MO) λtk e=>by rw[e];rfl
 have u5:=layNew_perm t es ((PySem.strKind prog w).hash x) v;have r:=H.lay ((PySem.strKind prog w).hash x) v;generalize S:layNew t es ((PySem.strKind prog w).hash x) v=L at u5 r ⊢;obtain⟨d,t1,IY,ado⟩:=L;dsimp only at u5 r ⊢;rw[Array.toList_push] at u5;have U0:d.size=es.size+1:=by rw[<-gi,u5.length_eq,ak,gi];rfl
 refine U (hgw _ ?_);have tail:∀t2:SetTable,jf led t2 d.size->t2.plain=false->wpAny (model prog w) A (do
  storeSet a d t2
  if (!IY&&t2.tooFull)=true then do
   (match (relayAll t2 d (SetTable.grown d.size)).2.2 with|true=>rule "set.scan.the-table-gave-way" |false=>pure ())
   storeSet a (relayAll t2 d (SetTable.grown d.size)).1 (relayAll t2 d (SetTable.grown d.size)).2.1
   pure (some true)
   else pure (some true)) (λo s'=>o=some true/\Q true s') E s:=by
  intro t2 h2 Zc;have U1:t2.tooFull=false:=by
   unfold SetTable.tooFull SetTable.fill;have h3:=h2.fits;unfold SetTable.fits SetTable.fill at h3;rw[aM] at h3;have h4:t2.place.size=d.size:=by simpa using h3.1
   have h5:=h2.mask;rw[h2.XL,h4,U0];have h6:¬ (es.size+1+0)*5≥t2.mask*3:=λq=>by rw[Nat.mul_comm _ 5,Nat.mul_comm _ 3] at q;exact zo [_,_] (.c 1 (.m 3 (.v 1)) (.m 5 (.a (.a (.v 0) (.n 1)) (.n 0))) (.c 5 (.v 0) (.n 2) (.c 3 (.n 7) (.v 1) .nil))) 0 tt q D h5
   simpa using h6
  refine U (wpAny_storeSet_of ho hd ?_ (by rw[U0,dj];exact aQ [_] (.c 1 (.v 0) (.n 2) .nil) 0 (.a (.v 0) (.n 1)) (.n 16777216) tt D));rw[U1,Bool.and_false];simp only[jv,if_false];have K:(s.heap.update a (Obj.putSet d t2)).get? a=some (iE d (ep+1) t2):=by have:=d_ (Obj.putSet d t2) ho (by rw[putSet_of d t2 hd];rfl);rw[putSet_of d t2 hd] at this;exact this
  exact aj ⟨rfl,h _ d t2 (eg ..) K u5 h2 Zc⟩
 split
 ·refine U ?_;rw[hashByValue_scannable 8 hsc];refine aj ?_;refine a_ (tail (if plainKind v=true then t1 else {t1 with plain:=false}) ?_ (by rw[XM];rfl)) (λo s' q=>?_) λ_ _ x=>x
  ·split
   ·exact r
   ·exact⟨r.XL,r.mask,r.led,SetTable.fits_plain_off r.fits⟩
  ·rw[q.1];exact aj q.2
 ·rename_i YG;refine U (aj ?_);simp only[↓reduceIte];refine a_ (tail t1 r (by simpa using YG)) (λo s' q=>?_) λ_ _ x=>x;rw[q.1];exact aj q.2
end
def U2(w:World)(x:Str)(e:Int×Value):Prop:=e.1=hashStr w x/\∃tk,e.2= .str x tk
def y_(w:World)(led:Bool)(h:Heap)(S:Addr)(xs:List Str):Prop:=∃es ep t,h.get? S=some (iE es ep t)/\jf led t es.size/\(es.size=0\/t.plain=false)/\∃I:List Str,I.Perm xs/\aE (U2 w) I es.toList
theorem aE.perm{α β:Type}{R:α->β->Prop}{m f:List β}(p:f.Perm m):∀{l:List α},aE R l m->∃l',l'.Perm l/\aE R l' f:=by
 induction p with
 |nil=>intro l h;exact⟨l,.refl _,h⟩
 |cons x p T=>
  intro l h;cases h with
  |cons a b=>exact bx (T b) λl' h1 h2=>⟨_,h1.cons _,.cons a h2⟩
 |swap x y r=>
  intro l h;cases h with
  |cons a b=>cases b with
   |cons c d=>exact⟨_,List.Perm.swap ..,.cons c (.cons a d)⟩
 |trans p q Zd Ze=>intro l h;exact bx (Ze h) λl1 h1 h2=>bx (Zd h2) λl2 h3 h4=>⟨l2,h3.trans h1,h4⟩
theorem Gv(prog:Program)(w:World)(k x:Str)(t:Tok):(PySem.strKind prog w).is k (.str x t)=d3 x k:=by refine(?_ :Value.isStrOf k (.str x t)=_);unfold Value.isStrOf;exact jT x k
theorem U2.elems{I:List Str}{es:List (Int×Value)}(h:aE (U2 w) I es):ElemsOf (PySem.strKind prog w) es:=by
 induction h with
 |nil=>exact λ_ h=>nomatch h
 | @cons y _ _ _ h _ T=>exact λe he=>(List.mem_cons.mp he).elim (λq=>Tv h λh1 tk h2=>q▸⟨⟨y,by rw[h2];exact eU _ _ _ _,h1⟩,by rw[h2];rfl⟩) (T e)
section
variable {led:Bool}
theorem y_.fresh(h:Heap):y_ w led (h.push (iE #[] 0 (.fresh 0 0 led))) h.objs.size []:=⟨#[],0,_,cu _ rfl,jf.fresh led,.inl rfl,[],.refl _,.nil⟩
theorem y_.keeps{h':Heap}(x:y_ w led h S xs)(k:∀o,h.get? S=some o->h'.get? S=some o):y_ w led h' S xs:=mX x λes ep t h1 r=>⟨es,ep,t,k _ h1,r⟩
theorem Eg(H:y_ w led s.heap S xs)(cn:xs.length<=2)(B:x∉xs)(h:∀h',Heap.SameBut S s.heap h'->y_ w led h' S (xs++[x])->Q true {s with heap:=h'}):wpAny (model prog w) A (setAddHashed S (.str x tk) (hashStr w x)) Q E s:=by
 refine rB H λes ep t ho M _ I hp dL=>?_;try clear H
 have Hr:es.size=I.length:=by rw[dL.len,gi]
 refine Gu (eU _ _ _ _) rfl ho (U2.elems dL) M (by rw[Hr,hp.length_eq];exact cn) (λe he=>?_) λh' tN C z k6 f N Ra=>?_
 ·refine xE (List.mem_iff_getElem?.mp he) λi hi=>?_;have Go:i<I.length:=by rw[dL.len];exact(List.getElem?_eq_some_iff.mp hi).1
  refine Hw (dL.get (bC Go)) λe' D _ QO h2=>?_;rw[<-aq (D.symm.trans hi),h2,Gv];cases q:d3 I[i] x with
  |false=>rfl
  |true=>exact absurd (hp.mem_iff.mp (by rw[<-(cq _ _).mp q];exact List.getElem_mem Go)) B
 ·refine bx (aE.perm f (dL.append (.cons (show U2 w x (hashStr w x,.str x tk) from⟨rfl,tk,rfl⟩) .nil))) λl' p1 p2=>?_;exact h h' z ⟨tN,ep+1,C,k6,N,.inr Ra,l',p1.trans (hp.append_right _),p2⟩
theorem AA(H:y_ w led s.heap S xs)(cn:xs.length<=2)(B:x∉xs)(h:∀h' QO,Heap.SameBut S s.heap h'->y_ w led h' S (xs++[x])->Q true {s with heap:=h',toks:=QO}):wpAny (model prog w) A (setAdd S (.str x tk)) Q E s:=by unfold setAdd;refine bq (U ((PySem.strKind prog w).pyHash (eU _ _ _ _) ?_));exact Eg H cn B λh' h1 h2=>h h' _ h1 h2
theorem I0(H:y_ w led s.heap S xs){m:Nat}(cn:xs.length+m<=3){Q:Unit->Shared->Prop}(h:Q () s):wpAny (model prog w) A (setRoomFor S m) Q E s:=by
 refine rB H λes ep t ho M _ I hp dL=>?_;try clear H
 have Hr:es.size=I.length:=by rw[dL.len,gi]
 have P:es.size=xs.length:=by rw[Hr,hp.length_eq]
 unfold setRoomFor;refine U (i4 ho rfl M.fits ?_);have hn:t.roomFor m=none:=by
  unfold SetTable.roomFor SetTable.fill;have h3:=M.fits;unfold SetTable.fits SetTable.fill at h3;rw[aM] at h3;have h4:t.place.size=es.size:=by simpa using h3.1
  have h5:=M.mask;have h6:(#[]:Array Nat).size=0:=rfl;rw[aH];rw[M.XL,h4,P,h6];intro q;rw[Nat.mul_comm _ 5,Nat.mul_comm _ 3] at q;exact zo [_,_,_] (.c 1 (.m 3 (.v 2)) (.m 5 (.a (.a (.v 0) (.n 0)) (.v 1))) (.c 5 (.a (.v 0) (.v 1)) (.n 3) (.c 3 (.n 7) (.v 2) .nil))) 0 tt q cn h5
 dsimp only;rw[hn];exact aj h
end
section
variable {led:Bool}
theorem Zf(h:kvs.length<=1):(kvs.map (·.1)=[]/\kvs=[])\/∃k v,kvs.map (·.1)=[k]/\kvs=[(k,v)]:=by
 cases kvs with
 |nil=>exact .inl ⟨rfl,rfl⟩
 |cons p r=>rw[List.length_eq_zero_iff.mp (Nat.le_zero.mp (ow h))];exact .inr ⟨p.1,p.2,rfl,rfl⟩
theorem MP{n:Nat}{Q:Unit->Shared->Prop}{ks:List Str}(H:y_ w led s.heap S xs)(hd:s.heap.get? D=some (dictOf ds n))(XN:S≠D)(hk:aE (λ(k:Str)(e:DictEntry)=>∃t,e.hash=hashStr w k/\e.key= .str k t) ks ds) (cn:xs.length<=2) (QU:ks.length<=1) (B:∀k∈ks,k∉xs)(h:∀h' tk,(∀b o,b≠S->s.heap.get? b=some o->h'.get? b=some o)->y_ w led h' S (xs++ks)->Q () {s with heap:=h',toks:=tk}):wpAny (model prog w) A (do
  let U3 <-dictEpoch D;let es <-dictEntries D
  setRoomFor S es.size
  forIn [:es.size] PUnit.unit λi _=>do
   let es <-dictEntries D
   match es[i]? with
    |some e=>do
     holding [e.key] do
      let _ <-setAddHashed S e.key e.hash
      pure ()
     let ep <-dictEpoch D
     if (ep !=U3)=true then do
      unsupported "dict.changed-during-merge"
      pure (ForInStep.yield PUnit.unit)
      else pure (ForInStep.yield PUnit.unit)
    |x=>do
     unsupported "dict.changed-during-merge"
     pure (ForInStep.yield PUnit.unit)
  pure ()) Q E s:=by
 have G:=hk.len;refine U (wpAny_dictEpoch hd rfl ?_);refine U (wpAny_dictEntries hd rfl ?_);refine U (I0 H (by rw[aZ];exact aQ [_,_,_] (.c 1 (.v 0) (.n 2) (.c 1 (.v 1) (.n 1) (.f 1 (.v 1) (.v 2) .nil))) 0 (.a (.v 0) (.v 2)) (.n 3) tt cn QU G) ?_);cases hk with
 |nil=>refine U ?_;simp only[aZ,fK,Std.Legacy.Range.forIn_eq_forIn_range',Std.Legacy.Range.size];refine aj (aj ?_);exact h s.heap s.toks (λ_ _ _ e=>e) (by simpa using H)
 | @cons k e lk ld hx1 hx2=>
  cases hx2 with
  |cons _ _=>simp at QU
  |nil=>
  refine bx hx1 λt e1 e2=>?_;try clear hx1
  refine U ?_;simp only[aZ,aJ,fK,Std.Legacy.Range.forIn_eq_forIn_range',Std.Legacy.Range.size];refine(?_ :wpAny (model prog w) A (forIn [0] PUnit.unit _) _ E s);rw[List.forIn_cons];refine U (U (wpAny_dictEntries hd rfl ?_));show wpAny (model prog w) A (do
   holding [e.key] do
    let _ <-setAddHashed S e.key e.hash
    pure ()
   let ep <-dictEpoch D
   if (ep !=n)=true then do
    unsupported "dict.changed-during-merge"
    pure (ForInStep.yield PUnit.unit)
    else pure (ForInStep.yield PUnit.unit)) _ E s
  rw[e1,e2];refine U (bq (U (Eg H cn (B k (.head _)) λh' z H'=>aj ?_)));have LH:=(z.2 D (bM XN)).trans hd;refine U (wpAny_dictEpoch LH rfl ?_);simp only[bne_self_eq_false,jv,if_false];refine aj ?_;dsimp only;rw[List.forIn_nil];exact aj (aj (h h' s.toks (λb o hb eb=>(z.2 b hb).trans eb) H'))
theorem Eh{it:Addr}{R:Result->Shared->Prop}(r:S≠it)(hh:A.handled=none)(K:s.heap.IsKeyIter it D i kvs.length ep)(O:s.heap.DictAt (PySem.strKind prog w) D kvs ep)(hn:kvs[i]?=none)(H:y_ w led s.heap S xs)(hR:∀h',(∀b o,b≠it->s.heap.get? b=some o->h'.get? b=some o)->y_ w led h' S xs->R (.ok (.ret .none)) {s with heap:=h'}):codeAny (model prog w) A (.builtin "set.update.loop" ⟨[.ref S,.ref it],[]⟩) R s:=by refine fe qb ?_;rw[il lL _];refine(?_ :wpAny _ A.in1 (pyNext (.ref it)>>=_) _ _ s);exact U (wpAny_pyNext_dict_end hh K O hn λh' B=>aj (hR h' (λb o hb e=>B b o hb e) (H.keeps λo e=>B _ o r e)))
theorem Gw{n:Nat}{Q:Unit->Shared->Prop}{ks:List Str}(hh:A.handled=none)(H:y_ w led s.heap S xs)(hd:s.heap.get? D=some (dictOf ds n))(hm:D≠sysModules)(XN:S≠D)(hk:aE (λ(k:Str)(e:DictEntry)=>∃t,e.hash=hashStr w k/\e.key= .str k t) ks ds) (cn:xs.length<=2) (QU:ks.length<=1) (B:∀k∈ks,k∉xs) (O:s.heap.DictAt (PySem.strKind prog w) D kvs ep) (OP:kvs.map (·.1)=ks)(h:∀h' tk,(∀b o,b≠S->s.heap.get? b=some o->h'.get? b=some o)->y_ w led h' S (xs++ks)->Q () {s with heap:=h',toks:=tk}):wpAny (model prog w) A (setDisplayStar S (.ref D)) Q E s:=by
 have y:s.TypeIs (.ref D) "dict":=⟨_,hd,rfl⟩;unfold setDisplayStar;dsimp only;refine U (j8 y PySem.F.sub_dict_set ?_);rw[aH (by decide)];refine U (j8 y PySem.F.sub_dict_frozenset ?_);refine U (iu ?_);cases hbt:(model prog w).w.params.followText "set-display-star-reads-storage" with
 |false=>simp only[jv,if_false];refine U (wpAny_typeOf y ?_);rw[a6 (by decide)];refine U (eN ?_);rw[aH (by simpa using hm)];exact MP H hd XN hk cn QU B h
 |true=>
  simp only[if_true];have M:kvs.length=ks.length:=by rw[<-OP,ax]
  have two:=OP▸Zf (by rw[M];exact QU);refine U (wpAny_pyIter_dict (beq_eq_false_iff_ne.mpr hm) O ?_);have Zg:=bT hd;have r:=mX H λ_ _ _ ho _=>bT ho;have N:∀b o,s.heap.get? b=some o->(s.heap.push {cls:=.type "dict_keyiterator",data:=.fields #[.ref D,.int 0 0,.int kvs.length 0,.int ep 0]}).get? b=some o:=λb o e=>bf _ e;have U4:(s.heap.push {cls:=.type "dict_keyiterator",data:=.fields #[.ref D,.int 0 0,.int kvs.length 0,.int ep 0]}).IsKeyIter s.heap.objs.size D 0 kvs.length ep:=⟨_,cu _ rfl,rfl,rfl⟩;refine U (wpAny_runValue ?_);rcases two with ⟨rfl,rfl⟩|⟨j,v,rfl,rfl⟩
  ·refine Eh (bL r) hh U4 (O.push _) rfl (H.keeps λo e=>N _ o e) λh' TJ H'=>?_;refine aj (h h' s.toks (λb o hb e=>TJ b o (bL (bT e)) (N b o e)) (by simpa using H'))
  ·refine fe qb ?_;rw[il lL _];refine(?_ :wpAny _ A.in1 (pyNext (.ref s.heap.objs.size)>>=_) _ _ _);refine U (wpAny_pyNext_dict_item U4 (O.push _) rfl λkey h' MO Rb z=>?_);refine xE (lS MO) λtk Y=>?_;obtain rfl:=Y;have H1:=H.keeps λo e=>(z.2 S (bL r)).trans (N _ o e);refine(?_ :wpAny _ A.in1 (holding [Value.str j tk] (setAdd S (.str j tk))>>=_) _ _ _);refine U (bq (AA H1 cn (B j (.head _)) λl U5 Rc H2=>?_));refine aj ⟨gW lL _,?_⟩;have Zh:=((O.push _).extBut z.extBut (bL Zg)).extBut Rc.extBut (bM XN);refine Eh (bL r) hh (Rb.extBut Rc.extBut (dJ r)) Zh rfl H2 λh3 hk3 H3=>?_;refine aj (h h3 U5 (λb o hb e=>hk3 b o (bL (bT e)) ((Rc.2 b hb).trans ((z.2 b (bL (bT e))).trans (N b o e)))) H3)
end
theorem CB{Q:Value->Shared->Prop}(h:Q (.ref s.heap.objs.size) {s with heap:=s.heap.push (iE #[] 0 (.fresh 0 0 (!(w.params.followText "set-order"))))}):wpAny (model prog w) A (newSet (.type "set")) Q E s:=by unfold newSet setsByText;refine U (U (iu (aj ?_)));dsimp only;exact gN h
section
variable {g:G}
noncomputable def u6(es:List (Str×V)):List Str:=es.map (·.1)
def AB(i j:Nat):ad V:=λσ Q=>dX i σ λa σ=>aA a.sv λx=>dX j σ λv σ=>aA (sP σ.mem v) λp=>gd (l8 p.2&&Nat.ble p.2.length 1&& !(dN x (u6 p.2))) (Q (.loc σ.mem.length) {σ with mem:=σ.mem++[.sset (x::u6 p.2)]})
theorem u7(h:dN x xs=false):x∉xs:=λq=>by rw[(fS x xs).mpr q] at h;exact yU h
theorem Gx{es:List (Str×V)}(h:aE (lZ g wd) es ds):aE (λ(k:Str)(e:DictEntry)=>∃t,e.hash=hashStr g.w k/\e.key= .str k t) (u6 es) ds:=by
 induction h with
 |nil=>exact .nil
 |cons e _ T=>exact dB e λt u e _=>.cons ⟨t,by rw[e];exact⟨rfl,rfl⟩⟩ T
theorem I1(i j:Nat){y:Str}{q r:Pos}{W:Nat}(hc:kdsCode g.K F.cd=true)(B:F.names[i]?=some x)(hy:F.names[j]?=some y)(hk:F.scope.kind= .function)(Z:∀d,(aK F d).kindOf x=some .local) (P:∀d,(aK F d).kindOf y=some .local) (hd:(x==("__debug__":Str))=false) (UQ:(y==("__debug__":Str))=false)(TI:W=0):be g F k (.Set [.Name x p,.Starred (.Name y q) r] W pos) (AB i j):=by
 subst TI;intro d A af hr s wd σ Q gG R J;refine qf J λa e1 J=>ah J λxv ea J=>qf J λv e2 J=>ah J λpp e J=>xA (aL J) λh1 Ca=>xA ((aM _ _).mp h1) λh1 h1c=>xA ((aM _ _).mp h1) λh1a h1b=>?_;refine bx (R.loc) λm hn hm=>bx (hm i x _ B e1) λux hux hva=>xE (VR.str ea hva) λtk pz=>bx (hm j y v hy e2) λuy huy hvy=>R.dv hvy e λds n Zi dP ho H=>?_;rw[pz] at hux;rw[Zi] at huy;rw[arm_eval_Set];refine U (dh ?_);refine U (kds_main (g.X.keeps R.hb) hc λb=>?_);show wpAny _ _ (setDisplay .oneByOne b [(false,do let v <-eval (.Name x p) (aK F d);standAt pos;Pure.pure v),(true,do let v <-eval (.Name y q) (aK F d);standAt pos;Pure.pure v)]) _ _ _;unfold setDisplay;rw[aH (by decide)];refine U (CB ?_);show wpAny (model g.prog g.w) A (do
  holding [Value.ref s.heap.objs.size] (do
   let first <-evalAll [(do let v <-eval (Expr.Name x p) (aK F d);standAt pos;Pure.pure v)]
   holding first (do
    forIn first PUnit.unit λx _=>do
     let _ <-setAdd s.heap.objs.size x
     Pure.pure (ForInStep.yield PUnit.unit)
    Pure.pure ())
   forIn [(true,(do let v <-eval (Expr.Name y q) (aK F d);standAt pos;Pure.pure v:Sem Value))] PUnit.unit λ(x:Bool×Sem Value) _=>
    match x with
    |(Zj,x)=>do
     let v <-x
     if Zj=true then do
      holding [v] (setDisplayStar s.heap.objs.size v)
      Pure.pure (ForInStep.yield PUnit.unit)
      else do
       let _ <-holding [v] (setAdd s.heap.objs.size v)
       Pure.pure (ForInStep.yield PUnit.unit)
   Pure.pure ())
  Pure.pure (Value.ref s.heap.objs.size)) _ _ _
 have H0:y_ g.w (!(g.w.params.followText "set-order")) (s.heap.push (iE #[] 0 (.fresh 0 0 (!(g.w.params.followText "set-order"))))) s.heap.objs.size []:=y_.fresh _;generalize XH:s.heap.push (iE #[] 0 (.fresh 0 0 (!(g.w.params.followText "set-order"))))=hp at H0 ⊢;have keep:∀b o,s.heap.get? b=some o->hp.get? b=some o:=λb o e=>by rw[<-XH];exact bf _ e
 refine U (bq ?_);refine U (U (U (wpAny_Name (lP hk (Z d) (hn.keeps keep) hux (U (dh (aj ?_)))) hd)));refine U (bq (aj (aj ?_)));refine U (bq (U ?_));rw[List.forIn_cons];refine U (U (AA H0 (by simp) (by simp) λh' QO z H1=>aj ?_));dsimp only;rw[List.forIn_nil];refine aj (aj ?_);rw[List.forIn_cons];have nH:∀b o,s.heap.get? b=some o->b≠s.heap.objs.size:=λb o e=>bL (bT e);have Ei:∀b o,s.heap.get? b=some o->h'.get? b=some o:=λb o e=>(z.2 b (nH b o e)).trans (keep b o e);refine U (U (U ?_));show wpAny (model g.prog g.w) A (do let v <-eval (Expr.Name y q) (aK F d);standAt pos;Pure.pure v) _ _ _;refine U (wpAny_Name (lP hk (P d) (hn.keeps Ei) huy (U (dh (aj ?_)))) UQ);rw[a6 rfl];refine xE ((gu (Ei _ _ ho) H h1a).dictAt) λep O=>?_;refine U (bq (Gw hr.handled H1 (Ei _ _ ho) (R.mem.low pp.1 dP) (bM (nH _ _ ho)) (Gx H) (by simp) (by unfold u6;rw[ax];exact aU h1b)
  (λk TJ Y=>?_) O (oP H) λl U5 Zk H2=>aj ?_))
 ·refine(List.mem_append.mp Y).elim (λY=>nomatch Y) λY=>?_
  ·rw[List.mem_singleton] at Y;exact u7 (by simpa using h1c) (Y▸TJ)
 ·dsimp only;rw[List.forIn_nil];refine aj (aj (aj ?_));have U6:∀b o,s.heap.get? b=some o->l.get? b=some o:=λb o e=>Zk b o (nH b o e) (Ei b o e);refine rB H2 λtN ep' C k6 N Ra I f dL=>?_;try clear H2
  refine az _ (.loc σ.mem.length) _ (Wd.aT wd s.heap.objs.size) (R.alloc (o:=.sset (xv::u6 pp.2)) U6 (c5 _) k6 ⟨tN,ep',C,rfl,⟨I,f,dL⟩,N.led,N.fits,Ra⟩ R.g6) R.pushed Ca
end
section
variable {g:G}
theorem Zl{Re:ExceptHandler}{M:List ExceptHandler}{W:ad Fl}(h:kT g F k body W):iT g F k (.Try body (Re::M) [] [] pos) W:=by
 intro d A af hr s wd σ Q Z R J;refine wpAny_Try_except (bb.go (h d A af hr) Z R J λf s' bg j a9 x1 x2 x3 x4=>?_);cases j with
 |next=>rw[x3];exact hV (az bg .next a9 x1 x2 rfl x4)
 |brk=>rw[x3];exact az bg .brk a9 x1 x2 rfl x4
 |cont=>rw[x3];exact az bg .cont a9 x1 x2 rfl x4
 |ret v=>exact bx x3 λu e hv=>e.symm▸az bg (.ret v) a9 x1 x2 ⟨u,rfl,hv⟩ x4
noncomputable def eX(ln:Nat)(σ:St)(i:Nat):Option (Option (List V)):=(bj ln σ i).bind λo=>some (o.map λv=>[.int i,v])
theorem qF{l:Nat}{o:Option (List V)}{P:Prop}(h:eX l σ i=some o)(k:∀xs,(σ.mem[l]?).bind O.ls=some xs->o=(xs[i]?).map (λv=>[V.int i,v])->P):P:=aI h λo' e h=>mz e λxs e1 e2=>k xs e1 (by rw[e2];exact(aq h).symm)
def MQ(e it ln:Nat)(wd:Wd)(i:Nat)(h:Heap):Prop:=ln<wd.n/\h.IsListIter it (wd.ρ ln) i/\∃z,IsEnum h e it i z
theorem MQ.live(x:MQ e it ln wd i h):∀y∈[e,it],∃o,h.get? y=some o/\¬ Perm o:=LQ x λh1 K z h5=>zf K λo h2 h3 h4=>λy hy=>(List.mem_cons.mp hy).elim (λq=>q▸⟨_,h5,λp=>p.elim (λp=>w8 p λzs n q=>absurd (kg (ag Obj.cls q)) (by decide)) λp=>xE p λq p=>dB p λvs t e1 e2=>by rw[<-Data.fields.inj e1] at e2;exact nomatch e2⟩)
  λhy=>List.mem_singleton.mp hy▸⟨o,h2,λp=>p.elim (λp=>w8 p λzs n q=>absurd (kg (h3.symm.trans (ag Obj.cls q))) (by decide)) λp=>xE p λq p=>dB p λvs t e1 e2=>by rw[<-Data.fields.inj (h4.symm.trans e1)] at e2;exact nomatch e2⟩
theorem MQ.stay{bg:Wd}{h':Heap}(x:MQ e it ln wd i h)(Z:Wd.Le wd bg)(k:∀y∈[e,it],∀o,h.get? y=some o->h'.get? y=some o):MQ e it ln bg i h':=LQ x λh1 K z h5=>bx K λo h2 h3=>⟨dA h1 Z.n,⟨o,k it (.tail _ (.head _)) o h2,by rw[Z.ρ ln h1];exact h3⟩,z,k e (.head _) _ h5⟩
theorem AC(hei:e≠it){n:Nat}{W:List V->ad Unit}(hr:cK A k)(ha:sM g F k ts W) (M:∀bc,(assignEach ts bc).findIdx? (·.1)=none) (cn:∀bc,(assignEach ts bc).length=ts.length) (hb:kT g F k body Wb) {Q:Fl->St->Prop} (gG:Wd.Le af wd) (R:bU g F d wd σ s) (H:jB g d wd [e,it]) (G:MQ e it ln wd 0 s.heap)(J:∃n,gr (eX ln) (λr σ Q=>gd (Nat.beq r.length ts.length) (W r σ Q)) Wb n 0 σ Q):wpAny (model g.prog g.w) A (runOwn (.forLoop (.Tuple ts n tp) (.ref e) body [] (aK F d)) (aK F d)) (iy g F d Tw wd Q) yV s:=by
 refine xE J λn J=>?_;refine wpAny_runOwn ?_;refine(?_ :codeAny (model g.prog g.w) A _ _ s);refine fL (codeAny_forLoop_any (R:=Xw g F d wd Q) (Me g F d (MQ e it ln) [e,it] (eX ln) (λr σ Q=>gd (Nat.beq r.length ts.length) (W r σ Q)) Wb wd Q) ?_ n ⟨wd,σ,0,.refl _,R,H,G,J⟩) λr s' x=>by cases r<;>first|exact x|exact x.elim
 clear J G R H;intro n s hI;refine gX hI λD σ i h1 R H G J=>?_;cases n with
 |zero=>exact J.elim
 |succ n=>
  refine ah J λo ho J=>LQ G λXO K z Zm=>qF ho λxs e1 e2=>R.lst e1 λI m Z Y dL=>?_;cases e3:xs[i]? with
  |some v=>
   rw[e3] at e2;rw[e2] at J;refine bx (dL.get e3) λy hy hv=>?_;have he:=Zm;have Zn:=bT he;refine bx (id K) λoi U7 adx=>?_;have Zo:=bT U7;refine wpAny_pyNext_enum_item Zm K (b9 Y) (by simpa using hy) hei λh' X a2 a3 a4 a5=>?_;have Ha:=jB.fresh R pC;have R1:bU g F d D σ {s with heap:=h',toks:=s.toks+1}:=R.other H λb o hb e=>a5 b o (λq=>hb (by rw[q];exact .head _)) (λq=>hb (by rw[q];exact .tail _ (.head _))) e;have T:=R1.jA Ha λx B=>List.mem_singleton.mp B▸⟨_,a3⟩;have P:=Ha.le h';have ne:∀x∈[e,it],x∉[s.heap.objs.size]:=λx B q=>(List.mem_cons.mp B).elim (λq'=>i_ _ (q'▸List.mem_singleton.mp q▸Zn)) λq'=>i_ _ (List.mem_singleton.mp q'▸List.mem_singleton.mp q▸Zo);have H2:jB g d (D.jA [s.heap.objs.size] h') [e,it]:=⟨λx B=>(aH (ne x B)).trans (H.fz x B),H.own,H.L,H.hb⟩;refine wpAny_letOwnedTupleGo_enum X λl u b2=>?_;have R3:bU g F d (D.jA [s.heap.objs.size] h') σ {s with heap:=l,toks:=s.toks+1}:=T.other H2 λb o hb x=>(b2.2 b (λq=>hb (by rw[q];exact .head _))).trans x;have XP:MQ e it ln (D.jA [s.heap.objs.size] h') (i+1) l:=bx a2 λo N c2=>⟨XO,⟨o,(b2.2 it (bM hei)).trans N,c2⟩,y,u⟩;have Zp:BX (D.jA [s.heap.objs.size] h') [.int i,v] (.ref s.heap.objs.size):=
    ⟨_,[.int i s.toks,y],0,rfl,(a6 (.head _)).trans a3,.cons ⟨_,rfl⟩ (.cons (VR.jA hv) .nil)⟩
   have nI:=XP.live;have mD:=H2.le l;have R4:=R3.jA H2 λx B=>bx (nI x B) λo ho _=>⟨o,ho⟩;refine bb.go (Mh ha M cn hr (BX.mono _ _ _ _ mD Zp)) (.refl _) R4 J λ_ FQ qm _ mZ x1 x2 _ x4=>?_;have hw0:=(((gG.trans h1).trans P).trans mD).trans x1;refine bb.go (hb d A af hr) hw0 x2 x4 λf zJ k7 j t y1 O y3 y4=>?_;refine t_ (R3.d5 H2 nI O (x1.trans y1)) λt1 t2 t3=>?_;have sK:=H2.le' (x1.trans y1);have Zq:=(h1.trans P).trans sK;have go:gr (eX ln) (λr σ Q=>gd (Nat.beq r.length ts.length) (W r σ Q)) Wb n (i+1) t Q->Me g F d (MQ e it ln) [e,it] (eX ln) (λr σ Q=>gd (Nat.beq r.length ts.length) (W r σ Q)) Wb wd Q n zJ:=λh=>⟨_,t,i+1,Zq,t1,t2,XP.stay sK t3,h⟩;cases j with
   |next=>rw[y3];exact⟨n,er _,go y4⟩
   |cont=>rw[y3];exact⟨n,er _,go y4⟩
   |brk=>rw[y3];exact az _ .next t Zq t1 rfl y4
   |ret v=>exact bx y3 λu' e hv=>e.symm▸az _ (.ret v) t Zq t1 ⟨u',rfl,VR.d5 hv⟩ y4
  |none=>rw[e3] at e2;rw[e2] at J;refine wpAny_pyNext_enum_end hr.handled Zm K (b9 Y) (by rw[jY,kq,<-dL.len];exact List.getElem?_eq_none_iff.mp e3) λh' B=>?_;exact hV (az D .next σ h1 (R.other H λb o hb x=>B b o (λq=>hb (by rw[q];exact .tail _ (.head _))) x) rfl J)
theorem I2{a:Pos}{arg:PySem.Expr}{n:Nat}{wa:ad V}{W:List V->ad Unit}(S:be g F k (.Name x p) (eH (.e_ (.type "enumerate"))))(he:be g F k arg wa)(ha:sM g F k ts W) (hb:kT g F k body Wb)(z:∀bc v,foldedSetIterable (.Call (.Name x p) [arg] [] a) bc v=Pure.pure v) (M:∀bc,(assignEach ts bc).findIdx? (·.1)=none) (cn:∀bc,(assignEach ts bc).length=ts.length)(T:∀bc,starEach [arg] bc=(false,eval arg bc)::starEach [] bc) (i:∀bc pos,((backTo pos (starEach [arg] bc)).any (·.1))=false):iT g F k (.For (.Tuple ts n tp) (.Call (.Name x p) [arg] [] a) body [] pos) (λσ Q=>wa σ λv G=>aA (oY v) λl=>∃n,gr (eX l) (λr σ Q=>gd (Nat.beq r.length ts.length) (W r σ Q)) Wb n 0 G Q):=by
 intro d A af hr s wd σ Q Z R J;rw[arm_exec_For];refine U (dh ?_);refine U ?_;refine(?_ :wpAny _ A (do callWith a (<-eval (.Name x p) (aK F d)) [] (backTo a (starEach [arg] (aK F d))) []) _ _ s);refine U (a_ (S d A af hr s wd σ (λb a9=>b= .e_ (.type "enumerate")/\a9=σ) Z R ⟨rfl,rfl⟩) (λu s1 y=>?_) λ_ _ y=>y.elim);refine gX y λZr b Zs y1 O y3 P Q7=>?_;rw[P] at y3;rw[Q7] at O;rw[show u=_ from y3];refine callWith_of (by rw[i];rfl) (λh x=>x) (jU (i _ _) ?_);refine bb.go ((BR he HU T) d A af a hr) (K:=(λvs a9=>aA (l1 vs) λv=>aA (oY v) λl=>∃n,gr (eX l) (λr σ Q=>gd (Nat.beq r.length ts.length) (W r σ Q)) Wb n 0 a9 Q)) (Z.trans y1) O J λus s2 U8 vs U9 L z2 z3 z4=>?_;refine⟨fW,?_⟩;refine ah z4 λv C z4=>ah z4 λl e z5=>xE z5 λn' z5=>?_;rw[xe C] at z3;refine ur z3 λu eu hv=>?_;have hv:=VR.ref e hv;rw[eu,hv.2];cases n' with
 |zero=>exact z5.elim
 |succ n'=>refine ah z5 λo ho _=>qF ho λxs e1 e2=>z2.lst e1 λI m _ Y dL=>?_;refine call_enumerate_list (b9 Y) λh' N c2 c3 c4=>?_;rw[z];refine U (aj (U (dh ?_)));have Zt:=N;refine U (bq (wpAny_pyIter_enum Zt ?_));have H:=jB.fresh z2 λx B=>gM ((List.mem_cons.mp B).elim (λq=>q▸eT _) λq=>List.mem_singleton.mp q▸aF _);refine a_ (AC (Nat.succ_ne_self _) hr ha M cn hb (Z.trans (y1.trans L)) (z2.keeps c4) H ⟨hv.1,c2,.none,N⟩ ⟨n'+1,z5⟩) (λf s3 x=>?_) λ_ _ x=>x;exact fZ x λZu j σ3 x1 x2 x3 x4=>az Zu j σ3 ((y1.trans L).trans x1) x2 x3 x4
end
section
variable {g:G}
noncomputable def pI(kw:Option Str)(us:List Value)(u:Value):Args:=match kw with
 |some n=>⟨us,[(n,u)]⟩
 |none=>⟨us++[u],[]⟩
theorem AD(kw:Option Str)(x:Value)(us:List Value)(u:Value):(⟨x::(pI kw us u).pos,(pI kw us u).kw⟩:Args)=pI kw (x::us) u:=by cases kw<;>rfl
def pJ(g:G)(k:Nat)(f:Value)(kw:Option Str)(W:List V->ad V):Prop:=∀(F:df)(d:g_)(A:Around)(af:Wd)(vs:List V)(us:List Value)(v:V)(u:Value),cK A k->aE (VR af) (vs++[v]) (us++[u])->∀(s:Shared)(wd:Wd)(σ:St)(Q:V->St->Prop),Wd.Le af wd->bU g F d wd σ s->W (vs++[v]) σ Q->
  codeAny (model g.prog g.w) A (.call f (pI kw us u)) (H8 g F d wd Q) s
theorem cO.ck(h:cO g k f W):pJ g k f none W:=λF d A af vs us v u hr D s wd σ Q Z R J=>h F d A af (vs++[v]) (us++[u]) hr D s wd σ Q Z R J
theorem Gy{F':df}{qn:Str}(hb:kT g F' k body Wb){f:Addr}{name:Str}{params:Arguments}{dV kV fw pm ct oc:Value}{an od:Option Addr}{zp:Array (Option Value)}(ho:g.K.lookup f=some ⟨oc,od,.func (fnOf name qn params body F'.scope dV kV fw pm an F'.cd ct),zp⟩) (Qf:codeIn g.K F'.cd qn=true) (Y:F'.qual=qn++".<locals>.") (n:Nat) (dflt:List V)(m:∀(s:Shared)(us:List Value)(u:Value),g.K.In s.heap->us.length=n->∃ds,(∀wd,aE (VR wd) dflt ds)/\BindsTo s (fnOf name qn params body F'.scope dV kV fw pm an F'.cd ct) ⟨us,[(kw,u)]⟩ ((F'.names.take (n+dflt.length+1)).zip (us++ds++[u])))(nc:F'.names.Nodup) (xj:∀x∈F'.names,F'.scope.names.lookup x=some .local) (qp:∀x∈F'.scope.names,x.2≠ .cell)(E:F'.scope.isCoroutine=false) (H:F'.scope.isGenerator=false) (hk:F'.scope.kind= .function):pJ g (k+1) (.ref f) (some kw) (λvs σ Q=>aA (zN vs) λp=>gd (Nat.beq p.1.length n) (Wb ⟨iA F'.names.length (p.1++dflt++[p.2]),[],σ.mem⟩ λfl a9=>Q (nF fl) {σ with mem:=a9.mem})):=by intro F d A af vs us v u hr D s wd σ Q Z R J;rw[sN] at J;refine xA (aL J) λh1 J=>dZ (D.snoc) λq z e1 Zv hz=>xA (List.append_inj' e1 rfl) λCz e2=>?_;have hn:=bK h1;rw[<-Cz] at Zv;rw[<-(hY e2).1] at hz;have cn:=Zv.len;refine bx (m s us u (g.X.keeps R.hb) (fB [_,_,_] (.e 1 (.v 0) (.v 1) (.f 1 (.v 0) (.v 2) .nil)) 0 (.v 2) (.v 1) tt tt hn cn)) λds G Qg=>?_;exact zH hb ho Qf Y nc xj qp E H hk hr (((Zv.mono λ_ _ h=>VR.mono Z h).append (G wd)).append (.cons (VR.mono Z hz) .nil)) (by simp;exact aQ [_,_,_] (.e 1 (.v 0) (.v 1) .nil) 0 (.a (.v 0) (.a (.v 2) (.n 1))) (.a (.a (.v 1) (.v 2)) (.n 1)) tt hn) Qg R J
theorem m6(args:Args):(Code.builtin "type.__call__" args).frames=0:=by kernel_rfl
theorem tv(args:Args):(Code.builtin "type.__call__" args).weight<=1:=by
 have K:(Code.builtin "type.__call__" args).isGuard=false:=by show guardIds.contains "type.__call__"=false;decide+kernel
 have hk:(Code.builtin "type.__call__" args).isCaller=false:=by kernel_rfl
 unfold Code.weight;rw[m6,K,hk];split<;>simp
theorem cK.made(h:cK A (k+1))(args:Args):cK (A.under (.builtin "type.__call__" args)) k:=by
 have hw:=tv args;have N:(Code.builtin "type.__call__" args).cUnits=1:=by show 1+3*(Code.builtin "type.__call__" args).frames=1;rw[m6]
 refine⟨?_,?_,h.handled⟩
 ·have:=h.depth;show A.depth+(Code.builtin "type.__call__" args).weight+2*k<_;exact aQ [_,_,_,_] (.c 1 (.v 0) (.n 1) (.c 1 (.a (.a (.v 1) (.m 2 (.a (.v 2) (.n 1)))) (.n 1)) (.v 3) .nil)) 0 (.a (.a (.a (.v 1) (.v 0)) (.m 2 (.v 2))) (.n 1)) (.v 3) tt hw this
 ·have:=h.units;show A.units+(Code.builtin "type.__call__" args).cUnits+16*k+80<_;exact aQ [_,_,_,_] (.e 1 (.v 0) (.n 1) (.c 1 (.a (.a (.a (.v 1) (.m 16 (.a (.v 2) (.n 1)))) (.n 80)) (.n 1)) (.v 3) .nil)) 0 (.a (.a (.a (.a (.v 1) (.v 0)) (.m 16 (.v 2))) (.n 80)) (.n 1)) (.v 3) tt N this
def CC(C:Addr)(W:List V->ad V)(vs:List V):ad V:=λσ Q=>
 W (.loc (σ.mem.length+1)::vs) {σ with mem:=σ.mem++[.dict [],.inst C σ.mem.length]} λr a9=>aA (tK r) λb=>gd b (Q (.loc (σ.mem.length+1)) a9)
theorem AE{kw:Option Str}(hm:makesIn g.K C=true)(hi:findIn g.K (.ref C) "__init__"=some (some (.ref fI)))(S:typeIn g.K (.ref fI)=some (.type "function"))(hc:pJ g k (.ref fI) kw W) {vs:List V} {v:V} (hr:cK A (k+1)) (D:aE (VR af) (vs++[v]) (us++[u])) {Q:V->St->Prop} (Z:Wd.Le af wd) (R:bU g F d wd σ s)
 (J:CC C W (vs++[v]) σ Q):
 codeAny (model g.prog g.w) A (.call (.ref C) (pI kw us u)) (H8 g F d wd Q) s:=by
 obtain⟨hh,gg,dd,tt,os⟩:=s;have i:∃aD Zw,pI kw us u=⟨aD,Zw⟩:=⟨_,_,rfl⟩;refine w8 i λaD Zw e=>?_;rw[e];refine make_core (makes_of (g.X.keeps R.hb) hm) (looks_findIn (g.X.keeps R.hb) hi) (λself=>bind_fn (g.X.keeps R.hb) self S) (.inl rfl) ?_;have R1:=R.cE (o:=.dict []) ⟨[],0,rfl,.nil⟩;have hn:=R.mem.len;have T:bU g F d ((wd.push hh.objs.size).push (hh.push emptyDict).objs.size) {σ with mem:=(σ.mem++[.dict []])++[.inst C σ.mem.length]} ⟨(hh.push emptyDict).push (instObj C hh.objs.size),gg,dd,tt,os⟩:=
  R1.cE ⟨by
   rw[(Wd.aT (wd.push hh.objs.size) _).ρ _ (by show _<wd.n+1;omega),<-hn,Wd.lX],by show _<wd.n+1+1;omega⟩
 rw[kh] at T;have e2:(σ.mem++[O.dict []])++[O.inst C σ.mem.length]=σ.mem++[.dict [],.inst C σ.mem.length]:=by simp
 rw[e2] at T;have hv:VR ((wd.push hh.objs.size).push (hh.objs.size+1)) (.loc (σ.mem.length+1)) (.ref (hh.objs.size+1)):=by
  refine⟨by show _<wd.n+1+1;omega,?_⟩;have:σ.mem.length+1=(wd.push hh.objs.size).n:=by show _=wd.n+1;omega
  rw[this,Wd.lX]
 have gG:Wd.Le wd ((wd.push hh.objs.size).push (hh.objs.size+1)):=(Wd.aT _ _).trans (Wd.aT _ _);have YD:aE (VR ((wd.push hh.objs.size).push (hh.objs.size+1))) ((.loc (σ.mem.length+1)::vs)++[v]) ((.ref (hh.objs.size+1)::us)++[u]):=.cons hv (D.mono λ_ _ h=>VR.mono (Z.trans gG) h);have e':(⟨.ref (hh.objs.size+1)::aD,Zw⟩:Args)=pI kw (.ref (hh.objs.size+1)::us) u:=by rw[<-AD,e]
 rw[e'];refine fL (hc F d _ _ (.loc (σ.mem.length+1)::vs) (.ref (hh.objs.size+1)::us) v u (hr.made _) YD _ _ _
  (λr a9=>aA (tK r) λb=>gd b (Q (.loc (σ.mem.length+1)) a9)) (.refl _) T J) λr s' x=>?_
 cases r with
 |error e=>exact x
 |ok f=>
  cases f with
  |ret r=>refine fZ x λbg b a9 x1 x2 x3 x4=>ah x4 λb' e x4=>xA (aL x4) λeb x5=>?_;have hn:=uh x3 e;rw[show r= .none by simpa [eb] using hn];exact⟨rfl,bg,.loc (σ.mem.length+1),a9,gG.trans x1,x2,VR.mono x1 hv,x5⟩
  |_=>exact x
theorem Gz(hm:makesIn g.K C=true)(hi:findIn g.K (.ref C) "__init__"=some (some (.ref fI)))(S:typeIn g.K (.ref fI)=some (.type "function"))(hc:pJ g k (.ref fI) none W):cz g (k+1) (.ref C) (λvs=>kG vs λv=>CC C W [v]):=by intro F d A af vs us hr D s wd σ Q Z R J;refine qr D J λv u e hv T5=>?_;rw[e];exact fh (AE (vs:=[]) (us:=[]) hm hi S hc hr (.cons hv .nil) Z R T5)
def u8(g:G)(k:Nat)(f:Value)(kw:Str)(W:V->V->ad V):Prop:=∀(F:df)(d:g_)(A:Around)(af:Wd)(a b:V)(u v:Value),cK A k->VR af a u->VR af b v->bb g F d A af pw (call f [u] [(kw,v)]) (W a b)
theorem MR{kp:Pos}{i c:PySem.Expr}{wa wb:ad V}{W:V->V->ad V}(S:be g F k (.Name x p) (eH (.e_ f)))(ha:be g F k i wa)(hb:be g F k c wb)(N:∀M h,g.K.In h->jH M h f) (hc:u8 g k f kw W) (T:∀bc,starEach [i] bc=(false,eval i bc)::starEach [] bc):be g F k (.Call (.Name x p) [i] [⟨some kw,c,kp⟩] pos) (λσ Q=>wa σ λa G=>wb G λb E=>W a b E Q):=by
 intro d A af hr s wd σ Q Z R J;refine(?_ :wpAny _ A (do callWith pos (<-eval (.Name x p) (aK F d)) [] (backTo pos (starEach [i] (aK F d))) (backToKw pos (keywordEach [⟨some kw,c,kp⟩] (aK F d)))) _ _ s);refine U (a_ (S d A af hr s wd σ (λb a9=>b= .e_ f/\a9=σ) Z R ⟨rfl,rfl⟩) (λu s1 y=>?_) λ_ _ y=>y.elim);refine gX y λZr b Zs y1 O y3 P Q7=>?_;rw[P] at y3;rw[Q7] at O;rw[show u=f from y3];have z:backTo pos (starEach [i] (aK F d))=(false,eval i (aK F d))::[]:=by rw[T];rfl
 rw[z];refine callWith_of rfl (λh x=>x) (evalArgs_kw rfl ?_);rw[<-z];refine bb.go ((BR ha HU T) d A af pos hr) (K:=(λvs a9=>aA (l1 vs) λa=>wb a9 λb E=>W a b E Q)) (Z.trans y1) O J λus s2 U8 vs U9 L z2 z3 z4=>?_;refine ah z4 λa ea z4=>?_
 ·rw[xe ea] at z3;refine ur z3 λu Y hv=>?_;rw[Y];show wpAny _ A (evalAll [do let v <-eval c (aK F d);standAt pos;Pure.pure v]) _ _ s2;refine wpAny_evalAll_cons (U (bb.go (hb d A af hr) ((Z.trans y1).trans L) z2 z4 λv s3 Zu b σ3 t1 t2 t3 t4=>?_));refine U (dh (aj (wpAny_evalAll_nil ⟨N _ _ (g.X.keeps t2.hb),?_⟩)));refine bb.go (hc F d A Zu a b u v hr (VR.mono t1 hv) t3) (.refl _) t2 t4 λr s4 wd4 r' σ4 q1 q2 q3 q4=>?_;exact az wd4 r' σ4 (((y1.trans L).trans t1).trans q1) q2 q3 q4
theorem CD(hm:makesIn g.K C=true)(hi:findIn g.K (.ref C) "__init__"=some (some (.ref fI)))(S:typeIn g.K (.ref fI)=some (.type "function"))(hc:pJ g k (.ref fI) (some kw) W):u8 g (k+1) (.ref C) kw (λa b=>CC C W [a,b]):=by intro F d A af a b u v hr ha hb s wd σ Q Z R J;exact fh (AE (vs:=[a]) hm hi S hc hr (.cons ha (.cons hb .nil)) Z R J)
end
end
section
variable {S a it:Addr}{A:Around}{es:Array (Int×Value)}{d:g_}{F:df}{g:G}{h:Heap}{ts:List Str}{us I zs:List Value}{M:Model}{ep k:Nat}{f:Nat->V}{Q:Option Value->Shared->Prop}{prog:Program}{R:Result->Shared->Prop}{t:SetTable}{s:Shared}{α:Type}{E:Value->Shared->Prop}{wd:Wd}{w:World}{Q':α->Shared->Prop}
set_option maxHeartbeats 3200000
noncomputable def gH(xs:List Str):List Str->List Str
 | []=>xs
 |t::r=>gH (jC t xs) r
theorem xM(x:Str)(xs:List Str):(jC x xs).length<=xs.length+1:=by
 rw[uF];split
 ·exact eT _
 ·exact aF _
def CE(t:Str)(u:Value):Prop:=∃tk,u= .str t tk
section
theorem I3{l:Addr}(UF:S≠it)(hSl:S≠l)(hil:l≠it)(XQ:aE CE ts I)(hh:A.handled=none):∀(aD:List Str)(i:Nat)(s:Shared)(xs:List Str),ts.drop i=aD->xs.length+aD.length<=20->s.heap.IsListIter it l i->s.heap.IsList l I.toArray->s.heap.SetOf (PySem.strKind prog w) S (λk=>decide (k∈xs)) xs.length-> (∀h' tk,(∀b o,b≠S->b≠it->s.heap.get? b=some o->h'.get? b=some o)->h'.SetOf (PySem.strKind prog w) S (λk=>decide (k∈gH xs aD)) (gH xs aD).length->R (.ok (.ret .none)) {s with heap:=h',toks:=tk})-> codeAny (model prog w) A (.builtin "set.update.loop" ⟨[.ref S,.ref it],[]⟩) R s:=by
 intro aD;induction aD with
 |nil=>
  intro i s xs hd hz K Z G hR;refine fe qb ?_;rw[il lL _];refine(?_ :wpAny _ A.in1 (pyNext (.ref it)>>=_) _ _ s);have cn:=XQ.len;have hn:ts.length<=i:=by rwa[jZ] at hd
  refine U (wpAny_pyNext_list_end hh K Z (by rw[jY,kq];exact aQ [_,_,_] (.f 1 (.v 0) (.v 1) (.c 1 (.v 0) (.v 2) .nil)) 0 (.v 1) (.v 2) tt cn hn) λh' M=>?_);refine aj (hR h' s.toks (λb o _ hb e=>M b o hb e) ?_);exact BD G λo es ep t ho r=>⟨o,es,ep,t,M _ _ UF ho,r⟩
 |cons t aD T=>
  intro i s xs hd hz K Z G hR;have hi:ts[i]?=some t:=by have:=ag (·[0]?) hd;simpa using this
  have LH:ts.drop (i+1)=aD:=by have:=ag List.tail hd;rwa[List.tail_drop,List.tail_cons] at this
  refine Yl (XQ.get hi) λy hy tk pz=>?_;rw[pz] at hy;refine fe qb ?_;rw[il lL _];refine(?_ :wpAny _ A.in1 (pyNext (.ref it)>>=_) _ _ s);refine U (wpAny_pyNext_list_item K Z (by simpa using hy) λh1 Rb Zx=>?_);have MS:h1.IsList l I.toArray:=bx Z λo a b=>⟨o,(Zx.2 l hil).trans a,b⟩;have hS1:h1.SetOf (PySem.strKind prog w) S (λk=>decide (k∈xs)) xs.length:=BD G λo es ep t ho r=>⟨o,es,ep,t,(Zx.2 S UF).trans ho,r⟩;refine(?_ :wpAny _ A.in1 (holding [Value.str t tk] (setAdd S (.str t tk))>>=_) _ _ _);refine U (bq ?_);unfold setAdd;refine bq ?_;refine U ((PySem.strKind prog w).pyHash (eU _ _ t tk) ?_);rw[aJ] at hz;refine wpAny_setAddHashed_of (eU _ _ t tk) rfl hS1 (mB (aQ [_,_] (.c 1 (.a (.v 0) (.a (.v 1) (.n 1))) (.n 20) .nil) 0 (.a (.v 0) (.n 1)) (.n 30) tt hz)) λh2 Zy hS2=>?_;have e1:(λj=>decide (j∈xs)||decide (j=t))=λk=>decide (k∈jC t xs):=funext λk=>(uG t k xs).symm;have XP:h2.SetOf (PySem.strKind prog w) S (λk=>decide (k∈jC t xs)) (jC t xs).length:=by rw[uF,<-e1];exact hS2
  have Zz:h2.IsListIter it l (i+1):=bx Rb λo a b=>⟨o,(Zy.2 it (bM UF)).trans a,b⟩;have P:h2.IsList l I.toArray:=bx MS λo a b=>⟨o,(Zy.2 l (bM hSl)).trans a,b⟩;have gG:=xM t xs;refine aj ⟨gW lL _,T (i+1) _ (jC t xs) LH (aQ [_,_,_] (.c 1 (.a (.v 0) (.a (.v 1) (.n 1))) (.n 20) (.c 1 (.v 2) (.a (.v 0) (.n 1)) .nil)) 0 (.a (.v 2) (.v 1)) (.n 20) tt hz gG) Zz P XP λh' QO k q=>?_⟩;exact hR h' QO (λb o h1 h2 e=>k b o h1 h2 ((Zy.2 b h1).trans ((Zx.2 b h2).trans e))) q
def U_(s:Shared)(obj:Value)(dG:Shared):Prop:=∃led:Bool,obj= .ref s.heap.objs.size/\dG={s with heap:=s.heap.push {cls:=.type "set",dict:=none,data:=.set #[] 0 (.fresh 0 0 led)}}
def Va(prog:Program)(w:World)(s:Shared)(ts:List Str)(r:Value)(mw:Shared):Prop:=r= .none/\∃h' tk,mw={s with heap:=h',toks:=tk}/\h'.SetOf (PySem.strKind prog w) s.heap.objs.size (λk=>decide (k∈gH [] ts)) (gH [] ts).length/\(∀b o,s.heap.get? b=some o->h'.get? b=some o)
theorem v8{l:Addr}{Q:Value->Shared->Prop}(hh:A.handled=none)(Z:s.heap.IsList l I.toArray)(XQ:aE CE ts I)(hz:ts.length<=20)(h:∀(h':Heap)(tk:Nat),h'.SetOf (PySem.strKind prog w) s.heap.objs.size (λk=>decide (k∈gH [] ts)) (gH [] ts).length->
  (∀b o,s.heap.get? b=some o->h'.get? b=some o)->Q (.ref s.heap.objs.size) {s with heap:=h',toks:=tk}):
 wpAny (model prog w) A (call (.type "set") [.ref l]) Q E s:=by
 refine w8 (F.called_set.mro) λc tl adF=>?_;have abM:=F.called_set.made;have adG:=F.called_set.sub;refine fh (codeAny_of_tree ?_);refine(?_ :wpAny _ _ (callAny (.type "set") _) _ _ _);refine aj ⟨Code.quiet_builtin _ (by decide+kernel),fe F.entry_type_call ?_⟩;rw[Around.under_plain (weight_type_call_type "set" [.ref l] []) rfl];have h1:=F.called_set.notType;have h2:=F.called_set.canCreate;have hct:=F.typeCall_set_1 (.ref l);repeat (any_goals (first|assumption|wp_step))
 refine fL (code_set_new_1 (.ref l) (E:=E) (Q₁:=U_ s) λled=>⟨led,rfl,rfl⟩) λr dG hr=>?_;cases r with
 |error e=>exact hr
 |ok fl=>
  cases fl with
  |ret obj=>
   refine bx hr λled Y jJ=>Hw (id Z) λol XK L nl S=>?_;rw[Y,jJ];have hlS:=bT XK;have G:(s.heap.push {cls:=.type "set",dict:=none,data:=.set #[] 0 (.fresh 0 0 led)}).get? s.heap.objs.size=some {cls:=.type "set",dict:=none,data:=.set #[] 0 (.fresh 0 0 led)}:=cu _ rfl;have y:Shared.TypeIs {s with heap:=s.heap.push {cls:=.type "set",dict:=none,data:=.set #[] 0 (.fresh 0 0 led)}} (.ref s.heap.objs.size) "set":=⟨_,G,rfl⟩;have Rf:=F.called_set.init.lookup;have hbi:=F.called_set.init.bind (.ref s.heap.objs.size);repeat (any_goals (first|assumption|wp_step))
   refine fL (oE (R:=wants (Va prog w s ts) E) F.called_set.init.plain F.entry_set_init (check_set_init_1 y ?_)) λZA mw I4=>?_
   ·have ZB:(s.heap.push {cls:=.type "set",dict:=none,data:=.set #[] 0 (.fresh 0 0 led)}).get? l=some {cls:=.type "list",dict:=ol.dict,data:=.seq I.toArray nl,slots:=ol.slots}:=(bf _ XK).trans (by rw[<-L,<-S]);have adH:=F.sub_list_set;have adI:=F.sub_list_frozenset;have p5:(Value.type "list"==Value.type "dict")=false:=by decide
    have MS:(s.heap.push {cls:=.type "set",dict:=none,data:=.set #[] 0 (.fresh 0 0 led)}).IsList l I.toArray:=⟨_,ZB,rfl,nl,rfl⟩;unfold Builtin.«set.__init__» noKeywords Builtin.Frozenset.updateFrom;generalize hPI:pyIter=PI;wp_walk;subst hPI;refine wpAny_pyIter_list MS ?_;refine U (wpAny_runValue ?_);refine I3 (by rw[kh];exact bL (er _)) (dJ hlS) (by rw[kh];exact bL (fH hlS)) XQ (by simp[hh]) ts 0 _ [] rfl (by simpa using hz)
     ⟨_,cu _ rfl,rfl,rfl⟩ (MS.push _) ?_ ?_
    ·exact PyProof.Rows.SetOf_congr ((PyProof.Rows.setObjOf_fresh led).setOf (bf _ G) (by unfold scanBound;exact aQ [] .nil 0 (.a (.n 0) (.n 1)) (.n 4096) tt)) (λk=>by simp) rfl
    ·intro h' tk hk q;refine aj ?_;refine(?_ :wpAny _ _ (ret Value.none) _ _ _);refine aj ⟨rfl,h',tk,rfl,q,λb o e=>?_⟩;have hb:=bT e;exact hk b o (bL hb) (by rw[kh];exact bL (fH hb)) (bf _ (bf _ e))
   ·cases ZA with
    |error e=>exact I4
    |ok Vb=>
     cases Vb with
     |ret r=>
      refine PC I4 λCz h' tk pz q TJ=>?_;rw[Cz,pz];repeat (any_goals (first|assumption|wp_step))
      exact h _ _ q TJ
     |_=>exact I4.elim
  |_=>exact hr.elim
end
section
theorem MT{xs:List V}(h:aE (VR wd) xs us)(e:kH xs=some ts):aE CE ts us:=by
 induction h generalizing ts with
 |nil=>rw[<-aq e];exact .nil
 |cons h1 _ T=>exact aI e λx e1 e=>aI e λt e2 e=>by rw[<-aq e];exact .cons (VR.str e1 h1) (T e2)
def Rg(vs:List V):ad V:=kG vs λa σ Q=>aA (dC σ.mem a) λp=>aA (kH p.2) λts=>gd (Nat.ble ts.length 20) (jR (.set (gH [] ts)) σ Q)
theorem GA:cz g k (.type "set") Rg:=by
 intro F d A af vs us hr D s wd σ Q Z R J;refine qr D J λa u e ha J=>ah J λp e1 J=>ah J λts e2 J=>xA (aL J) λh1 J=>R.lv (VR.mono Z ha) e1 λI n N dP ho dL=>?_;rw[e,N];refine v8 hr.handled (b9 ho) (MT dL e2) (aU h1) λh' tk G hk=>?_;refine bx (G.objOf) λso k6 hso=>?_;have i:=hso.1;have R':bU g F d (wd.push s.heap.objs.size) {σ with mem:=σ.mem++[.set (gH [] ts)]} {s with heap:=h',toks:=tk}:=
  R.alloc hk (c5 _) k6 ⟨hso,i.1,i.2.1⟩ R.g6
 exact az _ (.loc σ.mem.length) _ (Wd.aT _ _) R' R.pushed J
end
set_option maxHeartbeats 1000000
theorem xN{src:Source}{n:Nat}{Q:Nat->Shared->Prop}(hn:n≠0)(h:∀i d,i<n->Q i {s with drawn:=d}):wpAny M A (choose src n) Q E s:=λΓ p _=>by unfold choose;rw[Sem.wp_choose];exact⟨hn,h _ _ (eA _ (Nat.pos_of_ne_zero hn))⟩
theorem pd(l:List α)(i:Nat)(h:i<l.length):(l[i]::l.eraseIdx i).Perm l:=by
 induction l generalizing i with
 |nil=>exact absurd h (Nat.not_lt_zero _)
 |cons x r T=>
  cases i with
  |zero=>exact .refl _
  |succ i=>exact(List.Perm.swap ..).trans ((T i (Nat.lt_of_succ_lt_succ h)).cons x)
theorem tA{M:Model}{A:Around}{E:Value->Shared->Prop}(n:Nat):∀(xs:List α)(s:Shared)(Q:List α->Shared->Prop),xs.length=n->(∀I d,I.Perm xs->Q I {s with drawn:=d})->wpAny M A (drawOrder n xs) Q E s:=by
 induction n with
 |zero=>exact λxs s Q Z h=>aj (h [] s.drawn (List.length_eq_zero_iff.mp Z▸ .refl _))
 |succ n T=>
  intro xs s Q Z h;cases xs with
  |nil=>exact nomatch Z
  |cons x r=>refine(?_ :wpAny M A (choose .order (x::r).length>>=_) Q E s);refine U (xN (lV _) λi d hi=>?_);rw[bC hi];refine U (T ((x::r).eraseIdx i) _ _ (by rw[List.length_eraseIdx_of_lt hi,Z];rfl) λI c hp=>aj ?_);exact h _ c ((hp.cons _).trans (pd _ _ hi))
theorem AF(next:Nat->Nat):∀(n k:Nat)(left:List α)(m:Array α),left.length=n->(pickOrder.go next n k left m).toList.Perm (m.toList++left):=by
 intro n;induction n with
 |zero=>intro k left m Z;have:=List.length_eq_zero_iff.mp Z;subst this;simp[pickOrder.go]
 |succ n T=>intro k left m Z;have hi:next k % left.length<left.length:=eA _ (aQ [_,_] (.f 1 (.v 0) (.a (.v 1) (.n 1)) .nil) 0 (.a (.n 0) (.n 1)) (.v 0) tt Z);unfold pickOrder.go;rw[bC hi];refine(T (k+1) _ _ (by rw[List.length_eraseIdx_of_lt hi,Z];rfl)).trans ?_;rw[Array.toList_push,au];exact List.Perm.append_left _ (pd _ _ hi)
theorem u9(next:Nat->Nat)(xs:Array α):(pickOrder next xs).toList.Perm xs.toList:=by unfold pickOrder;simpa using AF next xs.size 0 xs.toList #[] (by simp)
theorem iF:Slot "set_iterator" "__next__" "set_iterator.__next__":=.of (owner:="set_iterator") (n:="__next__") (by rw[hX,ju];kernel_rfl) (by decide+kernel) (by decide+kernel) (by decide+kernel)
  (by first|exact .inl (by decide+kernel)|exact .inr (by decide+kernel)) (by rw[ke];kernel_rfl)
theorem pK:entryFor table "set_iterator.__next__"=some Builtin.«set_iterator.__next__» :=entryFor_of_tree (by kernel_rfl)
theorem qG(a:Value):argsOk "set_iterator.__next__" ⟨[a],[]⟩:=by unfold argsOk;kernel_rfl
theorem u_:entryFor table "set.__iter__"=some Builtin.«frozenset.__iter__» :=entryFor_alias (id':="frozenset.__iter__") (by kernel_rfl) rfl (by decide+kernel) (by kernel_rfl)
noncomputable def fj(first:Value)(i:Nat)(S:Value)(n ep:Nat):Obj:={cls:=.type "set_iterator",dict:=none,data:=.fields #[first,rawInt i,S,rawInt n,rawInt ep],slots:= #[]}
structure MU(w:World)(h:Heap)(it S:Addr)(es:Array (Int×Value))(ep:Nat)(t:SetTable)(zs:List Value):Prop where
 ne:it≠S
 set:h.get? S=some (iE es ep t)
 fits:t.fits es.size=true
 led:t.led= !(w.params.followText "set-order")
 at':(∃(T:Addr)(p:List Nat)(i n:Nat),h.get? it=some (fj (.ref T) i (.ref S) es.size ep)/\h.get? T=some (aG "tuple" (p.map λ(j:Nat)=>rawInt ((j:Nat):Int)) n)/\T≠it/\aE (λ(j:Nat)(z:Value)=>∃e,es[j]?=some e/\e.2=z) (p.drop i) zs)\/
  (w.params.followText "set-order"=true/\∃i:Nat,h.get? it=some (fj (rawInt 0) i (.ref S) es.size ep)/\zs=((pickOrder (w.params.setOrder S ep) es).toList.drop i).map (·.2))\/
  (w.params.followText "set-order"=false/\es.size<=1/\∃i nG:Nat,h.get? it=some (fj (rawInt nG) i (.ref S) es.size ep)/\zs=(es.toList.drop (SetTable.below t.place nG)).map (·.2))
section
theorem I5{T id:String}{b:Builtin}(y:s.TypeIs (.ref it) T)(sl:Slot T "__next__" id)(en:entryFor table id=some b)(ar:argsOk id ⟨[.ref it],[]⟩)(hb:wpAny (model prog w) A.in1 (b ⟨[.ref it],[]⟩) (YY Q) (TD Q) s):wpAny (model prog w) A (pyNext (.ref it)) Q E s:=by
 unfold pyNext;refine U (wpAny_attempt (wpAny_callSpecial?_slot y sl (i5 sl y en (a_ hb (λfin s' z=>?_) λe s' z=>?_) ar)))
 ·exact bx z λv e hv=>by rw[e];exact⟨v,rfl,aj hv⟩
 ·refine zf z λa e ho Y=>bx ho λo k6 hc=>?_;rw[e];exact U (j8 ⟨o,k6,hc⟩ isSubtype_stop (aj Y))
theorem I6(hh:A.handled=none)(k:∀h',(∀b o,s.heap.get? b=some o->h'.get? b=some o)->Q none {s with heap:=h'}):wpAny (model prog w) A (Builtin.SmallTypes.stopIteration:Sem α) Q' (TD Q) s:=a_ (sU hh) (λ_ _ x=>x) λe s' x=>ub x λa l jJ pz ho hk=>by rw[pz];exact⟨a,jJ,ho,k l hk⟩
theorem I7{f S':Value}{i n:Nat}(hh:A.handled=none)(h1:s.heap.get? it=some {cls:=.type "set_iterator",dict:=none,data:=.fields #[f,rawInt i,S',rawInt n,rawInt ep],slots:= #[]})(k:∀h',(∀b o,b≠it->s.heap.get? b=some o->h'.get? b=some o)->Q none {s with heap:=h'}):wpAny (model prog w) A (setField (.ref it) 2 .none>>=λ_=>(Builtin.SmallTypes.stopIteration:Sem α)) Q' (TD Q) s:=U (j6 h1 (by simp) λh' X a2=>I6 (s:={s with heap:=h'}) hh λl hk=>k l λb o hb e=>hk b o ((a2.2 b hb).trans e))
theorem I8{f:Value}{i n next:Nat}{x:Value}(h1:s.heap.get? it=some (fj f i (.ref S) n ep))(k:∀h',Heap.SameBut it s.heap h'->h'.get? it=some (fj (rawInt (next:Int)) (i+1) (.ref S) n ep)->Q (some x) {s with heap:=h'}):wpAny (model prog w) A (setField (.ref it) 0 (rawInt (next:Int))>>=λ_=>setField (.ref it) 1 (rawInt ((i:Int)+1))>>=λ_=>ret x) (YY Q) (TD Q) s:=U (j6 h1 (by simp) λh' X a2=>U (j6 X (by simp) λl u b2=>aj ⟨_,rfl,k l (a2.trans b2) (by rw[u];rfl)⟩))
theorem AG(hh:A.handled=none)(I:MU w s.heap it S es ep t zs)(cL:∀z r h',zs=z::r->Heap.SameBut it s.heap h'->MU w h' it S es ep t r->Q (some z) {s with heap:=h'})(stop:zs=[]->∀h',(∀b o,b≠it->s.heap.get? b=some o->h'.get? b=some o)->Q none {s with heap:=h'}):wpAny (model prog w) A (pyNext (.ref it)) Q E s:=by
 have p5:=I.ne;have g:=I.set;have B:=I.fits;have H:=I.led;have y:s.TypeIs (.ref it) "set_iterator":=I.at'.elim (λh=>gY h λ_ _ _ _ h1 _ _ _=>⟨_,h1,rfl⟩) λh=>h.elim (λh=>jy h λ_ _ h1 _=>⟨_,h1,rfl⟩) λh=>w9 h λ_ _ _ _ h1 _=>⟨_,h1,rfl⟩;have I9:∀h',Heap.SameBut it s.heap h'->h'.get? S=some (iE es ep t):=λh' M=>(M.2 S (bM p5)).trans g;refine I5 y iF pK (qG _) ?_;unfold Builtin.«set_iterator.__next__»;refine(?_ :wpAny _ _ (fieldsOf (.ref it)>>=_) _ _ s);have Rh:∀n:Nat,((n:Int) !=(n:Int))=false:=λn=>by simp
 refine I.at'.elim (λh=>gY h λT p i n h1 h2 hTi h4=>?_) λh=>h.elim (λh=>jy h λm i h1 h2=>?_) λh=>w9 h λm hz i nG h1 h2=>?_
 ·refine U (wpAny_fieldsOf h1 rfl ?_);refine(?_ :wpAny _ _ (setEntries S>>=_) _ _ s);refine U (wpAny_setEntries_of g rfl B ?_);refine fc (Rh _) ?_;refine(?_ :wpAny _ _ (seqItems? (.ref T)>>=_) _ _ s);refine U (wpAny_seqItems h2 rfl ?_);cases LK:p.drop i with
  |nil=>
   rw[LK] at h4;cases h4;have:((p.map λ(j:Nat)=>rawInt ((j:Nat):Int)).toArray)[(i:Int).toNat]?=none:=by rw[jY,kq,ax];rw[jZ] at LK;simpa using LK
   dsimp only;rw[this];refine U (j6 h1 (by simp) λh' X a2=>?_);refine U (j6 X (by simp) λl u b2=>?_);exact I6 (s:={s with heap:=l}) (A:=A.in1) hh λh3 hk=>stop rfl h3 λb o hb e=>hk b o ((b2.2 b hb).trans ((a2.2 b hb).trans e))
  |cons j p'=>
   rw[LK] at h4;cases h4 with
   | @cons _ z _ r hz hr=>
   refine bx hz λe he jJ=>?_;rw[<-jJ] at cL;have hj:p[i]?=some j:=by have:=ag (·[0]?) LK;simpa using this
   have:((p.map λ(j:Nat)=>rawInt ((j:Nat):Int)).toArray)[(i:Int).toNat]?=some (rawInt (j:Int)):=by rw[jY,bi];simp[hj]
   dsimp only;rw[this];refine(?_ :wpAny _ _ (setNextDrawn S (j:Int).toNat (ep:Int).toNat>>=_) _ _ s);refine U ?_;unfold setNextDrawn;refine U (i4 g rfl B ?_);dsimp only;refine fc (by simp) ?_;have:es[(j:Int).toNat]?=some e:=by simpa using he
   rw[this];refine aj ?_;refine U (j6 h1 (by simp) λh' X a2=>?_);refine aj ⟨_,rfl,cL _ r h' rfl a2 ⟨p5,I9 _ a2,B,H,.inl ⟨T,p,i+1,n,?_,(a2.2 T hTi).trans h2,hTi,?_⟩⟩⟩
   ·rw[X];rfl
   ·have:p.drop (i+1)=p':=by have:=ag List.tail LK;rwa[List.tail_drop,List.tail_cons] at this
    rw[this];exact hr
 ·refine U (wpAny_fieldsOf h1 rfl ?_);refine(?_ :wpAny _ _ (setEntries S>>=_) _ _ s);refine U (wpAny_setEntries_of g rfl B ?_);refine fc (Rh _) ?_;refine(?_ :wpAny _ _ (setNext S (0:Int).toNat (i:Int).toNat (ep:Int).toNat>>=_) _ _ s);refine U ?_;unfold setNext setsByText;refine U (i4 g rfl B ?_);dsimp only;refine U (U (iu (aj ?_)));refine(?_ :wpAny _ _ (if w.params.followText "set-order"=true then _ else _) _ _ s);refine jd m ?_;refine fc (by simp) ?_;refine U ?_;unfold setWalk setsByText;refine U (i4 g rfl B ?_);dsimp only;refine U (U (iu (aj ?_)));refine(?_ :wpAny _ _ (if w.params.followText "set-order"=true then _ else _) _ _ s);refine jd m ?_;refine U (iu (aj (aj ?_)));show wpAny _ _ (match Option.map (λe:Int×Value=>(e.2,(0:Int).toNat)) (pickOrder (w.params.setOrder S ep) es)[(i:Int).toNat]? with|some (x,next)=>(do setField (.ref it) 0 (rawInt (next:Int));setField (.ref it) 1 (rawInt ((i:Int)+1));ret x)|none=>(do setField (.ref it) 2 .none;raiseNew (<-newExc (.type "StopIteration") []))) _ _ s;generalize hw:pickOrder (w.params.setOrder S ep) es=pk at h2 ⊢;have XM:pk[(i:Int).toNat]?=pk.toList[i]?:=by simp
  cases d:pk.toList.drop i with
  |nil=>
   rw[d] at h2;have hn:pk[(i:Int).toNat]?=none:=by rw[XM,kq];rwa[jZ] at d
   first|rw[hw,hn]|rw[hn]
   exact I7 (A:=A.in1) hh h1 λh3 hk=>stop h2 h3 hk
  |cons e r=>
   rw[d] at h2;have hn:pk[(i:Int).toNat]?=some e:=by have:=ag (·[0]?) d;rw[XM];simpa using this
   have hr:pk.toList.drop (i+1)=r:=by have:=ag List.tail d;rwa[List.tail_drop,List.tail_cons] at this
   first|rw[hw,hn]|rw[hn]
   exact I8 h1 λl M ha=>cL e.2 (r.map (·.2)) l (by rw[h2];rfl) M ⟨p5,I9 _ M,B,H,.inr (.inl ⟨m,i+1,ha,by rw[hw,hr]⟩)⟩
 ·refine U (wpAny_fieldsOf h1 rfl ?_);refine(?_ :wpAny _ _ (setEntries S>>=_) _ _ s);refine U (wpAny_setEntries_of g rfl B ?_);refine fc (Rh _) ?_;refine(?_ :wpAny _ _ (setNext S (nG:Int).toNat (i:Int).toNat (ep:Int).toNat>>=_) _ _ s);refine U ?_;unfold setNext setsByText;refine U (i4 g rfl B ?_);dsimp only;refine U (U (iu (aj ?_)));refine(?_ :wpAny _ _ (if w.params.followText "set-order"=true then _ else _) _ _ s);refine fc m ?_;refine(?_ :wpAny _ _ (if (!t.plain&&decide (es.size>1))=true then _ else _) _ _ s);refine fc (by rw[dR (by exact(λq=>zo [_] (.c 1 (.v 0) (.n 1) (.c 1 (.a (.n 1) (.n 1)) (.v 0) .nil)) 0 tt hz q)),Bool.and_false]) ?_;refine U ?_;refine(?_ :wpAny _ _ (if (!t.led&& !es.isEmpty)=true then _ else _) _ _ s);refine fc (by rw[H,m];rfl) ?_;refine aj ?_;have QZ:t.place.size=es.size:=by unfold SetTable.fits at B;rw[aM] at B;simpa using B.1
  refine aj ?_;show wpAny _ _ (match (match es[SetTable.below t.place nG]?,t.place[SetTable.below t.place nG]? with|some (_,x),some j=>some (x,j+1)|_,_=>none) with|some (x,next)=>(do setField (.ref it) 0 (rawInt (next:Int));setField (.ref it) 1 (rawInt ((i:Int)+1));ret x)|none=>(do setField (.ref it) 2 .none;raiseNew (<-newExc (.type "StopIteration") []))) _ _ s;generalize SetTable.below t.place nG=k at h2 ⊢;cases d:es.toList.drop k with
  |nil=>
   rw[d] at h2;have hn:es[k]?=none:=by rw[<-Array.getElem?_toList,kq];rwa[jZ] at d
   rw[hn];exact I7 (A:=A.in1) hh h1 λh3 hk=>stop h2 h3 hk
  |cons e r=>
   rw[d] at h2;have dP:k<es.toList.length:=by apply Nat.lt_of_not_le;intro q;rw[oA q] at d;cases d
   rw[gi] at dP;have TF:k=0:=by exact fB [_,_] (.c 1 (.v 0) (.n 1) (.c 1 (.a (.v 1) (.n 1)) (.v 0) .nil)) 0 (.v 1) (.n 0) tt tt hz dP
   subst TF;have D:es.size=1:=by exact Nat.le_antisymm (aQ [_] (.c 1 (.v 0) (.n 1) .nil) 0 (.v 0) (.n 1) tt hz) (aQ [_] (.c 1 (.a (.n 0) (.n 1)) (.v 0) .nil) 0 (.n 1) (.v 0) tt dP)
   have hn:es[0]?=some e:=by have:=ag (·[0]?) d;rw[<-Array.getElem?_toList];simpa using this
   have hr:r=[]:=by have:=ag List.length d;simp only[gV,gi,aJ,D] at this;exact List.length_eq_zero_iff.mp (fB [_] (.f 1 (.n 1) (.a (.v 0) (.n 1)) .nil) 0 (.v 0) (.n 0) tt tt this)
   subst hr;have hjj:∃j,t.place= #[j]:=xE (List.length_eq_one_iff.mp (by rw[gi,QZ,D]:t.place.toList.length=1)) λj Y=>⟨j,by rw[<-Array.toList_inj,Y]⟩;refine xE hjj λj hj=>?_;have hp0:t.place[0]?=some j:=by rw[hj];rfl
   rw[hn,hp0];refine I8 h1 λl M ha=>cL e.2 [] l (by rw[h2];rfl) M ⟨p5,I9 _ M,B,H,.inr (.inr ⟨m,hz,i+1,j+1,ha,?_⟩)⟩
   ·have hb:SetTable.below t.place (j+1)=1:=by rw[hj];simp[SetTable.below,SetTable.below.go]
    rw[hb,oA (by rw[gi];exact aQ [_] (.c 1 (.v 0) (.n 1) .nil) 0 (.v 0) (.n 1) tt hz)];rfl
end
section
theorem CF(es:Array (Int×Value))(p:List Nat)(h:∀j∈p,j<es.size):∃zs,aE (λ(j:Nat)(z:Value)=>∃e,es[j]?=some e/\e.2=z) p zs/\zs=p.map λj=>(es.getD j (0,.none)).2:=by
 induction p with
 |nil=>exact⟨[],.nil,rfl⟩
 |cons j r T=>have hj:=h j (.head _);exact bx (T λi hi=>h i (.tail _ hi)) λzs h1 h2=>⟨es[j].2::zs,.cons ⟨es[j],Array.getElem?_eq_getElem hj,rfl⟩ h1,by rw[cy,h2];simp[Array.getD,hj]⟩
theorem GC(es:Array (Int×Value)):(List.range es.size).map (λj=>(es.getD j (0,.none)).2)=es.toList.map (·.2):=by
 apply List.ext_getElem
 ·simp
 ·intro i h1 h2;simp at h1;simp[Array.getD,h1]
theorem Rj(p:Array Nat):SetTable.below p 0=0:=by
 have:∀n lo hi,lo<=hi->SetTable.below.go p 0 n lo hi=lo:=by
  intro n;induction n with
  |zero=>intro lo hi _;rfl
  |succ n T=>
   intro lo hi gG;unfold SetTable.below.go;split
   ·dsimp only;rw[aH (Nat.not_lt_zero _)];exact T _ _ (by omega)
   ·rfl
 exact this _ _ _ (aW _)
theorem I_{Q:Value->Shared->Prop}(g:s.heap.get? S=some (iE es ep t))(B:t.fits es.size=true)(H:t.led= !(w.params.followText "set-order"))(i:es.size=0\/t.plain=false)(hz:es.size<=100)(h:∀it h' d zs,MU w h' it S es ep t zs->zs.Perm (es.toList.map (·.2))->(∀b o,s.heap.get? b=some o->h'.get? b=some o)->s.heap.get? it=none->s.heap.objs.size<=it->Q (.ref it) {s with heap:=h',drawn:=d}):wpAny (model prog w) A (pyIter (.ref S)) Q E s:=by
 have y:s.TypeIs (.ref S) "set":=⟨_,g,rfl⟩;have r:=bT g;refine wpAny_pyIter_slot y PySem.F.slot_set_iter (i5 PySem.F.slot_set_iter y u_ ?_ (PySem.F.args_set_iter_1 _));unfold Builtin.«frozenset.__iter__»;refine(?_ :wpAny _ A.in1 (Builtin.Frozenset.sizeOf S>>=_) _ _ s);refine U ?_;unfold Builtin.Frozenset.sizeOf;refine U (wpAny_setEntries_of g rfl B (aj ?_));refine U ?_;unfold setDrawn setsByText;refine U (i4 g rfl B ?_);dsimp only;refine U (U (iu (aj (aj ?_))));refine(?_ :wpAny _ _ (if (!(w.params.followText "set-order")&&(!t.plain&&decide (es.size>1)))=true then _ else _) _ _ _);cases hd:(!(w.params.followText "set-order")&&(!t.plain&&decide (es.size>1))) with
 |true=>
  refine jd rfl ?_;refine U (tA es.size (List.range es.size) s _ (j7) λp d hp=>?_);have ZC:∀j∈p,j<es.size:=λj hj=>List.mem_range.mp (hp.mem_iff.mp hj);have i:p.length=es.size:=by rw[hp.length_eq,j7]
  refine bx (CF es p ZC) λzs h1 h2=>?_;have u5:zs.Perm (es.toList.map (·.2)):=by rw[h2,<-GC];exact hp.map _
  refine U (wpAny_newTuple ?_ (by rw[ax,i,dj];exact aQ [_] (.c 1 (.v 0) (.n 100) .nil) 0 (.v 0) (.n 16777216) tt hz));refine U (wpAny_setEpoch_of (bf _ g) rfl B ?_);refine U (gN ?_);have hk:∀b o,s.heap.get? b=some o->((s.heap.push (aG "tuple" (p.map λ(j:Nat)=>rawInt ((j:Nat):Int)) 0)).push (fj (.ref s.heap.objs.size) 0 (.ref S) es.size ep)).get? b=some o:=λb o e=>bf _ (bf _ e);have D:(s.heap.push (aG "tuple" (p.map λ(j:Nat)=>rawInt ((j:Nat):Int)) 0)).objs.size=s.heap.objs.size+1:=kh ..;have K:((s.heap.push (aG "tuple" (p.map λ(j:Nat)=>rawInt ((j:Nat):Int)) 0)).push (fj (.ref s.heap.objs.size) 0 (.ref S) es.size ep)).get? (s.heap.objs.size+1)=some (fj (.ref s.heap.objs.size) 0 (.ref S) es.size ep):=by rw[<-D];exact cu _ rfl
  refine aj ⟨_,rfl,"set_iterator",_,⟨_,cu _ rfl,rfl⟩,iF.lookup,?_⟩;refine(?_ :Q (.ref (s.heap.push (aG "tuple" (p.map λ(j:Nat)=>rawInt ((j:Nat):Int)) 0)).objs.size) {s with heap:=((s.heap.push (aG "tuple" (p.map λ(j:Nat)=>rawInt ((j:Nat):Int)) 0)).push (fj (.ref s.heap.objs.size) 0 (.ref S) es.size ep)),drawn:=d});rw[D];refine h _ _ d zs ⟨dJ (fH r),hk _ _ g,B,H,.inl ⟨s.heap.objs.size,p,0,0,K,bf _ (cu _ rfl),bL (er _),h1⟩⟩ u5 hk (gM (eT _)) (eT _)
 |false=>
  refine fc rfl ?_;refine U (aj ?_);refine U (wpAny_setEpoch_of g rfl B ?_);refine U (gN ?_);have hk:∀b o,s.heap.get? b=some o->(s.heap.push (fj (rawInt 0) 0 (.ref S) es.size ep)).get? b=some o:=λb o e=>bf _ e;have K:(s.heap.push (fj (rawInt 0) 0 (.ref S) es.size ep)).get? s.heap.objs.size=some (fj (rawInt 0) 0 (.ref S) es.size ep):=cu _ rfl;refine aj ⟨_,rfl,"set_iterator",_,⟨_,cu _ rfl,rfl⟩,iF.lookup,?_⟩;refine(?_ :Q (.ref s.heap.objs.size) {s with heap:=s.heap.push (fj (rawInt 0) 0 (.ref S) es.size ep)});cases m:w.params.followText "set-order" with
  |true=>exact h _ _ s.drawn ((pickOrder (w.params.setOrder S ep) es).toList.map (·.2)) ⟨dJ r,hk _ _ g,B,H,.inr (.inl ⟨m,0,K,rfl⟩)⟩ ((u9 _ _).map _) hk (c5 _) (aF _)
  |false=>
   rw[m] at hd;have hz1:es.size<=1:=by refine i.elim (λh0=>by rw[h0];exact aW 1) λh0=>?_;rw[h0] at hd;simpa using hd
   exact h _ _ s.drawn (es.toList.map (·.2)) ⟨dJ r,hk _ _ g,B,H,.inr (.inr ⟨m,hz1,0,0,K,by rw[Rj];rfl⟩)⟩ (.refl _) hk (c5 _) (aF _)
theorem CG{b:Addr}{o o':Obj}{T T':String}(e:h.get? a=some o)(e':h.get? b=some o')(c:o.cls= .type T)(c':o'.cls= .type T')(ne:T≠T'):a≠b:=λq=>
 ne (kg (c.symm.trans ((ag Obj.cls (aq (e.symm.trans ((ag h.get? q).trans e')))).trans c')))
theorem MU.upd{h':Heap}{L0:Addr}{c:Nat}(I:MU w h it S es ep t zs)(Z:h.get? L0=some (aG "list" us c))(k:∀b o,b≠L0->h.get? b=some o->h'.get? b=some o):MU w h' it S es ep t zs:=have W:∀{b o T},h.get? b=some o->o.cls= .type T->T≠"list"->h'.get? b=some o:=λe c ne=>k _ _ (CG e Z c rfl ne) e
 ⟨I.ne,W I.set rfl (by decide),I.fits,I.led,I.at'.imp (λx=>gY x λT p i n h1 h2 h3 h4=>⟨T,p,i,n,W h1 rfl (by decide),W h2 rfl (by decide),h3,h4⟩) λx=>x.imp (λx=>jy x λm i h1 h2=>⟨m,i,W h1 rfl (by decide),h2⟩) λx=>w9 x λm hz i nG h1 h2=>⟨m,hz,i,nG,W h1 rfl (by decide),h2⟩⟩
theorem MU.isIt(I:MU w h it S es ep t zs):∃o,h.get? it=some o/\o.cls= .type "set_iterator":=I.at'.elim (λh=>gY h λ_ _ _ _ h1 _ _ _=>⟨_,h1,rfl⟩) λh=>h.elim (λh=>jy h λ_ _ h1 _=>⟨_,h1,rfl⟩) λh=>w9 h λ_ _ _ _ h1 _=>⟨_,h1,rfl⟩
theorem CH{L0:Addr}{res:Value}(hh:A.handled=none):∀(zs:List Value)(s:Shared)(bV:List Value)(c:Nat),MU w s.heap it S es ep t zs->s.heap.get? L0=some (aG "list" bV c)->bV.length+zs.length<=1000-> (∀h' c',(∀b o,b≠L0->b≠it->s.heap.get? b=some o->h'.get? b=some o)->h'.get? L0=some (aG "list" (bV++zs) c')->R (.ok (.ret res)) {s with heap:=h'})-> codeAny (model prog w) A (.builtin "list.extend.loop" ⟨[.ref L0,.ref it,res],[]⟩) R s:=by
 intro zs;induction zs with
 |nil=>intro s bV c I Z hz hR;refine bx (I.isIt) λoi U7 ZD=>?_;refine fe PySem.F.entry_extend_loop ?_;rw[il lM _];refine(?_ :wpAny _ A.in1 (pyNext (.ref it)>>=_) _ _ _);refine U (AG hh I (λz r h' e=>nomatch e) λ_ h' hk=>?_);refine aj (hR h' c (λb o _ hb e=>hk b o hb e) ?_);rw[aS];exact hk _ _ (bM (CG U7 Z ZD rfl (by decide))) Z
 |cons z r T=>
  intro s bV c I Z hz hR;refine bx (I.isIt) λoi U7 ZD=>?_;have hLi:=bM (CG U7 Z ZD rfl (by decide));refine fe PySem.F.entry_extend_loop ?_;rw[il lM _];refine(?_ :wpAny _ A.in1 (pyNext (.ref it)>>=_) _ _ _);rw[aJ] at hz;refine U (AG hh I (λg r' h' e M I'=>?_) λe=>nomatch e);rw[<-(hY e).1];rw[<-(hY e).2] at I';have j:=(M.2 L0 hLi).trans Z;refine(?_ :wpAny _ A.in1 (updateSeq L0 (·.push z)>>=_) _ _ _);refine U ?_;have Q_:=(d_ (Obj.mapSeq (·.push z)) j (by rw[qz];rfl)).trans (ag some (qz bV z c));have hup:∀b o,b≠L0->h'.get? b=some o->(h'.update L0 (Obj.mapSeq (·.push z))).get? b=some o:=λb o hb e=>(lN _ _ (bM hb)).trans e;refine wpAny_updateSeq j rfl (aj ⟨gW lM _,T {s with heap:=h'.update L0 (Obj.mapSeq (·.push z))} (bV++[z]) (c+1) (I'.upd j hup) Q_ (by simp;exact aQ [_,_] (.c 1 (.a (.v 0) (.a (.v 1) (.n 1))) (.n 1000) .nil) 0 (.a (.a (.v 0) (.n 1)) (.v 1)) (.n 1000) tt hz) λl c' hk PT=>?_⟩)
   (by rw[aZ,dj];exact aQ [_,_] (.c 1 (.a (.v 0) (.a (.v 1) (.n 1))) (.n 1000) .nil) 0 (.v 0) (.n 16777216) tt hz) (by rw[Array.size_push,aZ,dj];exact aQ [_,_] (.c 1 (.a (.v 0) (.a (.v 1) (.n 1))) (.n 1000) .nil) 0 (.a (.v 0) (.n 1)) (.a (.n 16777216) (.n 1)) tt hz)
  refine hR l c' (λb o h1 h2 e=>hk b o h1 h2 (hup b o h1 ((M.2 b h2).trans e))) ?_;rw[PT,au];rfl
theorem MV:typeLookup (.type "set") "__len__"=Pure.pure (some (.builtin "set.__len__")):=PySem.F.slot_set_len.lookup
theorem Ja(y:s.TypeIs (.ref S) "set"){Q:Bool->Shared->Prop}(h:Q false s):wpAny (model prog w) A (Builtin.List.listLengthHint (.ref S)) Q E s:=by
 unfold Builtin.List.listLengthHint;refine U (wpAny_specialOf y MV ?_);generalize d7:("set.__len__":String)=id0
 wp_delta
 rw[show splitId id0=some ("set","__len__") from by subst d7;decide+kernel];subst d7;refine U (j8 (b:=true) y (by rw[ke];kernel_rfl) ?_);refine wpAny_ite_split (λZE=>absurd ZE (by decide)) (λ_=>?_);refine wpAny_ite_split (λ_=>?_) (λZE=>absurd (by decide+kernel) ZE);refine U (wpAny_typeOf y ?_);exact aj h
def ZF(prog:Program)(w:World)(A:Around)(Q:List Value->Shared->Prop)(E:Value->Shared->Prop):Result->Shared->Prop:=λr s'=>match r with
 | .ok (.ret v)=>wpAny (model prog w) A (match v with| .ref a=>(do match (<-load a).data with| .seq xs _=>Pure.pure xs.toList|_=>unsupported "internal:collect")|_=>unsupported "internal:collect") Q E s'
 | .ok _=>False
 | .error e=>E e s'
theorem AH{Q:List Value->Shared->Prop}(hh:A.handled=none)(g:s.heap.get? S=some (iE es ep t))(B:t.fits es.size=true)(H:t.led= !(w.params.followText "set-order"))(i:es.size=0\/t.plain=false)(hz:es.size<=100)(h:∀h' d zs,zs.Perm (es.toList.map (·.2))->(∀b o,s.heap.get? b=some o->h'.get? b=some o)->Q zs {s with heap:=h',drawn:=d}):wpAny (model prog w) A (collect (.ref S)) Q E s:=by
 have r:=bT g;unfold collect;refine U (wpAny_runValue (fe entry_proto_collect' ?_));rw[il PySem.F.plain_proto_collect _];refine(?_ :wpAny _ A.in1 (newList []>>=λl=>again (.builtin "list.__iadd__" ⟨[l,.ref S],[]⟩)) _ _ s);refine U (gN ?_);refine aj ⟨gW PySem.F.plain_list_iadd _,fe entry_list_iadd' ?_⟩;rw[il PySem.F.plain_list_iadd _];have XR:(s.heap.push (aG "list" [] 0)).get? s.heap.objs.size=some (aG "list" [] 0):=cu _ rfl;have Ej:(s.heap.push (aG "list" [] 0)).get? S=some (iE es ep t):=bf _ g;refine(?_ :wpAny _ A.in1 (Builtin.List.listExtendWith (.ref s.heap.objs.size) (.ref S) (.ref s.heap.objs.size)) _ _ {s with heap:=s.heap.push (aG "list" [] 0)});unfold Builtin.List.listExtendWith;refine U (wpAny_typeOf ⟨_,Ej,rfl⟩ ?_);have h1:Builtin.List.listSameRef (.ref s.heap.objs.size) (.ref S)=false:=by simp[Builtin.List.listSameRef];exact dJ r
 have h2:(Value.type "set"==Value.type "list")=false:=by decide
 have h3:(Value.type "set"==Value.type "tuple")=false:=by decide
 simp only[h1,h2,h3,Bool.or_false,jv,if_false];refine U (I_ Ej B H i hz λit h' d zs I hp hk Ae k=>?_);have abS:=Ej;refine U (bq (Ja ⟨_,hk _ _ Ej,rfl⟩ ?_));have fin:∀(h1:Heap)(c:Nat),(∀b o,b≠s.heap.objs.size->h'.get? b=some o->h1.get? b=some o)->h1.get? s.heap.objs.size=some (aG "list" [] c)->
  codeAny (model prog w) A (.builtin "list.extend.loop" ⟨[.ref s.heap.objs.size,.ref it,.ref s.heap.objs.size],[]⟩) (ZF prog w A Q E) {s with heap:=h1,drawn:=d}:=by
  intro h1 c f hc;refine CH hh zs {s with heap:=h1,drawn:=d} [] c (I.upd (hk _ _ XR) f) hc (by rw[hp.length_eq];simp;exact aQ [_] (.c 1 (.v 0) (.n 100) .nil) 0 (.v 0) (.n 1000) tt hz) λh2 c2 j Q_=>?_;dsimp only;refine U (wpAny_load Q_ (aj ?_));refine(?_ :Q (([]++zs).toArray.toList) {s with heap:=h2,drawn:=d});refine h h2 d zs hp λb o e=>?_;have hb:=bT e;have hbi:b≠it:=λq=>by rw[<-q] at k;rw[kh] at k;exact absurd (dA (fH hb) k) (i_ _)
  exact j b o (bL hb) hbi (f b o (bL hb) (hk b o (bf _ e)))
 refine wpAny_ite_split (λ_=>?_) (λ_=>aj ⟨gW lM _,fin h' 0 (λb o _ e=>e) (hk _ _ XR)⟩);refine U (eN ?_);refine U ?_;refine(?_ :wpAny _ _ (updateSeq s.heap.objs.size (·.push .none)>>=λ_=>updateSeq s.heap.objs.size (·.pop)) _ _ _);refine U (wpAny_updateSeq (hk _ _ XR) rfl ?_);have a:=d_ (Obj.mapSeq (·.push Value.none)) (hk _ _ XR) rfl;refine wpAny_updateSeq a rfl ?_;have uo:=d_ (Obj.mapSeq (·.pop)) a rfl;refine aj ⟨gW lM _,fin _ _ (λb o hb e=>?_) uo⟩;exact(lN _ _ (bM hb)).trans ((lN _ _ (bM hb)).trans e)
end
section
theorem cK.in2(h:cK A (k+1)):cK A.in1.in1 k:=⟨by have:=h.depth;show A.depth+2*k<_;exact aQ [_,_,_] (.c 1 (.a (.a (.v 0) (.m 2 (.a (.v 1) (.n 1)))) (.n 1)) (.v 2) .nil) 0 (.a (.a (.v 0) (.m 2 (.v 1))) (.n 1)) (.v 2) tt this,by have:=h.units;show A.units+1+1+16*k+80<_;exact aQ [_,_,_] (.c 1 (.a (.a (.a (.v 0) (.m 16 (.a (.v 1) (.n 1)))) (.n 80)) (.n 1)) (.v 2) .nil) 0 (.a (.a (.a (.a (.a (.v 0) (.n 1)) (.n 1)) (.m 16 (.v 1))) (.n 80)) (.n 1)) (.v 2) tt this,h.handled⟩
theorem bU.own1{σ:St}(R:bU g F d wd σ s){o:O}{ob:Obj}(H:jB g d wd [a])(ha:s.heap.get? a=some ob)(ho:OR g (wd.push a) o ob)(M:a≠sysModules):bU g F d (wd.push a) {σ with mem:=σ.mem++[o]} s:=by have hw:=Wd.aT wd a;exact bx (R.loc) λm hn hm=>⟨R.mem.own1 ha ho (H.fz a (.head _)) (λl Z=>H.own a (.head _) l Z) M,⟨m,hn,hm.mono hw⟩,R.ix.mono hw,R.pv,λl Z=>Wd.eB Z (λh1 e1=>e1▸R.kR l h1) λ_ e1 q=>H.L (by rw[<-q,e1];exact .head _),R.gens,R.os⟩
theorem GD{es:List (Int×Value)}{xs:List Str}(h:∃I:List Str,I.Perm xs/\aE (λ(x:Str)(e:Int×Value)=>e.1=hashStr w x/\∃tk,e.2= .str x tk) I es)(hz:zs.Perm (es.map (·.2))):∃I:List Str,I.Perm xs/\aE CE I zs:=by
 refine bx h λI h1 h2=>?_;have h3:aE CE I (es.map (·.2)):=by
  clear h h1 hz;induction h2 with
  |nil=>exact .nil
  |cons a b T=>exact .cons a.2 T
 refine bx (aE.perm hz h3) λl' h4 h5=>?_;exact⟨l',h4.trans h1,h5⟩
theorem Ek{I:List Str}(h:aE CE I zs):aE (VR wd) (I.map .str) zs:=by
 induction h with
 |nil=>exact .nil
 |cons h _ T=>exact .cons h T
noncomputable def OT(o:Option O):Option (List Str):=o.bind O.ss
noncomputable def Jb(mem:List O)(v:V):Option (List Str):=v.lo.bind λl=>OT mem[l]?
def CI(W:V->List V->ad V)(a t:V):ad V:=λσ Q=>aA (Jb σ.mem a) λxs=>aA (oY t) λ_=>gd (Nat.ble xs.length 2) (∀I:List Str,I.Perm xs->u0 W t (I.map .str) [] σ λkv a9=>gd (kv.all (Ay a9.mem))
 (∀zs:List Str,zs.Perm xs->Q (.loc a9.mem.length) {a9 with mem:=a9.mem++[.list (zs.map .str)]}))
theorem v9{W:V->List V->ad V}(hc:gc g k W):u8 g (k+1) (.builtin "sorted") "key" (CI W):=by
 intro F d A af a b u v hr ha hb s wd σ Q Z R J;refine ah J λxs e1 J=>ah J λlf e2 J=>xA (aL J) λh2 Ca=>aI e1 λl r e1=>zj (R.get (eZ O.PK e1)) λdP ob ho es ep t P dL H B i=>?_;have h2:=aU h2;rw[P] at ho;have ZG:=VR.mono Z hb;have C:=(VR.ref e2 ZG).2;rw[C] at ZG ⊢;rw[(VR.ref r (VR.mono Z ha)).2];have D:es.size=xs.length:=by refine bx dL λI h3 h4=>?_;rw[<-h3.length_eq,h4.len,gi]
 refine call_function_entry_kw kind_sorted plain_sorted entry_sorted (ksk_s1 _ _) ?_;unfold Builtin.«sorted»;refine U (m:=checkCount "sorted" 1 1 _) (aj ?_);refine U (AH hr.handled ho B H i (aQ [_,_] (.c 1 (.v 0) (.n 2) (.e 1 (.v 1) (.v 0) .nil)) 0 (.v 1) (.n 100) tt h2 D) λh1 M zs hp hk=>?_);refine bx (GD dL hp) λI p1 p2=>?_;have Ar:zs.length=xs.length:=by rw[hp.length_eq,ax,gi,D]
 refine U (wpAny_newList ?_ (by rw[dj];exact aQ [_,_] (.c 1 (.v 0) (.n 2) (.e 1 (.v 1) (.v 0) .nil)) 0 (.v 1) (.n 16777216) tt h2 Ar));have R1:bU g F d wd σ {s with heap:=h1,drawn:=M}:=R.keeps hk;have G:(h1.push (aG "list" zs 0)).get? h1.objs.size=some (aG "list" zs 0):=cu _ rfl;have H1:=jB.fresh R1 pC;have T:=R1.keeps (s':={s with heap:=h1.push (aG "list" zs 0),drawn:=M}) λ_ _ e=>bf _ e;have p:=R1.g6;refine U (bq (wpAny_call_entry_kw slot_list_sort ⟨_,G,rfl⟩ entry_list_sort ?_ (ksk_l1 _ _)));refine(?_ :wpAny (model g.prog g.w) A.in1.in1 (Builtin.«list.sort» ⟨[.ref h1.objs.size],[(Str.ofString "key",.ref (wd.ρ lf))]⟩) _ _ _);rw[ksk_t1];refine a_ (MN hc hr.in2 ZG (Ek p2) (.refl _) T H1 G (aQ [_,_] (.c 1 (.v 0) (.n 2) (.e 1 (.v 1) (.v 0) .nil)) 0 (.v 1) (.n 2) tt h2 Ar) (Ca I p1)) (λfin s2 x=>?_) λ_ _ x=>x;refine xb x λCz U8 U9 kv f n' x1 x2 x3 x4 x5 x6=>?_;rw[Cz];refine⟨_,rfl,aj ⟨_,rfl,?_⟩⟩;have:∃h,h.Perm xs/\aE CE h f:=x5.elim (λq=>q▸⟨I,p1,p2⟩) λq=>q▸⟨I.reverse,(List.reverse_perm I).trans p1,p2.reverse⟩;refine bx this λh q1 q2=>?_;have R3:bU g F d (U8.push h1.objs.size) {U9 with mem:=U9.mem++[.list (h.map .str)]} s2:=x2.own1 x3 x4 ⟨f,n',rfl,Ek q2⟩ p;exact az _ (.loc U9.mem.length) _ (x1.trans (Wd.aT _ _)) R3 x2.pushed (x6 h q1)
end
section
theorem bU.ZH{σ:St}{s':Shared}(R:bU g F d wd σ s){l:Nat}{o':O}{HE:Obj}(Z:l<wd.n)(hk:∀b o,b≠wd.ρ l->s.heap.get? b=some o->s'.heap.get? b=some o)(K:s'.heap.get? (wd.ρ l)=some HE)(ho:OR g wd o' HE)(h1:s'.gens=s.gens:=by rfl) (h2:s'.os=s.os:=by rfl):bU g F d wd {σ with mem:=σ.mem.set l o'} s':=by
 refine bx (R.loc) λm hn hm=>?_;refine⟨⟨by rw[dS];exact R.mem.len,λa o e=>hk a o (λq=>?_) (R.mem.rF a o e),R.mem.base,λHH o e=>?_,R.mem.low,R.mem.inj,R.mem.new,R.mem.tabs⟩,⟨m,?_,hm⟩,R.ix,R.pv,R.kR,h1.trans R.gens,h2.trans R.os⟩
 ·rw[q,R.mem.new l Z] at e;exact nS e
 ·by_cases Y:HH=l
  ·rw[Y,fF (by rw[<-R.mem.len];exact Z)] at e;rw[Y,<-aq e];exact⟨HE,K,ho⟩
  ·rw[c6 (bM Y)] at e;refine jy (R.get e) λh1 ob h3 h4=>?_;exact⟨ob,hk _ _ (λq=>Y (R.mem.inj _ _ h1 Z q)) h3,h4⟩
 ·refine jb hn λo es ep h1 h2 h3=>?_;exact⟨o,es,ep,hk _ _ (bM (R.kR l Z)) h1,h2,h3⟩
def MW(vs:List V):ad V:=Id vs λa b c σ Q=>aA a.iv λa=>aA b.iv λb=>aA c.iv λc=>gd (!(c==0)&& !(Builtin.divisionGoesByPylong (b-a) c)) (jR (.rng a b c) σ Q)
theorem CJ:cz g k (.type "range") MW:=by intro F d A af vs us hr D s wd σ Q Z R J;refine Uo D J λa b c x y z e ha hb hc J=>ah J λi ea J=>ah J λb' eb J=>ah J λc' ec J=>xA (aL J) λh1 J=>xA ((aM _ _).mp h1) λh1 h2=>xE (VR.int ea ha) λt ex=>xE (VR.int eb hb) λu ey=>xE (VR.int ec hc) λv ez=>?_;rw[e,ex,ey,ez];refine call_range_3 (by simpa using h1) ?_ (.inl (by simpa using h2));exact az _ (.loc σ.mem.length) _ (Wd.aT _ _) (R.cE (o:=.rng _ _ _) ⟨t,u,v,rfl⟩) R.pushed J
noncomputable def mJ(a c:Int)(n:Nat):List V:=(List.range n).map λ(i:Nat)=>.int (a+((i:Nat):Int)*c)
def Jc(vs:List V):ad V:=kG vs λv σ Q=>aA (oY v) λl=>aA (zM σ.mem[l]?) λp=>
 gd (Builtin.Range.small p.1 p.2.1 p.2.2&&decide (0<=Builtin.Range.rangeSize p.1 p.2.1 p.2.2)&&decide (Builtin.Range.rangeSize p.1 p.2.1 p.2.2<=1000)) (jR (.list (mJ p.1 p.2.2 (Builtin.Range.rangeSize p.1 p.2.1 p.2.2).toNat)) σ Q)
theorem Jd{w:Wd}(n:Nat):∀(us:List Value)(j:Nat),us.length=n->(∀(i:Nat)(v:Value),us[i]?=some v->VR w (f (j+i)) v)->aE (VR w) ((List.range n).map λi=>f (j+i)) us:=by
 induction n with
 |zero=>intro us j Z _;rw[List.length_eq_zero_iff.mp Z];exact .nil
 |succ n T=>
  intro us j Z h;cases us with
  |nil=>exact nomatch Z
  |cons u r=>rw[List.range_succ_eq_map,cy,h_];have:=T r (j+1) (fU Z) λi v e=>Nat.succ_add_eq_add_succ j i▸h (i+1) v e;refine .cons (h 0 u rfl) ((io λi _=>?_)▸this);exact ag f (Nat.succ_add_eq_add_succ j i)
theorem wN{w:Wd}{n:Nat}(Z:us.length=n)(h:∀(i:Nat)(v:Value),us[i]?=some v->VR w (f i) v):aE (VR w) ((List.range n).map f) us:=by have:=Jd n us 0 Z λi v e=>(eQ i).symm▸h i v e;rwa[io λi _=>ag f (eQ i)] at this
theorem AI:cz g k (.type "list") Jc:=by
 intro F d A af vs us hr D s wd σ Q Z R J;refine qr D J λv u e hv J=>ah J λl r J=>ah J λp ep J=>xA (aL J) λh1 J=>xA ((aM _ _).mp h1) λh1 h3=>xA ((aM _ _).mp h1) λh1 h2=>w_ (R.get (eZ O.BK ep)) λ_ ob Y t u' f P=>?_;have h2:=ip h2;have h3:=ip h3;rw[P] at Y;rw[e,(VR.ref r (VR.mono Z hv)).2];refine call_list_range hr.handled Y h1 (Int.toNat_of_nonneg h2).symm (by omega) λh' tk Vc c' hk G hI=>?_;have hvs:aE (VR (wd.push s.heap.objs.size)) (mJ p.1 p.2.2 (Builtin.Range.rangeSize p.1 p.2.1 p.2.2).toNat) Vc.toList:=
  wN ((gi).trans hI.1) λi v e=>hI.2 i v (by rw[<-Array.getElem?_toList];exact e)
 have R':=R.alloc (o:=.list (mJ p.1 p.2.2 (Builtin.Range.rangeSize p.1 p.2.1 p.2.2).toNat)) (s':={s with heap:=h',toks:=tk}) hk (c5 _) G ⟨Vc.toList,c',by simp[aG],hvs⟩ R.g6;exact az _ (.loc σ.mem.length) _ (Wd.aT _ _) R' R.pushed J
theorem va{n:Nat}{P:PySem.Fin->Shared->Prop}(ho:s.heap.get? a=some (aG "list" us n))(h2:us.length<2)(h:∀h' n',(∀b o,b≠a->s.heap.get? b=some o->h'.get? b=some o)->h'.get? a=some (aG "list" us n')->P (.done (.ret .none)) {s with heap:=h'}):wpAny (model prog w) A (Builtin.«list.sort» ⟨[.ref a],[]⟩) P E s:=by
 rw[list_sort_plain];have ha:=bT ho;have hz:us.toArray.size<=sizeLine:=by rw[aZ,dj];exact aQ [_] (.c 1 (.a (.v 0) (.n 1)) (.n 2) .nil) 0 (.v 0) (.n 16777216) tt h2
 refine U (listItems_at ho rfl ?_);refine U (i8 ho rfl ?_ hz (aW _));have UY:=get?_update_seq ho (λ_=>#[]);refine U (seqEpoch_at UY rfl ?_);refine U (wpAny_newTuple ?_ (by rw[dj];show us.toArray.toList.length<=_;rw[List.toList_toArray];exact aQ [_] (.c 1 (.a (.v 0) (.n 1)) (.n 2) .nil) 0 (.v 0) (.n 16777216) tt h2));refine U (wpAny_newList ?_ (aW _));refine bq ?_;have hk:∀b o,b≠a->s.heap.get? b=some o->(((s.heap.update a (Obj.mapSeq λ_=>#[])).push (aG "tuple" us 0)).push (aG "list" [] 0)).get? b=some o:=λb o hb e=>
  bf _ (bf _ ((lN _ _ (bM hb)).trans e))
 have XS:(((s.heap.update a (Obj.mapSeq λ_=>#[])).push (aG "tuple" us 0)).push (aG "list" [] 0)).get? a=some (aG "list" [] _):=bf _ (bf _ UY);have H:∃h6,h6=((s.heap.update a (Obj.mapSeq λ_=>#[])).push (aG "tuple" us 0)).push (aG "list" [] 0):=⟨_,rfl⟩;refine xE H λh6 L=>?_;rw[<-L] at hk XS;refine(?_ :wpAny (model prog w) A _ P E {s with heap:=((s.heap.update a (Obj.mapSeq λ_=>#[])).push (aG "tuple" us 0)).push (aG "list" [] 0)});rw[<-L];dsimp only;have D:us.toArray.size<2:=by rw[aZ];exact h2
 rw[a6 D,a6 D];refine U (aj ?_);rw[StateT.run_pure];refine U (aj ?_);dsimp only;refine U (seqEpoch_at XS rfl ?_);have hm:(arrOf (SortSt.mk' general' (us.toArray.zip us.toArray) #[] 7 none)).map (·.2)=us.toArray:=by refine(?_ :(us.toArray.zip us.toArray).map (·.2)=us.toArray);apply Array.toList_inj.mp;rw[Array.toList_map,Array.toList_zip,List.map_snd_zip];simp
 rw[hm];refine U (i8 XS rfl ?_ (aW _) (iq hz));simp only[bne_self_eq_false,jv,if_false];refine aj (h _ _ (λb o hb e=>(lN _ _ (bM hb)).trans (hk b o hb e)) (get?_update_seq XS (λ_=>us.toArray)))
def Rk(vs:List V):ad V:=kG vs λa σ Q=>aA (dC σ.mem a) λp=>gd (Nat.blt p.2.length 2) (Q .none σ)
theorem GE:cz g k (.builtin "list.sort") Rk:=by intro F d A af vs us hr D s wd σ Q Z R J;refine qr D J λa u e ha J=>ah J λp e1 J=>xA (aL J) λh1 Ca=>aI e1 λl r e1=>aI e1 λxs ex e1=>R.lst ex λI n dP ho dL=>?_;rw[<-aq e1] at h1;rw[e,(VR.ref r (VR.mono Z ha)).2];refine i5 slot_list_sort ⟨_,ho,rfl⟩ entry_list_sort (va ho (by rw[<-dL.len];exact aU h1) λh' n' hk k6=>?_) (by unfold argsOk;kernel_rfl);have R':bU g F d wd {σ with mem:=σ.mem.set l (.list xs)} {s with heap:=h'}:=R.ZH dP hk k6 ⟨I,n',rfl,dL⟩;rw[xH (eZ O.ue ex)] at R';exact⟨_,rfl,wd,.none,σ,.refl _,R',rfl,Ca⟩
end
end
section
variable {C a f:Addr}{d:g_}{F:df}{g:G}{ds:List DictEntry}{fX:List Nat}{args es ifs ts:List PySem.Expr}{b:List Stmt}{cells gs names ns xs:List Str}{ck:NameKind}{k nn:Nat}{op:Operator}{P:Params}{ap p tg:Pos}{e oR iter l o r t target rD value:PySem.Expr}{wa:ad (List V)}{Wt:ad Bool}{Wb:ad Fl}{W We Wi Wo Wv wb:ad V}{s:Shared}{x y:Str}{i:String}{As:V->ad Unit}{v:Value}
noncomputable def bR(K:Frag)(f:Addr):FuncData:=match K.lookup f with
 |some ⟨_,_,.func fd,_⟩=>fd
 |_=>default
noncomputable def bh(K:Frag)(f:Addr):List Stmt:=match (bR K f).body with
 | .stmts b=>b
 |_=>[]
noncomputable def fb(K:Frag)(f:Addr)(names cells:List Str):df:={qual:=(bR K f).qualname++".<locals>.",cd:=(bR K f).code,scope:=(bR K f).scope,names:=names,cells:=cells}
noncomputable def mK:List Str->Bool
 | []=>true
 |x::r=>!(dN x r)&&mK r
theorem ma(h:mK xs=true):xs.Nodup:=by
 induction xs with
 |nil=>exact List.nodup_nil
 |cons x r T=>exact xA ((aM _ _).mp h) λh1 h2=>List.nodup_cons.mpr ⟨u7 (by simpa using h1),T h2⟩
noncomputable def vb(F:df)(gs:List Str)(ck:NameKind):Bool:=decide (F.scope.kind= .function)&&mK F.names&&mK F.cells&&
 F.names.all (λx=>decide (F.scope.names.lookup x=some .local)&& !(d3 x "__debug__"))&&
 gs.all (λx=>decide (F.scope.names.lookup x=some .globalImplicit)&& !(d3 x "__debug__"))&&
 F.cells.all (λx=>decide (F.scope.names.lookup x=some ck)&& !(d3 x "__debug__")&& !(d3 x "__classdict__"))
structure cc(F:df)(gs:List Str)(ck:NameKind):Prop where
 kind:F.scope.kind= .function
 nd:F.names.Nodup
 ZI:F.cells.Nodup
 loc:∀{x},x∈F.names->F.scope.names.lookup x=some .local/\(x==("__debug__":Str))=false
 glob:∀{x},x∈gs->F.scope.names.lookup x=some .globalImplicit/\(x==("__debug__":Str))=false
 cell:∀{x},x∈F.cells->F.scope.names.lookup x=some ck/\(x==("__debug__":Str))=false/\(x==("__classdict__":Str))=false
theorem ik(h:vb F gs ck=true):cc F gs ck:=by
 unfold vb at h;simp only[aM,decide_eq_true_eq,i7,gQ] at h;refine xA h λh h6=>xA h λh h5=>xA h λh h4=>xA h λh h3=>xA h λh1 h2=>⟨h1,ma h2,ma h3,λB=>?_,λB=>?_,λB=>?_⟩
 ·rw[jT];exact h4 _ B
 ·rw[jT];exact h5 _ B
 ·rw[jT,jT];exact⟨(h6 _ B).1.1,(h6 _ B).1.2,(h6 _ B).2⟩
noncomputable def Vd(i:String)(v:Value):Bool:=match v with
 | .builtin a=>a==i
 |_=>false
theorem Je(h:Vd i v=true):v= .builtin i:=by cases v<;>first|exact nB h|exact ag _ (eq_of_beq h)
noncomputable def ZJ(x:Option (Option Value))(i:String):Bool:=x.any λo=>o.any (Vd i)
noncomputable def Rm(x:Option (Option Value)):Bool:=x.any Option.isNone
theorem El{x:Option (Option Value)}(h:ZJ x i=true):x=some (some (.builtin i)):=bx (fi h) λo e h=>bx (fi h) λv e2 h=>by rw[e,e2,Je h]
theorem AJ{x:Option (Option Value)}(h:Rm x=true):x=some none:=bx (fi h) λo e h=>by rw[e,Option.isNone_iff_eq_none.mp h]
noncomputable def Jf(K:Frag)(C:Addr)(ns:List Str):Bool:=ZJ (findIn K (.ref C) "__getattribute__") "object.__getattribute__"&&Rm (findIn K (.ref C) "__getattr__")&&ZJ (findIn K (.ref C) "__setattr__") "object.__setattr__"&&plainOver K C&&hasDictIn K C&&ns.all λn=>Rm (findIn K (.ref C) n)
structure vc(K:Frag)(C:Addr)(ns:List Str):Prop where
 cls:rI K C
 name:∀{n},n∈ns->NameK K C n
theorem OU{K:Frag}(h:Jf K C ns=true):vc K C ns:=by unfold Jf at h;simp only[aM,i7] at h;exact xA h λh h6=>xA h λh h5=>xA h λh h4=>xA h λh h3=>xA h λh1 h2=>⟨⟨El h1,AJ h2,El h3,h4,h5⟩,λhn=>⟨none,AJ (h6 _ hn),λf e=>nS e⟩⟩
structure NE(g:G)(F:df)(k:Nat)(e:PySem.Expr)(W:ad V):Prop where
 run:be g F k e W
structure NT(g:G)(F:df)(k:Nat)(e:PySem.Expr)(W:ad Bool):Prop where
 run:qe g F k e W
structure NS(g:G)(F:df)(k:Nat)(st:Stmt)(W:ad Fl):Prop where
 run:iT g F k st W
structure NB(g:G)(F:df)(k:Nat)(b:List Stmt)(W:ad Fl):Prop where
 run:kT g F k b W
structure NL(g:G)(F:df)(k:Nat)(es:List PySem.Expr)(W:ad (List V)):Prop where
 run:rG g F k es W
structure NA(g:G)(F:df)(k:Nat)(t:PySem.Expr)(W:V->ad Unit):Prop where
 run:qq g F k t W
structure Ve(g:G)(F:df)(k:Nat)(ts:List PySem.Expr)(W:List V->ad Unit):Prop where
 run:sM g F k ts W
structure NP(g:G)(F:df)(k:Nat)(e:Option PySem.Expr)(W:ad V):Prop where
 run:Ih g F k e W
structure NJ(g:G)(F:df)(k:Nat)(es:List PySem.Expr)(W:Str->ad Str):Prop where
 run:Ix g F k es W
structure CK(g:G)(F:df)(k:Nat)(op:BoolOp)(es:List PySem.Expr)(W:ad Bool):Prop where
 run:nw g F k op es W
structure GF(g:G)(F:df)(k:Nat)(es:List PySem.Expr)(W:ad Bool):Prop where
 run:lD g F k es W
structure ZK(g:G)(F:df)(k:Nat)(ts:List PySem.Expr)(W:V->ad Unit):Prop where
 run:D7 g F k ts W
structure Vf(g:G)(F:df)(k:Nat)(pos:Pos)(ps:List (PySem.Expr×PySem.Expr))(W:ad (List (Str×V))):Prop where
 run:Am g F k pos ps W
section
variable {α β γ:Type}
def OV(f:α->ad β)(Q:β->St->Prop)(a:α)(σ:St):Prop:=f a σ Q
def ao(W:ad α)(f:α->ad β):ad β:=λσ Q=>W σ (OV f Q)
def c8(b:β):ad β:=λσ Q=>Q b σ
def Rn(W W':ad β)(b:Bool):ad β:=λσ Q=>br b (W σ Q) (W' σ Q)
def XT(c:St->Bool)(W:ad β):ad β:=λσ Q=>gd (c σ) (W σ Q)
def Vg(b:Bool):ad V:=λσ Q=>Q (.bool b) σ
def ZL(b:Bool):ad Bool:=λσ Q=>Q (!b) σ
def k_(_:α):ad Fl:=λσ Q=>Q .next σ
def vd(v:V):ad Fl:=λσ Q=>Q (.ret v) σ
def iV(v:V)(vs:List V):ad (List V):=λσ Q=>Q (v::vs) σ
def wO(W:List V->ad V)(v:V)(vs:List V):ad V:=λσ Q=>W (v::vs) σ Q
def sW(i:Nat)(v:V):ad Fl:=λσ Q=>Q .next (σ.nf i v)
def du(i:Nat)(v:V):ad Unit:=λσ Q=>Q () (σ.nf i v)
def pe(_:α):ad Unit:=λσ Q=>Q () σ
def vV(W:V->ad Unit)(W':List V->ad Unit)(vs:List V):ad Unit:=λσ Q=>zL vs λv r=>W v σ (sI (W' r) Q)
def ve(n:Nat)(W:List V->ad Unit)(v:V):ad Unit:=λσ Q=>aA (up σ.mem v) λxs=>gd (Nat.beq xs.length n) (W xs σ Q)
def Vh(C:Addr)(n:Str)(b:V)(W:ad β):ad β:=λσ Q=>aA (d4 C σ.mem b) λp=>gd (eK n p.2).isNone (W σ Q)
def Ro(v:V):ad V:=λσ Q=>te v λx=>gd (bw x.length) (Q (.str x) σ)
def TK(W':Str->ad Str)(bV:Str)(v:V):ad Str:=λσ Q=>te v λy=>gd (bw (bV.length+y.length)) (W' (bV++y) σ Q)
def Vi(x:Str):ad V:=λσ Q=>gd (bw x.length) (Q (.str x) σ)
def Jg(Wt:ad Bool)(Wb:ad Fl):ad Fl:=λσ Q=>∃n,mv Wt Wb n σ Q
def MX(a:V):ad Fl:=λσ Q=>aA (dC σ.mem a) λq=>gd (bw q.2.length) (Q .next {σ with mem:=σ.mem.set q.1 (.list [])})
def ZM(As:V->ad Unit)(Wb:ad Fl)(v:V):ad Fl:=λσ Q=>aA (oY v) λl=>∃n,gr (bj l) As Wb n 0 σ Q
def Jh(As:V->ad Unit)(Wb:ad Fl)(v:V):ad Fl:=λσ Q=>aA (oY v) λl=>aA (zM σ.mem[l]?) λp=>gd (Builtin.Range.small p.1 p.2.1 p.2.2) (∃n,gr (gB p.1 p.2.1 p.2.2) As Wb n 0 σ Q)
def Vj(f:Addr)(W:List V->ad V)(As:V->ad Unit)(Wb:ad Fl)(v:V):ad Fl:=λσ Q=>aA (oY v) λl=>gd (mH σ.mem l) (∃n,uY (iD f W l) l As Wb n σ Q)
def Ji(n:Nat)(W:List V->ad Unit)(r:List V):ad Unit:=λσ Q=>gd (Nat.beq r.length n) (W r σ Q)
def Vk(As:List V->ad Unit)(Wb:ad Fl)(v:V):ad Fl:=λσ Q=>aA (oY v) λl=>∃n,gr (eX l) As Wb n 0 σ Q
end
section
theorem cU{i:Nat}(h:xs[i]?=some x):x∈xs:=ef h
theorem NB.at{K:Frag}{W:ad Fl}{s:Stmt}{r:List Stmt}(e:bh K f=s::r)(h:NB g F k (s::r) W):NB g F k (bh K f) W:=e▸h
theorem NB.conv{W W':ad Fl}(h:NB g F k b W)(J:∀σ Q,W' σ Q->W σ Q):kT g F k b W':=λd A af hr=>bb.conv (h.run d A af hr) J
theorem ai(H:cc F gs ck)(i:Nat){pos:Pos}(B:F.names[i]?=some x):NE g F k (.Name x pos) (dX i):=⟨Ys i B H.kind (λ_=>(H.loc (cU B)).1) (H.loc (cU B)).2⟩
theorem Vl(H:cc F gs ck)(i:Nat){pos:Pos}(B:gs[i]?=some x)(e:g.mg x=some v):NE g F k (.Name x pos) (eH (.e_ v)):=⟨T_ e H.kind (λ_=>(H.glob (cU B)).1) (H.glob (cU B)).2⟩
theorem Jj(H:cc F gs ck)(i:Nat){n:Int}{t:Tok}{pos:Pos}(B:gs[i]?=some x)(e:g.mg x=some (.int n t)):NE g F k (.Name x pos) (eH (.int n)):=⟨HJ e H.kind (λ_=>(H.glob (cU B)).1) (H.glob (cU B)).2⟩
theorem Rp(H:cc F gs ck)(i:Nat){pos:Pos}(B:gs[i]?=some x)(e:g.mg x=none)(hv:bootBuiltins x=some v)(hn:x≠"__name__"):NE g F k (.Name x pos) (eH (.e_ v)):=⟨PU e hv hn H.kind (λ_=>(H.glob (cU B)).1) (H.glob (cU B)).2⟩
theorem dw(H:cc F gs .cell)(i:Nat){pos:Pos}(B:F.cells[i]?=some x):NE g F k (.Name x pos) (uf i):=⟨HK i B H.kind (λ_=>(H.cell (cU B)).1) (H.cell (cU B)).2.1⟩
theorem xP(H:cc F gs .free)(i:Nat){pos:Pos}(B:F.cells[i]?=some x):NE g F k (.Name x pos) (uf i):=⟨FG i B H.kind (λ_=>(H.cell (cU B)).1) (H.cell (cU B)).2.1 (H.cell (cU B)).2.2⟩
theorem bv{i:Int}{n:Nat}{pos:Pos}:NE g F k (.Constant (.int i) n pos) (eH (.int i)):=⟨Yt⟩
theorem bz{n:Nat}{pos:Pos}:NE g F k (.Constant (.str x) n pos) (eH (.str x)):=⟨Yu⟩
theorem ie{n:Nat}{pos:Pos}:NE g F k (.Constant .none n pos) (eH .none):=⟨T8⟩
theorem Em{b:Bool}{n:Nat}{pos:Pos}:NE g F k (.Constant (.bool b) n pos) (eH (.bool b)):=⟨T9⟩
theorem GG{i:Int}{n:Nat}{q:Pos}:NE g F k (.UnaryOp .USub (.Constant (.int i) n p) q) (eH (.int (-i))):=⟨Yx⟩
theorem rX:NE g F k e uk:=⟨P8⟩
theorem fk:NB g F k b uk:=⟨P_⟩
theorem rY:NT g F k e uk:=⟨P9⟩
theorem cY{pos:Pos}{wa:ad V}{W:V->V->ad V}(ho:xf g op W)(ha:NE g F k l wa)(hb:NE g F k r wb):NE g F k (.BinOp l op r pos) (ao wa λa=>ao wb (W a)):=⟨Yv ho ha.run hb.run⟩
theorem Vm{op:CmpOp}{pos:Pos}{wa:ad V}{W:V->V->ad Bool}(ho:kC g op W)(ha:NE g F k l wa)(hb:NE g F k r wb)(hm:behindInMarks op r=false):NE g F k (.Compare l [op] [r] pos) (ao wa λa=>ao wb λb=>ao (W a b) Vg):=⟨Yy ho ha.run hb.run hm⟩
theorem iG{body c:PySem.Expr}{pos:Pos}{W':ad V}(ht:NT g F k rD Wt)(h:NE g F k body W)(h':NE g F k c W'):NE g F k (.IfExp rD body c pos) (ao Wt (Rn W W')):=⟨P0 ht.run h.run h'.run⟩
theorem MY{x y:PySem.Expr}{pos:Pos}{Wx Wy:ad V}(B:NE g F k x Wx)(hy:NE g F k y Wy):NE g F k (.BoolOp .Or [x,y] pos) (ao Wx λv=>ao (nr v) (Rn (c8 v) Wy)):=⟨YN B.run hy.run⟩
theorem ay:NL g F k [] (c8 []):=⟨HU⟩
theorem ae{W':ad (List V)}(h:NE g F k e W)(h':NL g F k es W')(he:∀bc,starEach (e::es) bc=(false,eval e bc)::starEach es bc:=by intro _;rfl):NL g F k (e::es) (ao W λv=>ao W' (iV v)):=⟨BR h.run h'.run he⟩
theorem eD{pos:Pos}{W:ad (List V)}(h:NL g F k es W):NE g F k (.List es pos) (ao W ui):=⟨Ud h.run⟩
theorem ng{n:Nat}{pos:Pos}{W:ad (List V)}(h:NL g F k es W):NE g F k (.Tuple es n pos) (ao W oM):=⟨Yz h.run⟩
theorem CL{pos:Pos}:NE g F k (.Dict [] [] pos) (jR (.dict [])):=⟨Qz⟩
theorem eM{b:PySem.Expr}{pos:Pos}{wa h:ad V}(ha:NE g F k value wa)(hi:NE g F k b h)(hp:nx b=true:=by rfl):NE g F k (.Subscript value b pos) (ao wa λa=>ao h (sF a)):=⟨YA ha.run hi.run hp⟩
theorem MZ{b:PySem.Expr}{pos:Pos}{wa h:ad V}(ha:NE g F k value wa)(hi:NE g F k b h)(hp:nx b=true:=by rfl):NE g F k (.Subscript value b pos) (ao wa λa=>ao h (Uy a)):=⟨YK ha.run hi.run hp⟩
theorem iH:NP g F k none (eH .none):=⟨Qp⟩
theorem gI(h:NE g F k e W):NP g F k (some e) W:=⟨Qq h.run⟩
theorem iI{lower sO:Option PySem.Expr}{pos:Pos}{wa wl wu:ad V}(ha:NE g F k value wa)(m:NP g F k lower wl)(Ur:NP g F k sO wu):NE g F k (.Subscript value (.Slice lower sO none p) pos) (ao wa λa=>ao wl λlo=>ao wu (Ii a lo)):=⟨Qr ha.run m.run Ur.run⟩
theorem GH{st:PySem.Expr}{pos:Pos}{wa:ad V}(ha:NE g F k value wa)(T:NE g F k st (eH (.int (-1)))):NE g F k (.Subscript value (.Slice none none (some st) p) pos) (ao wa Qs):=⟨FZ ha.run T.run⟩
theorem dy(OC:vc g.K C ns)(i:Nat){n:Str}{pos:Pos}(hn:ns[i]?=some n)(h:NE g F k o W)(he:∀bc,eval (.Attribute o n pos) bc=(do
  let o' <-eval o bc
  standAt pos.atName
  let r <-holding [o'] (getAttr o' n true)
  letTemporaryGo o o' r
  Pure.pure r):=by intro _;with_unfolding_all rfl):NE g F k (.Attribute o n pos) (ao W (zD C n)):=⟨Uh h.run rfl OC.cls (OC.name (cU hn)) he⟩
theorem cj(OC:vc g.K C ns)(i:Nat){n:Str}{pos:Pos}(hn:ns[i]?=some n)(hv:NE g F k e Wv)(ho:NE g F k o Wo)(M:∀d,swapsWith e (some (.Attribute o n p)) pos.line (aK F d)=Pure.pure false:=by intro _;rfl):NS g F k (.Assign [.Attribute o n p] e pos) (ao Wv λv=>ao Wo λa=>ao (FP C n a v) k_):=⟨zE hv.run ho.run rfl OC.cls (OC.name (cU hn)) M⟩
theorem vf(OC:vc g.K C ns)(i:Nat){n:Str}{pos:Pos}{W:V->V->ad V}(LI:sH g op W)(hn:ns[i]?=some n)(ho:NE g F k o Wo)(he:NE g F k e We):NS g F k (.AugAssign (.Attribute o n p) op e pos) (ao Wo λa=>ao (zD C n a) λz=>ao We λv=>ao (W z v) λr=>ao (FP C n a r) k_):=⟨H7 LI ho.run he.run rfl OC.cls (OC.name (cU hn))⟩
theorem b7{pos:Pos}{f:Value}{W:List V->ad V}(N:∀M h,g.K.In h->jH M h f)(hc:cz g k f W)(S:NE g F k (.Name x p) (eH (.e_ f)))(ha:NL g F k args wa)(i:∀bc pos,((backTo pos (starEach args bc)).any (·.1))=false:=by intro _ _;rfl):NE g F k (.Call (.Name x p) args [] pos) (ao wa W):=⟨Ui S.run ha.run N hc i⟩
theorem En{kw:Str}{pos kp:Pos}{i c:PySem.Expr}{f:Value}{wa:ad V}{W:V->V->ad V}(N:∀M h,g.K.In h->jH M h f)(hc:u8 g k f kw W)(S:NE g F k (.Name x p) (eH (.e_ f)))(ha:NE g F k i wa)(hb:NE g F k c wb)(T:∀bc,starEach [i] bc=(false,eval i bc)::starEach [] bc):NE g F k (.Call (.Name x p) [i] [⟨some kw,c,kp⟩] pos) (ao wa λa=>ao wb (W a)):=⟨MR S.run ha.run hb.run N hc T⟩
theorem bZ{n:Str}{pos:Pos}{W:List V->ad V}(T:Ty){id:String}(f:PlainAttrs T.name)(nG:Slot T.name n id)(YE:typeOf (.builtin id)=Pure.pure (.type "method_descriptor"))(hc:cz g k (.builtin id) W)(ho:NE g F k o Wo) (ha:NL g F k args wa) (l:fQ o n ap args pos:=by intro _;exact⟨_,rfl⟩) (i:∀bc pos,((backTo pos (starEach args bc)).any (·.1))=false:=by intro _ _;rfl):NE g F k (.Call (.Attribute o n ap) args [] pos) (ao Wo λb=>XT (λσ=>v6 σ.mem b T) (ao wa (wO W b))):=⟨Qh T ho.run ha.run f nG YE hc l i⟩
theorem Rq{n:Str}{pos:Pos}{W:List V->ad V}(HC:rI g.K C)(S:findIn g.K (.ref C) n=some (some (.ref f)))(Uj:typeIn g.K (.ref f)=some (.type "function"))(Uk:keepIn g.K (.ref f)=true)(hc:cz g k (.ref f) W)(ho:NE g F k o Wo) (ha:NL g F k args wa) (l:fQ o n ap args pos) (i:∀bc pos,((backTo pos (starEach args bc)).any (·.1))=false):NE g F k (.Call (.Attribute o n ap) args [] pos) (ao Wo λb=>Vh C n b (ao wa (wO W b))):=⟨Qi C ho.run ha.run rfl HC S Uj Uk hc l i⟩
theorem mc{pos:Pos}{wf:ad V}{W:V->List V->ad V}(hc:gc g k W)(S:NE g F k (.Name x p) wf)(ha:NL g F k args wa)(i:∀bc pos,((backTo pos (starEach args bc)).any (·.1))=false:=by intro _ _;rfl):NE g F k (.Call (.Name x p) args [] pos) (ao wf λv=>ao wa (W v)):=⟨Gd S.run ha.run hc i⟩
theorem md{n:Str}{pos:Pos}{W:V->List V->ad V}(HC:rI g.K C)(q:wC g.K C n)(hc:gc g k W)(ho:NE g F k o Wo)(ha:NL g F k args wa)(l:fQ o n ap args pos:=by intro _;exact⟨_,rfl⟩) (i:∀bc pos,((backTo pos (starEach args bc)).any (·.1))=false:=by intro _ _;rfl):NE g F k (.Call (.Attribute o n ap) args [] pos) (ao Wo λb=>ao (zD C n b) λt=>ao wa (W t)):=⟨Ge ho.run ha.run rfl HC q hc l i⟩
theorem CM{pos:Pos}(h:NE g F k e W):NE g F k (.FormattedValue e (-1) none pos) (ao W Ro):=⟨YL h.run⟩
theorem Eo:NJ g F k [] c8:=⟨UA⟩
theorem iJ{W':Str->ad Str}(h:NE g F k e W)(h':NJ g F k es W')(he:∀bc,evalEach (e::es) bc=eval e bc::evalEach es bc:=by intro _;rfl):NJ g F k (e::es) (λbV=>ao W (TK W' bV)):=⟨QD h.run h'.run he⟩
theorem tQ{i c:PySem.Expr}{pos:Pos}{W:Str->ad Str}(h:NJ g F k (i::c::es) W):NE g F k (.JoinedStr (i::c::es) pos) (ao (W Str.empty) Vi):=⟨Mr h.run⟩
theorem a7(h:NE g F k e W)(hv:∀bc b,PySem.isTrue e bc b=(do let v <-b;standAt e.pos;holding [v] (truthy v)):=by intro _ _;rfl):NT g F k e (ao W nr):=⟨HP h.run hv⟩
theorem GI(h:NE g F k e W)(hv:∀bc b,PySem.isTrue e bc b=(do let v <-b;standAt e.pos;holding [v] (truthy v))):NT g F k e (ao W D5):=⟨F5 h.run hv⟩
theorem nR{pos:Pos}{W:ad Bool}(h:NT g F k e W):NT g F k (.UnaryOp .Not e pos) (ao W ZL):=⟨HQ h.run⟩
theorem aN{op:CmpOp}{pos:Pos}{wa:ad V}{W:V->V->ad Bool}(ho:kC g op W)(ha:NE g F k l wa)(hb:NE g F k r wb)(hm:behindInMarks op r=false:=by with_unfolding_all rfl):NT g F k (.Compare l [op] [r] pos) (ao wa λa=>ao wb (W a)):=⟨HS ho ha.run hb.run hm⟩
theorem gD:CK g F k .And [] (c8 true):=⟨LZ⟩
theorem rZ:CK g F k .Or [] (c8 false):=⟨PZ⟩
theorem bN{W W':ad Bool}(h:NT g F k e W)(h':CK g F k .And es W'):CK g F k .And (e::es) (ao W (Rn W' (c8 false))):=⟨HR h.run h'.run⟩
theorem g9{W W':ad Bool}(h:NT g F k e W)(h':CK g F k .Or es W'):CK g F k .Or (e::es) (ao W (Rn (c8 true) W')):=⟨L1 h.run h'.run⟩
theorem cG{op:BoolOp}{pos:Pos}{W:ad Bool}(h:CK g F k op es W):NT g F k (.BoolOp op es pos) W:=⟨FM h.run⟩
theorem aC:NB g F k [] (c8 .next):=⟨Ue⟩
theorem ab{st:Stmt}{aD:List Stmt}{W W':ad Fl}(h:NS g F k st W)(h':NB g F k aD W'):NB g F k (st::aD) (aV W W'):=⟨P7 h.run h'.run⟩
theorem aP(H:cc F gs ck)(i:Nat){pos:Pos}(B:F.names[i]?=some x)(h:NE g F k e W)(M:∀d,swapsWith e (some (.Name x p)) pos.line (aK F d)=Pure.pure false:=by intro _;rfl):NS g F k (.Assign [.Name x p] e pos) (ao W (sW i)):=⟨L6 i h.run B H.nd H.kind (λ_=>(H.loc (cU B)).1) M⟩
theorem AK(H:cc F gs ck)(i:Nat){pos:Pos}{Wo:V->V->ad V}(ho:sH g op Wo)(B:F.names[i]?=some x)(h:NE g F k e W):NS g F k (.AugAssign (.Name x p) op e pos) (ao (dX i) λa=>ao W λb=>ao (Wo a b) (sW i)):=⟨YB i ho h.run B H.nd H.kind (λ_=>(H.loc (cU B)).1)⟩
theorem cZ{pos:Pos}(h:NE g F k e W)(hi:∀d,interactive (aK F d)=false:=by intro _;rfl)(M:∀d,swapsWith e none pos.line (aK F d)=Pure.pure false:=by intro _;rfl):NS g F k (.Expr e pos) (ao W k_):=⟨Uf h.run hi M⟩
theorem cP{pos:Pos}(h:NE g F k e W):NS g F k (.Return (some e) pos) (ao W vd):=⟨L7 h.run⟩
theorem AL{pos:Pos}:NS g F k (.Return none pos) (c8 (.ret .none)):=⟨HZ⟩
theorem ii{body c:List Stmt}{pos:Pos}{W W':ad Fl}(ht:NT g F k rD Wt)(h:NB g F k body W)(h':NB g F k c W'):NS g F k (.If rD body c pos) (ao Wt (Rn W W')):=⟨rIf ht.run h.run h'.run⟩
theorem Vn{pos:Pos}:NS g F k (.Continue pos) (c8 .cont):=⟨Ug⟩
theorem xQ{body:List Stmt}{pos:Pos}(ht:NT g F k rD Wt)(hb:NB g F k body Wb):NS g F k (.While rD body [] pos) (Jg Wt Wb):=⟨Qc ht.run hb.run⟩
theorem Vo{body:List Stmt}{Re:ExceptHandler}{M:List ExceptHandler}{pos:Pos}{W:ad Fl}(h:NB g F k body W):NS g F k (.Try body (Re::M) [] [] pos) W:=⟨Zl h.run⟩
theorem Jk{i:PySem.Expr}{pos:Pos}(he:NE g F k e We)(ho:NE g F k o Wo)(hi:NE g F k i Wi)(M:∀d,swapsWith e (some (.Subscript o i p)) pos.line (aK F d)=Pure.pure false):NS g F k (.Assign [.Subscript o i p] e pos) (ao We λv=>ao Wo λa=>ao Wi λj=>ao (l9 a j v) k_):=⟨Iv he.run ho.run hi.run M⟩
theorem vg{i:PySem.Expr}{pos:Pos}{W:V->V->ad V}(LI:sH g op W)(ho:NE g F k o Wo)(hi:NE g F k i Wi)(he:NE g F k e We)(ha:∀b iv new,augStore i b iv new=(do holding [new,b,iv] (setItem b iv new);release [new,b,iv] [];pure .next)):NS g F k (.AugAssign (.Subscript o i p) op e pos) (ao Wo λa=>ao Wi λj=>ao (sF a j) λz=>ao We λv=>ao (W z v) λr=>ao (l9 a j r) k_):=⟨Iw LI ho.run hi.run he.run ha⟩
theorem M2{pos QJ:Pos}(ho:NE g F k o Wo):NS g F k (.Delete [.Subscript o (.Slice none none none p) pos] QJ) (ao Wo MX):=⟨Mv ho.run⟩
theorem b8(H:cc F gs ck)(i:Nat)(B:F.names[i]?=some x):NA g F k (.Name x p) (du i):=⟨BV i B H.nd H.kind λ_=>(H.loc (cU B)).1⟩
theorem lF:Ve g F k [] pe:=⟨Qj⟩
theorem dz{W:V->ad Unit}{W':List V->ad Unit}(h:NA g F k t W)(h':Ve g F k ts W')(he:∀bc,assignEach (t::ts) bc=(false,assign t bc)::assignEach ts bc:=by intro _;rfl):Ve g F k (t::ts) (vV W W'):=⟨Mg h.run h'.run he⟩
theorem qH{n:Nat}{pos:Pos}{W:List V->ad Unit}(h:Ve g F k ts W)(M:∀bc,(assignEach ts bc).findIdx? (·.1)=none:=by intro _;rfl)(cn:∀bc,(assignEach ts bc).length=ts.length:=by intro _;rfl):NA g F k (.Tuple ts n pos) (ve ts.length W):=⟨Um h.run M cn⟩
theorem mf{body:List Stmt}{pos:Pos}(hi:NE g F k iter Wi)(ha:NA g F k target As)(hb:NB g F k body Wb)(z:∀bc v,foldedSetIterable iter bc v=Pure.pure v:=by intro _ _;rfl):NS g F k (.For target iter body [] pos) (ao Wi (ZM As Wb)):=⟨Ic hi.run ha.run hb.run z⟩
theorem r4{body:List Stmt}{pos:Pos}(hi:NE g F k iter Wi)(ha:NA g F k target As)(hb:NB g F k body Wb)(z:∀bc v,foldedSetIterable iter bc v=Pure.pure v):NS g F k (.For target iter body [] pos) (ao Wi (Jh As Wb)):=⟨FU hi.run ha.run hb.run z⟩
theorem vh{W:List V->ad V}(QF:fnIn g.K f=true)(hc:cO g k (.ref f) W){body:List Stmt}{pos:Pos}(hi:NE g F (k+1) iter Wi)(ha:NA g F (k+1) target As)(hb:NB g F (k+1) body Wb)(z:∀bc v,foldedSetIterable iter bc v=Pure.pure v):NS g F (k+1) (.For target iter body [] pos) (ao Wi (Vj f W As Wb)):=⟨IN QF hc hi.run ha.run hb.run z⟩
theorem Jl{a:Pos}{arg:PySem.Expr}{n:Nat}{tp:Pos}{body:List Stmt}{pos:Pos}{wa:ad V}{W:List V->ad Unit}(S:NE g F k (.Name x p) (eH (.e_ (.type "enumerate"))))(he:NE g F k arg wa)(ha:Ve g F k ts W)(hb:NB g F k body Wb)(z:∀bc v,foldedSetIterable (.Call (.Name x p) [arg] [] a) bc v=Pure.pure v) (M:∀bc,(assignEach ts bc).findIdx? (·.1)=none) (cn:∀bc,(assignEach ts bc).length=ts.length)(T:∀bc,starEach [arg] bc=(false,eval arg bc)::starEach [] bc) (i:∀bc pos,((backTo pos (starEach [arg] bc)).any (·.1))=false):NS g F k (.For (.Tuple ts n tp) (.Call (.Name x p) [arg] [] a) body [] pos) (ao wa (Vk (Ji ts.length W) Wb)):=⟨I2 S.run he.run ha.run hb.run z M cn T i⟩
end
section
noncomputable def xR(o:Option O):Option V:=(o.bind O.fl).bind λp=>cond p.1.it (l1 p.2) none
theorem wP{o:Option O}{x:V}(h:xR o=some x):o=some (.bP .bI [x]):=aI h λp e h=>k0 h λh1 h2=>(eZ O.BN e).trans (by rw[FK.PQ h1,xe h2])
def xS(vs:List V):ad V:=kG vs λa σ Q=>aA (oY a) λl=>aA (xR σ.mem[l]?) λx=>aA (sP σ.mem x) λp=>gd (l8 p.2&&Nat.ble p.2.length 1) (match p.2 with
 | []=>jR (.list []) σ Q
 |e::_=>Q (.loc (σ.mem.length+1)) {σ with mem:=(σ.mem++[.tup [.str e.1,e.2]])++[.list [.loc σ.mem.length]]})
theorem tC(x:Value):argsOk "list.sort" ⟨[x],[]⟩:=by unfold argsOk;kernel_rfl
theorem tD:cz g k (.builtin "sorted") xS:=by
 intro F d A af vs us hr D s wd σ Q Z R J;refine qr D J λa u eu ha J=>ah J λl e1 J=>ah J λx e2 J=>ah J λp e3 J=>xA (aL J) λh1 hW5=>xA ((aM _ _).mp h1) λh1 h2=>ua (R.get (wP e2)) λdP ob ho I CN dL=>ur dL λy ey hy=>R.dv hy e3 λds n hyd hld hod H=>xE ((gu (g:=g) hod H h1).dictAt) λep O=>?_;have h2:=aU h2;rw[CN,ey,hyd] at ho;rw[eu,(VR.ref e1 (VR.mono Z ha)).2];generalize p.2=es at *;have M:(jO es ds).length=es.length:=by unfold jO;rw[List.length_zip,ax,ax,H.len];omega
 refine call_function_entry kind_sorted plain_sorted entry_sorted (args_sorted1 _) ?_;unfold Builtin.«sorted»;refine U (m:=checkCount "sorted" 1 1 _) (aj ?_);refine U (kdx_collect (A:=A.in1) (knd:=strKind g.prog g.w) (kvs:=jO es ds) (ep:=ep) hr.handled ⟨_,ho,rfl,rfl⟩ O (by rw[M,dj];exact aQ [_] (.c 1 (.v 0) (.n 1) .nil) 0 (.v 0) (.n 16777216) tt h2) λh' tk as hk P f=>?_);refine U (wpAny_newList ?_ (by rw[ax,P,M,dj];exact aQ [_] (.c 1 (.v 0) (.n 1) .nil) 0 (.v 0) (.n 16777216) tt h2));have R1:bU g F d wd σ {s with heap:=h',toks:=tk}:=R.keeps hk;have G:(h'.push (aG "list" (as.map Value.ref) 0)).get? h'.objs.size=some (aG "list" (as.map Value.ref) 0):=cu _ rfl;refine U (bq (i5 slot_list_sort ⟨_,G,rfl⟩ entry_list_sort (va (A:=A.in1.in1) G (by rw[ax,P,M];exact aQ [_] (.c 1 (.v 0) (.n 1) .nil) 0 (.a (.v 0) (.n 1)) (.n 2) tt h2) λh2 n' YU XU=>?_) (tC _)));have keep:∀b o,h'.get? b=some o->h2.get? b=some o:=λb o e=>YU b o (bL (bT e)) (bf _ e);refine⟨_,rfl,aj ⟨_,rfl,?_⟩⟩;have T:=R1.keeps (s':={s with heap:=h2,toks:=tk}) keep;have HD:=jB.fresh R1 pC;cases es with
 |nil=>cases H;rw[show as=[] from List.length_eq_zero_iff.mp P] at XU;exact az _ (.loc σ.mem.length) _ (Wd.aT _ _) (T.own1 (o:=.list []) HD XU ⟨[],n',rfl,.nil⟩ R1.g6) T.pushed hW5
 |cons e r=>
  cases r with
  |cons _ _=>exact absurd (ow h2) (Nat.not_succ_le_zero _)
  |nil=>
  cases H with
  | @cons _ dd _ dr hd hdr=>
  cases hdr;refine dB hd λt u jJ N=>xE (List.length_eq_one_iff.mp (P.trans M)) λa ea=>?_;rw[ea] at f XU;refine jb (f.pairs 0 a rfl) λkey W x E L e7=>?_;have e5':=Prod.mk.inj (aq E);have Vp:=e5'.2;rw[jJ] at Vp;rw[<-e5'.1] at L;refine xE (lS (show Value.isStrOf e.1 key=true from L)) λXV ek=>?_;rw[ek,<-Vp] at e7;have Vq:=f.above a (.head _);have haD:=bT e7;have Ha:=jB.fresh R λx B=>by rw[List.mem_singleton.mp B];exact gM (eR Vq)
  have Vr:=dB (g.sm) λz o h1 h2=>dJ (fM h1 (fM (bT (R.hb z o h2)) Vq));have R3:=T.own1 (o:=.tup [.str e.1,e.2]) Ha (keep _ _ e7) ⟨[.str e.1 XV,u],0,rfl,.cons ⟨XV,rfl⟩ (.cons (VR.mono (Wd.aT _ _) N) .nil)⟩ Vr;have HD':=HD.push (by simp;exact bL haD);have hp:VR (wd.push a) (.loc σ.mem.length) (.ref a):=T.pushed;have R4:=R3.own1 (o:=.list [.loc σ.mem.length]) HD' XU ⟨[.ref a],n',rfl,.cons (VR.mono (Wd.aT _ _) hp) .nil⟩ R1.g6;refine az _ (.loc (σ.mem.length+1)) _ ((Wd.aT _ _).trans (Wd.aT _ _)) R4 ?_ hW5;have h9:=R3.pushed (a:=h'.objs.size);rw[ak] at h9;exact h9
theorem GJ{es:List (Str×V)}(ho:g.K.lookup a=some (dictOf ds nn))(H:∀wd,aE (lZ g wd) es ds)(hn:l8 es=true)(p:(a==sysModules)=false){n:Str}{pos:Pos}(h:be g F k o (eH (.e_ (.ref a))))(AM:n="items")(l:fQ o n ap [] pos):be g F k (.Call (.Attribute o n ap) [] [] pos) (jR (.bP .bI [.e_ (.ref a)])):=by subst AM;intro d A af hr s wd σ Q Z R J;refine xE (l (aK F d)) λpl he=>?_;rw[he];refine U (a_ (h d A af hr s wd σ (λb a9=>b= .e_ (.ref a)/\a9=σ) Z R ⟨rfl,rfl⟩) (λu s1 y=>?_) λ_ _ y=>y.elim);refine gX y λZr b Zs y1 O y3 P Q7=>?_;rw[P] at y3;rw[<-Q7] at J;rw[show u=_ from y3];have hK:=(g.X.keeps O.hb) _ _ ho;refine U (dh (U (bq (getMethod_builtin ⟨_,hK,rfl⟩ PySem.F.plainAttrs_dict ou (by show builtinType _=_;rw[builtinType_eq_fast];kernel_rfl) (λx e=>⟨_,i9 e▸hK,rfl⟩) ?_))));refine callWith_of rfl (λh x=>x) (jU rfl ?_);refine wpAny_items_nil ⟨aX,?_⟩;refine call_meetsIn ou ⟨_,hK,rfl⟩ PySem.F.entry_dict_items (PySem.F.args_dict_items_1 _) (meets_dict_items (strKind g.prog g.w) _ p) ⟨⟨_,gu hK (H Zr) hn⟩,?_⟩;exact az _ (.loc Zs.mem.length) _ (y1.trans (Wd.aT _ _)) (O.cE (o:=.bP .bI [.e_ (.ref a)]) ⟨_,rfl,.cons rfl .nil⟩) O.pushed J
noncomputable def iK(es:List (Str×V)):List O:=es.map λp=>.tup [.str p.1,p.2]
noncomputable def Rr(a:Addr)(o:Option O):Bool:=(xR o).any (uI a)
def AN(a:Addr)(es:List (Str×V))(vs:List V):ad V:=kG vs λv σ Q=>aA (oY v) λl=>gd (Rr a σ.mem[l]?)
 (Q (.loc (σ.mem.length+es.length)) {σ with mem:=(σ.mem++iK es)++[.list ((List.range es.length).map λi=>.loc (σ.mem.length+i))]})
theorem Jm(es:List (Str×V)):∀(as:List Addr){wd:Wd}{σ:St},bU g F d wd σ s->as.length=es.length->(∀a∈as,jB g d wd [a])->as.Nodup->(∀a∈as,a≠sysModules)-> (∀(j:Nat)(a:Addr)(e:Str×V),as[j]?=some a->es[j]?=some e->∃tk u,s.heap.get? a=some (aG "tuple" [.str e.1 tk,u] 0)/\VR wd e.2 u)-> ∃bg,Wd.Le wd bg/\bU g F d bg {σ with mem:=σ.mem++iK es} s/\(∀(j:Nat)(a:Addr),as[j]?=some a->VR bg (.loc (σ.mem.length+j)) (.ref a))/\(∀b,b∉as->jB g d wd [b]->jB g d bg [b]):=by
 induction es with
 |nil=>intro as wd σ R Z _ _ _ _;rw[List.length_eq_zero_iff.mp Z];refine⟨wd,.refl _,?_,λj a e=>nS e,λb _ h=>h⟩;refine(?_ :bU g F d wd {σ with mem:=σ.mem++[]} s);rw[aS];exact R
 |cons e es T=>
  intro as wd σ R Z hH hn M hp;cases as with
  |nil=>exact nomatch Z
  |cons a as=>
   refine dB (hp 0 a e rfl rfl) λtk u h1 h2=>?_;have hw:=Wd.aT wd a;have k:=List.nodup_cons.mp hn;have R1:=R.own1 (o:=.tup [.str e.1,e.2]) (hH a (.head _)) h1 ⟨_,0,rfl,.cons ⟨tk,rfl⟩ (.cons (VR.mono hw h2) .nil)⟩ (M a (.head _));have push:∀b,b≠a->jB g d wd [b]->jB g d (wd.push a) [b]:=λb hb h=>h.push (by simpa using bM hb);refine zg (T as R1 (fU Z) (λb hb=>push b (λq=>k.1 (by rw[<-q];exact hb)) (hH b (.tail _ hb))) k.2 (λb hb=>M b (.tail _ hb))
    λj b e' h3 h4=>dB (hp (j+1) b e' h3 h4) λtk u h5 h6=>⟨tk,u,h5,VR.mono hw h6⟩) λbg x1 x2 x3 x4=>⟨bg,hw.trans x1,?_,λj b h=>?_,λb hb h=>x4 b (λq=>hb (.tail _ q)) (push b (λq=>hb (by rw[q];exact .head _)) h)⟩
   ·rw[show σ.mem++iK (e::es)=(σ.mem++[O.tup [.str e.1,e.2]])++iK es by rw[au];rfl];exact x2
   ·cases j with
    |zero=>rw[<-aq h];exact VR.mono x1 R.pushed
    |succ j=>have h5:=x3 j b h;rw[ak] at h5;exact(Nat.succ_add_eq_add_succ σ.mem.length j:σ.mem.length+1+j=_)▸h5
theorem AO{es:List (Str×V)}(ho:g.K.lookup a=some (dictOf ds nn))(H:∀wd,aE (lZ g wd) es ds)(hn:l8 es=true)(hz:es.length<=100):cz g k (.type "list") (AN a es):=by
 intro F d A af vs us hr D s wd σ Q Z R J;refine qr D J λv u eu hv J=>ah J λl e1 J=>xA (aL J) λh1 Ca=>bx (fi h1) λx ex B=>ua (R.get (wP ex)) λdP ob Y I CN dL=>ur dL λy ey hy=>?_;rw[nL B] at hy;rw[CN,ey,show y= .ref a from hy] at Y;rw[eu,(VR.ref e1 (VR.mono Z hv)).2];have hK:=(g.X.keeps R.hb) _ _ ho;refine xE ((gu hK (H wd) hn).dictAt) λep O=>?_;have Hr:=(H wd).len;have M:(jO es ds).length=es.length:=by unfold jO;rw[List.length_zip,ax,ax,Hr];exact Nat.min_self _
 refine kdx_call hr.handled ⟨_,Y,rfl,rfl⟩ O (by rw[M,dj];exact am hz (by decide)) λh' tk bV c as hk w P f Ah=>?_;have R1:bU g F d wd σ {s with heap:=h',toks:=tk}:=R.keeps hk;have ZN:=f.above;have p:∀x,s.heap.objs.size<=x->x≠sysModules:=λx B=>dB (g.sm) λz o h1 h2=>dJ (fM h1 (dA (bT (R.hb z o h2)) B));have XG:∀x,s.heap.objs.size<=x->jB g d wd [x]:=λx B=>jB.fresh R λy hy=>by rw[List.mem_singleton.mp hy];exact gM B
 have nc:=f.rise.imp λh=>bL h;refine zg (Jm es as R1 (by rw[P,M]) (λx B=>XG x (eR (ZN x B))) nc (λx B=>p x (eR (ZN x B))) λj x e h5 h6=>?_) λU8 x1 x2 x3 x4=>?_
 ·refine jb (f.pairs j x h5) λkey W y E L e7=>Hy ((H wd).get h6) λdd hd1 t u CN N=>?_;have OP:(jO es ds)[j]?=some (e.1,dd.val):=by unfold jO;rw[List.getElem?_zip_eq_some];exact⟨by rw[bi,h6];rfl,by rw[bi,hd1];rfl⟩
  have e8:=Prod.mk.inj (aq (OP.symm.trans E));rw[<-e8.1] at L;refine xE (lS (show Value.isStrOf e.1 key=true from L)) λXV ek=>?_;rw[ek,<-e8.2,CN] at e7;exact⟨XV,_,e7,N⟩
 ·have hBn:s.heap.objs.size∉as:=λq=>i_ _ (ZN _ q);have IQ:aE (VR (U8.push s.heap.objs.size)) ((List.range es.length).map λi=>V.loc (σ.mem.length+i)) bV.toList:=by rw[Ah];refine wN (by rw[ax,P,M]) λi v e=>?_;rw[bi] at e;exact bx (Option.map_eq_some_iff.mp e) λx ex C=>C▸VR.mono (Wd.aT _ _) (x3 i x ex)
  have R3:=x2.own1 (o:=.list ((List.range es.length).map λi=>.loc (σ.mem.length+i))) (x4 _ hBn (XG _ (aF _))) w ⟨bV.toList,c,by simp[aG],IQ⟩ (p _ (aF _));refine az _ (.loc (σ.mem.length+es.length)) _ (x1.trans (Wd.aT _ _)) R3 ?_ Ca;have h9:=x2.pushed (a:=s.heap.objs.size);rw[show({σ with mem:=σ.mem++iK es}:St).mem.length=σ.mem.length+es.length from(ak ..).trans (ag _ (ax ..))] at h9;exact h9
end
noncomputable abbrev dg (F:df) (scope:Scope) (names cells:List Str):df:={qual:=F.qual,cd:=F.cd,scope:=relabel scope (aK F ⟨0,none,none,[]⟩),names:=names,cells:=cells}
noncomputable def nh(xs I:List Str):Bool:=decide (xs=I)
theorem jW{I:List Str}(h:nh xs I=true):xs=I:=ip h
noncomputable def r7(cs fs:List Str):List Nat->Bool:=λfX=>nh fs (fX.filterMap λi=>cs[i]?)&&fX.all λi=>decide (i<cs.length)
theorem oS{cs fs:List Str}(h:r7 cs fs fX=true):(∀(j:Nat)(x:Str),fs[j]?=some x->∃i:Nat,fX[j]?=some i/\cs[i]?=some x)/\fX.length=fs.length:=by
 unfold r7 at h;rw[aM,i7] at h;have h1:=jW h.1;have h2:=h.2;clear h;subst h1;induction fX with
 |nil=>exact⟨λj x e=>nS e,rfl⟩
 |cons i r T=>
  refine xA (T λj hj=>h2 j (.tail _ hj)) λZd Ze=>?_;have hi:=ip (h2 i (.head _));rw[List.filterMap_cons_some (bC hi)];refine⟨λj x e=>?_,ag Nat.succ Ze⟩;cases j with
  |zero=>exact⟨i,rfl,(bC hi).trans e⟩
  |succ j=>exact Zd j x e
noncomputable def mL(F:df)(scope:Scope)(cells:List Str)(fX:List Nat):Bool:=nh (c9 scope) cells&&mK cells&&r7 F.cells cells fX&&decide (scope.kind= .function)&&
 scope.names.all λx=>!(x.2== .cell)&&(!(x.2== .local)||decide (scope.names.lookup x.1=some .local))
theorem vi{scope:Scope}(h:mL F scope cells fX=true):mE F (dg F scope names cells) scope fX:=by
 unfold mL at h;simp only[aM,decide_eq_true_eq,i7] at h;refine⟨λd=>rfl,rfl,rfl,jW h.1.1.1.1,ma h.1.1.1.2,(oS h.1.1.2).1,(oS h.1.1.2).2,h.1.2,λx B e=>?_,λx B e=>?_⟩
 ·have:=(h.2 x B).2;rw[e] at this;exact ip this
 ·have:=(h.2 x B).1;rw[e] at this;exact nB this
section
variable {qI:List Str}
theorem Jn:GF g F k [] (c8 true):=⟨IF⟩
theorem Jo{c:PySem.Expr}{W:ad Bool}(h:NT g F k c W):GF g F k [c] W:=⟨UD h.run⟩
def ZO(l:Nat)(v:V):ad V:=gC [.loc l,v]
def sX(We:ad V)(l:Nat):ad Unit:=ao We λv=>ao (ZO l v) pe
def ZP(l:Nat)(a v:V):ad Unit:=λσ Q=>te a λx=>tO l x v σ Q
def OW(Wk Wv:ad V)(l:Nat):ad Unit:=ao Wk λa=>ao Wv (ZP l a)
noncomputable def ZQ(p:Int×Int×Int):St->Nat->Option (Option V):=gB p.1 p.2.1 p.2.2
def ZR(MB:V->ad Unit)(We:ad V)(l:Nat)(v:V):ad Unit:=λσ Q=>aA (kI v σ) λi=>∃n,gw (bj i) MB (c8 true) (sX We l) n 0 σ Q
def OX(p:ad V)(MB:V->ad Unit)(We:ad V)(l:Nat):ad Unit:=ao p (ZR MB We l)
theorem GK{scope:Scope}{pos:Pos}(names cells:List Str)(fX:List Nat)(hc:mL F scope cells fX=true)(hn:vb (dg F scope names cells) qI .cell=true)(hi:NE g F k iter Wi) (ha:cc (dg F scope names cells) qI .cell->NA g (dg F scope names cells) k target As) (S:cc (dg F scope names cells) qI .cell->GF g (dg F scope names cells) k ifs Wt) (he:cc (dg F scope names cells) qI .cell->NE g (dg F scope names cells) k oR We)(z:∀bc x,foldedSetIterable iter bc x=Pure.pure x):NE g F k (.ListComp oR [⟨target,iter,ifs,0⟩] scope pos) (nO fX kI bj names.length (.list []) Wi As Wt (sX We)):=have H:=ik hn
 ⟨Gi mC names.length (vi hc) hi.run (ha H).run (S H).run (he H).run z⟩
theorem CO{scope:Scope}{pos:Pos}(names cells:List Str)(fX:List Nat)(hc:mL F scope cells fX=true)(hn:vb (dg F scope names cells) qI .cell=true)(H0:cc F gs ck) (i:Nat) (B:F.names[i]?=some y)(hi:NE g F k iter Wi) (ha:cc (dg F scope names cells) qI .cell->NA g (dg F scope names cells) k target As) (S:cc (dg F scope names cells) qI .cell->GF g (dg F scope names cells) k ifs Wt) (he:cc (dg F scope names cells) qI .cell->NE g (dg F scope names cells) k oR We)(z:∀bc x,foldedSetIterable iter bc x=Pure.pure x) (c:∀d,swapsWith (.ListComp oR [⟨target,iter,ifs,0⟩] scope pos) (some (.Name y p)) tg.line (aK F d)=Pure.pure true):NS g F k (.Assign [.Name y p] (.ListComp oR [⟨target,iter,ifs,0⟩] scope pos) tg) (ao (nO fX IE ZQ names.length (.list []) Wi As Wt (sX We)) (sW i)):=have H:=ik hn
 ⟨m4 QP names.length i (vi hc) hi.run (ha H).run (S H).run (he H).run z c B H0.nd H0.kind (λ_=>(H0.loc (cU B)).1)⟩
theorem pL{scope:Scope}{pos:Pos}(names cells:List Str)(fX:List Nat)(hc:mL F scope cells fX=true)(hn:vb (dg F scope names cells) qI .cell=true)(H0:cc F gs ck) (i:Nat) (B:F.names[i]?=some y)(hi:NE g F k iter Wi) (ha:cc (dg F scope names cells) qI .cell->NA g (dg F scope names cells) k target As) (S:cc (dg F scope names cells) qI .cell->GF g (dg F scope names cells) k ifs Wt) (he:cc (dg F scope names cells) qI .cell->NE g (dg F scope names cells) k oR We)(z:∀bc x,foldedSetIterable iter bc x=Pure.pure x) (c:∀d,swapsWith (.ListComp oR [⟨target,iter,ifs,0⟩] scope pos) (some (.Name y p)) tg.line (aK F d)=Pure.pure true):NS g F k (.Assign [.Name y p] (.ListComp oR [⟨target,iter,ifs,0⟩] scope pos) tg) (ao (nO fX kI bj names.length (.list []) Wi As Wt (sX We)) (sW i)):=have H:=ik hn
 ⟨m4 mC names.length i (vi hc) hi.run (ha H).run (S H).run (he H).run z c B H0.nd H0.kind (λ_=>(H0.loc (cU B)).1)⟩
theorem CP{scope:Scope}{kx vx:PySem.Expr}{pos:Pos}{Wk:ad V}(names cells:List Str)(fX:List Nat)(hc:mL F scope cells fX=true)(hn:vb (dg F scope names cells) qI .cell=true)(H0:cc F gs ck) (i:Nat) (B:F.names[i]?=some y)(hi:NE g F k iter Wi) (ha:cc (dg F scope names cells) qI .cell->NA g (dg F scope names cells) k target As) (S:cc (dg F scope names cells) qI .cell->GF g (dg F scope names cells) k ifs Wt) (hk:cc (dg F scope names cells) qI .cell->NE g (dg F scope names cells) k kx Wk) (hv:cc (dg F scope names cells) qI .cell->NE g (dg F scope names cells) k vx Wv)(z:∀bc x,foldedSetIterable iter bc x=Pure.pure x) (c:∀d,swapsWith (.DictComp kx vx [⟨target,iter,ifs,0⟩] scope pos) (some (.Name y p)) tg.line (aK F d)=Pure.pure true):NS g F k (.Assign [.Name y p] (.DictComp kx vx [⟨target,iter,ifs,0⟩] scope pos) tg) (ao (nO fX kI bj names.length (.dict []) Wi As Wt (OW Wk Wv)) (sW i)):=have H:=ik hn
 ⟨th mC names.length i (vi hc) hi.run (ha H).run (S H).run (hk H).run (hv H).run z c B H0.nd H0.kind (λ_=>(H0.loc (cU B)).1)⟩
theorem CQ{scope:Scope}{t2 i2:PySem.Expr}{pos:Pos}{p:ad V}{MB:V->ad Unit}(names cells:List Str)(fX:List Nat)(hc:mL F scope cells fX=true)(hn:vb (dg F scope names cells) qI .cell=true)(hi:NE g F k iter Wi) (ha:cc (dg F scope names cells) qI .cell->NA g (dg F scope names cells) k target As) (TC:cc (dg F scope names cells) qI .cell->NE g (dg F scope names cells) k i2 p) (YX:cc (dg F scope names cells) qI .cell->NA g (dg F scope names cells) k t2 MB) (he:cc (dg F scope names cells) qI .cell->NE g (dg F scope names cells) k oR We)(z:∀bc x,foldedSetIterable iter bc x=Pure.pure x) (xC:∀bc x,foldedSetIterable i2 bc x=Pure.pure x):NE g F k (.ListComp oR [⟨target,iter,[],0⟩,⟨t2,i2,[],0⟩] scope pos) (nO fX kI bj names.length (.list []) Wi As (c8 true) (OX p MB We)):=have H:=ik hn
 ⟨Cq names.length (vi hc) hi.run (ha H).run (TC H).run (YX H).run (he H).run z xC⟩
theorem Jp{scope:Scope}(h:(mK (c9 scope)&&r7 F.cells (c9 scope) fX)=true):rU F scope fX:=by rw[aM] at h;exact⟨ma h.1,(oS h.2).1,(oS h.2).2⟩
theorem Jq(H:cc F gs ck)(i:Nat){t:Nat}{c P:Addr}(N:nQ g F t c P){name qual:Str}{params:Arguments}{body:List Stmt}{scope:Scope}{pos:Pos}(fX:List Nat)(C:(mK (c9 scope)&&r7 F.cells (c9 scope) fX)=true)(B:F.names[i]?=some name) (a:g.fo t=λfy fw c' ij=>fnMade name qual params body scope fy fw ((g.mg "__name__").getD .none) c' ij) (e:g.tp t=pos) (w:g.tq t=qual) (l:g.ff t=c9 scope)(Q5:∀d,qualnameIn (aK F d) name name=qual) (hd0:params.defaults=[]) (TF:params.kw_defaults=[]) (MI:∀d,annTrees params none (aK F d)=[]):NS g F k (.FunctionDef name params body [] none [] scope none name pos) (ao (wK t fX) (sW i)):=⟨IT i N (Jp C) a e w l Q5 hd0 TF MI B H.nd H.kind (λ_=>(H.loc (cU B)).1)⟩
theorem M3{t:Nat}{c P:Addr}(N:nQ g F t c P){qual:Str}{params:Arguments}{body:PySem.Expr}{scope:Scope}{pos:Pos}(fX:List Nat)(C:(mK (c9 scope)&&r7 F.cells (c9 scope) fX)=true)(a:g.fo t=λfy fw c' ij=>kla_obj "<lambda>" qual params body scope fy ((g.mg "__name__").getD .none) c' ij) (e:g.tp t=pos) (w:g.tq t=qual) (l:g.ff t=c9 scope)(Q5:F.qual++"<lambda>"=qual) (hd0:∀d,defaultsOf params (aK F d)=([],[])):NE g F k (.Lambda params body scope pos) (wK t fX):=⟨MJ N (Jp C) a e w l Q5 hd0⟩
theorem Jr(H:cc F gs ck)(i j:Nat){q r pos:Pos}{W:Nat}(hc:kdsCode g.K F.cd=true)(B:F.names[i]?=some x)(hy:F.names[j]?=some y)(TI:W=0):NE g F k (.Set [.Name x p,.Starred (.Name y q) r] W pos) (AB i j):=⟨I1 i j hc B hy H.kind (λ_=>(H.loc (cU B)).1) (λ_=>(H.loc (cU hy)).1) (H.loc (cU B)).2 (H.loc (cU hy)).2 TI⟩
theorem AP{n:Str}{pos:Pos}(hn:n="append")(h:NE g F k o W)(he:∀bc,eval (.Attribute o n pos) bc=(do
  let o' <-eval o bc
  standAt pos.atName
  let r <-holding [o'] (getAttr o' n true)
  letTemporaryGo o o' r
  Pure.pure r)):NE g F k (.Attribute o n pos) (ao W sR):=⟨Aa h.run hn he⟩
theorem Ep{n:Str}{pos:Pos}(HC:rI g.K C)(HD:Ms g.K C n f)(h:NE g F k o W)(he:∀bc,eval (.Attribute o n pos) bc=(do
  let o' <-eval o bc
  standAt pos.atName
  let r <-holding [o'] (getAttr o' n true)
  letTemporaryGo o o' r
  Pure.pure r)):NE g F k (.Attribute o n pos) (ao W (IB C n f)):=⟨Mt h.run rfl HC HD he⟩
def Vs(i j:Nat)(v:V):ad Fl:=λG Q=>aA (up G.mem v) λxs=>aA (l2 xs) λp=>Q .next ((G.nf j p.2).nf i p.1)
theorem Rs(H:cc F gs ck)(i j:Nat){a b:Str}{n:Nat}{f m tp pos:Pos}(hi:F.names[i]?=some a)(hj:F.names[j]?=some b)(he:NE g F k e We)(hw:∀d,swappedStores [.Tuple [.Name a f,.Name b m] n tp] e (aK F d)=Pure.pure (some [a,b])) (M:∀d,swapsWithSole [.Tuple [.Name a f,.Name b m] n tp] e pos.line (aK F d)=Pure.pure false):NS g F k (.Assign [.Tuple [.Name a f,.Name b m] n tp] e pos) (ao We (Vs i j)):=⟨QI i j he.run hi hj H.nd H.kind (λ_=>(H.loc (cU hi)).1) (λ_=>(H.loc (cU hj)).1) hw M⟩
theorem Js{W:V->ad Unit}(h:NA g F k t W)(he:∀bc,(assignEach [t] bc).map (·.2)=[assign t bc]):ZK g F k [t] W:=⟨QG h.run he⟩
theorem Rt{C:PySem.Expr}{W W':V->ad Unit}(h:NA g F k t W)(h':NA g F k C W')(he:∀bc,(assignEach [t,C] bc).map (·.2)=[assign t bc,assign C bc]):ZK g F k [t,C] (λv=>ao (W v) λ_=>W' v):=⟨QH h.run h'.run he⟩
theorem pM{pos:Pos}{W:V->ad Unit}(he:NE g F k e We)(ht:ZK g F k ts W)(M:∀d,swapsWithSole ts e pos.line (aK F d)=Pure.pure false) (hw:∀d,swappedStores ts e (aK F d)=Pure.pure none):NS g F k (.Assign ts e pos) (ao We λv=>ao (W v) k_):=⟨Cb he.run ht.run M hw⟩
theorem Jt{pos:Pos}:Vf g F k pos [] (c8 []):=⟨QW⟩
def Ru(x:Str)(v:V)(es:List (Str×V)):ad (List (Str×V)):=λσ Q=>Q ((x,v)::es) σ
def wPs(W:ad (List (Str×V)))(a v:V):ad (List (Str×V)):=λσ Q=>te a λx=>ao W (Ru x v) σ Q
theorem xT{pos:Pos}{kx vx:PySem.Expr}{ps:List (PySem.Expr×PySem.Expr)}{Wk:ad V}{W:ad (List (Str×V))}(hk:NE g F k kx Wk)(hv:NE g F k vx Wv)(h:Vf g F k pos ps W):Vf g F k pos ((kx,vx)::ps) (ao Wk λa=>ao Wv λv=>wPs W a v):=⟨MA hk.run hv.run h.run⟩
def Vt(σ:St)(Q:V->St->Prop)(es:List (Str×V))(a9:St):Prop:=gd (IL (qj a9.mem[σ.mem.length]?)&&l8 es) (Q (.loc σ.mem.length) {a9 with mem:=a9.mem.set σ.mem.length (.dict es)})
def OY(W:ad (List (Str×V))):ad V:=λσ Q=>W {σ with mem:=σ.mem++[.dict []]} (Vt σ Q)
theorem Rv{f v1:PySem.Expr}{pos:Pos}{W:ad (List (Str×V))}(h:Vf g F k pos [(f,v1)] W):NE g F k (.Dict [some f] [v1] pos) (OY W):=⟨ON h.run (h0:=by simp) (cn:=by simp) (Cn:=by intro _;rfl)⟩
theorem Rw{f v1 j v2:PySem.Expr}{pos:Pos}{W:ad (List (Str×V))}(h:Vf g F k pos [(f,v1),(j,v2)] W):NE g F k (.Dict [some f,some j] [v1,v2] pos) (OY W):=⟨ON h.run (h0:=by simp) (cn:=by simp) (Cn:=by intro _;rfl)⟩
def Vu(i:Nat)(y z:Str)(v:V):ad Fl:=λG Q=>te v λt=>gd (Nat.ble (t.length+(t.length+1)*z.length) 16777216) (Q .next (G.nf i (.str (k8 y z t))))
theorem jo(H:cc F gs ck)(i:Nat){z:Str}{QK Cc Cd:Nat}{QL QM Ce Cf Cg Ch Ci IC ID QN pos:Pos}(YO:(y==z)=false)(B:F.names[i]?=some x)(l:fQ (.Name x Ce) "replace" Cf [.Constant (.str y) Cc Cg,.Constant (.str z) Cd Ch] Ci:=by intro _;exact⟨_,rfl⟩)(M:∀d,swapsWith (.Call (.Attribute (.Name x Ce) "replace" Cf) [.Constant (.str y) Cc Cg,.Constant (.str z) Cd Ch] [] Ci) (some (.Name x IC)) ID.line (aK F d)=Pure.pure false:=by intro _;rfl):NS g F k (.If (.Compare (.Constant (.str y) QK QL) [.In] [.Name x QM] QN) [.Assign [.Name x IC] (.Call (.Attribute (.Name x Ce) "replace" Cf) [.Constant (.str y) Cc Cg,.Constant (.str z) Cd Ch] [] Ci) ID] [] pos) (ao (dX i) (Vu i y z)):=⟨Mw i YO B rfl H.nd H.kind (λ_=>(H.loc (cU B)).1) (H.loc (cU B)).2 l M⟩
theorem GL{es:List (Str×V)}(ho:g.K.lookup a=some (dictOf ds nn))(H:∀wd,aE (lZ g wd) es ds)(hn:l8 es=true)(p:(a==sysModules)=false){n:Str}{pos:Pos}(AM:n="items")(h:NE g F k o (eH (.e_ (.ref a))))(l:fQ o n ap [] pos):NE g F k (.Call (.Attribute o n ap) [] [] pos) (jR (.bP .bI [.e_ (.ref a)])):=⟨GJ ho H hn p h.run AM l⟩
noncomputable def oT(o:Option O):Bool:=o.elim false λo=>@O.casesOn (λ_=>Bool) o (λ_=>false) (λ_=>false) (λ_=>false) (λ_ _=>false) (λ_=>true) true (λ_ _=>false) (λ_=>false) (λ_=>false) (λ_ _=>false) (λ_ _ _=>false) (λ_ _=>false) λ_=>false
theorem bU.Vv{wd:Wd}{σ:St}{l:Nat}(R:bU g F d wd σ s)(h:oT σ.mem[l]?=true):∃ob v,s.heap.get? (wd.ρ l)=some ob/\ob.data= .cell v/\ob.isFreed=false:=by
 cases eo:σ.mem[l]? with
 |none=>rw[eo] at h;exact nB h
 |some o=>
  rw[eo] at h;refine jy (R.get eo) λ_ ob h5 h6=>?_;cases o with
  |cell w=>exact bx h6 λv a _=>⟨ob,some v,h5,a,h6.live⟩
  |de=>exact⟨ob,none,h5,h6,OR.live h6⟩
  |_=>exact nB h
def AQ(i:Nat)(v:V):ad Unit:=λσ Q=>aA σ.ix[i]? λl=>gd (oT σ.mem[l]?) (Q () {σ with mem:=σ.mem.set l (.cell v)})
theorem nT(H:cc F gs .cell)(i:Nat){pos:Pos}(B:F.cells[i]?=some x)(h:NE g F k e W)(M:∀d,swapsWith e (some (.Name x p)) pos.line (aK F d)=Pure.pure false:=by intro _;rfl):NS g F k (.Assign [.Name x p] e pos) (ao W λv=>ao (AQ i v) k_):=by refine⟨λd A af hr s wd σ Q Z R J=>wpAny_Assign_Name (bb.go (h.run d A af hr) Z R J λu s' bg v a9 h1 R' h3 h4=>ah h4 λl e T=>xA (aL T) λhc Ca=>?_) (M d)⟩;have XW:=R'.ix i _ l B e;refine dZ (R'.Vv hc) λob adZ h5 h6 _=>?_;refine wpAny_storeName_cell H.kind (H.cell (cU B)).1 XW.2 ⟨ob,h5,h6⟩ λh' hv z=>?_;refine bx hv λHE m r=>?_;exact az bg .next _ h1 (R'.setM (o':=.cell v) XW.1 z m ⟨u,r,h3⟩) rfl Ca
end
noncomputable def xU:List (Str×Nat):=[("_law_cells",231),("_law_names",238),("_law_events",245),("_law_walk",250),("_law_page",257),("_law_words",264),("_law_rule",271),("_levenshtein_distance",224),("_substitution_cost",217),
 ("_escape_cdata_c14n",161),("_escape_attrib_c14n",168),("C14NWriterTarget",150),("_netrclex",206),("_namespace_map",44)]
noncomputable def vj:List Str:=["enumerate","range","len","set","sorted","iter","min","list","isinstance","bool"]
noncomputable def CR:List (Str×Int):=[("_MAX_STRING_SIZE",40),("_MOVE_COST",2),("_CASE_COST",1)]
structure GM where
 name:Str
 params:Arguments
 body:List Stmt
 val:Option PySem.Expr
 scope:Scope
 pos:Pos
noncomputable def XX:GM:=⟨"",⟨[],[],none,[],[],none,[]⟩,[],none,⟨.function,[],false,false,[]⟩,⟨0,0,0,0⟩⟩
noncomputable def dcG(e:PySem.Expr):List Comprehension:=by
 cases e with
 |DictComp _ _ g=>exact g
 |_=>exact[]
noncomputable def ZS(e:PySem.Expr):List Keyword:=by
 cases e with
 |Call _ _ k=>exact k
 |_=>exact[]
noncomputable def ZT(e:PySem.Expr):GM:=by
 cases e with
 |Lambda params body scope pos=>exact⟨"<lambda>",params,[],some body,scope,pos⟩
 |_=>exact XX
noncomputable def ZU(s:Stmt):GM:=by
 cases s with
 |FunctionDef name params body _ _ _ scope _ _ pos=>exact⟨name,params,body,none,scope,pos⟩
 |Assign _ v=>exact((dcG v).head?.bind λc=>(ZS c.iter).head?).elim XX λk=>ZT k.value
 |_=>exact XX
noncomputable def Vw(P:Params)(f:Addr)(i:Nat):GM:=((bh (KK P) f)[i]?.map ZU).getD XX
noncomputable def dT(P:Params):GM:=Vw P 264 2
noncomputable def pN(P:Params):GM:=Vw P 126 6
noncomputable def M4(P:Params):PySem.Expr:=(pN P).val.getD (.Constant .none 0 ⟨0,0,0,0⟩)
noncomputable def qJ:Str:="_law_words.<locals>.read"
noncomputable def GN:Str:="C14NWriterTarget._start.<locals>.<lambda>"
structure cD(P:Params)(g:G):Prop where
 wp:g.w.params=P
 K:g.K=KK P
 mg:∀(i:Nat){x:Str}{a:Nat},xU[i]?=some (x,a)->g.mg x=some (.ref a)
 mgn:∀(i:Nat){x:Str},vj[i]?=some x->g.mg x=none
 mgi:∀(i:Nat){x:Str}{n:Int},CR[i]?=some (x,n)->∃t,g.mg x=some (.int n t)
 tabs:g.tabs=[259,123]
 hd0:CodeHd g.hb 263 259
 hd1:CodeHd g.hb 125 123
 fo0:g.fo 0=λfy fw c' ij=>fnMade (dT P).name qJ (dT P).params (dT P).body (dT P).scope fy fw ((g.mg "__name__").getD .none) c' ij
 tp0:g.tp 0=(dT P).pos
 tq0:g.tq 0=qJ
 ff0:g.ff 0=c9 (dT P).scope
 fo1:g.fo 1=λfy fw c' ij=>kla_obj "<lambda>" GN (pN P).params (M4 P) (pN P).scope fy ((g.mg "__name__").getD .none) c' ij
 tp1:g.tp 1=(pN P).pos
 tq1:g.tq 1=GN
 ff1:g.ff 1=c9 (pN P).scope
section
theorem cO.conv{f:Value}{W W':List V->ad V}(h:cO g k f W)(J:∀vs σ Q,W' vs σ Q->W vs σ Q):cO g k f W':=λF d A af vs us hr D s wd σ Q Z R h'=>h F d A af vs us hr D s wd σ Q Z R (J vs σ Q h')
theorem bG(U:cD P g)(H:cc F gs ck)(i j:Nat){pos:Pos}(B:gs[i]?=some x)(hj:vj[j]?=some x)(hv:bootBuiltins x=some v)(hn:x≠"__name__":=by decide+kernel):NE g F k (.Name x pos) (eH (.e_ v)):=Rp H i B (U.mgn j hj) hv hn
theorem kU(U:cD P g)(H:cc F gs ck)(i j:Nat){a:Nat}{pos:Pos}(B:gs[i]?=some x)(hj:xU[j]?=some (x,a)):NE g F k (.Name x pos) (eH (.e_ (.ref a))):=Vl H i B (U.mg j hj)
theorem nU(U:cD P g)(H:cc F gs ck)(i j:Nat){n:Int}{pos:Pos}(B:gs[i]?=some x)(hj:CR[j]?=some (x,n)):NE g F k (.Name x pos) (eH (.int n)):=let ⟨_,e⟩:=U.mgi j hj
 Jj H i B e
theorem vk(U:cD P g){W:ad Fl}{W':List V->ad V}(H:cc (fb (KK P) f names []) gs ck)(hb:NB g (fb (KK P) f names []) k (bh (KK P) f) W)(n:Nat)(dflt:List V){name qn:Str} {params:Arguments} {dV kV fw pm ct oc:Value} {an od:Option Addr} {zp:Array (Option Value)}(ho:(KK P).lookup f=some ⟨oc,od,.func (fnOf name qn params (bh (KK P) f) (bR (KK P) f).scope dV kV fw pm an (bR (KK P) f).code ct),zp⟩)(hc:(codeIn (KK P) (bR (KK P) f).code qn&&d3 (bR (KK P) f).qualname qn&& !(bR (KK P) f).scope.isCoroutine&& !(bR (KK P) f).scope.isGenerator&&(bR (KK P) f).scope.names.all λx=>!(x.2== .cell))=true)(m:∀(s:Shared)(us:List Value),(KK P).In s.heap->us.length=n->∃ds,(∀wd,aE (VR wd) dflt ds)/\BindsTo s (fnOf name qn params (bh (KK P) f) (bR (KK P) f).scope dV kV fw pm an (bR (KK P) f).code ct) ⟨us,[]⟩ ((names.take (n+dflt.length)).zip (us++ds)))(J:∀vs σ Q,W' vs σ Q->vs.length=n/\W ⟨iA names.length (vs++dflt),[],σ.mem⟩ λfl a9=>Q (nF fl) {σ with mem:=a9.mem}):cO g (k+1) (.ref f) W':=by
 simp only[aM,gQ,i7] at hc;have Y:=(cq _ _).mp hc.1.1.1.2;refine cO.conv (Mc hb.run (by rw[U.K];exact ho) (by rw[U.K];exact hc.1.1.1.1) (ag (λq:Str=>q++(".<locals>.":Str)) Y) n dflt (by rw[U.K];exact m) H.nd (λx B=>(H.loc B).1) (λx B e=>?_) hc.1.1.2 hc.1.2 H.kind) λvs σ Q h=>xA (J vs σ Q h) λe h'=>BQ.mpr ⟨by rw[e];exact hZ _,h'⟩
 have:=hc.2 x B;rw[e] at this;exact nB this.symm
noncomputable def Ju:List Str:=["_write","_data","_with_comments","_strip_text","_exclude_attrs","_exclude_tags","_rewrite_prefixes","_qname_aware_tags","_find_qname_aware_attrs","_declared_ns_stack","_ns_stack","_prefix_map","_preserve_space","_pending_start","_root_seen","_root_done","_ignored_depth"]
noncomputable def Jv:List Str:=["lineno","instream","whitespace","pushback","read"]
theorem cA(U:cD P g):vc g.K 150 Ju:=by rw[U.K];exact OU (by kernel_rfl)
theorem mM(U:cD P g):vc g.K 206 Jv:=by rw[U.K];exact OU (by kernel_rfl)
theorem d90(U:cD P g):Ms g.K 150 "_qname" 90:=by rw[U.K];exact⟨by kernel_rfl,by kernel_rfl,by kernel_rfl,by kernel_rfl,by kernel_rfl,by kernel_rfl,by decide+kernel⟩
theorem ZV(U:cD P g):Ms g.K 206 "_read_char" 189:=by rw[U.K];exact⟨by kernel_rfl,by kernel_rfl,by kernel_rfl,by kernel_rfl,by kernel_rfl,by kernel_rfl,by decide+kernel⟩
theorem M5(U:cD P g):wC g.K 206 "read":=⟨(mM U).name (.tail _ (.tail _ (.tail _ (.tail _ (.head _))))),λf e=>by
 have:findIn (KK P) (.ref 206) "read"=some none:=by kernel_rfl
 rw[U.K,this] at e;cases e⟩
theorem wQ(U:cD P g):wC g.K 150 "_write":=⟨(cA U).name (.head _),λf e=>by
 have:findIn (KK P) (.ref 150) "_write"=some none:=by kernel_rfl
 rw[U.K,this] at e;cases e⟩
theorem gJ(U:cD P g):wC g.K 150 "_iter_namespaces":=by
 rw[U.K];have h1:findIn (KK P) (.ref 150) "_iter_namespaces"=some (some (.ref 75)):=by kernel_rfl
 exact⟨⟨_,h1,λf e=>by obtain rfl:=aq e;exact⟨75,some (.builtin "function.__get__"),rfl,by kernel_rfl,by kernel_rfl⟩⟩,λf e=>by rw[h1] at e;cases e;kernel_rfl⟩
theorem g7(U:cD P g)(h:keepIn (KK P) (.ref f)=true):∀M h,g.K.In h->jH M h (.ref f):=λ_ _ X=>H9 (by rw[U.K];exact h) X
theorem iL(U:cD P g){n:Str}{pos:Pos}{W:List V->ad V}(OC:vc g.K C ns)(S:findIn (KK P) (.ref C) n=some (some (.ref f)))(Uj:typeIn (KK P) (.ref f)=some (.type "function"))(Uk:keepIn (KK P) (.ref f)=true)(hc:cz g k (.ref f) W)(ho:NE g F k o Wo) (ha:NL g F k args wa) (l:fQ o n ap args pos:=by intro _;exact⟨_,rfl⟩) (i:∀bc pos,((backTo pos (starEach args bc)).any (·.1))=false:=by intro _ _;rfl):NE g F k (.Call (.Attribute o n ap) args [] pos) (ao Wo λb=>Vh C n b (ao wa (wO W b))):=Rq OC.cls (by rw[U.K];exact S) (by rw[U.K];exact Uj) (by rw[U.K];exact Uk) hc ho ha l i
theorem GO(U:cD P g){n:Str}{pos:Pos}(hv:NE g F k e Wv)(ho:NE g F k o Wo)(hn:n="_iter_namespaces")(M:∀d,swapsWith e (some (.Attribute o n p)) pos.line (aK F d)=Pure.pure false):NS g F k (.Assign [.Attribute o n p] e pos) (ao Wv λv=>ao Wo λa=>ao (FP 150 n a v) k_):=by subst hn;exact⟨zE hv.run ho.run rfl (cA U).cls (gJ U).toNameK M⟩
theorem ZW(U:cD P g):nQ g (fb (KK P) 264 names cells) 0 263 259:=⟨by rfl,U.hd0,by rw[U.tabs];rfl⟩
theorem ZX(U:cD P g):nQ g (fb (KK P) 126 names cells) 1 125 123:=⟨by rfl,U.hd1,by rw[U.tabs];rfl⟩
noncomputable def m7:List (Str×V):=[("http://www.w3.org/XML/1998/namespace",.str "xml"),("http://www.w3.org/1999/xhtml",.str "html"),("http://www.w3.org/1999/02/22-rdf-syntax-ns#",.str "rdf"),("http://schemas.xmlsoap.org/wsdl/",.str "wsdl"),("http://www.w3.org/2001/XMLSchema",.str "xs"),("http://www.w3.org/2001/XMLSchema-instance",.str "xsi"),("http://purl.org/dc/elements/1.1/",.str "dc")]
theorem Vx(U:cD P g):∀wd,aE (lZ g wd) m7 (PG P):=by obtain rfl:=U.wp;intro wd;exact .cons ⟨_,_,rfl,_,rfl⟩ (.cons ⟨_,_,rfl,_,rfl⟩ (.cons ⟨_,_,rfl,_,rfl⟩ (.cons ⟨_,_,rfl,_,rfl⟩ (.cons ⟨_,_,rfl,_,rfl⟩ (.cons ⟨_,_,rfl,_,rfl⟩ (.cons ⟨_,_,rfl,_,rfl⟩ .nil))))))
theorem nsK:∃n,(KK P).lookup 44=some (dictOf (PG P) n):=⟨7,by rfl⟩
theorem nsN:l8 m7=true:=by kernel_rfl
theorem M6(U:cD P g){n:Str}{pos:Pos}(AM:n="items")(h:NE g F k o (eH (.e_ (.ref 44))))(l:fQ o n ap [] pos):NE g F k (.Call (.Attribute o n ap) [] [] pos) (jR (.bP .bI [.e_ (.ref 44)])):=GL (by rw[U.K];exact nsK.choose_spec) (Vx U) nsN (by decide) AM h l
theorem M7(U:cD P g):cz g k (.type "list") (AN 44 m7):=AO (by rw[U.K];exact nsK.choose_spec) (Vx U) nsN (by decide)
end
end
section
variable {params:Arguments}{zp:Array (Option Value)}{F:df}{g:G}{l0:List (Option Bool)}{X ce iC z:List Nat}{base me aD t:List O}{gs names ts:List Str}{xs:List V}{W':List V->ad V}{us:List Value}{ck:NameKind}{i j l m:Nat}{o:O}{an od:Option Addr}{P:Params}{W:ad Fl}{σ:St}{name qn lg x y:Str}{B C α β:Type}{v:V}{Q:V->St->Prop}{ct dV fw kV oc pm:Value}
noncomputable def L2{A:Type}(R:(A->B->Prop)->Prop)(a:A)(b:B):Prop:=∀M:A->B->Prop,R M->M a b
noncomputable def L3{A:Type}(R:(A->B->C->Prop)->Prop)(a:A)(b:B)(c:C):Prop:=∀M:A->B->C->Prop,R M->M a b c
noncomputable def L4{A D:Type}(R:(A->B->C->D->Prop)->Prop)(a:A)(b:B)(c:C)(d:D):Prop:=∀M:A->B->C->D->Prop,R M->M a b c d
theorem pO{A:Type}{R:(A->B->Prop)->Prop}{M:A->B->Prop}(h:R M):∀a b,L2 R a b->M a b:=λ_ _ d=>d M h
theorem kW{A:Type}{R:(A->B->C->Prop)->Prop}{M:A->B->C->Prop}(h:R M):∀a b c,L3 R a b c->M a b c:=λ_ _ _ d=>d M h
theorem Rx{A D:Type}{R:(A->B->C->D->Prop)->Prop}{M:A->B->C->D->Prop}(h:R M):∀a b c d,L4 R a b c d->M a b c d:=λ_ _ _ _ d=>d M h
theorem b_{b:Bool}{P:Prop}(h:b=true)(hp:P):gd b P:=BQ.mpr ⟨h,hp⟩
theorem av{o:Option α}{v:α}{K:α->Prop}(e:o=some v)(h:K v):aA o K:=gm e h
def oZ(Q:V->St->Prop)(lo:List (Option V))(ce:List Nat):Fl->St->Prop:=λfl a9=>Q (nF fl) ⟨lo,ce,a9.mem⟩
theorem o3{l1 lo:List (Option V)}{N:List Nat}(h:W ⟨l1,N,me⟩ (oZ Q lo ce)):W ⟨l1,N,St.mem ⟨lo,ce,me⟩⟩ (oZ Q (St.loc ⟨lo,ce,me⟩) (St.ix ⟨lo,ce,me⟩)):=h
theorem vW{b:Bool}{P Q:Prop}(h:b=true)(q:P):br b P Q:=by rw[h];exact q
theorem wR{b:Bool}{P Q:Prop}(h:b=false)(q:Q):br b P Q:=by rw[h];exact q
theorem qK{b:Bool}{P Q P' Q':Prop}(h:br b P Q)(h1:P->P')(h2:Q->Q'):br b P' Q':=by
 cases b
 ·exact h2 h
 ·exact h1 h
theorem nV{b b':Bool}{P Q P' Q':Prop}(e:b'=b)(h:br b P Q)(h1:P->P')(h2:Q->Q'):br b' P' Q':=by subst e;exact qK h h1 h2
section
variable {k:Nat}
theorem M8(U:cD P g){f:Addr}(H:cc (fb (KK P) f names []) gs ck)(hb:NB g (fb (KK P) f names []) k (bh (KK P) f) W)(ho:(KK P).lookup f=some ⟨oc,od,.func (fnOf name qn params (bh (KK P) f) (bR (KK P) f).scope dV kV fw pm an (bR (KK P) f).code ct),zp⟩)(hc:(codeIn (KK P) (bR (KK P) f).code qn&&d3 (bR (KK P) f).qualname qn&& !(bR (KK P) f).scope.isCoroutine&& !(bR (KK P) f).scope.isGenerator&&(bR (KK P) f).scope.names.all λx=>!(x.2== .cell))=true)(m:∀S,peek (KK P) S (bindArgs (fnOf name qn params (bh (KK P) f) (bR (KK P) f).scope dV kV fw pm an (bR (KK P) f).code ct) ⟨[],[]⟩)=some [])(J:∀vs σ Q,W' vs σ Q->vs=[]/\W ⟨iA names.length [],[],σ.mem⟩ (oZ Q σ.loc σ.ix)):cO g (k+1) (.ref f) W':=vk U H hb 0 [] ho hc (λs us X Z=>by obtain rfl:=List.length_eq_zero_iff.mp Z;exact⟨[],λ_=>.nil,kp_binds X m⟩) λvs σ Q h=>by refine xA (J vs σ Q h) λCz h1=>?_;obtain rfl:=Cz;exact⟨rfl,h1⟩
theorem lh(U:cD P g){f:Addr}(H:cc (fb (KK P) f names []) gs ck)(hb:NB g (fb (KK P) f names []) k (bh (KK P) f) W)(dflt:List V)(ds:List Value)(hd:∀wd,aE (VR wd) dflt ds)(ho:(KK P).lookup f=some ⟨oc,od,.func (fnOf name qn params (bh (KK P) f) (bR (KK P) f).scope dV kV fw pm an (bR (KK P) f).code ct),zp⟩)(hc:(codeIn (KK P) (bR (KK P) f).code qn&&d3 (bR (KK P) f).qualname qn&& !(bR (KK P) f).scope.isCoroutine&& !(bR (KK P) f).scope.isGenerator&&(bR (KK P) f).scope.names.all λx=>!(x.2== .cell))=true)(m:∀a S,peek (KK P) S (bindArgs (fnOf name qn params (bh (KK P) f) (bR (KK P) f).scope dV kV fw pm an (bR (KK P) f).code ct) ⟨[a],[]⟩)=some ((names.take (1+dflt.length)).zip (a::ds)))(J:∀vs σ Q,W' vs σ Q->∃a,vs=[a]/\W ⟨iA names.length (a::dflt),[],σ.mem⟩ (oZ Q σ.loc σ.ix)):cO g (k+1) (.ref f) W':=vk U H hb 1 dflt ho hc (λs us X Z=>by obtain⟨a,rfl⟩:=List.length_eq_one_iff.mp Z;exact⟨ds,hd,kp_binds X (m a)⟩) λvs σ Q h=>by refine bx (J vs σ Q h) λa Y h1=>?_;obtain rfl:=Y;exact⟨rfl,h1⟩
theorem qM(U:cD P g){f:Addr}(H:cc (fb (KK P) f names []) gs ck)(hb:NB g (fb (KK P) f names []) k (bh (KK P) f) W)(dflt:List V)(ds:List Value)(hd:∀wd,aE (VR wd) dflt ds)(ho:(KK P).lookup f=some ⟨oc,od,.func (fnOf name qn params (bh (KK P) f) (bR (KK P) f).scope dV kV fw pm an (bR (KK P) f).code ct),zp⟩)(hc:(codeIn (KK P) (bR (KK P) f).code qn&&d3 (bR (KK P) f).qualname qn&& !(bR (KK P) f).scope.isCoroutine&& !(bR (KK P) f).scope.isGenerator&&(bR (KK P) f).scope.names.all λx=>!(x.2== .cell))=true)(m:∀a b S,peek (KK P) S (bindArgs (fnOf name qn params (bh (KK P) f) (bR (KK P) f).scope dV kV fw pm an (bR (KK P) f).code ct) ⟨[a,b],[]⟩)=some ((names.take (2+dflt.length)).zip (a::b::ds)))(J:∀vs σ Q,W' vs σ Q->∃a b,vs=[a,b]/\W ⟨iA names.length (a::b::dflt),[],σ.mem⟩ (oZ Q σ.loc σ.ix)):cO g (k+1) (.ref f) W':=vk U H hb 2 dflt ho hc (λs us X Z=>by obtain⟨a,b,rfl⟩:=CA Z;exact⟨ds,hd,kp_binds X (m a b)⟩) λvs σ Q h=>by refine dB (J vs σ Q h) λa b jJ h1=>?_;obtain rfl:=jJ;exact⟨rfl,h1⟩
theorem us3(h:us.length=3):∃a b c,us=[a,b,c]:=by refine w8 (List.exists_cons_of_length_eq_add_one h) λa r jJ=>?_;obtain rfl:=jJ;refine w8 (CA (by simpa using h)) λb c jJ=>?_;obtain rfl:=jJ;exact⟨a,b,c,rfl⟩
theorem us4(h:us.length=4):∃a b c d,us=[a,b,c,d]:=by refine w8 (List.exists_cons_of_length_eq_add_one h) λa r jJ=>?_;obtain rfl:=jJ;refine FD (us3 (by simpa using h)) λb c d pz=>?_;obtain rfl:=pz;exact⟨a,b,c,d,rfl⟩
theorem xV(U:cD P g){f:Addr}(H:cc (fb (KK P) f names []) gs ck)(hb:NB g (fb (KK P) f names []) k (bh (KK P) f) W)(ho:(KK P).lookup f=some ⟨oc,od,.func (fnOf name qn params (bh (KK P) f) (bR (KK P) f).scope dV kV fw pm an (bR (KK P) f).code ct),zp⟩)(hc:(codeIn (KK P) (bR (KK P) f).code qn&&d3 (bR (KK P) f).qualname qn&& !(bR (KK P) f).scope.isCoroutine&& !(bR (KK P) f).scope.isGenerator&&(bR (KK P) f).scope.names.all λx=>!(x.2== .cell))=true)(m:∀a b c S,peek (KK P) S (bindArgs (fnOf name qn params (bh (KK P) f) (bR (KK P) f).scope dV kV fw pm an (bR (KK P) f).code ct) ⟨[a,b,c],[]⟩)=some ((names.take 3).zip [a,b,c]))(J:∀vs σ Q,W' vs σ Q->∃a b c,vs=[a,b,c]/\W ⟨iA names.length [a,b,c],[],σ.mem⟩ (oZ Q σ.loc σ.ix)):cO g (k+1) (.ref f) W':=vk U H hb 3 [] ho hc (λs us X Z=>by obtain⟨a,b,c,rfl⟩:=us3 Z;exact⟨[],λ_=>.nil,kp_binds X (m a b c)⟩) λvs σ Q h=>by refine mX (J vs σ Q h) λa b c pz h1=>?_;obtain rfl:=pz;exact⟨rfl,h1⟩
theorem Er(U:cD P g){f:Addr}(H:cc (fb (KK P) f names []) gs ck)(hb:NB g (fb (KK P) f names []) k (bh (KK P) f) W)(ho:(KK P).lookup f=some ⟨oc,od,.func (fnOf name qn params (bh (KK P) f) (bR (KK P) f).scope dV kV fw pm an (bR (KK P) f).code ct),zp⟩)(hc:(codeIn (KK P) (bR (KK P) f).code qn&&d3 (bR (KK P) f).qualname qn&& !(bR (KK P) f).scope.isCoroutine&& !(bR (KK P) f).scope.isGenerator&&(bR (KK P) f).scope.names.all λx=>!(x.2== .cell))=true)(m:∀a b c d S,peek (KK P) S (bindArgs (fnOf name qn params (bh (KK P) f) (bR (KK P) f).scope dV kV fw pm an (bR (KK P) f).code ct) ⟨[a,b,c,d],[]⟩)=some ((names.take 4).zip [a,b,c,d]))(J:∀vs σ Q,W' vs σ Q->∃a b c d,vs=[a,b,c,d]/\W ⟨iA names.length [a,b,c,d],[],σ.mem⟩ (oZ Q σ.loc σ.ix)):cO g (k+1) (.ref f) W':=vk U H hb 4 [] ho hc (λs us X Z=>by obtain⟨a,b,c,d,rfl⟩:=us4 Z;exact⟨[],λ_=>.nil,kp_binds X (m a b c d)⟩) λvs σ Q h=>by refine BD (J vs σ Q h) λa b c d CN h1=>?_;obtain rfl:=CN;exact⟨rfl,h1⟩
noncomputable abbrev ZY (P:Params):df:=fb (KK P) 238 [] []
theorem ZZ(P:Params):cc (ZY P) [] .cell:=ik (by kernel_rfl)
noncomputable def nW:List V:=[.str "a",.str "b",.str "{u}a",.str "{u}b",.str "{v}a",.str "{v}b"]
noncomputable def Vy:List V->ad V:=L3 λM=>∀{lo ce me Q},Q (.loc me.length) ⟨lo,ce,me++[.list nW]⟩->M [] ⟨lo,ce,me⟩ Q
theorem Es(U:cD P g):cO g (k+1) (.ref 238) Vy:=by have H:=ZZ P;refine M8 U H (NB.at rfl (by exact(ab (cP (eD (ae bz (ae bz (ae bz (ae bz (ae bz (ae bz ay)))))))) aC))) rfl (by kernel_rfl) (λS=>rfl) ?_;refine kW (@λ_ _ _ _ h=>?_);exact⟨rfl,h⟩
noncomputable abbrev Z0 (P:Params):df:=fb (KK P) 217 ["ch_a","ch_b"] []
theorem Z1(P:Params):cc (Z0 P) ["_CASE_COST","_MOVE_COST"] .cell:=ik (by kernel_rfl)
noncomputable def bn(x y:Str):Int:=bif d3 x y then 0 else bif d3 (Txt.lower x) (Txt.lower y) then 1 else 2
noncomputable def Z2:List V->ad V:=L3 λM=>∀{x y:Str}{σ Q},Nat.ble x.length 5592405=true->Nat.ble y.length 5592405=true->Q (.int (bn x y)) σ->M [.str x,.str y] σ Q
theorem M9(U:cD P g):cO g (k+1) (.ref 217) Z2:=by
 have H:=Z1 P;refine qM U H (NB.at rfl (by exact(ab (ii (aN gq (ai H 0 rfl) (ai H 1 rfl)) (ab (cP bv) aC) aC) (ab (ii (aN gq (bZ .str kr PySem.F.slot_str_lower PySem.F.type_str_lower wq (ai H 0 rfl) ay) (bZ .str kr PySem.F.slot_str_lower PySem.F.type_str_lower wq (ai H 1 rfl) ay)) (ab (cP (nU U H 0 2 rfl rfl)) aC) aC) (ab (cP (nU U H 1 1 rfl rfl)) aC))))) [] [] (λ_=>.nil) rfl (by kernel_rfl) (λa b S=>rfl) ?_;refine kW (@λx y σ Q B hy h=>?_);refine⟨_,_,rfl,?_⟩;refine o3 ?_;unfold bn at h;refine bu (λe=>?_) (λe=>?_)
 ·rw[e] at h;exact h
 ·rw[e] at h;refine b_ B (b_ hy ?_);refine bu (λe=>?_) (λe=>?_)
  ·rw[e] at h;exact h
  ·rw[e] at h;exact h
end
section
variable {cL:St->Nat->Option (Option β)}{As:β->ad Unit}{Wt:ad Bool}{We:ad Unit}{Wb:ad Fl}{n:Nat}
theorem jg{b:β}{Q:Unit->St->Prop}(e:cL σ i=some (some b))(h:As b σ (sI Wt (OH We (λE=>gw cL As Wt We n (i+1) E Q)))):gw cL As Wt We (n+1) i σ Q:=gm e h
theorem jh{Q:Unit->St->Prop}(e:cL σ i=some none)(h:Q () σ):gw cL As Wt We (n+1) i σ Q:=gm e h
theorem fm{b:β}{Q:Fl->St->Prop}(e:cL σ i=some (some b))(h:As b σ (sI Wb (P6 (λE=>gr cL As Wb n (i+1) E Q) Q))):gr cL As Wb (n+1) i σ Q:=gm e h
theorem iM{Q:Fl->St->Prop}(e:cL σ i=some none)(h:Q .next σ):gr cL As Wb (n+1) i σ Q:=gm e h
end
theorem ba{o:Option V}(h:σ.mem[l]?=some (.list xs))(e:xs[i]?=o):bj l σ i=some o:=by unfold bj;rw[h];exact ag some e
theorem ac{b:List O}(h:b[l]?=some o):(b++t)[l]?=some o:=by rw[List.getElem?_append_left (List.getElem?_eq_some_iff.mp h).1];exact h
theorem aR{b:List O}{x:O}:(b++x::t)[b.length]?=some x:=by simp
theorem gx{b:List O}{x y:O}:(b++x::y::t)[b.length+1]?=some y:=by simp
theorem kK{b:List O}{x y:O}:(b++x::t).set b.length y=b++y::t:=by simp[lO]
theorem vm{b:List O}{x y z:O}:(b++x::y::t).set (b.length+1) z=b++x::z::t:=by simp[lO]
theorem fC{xs r:List α}{x:α}(h:xs.drop i=x::r):xs[i]?=some x/\xs.drop (i+1)=r:=by refine⟨by have:=ag (·[0]?) h;simpa using this,?_⟩;have:=ag List.tail h;rwa[List.tail_drop,List.tail_cons] at this
theorem drop_nil{xs:List α}(h:xs.drop i=[]):xs[i]?=none:=by rw[kq];rwa[jZ] at h
theorem Jw{o:Option O}(h:o=some (.list xs)):((sL o).bind λxs=>some (l,xs))=some (l,xs):=bE (bE h)
theorem cV{mem:List O}(h:mem[l]?=some (.list xs)):dC mem (.loc l)=some (l,xs):=Jw h
theorem cM{n:Nat}(h:n<=10000):bw n=true:=cT (am h (by decide))
theorem CS(h:σ.mem[l]?=some (.list xs))(hz:xs.length<=10000)(q:Q .none {σ with mem:=σ.mem.set l (.list (xs++[v]))}):gC [.loc l,v] σ Q:=av (cV h) (b_ (cM hz) q)
theorem ji{mem:List O}{loc:List (Option V)}(h:mem[l]?=some (.list xs)):kI (.loc l) ⟨loc,ce,mem⟩=some l:=bE (o:=sL mem[l]?) (bE h)
section
variable {k:Nat}
noncomputable abbrev Z3 (P:Params):df:=fb (KK P) 250 ["levels"] []
theorem Z4(P:Params):cc (Z3 P) [] .cell:=ik (by kernel_rfl)
theorem CT{li:Nat}{rv:O}(Rf:base[li]?=some (.list xs)){Q:Unit->St->Prop}:∀(r:List V)(i:Nat)(bV:List V)(loc:List (Option V)),loc.length=2->xs.drop i=r->bV.length+r.length<=10000->(∀loc,loc.length=2->Q () ⟨loc,iC,base++[rv,.list (bV++r)]⟩)-> gw (bj li) (du 1) (c8 true) (sX (dX 1) (base.length+1)) (r.length+1) i ⟨loc,iC,base++[rv,.list bV]⟩ Q:=λr=>by
 induction r with
 |nil=>exact λi bV loc Z hd hz h=>jh (ba (ac Rf) (drop_nil hd)) (by rw[aS] at h;exact h loc Z)
 |cons v r T=>intro i bV loc Z hd hz h;refine xA (fC hd) λh1 h2=>?_;rw[aJ] at hz;refine w8 (CA Z) λx y jJ=>?_;obtain rfl:=jJ;refine jg (ba (ac Rf) h1) ?_;refine av (cV gx) (b_ (cM (aQ [_,_] (.c 1 (.a (.v 0) (.a (.v 1) (.n 1))) (.n 10000) .nil) 0 (.v 0) (.n 10000) tt hz)) ?_);refine(?_ :gw _ _ _ _ _ _ ⟨[x,some v],iC,(base++[rv,.list bV]).set (base.length+1) (.list (bV++[v]))⟩ Q);rw[vm];exact T (i+1) (bV++[v]) _ rfl h2 (by rw[ak];simp;exact aQ [_,_] (.c 1 (.a (.v 0) (.a (.v 1) (.n 1))) (.n 10000) .nil) 0 (.a (.a (.v 0) (.n 1)) (.v 1)) (.n 10000) tt hz) λloc Z=>by rw[au];exact h loc Z
theorem CU{o:List Nat}{Q:Unit->St->Prop}{r:List Nat}{rs:List (List V)}(ha:aE (λl xs=>base[l]?=some (.list xs)) r rs):∀(i:Nat)(bV:List V)(loc:List (Option V)),loc.length=2->o.drop i=r->bV.length+rs.flatten.length<=10000-> (∀loc,loc.length=2->Q () ⟨loc,iC,base++[.list (o.map .loc),.list (bV++rs.flatten)]⟩)-> gw (bj base.length) (du 0) (c8 true) (OX (dX 0) (du 1) (dX 1) (base.length+1)) (r.length+1) i ⟨loc,iC,base++[.list (o.map .loc),.list bV]⟩ Q:=by
 induction ha with
 |nil=>exact λi bV loc Z hd hz h=>jh (ba aR (by rw[bi,drop_nil hd];rfl)) (by simpa using h loc Z)
 | @cons l xs r rs h1 ha T=>intro i bV loc Z hd hz h;refine xA (fC hd) λh2 h3=>?_;rw[List.flatten_cons,ak] at hz;refine w8 (CA Z) λx y jJ=>?_;obtain rfl:=jJ;refine jg (ba aR (by rw[bi,h2];rfl)) ?_;refine av (ji (ac h1)) ?_;refine⟨xs.length+1,CT h1 xs 0 bV _ rfl rfl (aQ [_,_,_] (.c 1 (.a (.v 0) (.a (.v 1) (.v 2))) (.n 10000) .nil) 0 (.a (.v 0) (.v 1)) (.n 10000) tt hz) λloc Z=>?_⟩;exact T (i+1) (bV++xs) loc Z h3 (by rw[ak];exact aQ [_,_,_] (.c 1 (.a (.v 0) (.a (.v 1) (.v 2))) (.n 10000) .nil) 0 (.a (.a (.v 0) (.v 1)) (.v 2)) (.n 10000) tt hz) λloc Z=>by have:=h loc Z;rwa[List.flatten_cons,<-au] at this
noncomputable def Vz:List V->ad V:=L3 λM=>∀{l:Nat}{ls:List Nat}{rs:List (List V)}{lo ce me Q},me[l]?=some (.list (ls.map .loc))->aE (λl xs=>me[l]?=some (.list xs)) ls.reverse rs->ls.length<=1000->rs.flatten.length<=10000->
 Q (.loc (me.length+1)) ⟨lo,ce,me++[.list (ls.reverse.map .loc),.list rs.flatten]⟩->M [.loc l] ⟨lo,ce,me⟩ Q
theorem M_(U:cD P g):cO g (k+1) (.ref 250) Vz:=by
 have H:=Z4 P;refine lh U H (NB.at rfl (by exact(ab (cP (CQ (qI:=[]) ["level","pair"] [] [] (by kernel_rfl) (by kernel_rfl) (GH (ai H 0 rfl) GG) (λH1=>(b8 H1 0 rfl)) (λH1=>(ai H1 0 rfl)) (λH1=>(b8 H1 1 rfl)) (λH1=>(ai H1 1 rfl)) (z:=by intro _ _;rfl) (xC:=by intro _ _;rfl))) aC))) [] [] (λ_=>.nil) rfl (by kernel_rfl) (λa S=>rfl) ?_;refine kW (@λl ls rs lo ce me Q h1 h2 h3 h4 h=>?_);refine⟨_,rfl,?_⟩;refine o3 ?_;refine av (cV h1) (b_ (cM (by rw[ax];exact aQ [_] (.c 1 (.v 0) (.n 1000) .nil) 0 (.v 0) (.n 10000) tt h3)) ?_);rw[<-gS];refine av (ji aR) ⟨ls.reverse.length+1,?_⟩;have:=CU (o:=ls.reverse) (iC:=[]) (Q:=λ_ a9=>Q (.loc (me.length+1)) ⟨lo,ce,a9.mem⟩) h2 0 [] [none,none] rfl rfl (by simpa using h4) λloc _=>h;have e3:(me++[O.list (ls.reverse.map V.loc)])++[O.list []]=me++[.list (ls.reverse.map V.loc),.list []]:=by simp
 have e2:(me++[O.list (ls.reverse.map V.loc)]).length=me.length+1:=by simp
 refine Eq.mpr ?_ this;rw[<-e3,<-e2];rfl
end
noncomputable abbrev ch (x:Str):List Nat:=x.cps.toList
theorem Et(h:ch x=ch y):x=y:=by cases x;cases y;exact ag Str.mk (Array.toList_inj.mp h)
theorem mh(x y:Str):ch (x++y)=ch x++ch y:=by show(x.cps++y.cps).toList=_;rw[Array.toList_append]
theorem pP(x:Str):x.length=(ch x).length:=Array.length_toList.symm
theorem Eu(x:Str)(c:Nat):v7 ⟨#[c]⟩ x=decide (c∈ch x):=StrLaws.found_one x c
noncomputable def xW(c:Nat)(z:List Nat)(k:Nat):List Nat:=bif Nat.beq k c then z else[k]
theorem qN{c:Nat}:∀{l:List Nat},c∉l->l.flatMap (xW c z)=l
 | [],_=>rfl
 |k::r,h=>by have h1:Nat.beq k c=false:=Bool.eq_false_iff.mpr λe=>h (by rw[bK e];exact .head _);rw[gO,qN λm=>h (.tail _ m)];unfold xW;rw[h1];rfl
theorem AR{c:Nat}(z:Str):∀Jx:List Str,(∀p∈Jx,c∉ch p)->(ch (Str.join ⟨#[c]⟩ Jx)).flatMap (xW c (ch z))=ch (Str.join z Jx)
 | [],_=>rfl
 | [p],h=>qN (h p (.head _))
 |p::q::r,h=>by
  have T:=AR z (q::r) λa ha=>h a (.tail _ ha);show(ch (p++⟨#[c]⟩++Str.join ⟨#[c]⟩ (q::r))).flatMap _=ch (p++z++Str.join z (q::r));simp only[mh,j5];rw[T,qN (h p (.head _))];have:([c]:List Nat).flatMap (xW c (ch z))=ch z:=by rw[gO,ka,aS];unfold xW;rw[hZ];rfl
  show _++([c]:List Nat).flatMap _++_=_;rw[this]
theorem xX(c:Nat)(z x:Str):ch (k8 ⟨#[c]⟩ z x)=(ch x).flatMap (xW c (ch z)):=by
 unfold k8;rw[Eu];cases h:decide (c∈ch x) with
 |false=>exact(qN (of_decide_eq_false h)).symm
 |true=>show ch (Txt.replace x ⟨#[c]⟩ z)=_;rw[StrLaws.replace_one,<-AR z _ (StrLaws.split_free x c),StrLaws.join_split]
theorem Ew{c:Nat}(hm:z.length<=m)(h1:1<=m):∀l:List Nat,(l.flatMap (xW c z)).length<=m*l.length
 | []=>by simp
 |k::r=>by
  rw[gO,ak,aJ,Nat.mul_add];have:=Ew (c:=c) hm h1 r;have h2:(xW c z k).length<=m:=by
   unfold xW;cases Nat.beq k c
   ·exact h1
   ·exact hm
  omega
theorem Jy{c:Nat}{z:Str}(hy:y=⟨#[c]⟩)(hm:z.length<=m)(h1:1<=m):(k8 y z x).length<=m*x.length:=by subst hy;rw[pP,pP,xX];exact Ew (by rw[<-pP];exact hm) h1 _
noncomputable def GP(x:Str):Str:=k8 "&" "&amp;" x
noncomputable def LL(x:Str):Str:=k8 "<" "&lt;" x
noncomputable def XY(x:Str):Str:=k8 ">" "&gt;" x
noncomputable def XZ(x:Str):Str:=k8 "\r" "&#xD;" x
noncomputable def X0(x:Str):Str:=k8 "\"" "&quot;" x
noncomputable def r9(x:Str):Str:=k8 "\t" "&#x9;" x
noncomputable def OZ(x:Str):Str:=k8 "\n" "&#xA;" x
noncomputable def mN(x:Str):Str:=XZ (XY (LL (GP x)))
noncomputable def Ry(x:Str):Str:=XZ (OZ (r9 (X0 (LL (GP x)))))
section
variable {k:Nat}
theorem rg{n q:Nat}(h:n<=m)(Y:m+(m+1)*q<=16777216):Nat.ble (n+(n+1)*q) 16777216=true:=by refine Nat.ble_eq.mpr (am ?_ Y);exact gU h (oF _ (jw h))
noncomputable abbrev Z5 (P:Params):df:=fb (KK P) 161 ["text"] []
theorem Z6(P:Params):cc (Z5 P) [] .cell:=ik (by kernel_rfl)
noncomputable abbrev Z7 (P:Params):df:=fb (KK P) 168 ["text"] []
theorem Z8(P:Params):cc (Z7 P) [] .cell:=ik (by kernel_rfl)
noncomputable def Z9:List V->ad V:=L3 λM=>∀{x:Str}{σ Q},x.length<=10000->Q (.str (mN x)) σ->M [.str x] σ Q
theorem rl{c n:Nat}{z:Str}(h:x.length<=n)(hy:y=⟨#[c]⟩)(hm:z.length<=m)(h1:1<=m):(k8 y z x).length<=m*n:=am (Jy hy hm h1) (Nat.mul_le_mul_left m h)
theorem Na(U:cD P g):cO g (k+1) (.ref 161) Z9:=by have H:=Z6 P;refine lh U H (NB.at rfl (by exact(ab (Vo (ab (jo H 0 (by decide+kernel) rfl) (ab (jo H 0 (by decide+kernel) rfl) (ab (jo H 0 (by decide+kernel) rfl) (ab (jo H 0 (by decide+kernel) rfl) (ab (cP (ai H 0 rfl)) aC)))))) aC))) [] [] (λ_=>.nil) rfl (by kernel_rfl) (λa S=>rfl) ?_;refine kW (@λx σ Q hz h=>?_);have h1:(GP x).length<=5*10000:=rl (c:=38) hz (by decide+kernel) (by decide+kernel) (by decide);have h2:(LL (GP x)).length<=4*(5*10000):=rl (c:=60) h1 (by decide+kernel) (by decide+kernel) (by decide);have h3:(XY (LL (GP x))).length<=4*(4*(5*10000)):=rl (c:=62) h2 (by decide+kernel) (by decide+kernel) (by decide);exact⟨_,rfl,b_ (rg hz (by decide+kernel)) (b_ (rg h1 (by decide+kernel)) (b_ (rg h2 (by decide+kernel)) (b_ (rg h3 (by decide+kernel)) h)))⟩
noncomputable def VA:List V->ad V:=L3 λM=>∀{x:Str}{σ Q},x.length<=10->Q (.str (Ry x)) σ->M [.str x] σ Q
theorem Nb(U:cD P g):cO g (k+1) (.ref 168) VA:=by have H:=Z8 P;refine lh U H (NB.at rfl (by exact(ab (Vo (ab (jo (y:="&") (z:="&amp;") H 0 (by decide+kernel) rfl) (ab (jo (y:="<") (z:="&lt;") H 0 (by decide+kernel) rfl) (ab (jo (y:="\"") (z:="&quot;") H 0 (by decide+kernel) rfl) (ab (jo (y:="\t") (z:="&#x9;") H 0 (by decide+kernel) rfl) (ab (jo (y:="\n") (z:="&#xA;") H 0 (by decide+kernel) rfl) (ab (jo (y:="\r") H 0 (by decide+kernel) rfl) (ab (cP (ai H 0 rfl)) aC)))))))) aC))) [] [] (λ_=>.nil) rfl (by kernel_rfl) (λa S=>rfl) ?_;refine kW (@λx σ Q hz h=>?_);have h1:(GP x).length<=5*10:=rl (c:=38) hz (by decide+kernel) (by decide+kernel) (by decide);have h2:(LL (GP x)).length<=4*(5*10):=rl (c:=60) h1 (by decide+kernel) (by decide+kernel) (by decide);have h3:(X0 (LL (GP x))).length<=6*(4*(5*10)):=rl (c:=34) h2 (by decide+kernel) (by decide+kernel) (by decide);have h4:(r9 (X0 (LL (GP x)))).length<=5*(6*(4*(5*10))):=rl (c:=9) h3 (by decide+kernel) (by decide+kernel) (by decide);have h5:(OZ (r9 (X0 (LL (GP x))))).length<=5*(5*(6*(4*(5*10)))):=rl (c:=10) h4 (by decide+kernel) (by decide+kernel) (by decide);exact⟨_,rfl,b_ (rg hz (by decide+kernel)) (b_ (rg h1 (by decide+kernel)) (b_ (rg h2 (by decide+kernel)) (b_ (rg h3 (by decide+kernel)) (b_ (rg h4 (by decide+kernel)) (b_ (rg h5 (by decide+kernel)) h)))))⟩
end
structure Wr where
 pc:List Str
 da:List Str
 dc:List Nat
 nz:List Nat
 pr:Nat
 seen:Bool
 done:Bool
 dD:Int
structure cR where
 ex:Option (List Str)
 one:Str
 two:Str
noncomputable def VB:Option (List Str)->List O
 |none=>[]
 |some xs=>[.set xs]
noncomputable def Z_:Option (List Str)->Nat
 |none=>0
 |some _=>1
noncomputable def O0(b:Nat):Option (List Str)->V
 |none=>.none
 |some _=>.loc (b+5)
noncomputable def cR.A(D:cR)(b i:Nat):Nat:=b+(5+Z_ D.ex+i)
noncomputable def cR.L(D:cR)(b i:Nat):V:=.loc (D.A b i)
noncomputable def cR.N(D:cR)(b:Nat):Nat:=D.A b 18
noncomputable def mi(D:cR)(b:Nat)(c:Wr):List (Str×V):=[("_write",.loc (b+1)),("_data",.loc (b+4)),("_with_comments",.bool false),("_strip_text",.bool false),("_exclude_attrs",.none),("_exclude_tags",O0 b D.ex),("_rewrite_prefixes",.bool false),("_qname_aware_tags",.none),("_find_qname_aware_attrs",.none),
  ("_declared_ns_stack",D.L b 2),("_ns_stack",D.L b 3),("_prefix_map",D.L b 14),("_preserve_space",D.L b 15),("_pending_start",.none),("_root_seen",.bool c.seen),("_root_done",.bool c.done),("_ignored_depth",.int c.dD),("_iter_namespaces",.e_ (.ref 250))]
noncomputable def r8(D:cR)(b:Nat)(dc:List Nat):List V:=D.L b 1::dc.map λj=>.loc (D.N b+j)
noncomputable def vn(D:cR)(b:Nat)(nz:List Nat):List V:=D.L b 12::D.L b 13::nz.map λj=>.loc (D.N b+j)
noncomputable def sY(D:cR)(b:Nat)(c:Wr):List O:=[.tup [.str "http://www.w3.org/XML/1998/namespace",.str "xml"],.list [D.L b 0],.list (r8 D b c.dc),.list (vn D b c.nz),.bP .bI [.e_ (.ref 44)]]++iK m7++
 [.list ((List.range 7).map λi=>D.L b (5+i)),.list [D.L b 16,D.L b 17],.dict [],.list (List.replicate (c.pr+1) (.bool false)),.tup [.str "u",.str D.one],.tup [.str "v",.str D.two]]
noncomputable def pg(D:cR)(b:Nat)(c:Wr):List O:=[.list (c.pc.map .str),.bP .sD [.e_ (.builtin "list.append"),.loc b],.dict (mi D b c),.inst 150 (b+2),.list (c.da.map .str)]
noncomputable def AS(D:cR)(b:Nat)(c:Wr):List O:=pg D b c++(VB D.ex++sY D b c)
noncomputable def mm(D:cR)(base:List O)(c:Wr)(aD:List O):List O:=base++(AS D base.length c++aD)
noncomputable def bW(base:List O):V:=.loc (base.length+3)
section
variable {D:cR}{c c':Wr}{b:Nat}
theorem qO:(VB D.ex).length=Z_ D.ex:=by cases D.ex<;>rfl
theorem vo:(AS D b c).length=5+Z_ D.ex+18:=by unfold AS;rw[ak,ak,qO];exact(c7 5 _ _).symm
theorem bX{xs I:List O}:(xs++I)[xs.length+i]?=I[i]?:=by rw[List.getElem?_append_right (gR _ _),Nat.add_sub_cancel_left]
theorem dO{xs I:List O}:(xs++I).set (xs.length+i) o=xs++I.set i o:=by rw[lO _ _ (gR _ _),Nat.add_sub_cancel_left]
theorem AT(i:Nat)(h:(pg D base.length c)[i]?=some o):(mm D base c aD)[base.length+i]?=some o:=by unfold mm;rw[bX];exact ac (ac h)
theorem CV(i:Nat)(h:(sY D base.length c)[i]?=some o):(mm D base c aD)[D.A base.length i]?=some o:=by unfold mm cR.A AS;rw[bX];refine ac ?_;rw[c7,<-qO,show 5=(pg D base.length c).length from rfl,bX,bX];exact h
theorem VC{xs:List Str}(h:D.ex=some xs):(mm D base c aD)[base.length+5]?=some (.set xs):=by unfold mm AS;rw[bX,h];rfl
theorem aY(h:aD[j]?=some o):(mm D base c aD)[D.N base.length+j]?=some o:=by unfold mm cR.N cR.A;rw[c7,bX,<-vo,bX];exact h
theorem vp(h:base[j]?=some o):(mm D base c aD)[j]?=some o:=ac h
theorem CW(i:Nat)(hi:i<5)(h:(pg D base.length c).set i o=pg D base.length c')(h2:sY D base.length c=sY D base.length c'):(mm D base c aD).set (base.length+i) o=mm D base c' aD:=by unfold mm AS;rw[dO,au,au,oG _ _ hi,h,h2,au,au]
theorem xY(i:Nat)(hi:i<18)(h:(sY D base.length c).set i o=sY D base.length c')(h2:pg D base.length c=pg D base.length c'):(mm D base c aD).set (D.A base.length i) o=mm D base c' aD:=by unfold mm cR.A AS;rw[dO,au,au,c7,<-qO,show 5=(pg D base.length c).length from rfl,dO,au,dO,oG _ _ hi,h,h2];simp only[au]
theorem qP:(mm D base c aD).set (D.N base.length+j) o=mm D base c (aD.set j o):=by unfold mm cR.N cR.A;rw[c7,dO,<-vo,dO]
theorem c_{xs:List O}:mm D base c aD++xs=mm D base c (aD++xs):=by unfold mm;rw[au,au]
theorem fq:(mm D base c aD).length=D.N base.length+aD.length:=by unfold mm cR.N cR.A;rw[ak,ak,vo,c7 base.length]
theorem mj{C:Addr}{d:Nat}{es:List (Str×V)}(h1:me[i]?=some (.inst C d))(h2:me[d]?=some (.dict es)):d4 C me (.loc i)=some (d,es):=(bE (o:=H6 C me[i]?) (by rw[h1];exact ag (λb=>cond b (some d) none) (hZ C))).trans (bE (bE h2))
theorem xZ:d4 150 (mm D base c aD) (bW base)=some (base.length+2,mi D base.length c):=mj (AT 3 rfl) (AT 2 rfl)
theorem ca(D:cR)(base:List O)(c:Wr)(aD:List O){n:Str}(v:V){K:V->Prop}(e:eK n (mi D base.length c)=some v)(hv:nA v=true)(q:K v):aA (d4 150 (mm D base c aD) (bW base)) λp=>aA (eK n p.2) λv=>gd (nA v) (K v):=av xZ (av e (b_ hv q))
theorem Ey(D:cR)(base:List O)(c:Wr)(aD xs:List O){n:Str}(v:V){K:V->Prop}(e:eK n (mi D base.length c)=some v)(hv:nA v=true)(q:K v):aA (d4 150 (mm D base c aD++xs) (bW base)) λp=>aA (eK n p.2) λv=>gd (nA v) (K v):=by rw[c_];exact ca D base c _ v e hv q
theorem r_(D:cR)(base:List O)(c c':Wr)(aD:List O){n:Str}{lo:List (Option V)}{Q:Unit->St->Prop}(e:cQ n v (mi D base.length c)=mi D base.length c')(h1:(pg D base.length c).set 2 (.dict (mi D base.length c'))=pg D base.length c')(h2:sY D base.length c=sY D base.length c')(q:Q () ⟨lo,ce,mm D base c' aD⟩):aA (d4 150 (mm D base c aD) (bW base)) λp=>gd (Nat.ble p.2.length 800) (Q () ⟨lo,ce,(mm D base c aD).set p.1 (.dict (cQ n v p.2))⟩):=av xZ (by rw[e,CW 2 (by decide) h1 h2];exact q)
theorem nX(D:cR)(base:List O)(c:Wr)(aD:List O){n:Str}{K:Prop}(e:eK n (mi D base.length c)=none)(q:K):aA (d4 150 (mm D base c aD) (bW base)) λp=>gd (eK n p.2).isNone K:=av xZ (by rw[e];exact q)
theorem O1:(mm D base c aD)[base.length]?=some (.list (c.pc.map .str)):=AT 0 rfl
theorem nY(D:cR)(base:List O)(c:Wr)(aD:List O){lo:List (Option V)}(hz:c.pc.length<=10000)(q:Q .none ⟨lo,ce,mm D base {c with pc:=c.pc++[x]} aD⟩):aA (Iz (mm D base c aD) (.loc (base.length+1))) λself=>gC [self,.str x] ⟨lo,ce,mm D base c aD⟩ Q:=by
 refine av ?_ (CS O1 (by rw[ax];exact hz) ?_)
 ·refine(?_ :OD (mm D base c aD)[base.length+1]?=_);rw[AT 1 rfl];rfl
 ·have:(mm D base c aD).set (base.length+0) (.list (c.pc.map V.str++[.str x]))=mm D base {c with pc:=c.pc++[x]} aD:=by rw[show(c.pc.map V.str++[.str x])=(c.pc++[x]).map V.str by simp];exact CW 0 (by decide) rfl rfl
  rw[Nat.add_zero] at this;refine(?_ :Q .none ⟨lo,ce,(mm D base c aD).set base.length _⟩);rw[this];exact q
end
noncomputable def pf(D:cR):Bool->Str
 |false=>D.one
 |true=>D.two
noncomputable def np:Bool->Str
 |false=>"u"
 |true=>"v"
def GQ(D:cR)(N:Nat)(aD:List O)(j:Nat):Option Bool->Prop
 |none=>aD[j]?=some (.list [])
 |some s=>∃t,aD[j]?=some (.list [.loc (N+t)])/\aD[t]?=some (.tup [.str (np s),.str (pf D s)])
structure RR(D:cR)(N:Nat)(c:Wr)(lv:List (Option Bool))(aD:List O):Prop where
 dl:aE (GQ D N aD) c.dc lv
 nl:∀j∈c.nz,aD[j]?=some (.list [])
 nd:(c.dc++c.nz).Nodup
def sb(X:List Nat)(r r':List O):Prop:=∀(j:Nat)(o:O),r[j]?=some o->j∉X->r'[j]?=some o
theorem sb.refl{r:List O}:sb X r r:=λ_ _ h _=>h
theorem sb.app{r:List O}:sb X r (r++t):=λ_ _ h _=>ac h
theorem sb.trans{a b d:List O}(h:sb X a b)(h':sb X b d):sb X a d:=λj o e n=>h' j o (h j o e n) n
noncomputable def cB(b:List Stmt)(i:Nat):Stmt:=b.getD i (.Pass ⟨0,0,0,0⟩)
abbrev NN(F:Params->df)(gs:List Str)(f i j:Nat):={W:ad Fl //∀{P:Params}{g:G}{k:Nat}(_:cD P g)(_:cc (F P) gs .cell),NS g (F P) (k+j) (cB (bh (KK P) f) i) W}
noncomputable def ru(s:Stmt):List Stmt:=by
 cases s with
 |For _ _ b=>exact b
 |While _ b=>exact b
 |If _ b=>exact b
 |_=>exact[]
noncomputable def pQ(s:Stmt):List Stmt:=by
 cases s with
 |If _ _ b=>exact b
 |_=>exact[]
theorem NB.at'{k:Nat}{b:List Stmt}{s:Stmt}{r:List Stmt}(e:b=s::r)(h:NB g F k (s::r) W):NB g F k b W:=e▸h
theorem NB.c{k:Nat}{W':ad Fl}{b:List Stmt}(h:NB g F k b W)(J:∀σ Q,W' σ Q->W σ Q):NB g F k b W':=⟨NB.conv h J⟩
theorem NS.c{k:Nat}{W':ad Fl}{b:Stmt}(h:NS g F k b W)(J:∀σ Q,W' σ Q->W σ Q):NS g F k b W':=⟨λd A af hr=>bb.conv (h.run d A af hr) J⟩
section
variable {k:Nat}
theorem O2(U:cD P g):gc g (k+1) (λv vs σ Q=>gd (uI 250 v) (Vz vs σ Q)):=OA 250 (λM h X=>g7 U (by kernel_rfl) M h (g.X.keeps X)) (M_ U).ok
noncomputable abbrev VD (P:Params):df:=fb (KK P) 90 ["self","qname","uri","tag","prefixes_seen","u","prefix"] []
noncomputable def G90:List Str:=["set"]
abbrev Jz(i:Nat):=NN VD G90 90 i 1
theorem X8(P:Params):cc (VD P) G90 .cell:=ik (by kernel_rfl)
set_option genCtorIdx true in
inductive Lc where
 |a|b|k
noncomputable def Lc.s:Lc->Str
 | .a=>"a"
 | .b=>"b"
 | .k=>"k"
noncomputable def eO:Option Bool->Lc->Str
 |none,l=>l.s
 |some false,.a=>"{u}a"
 |some false,.b=>"{u}b"
 |some false,.k=>"{u}k"
 |some true,.a=>"{v}a"
 |some true,.b=>"{v}b"
 |some true,.k=>"{v}k"
noncomputable def CY:Option Bool->Str
 |none=>""
 |some s=>np s
noncomputable def m8(p t:Str):Str:=Str.empty++p++":"++t
def jj(x:Str):Prop:=1<=x.length/\x.length<=100
theorem bH(x y:Str):(x++y).length=x.length+y.length:=Array.size_append
theorem AU(h:1<=x.length):(!(Nat.beq x.length 0))=true:=by
 cases e:x.length with
 |zero=>omega
 |succ n=>rfl
theorem sc(p t:Str):(m8 p t).length=p.length+1+t.length:=by unfold m8;rw[bH,bH,bH];show 0+_+1+_=_;exact fB [_,_] .nil 0 (.a (.a (.a (.n 0) (.v 0)) (.n 1)) (.v 1)) (.a (.a (.v 0) (.n 1)) (.v 1)) tt tt
structure aaa(p oU:Str):Prop where
 a:bw p.length=true
 b:(!(Nat.beq p.length 0))=true
 c:bw (Str.empty.length+p.length)=true
 d:bw ((Str.empty++p).length+(":":Str).length)=true
 e:bw oU.length=true
 f:bw ((Str.empty++p++":").length+oU.length)=true
 h:bw (m8 p oU).length=true
theorem AV{p oU:Str}(h3:jj p)(h4:jj oU):aaa p oU:=by
 have l1:∀n,n<=300->bw n=true:=λn hn=>cT (am hn (by decide));have l2:=sc p oU;refine xA h3 λh5 h6=>?_;try clear h3
 refine xA h4 λm r=>?_;try clear h4
 have e1:(Str.empty++p).length=p.length:=by rw[bH];exact eQ _
 have e2:(Str.empty++p++":").length=p.length+1:=by rw[bH,e1];rfl
 refine⟨l1 _ (aQ [_] (.c 1 (.v 0) (.n 100) .nil) 0 (.v 0) (.n 300) tt h6),AU h5,l1 _ ?_,l1 _ ?_,l1 _ (aQ [_] (.c 1 (.v 0) (.n 100) .nil) 0 (.v 0) (.n 300) tt r),l1 _ ?_,l1 _ (aQ [_,_,_] (.e 1 (.v 0) (.a (.a (.v 1) (.n 1)) (.v 2)) (.c 1 (.v 1) (.n 100) (.c 1 (.v 2) (.n 100) .nil))) 0 (.v 0) (.n 300) tt l2 h6 r)⟩
 ·show 0+_<=_;exact aQ [_] (.c 1 (.v 0) (.n 100) .nil) 0 (.a (.n 0) (.v 0)) (.n 300) tt h6
 ·rw[e1];show _+1<=_;exact aQ [_] (.c 1 (.v 0) (.n 100) .nil) 0 (.a (.v 0) (.n 1)) (.n 300) tt h6
 ·rw[e2];exact aQ [_,_] (.c 1 (.v 0) (.n 100) (.c 1 (.v 1) (.n 100) .nil)) 0 (.a (.a (.v 0) (.n 1)) (.v 1)) (.n 300) tt h6 r
theorem CZ{o:Option O}{xs:List Str}{K:Bool->Prop}(h:o=some (.set xs))(hz:xs.length<=30)(q:K (dN y xs)):Uw o y K:=by rw[h];exact b_ (d8 hz) q
theorem Nc{mem:List O}{xs:List Str}(h:mem[l]?=some (.set xs)):QB mem (.loc l)=some (l,xs):=bE (o:=QA mem[l]?) (bE h)
theorem JA{mem:List O}{xs:List Str}(h:mem[l]?=some (.set xs)):v6 mem (.loc l) .set=true:=ag Option.isSome (bE h)
theorem bk{mem:List O}(h:mem[l]?=some (.list xs)):v6 mem (.loc l) .list=true:=ag Option.isSome (bE h)
theorem Ez{lo:List (Option V)}{xs:List Str}(h:me[l]?=some (.set xs))(hz:xs.length<=20)(q:Q .none ⟨lo,ce,me.set l (.set (jC x xs))⟩):gd (v6 me (.loc l) .set) (aA (QB me (.loc l)) λp=>gd (Nat.ble p.2.length 20) (Q .none ⟨lo,ce,me.set p.1 (.set (jC x p.2))⟩)):=b_ (JA h) (av (Nc h) (b_ (d8 hz) q))
theorem iN{lo:List (Option V)}(h:me[l]?=some (.list xs))(hz:xs.length<=10000)(q:Q .none ⟨lo,ce,me.set l (.list (xs++[v]))⟩):aA (dC me (.loc l)) λp=>gd (bw p.2.length) (Q .none ⟨lo,ce,me.set p.1 (.list (p.2++[v]))⟩):=av (cV h) (b_ (cM hz) q)
noncomputable def JB:ad Fl:=L2 λM=>∀{s q:V}{lg oU u p:Str}{ls:Nat}{seen:List Str}{r:List (Option V)}{ce me Q},me[ls]?=some (.set seen)->seen.length<=20->jj p->jj oU->
 br (d3 u lg&& !(dN p seen)) (Q (.ret (.loc me.length)) ⟨some s::some q::some (.str lg)::some (.str oU)::some (.loc ls)::some (.str u)::some (.str p)::r,ce,me++[.tup [.str (m8 p oU),.str oU,.str lg]]⟩)
 (Q .next ⟨some s::some q::some (.str lg)::some (.str oU)::some (.loc ls)::some (.str u)::some (.str p)::r,ce,me.set ls (.set (jC p seen))⟩)->
 M ⟨some s::some q::some (.str lg)::some (.str oU)::some (.loc ls)::some (.str u)::some (.str p)::r,ce,me⟩ Q
theorem VE(U:cD P g):NB g (VD P) (k+1) (ru (cB (bh (KK P) 90) 2)) JB:=by
 have H:=X8 P;refine NB.c (NB.at' rfl (by exact(ab (ii (cG (bN (aN gq (ai H 5 rfl) (ai H 2 rfl)) (bN (aN uC (ai H 6 rfl) (ai H 4 rfl)) gD))) (ab (cP (ng (ae (iG (a7 (ai H 6 rfl)) (tQ (iJ (CM (ai H 6 rfl)) (iJ bz (iJ (CM (ai H 3 rfl)) Eo)))) rX) (ae (ai H 3 rfl) (ae (ai H 2 rfl) ay))))) aC) aC) (ab (cZ (bZ .set PySem.F.plainAttrs_set PySem.F.slot_set_add PySem.F.type_set_add B6 (ai H 4 rfl) (ae (ai H 6 rfl) ay))) aC)))) ?_;refine pO (@λs q lg oU u p ls seen r ce me Q h1 h2 h3 h4 h=>?_);cases e:d3 u lg with
 |true=>rw[e] at h;refine vW e (CZ (K:=λb=>br (!b) _ _) h1 (aQ [_] (.c 1 (.v 0) (.n 20) .nil) 0 (.v 0) (.n 30) tt h2) ?_);have G:=AV h3 h4;exact qK h (λh=>b_ G.a (vW G.b (b_ G.a (b_ G.c (b_ G.d (b_ G.e (b_ G.f (b_ G.h h)))))))) λh=>Ez h1 h2 h
 |false=>rw[e] at h;exact wR e (Ez h1 h2 h)
theorem nZ{xs:List α}{v:α}(hz:xs.length<=1000):uj (xs++[v]) (-1)=some v:=by
 refine(?_ :uj.Tx (Nat.ble 1 (xs++[v]).length&&bw (xs++[v]).length) (xs++[v])[(xs++[v]).length-1]?=_);have h1:(xs++[v]).length=xs.length+1:=by simp
 rw[h1,cM (by exact aQ [_] (.c 1 (.v 0) (.n 1000) .nil) 0 (.a (.v 0) (.n 1)) (.n 10000) tt hz),d8 (by exact aQ [_] .nil 0 (.n 1) (.a (.v 0) (.n 1)) tt)];refine(?_ :(xs++[v])[xs.length]?=_);simp
theorem bJ{o:Option O}{i:Int}{K:V->Prop}(h:o=some (.list xs))(e:uj xs i=some v)(q:K v):P4 o (.int i) K:=by rw[h];exact(av e q:aA (uj xs i) K)
theorem JC{D:cR}{b:Nat}{d0:List Nat}:r8 D b (d0++[j])=(D.L b 1::d0.map λj=>.loc (D.N b+j))++[.loc (D.N b+j)]:=by unfold r8;simp
noncomputable def O3:ad Fl:=L2 λM=>∀{D:cR}{base aD:List O}{c:Wr}{d0:List Nat}{j:Nat}{q:V}{lg oU u p:Str}{ls:V}{r:List (Option V)}{ce Q},c.dc=d0++[j]->d0.length<=100->aD[j]?=some (.list [])->jj p->jj oU->
 br (d3 u lg) (Q (.ret (.loc (D.N base.length+(aD.length+1)))) ⟨some (bW base)::some q::some (.str lg)::some (.str oU)::some ls::some (.str u)::some (.str p)::r,ce,mm D base c ((aD++[O.tup [.str lg,.str p]]).set j (.list [.loc (D.N base.length+aD.length)])++[.tup [.str (m8 p oU),.str oU,.str lg]])⟩)
 (Q .next ⟨some (bW base)::some q::some (.str lg)::some (.str oU)::some ls::some (.str u)::some (.str p)::r,ce,mm D base c aD⟩)->
 M ⟨some (bW base)::some q::some (.str lg)::some (.str oU)::some ls::some (.str u)::some (.str p)::r,ce,mm D base c aD⟩ Q
theorem VF(U:cD P g):NB g (VD P) (k+1) (ru (cB (bh (KK P) 90) 5)) O3:=by have H:=X8 P;refine NB.c (NB.at' rfl (by exact(ab (ii (aN gq (ai H 5 rfl) (ai H 2 rfl)) (ab (cZ (bZ .list bD cJ b0 bB (eM (dy (cA U) 9 rfl (ai H 0 rfl)) GG) (ae (ng (ae (ai H 2 rfl) (ae (ai H 6 rfl) ay))) ay))) (ab (cP (ng (ae (iG (a7 (ai H 6 rfl)) (tQ (iJ (CM (ai H 6 rfl)) (iJ bz (iJ (CM (ai H 3 rfl)) Eo)))) rX) (ae (ai H 3 rfl) (ae (ai H 2 rfl) ay))))) aC)) aC) aC))) ?_;refine pO (@λD base aD c d0 j q lg oU u p ls r ce Q h2 h3 h4 h5 h6 h=>?_);refine qK h (λh=>?_) id;refine ca D base c aD (D.L base.length 2) (by kernel_rfl) rfl ?_;refine bJ (CV 2 rfl) (by rw[h2,JC];exact nZ (by simp;exact aQ [_] (.c 1 (.v 0) (.n 100) .nil) 0 (.v 0) (.n 999) tt h3)) ?_;refine b_ (bk (aY h4)) ?_;refine iN (by rw[c_];exact aY (ac h4)) (by decide) ?_;rw[c_,qP,fq];have G:=AV h5 h6;refine b_ G.a (vW G.b (b_ G.a (b_ G.c (b_ G.d (b_ G.e (b_ G.f (b_ G.h ?_)))))));refine(?_ :Q (.ret (.loc (mm D base c _).length)) ⟨_,ce,mm D base c _++[_]⟩);rw[fq,c_,dS,ak];exact h
end
def O4(mem:List O)(v:V)(p:Str×Str):Prop:=∃t,v= .loc t/\mem[t]?=some (.tup [.str p.1,.str p.2])
noncomputable def pi(lg:Str):List (Str×Str)->List Str->Option Str×List Str
 | [],seen=>(none,seen)
 |e::r,seen=>bif d3 e.1 lg&& !(dN e.2 seen) then(some e.2,seen) else pi lg r (jC e.2 seen)
noncomputable def TL(D:cR):Option Bool->List (Str×Str)
 |none=>[]
 |some s=>[(np s,pf D s)]
noncomputable def jP(D:cR)(lv:List (Option Bool)):List (Str×Str):=lv.reverse.flatMap (TL D)++[(("http://www.w3.org/XML/1998/namespace":Str),("xml":Str))]
theorem Nd{D:cR}{xs:List O}{c:Wr}{t:Nat}(h:(mm D base c aD)[t]?=some o):(mm D base c (aD++xs))[t]?=some o:=by rw[<-c_];exact ac h
theorem gy{mem:List O}{t:Nat}(h:mem[t]?=some (.tup xs)):up mem (.loc t)=some xs:=by exact bE h
abbrev Nf(i j:Nat):V->ad Unit:=ve 2 (vV (du i) (vV (du j) pe))
noncomputable def qL(s q:V)(lg oU:Str)(ls:Nat)(x5 x6:Option V)(r:List (Option V)):List (Option V):=some s::some q::some (.str lg)::some (.str oU)::some (.loc ls)::x5::x6::r
section
variable {D:cR}{c:Wr}{rl:O}{fl:List V}{oU:Str}{s q:V}{OZ:List (Option V)}
theorem VG{Q:Fl->St->Prop}(ht:jj oU){r:List V}{es:List (Str×Str)}(ha:aE (O4 (mm D base c aD)) r es):∀(i:Nat)(seen:List Str)(x5 x6:Option V),fl.drop i=r->(∀e∈es,jj e.2)->seen.length+es.length<=20-> (∀p w x5 x6,pi lg es seen=(some p,w)->Q (.ret (.loc (D.N base.length+(aD.length+3)))) ⟨qL s q lg oU (D.N base.length+aD.length) x5 x6 OZ,ce,mm D base c (aD++[.set w,rl,.list fl,.tup [.str (m8 p oU),.str oU,.str lg]])⟩)-> (∀w x5 x6,pi lg es seen=(none,w)->Q .next ⟨qL s q lg oU (D.N base.length+aD.length) x5 x6 OZ,ce,mm D base c (aD++[.set w,rl,.list fl])⟩)-> gr (bj (D.N base.length+(aD.length+2))) (Nf 5 6) JB (r.length+1) i ⟨qL s q lg oU (D.N base.length+aD.length) x5 x6 OZ,ce,mm D base c (aD++[.set seen,rl,.list fl])⟩ Q:=by
 induction ha with
 |nil=>exact λi seen x5 x6 hd M hz h h'=>iM (ba (aY (by simp)) (drop_nil hd)) (h' _ x5 x6 rfl)
 | @cons v e r es he ha T=>
  intro i seen x5 x6 hd M hz h h';refine xA (fC hd) λh1 h2=>?_;refine bx he λt Y h3=>?_;try clear he
  obtain rfl:=Y;rw[aJ] at hz;refine fm (ba (aY (by simp)) h1) ?_;refine av (gy (Nd h3)) ?_;refine λ_ E=>E (aY (by simp)) (aQ [_,_] (.c 1 (.a (.v 0) (.a (.v 1) (.n 1))) (.n 20) .nil) 0 (.v 0) (.n 20) tt hz) (M e (.head _)) ht ?_;unfold pi at h h';refine bu (λhb=>?_) (λhb=>?_)
  ·rw[hb] at h;have h4:=h _ _ (some (.str e.1)) (some (.str e.2)) rfl;refine(?_ :Q (.ret (.loc (mm D base c _).length)) ⟨qL s q lg oU (D.N base.length+aD.length) _ _ OZ,ce,mm D base c _++[_]⟩);rw[fq,c_];simpa using h4
  ·rw[hb] at h h';refine(?_ :gr _ _ _ (r.length+1) (i+1) ⟨qL s q lg oU (D.N base.length+aD.length) (some (.str e.1)) (some (.str e.2)) OZ,ce,(mm D base c _).set _ _⟩ Q);rw[qP,kK];exact T (i+1) (jC e.2 seen) _ _ h2 (λe he=>M e (.tail _ he)) (by have:=xM e.2 seen;exact aQ [_,_,_] (.c 1 (.a (.v 0) (.a (.v 1) (.n 1))) (.n 20) (.c 1 (.v 2) (.a (.v 0) (.n 1)) .nil)) 0 (.a (.v 2) (.v 1)) (.n 20) tt hz this) h h'
end
theorem GR{D:cR}{c:Wr}{dc:List Nat}{lv:List (Option Bool)}(h:aE (GQ D (D.N base.length) aD) dc lv):∃LM:List (List V),aE (λl xs=>(mm D base c aD)[l]?=some (.list xs)) (dc.map λj=>D.N base.length+j) LM/\aE (λxs o=>aE (O4 (mm D base c aD)) xs (TL D o)) LM lv:=by
 induction h with
 |nil=>exact⟨[],.nil,.nil⟩
 | @cons j o _ _ h hr T=>
  refine bx T λLM h1 h2=>?_;try clear T
  cases o with
  |none=>exact⟨[]::LM,.cons (aY h) h1,.cons .nil h2⟩
  |some s=>
   refine bx h λt h3 h4=>?_;try clear h
   exact⟨[.loc (D.N base.length+t)]::LM,.cons (aY h3) h1,.cons (.cons ⟨_,rfl,aY h4⟩ .nil) h2⟩
theorem JD{D:cR}{mem:List O}{LM:List (List V)}{lv:List (Option Bool)}(h:aE (λxs o=>aE (O4 mem) xs (TL D o)) LM lv):aE (O4 mem) LM.flatten (lv.flatMap (TL D)):=by
 induction h with
 |nil=>exact .nil
 |cons h hr T=>rw[List.flatten_cons,gO];exact h.append T
theorem Ng{D:cR}(lv:List (Option Bool)):(lv.flatMap (TL D)).length<=lv.length:=by
 induction lv with
 |nil=>exact aF _
 |cons o r T=>
  rw[gO,ak,aJ,gz];refine gU T ?_;cases o with
  |none=>exact aW _
  |some s=>exact aF _
section
variable {k:Nat}
theorem JE(o:Option Bool)(l:Lc):(eO o l).length<=4:=by rcases o with _|_|_<;>cases l<;>decide+kernel
theorem JF(o:Option Bool)(l:Lc):d3 ⟨(fR (eO o l).cps.toList none (some 1)).toArray⟩ "{"=o.isSome:=by rcases o with _|_|_<;>cases l<;>kernel_rfl
theorem JG(s:Bool)(l:Lc):Txt.rsplitMax ⟨(fR (eO (some s) l).cps.toList (some 1) none).toArray⟩ "}" 1=[np s,l.s]:=by cases s<;>cases l<;>decide+kernel
theorem aab(s:Bool)(l:Lc):(bw ((⟨(fR (eO (some s) l).cps.toList (some 1) none).toArray⟩:Str).length+2)&&Nat.ble 1 ("}":Str).length&&Nat.ble (1:Int).natAbs 1000000)=true:=by cases s<;>cases l<;>decide+kernel
theorem GS{mem:List O}{t:Nat}(h:mem[t]?=some (.list xs)):up mem (.loc t)=some xs:=by exact bE h
noncomputable def aac:ad Fl:=L2 λM=>∀{D:cR}{base aD:List O}{c:Wr}{o:Option Bool}{l:Lc}{x:Option V}{r:List (Option V)}{ce Q},(∀X,Q .next ⟨some (bW base)::some (.str (eO o l))::some (.str (CY o))::some (.str l.s)::r,ce,mm D base c (aD++[X])⟩)->
 M ⟨some (bW base)::some (.str (eO o l))::some .none::x::r,ce,mm D base c aD⟩ Q
theorem VH(U:cD P g):NS g (VD P) (k+1) (cB (bh (KK P) 90) 0) aac:=by
 have H:=X8 P;refine NS.c (by exact(ii (aN Uc (ai H 2 rfl) ie) (ab (pM (iG (aN gq (iI (ai H 1 rfl) iH (gI bv)) bz) (bZ .str kr PySem.F.slot_str_rsplit PySem.F.type_str_rsplit B3 (iI (ai H 1 rfl) (gI bv) iH) (ae bz (ae bv ay))) (ng (ae bz (ae (ai H 1 rfl) ay)))) (Js (qH (dz (b8 H 2 rfl) (dz (b8 H 3 rfl) lF))) (he:=by intro _;rfl)) (M:=by intro _;rfl) (hw:=by intro _;rfl)) aC) fk)) ?_;refine pO (@λD base aD c o l x r ce Q h=>?_);have hz:=cM (am (JE o l) (by decide));refine b_ hz ?_;have hb:=JF o l;cases o with
 |none=>refine wR hb ?_;have:=h (.tup [.str "",.str l.s]);rw[<-c_] at this;refine av (gy aR) ?_;exact this
 |some s=>refine vW hb ?_;refine b_ hz ?_;refine b_ (aab s l) ?_;have:=h (.list [.str (np s),.str l.s]);rw[<-c_] at this;have e:=JG s l;revert e;generalize Txt.rsplitMax ⟨(fR (eO (some s) l).cps.toList (some 1) none).toArray⟩ "}" 1=sp;rintro rfl;refine av (GS aR) ?_;exact this
end
structure tE(D:cR):Prop where
 h1:jj D.one
 h2:jj D.two
 h3:D.one≠D.two
 h4:D.one≠"xml"
 h5:D.two≠"xml"
theorem wS:∀{es:List (Str×Str)}{seen:List Str},(∀e∈es,d3 e.1 lg=false)->pi lg es seen=(none,gH seen (es.map (·.2)))
 | [],_,_=>rfl
 |e::es,seen,h=>by show(bif d3 e.1 lg&&_ then _ else pi lg es (jC e.2 seen))=_;rw[h e (.head _)];exact wS λe he=>h e (.tail _ he)
theorem wT{xs:List Str}(h:dN y (jC x xs)=true):dN y xs=true\/y=x:=by
 rw[fS] at h ⊢;unfold jC at h;cases e:dN x xs with
 |true=>rw[e] at h;exact .inl h
 |false=>rw[e] at h;simpa using h
theorem pR:∀{ts xs:List Str},dN y (gH xs ts)=true->dN y xs=true\/y∈ts
 | [],_,h=>.inl h
 |t::r,xs,h=>by
  rcases pR (ts:=r) h with h|h
  ·exact(wT h).imp id λe=>by rw[e];exact .head _
  ·exact .inr (.tail _ h)
theorem wU{p:Str}:∀{es:List (Str×Str)}{seen:List Str},(∀e∈es,e.1=lg↔e.2=p)->(∃e∈es,e.1=lg)->dN p seen=false->∃w,pi lg es seen=(some p,w)
 | [],_,_,⟨_,h,_⟩,_=>by cases h
 |e::es,seen,h1,h2,h3=>by
  show ∃w,(bif d3 e.1 lg&&_ then _ else pi lg es (jC e.2 seen))=_;cases hb:d3 e.1 lg with
  |true=>have:=(h1 e (.head _)).mp ((cq _ _).mp hb);rw[this,h3];exact⟨_,rfl⟩
  |false=>
   have hn:e.1≠lg:=λx=>by rw[(cq _ _).mpr x] at hb;exact yU hb
   refine wU (λe he=>h1 e (.tail _ he)) ?_ ?_
   ·refine bx h2 λe' h4 h5=>?_;try clear h2
    cases h4 with
    |head=>exact absurd h5 hn
    |tail _ h4=>exact⟨e',h4,h5⟩
   ·cases h6:dN p (jC e.2 seen) with
    |false=>rfl
    |true=>
     rcases wT h6 with m|m
     ·rw[h3] at m;exact nB m
     ·exact absurd ((h1 e (.head _)).mpr m.symm) hn
theorem vq{D:cR}{lv:List (Option Bool)}{e:Str×Str}(h:e∈jP D lv):(∃s,some s∈lv/\e=(np s,pf D s))\/e=(("http://www.w3.org/XML/1998/namespace":Str),("xml":Str)):=by
 unfold jP at h;rw[List.mem_append,List.mem_flatMap] at h;rcases h with ⟨o,h1,h2⟩|h
 ·rw[j_] at h1;cases o with
  |none=>cases h2
  |some s=>exact .inl ⟨s,h1,by simpa [TL] using h2⟩
 ·exact .inr (by simpa using h)
theorem Nh{D:cR}{lv:List (Option Bool)}{s:Bool}(h:some s∈lv):(np s,pf D s)∈jP D lv:=by unfold jP;rw[List.mem_append,List.mem_flatMap];exact .inl ⟨some s,List.mem_reverse.mpr h,.head _⟩
theorem tE.short{D:cR}(H:tE D){lv:List (Option Bool)}:∀e∈jP D lv,jj e.2:=λe he=>by
 rcases vq he with ⟨s,_,rfl⟩|rfl
 ·cases s
  ·exact H.h1
  ·exact H.h2
 ·exact⟨by decide+kernel,by decide+kernel⟩
theorem JH(s:Bool):np s≠"http://www.w3.org/XML/1998/namespace"/\np s≠"":=by cases s<;>decide+kernel
theorem JI{s t:Bool}(h:np s=np t):s=t:=by cases s<;>cases t<;>first|rfl|(exact absurd h (by decide+kernel))
theorem tE.EA{D:cR}(H:tE D){lv:List (Option Bool)}{s:Bool}(h:some s∈lv):∃w,pi (np s) (jP D lv) []=(some (pf D s),w):=by
 refine wU (λe he=>?_) ⟨_,Nh h,rfl⟩ rfl;rcases vq he with ⟨t,_,rfl⟩|rfl
 ·refine⟨λe=>by rw[JI e],λe=>?_⟩;cases s<;>cases t<;>first|rfl|(exact absurd e H.h3)|(exact absurd e.symm H.h3)
 ·refine⟨λe=>absurd e.symm (JH s).1,λe=>?_⟩;cases s
  ·exact absurd e.symm H.h4
  ·exact absurd e.symm H.h5
theorem AW{D:cR}{lv:List (Option Bool)}{o:Option Bool}(h:∀s,o=some s->o∉lv):pi (CY o) (jP D lv) []=(none,gH [] ((jP D lv).map (·.2))):=by
 refine wS λe he=>?_;cases hb:d3 e.1 (CY o) with
 |false=>rfl
 |true=>
  have hb:=(cq _ _).mp hb;exfalso;rcases vq he with ⟨t,h1,rfl⟩|rfl
  ·cases o with
   |none=>exact(JH t).2 hb
   |some s=>exact h s rfl (JI hb▸h1)
  ·cases o with
   |none=>exact absurd hb (by decide+kernel)
   |some s=>exact(JH s).1 hb.symm
theorem tE.Ni{D:cR}(H:tE D){lv:List (Option Bool)}:dN "" (gH [] ((jP D lv).map (·.2)))=false:=by
 cases h:dN "" (gH [] ((jP D lv).map (·.2))) with
 |false=>rfl
 |true=>
  rcases pR h with h|h
  ·exact nB h
  ·refine bx (List.mem_map.mp h) λe h1 h2=>?_;have:=(H.short e h1).1;rw[h2] at this;exact absurd this (by decide)
theorem sd:∀{ts xs:List Str},(gH xs ts).length<=xs.length+ts.length
 | [],_=>aF _
 |t::r,xs=>by have h1:=sd (ts:=r) (xs:=jC t xs);have h2:=xM t xs;show(gH (jC t xs) r).length<=xs.length+(r.length+1);exact aQ [_,_,_,_] (.c 1 (.v 0) (.a (.v 1) (.v 2)) (.c 1 (.v 1) (.a (.v 3) (.n 1)) .nil)) 0 (.v 0) (.a (.v 3) (.a (.v 2) (.n 1))) tt h1 h2
theorem JK{D:cR}{lv:List (Option Bool)}:(jP D lv).length<=lv.length+1:=by unfold jP;rw[ak];have:=Ng (D:=D) lv.reverse;rw[dH] at this;show _+1<=_;exact aQ [_,_] (.c 1 (.v 0) (.v 1) .nil) 0 (.a (.v 0) (.n 1)) (.a (.v 1) (.n 1)) tt this
noncomputable def bY(D:cR):Option Bool->Lc->Str
 |none,l=>l.s
 |some s,l=>m8 (pf D s) l.s
noncomputable def qQ(lv:List (Option Bool)):Option Bool->List (Option Bool)
 |none=>lv
 |some s=>bif lv.contains (some s) then lv else lv.dropLast++[some s]
section
variable {k:Nat}
structure v_(D:cR)(N:Nat)(c:Wr)(lv:List (Option Bool))(aD:List O):Prop where
 ok:tE D
 R:RR D N c lv aD
 lv:lv.length<=10
 nz:c.nz.length<=100
structure ni(D:cR)(N:Nat)(c c':Wr)(lv:List (Option Bool))(aD pj:List O):Prop where
 R:RR D N c' lv pj
 keep:sb c.dc aD pj
 le:aD.length<=pj.length
noncomputable def W90:List V->ad V:=L3 λM=>∀{D:cR}{base aD:List O}{c:Wr}{lv:List (Option Bool)}{d0:List Nat}{j:Nat}{o:Option Bool}{l:Lc}{lo ce Q},v_ D (D.N base.length) c lv aD->c.dc=d0++[j]->(∀s,o=some s->o∈lv\/∃l0,lv=l0++[none])->
 (∀pj l',ni D (D.N base.length) c c (qQ lv o) aD pj->pj[l']?=some (.tup [.str (bY D o l),.str l.s,.str (CY o)])->Q (.loc (D.N base.length+l')) ⟨lo,ce,mm D base c pj⟩)->
 M [bW base,.str (eO o l)] ⟨lo,ce,mm D base c aD⟩ Q
theorem iO(l:Lc):jj l.s:=by cases l<;>exact⟨by decide+kernel,by decide+kernel⟩
theorem GQ.more{D:cR}{N:Nat}{xs:List O}{o:Option Bool}(h:GQ D N aD j o):GQ D N (aD++xs) j o:=by
 cases o with
 |none=>exact ac h
 |some s=>
  refine bx h λt h1 h2=>?_;try clear h
  exact⟨t,ac h1,ac h2⟩
theorem RR.more{D:cR}{N:Nat}{c:Wr}{lv:List (Option Bool)}{xs:List O}(h:RR D N c lv aD):RR D N c lv (aD++xs):=⟨h.dl.mono λ_ _ h=>h.more,λj hj=>ac (h.nl j hj),h.nd⟩
theorem ni.start{D:cR}{N:Nat}{c:Wr}{lv:List (Option Bool)}(h:RR D N c lv aD):ni D N c c lv aD aD:=⟨h,sb.refl,aF _⟩
theorem ni.more{D:cR}{N:Nat}{c c':Wr}{lv:List (Option Bool)}{pj:List O}(h:ni D N c c' lv aD pj)(xs:List O):ni D N c c' lv aD (pj++xs):=⟨h.R.more,h.keep.trans sb.app,am h.le (by rw[ak];exact gR _ _)⟩
theorem aE.snoc_inv{R:α->β->Prop}{l:List α}{m:List β}{a:α}{b:β}(h:aE R (l++[a]) (m++[b])):aE R l m/\R a b:=by
 have Z:l.length=m.length:=by have:=h.len;simpa using this
 have h1:=h.take l.length;have h2:=h.drop l.length;rw[List.take_left,Z,List.take_left] at h1;rw[List.drop_left,Z,List.drop_left] at h2;cases h2 with
 |cons h3 _=>exact⟨h1,h3⟩
theorem aE.AX{R S:α->β->Prop}{l:List α}{m:List β}(h:aE R l m):(∀a b,a∈l->R a b->S a b)->aE S l m:=by
 induction h with
 |nil=>exact λ_=>.nil
 |cons x y T=>exact λh=>.cons (h _ _ (.head _) x) (T λa b ha=>h a b (.tail _ ha))
theorem RR.put{D:cR}{N:Nat}{c:Wr}{R:List O}{d0:List Nat}(s:Bool)(h:RR D N c (l0++[none]) R)(hd:c.dc=d0++[j]):R[j]?=some (.list [])/\RR D N c (l0++[some s]) ((R++[O.tup [.str (np s),.str (pf D s)]]).set j (.list [.loc (N+R.length)]))/\sb c.dc R ((R++[O.tup [.str (np s),.str (pf D s)]]).set j (.list [.loc (N+R.length)])):=by
 obtain⟨h1,hnl,nc⟩:=h;rw[hd] at h1 nc ⊢;refine xA (aE.snoc_inv h1) λh2 h3=>?_;clear h1;replace h3:R[j]?=some (.list []):=h3;have hj:=(List.getElem?_eq_some_iff.mp h3).1;have p5:∀{i:Nat}{o:O},i≠j->R[i]?=some o->((R++[O.tup [.str (np s),.str (pf D s)]]).set j (.list [.loc (N+R.length)]))[i]?=some o:=λhi e=>by rw[c6 (bM hi)];exact ac e
 have VI:=nc;rw[au] at VI;have VJ:=List.nodup_append.mp VI;have VK:GQ D N ((R++[O.tup [.str (np s),.str (pf D s)]]).set j (.list [.loc (N+R.length)])) j (some s):=by
  refine⟨R.length,?_,?_⟩
  ·rw[fF (by rw[ak];exact Nat.lt_add_right _ hj)]
  ·rw[c6 (bL hj)];exact aR
 have IR:aE (GQ D N ((R++[O.tup [.str (np s),.str (pf D s)]]).set j (.list [.loc (N+R.length)]))) d0 l0:=h2.AX λi o hi S=>by
  have VL:=VJ.2.2 i hi j (.head _);cases o with
  |none=>exact p5 VL S
  |some u=>
   refine bx S λt h4 h5=>?_;try clear S
   exact⟨t,p5 VL h4,p5 (λx=>by rw[x,h3] at h5;cases h5) h5⟩
 refine⟨h3,⟨by rw[hd];exact IR.append (.cons VK .nil),λi hi=>p5 (λx=>?_) (hnl i hi),by rw[hd];exact nc⟩,λi o e hi=>p5 (λx=>hi (by rw[x];simp)) e⟩;subst x;exact(List.nodup_cons.mp VJ.2.1).1 hi
theorem n3{lv:List (Option Bool)}{s:Bool}(h:some s∈lv):qQ lv (some s)=lv:=by refine(?_ :(bif lv.contains (some s) then lv else _)=_);rw[List.contains_iff_mem.mpr h];rfl
theorem vr{s:Bool}(h:some s∉l0++[none]):qQ (l0++[none]) (some s)=l0++[some s]:=by refine(?_ :(bif (l0++[none]).contains (some s) then _ else(l0++[none]).dropLast++[some s])=_);have:=Bool.eq_false_iff.mpr λe=>h (List.contains_iff_mem.mp e);rw[this,lR];rfl
theorem JL{b:List O}{x y z w:O}:(b++[x,y,z,w])[b.length+3]?=some w:=by simp
theorem JM{A:List α}{x:α}{n:Nat}(h:A.length=n):(A++[x])[n]?=some x:=by subst h;simp
noncomputable def VM:Jz 1:=⟨_,λU H=>by exact(aP H 4 rfl (b7 (λ_ _ _=>fW) Iu (bG U H 0 3 rfl rfl (by kernel_rfl)) ay))⟩
noncomputable def VN:Jz 2:=⟨_,λU H=>by exact(mf (md (cA U).cls (gJ U) (O2 U) (ai H 0 rfl) (ae (dy (cA U) 9 rfl (ai H 0 rfl)) ay)) (qH (dz (b8 H 5 rfl) (dz (b8 H 6 rfl) lF))) (VE U))⟩
noncomputable def VO:Jz 3:=⟨_,λU H=>by exact(ii (a7 (dy (cA U) 6 rfl (ai H 0 rfl))) fk aC)⟩
noncomputable def VP:Jz 4:=⟨_,λU H=>by exact(ii (cG (bN (nR (a7 (ai H 2 rfl))) (bN (aN uC bz (ai H 4 rfl)) gD))) (ab (cP (ng (ae (ai H 3 rfl) (ae (ai H 3 rfl) (ae (ai H 2 rfl) ay))))) aC) aC)⟩
noncomputable def VQ:Jz 5:=⟨_,λU H=>by exact(mf (md (cA U).cls (gJ U) (O2 U) (ai H 0 rfl) (ae (dy (cA U) 10 rfl (ai H 0 rfl)) ay)) (qH (dz (b8 H 5 rfl) (dz (b8 H 6 rfl) lF))) (VF U))⟩
theorem JN{D:cR}{c:Wr}(h:∀j∈c.nz,aD[j]?=some (.list [])):∃(ls:List Nat)(rs:List (List V)),vn D base.length c.nz=ls.map .loc/\ls.length=c.nz.length+2/\aE (λl xs=>(mm D base c aD)[l]?=some (.list xs)) ls.reverse rs/\rs.flatten=D.L base.length 16::D.L base.length 17::((List.range 7).map λi=>D.L base.length (5+i)):=by
 have hnl:∀(js:List Nat),(∀j∈js,j∈c.nz)->aE (λl xs=>(mm D base c aD)[l]?=some (.list xs)) (js.map λj=>D.N base.length+j) (List.replicate js.length []):=λjs=>by
  induction js with
  |nil=>exact λ_=>.nil
  |cons j js T=>exact λhh=>.cons (aY (h j (hh j (.head _)))) (T λj hj=>hh j (.tail _ hj))
 refine⟨D.A base.length 12::D.A base.length 13::c.nz.map λj=>D.N base.length+j,List.replicate c.nz.length []++[[D.L base.length 16,D.L base.length 17],(List.range 7).map λi=>D.L base.length (5+i)],?_,?_,?_,?_⟩
 ·unfold vn cR.L;simp
 ·simp
 ·rw[eP,eP,au];have h9:=hnl c.nz.reverse λj hj=>List.mem_reverse.mp hj;rw[dH,gS] at h9;exact h9.append (.cons (CV 13 rfl) (.cons (CV 12 rfl) .nil))
 ·rw[List.flatten_append,List.flatten_replicate_nil];rfl
theorem JO{D:cR}{c:Wr}{lv:List (Option Bool)}(h:aE (GQ D (D.N base.length) aD) c.dc lv):∃(ls:List Nat)(rs:List (List V)),r8 D base.length c.dc=ls.map .loc/\ls.length=lv.length+1/\aE (λl xs=>(mm D base c aD)[l]?=some (.list xs)) ls.reverse rs/\aE (O4 (mm D base c aD)) rs.flatten (jP D lv):=by
 refine bx (GR (c:=c) h) λLM p q=>?_;refine⟨D.A base.length 1::c.dc.map λj=>D.N base.length+j,LM.reverse++[[D.L base.length 0]],?_,?_,?_,?_⟩
 ·unfold r8 cR.L;simp
 ·rw[aJ,ax,h.len]
 ·rw[eP];exact p.reverse.append (.cons (CV 1 rfl) .nil)
 ·rw[List.flatten_append];exact(JD q.reverse).append (.cons ⟨_,rfl,CV 0 rfl⟩ .nil)
theorem JP(U:cD P g):cO g (k+2) (.ref 90) W90:=by
 have H:=X8 P;refine qM U H (NB.at rfl (by exact(ab (VH U) (ab (VM.2 U H) (ab (VN.2 U H) (ab (VO.2 U H) (ab (VP.2 U H) (ab (VQ.2 U H) fk)))))))) [.none] [.none] (λ_=>.cons rfl .nil) rfl (by kernel_rfl) (λa b S=>rfl) ?_;refine kW (@λD base aD c lv d0 j o l lo ce Q hq9 h2 h5 h=>?_);obtain⟨G,hR,h3,h4⟩:=hq9;refine⟨_,_,rfl,λ_ E=>E λX=>?_⟩;have T1:=(ni.start hR).more [X];revert T1;generalize aD++[X]=u;intro T1;refine ub (JO (base:=base) T1.R.dl) λls rs e1 e2 e3 hE=>?_;have m:=JK (D:=D) (lv:=lv);have r:=hE.len;refine Ey D base c u [.set []] (n:="_iter_namespaces") (.e_ (.ref 250)) (by kernel_rfl) rfl ?_;refine Ey D base c u [.set []] (n:="_declared_ns_stack") (D.L base.length 2) (by kernel_rfl) rfl ?_;refine λ_ E=>E (ls:=ls) (rs:=rs) ?_ (e3.mono λl xs h=>ac h) (aQ [_,_] (.c 1 (.v 0) (.n 10) (.e 1 (.v 1) (.a (.v 0) (.n 1)) .nil)) 0 (.v 1) (.n 1000) tt h3 e2) (aQ [_,_,_] (.c 1 (.v 0) (.n 10) (.c 1 (.v 1) (.a (.v 0) (.n 1)) (.e 1 (.v 2) (.v 1) .nil))) 0 (.v 2) (.n 10000) tt h3 m r) ?_
 ·rw[c_,<-e1];exact CV 2 rfl
 refine⟨rs.flatten.length+1,?_⟩;clear e3;generalize rs.flatten=fl at hE r;refine(?_ :gr (bj ((mm D base c u++[O.set []]).length+1)) (Nf 5 6) JB (fl.length+1) 0 ⟨qL (bW base) (.str (eO o l)) (CY o) l.s (mm D base c u).length none none [none,none,none],[],(mm D base c u++[O.set []])++[O.list _,O.list fl]⟩ _);rw[c_,c_,fq,fq,au,ak];generalize List.map V.loc ls.reverse=rv;refine VG (iO l) hE 0 [] none none rfl G.short (by rw[fK];exact aQ [_,_] (.c 1 (.v 0) (.n 10) (.c 1 (.v 1) (.a (.v 0) (.n 1)) .nil)) 0 (.a (.n 0) (.v 1)) (.n 20) tt h3 m) (λp w x5 x6 e=>?_) (λw x5 x6 e=>?_)
 ·by_cases q:∃s,o=some s/\o∈lv
  ·refine bx q ?_;try clear q
   intro s Y q;obtain rfl:=Y;refine xE (G.EA q) λVS e'=>?_;cases e'.symm.trans e;exact h _ (u.length+3) (by rw[n3 q];exact T1.more _) JL
  ·have e':=AW (D:=D) (lv:=lv) (o:=o) λs e h=>q ⟨s,e,h⟩;cases (Prod.mk.inj (e'.symm.trans e)).1
 ·by_cases q:∃s,o=some s/\o∈lv
  ·refine bx q ?_;try clear q
   intro s Y q;obtain rfl:=Y;refine xE (G.EA q) λVS e'=>?_;cases (Prod.mk.inj (e'.symm.trans e)).1
  have e':=AW (D:=D) (lv:=lv) (o:=o) λs e h=>q ⟨s,e,h⟩;obtain rfl:=(Prod.mk.inj (e'.symm.trans e)).2;clear e e' hE;have hz:(gH [] ((jP D lv).map (·.2))).length<=30:=by have:=sd (ts:=(jP D lv).map (·.2)) (xs:=[]);rw[ax,fK] at this;exact aQ [_,_,_] (.c 1 (.v 0) (.n 10) (.c 1 (.v 1) (.a (.v 0) (.n 1)) (.c 1 (.v 2) (.a (.n 0) (.v 1)) .nil))) 0 (.v 2) (.n 30) tt h3 m this
  have hE2:=G.Ni (lv:=lv);revert hz hE2;generalize gH [] ((jP D lv).map (·.2))=sn;intro hz hE2;refine ca D base c _ (n:="_rewrite_prefixes") (.bool false) (by kernel_rfl) rfl ?_;cases o with
  |none=>refine CZ (K:=λb=>br (!b) _ _) (aY aR) hz (vW (by rw[hE2];rfl) ?_);refine(?_ :Q (.loc (mm D base c _).length) ⟨lo,ce,mm D base c _++[.tup [.str l.s,.str l.s,.str (CY none)]]⟩);rw[fq,c_];exact h _ _ ((T1.more _).more _) aR
  |some s=>
   have hn:some s∉lv:=λx=>q ⟨s,rfl,x⟩;refine xE ((h5 s rfl).resolve_left hn) λl0 Y=>?_;obtain rfl:=Y;refine b_ (by cases s<;>decide+kernel) (wR (by cases s<;>decide+kernel) ?_);have T2:=T1.more [O.set sn,.list rv,.list fl];clear q h5;revert T2;generalize u++[O.set sn,.list rv,.list fl]=d;intro T2;refine ub (JN (D:=D) (base:=base) T2.R.nl) λls rs e1 e2 e3 e4=>?_;refine ca D base c d (.e_ (.ref 250)) (by kernel_rfl) rfl ?_;refine ca D base c d (D.L base.length 3) (by kernel_rfl) rfl ?_;refine λ_ E=>E (by rw[<-e1];exact CV 3 rfl) e3 (aQ [_,_] (.c 1 (.v 0) (.n 100) (.e 1 (.v 1) (.a (.v 0) (.n 2)) .nil)) 0 (.v 1) (.n 1000) tt h4 e2) (by rw[e4];exact(by decide:(9:Nat)<=10000)) ⟨3,?_⟩;rw[e4];generalize ((List.range 7).map λi=>D.L base.length (5+i))=f7;generalize List.map V.loc ls.reverse=X9;clear e1 e2 e3 e4;refine(?_ :gr (bj ((mm D base c d).length+1)) (Nf 5 6) O3 3 0 ⟨qL (bW base) (.str (eO (some s) l)) (np s) l.s (D.N base.length+u.length) x5 x6 [none,none,none],[],mm D base c d++[O.list X9,O.list (D.L base.length 16::D.L base.length 17::f7)]⟩ _);rw[c_,fq,c7];have OS:(d++[O.list X9,O.list (D.L base.length 16::D.L base.length 17::f7)])[d.length+1]?=some (O.list (D.L base.length 16::D.L base.length 17::f7)):=gx;have T3:=T2.more [O.list X9,O.list (D.L base.length 16::D.L base.length 17::f7)];revert OS T3;generalize d++[O.list X9,O.list (D.L base.length 16::D.L base.length 17::f7)]=f;intro OS T3;refine t_ (T3.R.put s h2) λp1 p2 p3=>?_;have hd0:d0.length<=100:=by have h6:=hR.dl.len;rw[h2,ak] at h6;exact aQ [_,_,_] (.c 1 (.v 0) (.n 10) (.e 1 (.a (.v 1) (.v 2)) (.v 0) .nil)) 0 (.v 1) (.n 100) tt h3 h6
   have fin:=h ((f++[O.tup [.str (np s),.str (pf D s)]]).set j (.list [.loc (D.N base.length+f.length)])++[.tup [.str (m8 (pf D s) l.s),.str l.s,.str (np s)]]) (f.length+1) (by
    rw[vr hn];have Z:((f++[O.tup [.str (np s),.str (pf D s)]]).set j (.list [.loc (D.N base.length+f.length)])).length=f.length+1:=by rw[dS,ak];rfl
    exact(ni.mk p2 (T3.keep.trans p3) (by rw[Z];exact iq T3.le)).more _) (JM (by rw[dS,ak];rfl))
   refine fm (ba (aY OS) rfl) ?_;refine av (gy (CV 16 rfl)) ?_;refine λ_ E=>E h2 hd0 p1 G.h1 (iO l) ?_;cases s with
   |false=>exact vW (by kernel_rfl) fin
   |true=>refine wR (by kernel_rfl) ?_;refine fm (ba (aY OS) rfl) ?_;refine av (gy (CV 17 rfl)) ?_;refine λ_ E=>E h2 hd0 p1 G.h2 (iO l) ?_;exact vW (by kernel_rfl) fin
end
noncomputable def dE(ts:List Str):Str:=Txt.join "" ts
noncomputable def kX(ts:List Str):Nat:=(ts.map (·.length)).sum
theorem GT(h:kX ts<=100000):JoinOk "" ts=true:=by unfold JoinOk;rw[StrLaws.joinTotal,gQ];refine(?_ :decide (kX ts+ts.length*0>2 ^ 24)=false);rw[Nat.mul_zero];exact dR (Nat.not_lt.mpr (am h (by decide)))
theorem fD(ts:List Str):ch (dE ts)=ts.flatMap ch:=by
 unfold dE Txt.join;rw[StrLaws.glued_eq_join];induction ts with
 |nil=>rfl
 |cons x r T=>
  cases r with
  |nil=>simp[Str.join]
  |cons y r=>refine(?_ :ch (x++""++Str.join "" (y::r))=_);rw[mh,mh,T];simp only[gO];exact ag (· ++_) (aS _)
theorem qR(ts:List Str):(dE ts).length=kX ts:=by rw[pP,fD,List.length_flatMap];unfold kX;congr 1
section
variable {k:Nat}
theorem EC{lo:List (Option V)}(h:me[l]?=some (.list (ts.map .str)))(hz:kX ts<=100000)(q:Q (.str (dE ts)) ⟨lo,ce,me⟩):aA (dC me (.loc l)) λp=>aA (kH p.2) λts=>gd (JoinOk "" ts) (Q (.str (Txt.join "" ts)) ⟨lo,ce,me⟩):=av (cV h) (av (l6 ts) (b_ (GT hz) q))
theorem VT(U:cD P g):gc g k (λv vs σ Q=>gd (uI 98 v) (Io (.str ""::vs) σ Q)):=by
 have ha:∃t,(KK P).lookup 98=some {cls:=.type "builtin_function_or_method",data:=.fields #[.builtin "str.join",.str "" t]}:=⟨_,by rfl⟩;refine xE ha ?_;try clear ha
 intro t ha;have hb:=g.X _ _ (by rw[U.K];exact ha);exact OA 98 (λM h X=>uJ (X _ _ hb)) (Gc hb)
noncomputable abbrev F97 (P:Params):df:=fb (KK P) 97 ["self","data"] []
theorem K97(P:Params):cc (F97 P) [] .cell:=ik (by kernel_rfl)
noncomputable def W97:List V->ad V:=L3 λM=>∀{D:cR}{base aD:List O}{c:Wr}{x:Str}{lo ce Q},c.da.length<=1000->br (c.dD==0) (Q .none ⟨lo,ce,mm D base {c with da:=c.da++[x]} aD⟩) (Q .none ⟨lo,ce,mm D base c aD⟩)->
 M [bW base,.str x] ⟨lo,ce,mm D base c aD⟩ Q
theorem AY{D:cR}{c:Wr}:(mm D base c aD)[base.length+4]?=some (.list (c.da.map .str)):=AT 4 rfl
theorem JQ{D:cR}{c:Wr}(xs:List Str):(mm D base c aD).set (base.length+4) (.list (xs.map .str))=mm D base {c with da:=xs} aD:=CW 4 (by decide) rfl rfl
theorem Rz{D:cR}{c:Wr}{lo:List (Option V)}(hz:c.da.length<=10000)(q:Q .none ⟨lo,ce,mm D base {c with da:=c.da++[x]} aD⟩):aA (dC (mm D base c aD) (.loc (base.length+4))) λp=>gd (bw p.2.length) (Q .none ⟨lo,ce,(mm D base c aD).set p.1 (.list (p.2++[.str x]))⟩):=iN AY (by rw[ax];exact hz) (by rw[show(c.da.map V.str++[.str x])=(c.da++[x]).map V.str by simp,JQ];exact q)
theorem RB{D:cR}{c:Wr}{lo:List (Option V)}{Q:Fl->St->Prop}(hz:c.da.length<=10000)(q:Q .next ⟨lo,ce,mm D base {c with da:=[]} aD⟩):aA (dC (mm D base c aD) (.loc (base.length+4))) λp=>gd (bw p.2.length) (Q .next ⟨lo,ce,(mm D base c aD).set p.1 (.list [])⟩):=av (cV AY) (b_ (cM (by rw[ax];exact hz)) (by rw[show(O.list [])= .list (([]:List Str).map V.str) from rfl,JQ];exact q))
theorem RD(U:cD P g):cO g (k+1) (.ref 97) W97:=by have H:=K97 P;refine qM U H (NB.at rfl (by exact(ab (ii (nR (a7 (dy (cA U) 16 rfl (ai H 0 rfl)))) (ab (cZ (bZ .list bD cJ b0 bB (dy (cA U) 1 rfl (ai H 0 rfl)) (ae (ai H 1 rfl) ay))) aC) aC) aC))) [] [] (λ_=>.nil) rfl (by kernel_rfl) (λa b S=>rfl) ?_;refine kW (@λD base aD c x lo ce Q hz h=>?_);refine⟨_,_,rfl,?_⟩;refine o3 ?_;refine ca D base c aD (.int c.dD) (by kernel_rfl) rfl ?_;refine nV (Bool.not_not _) h (λh=>?_) id;refine ca D base c aD (.loc (base.length+4)) (by kernel_rfl) rfl ?_;refine b_ (bk AY) ?_;exact Rz (am hz (by decide)) h
noncomputable def bp(c:Wr):Wr:={c with da:=[],pc:=bif !(Nat.beq (dE c.da).length 0)&&c.seen then c.pc++[mN (dE c.da)] else c.pc}
theorem AZ{c:Wr}(e:(!(Nat.beq (dE c.da).length 0))=true)(e':c.seen=true):bp c={c with da:=[],pc:=c.pc++[mN (dE c.da)]}:=by unfold bp;rw[e,e'];rfl
theorem vt{c:Wr}(e:(!(Nat.beq (dE c.da).length 0)&&c.seen)=false):bp c={c with da:=[]}:=by unfold bp;rw[e];rfl
noncomputable abbrev aaf (P:Params):df:=fb (KK P) 106 ["self","_join_text","data","args","qname_text"] []
theorem aag(P:Params):cc (aaf P) ["_escape_cdata_c14n"] .cell:=ik (by kernel_rfl)
noncomputable def aah:List V->ad V:=L3 λM=>∀{D:cR}{base aD:List O}{c:Wr}{lo ce Q},c.da.length<=1000->kX c.da<=10000->c.pc.length<=10000->Q .none ⟨lo,ce,mm D base (bp c) aD⟩->M [bW base] ⟨lo,ce,mm D base c aD⟩ Q
theorem ED(U:cD P g):cO g (k+2) (.ref 106) aah:=by
 have H:=aag P;refine lh U H (NB.at rfl (by exact(ab (aP H 2 rfl (mc (VT U) (ai H 1 rfl) (ae (dy (cA U) 1 rfl (ai H 0 rfl)) ay))) (ab (M2 (dy (cA U) 1 rfl (ai H 0 rfl))) (ab (ii (cG (bN (a7 (dy (cA U) 3 rfl (ai H 0 rfl))) (bN rY gD))) fk aC) (ab (ii (aN jz (dy (cA U) 13 rfl (ai H 0 rfl)) ie) fk aC) (ab (ii (cG (bN (a7 (ai H 2 rfl)) (bN (a7 (dy (cA U) 14 rfl (ai H 0 rfl))) gD))) (ab (cZ (md (cA U).cls (wQ U) uL (ai H 0 rfl) (ae (b7 (g7 U (by kernel_rfl)) (Na U).ok (kU U H 0 9 rfl rfl) (ae (ai H 2 rfl) ay)) ay))) aC) aC) aC))))))) [.e_ (.ref 98)] [.ref 98] (λ_=>.cons rfl .nil) rfl (by kernel_rfl) (λa S=>rfl) ?_;refine kW (@λD base aD c lo ce Q h1 h2 h3 h=>?_);refine⟨_,rfl,?_⟩;refine o3 ?_;refine ca D base c aD (.loc (base.length+4)) (by kernel_rfl) rfl ?_;refine EC AY (am h2 (by decide)) ?_;refine ca D base c aD (.loc (base.length+4)) (by kernel_rfl) rfl ?_;refine RB (am h1 (by decide)) ?_;refine ca D base {c with da:=[]} aD (.bool false) (by kernel_rfl) rfl ?_;refine ca D base {c with da:=[]} aD .none (by kernel_rfl) rfl ?_;refine b_ (cM (by rw[qR];exact h2)) ?_;refine bu (λe=>?_) (λe=>?_)
 ·refine ca D base {c with da:=[]} aD (.bool c.seen) (by kernel_rfl) rfl ?_;refine bu (λe'=>?_) (λe'=>?_)
  ·rw[AZ e e'] at h;refine ca D base {c with da:=[]} aD (.loc (base.length+1)) (by kernel_rfl) rfl ?_;refine λ_ E=>E (by rw[qR];exact h2) ?_;exact nY D base {c with da:=[]} aD h3 h
  ·rw[vt (by rw[e,e'];rfl)] at h;exact h
 ·rw[vt (by rw[e];rfl)] at h;exact h
end
noncomputable def eqO(o:Option Str)(x:Str):Bool:=match o with
 |some y=>d3 y x
 |none=>false
theorem JR{o:Option Str}(h:eqO o x=true):o=some x:=by
 cases o with
 |none=>exact nB h
 |some y=>exact ag some ((cq _ _).mp h)
noncomputable def O5(ps:List Str)(p:Str×Option Nat):Bool:=match p.2 with
 |some j=>eqO ps[j]? p.1
 |none=>true
noncomputable def O6(ps:List Str)(p:Str×Option Nat):Bool:=match p.2 with
 |some _=>true
 |none=>!(dN p.1 ps)
noncomputable def x_(F:df)(ps:List Str)(lm cm:List (Option Nat)):Bool:=Nat.beq lm.length F.names.length&&Nat.beq cm.length F.cells.length&&(F.names.zip lm).all (O5 ps)&&(F.cells.zip cm).all (O5 ps)&&(F.cells.zip cm).all (O6 ps)&&mK ps&&
 ps.all λx=>decide (F.scope.names.lookup x=some .local)||dN x F.cells
theorem C0{xs:List Str}{m:List (Option Nat)}{o:Option Nat}(h1:xs[i]?=some x)(h2:m[i]?=some o):(x,o)∈xs.zip m:=ef (List.getElem?_zip_eq_some.mpr ⟨h1,h2⟩)
theorem RE{ps:List Str}{lm cm:List (Option Nat)}(H:cc F gs .cell)(h:x_ F ps lm cm=true)(hc:∀n:Nat,cellsFrom n F.scope.names []=((F.cells.zip ((List.range F.cells.length).map (n+ ·)))).reverse):Cv F ps lm cm:=by
 unfold x_ at h;simp only[aM,i7] at h;obtain⟨⟨⟨⟨⟨⟨h1,h2⟩,h3⟩,h4⟩,h5⟩,h6⟩,m⟩:=h;have e2:=bK h2;refine⟨bK h1,e2,λi x j e1 e2=>JR (h3 _ (C0 e1 e2)),λi x j e1 e2=>JR (h4 _ (C0 e1 e2)),λi x e1 e2 B=>?_,λx B=>(H.loc B).1,λx B=>(H.cell B).1,ma h6,λx B=>?_,hc,H.ZI⟩
 ·have:=h5 _ (C0 e1 e2);rw[show O6 ps (x,none)= !(dN x ps) from rfl,(fS _ _).mpr B] at this;exact nB this
 ·have:=m x B;rw[Bool.or_eq_true] at this;exact this.imp ip λh=>(fS _ _).mp h
section
variable {k:Nat}
theorem EE(U:cD P g){f:Addr}{cells:List Str}(H:cc (fb (KK P) f names cells) gs .cell)(hb:NB g (fb (KK P) f names cells) k (bh (KK P) f) W)(n:Nat)(dflt:List V)(ps:List Str)(lm cm:List (Option Nat))(C:x_ (fb (KK P) f names cells) ps lm cm=true) (L:∀n:Nat,cellsFrom n (bR (KK P) f).scope.names []=((cells.zip ((List.range cells.length).map (n+ ·)))).reverse)(ho:(KK P).lookup f=some ⟨oc,od,.func (fnOf name qn params (bh (KK P) f) (bR (KK P) f).scope dV kV fw pm an (bR (KK P) f).code ct),zp⟩)(hc:(codeIn (KK P) (bR (KK P) f).code qn&&d3 (bR (KK P) f).qualname qn&& !(bR (KK P) f).scope.isCoroutine&& !(bR (KK P) f).scope.isGenerator)=true) (QZ:ps.length=n+dflt.length)(m:∀(s:Shared)(us:List Value),(KK P).In s.heap->us.length=n->∃ds,(∀wd,aE (VR wd) dflt ds)/\BindsTo s (fnOf name qn params (bh (KK P) f) (bR (KK P) f).scope dV kV fw pm an (bR (KK P) f).code ct) ⟨us,[]⟩ (ps.zip (us++ds)))(J:∀vs σ Q,W' vs σ Q->vs.length=n/\W ⟨lm.map (Y1 (vs++dflt)),(List.range cells.length).map (σ.mem.length+ ·),σ.mem++cm.map (uZ (vs++dflt))⟩ (oZ Q σ.loc σ.ix)):cO g (k+1) (.ref f) W':=by
 simp only[aM,gQ] at hc;obtain⟨⟨⟨h1,h2⟩,h3⟩,h4⟩:=hc;have Y:=(cq _ _).mp h2;refine cO.conv (xG hb.run (RE H C L) (by rw[U.K];exact ho) (by rw[U.K];exact h1) (by show(bR (KK P) f).qualname++_=_;rw[Y]) n dflt QZ (by rw[U.K];exact m) h3 h4 H.kind) λvs σ Q h=>?_
 refine xA (J vs σ Q h) λe h'=>?_;exact b_ (by rw[e];exact hZ _) h'
theorem gc.conv{W W':V->List V->ad V}(h:gc g k W)(J:∀v vs σ Q,W' v vs σ Q->W v vs σ Q):gc g k W':=⟨λF d wd σ s v u vs Q R hv h'=>h.1 F d wd σ s v u vs Q R hv (J v vs σ Q h'),λF d A af v u vs us hr hv D=>bb.conv (h.2 F d A af v u vs us hr hv D) (J v vs)⟩
theorem JS{mem:List O}{t:Nat}{ls:List Nat}(h:mem[l]?=some (.fn t ls)):UP t mem (.loc l)=some ls:=by refine(?_ :Y7 t mem[l]?=_);rw[h];refine(?_ :cond (Nat.beq t t) (some ls) none=_);rw[hZ];rfl
noncomputable def RF:V->List V->ad V:=L4 λM=>∀{l:Nat}{x:Str}{lo ce me Q},me[l]?=some (.fn 1 [])->x.length<=10000->(∀ps:List Str,Q (.loc me.length) ⟨lo,ce,me++[.list (ps.map .str)]⟩)->M (.loc l) [.str x] ⟨lo,ce,me⟩ Q
theorem NE.at{VU f:PySem.Expr}{a:List PySem.Expr}{kw:List Keyword}{pos:Pos}{W:ad V}(e:VU= .Call f a kw pos)(h:NE g F k (.Call f a kw pos) W):NE g F k VU W:=e▸h
noncomputable def VV(P:Params)(c:Value):df:=⟨GN++".<locals>.",c,(pN P).scope,["n"],[]⟩
theorem aai(U:cD P g):gc g (k+1) RF:=by
 have H:∀c,cc (VV P c) [] .cell:=λc=>ik (by kernel_rfl);have hb:∀c,NE g (VV P (.ref c)) k (M4 P) _:=λc=>NE.at rfl (bZ .str kr PySem.F.slot_str_split PySem.F.type_str_split F1 (ai (H (.ref c)) 0 rfl) (ae bz (ae bv ay)));refine gc.conv (UR (λc=>(hb c).run) U.fo1 U.tq1 rfl (U.ff1.trans (by kernel_rfl)) 1 (λus fy pm cd ij Z=>by obtain⟨a,rfl⟩:=List.length_eq_one_iff.mp Z;rfl)
  (H .none).nd (H .none).ZI (λx B=>((H .none).loc B).1) (λx B e=>nB ((ag (λq=>!(q==NameKind.cell)) e).symm.trans (List.all_eq_true.mp (show((pN P).scope.names.all λx=>!(x.2== .cell))=true by kernel_rfl) x B))) (by kernel_rfl) (by kernel_rfl) (by kernel_rfl)) ?_
 refine Rx (@λl x lo ce me Q h1 h2 h=>?_);refine av (JS h1) ?_;refine b_ (b:=bw (x.length+2)&&Nat.ble 1 ("}":Str).length&&Nat.ble (1:Int).natAbs 1000000) ?_ (h _);rw[aM,aM];exact⟨⟨cT (aQ [_] (.c 1 (.v 0) (.n 10000) .nil) 0 (.a (.v 0) (.n 2)) (.n 16777216) tt h2),rfl⟩,rfl⟩
def pqW(v:V)(vs:List V):ad V:=λσ Q=>aA (zY 90 σ.mem v) λself=>W90 (self::vs) σ Q
theorem RG(U:cD P g):gc g (k+2) pqW:=QE 90 (by rw[U.K];kernel_rfl) (JP U)
theorem Nj{ps:List Str}(ts:List O):Ay ((me++[.list (ps.map .str)])++ts) (.loc me.length)=true:=by refine(?_ :((sL ((me++[.list (ps.map .str)])++ts)[me.length]?).bind kH).isSome=true);rw[ac aR];refine(?_ :(kH (ps.map .str)).isSome=true);rw[l6];rfl
theorem Nk{lo:List (Option V)}{lf:Nat}{K:List V->St->Prop}:∀(I:List Str)(ks:List V)(me:List O),me[lf]?=some (.fn 1 [])->(∀y∈I,y.length<=10000)->(∀ts,ks.all (Ay (me++ts))=true)-> (∀ts kv,kv.all (Ay (me++ts))=true->K kv ⟨lo,ce,me++ts⟩)->u0 RF (.loc lf) (I.map .str) ks ⟨lo,ce,me⟩ K:=λI=>by
 induction I with
 |nil=>intro ks me h1 h2 h3 h;have:=h [] ks (h3 []);rw[aS] at this;exact this
 |cons y r T=>
  intro ks me h1 h2 h3 h;refine λ_ E=>E h1 (h2 y (.head _)) λps=>T _ _ (ac h1) (λy hy=>h2 y (.tail _ hy)) (λts=>?_) λts kv hk=>?_
  ·rw[List.all_append,aM];refine⟨?_,?_⟩
   ·rw[au];exact h3 _
   ·rw[List.all_cons,Nj];rfl
  ·have:=h ([.list (ps.map .str)]++ts) kv;rw[<-au] at this;exact this hk
theorem JT{xs:List Str}(h:me[l]?=some (.sset xs)):Jb me (.loc l)=some xs:=by refine(?_ :OT me[l]?=_);rw[h];rfl
theorem GU{lo:List (Option V)}{lf:Nat}{xs:List Str}(h1:me[l]?=some (.sset xs))(h2:me[lf]?=some (.fn 1 []))(hz:xs.length<=2)(M:∀x∈xs,x.length<=10000)(h:∀(ts:List O)(zs:List Str),zs.Perm xs->Q (.loc (me++ts).length) ⟨lo,ce,(me++ts)++[.list (zs.map .str)]⟩):aA (Jb me (.loc l)) λxs=>aA (oY (.loc lf)) λ_=>gd (Nat.ble xs.length 2) (∀I:List Str,I.Perm xs->u0 RF (.loc lf) (I.map .str) [] ⟨lo,ce,me⟩ λkv a9=>gd (kv.all (Ay a9.mem))
  (∀zs:List Str,zs.Perm xs->Q (.loc a9.mem.length) {a9 with mem:=a9.mem++[.list (zs.map .str)]})):=
 av (JT h1) (av rfl (b_ (d8 hz) λI hy=>Nk I [] me h2 (λy hm=>M y (hy.mem_iff.mp hm)) (λts=>rfl) λts kv hk=>b_ hk λzs hz=>h ts zs hz))
end
end
section
variable {C:Addr}{b:Bool}{D:cR}{Q:Fl->St->Prop}{g:G}{l0:List (Option Bool)}{es:List (Str×V)}{ce:List Nat}{b2 base me r n4:List O}{zs:List Str}{vs xs:List V}{N al d i j ja l m nd pm:Nat}{t0:O}{o:Option Bool}{a at':Option Str}{P:Params}{scope:Scope}{x y:Str}{α:Type}{c c':Wr}
theorem bS{lo:List (Option V)}{v:V}{Q:V->St->Prop}(h1:ce[i]?=some l)(h2:me[l]?=some (.cell v))(q:Q v ⟨lo,ce,me⟩):uf i ⟨lo,ce,me⟩ Q:=gm h1 (gm (bE h2) q)
theorem eE{lo:List (Option V)}{v:V}{Q:V->St->Prop}(h:lo[i]?=some (some v))(q:Q v ⟨lo,ce,me⟩):dX i ⟨lo,ce,me⟩ Q:=LY h q
theorem JU{v:V}(h:me[l]?=some (.bP .meth [.e_ (.ref 90),v])):zY 90 me (.loc l)=some v:=by refine(?_ :wA 90 me[l]?=_);unfold wA;rw[h];rfl
theorem Nl{v:V}{lo:List (Option V)}{Q:Unit->St->Prop}(h:me[l]?=some (.dict es))(hn:l8 es=true)(hz:es.length<=100)(q:Q () ⟨lo,ce,me.set l (.dict (cQ x v es))⟩):aA (qj me[l]?) λes=>gd (l8 es&&Nat.ble es.length 100) (Q () ⟨lo,ce,me.set l (.dict (cQ x v es))⟩):=by rw[h];refine av rfl (b_ ?_ q);rw[hn,d8 hz];rfl
section
variable {r':List O}{c'':Wr}{lv kl ad9:List (Option Bool)}
theorem GQ.list(h:GQ D N r j o):∃xs,r[j]?=some (.list xs):=by
 cases o with
 |none=>exact⟨_,h⟩
 |some s=>exact⟨_,h.choose_spec.1⟩
theorem aE.mem{β:Type}{R:α->β->Prop}{l:List α}{m:List β}(h:aE R l m){a:α}(ha:a∈l):∃b,R a b:=by
 induction h with
 |nil=>cases ha
 |cons x _ T=>
  cases ha with
  |head=>exact⟨_,x⟩
  |tail _ ha=>exact T ha
theorem RR.isl(R:RR D N c lv r)(h:i∈c.dc++c.nz):∃xs,r[i]?=some (.list xs):=by
 rcases List.mem_append.mp h with h|h
 ·exact(R.dl.mem h).choose_spec.list
 ·exact⟨_,R.nl i h⟩
theorem RR.TM(R:RR D N c lv r){o:O}(e:r[i]?=some o)(h:∀xs,o≠ .list xs):i∉c.dc++c.nz:=λhi=>by refine xE (R.isl hi) λxs e'=>?_;rw[e] at e';exact h xs (aq e')
theorem RR.new(R:RR D N c lv r)(h:r.length<=i):i∉c.dc++c.nz:=λhi=>by refine xE (R.isl hi) λxs e'=>?_;rw[List.getElem?_eq_none h] at e';exact nS e'
theorem RR.aaj(R:RR D N c lv r){o o':O}(nd:i∉c.dc++c.nz)(e:r[i]?=some o)(h':∀xs,o≠ .tup xs):RR D N c lv (r.set i o'):=by
 rw[List.mem_append] at nd;refine⟨R.dl.AX λj x hj S=>?_,λj hj=>?_,R.nd⟩
 ·have VL:i≠j:=λq=>nd (.inl (by rw[q];exact hj));cases x with
  |none=>rw[GQ,c6 VL];exact S
  |some s=>
   refine bx S λt h1 h2=>?_;try clear S
   exact⟨t,by rw[c6 VL];exact h1,by rw[c6 (λq=>h' _ (aq (e.symm.trans (by rw[q];exact h2))))];exact h2⟩
 ·rw[c6 (λq=>nd (.inr (by rw[q];exact hj)))];exact R.nl j hj
theorem wV{x y z:O}(e:r[j]?=some x)(e':r[i]?=some y)(h:x≠y):(r.set i z)[j]?=some x:=by rw[c6 (λq=>h (aq (e.symm.trans (by rw[<-q];exact e'))))];exact e
theorem ni.trans(a:ni D N c c' lv n4 r)(b:ni D N c' c'' kl r r')(e:c'.dc=c.dc):ni D N c c'' kl n4 r':=⟨b.R,a.keep.trans (e▸b.keep),am a.le b.le⟩
theorem ni.put(T:ni D N c c' lv n4 r){o o':O}(hi:n4.length<=i)(nd:i∉c'.dc++c'.nz)(e:r[i]?=some o)(h':∀xs,o≠ .tup xs):ni D N c c' lv n4 (r.set i o'):=⟨T.R.aaj nd e h',λj x ej hj=>by
  rw[c6 λq=>?_]
  ·exact T.keep j x ej hj
  ·have:=(List.getElem?_eq_some_iff.mp ej).1;exact zo [_,_,_] (.c 1 (.v 0) (.v 1) (.e 1 (.v 1) (.v 2) (.c 1 (.a (.v 2) (.n 1)) (.v 0) .nil))) 0 tt hi q this,by rw[dS];exact T.le⟩
theorem v_.more(W:v_ D N c lv r)(xs:List O):v_ D N c lv (r++xs):=⟨W.ok,W.R.more,W.lv,W.nz⟩
end
section
variable {k:Nat}
theorem aak(U:cD P g){params:Arguments}{body:PySem.Expr}(h1:(pN P).params=params)(h2:M4 P=body)(h3:(pN P).scope=scope):g.fo 1=λfy fw c' ij=>kla_obj "<lambda>" GN params body scope fy ((g.mg "__name__").getD .none) c' ij:=by subst h1 h2 h3;exact U.fo1
theorem aal(U:cD P g){pos:Pos}(h:(pN P).pos=pos):g.tp 1=pos:=U.tp1.trans h
theorem aam(U:cD P g)(h:(pN P).scope=scope):g.ff 1=c9 scope:=by subst h;exact U.ff1
noncomputable abbrev VW (P:Params):df:=fb (KK P) 126 ["tag","attrs","new_namespaces","qname_text","qnames","resolved_names","qname","qattrs","attr_name","value","parsed_qnames","attr_list","k","v","attr_qname","uri","space_behaviour","write"] ["self","parse_qname"]
noncomputable def VX:List Str:=["sorted"]
abbrev iW(i:Nat):=NN VW VX 126 i 2
theorem aan(P:Params):cc (VW P) VX .cell:=ik (by kernel_rfl)
noncomputable def JV:iW 0:=⟨_,λU H=>by exact(ii (cG (bN (aN jz (dy (cA U) 4 rfl (dw H 0 rfl)) ie) (bN rY gD))) fk aC)⟩
noncomputable def RH:iW 1:=⟨_,λU H=>by exact(aP H 4 rfl (Jr H 0 1 (by rw[U.K];kernel_rfl) rfl rfl rfl))⟩
noncomputable def RJ:iW 2:=⟨_,λU H=>by exact(aP H 5 rfl CL)⟩
noncomputable def RK:iW 3:=⟨_,λU H=>by exact(ii (aN jz (ai H 3 rfl) ie) fk aC)⟩
noncomputable def RL:iW 4:=⟨_,λU H=>by exact(ii (cG (bN (aN jz (dy (cA U) 8 rfl (dw H 0 rfl)) ie) (bN rY gD))) fk (ab (aP H 7 rfl ie) aC))⟩
noncomputable def RM:iW 5:=⟨_,λU H=>by exact(nT H 1 rfl (Ep (cA U).cls (d90 U) (dw H 0 rfl) (he:=by intro _;with_unfolding_all rfl)))⟩
noncomputable def C1:iW 6:=⟨_,λU H=>by exact(CP (qI:=[]) ["n"] ["parse_qname"] [1] (by kernel_rfl) (by kernel_rfl) H 10 rfl (En (λ_ _ _=>aX) (v9 (aai U)) (bG U H 0 4 rfl rfl (by kernel_rfl)) (ai H 4 rfl) (M3 (ZX U) [] (by kernel_rfl) (aak U (by kernel_rfl) (by kernel_rfl) (by kernel_rfl)) (aal U (by kernel_rfl)) U.tq1 (aam U (by kernel_rfl)) (by kernel_rfl) (hd0:=by intro _;rfl)) (T:=by intro _;rfl)) (λH4=>(b8 H4 0 rfl)) (λH4=>Jn) (λH4=>(ai H4 0 rfl)) (λH4=>(mc (RG U) (dw H4 0 rfl) (ae (ai H4 0 rfl) ay))) (z:=by intro _ _;rfl) (c:=by intro _;rfl))⟩
noncomputable def C2:iW 7:=⟨_,λU H=>by exact(ii (a7 (ai H 2 rfl)) (ab (pL (qI:=[]) ["uri","prefix"] [] [] (by kernel_rfl) (by kernel_rfl) H 11 rfl (ai H 2 rfl) (λH4=>(qH (dz (b8 H4 0 rfl) (dz (b8 H4 1 rfl) lF)))) (λH4=>Jn) (λH4=>(ng (ae (iG (a7 (ai H4 1 rfl)) (cY f_ bz (ai H4 1 rfl)) rX) (ae (ai H4 0 rfl) ay)))) (z:=by intro _ _;rfl) (c:=by intro _;rfl)) (ab (cZ (bZ .list bD PySem.F.slot_list_sort PySem.F.type_list_sort GE (ai H 11 rfl) ay)) aC)) (ab (aP H 11 rfl (eD ay)) aC))⟩
noncomputable def C3:iW 8:=⟨_,λU H=>by exact(ii (GI (ai H 1 rfl) (hv:=by intro _ _;rfl)) (ab (mf (b7 (λ_ _ _=>aX) tD (bG U H 0 4 rfl rfl (by kernel_rfl)) (ae (bZ .dict PySem.F.plainAttrs_dict ou PySem.F.type_dict_items F6 (ai H 1 rfl) ay) ay)) (qH (dz (b8 H 12 rfl) (dz (b8 H 13 rfl) lF))) (ab (ii (cG (bN (aN jz (ai H 7 rfl) ie) (bN rY (bN rY gD)))) fk aC) (ab (pM (MZ (ai H 10 rfl) (ai H 12 rfl)) (Js (qH (dz (b8 H 14 rfl) (dz (b8 H 8 rfl) (dz (b8 H 15 rfl) lF)))) (he:=by intro _;rfl)) (M:=by intro _;rfl) (hw:=by intro _;rfl)) (ab (cZ (bZ .list bD cJ b0 bB (ai H 11 rfl) (ae (ng (ae (iG (a7 (ai H 15 rfl)) rX (ai H 8 rfl)) (ae (ai H 13 rfl) ay))) ay))) aC)))) aC) aC)⟩
noncomputable def C4:iW 9:=⟨_,λU H=>by exact(aP H 16 rfl (bZ .dict PySem.F.plainAttrs_dict PySem.F.slot_dict_get PySem.F.type_dict_get zT (ai H 1 rfl) (ae bz ay)))⟩
noncomputable def tR:iW 10:=⟨_,λU H=>by exact(cZ (bZ .list bD cJ b0 bB (dy (cA U) 12 rfl (dw H 0 rfl)) (ae (iG (a7 (ai H 16 rfl)) rX (eM (dy (cA U) 12 rfl (dw H 0 rfl)) GG)) ay)))⟩
noncomputable def ya:iW 11:=⟨_,λU H=>by exact(aP H 17 rfl (dy (cA U) 0 rfl (dw H 0 rfl)))⟩
noncomputable def tS:iW 12:=⟨_,λU H=>by exact(cZ (mc uL (ai H 17 rfl) (ae (cY f_ bz (eM (MZ (ai H 10 rfl) (ai H 0 rfl)) bv)) ay)))⟩
noncomputable def tT:iW 13:=⟨_,λU H=>by exact(ii (a7 (ai H 11 rfl)) (ab (cZ (mc uL (ai H 17 rfl) (ae (bZ .str kr PySem.F.slot_str_join PySem.F.type_str_join zQ bz (ae (GK (qI:=["_escape_attrib_c14n"]) ["k","v"] [] [] (by kernel_rfl) (by kernel_rfl) (ai H 11 rfl) (λH4=>(qH (dz (b8 H4 0 rfl) (dz (b8 H4 1 rfl) lF)))) (λH4=>Jn) (λH4=>(tQ (iJ bz (iJ (CM (ai H4 0 rfl)) (iJ bz (iJ (CM (b7 (g7 U (by kernel_rfl)) (Nb U).ok (kU U H4 0 10 rfl rfl) (ae (ai H4 1 rfl) ay))) (iJ bz Eo))))))) (z:=by intro _ _;rfl)) ay)) ay))) aC) aC)⟩
noncomputable def yb:iW 14:=⟨_,λU H=>by exact(cZ (mc uL (ai H 17 rfl) (ae bz ay)))⟩
noncomputable def yc:iW 15:=⟨_,λU H=>by exact(ii (aN jz (ai H 3 rfl) ie) fk aC)⟩
noncomputable def yd:iW 16:=⟨_,λU H=>by exact(cj (cA U) 14 rfl Em (dw H 0 rfl))⟩
noncomputable def tU:iW 17:=⟨_,λU H=>by exact(cZ (bZ .list bD cJ b0 bB (dy (cA U) 10 rfl (dw H 0 rfl)) (ae (eD ay) ay)))⟩
def JW(l:Nat):ad Unit:=OW (dX 0) (ao (uf 0) λv=>ao (ao (dX 0) λv=>ao (c8 []) (iV v)) (pqW v)) l
noncomputable abbrev VY (D:cR) (o:Option Bool) (l:Lc):O:=.tup [.str (bY D o l),.str l.s,.str (CY o)]
theorem pT{lv:List (Option Bool)}{d0:List Nat}{l:Lc}{pc nl:Nat}{x:Option V}{Q:Unit->St->Prop}(T:ni D (D.N base.length) c c lv n4 r) (W:v_ D (D.N base.length) c lv r) (hd:c.dc=d0++[j]) (hp:∀s,o=some s->o∈lv\/∃l0,lv=l0++[none])(h1:r[pc]?=some (.cell (.loc (D.N base.length+pm)))) (h2:r[pm]?=some (.bP .meth [.e_ (.ref 90),bW base])) (h3:r[nl]?=some (.list (zs.map .str))) (hz:zs[i]?=some (eO o l)) (h4:r[nd]?=some (.dict es)) (hn:l8 es=true) (he:es.length<=100) (hi:n4.length<=nd)(h:∀r' t,ni D (D.N base.length) c c (qQ lv o) n4 r'->(∀i x,r[i]?=some x->i∉c.dc->i≠nd->r'[i]?=some x)->r'[nd]?=some (.dict (cQ (eO o l) (.loc (D.N base.length+t)) es))->r'[t]?=some (VY D o l)->
  gw (bj (D.N base.length+nl)) (du 0) (c8 true) (JW (D.N base.length+nd)) m (i+1) ⟨[some (.str (eO o l))],[D.N base.length+pc],mm D base c r'⟩ Q):
 gw (bj (D.N base.length+nl)) (du 0) (c8 true) (JW (D.N base.length+nd)) (m+1) i ⟨[x],[D.N base.length+pc],mm D base c r⟩ Q:=by
 refine jg (ba (aY h3) (by rw[bi,hz];rfl)) ?_;refine bS (i:=0) (ce:=[D.N base.length+pc]) rfl (aY h1) ?_;refine av (JU (aY h2)) ?_;refine λ_ E=>E W hd hp λr' t T' ht=>?_;have kd:=W.R.TM h4 λxs e=>by cases e
 rw[List.mem_append] at kd;have h5:=T'.keep nd _ h4 λq=>kd (.inl q);refine Nl (aY h5) hn he ?_;rw[qP];have Z:=(List.getElem?_eq_some_iff.mp h5).1;refine h _ t ((T.trans T' rfl).put hi (T'.R.TM h5 λxs e=>by cases e) h5 (λxs e=>by cases e)) (λi x e B hi=>by rw[c6 (bM hi)];exact T'.keep i x e B) (by rw[fF Z]) ?_;rw[c6 λq=>?_]
 ·exact ht
 ·subst q;rw[h5] at ht;cases ht
end
noncomputable abbrev bs (t0:O) (b:Bool) (b2:List O):List O:=t0:: .tab 1 b::b2
inductive Pq(D:cR)(N:Nat)(r:List O)(nd:Nat)(o:Option Bool)(l:Lc):Prop
 |mk {es:List (Str×V)} {t:Nat}:r[nd]?=some (.dict es)->eK (eO o l) es=some (.loc (N+t))->r[t]?=some (VY D o l)->Pq D N r nd o l
theorem qT(x:Str):d3 x x=true:=(cq _ _).mpr rfl
theorem ye{v:V}:eK x ((x,v)::es)=some v:=by refine(?_ :(match d3 x x with|true=>some v|false=>eK x es)=_);rw[qT]
theorem EF{v:V}(h:d3 y x=false):eK x ((y,v)::es)=eK x es:=by refine(?_ :(match d3 y x with|true=>some v|false=>eK x es)=_);rw[h]
theorem Nm{v u:V}(h:d3 y x=false):cQ x u ((y,v)::es)=(y,v)::cQ x u es:=by refine(?_ :(match d3 y x with|true=>(y,u)::es|false=>(y,v)::cQ x u es)=_);rw[h]
section
variable {lv:List (Option Bool)}{d0:List Nat}{o':Option Bool}{l l':Lc}{pc nl:Nat}{x:Option V}{Q:Unit->St->Prop}
theorem RN(T:ni D (D.N base.length) c c lv n4 r)(W:v_ D (D.N base.length) c lv r)(hd:c.dc=d0++[j])(hp:∀s,o=some s->o∈lv\/∃l0,lv=l0++[none])(h1:r[pc]?=some (.cell (.loc (D.N base.length+pm)))) (h2:r[pm]?=some (.bP .meth [.e_ (.ref 90),bW base])) (h3:r[nl]?=some (.list ([eO o l].map .str))) (h4:r[nd]?=some (.dict [])) (hi:n4.length<=nd) (Z:nl∉c.dc) (hn:nl≠nd)(h:∀r' lo,ni D (D.N base.length) c c (qQ lv o) n4 r'->Pq D (D.N base.length) r' nd o l->Q () ⟨lo,[D.N base.length+pc],mm D base c r'⟩):∃n,gw (bj (D.N base.length+nl)) (du 0) (c8 true) (JW (D.N base.length+nd)) n 0 ⟨[x],[D.N base.length+pc],mm D base c r⟩ Q:=⟨2,pT T W hd hp h1 h2 h3 rfl h4 rfl (by decide) hi λr' t T' K' g1 p=>jh (ba (aY (K' nl _ h3 Z hn)) rfl) (h _ _ T' (.mk g1 ye p))⟩
theorem JX(T:ni D (D.N base.length) c c lv n4 r)(W:v_ D (D.N base.length) c lv r)(hd:c.dc=d0++[j])(hp:∀s,o=some s->o∈lv\/∃l0,lv=l0++[none])(f:∀s,o'=some s->o'∈qQ lv o\/∃l0,qQ lv o=l0++[none])(d:(qQ lv o).length<=10) (p5:d3 (eO o l) (eO o' l')=false)(h1:r[pc]?=some (.cell (.loc (D.N base.length+pm)))) (h2:r[pm]?=some (.bP .meth [.e_ (.ref 90),bW base])) (h3:r[nl]?=some (.list ([eO o l,eO o' l'].map .str))) (h4:r[nd]?=some (.dict [])) (hi:n4.length<=nd) (Z:nl∉c.dc) (hn:nl≠nd)(h:∀r' lo,ni D (D.N base.length) c c (qQ (qQ lv o) o') n4 r'->Pq D (D.N base.length) r' nd o l->Pq D (D.N base.length) r' nd o' l'->Q () ⟨lo,[D.N base.length+pc],mm D base c r'⟩):∃n,gw (bj (D.N base.length+nl)) (du 0) (c8 true) (JW (D.N base.length+nd)) n 0 ⟨[x],[D.N base.length+pc],mm D base c r⟩ Q:=by
 refine⟨3,pT T W hd hp h1 h2 h3 rfl h4 rfl (by decide) hi λr' t T' K' g1 p=>?_⟩;have nd3:∀{i:Nat}{x:O},r[i]?=some x->(∀xs,x≠ .list xs)->x≠ .dict []->r'[i]?=some x:=λ{i x} e B Y2=>K' i x e (λq=>W.R.TM e B (fG _ q)) λq=>by subst q;rw[h4] at e;obtain rfl:=aq e;exact Y2 rfl
 refine pT T' ⟨W.ok,T'.R,d,W.nz⟩ hd f (nd3 h1 (λ_ e=>by cases e) λe=>by cases e) (nd3 h2 (λ_ e=>by cases e) λe=>by cases e) (K' nl _ h3 Z hn) rfl g1 rfl (aU rfl) hi λr'' C T'' K'' g3 g4=>?_;have g5:=K'' t _ p (λq=>T'.R.TM p (λ_ e=>by cases e) (fG _ q)) λq=>by subst q;rw[g1] at p;cases p
 refine jh (ba (aY (K'' nl _ (K' nl _ h3 Z hn) Z hn)) rfl) ?_;rw[show cQ (eO o' l') (.loc (D.N base.length+C)) (cQ (eO o l) (.loc (D.N base.length+t)) [])=[(eO o l,.loc (D.N base.length+t)),(eO o' l',.loc (D.N base.length+C))] from Nm p5] at g3;exact h _ _ T'' (.mk g3 ye g5) (.mk g3 ((EF p5).trans ye) g4)
end
theorem VZ(h:zs.Perm [x]):zs=[x]:=List.perm_singleton.mp h
theorem RO(h:zs.Perm [x,y]):zs=[x,y]\/zs=[y,x]:=by
 match zs,h.length_eq with
 | [a,b],_=>
  have ha:=h.mem_iff.mp (.head _:a∈[a,b]);rcases List.mem_cons.mp ha with rfl|ha
  ·have:=List.perm_singleton.mp (List.perm_cons a|>.mp h);exact .inl (by rw[this])
  ·obtain rfl:=List.mem_singleton.mp ha;have:=List.perm_singleton.mp (List.perm_cons a|>.mp (h.trans (List.Perm.swap a x [])));exact .inr (by rw[this])
noncomputable def gE(o:Option Bool)(l:Lc)(a:Bool):List Str:=eO o l::bif a then[eO none .k] else[]
theorem GV(o:Option Bool)(l:Lc)(a:Bool):(gE o l a).length<=2:=by cases a<;>exact aU rfl
theorem O7(o:Option Bool){l:Lc}(Z:l≠ .k):d3 (eO o l) (eO none .k)=false/\d3 (eO none .k) (eO o l)=false:=by rcases o with _|_|_<;>cases l<;>first|exact absurd rfl Z|decide+kernel
section
variable {k:Nat}
theorem GW{lv:List (Option Bool)}(h:∀s,o=some s->o∈lv\/∃l0,lv=l0++[none]):(qQ lv o).length=lv.length:=by
 cases o with
 |none=>rfl
 |some s=>
  rcases h s rfl with h|⟨l0,rfl⟩
  ·rw[n3 h]
  ·by_cases M:some s∈l0++[none]
   ·rw[n3 M]
   ·rw[vr M];simp
theorem p6(U:cD P g){lv:List (Option Bool)}{d0:List Nat}{l:Lc}{a:Bool}{ls pc f:Nat}{lo:List (Option V)}(W:v_ D (D.N (bs t0 b b2).length) c lv r)(hd:c.dc=d0++[j])(hp:∀s,o=some s->o∈lv\/∃l0,lv=l0++[none])(XW:l≠ .k) (h1:r[pc]?=some (.cell (.loc (D.N (bs t0 b b2).length+pm)))) (h2:r[pm]?=some (.bP .meth [.e_ (.ref 90),bW (bs t0 b b2)])) (h3:r[ls]?=some (.sset (gE o l a))) (h4:lo[4]?=some (some (.loc (D.N (bs t0 b b2).length+ls))))(h:∀r' nd,ni D (D.N (bs t0 b b2).length) c c (qQ lv o) r r'->Pq D (D.N (bs t0 b b2).length) r' nd o l->(a=true->Pq D (D.N (bs t0 b b2).length) r' nd none .k)->Q .next ⟨lo.set 10 (some (.loc (D.N (bs t0 b b2).length+nd))),[f,D.N (bs t0 b b2).length+pc],mm D (bs t0 true b2) c r'⟩):C1.1 ⟨lo,[f,D.N (bs t0 b b2).length+pc],mm D (bs t0 b b2) c r⟩ Q:=by
 refine eE (i:=4) (lo:=lo) h4 ?_;have MS:(mm D (bs t0 b b2) c r).length=D.N (bs t0 b b2).length+r.length:=fq;have M:∀x∈gE o l a,x.length<=10000:=λx B=>by
  rcases List.mem_cons.mp B with rfl|B
  ·exact am (JE _ _) (by decide)
  ·cases a with
   |false=>cases B
   |true=>obtain rfl:=List.mem_singleton.mp B;decide
 refine GU (me:=mm D (bs t0 true b2) c r++[.fn 1 []]) (ac (aY h3)) aR (GV o l a) M λts zs hz=>?_;rw[au,c_];have T1:=(ni.start W.R).more ([O.fn 1 []]++ts);revert T1;generalize r++([O.fn 1 []]++ts)=u;intro T1;have T2:=(T1.more [.list (zs.map .str)]).more [.dict []];have z:∀{i:Nat}{x:O},r[i]?=some x->(∀xs,x≠ .list xs)->((u++[O.list (zs.map .str)])++[O.dict []])[i]?=some x:=λe B=>T2.keep _ _ e λq=>W.R.TM e B (fG _ q);have p:v_ D (D.N (bs t0 true b2).length) c lv ((u++[O.list (zs.map .str)])++[O.dict []]):=⟨W.ok,T2.R,W.lv,W.nz⟩;have h3':((u++[O.list (zs.map .str)])++[O.dict []])[u.length]?=some (.list (zs.map V.str)):=ac aR;have LK:((u++[O.list (zs.map .str)])++[O.dict []])[u.length+1]?=some (.dict []):=by rw[au];exact gx
 have Z:u.length∉c.dc:=λq=>W.R.new T1.le (fG _ q);refine av (ji aR) ?_;refine(?_ :∃n,gw (bj (mm D (bs t0 true b2) c u).length) (du 0) (c8 true) (JW (mm D (bs t0 true b2) c u++[O.list (zs.map .str)]).length) n 0 ⟨[none],[D.N (bs t0 true b2).length+pc],(mm D (bs t0 true b2) c u++[O.list (zs.map .str)])++[O.dict []]⟩ λ_ a9=>Q .next ⟨lo.set 10 (some (.loc (mm D (bs t0 true b2) c u++[O.list (zs.map .str)]).length)),[f,D.N (bs t0 true b2).length+pc],a9.mem⟩);rw[c_,c_,fq,fq,ak];have i1:=iq T1.le;have n1:u.length≠u.length+1:=bL (er _);have hk:=O7 o XW;cases a with
 |false=>obtain rfl:=VZ hz;exact RN T2 p hd hp (z h1 λ_ e=>by cases e) (z h2 λ_ e=>by cases e) h3' LK i1 Z n1 λr' _ T' q=>h r' _ T' q λe=>by exact nB e
 |true=>
  rcases RO hz with rfl|rfl
  ·exact JX T2 p hd hp (λs e=>by exact nS e) (by rw[GW hp];exact W.lv) hk.1 (z h1 λ_ e=>by cases e) (z h2 λ_ e=>by cases e) h3' LK i1 Z n1 λr' _ T' q q'=>h r' _ T' q λ_=>q'
  ·exact JX (o:=none) T2 p hd (λs e=>by exact nS e) hp W.lv hk.2 (z h1 λ_ e=>by cases e) (z h2 λ_ e=>by cases e) h3' LK i1 Z n1 λr' _ T' q q'=>h r' _ T' q' λ_=>q
end
noncomputable def LN(D:cR)(N n:Nat):Option Bool->List O
 |none=>[.list []]
 |some s=>[.list [.loc (N+(n+1))],.tup [.str ("xmlns:"++pf D s),.str (np s)]]
theorem jD(h:tE D)(s:Bool):jj (pf D s):=by
 cases s
 ·exact h.h1
 ·exact h.h2
theorem qU{o:Option O}{K:Bool->Prop}(h:o=some (.list xs))(hz:xs.length<=10000)(q:K (!(Nat.beq xs.length 0))):HM o K:=by rw[h];exact b_ (cM hz) q
theorem jq{o:Option O}{A B:Prop}(h:o=some (.list xs))(hz:xs.length<=10000)(q:br (!(Nat.beq xs.length 0)) A B):HM o λb=>br b A B:=qU h hz q
theorem sf{x y:O}:(r++[x])++[y]=r++[x,y]:=by rw[au];rfl
section
variable {k:Nat}
theorem p7(U:cD P g){x:Option Bool}{lo:List (Option V)}(S:GQ D (D.N base.length) r j x)(G:tE D)(h2:lo[2]?=some (some (.loc (D.N base.length+j))))(m:lo.length=18)(h:Q .next ⟨lo.set 11 (some (.loc (D.N base.length+r.length))),ce,mm D base c (r++LN D (D.N base.length) r.length x)⟩):C2.1 ⟨lo,ce,mm D base c r⟩ Q:=by
 refine eE h2 ?_;cases x with
 |none=>refine jq (aY S) (aW _) ?_;rw[<-c_,<-fq] at h;exact h
 |some s=>
  refine bx S ?_;try clear S
  intro t S ht;refine jq (aY S) (aU rfl) ?_;refine eE h2 ?_;refine av (ji (aY S)) ⟨2,?_⟩;have Z:(mm D base c r).length=D.N base.length+r.length:=fq;have M:=jD G s;refine jg (ba (ac (aY S)) rfl) ?_;refine av (gy (ac (aY ht))) ?_;refine b_ (b:=bw (pf D s).length) (cM (am M.2 (by decide))) ?_;refine vW (AU M.1) ?_;refine b_ (cT (am (Nat.add_le_add_left M.2 _) (by decide))) ?_;refine iN (me:=(mm D base c r++[O.list []])++[O.tup [.str ("xmlns:"++pf D s),.str (np s)]]) (by rw[sf];exact aR) (aW _) ?_;rw[sf,kK];refine jh (ba (ac (aY S)) rfl) ?_;have e:mm D base c (r++LN D (D.N base.length) r.length (some s))=mm D base c r++[O.list ([]++[.loc ((mm D base c r++[O.list []]).length)]),O.tup [.str ("xmlns:"++pf D s),.str (np s)]]:=by rw[<-c_,ak,Z];rfl
  rw[e,<-Z] at h;refine eE (by rw[fF (by rw[m];decide)]) ?_;refine b_ (bk aR) ?_;refine av (cV aR) ?_;exact h
end
noncomputable def GX:Option Str->List (Str×V)
 |none=>[]
 |some v=>[("k",.str v)]
theorem iP(h:me[l]?=some (.dict es)):sP me (.loc l)=some (l,es):=bE (o:=qj me[l]?) (bE h)
theorem wW(h:me[l]?=some (.dict es)):v6 me (.loc l) .dict=true:=ag Option.isSome (bE h)
theorem pn{xs:List α}{v:α}(h:i<xs.length):(xs.set i v)[i]?=some v:=by rw[fF h]
theorem bF{xs:List α}{v:α}{o:Option α}(h:i≠j)(e:xs[j]?=o):(xs.set i v)[j]?=o:=by rw[c6 h];exact e
section
variable {k:Nat}
theorem p8(U:cD P g){lo:List (Option V)}(h1:r[ja]?=some (.dict (GX at')))(h2:r[al]?=some (.list xs))(h3:at'.isSome=true->Pq D (D.N base.length) r nd none .k)(hz:xs.length<=100)(l1:lo[1]?=some (some (.loc (D.N base.length+ja)))) (l7:lo[7]?=some (some .none)) (V0:lo[10]?=some (some (.loc (D.N base.length+nd)))) (TN:lo[11]?=some (some (.loc (D.N base.length+al)))) (m:lo.length=18)(q0:at'=none->Q .next ⟨lo,ce,mm D base c r⟩)(q1:∀v a b d e f,at'=some v->Q .next ⟨((((lo.set 12 a).set 13 b).set 14 d).set 8 e).set 15 f,ce,mm D base c ((r++[O.bP .bI [.loc (D.N base.length+ja)],.tup [.str "k",.str v],.list [.loc (D.N base.length+(r.length+1))],.tup [.str "k",.str v]]).set al (.list (xs++[.loc (D.N base.length+(r.length+3))])))⟩):C3.1 ⟨lo,ce,mm D base c r⟩ Q:=by
 refine eE (i:=1) (lo:=lo) l1 ?_;refine av (iP (aY h1)) ?_;cases at' with
 |none=>exact q0 rfl
 |some v=>
  replace h1:r[ja]?=some (.dict [("k",.str v)]):=h1;refine eE (i:=1) (lo:=lo) l1 ?_;refine b_ (wW (aY h1)) ?_;refine av (iP (aY h1)) ?_;refine av (o:=xR (mm D base c r++[O.bP .bI [.loc (D.N base.length+ja)]])[(mm D base c r).length]?) (v:=.loc (D.N base.length+ja)) (by rw[aR];rfl) ?_;refine av (iP (ac (aY h1))) ?_;have Z:(mm D base c r).length=D.N base.length+r.length:=fq;have e1:((mm D base c r++[O.bP .bI [.loc (D.N base.length+ja)]])++[.tup [.str "k",.str v]])++[O.list [.loc (mm D base c r++[O.bP .bI [.loc (D.N base.length+ja)]]).length]]=mm D base c (r++[O.bP .bI [.loc (D.N base.length+ja)],.tup [.str "k",.str v],.list [.loc (D.N base.length+(r.length+1))]]):=by rw[ak,Z,<-c_];simp only[au];rfl
  refine(?_ :∃n,gr (bj ((mm D base c r++[O.bP .bI [.loc (D.N base.length+ja)]]).length+1)) _ _ n 0 ⟨lo,ce,((mm D base c r++[O.bP .bI [.loc (D.N base.length+ja)]])++[.tup [.str "k",.str v]])++[O.list [.loc (mm D base c r++[O.bP .bI [.loc (D.N base.length+ja)]]).length]]⟩ _);rw[e1,ak,Z,c7,c7];have hal:=(List.getElem?_eq_some_iff.mp h2).1;obtain⟨h4,h5,h6⟩:=h3 rfl;rename_i es t
  specialize q1 v (some (.str "k")) (some (.str v)) (some (.str "k")) (some (.str "k")) (some (.str "")) rfl
  rw[show r++[O.bP .bI [.loc (D.N base.length+ja)],.tup [.str "k",.str v],.list [.loc (D.N base.length+(r.length+1))],.tup [.str "k",.str v]]=(r++[O.bP .bI [.loc (D.N base.length+ja)],.tup [.str "k",.str v],.list [.loc (D.N base.length+(r.length+1))]])++[.tup [.str "k",.str v]] by simp] at q1;have p:(r++[O.bP .bI [.loc (D.N base.length+ja)],.tup [.str "k",.str v],.list [.loc (D.N base.length+(r.length+1))]])[r.length+2]?=some (.list [.loc (D.N base.length+(r.length+1))]):=by simp
  have g1:(r++[O.bP .bI [.loc (D.N base.length+ja)],.tup [.str "k",.str v],.list [.loc (D.N base.length+(r.length+1))]])[r.length+1]?=some (.tup [.str "k",.str v]):=gx;replace h2:(r++[O.bP .bI [.loc (D.N base.length+ja)],.tup [.str "k",.str v],.list [.loc (D.N base.length+(r.length+1))]])[al]?=_:=ac h2;replace h4:(r++[O.bP .bI [.loc (D.N base.length+ja)],.tup [.str "k",.str v],.list [.loc (D.N base.length+(r.length+1))]])[nd]?=_:=ac h4;replace h6:(r++[O.bP .bI [.loc (D.N base.length+ja)],.tup [.str "k",.str v],.list [.loc (D.N base.length+(r.length+1))]])[t]?=_:=ac h6;have MS:(r++[O.bP .bI [.loc (D.N base.length+ja)],.tup [.str "k",.str v],.list [.loc (D.N base.length+(r.length+1))]]).length=r.length+3:=by rw[ak];rfl
  clear e1;revert g1 p h2 h4 h6 MS q1;generalize r++[O.bP .bI [.loc (D.N base.length+ja)],.tup [.str "k",.str v],.list [.loc (D.N base.length+(r.length+1))]]=u;intro q1 p g1 h2 h4 h6 MS;refine⟨2,fm (b:=.loc (D.N base.length+(r.length+1))) (ba (aY p) rfl) ?_⟩;refine av (o:=up (mm D base c u) (.loc (D.N base.length+(r.length+1)))) (gy (aY g1)) ?_;refine eE (i:=7) (lo:=(lo.set 12 (some (.str "k"))).set 13 (some (.str v))) (bF (by decide) (bF (by decide) l7)) ?_;refine eE (i:=10) (lo:=(lo.set 12 (some (.str "k"))).set 13 (some (.str v))) (bF (by decide) (bF (by decide) V0)) ?_;refine eE (i:=12) (lo:=(lo.set 12 (some (.str "k"))).set 13 (some (.str v))) (bF (by decide) (pn (by rw[m];decide))) ?_;refine av (iP (aY h4)) ?_;refine av (o:=eK "k" es) h5 ?_;refine av (o:=up (mm D base c u) (.loc (D.N base.length+t))) (gy (aY h6)) ?_;refine eE (i:=11) (lo:=((((lo.set 12 (some (.str "k"))).set 13 (some (.str v))).set 14 (some (.str "k"))).set 8 (some (.str "k"))).set 15 (some (.str ""))) (bF (by decide) (bF (by decide) (bF (by decide) (bF (by decide) (bF (by decide) TN))))) ?_;refine b_ (bk (aY h2)) ?_;refine eE (pn (by simp[m])) ?_;refine eE (bF (by decide) (pn (by simp[m]))) ?_;refine eE (bF (by decide) (bF (by decide) (bF (by decide) (pn (by simp[m]))))) ?_;refine iN (me:=mm D base c u++[O.tup [.str "k",.str v]]) (v:=.loc (mm D base c u).length) (by rw[c_];exact aY (ac h2)) (am hz (by decide)) ?_;rw[c_,qP,fq,MS];refine iM (ba (aY (bF ?_ (ac p))) rfl) q1;exact bL (Nat.lt_add_right 2 hal)
end
noncomputable def iX(e:Str×Str):Str:=Str.empty++" "++e.1++"=\""++Ry e.2++"\""
theorem A0(h:x.length<=10):(Ry x).length<=750000:=by have h1:(GP x).length<=5*10:=rl (c:=38) h (by decide+kernel) (by decide+kernel) (by decide);have h2:=rl (c:=60) (y:="<") (z:="&lt;") (m:=4) h1 (by decide+kernel) (by decide+kernel) (by decide);have h3:=rl (c:=34) (y:="\"") (z:="&quot;") (m:=6) h2 (by decide+kernel) (by decide+kernel) (by decide);have h4:=rl (c:=9) (y:="\t") (z:="&#x9;") (m:=5) h3 (by decide+kernel) (by decide+kernel) (by decide);have h5:=rl (c:=10) (y:="\n") (z:="&#xA;") (m:=5) h4 (by decide+kernel) (by decide+kernel) (by decide);exact am (rl (c:=13) (m:=5) h5 (by decide+kernel) (by decide+kernel) (by decide)) (by decide)
structure GY(e:Str×Str):Prop where
 k:e.1.length<=1000
 v:e.2.length<=10
theorem tF{n:Nat}(h:n<=m)(hm:Nat.ble m 16777216=true):bw n=true:=cT (am h (aU hm))
theorem kL{n:Nat}(h:x.length<=m)(h':y.length<=n):(x++y).length<=m+n:=by rw[bH];exact gU h h'
section
variable {Q:Unit->St->Prop}
def aap(l:Nat):ad Unit:=sX (ao (ao (eH (.str " ")) (TK (λbV=>ao (ao (dX 0) Ro) (TK (λbV=>ao (eH (.str "=\"")) (TK (λbV=>ao (ao (ao (ao (dX 1) λv=>ao (c8 []) (iV v)) VA) Ro) (TK (λbV=>ao (eH (.str "\"")) (TK c8 bV)) bV)) bV)) bV)) Str.empty)) Vi) l
theorem JY{ll:List V}(Z:me[l]?=some (.list ll)){es:List (Str×Str)}(ha:aE (O4 me) vs es):∀(i:Nat)(bV:List Str)(lo:List (Option V)),lo.length=2->ll.drop i=vs->(∀e∈es,GY e)->bV.length+es.length<=100-> (∀lo,Q () ⟨lo,ce,me++[.list ((bV++es.map iX).map .str)]⟩)-> gw (bj l) (Nf 0 1) (c8 true) (aap me.length) (vs.length+1) i ⟨lo,ce,me++[.list (bV.map .str)]⟩ Q:=by
 induction ha with
 |nil=>exact λi bV lo m hd K hz h=>jh (ba (ac Z) (drop_nil hd)) (by rw[List.map_nil,aS] at h;exact h lo)
 | @cons v e vs es he ha T=>
  intro i bV lo m hd K hz h;refine xA (fC hd) λh1 h2=>?_;refine bx he λt Y ht=>?_;try clear he
  obtain rfl:=Y;refine w8 (CA m) λx y jJ=>?_;obtain rfl:=jJ;rw[aJ] at hz;obtain⟨gk,gv⟩:=K e (.head _);have ge:=A0 gv;have X:(Str.empty++" "++e.1).length<=1+1000:=kL (aU rfl) gk;have a2:=kL (y:="=\"") X (aF 2);have a3:=kL a2 ge;have a4:=kL (y:="\"") a3 (aF 1);refine jg (ba (ac Z) h1) ?_;refine av (gy (ac ht)) ?_;refine b_ (b:=bw e.1.length) (tF gk rfl) ?_;refine b_ (by rw[<-bH];exact tF X rfl) ?_;refine b_ (by rw[<-bH];exact tF a2 rfl) ?_;refine λ_ E=>E gv ?_;refine b_ (tF ge rfl) ?_;refine b_ (by rw[<-bH];exact tF a3 rfl) ?_;refine b_ (by rw[<-bH];exact tF a4 rfl) ?_;refine b_ (tF a4 rfl) ?_;refine iN (me:=me++[.list (bV.map .str)]) (v:=.str (iX e)) aR (by rw[ax];exact aQ [_,_] (.c 1 (.a (.v 0) (.a (.v 1) (.n 1))) (.n 100) .nil) 0 (.v 0) (.n 10000) tt hz) ?_;rw[kK,show bV.map V.str++[.str (iX e)]=(bV++[iX e]).map V.str by simp];exact T (i+1) (bV++[iX e]) _ rfl h2 (λe he=>K e (.tail _ he)) (by rw[ak];simp;exact aQ [_,_] (.c 1 (.a (.v 0) (.a (.v 1) (.n 1))) (.n 100) .nil) 0 (.a (.a (.v 0) (.n 1)) (.v 1)) (.n 100) tt hz) λlo=>by rw[au];exact h lo
end
noncomputable def A1(es:List (Str×Str)):List Str:=bif es.isEmpty then[] else[dE (es.map iX)]
noncomputable def cF(c:Wr)(b:Str)(es:List (Str×Str))(i:Nat):Wr:={c with pc:=((c.pc++[("<":Str)++b])++A1 es)++[(">":Str)],pr:=c.pr+1,seen:=true,nz:=c.nz++[i]}
theorem dK{o:Option O}{i:Int}{v:V}{K:V->Prop}(h:o=some (.tup xs))(e:uj xs i=some v)(q:K v):P4 o (.int i) K:=by rw[h];exact(av e q:aA (uj xs i) K)
theorem Nn{lo:List (Option V)}{Q:V->St->Prop}(h:me[l]?=some (.dict es))(hn:eK x es=none)(q:Q .none ⟨lo,ce,me⟩):zS [.loc l,.str x] ⟨lo,ce,me⟩ Q:=by refine av (iP h) (av rfl ?_);rw[hn];exact q
theorem C5(a:Option Str):eK "{http://www.w3.org/XML/1998/namespace}space" (GX a)=none:=by
 cases a with
 |none=>rfl
 |some v=>exact(EF (by decide+kernel)).trans rfl
section
theorem EG:(mm D base c r)[D.A base.length 15]?=some (.list (List.replicate (c.pr+1) (.bool false))):=CV 15 rfl
theorem JZ{n:Nat}:(mm D base c r).set (D.A base.length 15) (.list (List.replicate (n+1) (.bool false)))=mm D base {c with pr:=n} r:=xY 15 (by decide) rfl rfl
theorem J0{xs:List Nat}:(mm D base c r).set (D.A base.length 3) (.list (vn D base.length xs))=mm D base {c with nz:=xs} r:=xY 3 (by decide) rfl rfl
theorem EH{b:Nat}{xs:List Nat}:vn D b xs++[.loc (D.N b+i)]=vn D b (xs++[i]):=by unfold vn;simp
theorem J1{es:List (Str×Str)}(h:∀e∈es,GY e)(hz:es.length<=2):kX (es.map iX)<=2000000:=by
 have key:∀es:List (Str×Str),(∀e∈es,GY e)->kX (es.map iX)<=es.length*800000:=λes=>by
  induction es with
  |nil=>exact λ_=>aF _
  |cons e r T=>intro h;have h1:=T λe he=>h e (.tail _ he);have ge:=A0 (h e (.head _)).v;have a4:(iX e).length<=1+1000+2+750000+1:=kL (kL (kL (kL (aU rfl) (h e (.head _)).k) (aF 2)) ge) (aF 1);refine(?_ :(iX e).length+kX (r.map iX)<=(r.length+1)*800000);rw[Nat.succ_mul,gz];exact gU h1 (am a4 (by decide))
 exact am (key es h) (am (oF _ hz) (by decide))
theorem J2{lo:List (Option V)}{ts:List Str}{Q:V->St->Prop}(h:me[l]?=some (.list (ts.map .str)))(hz:kX ts<=2000000)(q:Q (.str (dE ts)) ⟨lo,ce,me⟩):aA (dC me (.loc l)) λp=>aA (kH p.2) λts=>gd (JoinOk "" ts) (Q (.str (Txt.join "" ts)) ⟨lo,ce,me⟩):=by refine av (cV h) (av (l6 ts) (b_ ?_ q));unfold JoinOk;rw[StrLaws.joinTotal,gQ];refine(?_ :decide (kX ts+ts.length*0>2 ^ 24)=false);rw[Nat.mul_zero];exact dR (Nat.not_lt.mpr (am hz (by decide)))
end
section
variable {k:Nat}
theorem p13(U:cD P g){es:List (Str×Str)}{lo:List (Option V)}(h1:r[al]?=some (.list vs))(h2:aE (O4 (mm D base c r)) vs es)(K:∀e∈es,GY e)(hz:es.length<=2)(hp:c.pc.length<=10000)(TN:lo[11]?=some (some (.loc (D.N base.length+al)))) (l17:lo[17]?=some (some (.loc (base.length+1))))(h:∀r',(r'=r\/∃x,r'=r++[x])->Q .next ⟨lo,ce,mm D base {c with pc:=c.pc++A1 es} r'⟩):tT.1 ⟨lo,ce,mm D base c r⟩ Q:=by
 have Z:=h2.len;refine eE TN ?_;refine jq (aY h1) (aQ [_,_] (.c 1 (.v 0) (.n 2) (.e 1 (.v 1) (.v 0) .nil)) 0 (.v 1) (.n 10000) tt hz Z) ?_;cases es with
 |nil=>cases h2;have:=h r (.inl rfl);rw[show c.pc++A1 []=c.pc from aS _] at this;exact this
 |cons e es=>refine vW (by rw[Z];rfl) ?_;refine eE l17 ?_;refine eE TN ?_;refine av (ji (aY h1)) ⟨vs.length+1,?_⟩;refine JY (aY h1) h2 0 [] [none,none] rfl rfl K (by rw[fK];exact aQ [_] (.c 1 (.v 0) (.n 2) .nil) 0 (.a (.n 0) (.v 0)) (.n 100) tt hz) λA=>?_;refine J2 aR (J1 K hz) ?_;rw[c_];exact nY D base c (r++[_]) hp (h _ (.inr ⟨_,rfl⟩))
end
section
variable {k:Nat}
theorem sg(n:Nat)(v:V):List.replicate (n+1) v=List.replicate n v++[v]:=List.replicate_succ'
theorem p10(U:cD P g){n:Nat}{lo:List (Option V)}(hc:r[n]?=some (.cell (bW base)))(l16:lo[16]?=some (some .none))(hz:c.pr<=100)(h:Q .next ⟨lo,(D.N base.length+n)::ce,mm D base {c with pr:=c.pr+1} r⟩):tR.1 ⟨lo,(D.N base.length+n)::ce,mm D base c r⟩ Q:=by refine bS (i:=0) (ce:=(D.N base.length+n)::ce) rfl (aY hc) ?_;refine ca D base c r (D.L base.length 15) (by kernel_rfl) rfl ?_;refine b_ (bk EG) ?_;refine eE l16 ?_;refine bS (i:=0) (ce:=(D.N base.length+n)::ce) rfl (aY hc) ?_;refine ca D base c r (D.L base.length 15) (by kernel_rfl) rfl ?_;refine bJ EG (by rw[sg];exact nZ (by rw[oD];exact aQ [_] (.c 1 (.v 0) (.n 100) .nil) 0 (.v 0) (.n 1000) tt hz)) ?_;refine iN EG (by rw[oD];exact aQ [_] (.c 1 (.v 0) (.n 100) .nil) 0 (.a (.v 0) (.n 1)) (.n 10000) tt hz) ?_;rw[<-sg,JZ];exact h
theorem p12(U:cD P g){l:Lc}{lo:List (Option V)}(G:tE D)(Y:Pq D (D.N base.length) r nd o l)(hp:c.pc.length<=10000)(l0:lo[0]?=some (some (.str (eO o l)))) (V0:lo[10]?=some (some (.loc (D.N base.length+nd)))) (l17:lo[17]?=some (some (.loc (base.length+1))))(h:Q .next ⟨lo,ce,mm D base {c with pc:=c.pc++[("<":Str)++bY D o l]} r⟩):tS.1 ⟨lo,ce,mm D base c r⟩ Q:=by
 obtain⟨h1,h2,h3⟩:=Y;rename_i es t;refine eE l17 ?_;refine eE V0 ?_;refine eE l0 ?_;refine av (iP (aY h1)) ?_;refine av (o:=eK (eO o l) es) h2 ?_;refine dK (aY h3) rfl ?_;have M:(bY D o l).length<=1000:=by
  cases o with
  |none=>exact am (iO l).2 (by decide)
  |some s=>refine(?_ :(m8 (pf D s) l.s).length<=1000);rw[sc];have:=(iO l).2;have:=(jD G s).2;omega
 refine b_ (tF (Nat.add_le_add_left M _) rfl) ?_;exact nY D base c r hp h
theorem p17(U:cD P g){n:Nat}{lo:List (Option V)}(hc:r[n]?=some (.cell (bW base)))(hz:c.nz.length<=100)(h:Q .next ⟨lo,(D.N base.length+n)::ce,mm D base {c with nz:=c.nz++[r.length]} (r++[.list []])⟩):tU.1 ⟨lo,(D.N base.length+n)::ce,mm D base c r⟩ Q:=by
 refine bS (i:=0) (ce:=(D.N base.length+n)::ce) rfl (aY hc) ?_;refine ca D base c r (D.L base.length 3) (by kernel_rfl) rfl ?_;have e:(mm D base c r)[D.A base.length 3]?=some (.list (vn D base.length c.nz)):=CV 3 rfl;refine b_ (bk e) ?_;refine iN (ac e) ?_ ?_
 ·unfold vn;rw[aJ,aJ,ax];exact aQ [_] (.c 1 (.v 0) (.n 100) .nil) 0 (.a (.a (.v 0) (.n 1)) (.n 1)) (.n 10000) tt hz
 ·rw[fq,EH,c_,J0];exact h
end
def wc(N:Nat)(r:List O)(v:V)(p:Str×Str):Prop:=∃t,v= .loc (N+t)/\r[t]?=some (.tup [.str p.1,.str p.2])
theorem wc.ent{es:List (Str×Str)}(h:aE (wc (D.N base.length) r) vs es):aE (O4 (mm D base c r)) vs es:=h.mono λ_ _ ⟨t,e,h⟩=>⟨_,e,aY h⟩
theorem wc.to{r':List O}{es:List (Str×Str)}(h:aE (wc N r) vs es)(k:∀(t:Nat)(xs:List V),r[t]?=some (.tup xs)->r'[t]?=some (.tup xs)):aE (wc N r') vs es:=h.mono λ_ _ ⟨t,e,h⟩=>⟨t,e,k t _ h⟩
theorem Pq.more{l:Lc}(h:Pq D N r nd o l)(xs:List O):Pq D N (r++xs) nd o l:=by obtain⟨h1,h2,h3⟩:=h;exact .mk (ac h1) h2 (ac h3)
theorem RR.wr{lv:List (Option Bool)}(h:RR D N c lv r)(e1:c'.dc=c.dc)(e2:c'.nz=c.nz):RR D N c' lv r:=⟨by rw[e1];exact h.dl,by rw[e2];exact h.nl,by rw[e1,e2];exact h.nd⟩
theorem RR.nzs{lv:List (Option Bool)}(h:RR D N c lv r)(e1:c'.dc=c.dc)(e2:c'.nz=c.nz++[r.length]):RR D N c' lv (r++[.list []]):=by have hn:=h.new (aF _);refine⟨by rw[e1];exact h.more.dl,by rw[e2];intro j hj;rcases List.mem_append.mp hj with hj|hj;exact ac (h.nl j hj);rw[List.mem_singleton.mp hj];exact aR,?_⟩;rw[e1,e2,<-au];exact List.nodup_append.mpr ⟨h.nd,(List.nodup_cons.mpr ⟨by simp,List.nodup_nil⟩),λa ha b hb=>by rw[List.mem_singleton.mp hb];exact λq=>hn (q▸ha)⟩
section
variable {k:Nat}
theorem p9(U:cD P g){lv kl:List (Option Bool)}{n:Nat}{l:Lc}{es:List (Str×Str)}{lo:List (Option V)}(G:tE D)(T:ni D (D.N base.length) c c kl n4 r)(hn:c.nz.length<=100)(hc:r[n]?=some (.cell (bW base))) (Y:Pq D (D.N base.length) r nd o l) (h1:r[al]?=some (.list vs)) (h2:aE (wc (D.N base.length) r) vs es) (K:∀e∈es,GY e) (hz:es.length<=2) (hp:c.pc.length<=9000) (hr:c.pr<=100) (hd:r[ja]?=some (.dict (GX at')))(l0:lo[0]?=some (some (.str (eO o l)))) (l1:lo[1]?=some (some (.loc (D.N base.length+ja)))) (l3:lo[3]?=some (some .none)) (V0:lo[10]?=some (some (.loc (D.N base.length+nd)))) (TN:lo[11]?=some (some (.loc (D.N base.length+al)))) (m:lo.length=18)(h:∀r' A i,ni D (D.N base.length) c (cF c (bY D o l) es i) kl n4 r'->Q .next ⟨A,(D.N base.length+n)::ce,mm D base (cF c (bY D o l) es i) r'⟩):aV C4.1 (aV tR.1 (aV ya.1 (aV tS.1 (aV tT.1 (aV yb.1 (aV yc.1 (aV yd.1 (aV tU.1 (c8 .next))))))))) ⟨lo,(D.N base.length+n)::ce,mm D base c r⟩ Q:=by
 refine eE l1 ?_;refine b_ (wW (aY hd)) ?_;refine Nn (aY hd) (C5 at') ?_;refine p10 U hc (by rw[pn];rw[m];decide) hr ?_;refine bS (i:=0) (ce:=(D.N base.length+n)::ce) rfl (aY hc) ?_;refine ca D base _ r (.loc (base.length+1)) (by kernel_rfl) rfl ?_;have x17:((lo.set 16 (some V.none)).set 17 (some (V.loc (base.length+1))))[17]?=some (some (.loc (base.length+1))):=pn (by simp[m]);refine p12 U G Y (am hp (by decide)) (bF (by decide) (bF (by decide) l0)) (bF (by decide) (bF (by decide) V0)) x17 ?_;refine p13 U h1 (wc.ent h2) K hz (by refine(?_ :(c.pc++[("<":Str)++bY D o l]).length<=10000);rw[ak];exact am (dQ hp 1) (by decide)) (bF (by decide) (bF (by decide) TN)) x17 λd hr2=>?_;have T2:ni D (D.N base.length) c c kl n4 d/\d[n]?=some (.cell (bW base)):=by
  rcases hr2 with rfl|⟨x,rfl⟩
  ·exact⟨T,hc⟩
  ·exact⟨T.more _,ac hc⟩
 refine eE x17 ?_;have hpz:((c.pc++[("<":Str)++bY D o l])++A1 es).length<=10000:=by
  rw[ak,ak];have:(A1 es).length<=1:=by unfold A1;cases es.isEmpty<;>exact aU rfl
  simp;exact aQ [_,_] (.c 1 (.v 0) (.n 9000) (.c 1 (.v 1) (.n 1) .nil)) 0 (.a (.a (.v 0) (.n 1)) (.v 1)) (.n 10000) tt hp this
 refine nY D base _ d hpz ?_;refine eE (bF (by decide) (bF (by decide) l3)) ?_;refine bS (i:=0) (ce:=(D.N base.length+n)::ce) rfl (aY T2.2) ?_;refine r_ D base _ {c with pc:=((c.pc++[("<":Str)++bY D o l])++A1 es)++[(">":Str)],pr:=c.pr+1,seen:=true} d rfl rfl rfl ?_;refine p17 U T2.2 hn ?_;exact h (d++[.list []]) _ d.length ⟨RR.nzs (c':=cF c (bY D o l) es d.length) T2.1.R rfl rfl,T2.1.keep.trans sb.app,am T2.1.le (by rw[ak];exact gR _ _)⟩
end
noncomputable def lG(l0:List (Option Bool)):Option Bool->Option Bool
 |none=>none
 |some s=>bif l0.contains (some s) then none else some s
theorem G0(l0:List (Option Bool))(o:Option Bool):qQ (l0++[none]) o=l0++[lG l0 o]:=by
 cases o with
 |none=>rfl
 |some s=>
  by_cases h:some s∈l0
  ·rw[n3 (fG _ h)];refine ag (l0++[·]) ?_;refine(?_ :none=bif l0.contains (some s) then none else some s);rw[List.contains_iff_mem.mpr h];rfl
  ·rw[vr (by simp[h])];refine ag (l0++[·]) ?_;refine(?_ :some s=bif l0.contains (some s) then none else some s);rw[Bool.eq_false_iff.mpr λe=>h (List.contains_iff_mem.mp e)];rfl
noncomputable def V1(D:cR):Option Bool->List (Str×Str)
 |none=>[]
 |some s=>[("xmlns:"++pf D s,np s)]
noncomputable def X_:Option Str->List (Str×Str)
 |none=>[]
 |some v=>[("k",v)]
noncomputable def kM(D:cR)(l0:List (Option Bool))(o:Option Bool)(a:Option Str):List (Str×Str):=V1 D (lG l0 o)++X_ a
theorem yf(D:cR)(x:Option Bool):(V1 D x).length<=1:=by cases x<;>exact aU rfl
theorem EI(a:Option Str):(X_ a).length<=1:=by cases a<;>exact aU rfl
theorem vw(s:Bool):(np s).length<=10:=by cases s<;>decide+kernel
theorem No(G:tE D)(ha:∀v,a=some v->v.length<=10):(kM D l0 o a).length<=2/\∀e∈kM D l0 o a,GY e:=by
 unfold kM;constructor
 ·rw[ak];exact gU (yf _ _) (EI a)
 ·intro e he;rcases List.mem_append.mp he with he|he
  ·cases B:lG l0 o with
   |none=>rw[B] at he;cases he
   |some s=>rw[B] at he;obtain rfl:=List.mem_singleton.mp he;exact⟨kL (n:=994) (aF _) (am (jD G s).2 (by decide)),vw s⟩
  ·cases a with
   |none=>cases he
   |some v=>obtain rfl:=List.mem_singleton.mp he;exact⟨aU rfl,ha v rfl⟩
noncomputable def nsL(N n:Nat):Option Bool->List V
 |none=>[]
 |some _=>[.loc (N+(n+1))]
theorem RP(x:Option Bool):(r++LN D N r.length x)[r.length]?=some (.list (nsL N r.length x))/\aE (wc N (r++LN D N r.length x)) (nsL N r.length x) (V1 D x):=by
 cases x with
 |none=>exact⟨aR,.nil⟩
 |some s=>exact⟨aR,.cons ⟨_,rfl,gx⟩ .nil⟩
noncomputable def aat:List V->ad V:=L3 λM=>∀{D:cR}{t0:O}{b:Bool}{b2 r:List O}{c:Wr}{l0:List (Option Bool)}{d0:List Nat}{j ja:Nat}{o:Option Bool}{l:Lc}{a:Option Str}{lo ce Q},v_ D (D.N (bs t0 b b2).length) c (l0++[none]) r->c.dc=d0++[j]->l≠ .k->r[ja]?=some (.dict (GX a))->(∀v,a=some v->v.length<=10)->c.pc.length<=9000->c.pr<=100->
 (∀r' i,ni D (D.N (bs t0 b b2).length) c (cF c (bY D o l) (kM D l0 o a) i) (l0++[lG l0 o]) r r'->Q .none ⟨lo,ce,mm D (bs t0 true b2) (cF c (bY D o l) (kM D l0 o a) i) r'⟩)->
 M [bW (bs t0 b b2),.str (eO o l),.loc (D.N (bs t0 b b2).length+ja),.loc (D.N (bs t0 b b2).length+j)] ⟨lo,ce,mm D (bs t0 b b2) c r⟩ Q
theorem RQ{l:Lc}(Z:l≠ .k)(a:Option Str):(l8 (GX a)&&Nat.ble (GX a).length 1&& !(dN (eO o l) (u6 (GX a))))=true:=by
 cases a with
 |none=>rfl
 |some v=>refine(?_ :(!(match d3 "k" (eO o l) with|true=>true|false=>false))=true);rw[show d3 "k" (eO o l)=false from(O7 o Z).2];rfl
theorem RS{l:Lc}(a:Option Str):eO o l::u6 (GX a)=gE o l a.isSome:=by cases a<;>rfl
section
variable {k:Nat}
theorem EJ{v:V}{lo:List (Option V)}{Q:Unit->St->Prop}(h:me[l]?=some .de)(q:Q () ⟨lo,ce,me.set l (.cell v)⟩):gd (oT me[l]?) (Q () ⟨lo,ce,me.set l (.cell v)⟩):=b_ (by rw[h];rfl) q
theorem aau(U:cD P g){d0:List Nat}{n pc ls:Nat}{l:Lc}{lo:List (Option V)}(W:v_ D (D.N (bs t0 b b2).length) c (l0++[none]) r)(hd:c.dc=d0++[j])(Z:l≠ .k)(h1:r[pc]?=some (.cell (.loc (D.N (bs t0 b b2).length+pm)))) (h2:r[pm]?=some (.bP .meth [.e_ (.ref 90),bW (bs t0 b b2)])) (h3:r[ls]?=some (.sset (gE o l a.isSome))) (hc:r[n]?=some (.cell (bW (bs t0 b b2)))) (Np:r[ja]?=some (.dict (GX a))) (ha:∀v,a=some v->v.length<=10) (hp:c.pc.length<=9000) (hr:c.pr<=100)(x0:lo[0]?=some (some (.str (eO o l)))) (x1:lo[1]?=some (some (.loc (D.N (bs t0 b b2).length+ja)))) (x2:lo[2]?=some (some (.loc (D.N (bs t0 b b2).length+j)))) (x3:lo[3]?=some (some .none)) (x4:lo[4]?=some (some (.loc (D.N (bs t0 b b2).length+ls)))) (x7:lo[7]?=some (some .none)) (m:lo.length=18)(h:∀r' A i,ni D (D.N (bs t0 b b2).length) c (cF c (bY D o l) (kM D l0 o a) i) (l0++[lG l0 o]) r r'->Q .next ⟨A,[D.N (bs t0 b b2).length+n,D.N (bs t0 b b2).length+pc],mm D (bs t0 true b2) (cF c (bY D o l) (kM D l0 o a) i) r'⟩):aV C1.1 (aV C2.1 (aV C3.1 (aV C4.1 (aV tR.1 (aV ya.1 (aV tS.1 (aV tT.1 (aV yb.1 (aV yc.1 (aV yd.1 (aV tU.1 (c8 .next)))))))))))) ⟨lo,[D.N (bs t0 b b2).length+n,D.N (bs t0 b b2).length+pc],mm D (bs t0 b b2) c r⟩ Q:=by
 refine p6 U W hd (λs e=>.inr ⟨l0,rfl⟩) Z h1 h2 h3 x4 λr' nd T q q'=>?_;rw[G0] at T;have S:GQ D (D.N (bs t0 true b2).length) r' j (lG l0 o):=by have:=T.R.dl;rw[hd] at this;exact this.snoc_inv.2
 have z:∀{i:Nat}{x:O},r[i]?=some x->(∀xs,x≠ .list xs)->r'[i]?=some x:=λe B=>T.keep _ _ e λq=>W.R.TM e B (fG _ q);have f:=z hc λ_ e=>by cases e
 have C:=z Np λ_ e=>by cases e
 refine xA (RP (D:=D) (N:=D.N (bs t0 true b2).length) (r:=r') (lG l0 o)) λg1 p=>?_;have T':=T.more (LN D (D.N (bs t0 true b2).length) r'.length (lG l0 o));have hn:=T.R.new (aF _);have hrl:=T.le;refine p7 U S W.ok (bF (by decide) x2) (by rw[dS];exact m) ?_;replace q:=q.more (LN D (D.N (bs t0 true b2).length) r'.length (lG l0 o));have qk:a.isSome=true->Pq D (D.N (bs t0 true b2).length) (r'++LN D (D.N (bs t0 true b2).length) r'.length (lG l0 o)) nd none .k:=λe=>(q' e).more _;replace f:=ac (t:=LN D (D.N (bs t0 true b2).length) r'.length (lG l0 o)) f;replace C:=ac (t:=LN D (D.N (bs t0 true b2).length) r'.length (lG l0 o)) C;clear z S q' T;revert g1 p T' q qk f C;generalize r'++LN D (D.N (bs t0 true b2).length) r'.length (lG l0 o)=u;intro g1 p T' q qk f C;have w:((lo.set 10 (some (V.loc (D.N (bs t0 b b2).length+nd)))).set 11 (some (V.loc (D.N (bs t0 true b2).length+r'.length))))[11]?=some (some (.loc (D.N (bs t0 true b2).length+r'.length))):=pn (by rw[dS,m];decide);have y:((lo.set 10 (some (V.loc (D.N (bs t0 b b2).length+nd)))).set 11 (some (V.loc (D.N (bs t0 true b2).length+r'.length))))[10]?=some (some (.loc (D.N (bs t0 true b2).length+nd))):=bF (by decide) (pn (by rw[m];decide));have V2:((lo.set 10 (some (V.loc (D.N (bs t0 b b2).length+nd)))).set 11 (some (V.loc (D.N (bs t0 true b2).length+r'.length)))).length=18:=by rw[dS,dS,m]
 have y0:=bF (j:=0) (v:=some (V.loc (D.N (bs t0 true b2).length+r'.length))) (by decide:11≠0) (bF (v:=some (V.loc (D.N (bs t0 b b2).length+nd))) (by decide:10≠0) x0);have y1:=bF (j:=1) (v:=some (V.loc (D.N (bs t0 true b2).length+r'.length))) (by decide:11≠1) (bF (v:=some (V.loc (D.N (bs t0 b b2).length+nd))) (by decide:10≠1) x1);have y3:=bF (j:=3) (v:=some (V.loc (D.N (bs t0 true b2).length+r'.length))) (by decide:11≠3) (bF (v:=some (V.loc (D.N (bs t0 b b2).length+nd))) (by decide:10≠3) x3);have y7:=bF (j:=7) (v:=some (V.loc (D.N (bs t0 true b2).length+r'.length))) (by decide:11≠7) (bF (v:=some (V.loc (D.N (bs t0 b b2).length+nd))) (by decide:10≠7) x7);revert y0 y1 y3 y7 y w V2;generalize (lo.set 10 (some (V.loc (D.N (bs t0 b b2).length+nd)))).set 11 (some (V.loc (D.N (bs t0 true b2).length+r'.length)))=A;intro w y V2 y0 y1 y3 y7;refine xA (No W.ok (l0:=l0) (o:=o) (a:=a) ha) λhz K=>?_;have TH:=p.len;have hxl:=yf D (lG l0 o);refine p8 U (base:=bs t0 true b2) C g1 qk (aQ [_,_] (.e 1 (.v 0) (.v 1) (.c 1 (.v 1) (.n 1) .nil)) 0 (.v 0) (.n 100) tt TH hxl) y1 y7 y w V2 (λe=>?_) λv X a2 a3 a4 a5 e=>?_
 ·subst e;refine p9 U (base:=bs t0 true b2) (lv:=l0) (es:=kM D l0 o none) W.ok T' W.nz f q g1 ?_ K hz hp hr C y0 y1 y3 y w V2 h;unfold kM;rw[show X_ none=[] from rfl,aS];exact p
 ·subst e;have g3:(u++[O.bP .bI [.loc (D.N (bs t0 true b2).length+ja)],.tup [.str "k",.str v],.list [.loc (D.N (bs t0 true b2).length+(u.length+1))],.tup [.str "k",.str v]])[u.length+3]?=some (.tup [.str "k",.str v]):=JL;replace T':=T'.more [O.bP .bI [.loc (D.N (bs t0 true b2).length+ja)],.tup [.str "k",.str v],.list [.loc (D.N (bs t0 true b2).length+(u.length+1))],.tup [.str "k",.str v]];replace q:=q.more [O.bP .bI [.loc (D.N (bs t0 true b2).length+ja)],.tup [.str "k",.str v],.list [.loc (D.N (bs t0 true b2).length+(u.length+1))],.tup [.str "k",.str v]];replace f:=ac (t:=[O.bP .bI [.loc (D.N (bs t0 true b2).length+ja)],.tup [.str "k",.str v],.list [.loc (D.N (bs t0 true b2).length+(u.length+1))],.tup [.str "k",.str v]]) f;replace C:=ac (t:=[O.bP .bI [.loc (D.N (bs t0 true b2).length+ja)],.tup [.str "k",.str v],.list [.loc (D.N (bs t0 true b2).length+(u.length+1))],.tup [.str "k",.str v]]) C;replace g1:=ac (t:=[O.bP .bI [.loc (D.N (bs t0 true b2).length+ja)],.tup [.str "k",.str v],.list [.loc (D.N (bs t0 true b2).length+(u.length+1))],.tup [.str "k",.str v]]) g1;replace p:=wc.to p (r':=u++[O.bP .bI [.loc (D.N (bs t0 true b2).length+ja)],.tup [.str "k",.str v],.list [.loc (D.N (bs t0 true b2).length+(u.length+1))],.tup [.str "k",.str v]]) λt xs=>ac;clear qk;revert g3 T' q f C g1 p;generalize u++[O.bP .bI [.loc (D.N (bs t0 true b2).length+ja)],.tup [.str "k",.str v],.list [.loc (D.N (bs t0 true b2).length+(u.length+1))],.tup [.str "k",.str v]]=d;intro g3 T' q f C g1 p;obtain⟨q1,q2,q3⟩:=q;have tn:∀{I zs:List V},O.tup I≠ .list zs:=λe=>by cases e
  refine p9 U (lv:=l0) W.ok (T'.put hrl hn g1 λ_ e=>by cases e) W.nz (wV f g1 λe=>by cases e) (.mk (wV q1 g1 λe=>by cases e) q2 (wV q3 g1 λe=>by cases e)) (pn (List.getElem?_eq_some_iff.mp g1).1) ?_ K hz hp hr (wV C g1 λe=>by cases e)
   (bF (by decide) (bF (by decide) (bF (by decide) (bF (by decide) (bF (by decide) y0))))) (bF (by decide) (bF (by decide) (bF (by decide) (bF (by decide) (bF (by decide) y1))))) (bF (by decide) (bF (by decide) (bF (by decide) (bF (by decide) (bF (by decide) y3)))))
   (bF (by decide) (bF (by decide) (bF (by decide) (bF (by decide) (bF (by decide) y))))) (bF (by decide) (bF (by decide) (bF (by decide) (bF (by decide) (bF (by decide) w))))) (by simp only[dS];exact V2) h
  exact(wc.to p λt xs e=>wV e g1 tn).append (.cons ⟨_,rfl,wV g3 g1 tn⟩ .nil)
theorem Nq(U:cD P g):cO g (k+3) (.ref 126) aat:=by
 have H:=aan P;refine EE U H (NB.at rfl (by exact(ab (JV.2 U H) (ab (RH.2 U H) (ab (RJ.2 U H) (ab (RK.2 U H) (ab (RL.2 U H) (ab (RM.2 U H) (ab (C1.2 U H) (ab (C2.2 U H) (ab (C3.2 U H) (ab (C4.2 U H) (ab (tR.2 U H) (ab (ya.2 U H) (ab (tS.2 U H) (ab (tT.2 U H) (ab (yb.2 U H) (ab (yc.2 U H) (ab (yd.2 U H) (ab (tU.2 U H) aC)))))))))))))))))))) 4 [.none] ["self","tag","attrs","new_namespaces","qname_text"] ([some 1,some 2,some 3,some 4]++List.replicate 14 none) [some 0,none] (by kernel_rfl) (λn=>rfl) rfl (by kernel_rfl) rfl (λs us X Z=>by
  refine TX (us4 Z) λa b c d CN=>?_;obtain rfl:=CN;exact⟨[.none],λ_=>.cons rfl .nil,kp_binds X λS=>rfl⟩) ?_
 refine kW (@λD t0 b b2 r c l0 d0 j ja o l a lo ce Q W hd Z Np ha hp hr h=>?_);refine⟨rfl,?_⟩;refine(?_ :aV JV.1 _ ⟨[some (.str (eO o l)),some (.loc (D.N (bs t0 b b2).length+ja)),some (.loc (D.N (bs t0 b b2).length+j)),some .none,none,none,none,none,none,none,none,none,none,none,none,none,none,none],[(mm D (bs t0 b b2) c r).length,(mm D (bs t0 b b2) c r).length+1],mm D (bs t0 b b2) c r++[.cell (bW (bs t0 b b2)),.de]⟩ _);rw[c_,fq,c7 (D.N (bs t0 b b2).length)];refine bS (i:=0) (ce:=[D.N (bs t0 b b2).length+r.length,D.N (bs t0 b b2).length+(r.length+1)]) rfl (aY aR) ?_;refine ca D (bs t0 b b2) c _ (n:="_exclude_attrs") .none (by kernel_rfl) rfl ?_;refine av (iP (aY (ac Np))) ?_;refine b_ (RQ Z a) ?_;rw[RS];have T1:=(((ni.start W.R).more [.cell (bW (bs t0 b b2)),.de]).more [.sset (gE o l a.isSome)]).more [.dict []];refine bS (i:=0) (ce:=[D.N (bs t0 b b2).length+r.length,D.N (bs t0 b b2).length+(r.length+1)]) (me:=(mm D (bs t0 b b2) c _++[O.sset (gE o l a.isSome)])++[O.dict []]) rfl (ac (ac (aY aR))) ?_;rw[c_,c_];refine ca D (bs t0 b b2) c _ .none (by kernel_rfl) rfl ?_;refine bS (i:=0) (ce:=[D.N (bs t0 b b2).length+r.length,D.N (bs t0 b b2).length+(r.length+1)]) rfl (aY (ac (ac aR))) ?_;refine nX D (bs t0 b b2) c _ (by kernel_rfl) ?_;have e4:(((r++[O.cell (bW (bs t0 b b2)),O.de])++[O.sset (gE o l a.isSome)])++[O.dict []])=r++[O.cell (bW (bs t0 b b2)),O.de,O.sset (gE o l a.isSome),O.dict []]:=by simp
 refine EJ (by rw[c_];exact aY (ac (ac (ac gx)))) ?_;rw[c_,qP,fq,fq,e4];rw[e4] at T1;replace T1:=(T1.more [O.bP .meth [.e_ (.ref 90),bW (bs t0 b b2)]]).put (o':=O.cell (.loc (D.N (bs t0 b b2).length+(r++[O.cell (bW (bs t0 b b2)),O.de,O.sset (gE o l a.isSome),O.dict []]).length))) (eT _) (λq=>W.R.new (eT _) q) (ac gx) (λ_ e=>by cases e);have p:((r++[O.cell (bW (bs t0 b b2)),O.de,O.sset (gE o l a.isSome),O.dict []])++[O.bP .meth [.e_ (.ref 90),bW (bs t0 b b2)]]).set (r.length+1) (O.cell (.loc (D.N (bs t0 b b2).length+(r++[O.cell (bW (bs t0 b b2)),O.de,O.sset (gE o l a.isSome),O.dict []]).length)))=
  r++[O.cell (bW (bs t0 b b2)),O.cell (.loc (D.N (bs t0 b b2).length+(r.length+4))),O.sset (gE o l a.isSome),O.dict [],O.bP .meth [.e_ (.ref 90),bW (bs t0 b b2)]]:=by
  rw[ak,au];exact vm
 rw[p] at T1 ⊢;refine aau U (ls:=r.length+2) ⟨W.ok,T1.R,W.lv,W.nz⟩ hd Z gx (by simp) (by simp) aR (ac Np) ha hp hr rfl rfl rfl rfl (ag (λn=>some (some (V.loc n))) (by rw[ak];rfl)) rfl rfl λr' A i T=>h r' i (T1.trans T rfl)
end
noncomputable def RT(D:cR)(c:Wr)(x:Str):Bool:=match D.ex with
 |none=>false
 |some xs=>!(c.dD==0)||dN x xs
noncomputable def mO(c:Wr)(n:Nat):Wr:={bp c with dc:=c.dc++[n]}
theorem sZ(h:c.da=[]):bp c=c:=by obtain⟨pc,da,dc,nz,pr,seen,done,dD⟩:=c;obtain rfl:=h;rfl
theorem J3(b:Nat)(e:Option (List Str)):nA (O0 b e)=true:=by cases e<;>rfl
structure V3(c:Wr):Prop where
 da:c.da.length<=1000
 tot:kX c.da<=10000
 pc:c.pc.length<=8000
 pr:c.pr<=100
theorem vz(c:Wr):(bp c).pc.length<=c.pc.length+1:=by
 unfold bp;dsimp only;cases !(Nat.beq (dE c.da).length 0)&&c.seen with
 |true=>rw[cS,ak];exact aF _
 |false=>exact eT _
noncomputable def V4:List V->ad V:=L3 λM=>∀{D:cR}{t0:O}{b:Bool}{b2 r:List O}{c:Wr}{lv:List (Option Bool)}{ja:Nat}{o:Option Bool}{l:Lc}{a:Option Str}{lo ce Q},v_ D (D.N (bs t0 b b2).length) c lv r->lv.length<=9->V3 c->l≠ .k->r[ja]?=some (.dict (GX a))->(∀v,a=some v->v.length<=10)->(∀xs,D.ex=some xs->xs.length<=30)->
 br (RT D c (eO o l)) (Q .none ⟨lo,ce,mm D (bs t0 b b2) {c with dD:=c.dD+1} r⟩)
 (∀r' i,ni D (D.N (bs t0 b b2).length) c (cF (mO c r.length) (bY D o l) (kM D lv o a) i) (lv++[lG lv o]) r r'->Q .none ⟨lo,ce,mm D (bs t0 true b2) (cF (mO c r.length) (bY D o l) (kM D lv o a) i) r'⟩)->
 M [bW (bs t0 b b2),.str (eO o l),.loc (D.N (bs t0 b b2).length+ja)] ⟨lo,ce,mm D (bs t0 b b2) c r⟩ Q
section
variable {k:Nat}
noncomputable abbrev V5 (P:Params):df:=fb (KK P) 120 ["self","tag","attrs","new_namespaces"] []
abbrev wX(i:Nat):=NN V5 [] 120 i 3
theorem aav(P:Params):cc (V5 P) [] .cell:=ik (by kernel_rfl)
theorem A2{A B:Prop}(hz:c.da.length<=1000)(h1:c.da=[]->B)(h2:A):HM (mm D base c r)[base.length+4]? λb=>br b A B:=by
 refine qU AY (by rw[ax];exact aQ [_] (.c 1 (.v 0) (.n 1000) .nil) 0 (.v 0) (.n 10000) tt hz) ?_;rw[ax];cases e:c.da with
 |nil=>exact h1 e
 |cons x xs=>exact h2
theorem J4(xs:List Nat):(mm D base c r).set (D.A base.length 2) (.list (r8 D base.length xs))=mm D base {c with dc:=xs} r:=xY 2 (by decide) rfl rfl
theorem EK{b:Nat}{xs:List Nat}:r8 D b xs++[.loc (D.N b+i)]=r8 D b (xs++[i]):=by unfold r8;simp
theorem RR.open{lv:List (Option Bool)}(h:RR D N c lv r)(e1:c'.dc=c.dc++[r.length])(e2:c'.nz=c.nz):RR D N c' (lv++[none]) (r++[.list []]):=by
 have hn:=h.new (aF _);refine⟨by rw[e1];exact h.more.dl.append (.cons aR .nil),by rw[e2];exact h.more.nl,?_⟩;rw[e1,e2];have hd:=h.nd;rw[au];refine List.nodup_append.mpr ⟨(List.nodup_append.mp hd).1,List.nodup_cons.mpr ⟨λq=>hn (oB _ q),(List.nodup_append.mp hd).2.1⟩,λa ha b hb=>?_⟩;rcases List.mem_cons.mp hb with rfl|hb
 ·exact λq=>hn (fG _ (q▸ha))
 ·exact(List.nodup_append.mp hd).2.2 a ha b hb
noncomputable def RU:wX 0:=⟨_,λU H=>by exact(ii (cG (bN (aN jz (dy (cA U) 5 rfl (ai H 0 rfl)) ie) (bN (cG (g9 (a7 (dy (cA U) 16 rfl (ai H 0 rfl))) (g9 (aN wv (ai H 1 rfl) (dy (cA U) 5 rfl (ai H 0 rfl))) rZ))) gD))) (ab (vf (cA U) 16 kE rfl (ai H 0 rfl) bv) (ab AL aC)) aC)⟩
noncomputable def J5:wX 1:=⟨_,λU H=>by exact(ii (a7 (dy (cA U) 1 rfl (ai H 0 rfl))) (ab (cZ (iL U (cA U) (by kernel_rfl) (by kernel_rfl) (by kernel_rfl) (ED U).ok (ai H 0 rfl) ay)) aC) aC)⟩
noncomputable def C6:wX 2:=⟨_,λU H=>by exact(aP H 3 rfl (eD ay))⟩
noncomputable def yg:wX 3:=⟨_,λU H=>by exact(cZ (bZ .list bD cJ b0 bB (dy (cA U) 9 rfl (ai H 0 rfl)) (ae (ai H 3 rfl) ay)))⟩
noncomputable def C7:wX 4:=⟨_,λU H=>by exact(ii (cG (bN (aN jz (dy (cA U) 7 rfl (ai H 0 rfl)) ie) (bN rY gD))) fk aC)⟩
noncomputable def C8:wX 5:=⟨_,λU H=>by exact(cZ (iL U (cA U) (by kernel_rfl) (by kernel_rfl) (by kernel_rfl) (Nq U).ok (ai H 0 rfl) (ae (ai H 1 rfl) (ae (ai H 2 rfl) (ae (ai H 3 rfl) ay)))))⟩
theorem vA(U:cD P g){lv:List (Option Bool)}{l:Lc}{lo:List (Option V)}{Q:V->St->Prop}(W:v_ D (D.N (bs t0 b b2).length) c lv r)(d:lv.length<=9)(hI:V3 c)(Z:l≠ .k)(Np:r[ja]?=some (.dict (GX a)))(ha:∀v,a=some v->v.length<=10)(h:∀r' i,ni D (D.N (bs t0 b b2).length) c (cF (mO c r.length) (bY D o l) (kM D lv o a) i) (lv++[lG lv o]) r r'->Q .none ⟨lo,ce,mm D (bs t0 true b2) (cF (mO c r.length) (bY D o l) (kM D lv o a) i) r'⟩):aV J5.1 (aV C6.1 (aV yg.1 (aV C7.1 (aV C8.1 (c8 .next))))) ⟨some (bW (bs t0 b b2))::some (.str (eO o l))::some (.loc (D.N (bs t0 b b2).length+ja))::List.replicate 4 none,[],mm D (bs t0 b b2) c r⟩ (oZ Q lo ce):=by
 have aD:aV C6.1 (aV yg.1 (aV C7.1 (aV C8.1 (c8 .next)))) ⟨some (bW (bs t0 b b2))::some (.str (eO o l))::some (.loc (D.N (bs t0 b b2).length+ja))::List.replicate 4 none,[],mm D (bs t0 b b2) (bp c) r⟩ (oZ Q lo ce):=by
  have e2:(mm D (bs t0 b b2) (bp c) (r++[.list []]))[D.A (bs t0 b b2).length 2]?=some (.list (r8 D (bs t0 b b2).length c.dc)):=CV 2 rfl;refine(?_ :aV yg.1 _ ⟨some (bW (bs t0 b b2))::some (.str (eO o l))::some (.loc (D.N (bs t0 b b2).length+ja))::some (.loc (mm D (bs t0 b b2) (bp c) r).length)::List.replicate 3 none,[],mm D (bs t0 b b2) (bp c) r++[.list []]⟩ _);rw[c_,fq];refine ca D (bs t0 b b2) (bp c) _ (D.L (bs t0 b b2).length 2) (by kernel_rfl) rfl ?_;refine b_ (bk e2) ?_;have S:=W.R.dl.len;refine iN e2 (by unfold r8;rw[aJ,ax];exact aQ [_,_] (.c 1 (.v 0) (.n 9) (.e 1 (.v 1) (.v 0) .nil)) 0 (.a (.v 1) (.n 1)) (.n 10000) tt d S) ?_;rw[EK,J4];refine ca D (bs t0 b b2) (mO c r.length) _ .none (by kernel_rfl) rfl ?_;refine nX D (bs t0 b b2) (mO c r.length) _ (by kernel_rfl) ?_;have R':RR D (D.N (bs t0 b b2).length) (mO c r.length) (lv++[none]) (r++[.list []]):=W.R.open rfl rfl;refine λ_ E=>E ⟨W.ok,R',by rw[ak];exact dQ d 1,W.nz⟩ rfl Z (ac Np) ha (am (vz c) (am (dQ hI.pc 1) (by decide))) hI.pr λr' i T=>?_;refine h r' i ⟨T.R,λm x e hm=>T.keep m x (ac e) λq=>?_,am (by rw[ak];exact gR _ _) T.le⟩;rcases List.mem_append.mp q with q|q
  ·exact hm q
  ·have:=(List.getElem?_eq_some_iff.mp e).1;rw[List.mem_singleton.mp q] at this;exact i_ _ this
 refine ca D (bs t0 b b2) c r (.loc ((bs t0 b b2).length+4)) (by kernel_rfl) rfl ?_;refine A2 hI.da (λe=>?_) ?_
 ·rw[sZ e] at aD;exact aD
 ·refine nX D (bs t0 b b2) c r (by kernel_rfl) ?_;exact λ_ E=>E hI.da hI.tot (am hI.pc (by decide)) aD
theorem Nr(U:cD P g):cO g (k+4) (.ref 120) V4:=by
 have H:=aav P;refine xV U H (NB.at rfl (by exact(ab (RU.2 U H) (ab (J5.2 U H) (ab (C6.2 U H) (ab (yg.2 U H) (ab (C7.2 U H) (ab (C8.2 U H) aC)))))))) rfl (by kernel_rfl) (λa b c S=>rfl) ?_;refine kW (@λD t0 b b2 r c lv ja o l a lo ce Q W d hI Z Np ha B h=>?_);refine⟨_,_,_,rfl,?_⟩;refine o3 ?_;refine ca D (bs t0 b b2) c r (O0 (bs t0 b b2).length D.ex) (by kernel_rfl) (J3 _ _) ?_;cases i:D.ex with
 |none=>rw[show RT D c (eO o l)=false by unfold RT;rw[i]] at h;refine vA U W d hI Z Np ha ?_;exact h
 |some xs=>
  have M:RT D c (eO o l)=(!(c.dD==0)||dN (eO o l) xs):=by unfold RT;rw[i]
  refine ca D (bs t0 b b2) c r (.int c.dD) (by kernel_rfl) rfl ?_;refine bu (λe=>?_) (λe=>?_)
  ·rw[e] at M;rw[M] at h;refine ca D (bs t0 b b2) c r (.int c.dD) (by kernel_rfl) rfl ?_;exact r_ D (bs t0 b b2) c {c with dD:=c.dD+1} r rfl rfl rfl h
  ·rw[e] at M;refine ca D (bs t0 b b2) c r (O0 (bs t0 b b2).length D.ex) (by kernel_rfl) (J3 _ _) ?_;rw[i];refine CZ (K:=λb=>br b _ _) (VC i) (B xs i) ?_;refine bu (λe'=>?_) (λe'=>?_)
   ·rw[M,e'] at h;refine ca D (bs t0 b b2) c r (.int c.dD) (by kernel_rfl) rfl ?_;exact r_ D (bs t0 b b2) c {c with dD:=c.dD+1} r rfl rfl rfl h
   ·rw[M,e'] at h;refine vA U W d hI Z Np ha ?_;exact h
end
noncomputable def ml(b:Str):Str:=Str.empty++"</"++b++">"
noncomputable def sj(c:Wr)(b:Str)(d0 z0:List Nat)(n:Nat)(dn:Bool):Wr:={bp c with pc:=(bp c).pc++[ml b],dc:=d0,nz:=z0,pr:=n,done:=dn}
inductive G3:List V->St->(V->St->Prop)->Prop
 |mk {D:cR} {base r:List O} {c:Wr} {l1:List (Option Bool)} {x:Option Bool} {d0 z0:List Nat} {j i n:Nat} {o:Option Bool} {l:Lc} {lo G4 TO}:v_ D (D.N base.length) c (l1++[x]) r->c.dc=d0++[j]->c.nz=z0++[i]->c.pr=n+1->(∀s,o=some s->o∈l1++[x])->V3 c->
  br (!(c.dD==0)) (TO .none ⟨lo,G4,mm D base {c with dD:=c.dD-1} r⟩)
   (∀r' dn,RR D (D.N base.length) (sj c (bY D o l) d0 z0 n dn) l1 r'->TO .none ⟨lo,G4,mm D base (sj c (bY D o l) d0 z0 n dn) r'⟩)->
  G3 [bW base,.str (eO o l)] ⟨lo,G4,mm D base c r⟩ TO
 |skip {D:cR} {base r:List O} {c:Wr} {v:V} {lo G4 TO}:(c.dD==0)=false->TO .none ⟨lo,G4,mm D base {c with dD:=c.dD-1} r⟩->G3 [bW base,v] ⟨lo,G4,mm D base c r⟩ TO
theorem qV{lo:List (Option V)}{v:V}{Q:V->St->Prop}(h:me[l]?=some (.list (xs++[v])))(hz:xs.length<=1000)(q:Q v ⟨lo,ce,me.set l (.list xs)⟩):aA (dC me (.loc l)) λp=>gd (bw p.2.length) (aA (zN p.2) λq=>Q q.2 ⟨lo,ce,me.set p.1 (.list q.1)⟩):=av (cV h) (b_ (cM (by rw[ak];exact am (dQ hz 1) (by decide))) (av (sN xs v) q))
section
variable {k:Nat}
noncomputable abbrev V6 (P:Params):df:=fb (KK P) 133 ["self","tag"] []
noncomputable def V7:List Str:=["len"]
abbrev vB(i:Nat):=NN V6 V7 133 i 2
theorem aaw(P:Params):cc (V6 P) V7 .cell:=ik (by kernel_rfl)
noncomputable def RV:vB 0:=⟨_,λU H=>by exact(ii (a7 (dy (cA U) 16 rfl (ai H 0 rfl))) (ab (vf (cA U) 16 BT rfl (ai H 0 rfl) bv) (ab AL aC)) aC)⟩
noncomputable def J6:vB 1:=⟨_,λU H=>by exact(ii (a7 (dy (cA U) 1 rfl (ai H 0 rfl))) (ab (cZ (iL U (cA U) (by kernel_rfl) (by kernel_rfl) (by kernel_rfl) (ED U).ok (ai H 0 rfl) ay)) aC) aC)⟩
noncomputable def yh:vB 2:=⟨_,λU H=>by exact(cZ (md (cA U).cls (wQ U) uL (ai H 0 rfl) (ae (tQ (iJ bz (iJ (CM (eM (iL U (cA U) (by kernel_rfl) (by kernel_rfl) (by kernel_rfl) (JP U).ok (ai H 0 rfl) (ae (ai H 1 rfl) ay)) bv)) (iJ bz Eo)))) ay)))⟩
noncomputable def C9:vB 3:=⟨_,λU H=>by exact(cZ (bZ .list bD kt jX oO (dy (cA U) 12 rfl (ai H 0 rfl)) ay))⟩
noncomputable def C_:vB 4:=⟨_,λU H=>by exact(cj (cA U) 15 rfl (Vm gq (b7 (λ_ _ _=>aX) eW (bG U H 0 2 rfl rfl (by kernel_rfl)) (ae (dy (cA U) 12 rfl (ai H 0 rfl)) ay)) bv (hm:=by with_unfolding_all rfl)) (ai H 0 rfl))⟩
noncomputable def Da:vB 5:=⟨_,λU H=>by exact(cZ (bZ .list bD kt jX oO (dy (cA U) 9 rfl (ai H 0 rfl)) ay))⟩
noncomputable def Db:vB 6:=⟨_,λU H=>by exact(cZ (bZ .list bD kt jX oO (dy (cA U) 10 rfl (ai H 0 rfl)) ay))⟩
theorem EL(h:me[l]?=some (.list xs)):Qu me (.loc l)=some xs.length:=bE (bE h)
theorem eG{K:Nat->Prop}(h:me[l]?=some (.list xs))(hz:xs.length<=10000)(q:K xs.length):aA (Qu me (.loc l)) λn=>gd (bw n) (K n):=av (EL h) (b_ (cM hz) q)
theorem G5(G:tE D)(o:Option Bool)(l:Lc):(bY D o l).length<=1000:=by
 cases o with
 |none=>exact am (iO l).2 (by decide)
 |some s=>refine(?_ :(m8 (pf D s) l.s).length<=1000);rw[sc];have:=(iO l).2;have:=(jD G s).2;omega
theorem V8(U:cD P g){lv:List (Option Bool)}{d0:List Nat}{l:Lc}{lo:List (Option V)}(W:v_ D (D.N base.length) c lv r)(hd:c.dc=d0++[j])(ho:∀s,o=some s->o∈lv)(hp:c.pc.length<=10000)(h:∀r',ni D (D.N base.length) c c lv r r'->Q .next ⟨some (bW base)::some (.str (eO o l))::lo,ce,mm D base {c with pc:=c.pc++[ml (bY D o l)]} r'⟩):yh.1 ⟨some (bW base)::some (.str (eO o l))::lo,ce,mm D base c r⟩ Q:=by refine ca D base c r (.loc (base.length+1)) (by kernel_rfl) rfl ?_;refine nX D base c r (by kernel_rfl) ?_;refine λ_ E=>E W hd (λs e=>.inl (ho s e)) λr' t T ht=>?_;rw[show qQ lv o=lv by cases o with|none=>rfl|some s=>exact n3 (ho s rfl)] at T;refine dK (aY ht) rfl ?_;have M:=G5 W.ok o l;have X:(Str.empty++"</"++bY D o l).length<=2+1000:=kL (aU rfl) M;have a2:=kL (y:=">") X (aF 1);refine b_ (tF M rfl) ?_;refine b_ (by rw[<-bH];exact tF X rfl) ?_;refine b_ (by rw[<-bH];exact tF a2 rfl) ?_;refine b_ (tF a2 rfl) ?_;exact nY D base c r' hp (h r' T)
theorem RR.close{l1:List (Option Bool)}{x:Option Bool}{d0 z0:List Nat}(h:RR D N c (l1++[x]) r)(hd:c.dc=d0++[j])(hn:c.nz=z0++[i])(e1:c'.dc=d0)(e2:c'.nz=z0):RR D N c' l1 r:=by obtain⟨h1,h2,h3⟩:=h;rw[hd] at h1 h3;rw[hn] at h2 h3;refine⟨by rw[e1];exact h1.snoc_inv.1,by rw[e2];exact λj hj=>h2 j (fG _ hj),?_⟩;rw[e1,e2];exact h3.sublist ((List.sublist_append_left _ _).append (List.sublist_append_left _ _))
theorem J7(U:cD P g){l1:List (Option Bool)}{x:Option Bool}{d0 z0:List Nat}{n:Nat}{l:Lc}{lo:List (Option V)}{Q:V->St->Prop}(W:v_ D (D.N base.length) c (l1++[x]) r)(hd:c.dc=d0++[j])(hn:c.nz=z0++[i])(hr:c.pr=n+1)(ho:∀s,o=some s->o∈l1++[x])(hI:V3 c)(h:∀r' dn,RR D (D.N base.length) (sj c (bY D o l) d0 z0 n dn) l1 r'->Q .none ⟨lo,ce,mm D base (sj c (bY D o l) d0 z0 n dn) r'⟩):aV J6.1 (aV yh.1 (aV C9.1 (aV C_.1 (aV Da.1 (aV Db.1 (c8 .next)))))) ⟨some (bW base)::some (.str (eO o l))::List.replicate 2 none,[],mm D base c r⟩ (oZ Q lo ce):=by
 have aD:aV yh.1 (aV C9.1 (aV C_.1 (aV Da.1 (aV Db.1 (c8 .next))))) ⟨some (bW base)::some (.str (eO o l))::List.replicate 2 none,[],mm D base (bp c) r⟩ (oZ Q lo ce):=by
  have W':v_ D (D.N base.length) (bp c) (l1++[x]) r:=⟨W.ok,W.R.wr rfl rfl,W.lv,W.nz⟩;refine V8 U W' hd ho (am (vz c) (am (dQ hI.pc 1) (by decide))) λr' T=>?_;have hr':n<=100:=by have:=hI.pr;exact aQ [_,_] (.f 1 (.v 0) (.a (.v 1) (.n 1)) (.c 1 (.v 0) (.n 100) .nil)) 0 (.v 1) (.n 100) tt hr this
  have S:=W.R.dl.len;have J:=W.lv;have hNz:=W.nz;rw[hd,ak,ak] at S;rw[ak] at J;rw[hn,ak] at hNz;refine ca D base {bp c with pc:=(bp c).pc++[ml (bY D o l)]} r' (D.L base.length 15) (by kernel_rfl) rfl ?_;have e15:(mm D base {bp c with pc:=(bp c).pc++[ml (bY D o l)]} r')[D.A base.length 15]?=some (.list (List.replicate (n+1) (.bool false)++[.bool false])):=by rw[<-sg,<-hr];exact CV 15 rfl
  refine b_ (bk e15) ?_;refine qV e15 (by rw[oD];exact aQ [_] (.c 1 (.v 0) (.n 100) .nil) 0 (.a (.v 0) (.n 1)) (.n 1000) tt hr') ?_;rw[JZ];refine ca D base {bp c with pc:=(bp c).pc++[ml (bY D o l)],pr:=n} r' (D.L base.length 15) (by kernel_rfl) rfl ?_;refine av (EL EG) ?_;rw[oD];refine b_ (cM (aQ [_] (.c 1 (.v 0) (.n 100) .nil) 0 (.a (.v 0) (.n 1)) (.n 10000) tt hr')) ?_;refine r_ D base {bp c with pc:=(bp c).pc++[ml (bY D o l)],pr:=n} {bp c with pc:=(bp c).pc++[ml (bY D o l)],pr:=n,done:=(((n+1:Nat):Int)==1)} r' rfl rfl rfl ?_;refine ca D base {bp c with pc:=(bp c).pc++[ml (bY D o l)],pr:=n,done:=(((n+1:Nat):Int)==1)} r' (D.L base.length 2) (by kernel_rfl) rfl ?_;have e2:(mm D base {bp c with pc:=(bp c).pc++[ml (bY D o l)],pr:=n,done:=(((n+1:Nat):Int)==1)} r')[D.A base.length 2]?=some (.list (r8 D base.length d0++[.loc (D.N base.length+j)])):=by rw[EK,<-hd];exact CV 2 rfl
  refine b_ (bk e2) ?_;refine qV e2 (by unfold r8;rw[aJ,ax];exact aQ [_,_,_,_] (.e 1 (.a (.v 0) (.v 1)) (.a (.v 2) (.v 3)) (.c 1 (.a (.v 2) (.v 3)) (.n 10) .nil)) 0 (.a (.v 0) (.n 1)) (.n 1000) tt S J) ?_;rw[J4];refine ca D base {bp c with pc:=(bp c).pc++[ml (bY D o l)],pr:=n,done:=(((n+1:Nat):Int)==1),dc:=d0} r' (D.L base.length 3) (by kernel_rfl) rfl ?_;have e3:(mm D base {bp c with pc:=(bp c).pc++[ml (bY D o l)],pr:=n,done:=(((n+1:Nat):Int)==1),dc:=d0} r')[D.A base.length 3]?=some (.list (vn D base.length z0++[.loc (D.N base.length+i)])):=by rw[EH,<-hn];exact CV 3 rfl
  refine b_ (bk e3) ?_;refine qV e3 (by unfold vn;rw[aJ,aJ,ax];exact aQ [_,_] (.c 1 (.a (.v 0) (.v 1)) (.n 100) .nil) 0 (.a (.a (.v 0) (.n 1)) (.n 1)) (.n 1000) tt hNz) ?_;rw[J0];exact h r' _ (RR.close T.R hd hn rfl rfl)
 refine ca D base c r (.loc (base.length+4)) (by kernel_rfl) rfl ?_;refine A2 hI.da (λe=>?_) ?_
 ·rw[sZ e] at aD;exact aD
 ·refine nX D base c r (by kernel_rfl) ?_;exact λ_ E=>E hI.da hI.tot (am hI.pc (by decide)) aD
theorem Nt(U:cD P g):cO g (k+3) (.ref 133) G3:=by
 have H:=aaw P;refine qM U H (NB.at rfl (by exact(ab (RV.2 U H) (ab (J6.2 U H) (ab (yh.2 U H) (ab (C9.2 U H) (ab (C_.2 U H) (ab (Da.2 U H) (ab (Db.2 U H) aC))))))))) [] [] (λ_=>.nil) rfl (by kernel_rfl) (λa b S=>rfl) ?_;refine λ_ _ _ hW9=>G3.rec (@λD base r c l1 x d0 z0 j i n o l lo ce Q W hd hn hr ho hI h=>?_) (@λD base r c v lo ce Q e h=>?_) hW9
 rotate_left
 ·refine⟨_,_,rfl,?_⟩;refine o3 ?_;refine ca D base c r (.int c.dD) (by kernel_rfl) rfl ?_;refine vW (by rw[e];rfl) ?_;refine ca D base c r (.int c.dD) (by kernel_rfl) rfl ?_;exact r_ D base c {c with dD:=c.dD-1} r rfl rfl rfl h
 refine⟨_,_,rfl,?_⟩;refine o3 ?_;refine ca D base c r (.int c.dD) (by kernel_rfl) rfl ?_;refine bu (λe=>?_) (λe=>?_)
 ·rw[e] at h;refine ca D base c r (.int c.dD) (by kernel_rfl) rfl ?_;exact r_ D base c {c with dD:=c.dD-1} r rfl rfl rfl h
 ·rw[e] at h;refine J7 U W hd hn hr ho hI ?_;exact h
end
theorem iQ{a:V}{n:Str}{v:V}{K:V->Prop}(hi:d4 C me a=some (d,es))(e:eK n es=some v)(hv:nA v=true)(q:K v):aA (d4 C me a) λp=>aA (eK n p.2) λv=>gd (nA v) (K v):=av hi (av e (b_ hv q))
theorem yi{a:V}{n:Str}{v:V}{lo:List (Option V)}{Q:Unit->St->Prop}(hi:d4 C me a=some (d,es))(hz:Nat.ble es.length 800=true)(q:Q () ⟨lo,ce,me.set d (.dict (cQ n v es))⟩):aA (d4 C me a) λp=>gd (Nat.ble p.2.length 800) (Q () ⟨lo,ce,me.set p.1 (.dict (cQ n v p.2))⟩):=av hi (b_ hz q)
noncomputable def V9:List V->ad V:=L3 λM=>∀{s:V}{d ld ln lx:Nat}{es:List (Str×V)}{xs I:List V}{yj lg:Str}{lo ce Q}{me:List O},d4 150 me s=some (d,es)->eK "_ignored_depth" es=some (.int 0)->eK "_data" es=some (.loc ld)->me[ld]?=some (.list [])->eK "_ns_stack" es=some (.loc ln)->me[ln]?=some (.list (xs++[.loc lx]))->xs.length<=100->me[lx]?=some (.list I)->I.length<=100->
 Q .none ⟨lo,ce,(me++[O.tup [.str lg,.str yj]]).set lx (O.list (I++[V.loc me.length]))⟩->M [s,.str yj,.str lg] ⟨lo,ce,me⟩ Q
noncomputable def im(B:List O)(b:Nat)(es:List (Str×V))(Z:List O):List O:=B++(.dict es:: .inst 150 (b+2)::Z)
noncomputable abbrev kY (D:cR) (B:List O) (b:Nat) (es:List (Str×V)) (Y:List O):List O:=im B b es (.list []::(VB D.ex++Y))
section
variable {B Y Z:List O}{b:Nat}{tN:List (Str×V)}
theorem qW(w:B.length=b+2):d4 150 (im B b es Z) (.loc (b+3))=some (b+2,es):=by
 have e1:(im B b es Z)[b+3]?=some (.inst 150 (b+2)):=by unfold im;rw[show b+3=B.length+1 by rw[w]];exact gx
 have e2:(im B b es Z)[b+2]?=some (.dict es):=by unfold im;rw[<-w];exact aR
 exact mj e1 e2
theorem RW(w:B.length=b+2):(im B b es Z).set (b+2) (.dict tN)=im B b tN Z:=by unfold im;rw[<-w];exact kK
theorem J8{xs:List O}:im B b es Z++xs=im B b es (Z++xs):=by unfold im;rw[au];rfl
theorem gF{xs:List O}:kY D B b es Y++xs=kY D B b es (Y++xs):=by rw[J8,iw,au]
theorem J9(w:B.length=b+2):(im B b es Z).length=b+(4+Z.length):=by unfold im;rw[ak,w,aJ,aJ];exact fB [_,_] .nil 0 (.a (.a (.v 0) (.n 2)) (.a (.a (.v 1) (.n 1)) (.n 1))) (.a (.v 0) (.a (.n 4) (.v 1))) tt tt
theorem mP(w:B.length=b+2):(kY D B b es Y).length=D.A b Y.length:=by rw[J9 w,aJ,ak,qO];unfold cR.A;exact fB [_,_,_] .nil 0 (.a (.v 0) (.a (.n 4) (.a (.a (.v 1) (.v 2)) (.n 1)))) (.a (.v 0) (.a (.a (.n 5) (.v 1)) (.v 2))) tt tt
theorem J_(w:B.length=b+2)(i:Nat):D.A b i=(B++(.dict es:: .inst 150 (b+2):: .list []::VB D.ex)).length+i:=by rw[ak,w,aJ,aJ,aJ,qO];unfold cR.A;exact fB [_,_,_] .nil 0 (.a (.v 0) (.a (.a (.n 5) (.v 1)) (.v 2))) (.a (.a (.a (.v 0) (.n 2)) (.a (.a (.a (.v 1) (.n 1)) (.n 1)) (.n 1))) (.v 2)) tt tt
theorem Dc:kY D B b es Y=(B++(.dict es:: .inst 150 (b+2):: .list []::VB D.ex))++Y:=by unfold kY im;rw[au];rfl
theorem sq(w:B.length=b+2)(i:Nat){o:O}(h:Y[i]?=some o):(kY D B b es Y)[D.A b i]?=some o:=by rw[Dc,J_ w,bX];exact h
theorem yk(w:B.length=b+2)(i:Nat){o:O}:(kY D B b es Y).set (D.A b i) o=kY D B b es (Y.set i o):=by rw[Dc,Dc,J_ w,dO]
theorem o4(w:B.length=b+2){n:Str}{v:V}{lo:List (Option V)}{Q:Unit->St->Prop}(hz:Nat.ble es.length 800=true)(q:Q () ⟨lo,ce,im B b (cQ n v es) Z⟩):aA (d4 150 (im B b es Z) (.loc (b+3))) λp=>gd (Nat.ble p.2.length 800) (Q () ⟨lo,ce,(im B b es Z).set p.1 (.dict (cQ n v p.2))⟩):=yi (qW w) hz (by rw[RW w];exact q)
theorem V_(w:B.length=b+2){n:Str}{v:V}{K:V->Prop}(e:eK n es=some v)(hv:nA v=true)(q:K v):aA (d4 150 (im B b es Z) (.loc (b+3))) λp=>aA (eK n p.2) λv=>gd (nA v) (K v):=iQ (qW w) e hv q
end
noncomputable def cN:List Str->Option (List Str)
 | []=>none
 |x::r=>some (gH [] (x::r))
noncomputable def Yn(D:cR)(b n:Nat):List O:=[.tup [.str "http://www.w3.org/XML/1998/namespace",.str "xml"],.list [D.L b 0],.list [D.L b 1],.list [D.L b 12,D.L b 13],.bP .bI [.e_ (.ref 44)]]++iK m7++
 [.list ((List.range 7).map λi=>D.L b (5+i)),.list ([D.L b 16,D.L b 17].take n),.dict [],.list [.bool false]]++[.tup [.str "u",.str D.one],.tup [.str "v",.str D.two]].take n
noncomputable def O8:Wr:=⟨[],[],[],[],0,false,false,0⟩
noncomputable def vC(D:cR)(b:Nat):List (Str×V):=(mi D b O8).take 17
noncomputable def W67:List V->ad V:=L3 λM=>∀{D:cR}{B:List O}{b ll:Nat}{xs:List Str}{lo ce Q},B.length=b+2->B[ll]?=some (.list (xs.map .str))->xs.length<=20->D.ex=cN xs->Q .none ⟨lo,ce,kY D B b (vC D b) (Yn D b 0)⟩->
 M [.loc (b+3),.loc (b+1),.loc ll] ⟨lo,ce,im B b [] []⟩ Q
section
variable {k:Nat}
noncomputable abbrev aax (P:Params):df:=fb (KK P) 113 ["self","prefix","uri"] []
theorem aay(P:Params):cc (aax P) [] .cell:=ik (by kernel_rfl)
theorem EM(U:cD P g):cO g (k+3) (.ref 113) V9:=by have H:=aay P;refine xV U H (NB.at rfl (by exact(ab (ii (a7 (dy (cA U) 16 rfl (ai H 0 rfl))) fk aC) (ab (ii (a7 (dy (cA U) 1 rfl (ai H 0 rfl))) fk aC) (ab (cZ (bZ .list bD cJ b0 bB (eM (dy (cA U) 10 rfl (ai H 0 rfl)) GG) (ae (ng (ae (ai H 2 rfl) (ae (ai H 1 rfl) ay))) ay))) aC))))) rfl (by kernel_rfl) (λa b c S=>rfl) ?_;refine kW (@λs d ld ln lx es xs I yj lg lo ce Q me h1 h2 h3 h4 h5 h6 m r h9 h=>?_);refine⟨_,_,_,rfl,?_⟩;refine o3 ?_;refine iQ h1 h2 rfl ?_;refine iQ h1 h3 rfl ?_;refine jq h4 (aW _) ?_;refine iQ h1 h5 rfl ?_;refine bJ h6 (nZ (am m (by decide))) ?_;refine b_ (bk r) ?_;exact iN (ac r) (am h9 (by decide)) h
noncomputable abbrev F67 (P:Params):df:=fb (KK P) 67 ["self","write","with_comments","strip_text","rewrite_prefixes","qname_aware_tags","qname_aware_attrs","exclude_attrs","exclude_tags"] []
noncomputable def G67:List Str:=["set","list","_namespace_map"]
abbrev mQ(i:Nat):=NN F67 G67 67 i 0
theorem K67(P:Params):cc (F67 P) G67 .cell:=ik (by kernel_rfl)
end
end
section
variable {C:Addr}{params:Arguments}{D:cR}{Q:Fl->St->Prop}{g:G}{ln:Int}{es:List (Str×V)}{ns:List Int}{ce l:List Nat}{B Z base me Dd r:List O}{ws xs:List V}{N b c i k ll m:Nat}{o:O}{P:Params}{scope:Scope}{W Wb:ad Fl}{σ:St}{name aw:Str}{α:Type}{v:V}{As:V->ad Unit}
set_option maxHeartbeats 400000
section
variable {Y:List O}{tN:List (Str×V)}{n:Str}{lo:List (Option V)}{Q:Unit->St->Prop}
theorem O9(w:B.length=b+2)(hz:Nat.ble es.length 800=true)(q:Q () ⟨lo,ce,im B b (cQ n (.loc (b+(4+Z.length))) es) (Z++[o])⟩):aA (d4 150 (im B b es Z++[o]) (.loc (b+3))) λp=>gd (Nat.ble p.2.length 800) (Q () ⟨lo,ce,(im B b es Z++[o]).set p.1 (.dict (cQ n (.loc (im B b es Z).length) p.2))⟩):=by rw[J8,J9 w];exact o4 w hz q
theorem Ka(w:B.length=b+2)(hz:Nat.ble es.length 800=true)(q:Q () ⟨lo,ce,kY D B b (cQ n (D.L b Y.length) es) (Y++[o])⟩):aA (d4 150 (kY D B b es Y++[o]) (.loc (b+3))) λp=>gd (Nat.ble p.2.length 800) (Q () ⟨lo,ce,(kY D B b es Y++[o]).set p.1 (.dict (cQ n (.loc (kY D B b es Y).length) p.2))⟩):=by rw[gF,mP w];exact o4 w hz q
theorem Wc(w:B.length=b+2)(hz:Nat.ble es.length 800=true)(q:Q () ⟨lo,ce,kY D B b (cQ n (D.L b 2) es) [o,.list [D.L b 0],.list [D.L b 1]]⟩):aA (d4 150 (((kY D B b es []++[o])++[O.list [.loc (kY D B b es []).length]])++[O.list [.loc (kY D B b es []++[o]).length]]) (.loc (b+3))) λp=>gd (Nat.ble p.2.length 800) (Q () ⟨lo,ce,(((kY D B b es []++[o])++[O.list [.loc (kY D B b es []).length]])++[O.list [.loc (kY D B b es []++[o]).length]]).set p.1 (.dict (cQ n (.loc ((kY D B b es []++[o])++[O.list [.loc (kY D B b es []).length]]).length) p.2))⟩):=by rw[gF,gF,gF,mP w,mP w,mP w];exact o4 w hz q
end
noncomputable def TP(b:Nat):List (Str×V):=cQ "_exclude_attrs" .none (cQ "_strip_text" (.bool false) (cQ "_with_comments" (.bool false) (cQ "_data" (.loc (b+4)) (cQ "_write" (.loc (b+1)) []))))
section
noncomputable def O_:mQ 0:=⟨_,λU H=>by exact(cj (cA U) 0 rfl (ai H 1 rfl) (ai H 0 rfl))⟩
noncomputable def Pa:mQ 1:=⟨_,λU H=>by exact(cj (cA U) 1 rfl (eD ay) (ai H 0 rfl))⟩
noncomputable def Pb:mQ 2:=⟨_,λU H=>by exact(cj (cA U) 2 rfl (ai H 2 rfl) (ai H 0 rfl))⟩
noncomputable def Pc:mQ 3:=⟨_,λU H=>by exact(cj (cA U) 3 rfl (ai H 3 rfl) (ai H 0 rfl))⟩
noncomputable def Pd:mQ 4:=⟨_,λU H=>by exact(cj (cA U) 4 rfl (iG (a7 (ai H 7 rfl)) rX ie) (ai H 0 rfl))⟩
noncomputable def Pe:mQ 5:=⟨_,λU H=>by exact(cj (cA U) 5 rfl (iG (a7 (ai H 8 rfl)) (b7 (λ_ _ _=>fW) GA (bG U H 0 3 rfl rfl (by kernel_rfl)) (ae (ai H 8 rfl) ay)) ie) (ai H 0 rfl))⟩
noncomputable def Kc:mQ 6:=⟨_,λU H=>by exact(cj (cA U) 6 rfl (ai H 4 rfl) (ai H 0 rfl))⟩
noncomputable def Kd:mQ 7:=⟨_,λU H=>by exact(ii (a7 (ai H 5 rfl)) fk (ab (cj (cA U) 7 rfl ie (ai H 0 rfl)) aC))⟩
noncomputable def Ke:mQ 8:=⟨_,λU H=>by exact(ii (a7 (ai H 6 rfl)) fk (ab (cj (cA U) 8 rfl ie (ai H 0 rfl)) aC))⟩
noncomputable def Kf:mQ 9:=⟨_,λU H=>by exact(cj (cA U) 9 rfl (eD (ae (eD (ae (ng (ae bz (ae bz ay))) ay)) ay)) (ai H 0 rfl))⟩
noncomputable def yl:mQ 10:=⟨_,λU H=>by exact(cj (cA U) 10 rfl (eD ay) (ai H 0 rfl))⟩
noncomputable def ym:mQ 11:=⟨_,λU H=>by exact(ii (nR (a7 (ai H 4 rfl))) (ab (cZ (bZ .list bD cJ b0 bB (dy (cA U) 10 rfl (ai H 0 rfl)) (ae (b7 (λ_ _ _=>fW) (M7 U) (bG U H 1 7 rfl rfl (by kernel_rfl)) (ae (M6 U rfl (kU U H 2 13 rfl rfl) (l:=by intro _;exact⟨_,rfl⟩)) ay)) ay))) aC) aC)⟩
noncomputable def yn:mQ 12:=⟨_,λU H=>by exact(cZ (bZ .list bD cJ b0 bB (dy (cA U) 10 rfl (ai H 0 rfl)) (ae (eD ay) ay)))⟩
noncomputable def sr:mQ 13:=⟨_,λU H=>by exact(cj (cA U) 11 rfl CL (ai H 0 rfl))⟩
noncomputable def yo:mQ 14:=⟨_,λU H=>by exact(cj (cA U) 12 rfl (eD (ae Em ay)) (ai H 0 rfl))⟩
noncomputable def yp:mQ 15:=⟨_,λU H=>by exact(cj (cA U) 13 rfl ie (ai H 0 rfl))⟩
noncomputable def yq:mQ 16:=⟨_,λU H=>by exact(cj (cA U) 14 rfl Em (ai H 0 rfl))⟩
noncomputable def yr:mQ 17:=⟨_,λU H=>by exact(cj (cA U) 15 rfl Em (ai H 0 rfl))⟩
noncomputable def yt:mQ 18:=⟨_,λU H=>by exact(cj (cA U) 16 rfl bv (ai H 0 rfl))⟩
noncomputable def Wf(b ll:Nat):List (Option V):=iA 9 [.loc (b+3),.loc (b+1),.bool false,.bool false,.bool false,.none,.none,.none,.loc ll]
noncomputable def Kg(D:cR)(b:Nat):List (Str×V):=cQ "_declared_ns_stack" (D.L b 2) (cQ "_find_qname_aware_attrs" .none (cQ "_qname_aware_tags" .none (cQ "_rewrite_prefixes" (.bool false) (cQ "_exclude_tags" (O0 b D.ex) (TP b)))))
theorem esI(D:cR)(b:Nat):cQ "_ignored_depth" (.int 0) (cQ "_root_done" (.bool false) (cQ "_root_seen" (.bool false) (cQ "_pending_start" .none (cQ "_preserve_space" (D.L b 15) (cQ "_prefix_map" (D.L b 14) (cQ "_ns_stack" (D.L b 3) (Kg D b)))))))=vC D b:=by kernel_rfl
noncomputable def Y4(D:cR)(b:Nat)(l:List V):List O:=[.tup [.str "http://www.w3.org/XML/1998/namespace",.str "xml"],.list [D.L b 0],.list [D.L b 1],.list l]
theorem aaz(D:cR)(b:Nat):((List.range 7).map λi=>V.loc (D.A b 5+i))=(List.range 7).map λi=>D.L b (5+i):=by refine io λi _=>?_;unfold cR.L cR.A;rw[c7,c7,c7]
theorem lj{lo:List (Option V)}{l:Nat}{Q:V->St->Prop}(h:me[l]?=some (.list xs))(hz:xs.length<=10000)(e:me.set l (.list (xs++[v]))=Dd)(q:Q .none ⟨lo,ce,Dd⟩):aA (dC me (.loc l)) λp=>gd (bw p.2.length) (Q .none ⟨lo,ce,me.set p.1 (.list (p.2++[v]))⟩):=iN h hz (by rw[e];exact q)
theorem Pf{K:Fl->St->Prop}{a:α}(h:W σ K):OV k_ (rH W K) a σ:=h
theorem RX(U:cD P g){lo:List (Option V)}{Q:V->St->Prop}(w:B.length=b+2)(h:Q .none ⟨lo,ce,kY D B b (vC D b) (Yn D b 0)⟩):aV yl.1 (aV ym.1 (aV yn.1 (aV sr.1 (aV yo.1 (aV yp.1 (aV yq.1 (aV yr.1 (aV yt.1 (c8 .next))))))))) ⟨Wf b ll,[],kY D B b (Kg D b) [.tup [.str "http://www.w3.org/XML/1998/namespace",.str "xml"],.list [D.L b 0],.list [D.L b 1]]⟩ (oZ Q lo ce):=by
 refine Ka w (by kernel_rfl) ?_;have g1:eK "_ns_stack" (cQ "_ns_stack" (D.L b 3) (Kg D b))=some (D.L b 3):=by kernel_rfl
 refine V_ w g1 rfl ?_;refine b_ (bk (sq w 3 rfl)) ?_;refine b_ (by rw[aR];rfl) ?_;refine lj (me:=((kY D B b (cQ "_ns_stack" (D.L b 3) (Kg D b)) (Y4 D b [])++[O.bP .bI [.e_ (.ref 44)]])++iK m7)++[O.list ((List.range 7).map λi=>.loc ((kY D B b (cQ "_ns_stack" (D.L b 3) (Kg D b)) (Y4 D b [])++[O.bP .bI [.e_ (.ref 44)]]).length+i))]) (v:=.loc ((kY D B b (cQ "_ns_stack" (D.L b 3) (Kg D b)) (Y4 D b [])++[O.bP .bI [.e_ (.ref 44)]]).length+7)) (Dd:=kY D B b (cQ "_ns_stack" (D.L b 3) (Kg D b)) (Y4 D b [D.L b 12]++[.bP .bI [.e_ (.ref 44)]]++iK m7++[.list ((List.range 7).map λi=>D.L b (5+i))])) (by rw[gF,gF,gF];exact sq w 3 rfl) (aW _) ?_ ?_
 ·rw[gF,gF,gF,mP w,yk w];refine(?_ :kY D B b _ (Y4 D b [.loc (D.A b 5+7)]++[.bP .bI [.e_ (.ref 44)]]++iK m7++[.list ((List.range 7).map λi=>.loc (D.A b 5+i))])=_);rw[aaz,show V.loc (D.A b 5+7)=D.L b 12 by unfold cR.L cR.A;rw[c7,c7]]
 refine V_ w g1 rfl ?_;refine b_ (bk (sq w 3 rfl)) ?_;refine(?_ :aA (dC (kY D B b (cQ "_ns_stack" (D.L b 3) (Kg D b)) (Y4 D b [D.L b 12]++[.bP .bI [.e_ (.ref 44)]]++iK m7++[.list ((List.range 7).map λi=>D.L b (5+i))])++[O.list []]) (D.L b 3)) λp=>gd (bw p.2.length) _);refine av (cV (by rw[gF];exact sq w 3 rfl)) (b_ rfl ?_);refine(?_ :aV sr.1 _ ⟨Wf b ll,[],(kY D B b (cQ "_ns_stack" (D.L b 3) (Kg D b)) (Y4 D b [D.L b 12]++[.bP .bI [.e_ (.ref 44)]]++iK m7++[.list ((List.range 7).map λi=>D.L b (5+i))])++[O.list []]).set (D.A b 3) (.list [D.L b 12,.loc (kY D B b (cQ "_ns_stack" (D.L b 3) (Kg D b)) (Y4 D b [D.L b 12]++[.bP .bI [.e_ (.ref 44)]]++iK m7++[.list ((List.range 7).map λi=>D.L b (5+i))])).length])⟩ _);rw[gF,mP w,yk w];refine(?_ :aV sr.1 _ ⟨Wf b ll,[],kY D B b (cQ "_ns_stack" (D.L b 3) (Kg D b)) (Y4 D b [D.L b 12,D.L b 13]++[.bP .bI [.e_ (.ref 44)]]++iK m7++[.list ((List.range 7).map λi=>D.L b (5+i)),.list []])⟩ _);refine Ka w (by kernel_rfl) ?_;refine Ka w (by kernel_rfl) ?_;refine o4 w (by kernel_rfl) ?_;refine o4 w (by kernel_rfl) ?_;refine o4 w (by kernel_rfl) ?_;refine o4 w (by kernel_rfl) ?_;rw[<-esI] at h;exact h
theorem RY(U:cD P g){lo:List (Option V)}{Q:V->St->Prop}(w:B.length=b+2)(h:Q .none ⟨lo,ce,kY D B b (vC D b) (Yn D b 0)⟩):aV Kc.1 (aV Kd.1 (aV Ke.1 (aV Kf.1 (aV yl.1 (aV ym.1 (aV yn.1 (aV sr.1 (aV yo.1 (aV yp.1 (aV yq.1 (aV yr.1 (aV yt.1 (c8 .next))))))))))))) ⟨Wf b ll,[],kY D B b (cQ "_exclude_tags" (O0 b D.ex) (TP b)) []⟩ (oZ Q lo ce):=by refine o4 w (by kernel_rfl) ?_;refine o4 w (by kernel_rfl) ?_;refine o4 w (by kernel_rfl) ?_;refine Wc w (by kernel_rfl) ?_;exact RX U w h
theorem RZ(U:cD P g){xs:List Str}{lo:List (Option V)}{Q:V->St->Prop}(w:B.length=b+2)(Z:B[ll]?=some (.list (xs.map .str)))(hz:xs.length<=20)(he:D.ex=cN xs)(h:Q .none ⟨lo,ce,kY D B b (vC D b) (Yn D b 0)⟩):aV O_.1 (aV Pa.1 (aV Pb.1 (aV Pc.1 (aV Pd.1 (aV Pe.1 (aV Kc.1 (aV Kd.1 (aV Ke.1 (aV Kf.1 (aV yl.1 (aV ym.1 (aV yn.1 (aV sr.1 (aV yo.1 (aV yp.1 (aV yq.1 (aV yr.1 (aV yt.1 (c8 .next))))))))))))))))))) ⟨Wf b ll,[],im B b [] []⟩ (oZ Q lo ce):=by
 refine o4 w (by kernel_rfl) ?_;refine O9 w (by kernel_rfl) ?_;refine o4 w (by kernel_rfl) ?_;refine o4 w (by kernel_rfl) ?_;refine o4 w (by kernel_rfl) ?_;refine jq (ac Z) (by rw[ax];exact aQ [_] (.c 1 (.v 0) (.n 20) .nil) 0 (.v 0) (.n 10000) tt hz) ?_;have aD:=RY (ll:=ll) U w h;cases xs with
 |nil=>
  rw[he] at aD;refine o4 w (by kernel_rfl) ?_;refine Pf ?_;have e:kY D B b (cQ "_exclude_tags" (O0 b (cN [])) (TP b)) []=im B b (cQ "_exclude_tags" .none (TP b)) [.list []]:=by unfold kY;rw[he];rfl
  rw[e] at aD;exact aD
 |cons x xs=>
  refine av (cV (ac Z)) ?_;refine av (l6 (x::xs)) ?_;refine b_ (d8 hz) ?_;refine O9 w (by kernel_rfl) ?_;refine Pf ?_;have e:kY D B b (cQ "_exclude_tags" (O0 b D.ex) (TP b)) []=im B b (cQ "_exclude_tags" (.loc (b+5)) (TP b)) ([.list []]++[.set (gH [] (x::xs))]):=by unfold kY;rw[he];rfl
  rw[e] at aD;exact aD
end
set_option maxHeartbeats 1000000
noncomputable def WMK:V->V->ad V:=L4 λM=>∀{D:cR}{B:List O}{b ll:Nat}{xs:List Str}{lo ce Q},B.length=b+2->B[ll]?=some (.list (xs.map .str))->xs.length<=20->D.ex=cN xs->Q (.loc (b+3)) ⟨lo,ce,kY D B b (vC D b) (Yn D b 0)⟩->M (.loc (b+1)) (.loc ll) ⟨lo,ce,B⟩ Q
section
noncomputable def R5:List Str:=["self","write","with_comments","strip_text","rewrite_prefixes","qname_aware_tags","qname_aware_attrs","exclude_attrs","exclude_tags"]
theorem R6(U:cD P g){gs:List Str}(H:cc (fb (KK P) 67 R5 []) gs .cell)(hb:NB g (fb (KK P) 67 R5 []) k (bh (KK P) 67) W){dV kV fw pm ct oc:Value}{an od:Option Addr}{zp:Array (Option Value)}(ho:(KK P).lookup 67=some ⟨oc,od,.func (fnOf name (bR (KK P) 67).qualname params (bh (KK P) 67) (bR (KK P) 67).scope dV kV fw pm an (bR (KK P) 67).code ct),zp⟩)(hc:(codeIn (KK P) (bR (KK P) 67).code (bR (KK P) 67).qualname&& !(bR (KK P) 67).scope.isCoroutine&& !(bR (KK P) 67).scope.isGenerator&&(bR (KK P) 67).scope.names.all λx=>!(x.2== .cell))=true)(m:∀a b u S,peek (KK P) S (bindArgs (fnOf name (bR (KK P) 67).qualname params (bh (KK P) 67) (bR (KK P) 67).scope dV kV fw pm an (bR (KK P) 67).code ct) ⟨[a,b],[("exclude_tags",u)]⟩)=some (R5.zip [a,b,.bool false,.bool false,.bool false,.none,.none,.none,u])):pJ g (k+1) (.ref 67) (some "exclude_tags") (λvs σ Q=>aA (zN vs) λp=>gd (Nat.beq p.1.length 2) (W ⟨iA 9 (p.1++[.bool false,.bool false,.bool false,.none,.none,.none]++[p.2]),[],σ.mem⟩ λfl a9=>Q (nF fl) {σ with mem:=a9.mem})):=by
 simp only[aM,gQ,i7] at hc;obtain⟨⟨⟨h1,h3⟩,h4⟩,h5⟩:=hc;refine Gy hb.run (by rw[U.K];exact ho) (by rw[U.K];exact h1) rfl 2 [.bool false,.bool false,.bool false,.none,.none,.none] (λs us u X Z=>?_) H.nd (λx B=>(H.loc B).1) (λx B e=>?_) h3 h4 H.kind
 ·refine w8 (CA Z) λa b jJ=>?_;obtain rfl:=jJ;exact⟨[.bool false,.bool false,.bool false,.none,.none,.none],λ_=>.cons rfl (.cons rfl (.cons rfl (.cons rfl (.cons rfl (.cons rfl .nil))))),kp_binds (by rw[U.K] at X;exact X) (m a b u)⟩
 ·have:=h5 x B;rw[e] at this;exact nB this.symm
theorem G6(U:cD P g):pJ g (k+1) (.ref 67) (some "exclude_tags") W67:=by have H:=K67 P;have this:=R6 (k:=k) U H (NB.at rfl (by exact(ab (O_.2 U H) (ab (Pa.2 U H) (ab (Pb.2 U H) (ab (Pc.2 U H) (ab (Pd.2 U H) (ab (Pe.2 U H) (ab (Kc.2 U H) (ab (Kd.2 U H) (ab (Ke.2 U H) (ab (Kf.2 U H) (ab (yl.2 U H) (ab (ym.2 U H) (ab (yn.2 U H) (ab (sr.2 U H) (ab (yo.2 U H) (ab (yp.2 U H) (ab (yq.2 U H) (ab (yr.2 U H) (ab (yt.2 U H) aC))))))))))))))))))))) rfl (by kernel_rfl) λa b u S=>rfl;intro F d A af vs us v u hr D s wd σ Q Z R J;refine this F d A af vs us v u hr D s wd σ Q Z R ?_;revert J;generalize vs++[v]=vv;clear Z R;revert Q;revert σ;revert vv;refine kW (@λ_ _ _ _ _ _ _ _ h1 h2 h3 h4 h=>?_);exact RZ U h1 h2 h3 h4 h
theorem R7(U:cD P g):u8 g (k+2) (.ref 150) "exclude_tags" WMK:=by have h:=CD (C:=150) (by rw[U.K];kernel_rfl) (by rw[U.K];kernel_rfl) (by rw[U.K];kernel_rfl) (G6 (k:=k) U);intro F d A af a b u v hr ha hb s wd σ Q Z R J;refine h F d A af a b u v hr ha hb s wd σ Q Z R ?_;clear Z R ha hb hr;revert a b σ Q J;refine Rx (@λD B b ll xs lo ce Q h1 h2 h3 h4 h=>?_);refine(?_ :W67 [.loc (B.length+1),.loc (b+1),.loc ll] ⟨lo,ce,B++[.dict [],.inst 150 B.length]⟩ _);rw[h1];exact λ_ E=>E h1 h2 h3 h4 h
end
set_option maxHeartbeats 300000
noncomputable def o5(aw:Str)(n:Nat):Str:=⟨(((ch aw).drop n).take 1).toArray⟩
noncomputable def Wg:V->List V->ad V:=L4 λM=>∀{f a cl lp n:Nat}{aw:Str}{lo ce Q}{me:List O},me[f]?=some (.fn 0 [a,cl])->me[a]?=some (.cell (.str aw))->me[cl]?=some (.cell (.loc lp))->me[lp]?=some (.list [.int n])->cl≠lp->a≠lp->aw.length<=10000000->Q (.str (o5 aw n)) ⟨lo,ce,me.set lp (.list [.int ((n+1:Nat):Int)])⟩->M (.loc f) [.int 1] ⟨lo,ce,me⟩ Q
theorem Nu(xs:List α)(n:Nat):fR xs (some (((n+1:Nat):Int)-1)) (some ((n+1:Nat):Int))=(xs.drop n).take 1:=by
 have e:(((n+1:Nat):Int)-1)=((n:Nat):Int):=by omega
 rw[e];refine(?_ :(xs.drop (min n xs.length)).take (min (n+1) xs.length-min n xs.length)=_);by_cases h:n<xs.length
 ·rw[kb (eR h),kb h,Nat.succ_sub (aF n),Nat.sub_self]
 ·rw[j9 (Nat.le_of_not_lt h),j9 (iq (Nat.le_of_not_lt h)),Nat.sub_self,oA (Nat.le_of_not_lt h)];rfl
section
theorem aaA(U:cD P g){body:List Stmt}(h0:(dT P).name=name)(h1:(dT P).params=params)(h2:(dT P).body=body)(h3:(dT P).scope=scope):g.fo 0=λfy fw c' ij=>fnMade name qJ params body scope fy fw ((g.mg "__name__").getD .none) c' ij:=by subst h0 h1 h2 h3;exact U.fo0
theorem aaB(U:cD P g){pos:Pos}(h:(dT P).pos=pos):g.tp 0=pos:=U.tp0.trans h
theorem aaC(U:cD P g)(h:(dT P).scope=scope):g.ff 0=c9 scope:=by subst h;exact U.ff0
noncomputable def Ph(P:Params)(c:Value):df:=⟨qJ++".<locals>.",c,(dT P).scope,["size"],["page","place"]⟩
theorem G7(a:Value)(fy:List (Str×Addr))(fw pm cd ij:Value):bindArgs (fnX (dT P).name qJ (dT P).params (dT P).body (dT P).scope fy .none .none fw pm none cd ij) ⟨[a],[]⟩=Pure.pure (((["size"]:List Str).take 1).zip [a]):=by kernel_rfl
theorem Kh(s:Shared)(a:Value)(fy:List (Str×Addr))(fw pm cd ij:Value):BindsTo s (fnX (dT P).name qJ (dT P).params (dT P).body (dT P).scope fy .none .none fw pm none cd ij) ⟨[a],[]⟩ (((["size"]:List Str).take 1).zip [a]):=by have e:=G7 (P:=P) a fy fw pm cd ij;exact @BindsTo.of_eq _ _ _ _ e
theorem qX(P:Params)(c:Value):cc (Ph P c) [] .free:=ik (by kernel_rfl)
noncomputable def Pi(U:cD P g)(c:Addr):{W:ad Fl //NB g (Ph P (.ref c)) k (dT P).body W}:=⟨_,NB.at' rfl (ab (vg kE (xP (qX P (.ref c)) 1 rfl) bv (ai (qX P (.ref c)) 0 rfl) (ha:=by intros;rfl)) (ab (cP (iI (xP (qX P (.ref c)) 0 rfl) (gI (cY qg (eM (xP (qX P (.ref c)) 1 rfl) bv) (ai (qX P (.ref c)) 0 rfl))) (gI (eM (xP (qX P (.ref c)) 1 rfl) bv)))) aC))⟩
theorem G8(s:Shared)(us:List Value)(fy:List (Str×Addr))(fw pm cd ij:Value)(Z:us.length=1):BindsTo s (fnX (dT P).name qJ (dT P).params (dT P).body (dT P).scope fy .none .none fw pm none cd ij) ⟨us,[]⟩ (((["size"]:List Str).take 1).zip us):=by refine xE (List.length_eq_one_iff.mp Z) λa Y=>?_;obtain rfl:=Y;exact @Kh P s a fy fw pm cd ij
theorem Nv(P:Params):((dT P).scope.names.all λx=>!(x.2== .cell))=true:=by kernel_rfl
theorem R8(U:cD P g):gc g (k+1) (λv vs σ Q=>aA (UP 0 σ.mem v) λls=>gd (Nat.beq vs.length 1) ((Pi (k:=k) U 0).1 ⟨iA 1 vs,ls,σ.mem⟩ λfl a9=>Q (nF fl) {σ with mem:=a9.mem})):=Q8 (λc=>(Pi U c).2.run) U.fo0 U.tq0 rfl (U.ff0.trans (by kernel_rfl)) 1 (@G8 P)
  (qX P .none).nd (qX P .none).ZI (λx B=>((qX P .none).loc B).1) (λx B e=>by have:=List.all_eq_true.mp (Nv P) x B;rw[e] at this;exact nB this) (by kernel_rfl) (by kernel_rfl) (by kernel_rfl)
theorem Wj(U:cD P g):gc g (k+1) Wg:=by
 refine gc.conv (R8 (k:=k) U) ?_
 refine Rx (@λf a cl lp n aw lo ce Q me h1 h2 h3 h4 h5 h6 hz h=>?_);refine av (JS h1) ?_;refine bS (i:=1) (ce:=[a,cl]) rfl h3 ?_;refine bJ (i:=0) h4 rfl ?_;refine av (cV h4) ?_;have Z:=(List.getElem?_eq_some_iff.mp h4).1;have e4:(me.set lp (.list [.int ((n:Int)+1)]))[lp]?=some (.list [.int ((n:Int)+1)]):=pn Z;refine bS (i:=0) (ce:=[a,cl]) (me:=me.set lp (.list [.int ((n:Int)+1)])) rfl (bF (bM h6) h2) ?_;refine bS (i:=1) (ce:=[a,cl]) rfl (bF (bM h5) h3) ?_;refine bJ e4 rfl ?_;refine bS (i:=1) (ce:=[a,cl]) rfl (bF (bM h5) h3) ?_;refine bJ e4 rfl ?_;refine b_ (cT (am hz (by decide))) ?_;have:=Nu aw.cps.toList n;rw[show(((n+1:Nat):Int))=(n:Int)+1 by omega] at this h;refine(?_ :Q (.str ⟨(fR aw.cps.toList (some ((n:Int)+1-1)) (some ((n:Int)+1))).toArray⟩) _);rw[this];exact h
end
set_option maxHeartbeats 1000000
noncomputable def qY(I p:V)(ln:Int):List (Str×V):=[("lineno",.int ln),("instream",I),("whitespace",.str "\n\t\r "),("pushback",p)]
noncomputable def aaD:List V->ad V:=L3 λM=>∀{B:List O}{I:V}{lo ce Q},Q .none ⟨lo,ce,B++[O.dict (qY I (.loc (B.length+2)) 1),.inst 206 B.length,.list []]⟩->M [.loc (B.length+1),I] ⟨lo,ce,B++[O.dict [],.inst 206 B.length]⟩ Q
noncomputable def WML:List V->ad V:=L3 λM=>∀{B:List O}{I:V}{lo ce Q},Q (.loc (B.length+1)) ⟨lo,ce,B++[O.dict (qY I (.loc (B.length+2)) 1),.inst 206 B.length,.list []]⟩->M [I] ⟨lo,ce,B⟩ Q
theorem Wm:d4 C (B++(O.dict es:: .inst C B.length::Z)) (.loc (B.length+1))=some (B.length,es):=mj gx aR
theorem yu{n:Str}{lo:List (Option V)}{Q:Unit->St->Prop}(hz:Nat.ble es.length 800=true)(q:Q () ⟨lo,ce,B++(O.dict (cQ n v es):: .inst C B.length::Z)⟩):aA (d4 C (B++(O.dict es:: .inst C B.length::Z)) (.loc (B.length+1))) λp=>gd (Nat.ble p.2.length 800) (Q () ⟨lo,ce,(B++(O.dict es:: .inst C B.length::Z)).set p.1 (.dict (cQ n v p.2))⟩):=yi Wm hz (by rw[kK];exact q)
theorem R9{n:Str}{lo:List (Option V)}{Q:Unit->St->Prop}(hz:Nat.ble es.length 800=true)(q:Q () ⟨lo,ce,B++(O.dict (cQ n (.loc (B.length+(2+Z.length))) es):: .inst C B.length::(Z++[o]))⟩):aA (d4 C ((B++(O.dict es:: .inst C B.length::Z))++[o]) (.loc (B.length+1))) λp=>gd (Nat.ble p.2.length 800) (Q () ⟨lo,ce,((B++(O.dict es:: .inst C B.length::Z))++[o]).set p.1 (.dict (cQ n (.loc (B++(O.dict es:: .inst C B.length::Z)).length) p.2))⟩):=by
 have e:(B++(O.dict es:: .inst C B.length::Z)).length=B.length+(2+Z.length):=by rw[ak,aJ,aJ,gz 2]
 rw[e,au];exact yu hz q
section
noncomputable abbrev aaE (P:Params):df:=fb (KK P) 182 ["self","fp"] []
theorem aaF(P:Params):cc (aaE P) [] .cell:=ik (by kernel_rfl)
theorem Nw(U:cD P g):cO g (k+1) (.ref 182) aaD:=by have H:=aaF P;refine qM U H (NB.at rfl (by exact(ab (cj (mM U) 0 rfl bv (ai H 0 rfl)) (ab (cj (mM U) 1 rfl (ai H 1 rfl) (ai H 0 rfl)) (ab (cj (mM U) 2 rfl bz (ai H 0 rfl)) (ab (cj (mM U) 3 rfl (eD ay) (ai H 0 rfl)) aC)))))) [] [] (λ_=>.nil) rfl (by kernel_rfl) (λa b S=>rfl) ?_;refine kW (@λB I lo ce Q h=>?_);refine⟨_,_,rfl,?_⟩;refine o3 ?_;refine yu rfl ?_;refine yu rfl ?_;refine yu rfl ?_;exact R9 rfl h
theorem Ki(U:cD P g):cz g (k+2) (.ref 206) WML:=by
 have h:=Gz (C:=206) (by rw[U.K];kernel_rfl) (by rw[U.K];kernel_rfl) (by rw[U.K];kernel_rfl) (cO.ck (Nw (k:=k) U));intro F d A af vs us hr D;refine bb.conv (h F d A af vs us hr D) ?_
 clear D;revert vs;refine kW (@λB I lo ce Q h=>?_);exact λ_ E=>E h
end
noncomputable def n5(b:Nat):List (Str×V):=[("lineno",.int 1),("instream",.none),("whitespace",.str "\n\t\r "),("pushback",.loc (b+4)),("read",.loc (b+6))]
noncomputable def Pj(b:Nat)(aw:Str)(n:Nat)(ln:Int)(ws:List V):List O:=[.cell (.str aw),.cell (.loc (b+5)),.dict (n5 b),.inst 206 (b+2),.list [],.list [.int n],.fn 0 [b,b+1],.dict (qY (.loc (b+3)) (.loc (b+9)) ln),.inst 206 (b+7),.list [],.list ws]
noncomputable def lx(base:List O)(aw:Str)(n:Nat)(ln:Int)(ws:List V)(r:List O):List O:=base++(Pj base.length aw n ln ws++r)
noncomputable def db(aw:Str)(n:Nat):Int:=1+((((ch aw).take n).count 10:Nat):Int)
section
variable {n n':Nat}{ln':Int}{Kj:List V}
theorem n6(i:Nat)(h:(Pj base.length aw n ln ws)[i]?=some o):(lx base aw n ln ws r)[base.length+i]?=some o:=by unfold lx;rw[bX];exact ac h
theorem De(i:Nat)(hi:i<11)(h:(Pj base.length aw n ln ws).set i o=Pj base.length aw n' ln' Kj):(lx base aw n ln ws r).set (base.length+i) o=lx base aw n' ln' Kj r:=by unfold lx;rw[dO,oG _ _ hi,h]
theorem Df{xs:List O}:lx base aw n ln ws r++xs=lx base aw n ln ws (r++xs):=by unfold lx;rw[au,au]
theorem Dg:(lx base aw n ln ws r).length=base.length+(11+r.length):=by unfold lx;rw[ak,ak];rfl
theorem EN{j:Nat}(h:r[j]?=some o):(lx base aw n ln ws r)[base.length+(11+j)]?=some o:=by unfold lx;rw[bX,show 11=(Pj base.length aw n ln ws).length from rfl,bX];exact h
theorem jk:d4 206 (lx base aw n ln ws r) (.loc (base.length+8))=some (base.length+7,qY (.loc (base.length+3)) (.loc (base.length+9)) ln):=mj (n6 8 rfl) (n6 7 rfl)
theorem Nx:d4 206 (lx base aw n ln ws r) (.loc (base.length+3))=some (base.length+2,n5 base.length):=mj (n6 3 rfl) (n6 2 rfl)
end
theorem EO{a:V}{d:Nat}{n:Str}{lo:List (Option V)}{Q:Unit->St->Prop}(hi:d4 C me a=some (d,es))(hz:Nat.ble es.length 800=true)(e:me.set d (.dict (cQ n v es))=Dd)(q:Q () ⟨lo,ce,Dd⟩):aA (d4 C me a) λp=>gd (Nat.ble p.2.length 800) (Q () ⟨lo,ce,me.set p.1 (.dict (cQ n v p.2))⟩):=yi hi hz (by rw[e];exact q)
theorem A3{x y:Str}:d3 x y=decide (x=y):=by
 by_cases h:x=y
 ·rw[dI h];exact(cq _ _).mpr h
 ·rw[dR h];exact Bool.eq_false_iff.mpr λe=>h ((cq _ _).mp e)
theorem G9(aw:Str)(n:Nat):db aw (n+1)=bif d3 (o5 aw n) "\n" then db aw n+1 else db aw n:=by
 unfold db;rw[List.take_add,gP];have hn:ch ("\n":Str)=[10]:=by decide+kernel
 have h1:(((ch aw).drop n).take 1).count 10=(bif d3 (o5 aw n) "\n" then 1 else 0):=by
  have Z:(((ch aw).drop n).take 1).length<=1:=by rw[jx];exact Nat.min_le_left _ _
  have hc:ch (o5 aw n)=((ch aw).drop n).take 1:=rfl;rw[A3];by_cases h:o5 aw n="\n"
  ·rw[dI h,<-hc,h,hn];rfl
  ·rw[dR h];refine List.count_eq_zero.mpr λhm=>h (Et ?_);rw[hn,hc]
   match B:((ch aw).drop n).take 1,Z,hm with
   | [a],_,hm=>rw[List.mem_singleton.mp hm]
   |a::b::t,Z,_=>rw[aJ,aJ] at Z;omega
 rw[h1];cases d3 (o5 aw n) "\n" with
 |true=>rw[cS,cS];omega
 |false=>rw[dk,dk];omega
noncomputable def we:List V->ad V:=L3 λM=>∀{base r:List O}{aw:Str}{n:Nat}{ws:List V}{lo ce Q},aw.length<=10000000->Q (.str (o5 aw n)) ⟨lo,ce,lx base aw (n+1) (db aw (n+1)) ws r⟩->M [.loc (base.length+8)] ⟨lo,ce,lx base aw n (db aw n) ws r⟩ Q
section
noncomputable abbrev aaG (P:Params):df:=fb (KK P) 189 ["self","ch"] []
theorem aaH(P:Params):cc (aaG P) [] .cell:=ik (by kernel_rfl)
theorem oV(U:cD P g):cO g (k+2) (.ref 189) we:=by
 have H:=aaH P;refine lh U H (NB.at rfl (by exact(ab (aP H 1 rfl (md (mM U).cls (M5 U) (Wj U) (dy (mM U) 1 rfl (ai H 0 rfl)) (ae bv ay))) (ab (ii (aN gq (ai H 1 rfl) bz) (ab (vf (mM U) 0 kE rfl (ai H 0 rfl) bv) aC) aC) (ab (cP (ai H 1 rfl)) aC))))) [] [] (λ_=>.nil) rfl (by kernel_rfl) (λa S=>rfl) ?_;refine kW (@λbase r aw n ws lo ce Q hz h=>?_);refine⟨_,rfl,?_⟩;refine o3 ?_;refine iQ jk rfl rfl ?_;refine iQ Nx (v:=.loc (base.length+6)) (by kernel_rfl) rfl ?_;refine λ_ E=>E (n6 6 rfl) (n6 0 rfl) (n6 1 rfl) (n6 5 rfl) (bL (Nat.add_lt_add_left (by decide) _)) (bL (Nat.lt_add_of_pos_right (by decide))) hz ?_;rw[De 5 (by decide) rfl];rw[G9] at h;refine bu (λe=>?_) (λe=>?_)
 ·rw[e] at h;refine iQ jk rfl rfl ?_;exact EO jk rfl (De 7 (by decide) rfl) h
 ·rw[e] at h;exact h
end
noncomputable def gK(c:Nat):Str:=⟨#[c]⟩
noncomputable def rx(c:Nat):Bool:=decide (c∈[10,9,13,32])
theorem Kk(c:Nat):v7 (gK c) "\n\t\r "=rx c:=by unfold gK;rw[Eu];exact ag (λl=>decide (c∈l)) (by decide+kernel)
theorem n7(c d:Nat):d3 (gK c) (gK d)=Nat.beq c d:=by
 rw[A3];by_cases h:c=d
 ·subst h;rw[dI rfl,hZ]
 ·rw[dR λe=>h (by have:=ag ch e;exact(hY this).1)];exact(Bool.eq_false_iff.mpr λe=>h (bK e)).symm
theorem q34:("\"":Str)=gK 34:=by decide+kernel
theorem Ya:("\\":Str)=gK 92:=by decide+kernel
theorem vD(aw:Str)(n:Nat):(o5 aw n).length<=1:=by refine(?_ :(((ch aw).drop n).take 1).toArray.size<=1);rw[aZ,jx];exact Nat.min_le_left _ _
theorem vE{n:Nat}(h:(ch aw).drop n=[]):o5 aw n=⟨#[]⟩:=by unfold o5;rw[h];rfl
theorem oW{n:Nat}(h:(ch aw).drop n=c::l):o5 aw n=gK c:=by unfold o5;rw[h];rfl
noncomputable def tL(b L:Nat)(t x:Str):List (Option V):=[some (.loc (b+8)),some (.str t),some (.loc L),some (.str x),none]
def aaJ(b L:Nat)(base r:List O)(aw:Str)(n:Nat)(ws:List V)(t:Str)(c:Nat)(Q:Fl->St->Prop):Prop:=br (Nat.beq c 92) (Q .next ⟨tL b L (t++o5 aw n) (o5 aw n),[],lx base aw (n+1) (db aw (n+1)) ws r⟩) (Q .next ⟨tL b L (t++gK c) (gK c),[],lx base aw n (db aw n) ws r⟩)
noncomputable def Wsp(sp:Nat->Bool):ad Fl:=L2 λM=>∀{base r:List O}{aw t:Str}{n c L:Nat}{ws:List V}{Q},aw.length<=10000000->t.length<=10000000->br (sp c) (Q (.ret (.str t)) ⟨tL base.length L t (gK c),[],lx base aw n (db aw n) ws r⟩) (aaJ base.length L base r aw n ws t c Q)->
 M ⟨tL base.length L t (gK c),[],lx base aw n (db aw n) ws r⟩ Q
noncomputable def pU(c:Nat):Bool:=Nat.beq c 34
theorem A4{t x:Str}(ht:t.length<=10000000)(B:x.length<=1):bw (t.length+x.length)=true:=cT (am (gU ht B) (by decide))
section
noncomputable abbrev Ny (P:Params):df:=fb (KK P) 196 ["self","token","fiter","ch"] []
theorem Nz(P:Params):cc (Ny P) ["iter"] .cell:=ik (by kernel_rfl)
theorem R_(U:cD P g):NB g (Ny P) (k+3) (ru (cB (ru (cB (ru (cB (bh (KK P) 196) 3)) 1)) 0)) (Wsp pU):=by
 have H:=Nz P;refine NB.c (NB.at' rfl (by exact(ab (ii (aN gq (ai H 3 rfl) bz) (ab (cP (ai H 1 rfl)) aC) (ab (ii (aN gq (ai H 3 rfl) bz) (ab (aP H 3 rfl (iL U (mM U) (by kernel_rfl) (by kernel_rfl) (by kernel_rfl) (oV U).ok (ai H 0 rfl) ay)) aC) aC) aC)) (ab (AK H 1 kE rfl (ai H 3 rfl)) aC)))) ?_;refine pO (@λbase r aw t n c L ws Q hz ht h=>?_);refine nV (by rw[q34,n7];rfl) h id (λh=>?_);refine nV (by rw[Ya,n7]) h (λh=>?_) (λh=>?_)
 ·refine av jk ?_;refine λ_ E=>E hz ?_;exact b_ (A4 ht (vD aw n)) h
 ·exact b_ (A4 ht (aF 1)) h
theorem Sa(U:cD P g):NB g (Ny P) (k+3) (ru (cB (pQ (cB (ru (cB (bh (KK P) 196) 3)) 1)) 2)) (Wsp rx):=by
 have H:=Nz P;refine NB.c (NB.at' rfl (by exact(ab (ii (aN wv (ai H 3 rfl) (dy (mM U) 2 rfl (ai H 0 rfl))) (ab (cP (ai H 1 rfl)) aC) (ab (ii (aN gq (ai H 3 rfl) bz) (ab (aP H 3 rfl (iL U (mM U) (by kernel_rfl) (by kernel_rfl) (by kernel_rfl) (oV U).ok (ai H 0 rfl) ay)) aC) aC) aC)) (ab (AK H 1 kE rfl (ai H 3 rfl)) aC)))) ?_;refine pO (@λbase r aw t n c L ws Q hz ht h=>?_);refine iQ jk (v:=.str "\n\t\r ") (by kernel_rfl) rfl ?_;refine nV (Kk c) h id (λh=>?_);refine nV (by rw[Ya,n7]) h (λh=>?_) (λh=>?_)
 ·refine av jk ?_;refine λ_ E=>E hz ?_;exact b_ (A4 ht (vD aw n)) h
 ·exact b_ (A4 ht (aF 1)) h
end
noncomputable def sT(sp:Nat->Bool):List Nat->Str->Str×List Nat
 | [],t=>(t,[])
 |c::r,t=>bif sp c then(t,r) else bif Nat.beq c 92 then(match r with| []=>(t++⟨#[]⟩,[])|d::r'=>sT sp r' (t++gK d)) else sT sp r (t++gK c)
noncomputable def Kl(c:Nat)(r:List Nat):Str×List Nat:=bif pU c then sT pU r "" else bif Nat.beq c 92 then(match r with| []=>(""++⟨#[]⟩,[])|d::r'=>sT rx r' (""++gK d)) else sT rx r (""++gK c)
noncomputable def sw:List Nat->Str×List Nat
 | []=>("",[])
 |c::r=>bif rx c then sw r else Kl c r
noncomputable def rc(b m:Nat)(run:Bool):List O:=[.bP .meth [.e_ (.ref 189),.loc (b+8)],bif run then .bP .mY [.loc (b+(11+m)),.str "",.bool false] else .bP .mY [.none,.none,.bool true]]
section
variable {n:Nat}{lo:List (Option V)}{K:Option V->St->Prop}
noncomputable abbrev Lr (base r:List O):Nat:=base.length+(11+(r.length+1))
theorem EP(run:Bool):(lx base aw n ln ws (r++rc base.length r.length run))[Lr base r]?=some (bif run then .bP .mY [.loc (base.length+(11+r.length)),.str "",.bool false] else .bP .mY [.none,.none,.bool true]):=EN gx
theorem Wp(run:Bool):(lx base aw n ln ws (r++rc base.length r.length run))[base.length+(11+r.length)]?=some (.bP .meth [.e_ (.ref 189),.loc (base.length+8)]):=EN aR
theorem A5:uV 189 (lx base aw n ln ws (r++rc base.length r.length true)) (Lr base r)=some (.loc (base.length+8)):=by unfold uV;rw[EP];refine(?_ :wA 189 (lx base aw n ln ws (r++rc base.length r.length true))[base.length+(11+r.length)]?=_);rw[Wp];rfl
theorem A6(run:Bool):mH (lx base aw n ln ws (r++rc base.length r.length run)) (Lr base r)=true:=by unfold mH;rw[EP];cases run<;>rfl
theorem Sb:(lx base aw n ln ws (r++rc base.length r.length true)).set (Lr base r) (.bP .mY [.none,.none,.bool true])=lx base aw n ln ws (r++rc base.length r.length false):=by unfold lx Lr;rw[dO,show 11=(Pj base.length aw n ln ws).length from rfl,dO];unfold rc;rw[vm];rfl
theorem Sc(q:K none ⟨lo,ce,lx base aw n (db aw n) ws (r++rc base.length r.length false)⟩):iD 189 we (Lr base r) ⟨lo,ce,lx base aw n (db aw n) ws (r++rc base.length r.length false)⟩ K:=vW (by unfold nP;rw[EP];rfl) q
theorem Km(hz:aw.length<=10000000)(q:br (rT (o5 aw n)) (K none ⟨lo,ce,lx base aw (n+1) (db aw (n+1)) ws (r++rc base.length r.length false)⟩) (K (some (.str (o5 aw n))) ⟨lo,ce,lx base aw (n+1) (db aw (n+1)) ws (r++rc base.length r.length true)⟩)):iD 189 we (Lr base r) ⟨lo,ce,lx base aw n (db aw n) ws (r++rc base.length r.length true)⟩ K:=by refine wR (by unfold nP;rw[EP];rfl) (av A5 (λ_ E=>E hz (b_ (by rw[A5];rfl) ?_)));refine qK q (λq=>?_) id;rw[Sb];exact q
theorem Kn(q:Q .next ⟨lo,ce,lx base aw n (db aw n) ws (r++rc base.length r.length false)⟩):uY (iD 189 we (Lr base r)) (Lr base r) As Wb (m+1) ⟨lo,ce,lx base aw n (db aw n) ws (r++rc base.length r.length false)⟩ Q:=Sc q
theorem qZ(hz:aw.length<=10000000)(h:(ch aw).drop n=[])(q:Q .next ⟨lo,ce,lx base aw (n+1) (db aw (n+1)) ws (r++rc base.length r.length false)⟩):uY (iD 189 we (Lr base r)) (Lr base r) As Wb (m+1) ⟨lo,ce,lx base aw n (db aw n) ws (r++rc base.length r.length true)⟩ Q:=Km hz (vW (by rw[vE h];exact qT _) q)
theorem km(hz:aw.length<=10000000)(h:(ch aw).drop n=c::l)(q:As (.str (gK c)) ⟨lo,ce,lx base aw (n+1) (db aw (n+1)) ws (r++rc base.length r.length true)⟩ (sI Wb (P6 (λσ=>uY (iD 189 we (Lr base r)) (Lr base r) As Wb m σ Q) Q))):uY (iD 189 we (Lr base r)) (Lr base r) As Wb (m+1) ⟨lo,ce,lx base aw n (db aw n) ws (r++rc base.length r.length true)⟩ Q:=Km hz (wR (by rw[oW h];exact Bool.eq_false_iff.mpr λe=>by have:=ag ch ((cq _ _).mp e);cases this) (b_ (A6 true) (by rw[oW h];exact q)))
end
structure Wq(base r:List O)(aw:Str)(ws:List V)(p:Str×List Nat)(Q:Fl->St->Prop):Prop where
 ret:∀n x,(ch aw).drop n=p.2->Q (.ret (.str p.1)) ⟨tL base.length (Lr base r) p.1 x,[],lx base aw n (db aw n) ws (r++rc base.length r.length true)⟩
 nxt:p.2=[]->∀n x,(ch aw).drop n=[]->Q .next ⟨tL base.length (Lr base r) p.1 x,[],lx base aw n (db aw n) ws (r++rc base.length r.length false)⟩
theorem yv{xs:List Nat}{n:Nat}(h:xs.drop n=c::l):xs.drop (n+1)=l:=(fC h).2
theorem pV{xs:List Nat}{n:Nat}(h:xs.drop n=[]):xs.drop (n+1)=[]:=by rw[jZ] at h ⊢;exact aQ [_,_] (.c 1 (.v 0) (.v 1) .nil) 0 (.v 0) (.a (.v 1) (.n 1)) tt h
theorem yw{sp:Nat->Bool}(hz:aw.length<=10000000):∀(m:Nat)(l:List Nat)(t x:Str)(n:Nat),l.length<=m->(ch aw).drop n=l->t.length+l.length<=10000000->Wq base r aw ws (sT sp l t) Q-> ∃f,uY (iD 189 we (Lr base r)) (Lr base r) (du 3) (Wsp sp) f ⟨tL base.length (Lr base r) t x,[],lx base aw n (db aw n) ws (r++rc base.length r.length true)⟩ Q:=λm=>by
 induction m with
 |zero=>intro l t x n hm Z ht h;obtain rfl:=List.length_eq_zero_iff.mp (Nat.le_zero.mp hm);exact⟨1,qZ hz Z (h.nxt rfl _ x (pV Z))⟩
 |succ m T=>
  intro l t x n hm Z ht h;cases l with
  |nil=>exact⟨1,qZ hz Z (h.nxt rfl _ x (pV Z))⟩
  |cons c l=>
   rw[aJ] at hm ht;have j:=yv Z;unfold sT at h;cases e:sp c with
   |true=>rw[e] at h;exact⟨1,km hz Z (λ_ E=>E hz (aQ [_,_] (.c 1 (.a (.v 0) (.a (.v 1) (.n 1))) (.n 10000000) .nil) 0 (.v 0) (.n 10000000) tt ht) (vW e (h.ret _ _ j)))⟩
   |false=>
    rw[e,dk] at h;cases e2:Nat.beq c 92 with
    |true=>
     rw[e2,cS] at h;cases l with
     |nil=>exact⟨2,km hz Z (λ_ E=>E hz (aQ [_,_] (.c 1 (.a (.v 0) (.a (.v 1) (.n 1))) (.n 10000000) .nil) 0 (.v 0) (.n 10000000) tt ht) (wR e (vW e2 (by rw[vE j];exact qZ hz (pV j) (h.nxt rfl _ _ (pV (pV j)))))))⟩
     |cons d l=>rw[aJ] at hm ht;obtain⟨f,S⟩:=T l (t++gK d) (gK d) (n+1+1) (aQ [_,_] (.c 1 (.a (.a (.v 0) (.n 1)) (.n 1)) (.a (.v 1) (.n 1)) .nil) 0 (.v 0) (.v 1) tt hm) (yv j) (by rw[bH];exact am (fN (by refine(?_ :t.length+1+l.length=t.length+(l.length+1));exact fB [_,_] .nil 0 (.a (.a (.v 0) (.n 1)) (.v 1)) (.a (.v 0) (.a (.v 1) (.n 1))) tt tt)) (ir ht)) h;exact⟨f+1,km hz Z (λ_ E=>E hz (aQ [_,_] (.c 1 (.a (.v 0) (.a (.a (.v 1) (.n 1)) (.n 1))) (.n 10000000) .nil) 0 (.v 0) (.n 10000000) tt ht) (wR e (vW e2 (by rw[oW j];exact S))))⟩
    |false=>rw[e2,dk] at h;obtain⟨f,S⟩:=T l (t++gK c) (gK c) (n+1) (aQ [_,_] (.c 1 (.a (.v 0) (.n 1)) (.a (.v 1) (.n 1)) .nil) 0 (.v 0) (.v 1) tt hm) j (by rw[bH];exact am (fN (by refine(?_ :t.length+1+l.length=t.length+(l.length+1));exact fB [_,_] .nil 0 (.a (.a (.v 0) (.n 1)) (.v 1)) (.a (.v 0) (.a (.v 1) (.n 1))) tt tt)) ht) h;exact⟨f+1,km hz Z (λ_ E=>E hz (aQ [_,_] (.c 1 (.a (.v 0) (.a (.v 1) (.n 1))) (.n 10000000) .nil) 0 (.v 0) (.n 10000000) tt ht) (wR e (wR e2 S)))⟩
noncomputable def Dh:ad Fl:=L2 λM=>∀{base r:List O}{aw:Str}{n c:Nat}{l:List Nat}{ws:List V}{Q},aw.length<=10000000->l.length<=9000000->(ch aw).drop n=l->(rx c=true->Q .cont ⟨tL base.length (Lr base r) "" (gK c),[],lx base aw n (db aw n) ws (r++rc base.length r.length true)⟩)->(rx c=false->Wq base r aw ws (Kl c l) Q)->
 M ⟨tL base.length (Lr base r) "" (gK c),[],lx base aw n (db aw n) ws (r++rc base.length r.length true)⟩ Q
noncomputable def aaL:List V->ad V:=L3 λM=>∀{base r:List O}{aw:Str}{n:Nat}{ws:List V}{lo ce Q},aw.length<=9000000->(∀n' X,(ch aw).drop n'=(sw ((ch aw).drop n)).2->Q (.str (sw ((ch aw).drop n)).1) ⟨lo,ce,lx base aw n' (db aw n') ws (r++X)⟩)->M [.loc (base.length+8)] ⟨lo,ce,lx base aw n (db aw n) ws r⟩ Q
section
theorem Wq.seq{p:Str×List Nat}(h:Wq base r aw ws p Q):Wq base r aw ws p (rH (c8 .next) Q):=⟨λn x e=>h.ret n x e,λe n x e'=>h.nxt e n x e'⟩
theorem Sd(U:cD P g):NB g (Ny P) (k+3) (ru (cB (bh (KK P) 196) 3)) Dh:=by
 have H:=Nz P;refine NB.c (NB.at' rfl (by exact(ab (ii (aN wv (ai H 3 rfl) (dy (mM U) 2 rfl (ai H 0 rfl))) (ab Vn aC) aC) (ab (ii (aN gq (ai H 3 rfl) bz) (ab (vh (by rw[U.K];kernel_rfl) (oV U) (ai H 2 rfl) (b8 H 3 rfl) (R_ U) (z:=by intro _ _;rfl)) aC) (ab (ii (aN gq (ai H 3 rfl) bz) (ab (aP H 3 rfl (iL U (mM U) (by kernel_rfl) (by kernel_rfl) (by kernel_rfl) (oV U).ok (ai H 0 rfl) ay)) aC) aC) (ab (AK H 1 kE rfl (ai H 3 rfl)) (ab (vh (by rw[U.K];kernel_rfl) (oV U) (ai H 2 rfl) (b8 H 3 rfl) (Sa U) (z:=by intro _ _;rfl)) aC)))) aC)))) ?_;refine pO (@λbase r aw n c l ws Q hz Yb Z h1 h2=>?_);refine iQ jk (v:=.str "\n\t\r ") (by kernel_rfl) rfl ?_;refine bu (λe=>h1 ((Kk c).symm.trans e)) (λe=>?_);replace h2:=h2 ((Kk c).symm.trans e);unfold Kl at h2;cases e2:pU c with
 |true=>rw[e2,cS] at h2;refine vW (by rw[q34,n7];exact e2) ?_;refine b_ (A6 true) ?_;exact yw hz l.length l "" _ n (aF _) Z (am (by rw[show("":Str).length=0 from rfl,eQ];exact Yb) (by decide)) h2.seq.seq.seq
 |false=>
  rw[e2,dk] at h2;refine wR (by rw[q34,n7];exact e2) ?_;cases e3:Nat.beq c 92 with
  |true=>
   rw[e3,cS] at h2;refine vW (by rw[Ya,n7];exact e3) ?_;refine av jk ?_;refine λ_ E=>E hz ?_;refine b_ (A4 (aW _) (vD aw n)) ?_;refine b_ (A6 true) ?_;cases l with
   |nil=>rw[vE Z];exact yw hz 0 [] (""++⟨#[]⟩) _ (n+1) (aF _) (pV Z) (aW _) h2.seq.seq.seq
   |cons d l=>rw[oW Z];rw[aJ] at Yb;exact yw hz l.length l (""++gK d) _ (n+1) (aF _) (yv Z) (by rw[bH];refine(?_ :0+1+l.length<=10000000);exact aQ [_] (.c 1 (.a (.v 0) (.n 1)) (.n 9000000) .nil) 0 (.a (.a (.n 0) (.n 1)) (.v 0)) (.n 10000000) tt Yb) h2.seq.seq.seq
  |false=>rw[e3,dk] at h2;refine wR (by rw[Ya,n7];exact e3) ?_;refine b_ (A6 true) ?_;exact yw hz l.length l (""++gK c) _ n (aF _) Z (by rw[bH];refine(?_ :0+1+l.length<=10000000);exact aQ [_] (.c 1 (.v 0) (.n 9000000) .nil) 0 (.a (.a (.n 0) (.n 1)) (.v 0)) (.n 10000000) tt Yb) h2.seq.seq.seq
structure aaM(base r:List O)(aw:Str)(ws:List V)(p:Str×List Nat)(Q:Fl->St->Prop):Prop where
 ret:∀n lo,(ch aw).drop n=p.2->Q (.ret (.str p.1)) ⟨lo,[],lx base aw n (db aw n) ws (r++rc base.length r.length true)⟩
 nxt:p.2=[]->∀n y,(ch aw).drop n=[]->Q .next ⟨[some (.loc (base.length+8)),some (.str p.1),some (.loc (Lr base r)),y,none],[],lx base aw n (db aw n) ws (r++rc base.length r.length false)⟩
theorem Se(hz:aw.length<=9000000)(l:List Nat):∀(n:Nat)(y:Option V),l.length<=9000000->(ch aw).drop n=l->aaM base r aw ws (sw l) Q-> ∃f,uY (iD 189 we (Lr base r)) (Lr base r) (du 3) Dh f ⟨[some (.loc (base.length+8)),some (.str ""),some (.loc (Lr base r)),y,none],[],lx base aw n (db aw n) ws (r++rc base.length r.length true)⟩ Q:=by
 have L:aw.length<=10000000:=am hz (by decide);induction l with
 |nil=>exact λn y hm Z h=>⟨1,qZ L Z (h.nxt rfl _ y (pV Z))⟩
 |cons c l T=>
  intro n y hm Z h;rw[aJ] at hm;have j:=yv Z;unfold sw at h;cases e:rx c with
  |true=>rw[e,cS] at h;refine xE (T (n+1) (some (.str (gK c))) (ir hm) j h) λf S=>?_;exact⟨f+1,km L Z (λ_ E=>E L (ir hm) j (λ_=>S) λe'=>by rw[e] at e';exact yU e')⟩
  |false=>rw[e,dk] at h;exact⟨2,km L Z (λ_ E=>E L (ir hm) j (λe'=>by rw[e] at e';exact nB e') λ_=>⟨λn x e=>h.ret n _ e,λe n x e'=>Kn (h.nxt e n _ e')⟩)⟩
theorem EQ(U:cD P g):cO g (k+4) (.ref 196) aaL:=by
 have H:=Nz P;refine lh U H (NB.at rfl (by exact(ab (ii (a7 (dy (mM U) 3 rfl (ai H 0 rfl))) fk aC) (ab (aP H 1 rfl bz) (ab (aP H 2 rfl (b7 (λ_ _ _=>aX) (Gm (f:=189)) (bG U H 0 5 rfl rfl (by kernel_rfl)) (ae (Ep (mM U).cls (ZV U) (ai H 0 rfl) (he:=by intro _;with_unfolding_all rfl)) (ae bz ay)))) (ab (vh (by rw[U.K];kernel_rfl) (oV U) (ai H 2 rfl) (b8 H 3 rfl) (Sd U) (z:=by intro _ _;rfl)) (ab (cP (ai H 1 rfl)) aC))))))) [] [] (λ_=>.nil) rfl (by kernel_rfl) (λa S=>rfl) ?_;refine kW (@λbase r aw n ws lo ce Q hz h=>?_);refine⟨_,rfl,?_⟩;refine o3 ?_;refine iQ jk (v:=.loc (base.length+9)) (by kernel_rfl) rfl ?_;refine jq (n6 9 rfl) (aW _) ?_;refine av jk ?_;have em:(lx base aw n (db aw n) ws r++[O.bP .meth [.e_ (.ref 189),.loc (base.length+8)]])[(lx base aw n (db aw n) ws r).length]?=some (.bP .meth [.e_ (.ref 189),.loc (base.length+8)]):=aR;refine av (by refine(?_ :wA 189 (lx base aw n (db aw n) ws r++[O.bP .meth [.e_ (.ref 189),.loc (base.length+8)]])[(lx base aw n (db aw n) ws r).length]?=_);rw[em];rfl) ?_;refine(?_ :gd (mH ((lx base aw n (db aw n) ws r++[O.bP .meth [.e_ (.ref 189),.loc (base.length+8)]])++[O.bP .mY [.loc (lx base aw n (db aw n) ws r).length,.str "",.bool false]]) (lx base aw n (db aw n) ws r++[O.bP .meth [.e_ (.ref 189),.loc (base.length+8)]]).length) (∃f,uY (iD 189 we (lx base aw n (db aw n) ws r++[O.bP .meth [.e_ (.ref 189),.loc (base.length+8)]]).length) (lx base aw n (db aw n) ws r++[O.bP .meth [.e_ (.ref 189),.loc (base.length+8)]]).length (du 3) Dh f ⟨[some (.loc (base.length+8)),some (.str ""),some (.loc (lx base aw n (db aw n) ws r++[O.bP .meth [.e_ (.ref 189),.loc (base.length+8)]]).length),none,none],[],(lx base aw n (db aw n) ws r++[O.bP .meth [.e_ (.ref 189),.loc (base.length+8)]])++[O.bP .mY [.loc (lx base aw n (db aw n) ws r).length,.str "",.bool false]]⟩ (rH (aV (ao (dX 1) vd) (c8 .next)) λfl a9=>Q (nF fl) ⟨lo,ce,a9.mem⟩)));rw[Df,Df,Dg,Dg,ak,au];refine b_ (A6 true) ?_;have hd:((ch aw).drop n).length<=9000000:=by rw[cb];exact am (Nat.sub_le _ _) (by rw[<-pP];exact hz)
 exact Se hz ((ch aw).drop n) n none hd rfl ⟨λn' A e=>h n' _ e,λe n' y e'=>h n' _ (by rw[e];exact e')⟩
end
inductive iR:List Nat->List Str->List Nat->Prop
 |stop {l:List Nat}:Nat.beq (sw l).1.length 0=true->iR l [] (sw l).2
 |go {l l':List Nat} {ws:List Str}:Nat.beq (sw l).1.length 0=false->iR (sw l).2 ws l'->iR l ((sw l).1::ws) l'
noncomputable abbrev bt (b:Bool) (u:List O):List O:=.tab 0 b::u
noncomputable def Ws:List V->ad V:=L3 λM=>∀{b:Bool}{u:List O}{aw:Str}{ws:List Str}{l':List Nat}{lo ce Q},iR (ch aw) ws l'->aw.length<=9000000->ws.length<=1000->(∀w∈ws,w.length<=10000)->
 (∀n X t,(ch aw).drop n=l'->X[t]?=some (.tup [.loc ((bt b u).length+10),.int (db aw n)])->Q (.loc ((bt b u).length+(11+t))) ⟨lo,ce,lx (bt true u) aw n (db aw n) (ws.map .str) X⟩)->M [.str aw] ⟨lo,ce,bt b u⟩ Q
section
noncomputable abbrev Sf (P:Params):df:=fb (KK P) 264 ["stream","read","lexer","words","word"] ["page","place"]
noncomputable def Wu:List Str:=["_netrclex"]
abbrev q6(i:Nat):=NN Sf Wu 264 i 4
theorem Ww(P:Params):cc (Sf P) Wu .cell:=ik (by kernel_rfl)
noncomputable def wL(b:Nat)(w:Str):List (Option V):=[some (.loc (b+3)),some (.loc (b+6)),some (.loc (b+8)),some (.loc (b+10)),some (.str w)]
theorem G_{n:Nat}{ws:List Str}{w:Str}{lo:List (Option V)}{Q:V->St->Prop}(hz:ws.length<=10000)(q:Q .none ⟨lo,ce,lx base aw n ln ((ws++[w]).map .str) r⟩):aA (dC (lx base aw n ln (ws.map .str) r) (.loc (base.length+10))) λp=>gd (bw p.2.length) (Q .none ⟨lo,ce,(lx base aw n ln (ws.map .str) r).set p.1 (.list (p.2++[.str w]))⟩):=iN (n6 10 rfl) (by rw[ax];exact hz) (by rw[show(ws.map V.str++[.str w])=(ws++[w]).map V.str by simp,De 10 (by decide) rfl];exact q)
noncomputable def Ko:ad Fl:=L2 λM=>∀{base r:List O}{aw:Str}{n:Nat}{ws:List Str}{w:Str}{ce Q},aw.length<=9000000->ws.length<=10000->(∀n' X,(ch aw).drop n'=(sw ((ch aw).drop n)).2->Q .next ⟨wL base.length (sw ((ch aw).drop n)).1,ce,lx base aw n' (db aw n') ((ws++[w]).map .str) X⟩)->M ⟨wL base.length w,ce,lx base aw n (db aw n) (ws.map .str) r⟩ Q
theorem Sg(U:cD P g):NB g (Sf P) (k+4) (ru (cB (bh (KK P) 264) 7)) Ko:=by have H:=Ww P;refine NB.c (NB.at' rfl (by exact(ab (cZ (bZ .list bD cJ b0 bB (ai H 3 rfl) (ae (ai H 4 rfl) ay))) (ab (aP H 4 rfl (iL U (mM U) (by kernel_rfl) (by kernel_rfl) (by kernel_rfl) (EQ U).ok (ai H 2 rfl) ay)) aC)))) ?_;refine pO (@λbase r aw n ws w ce Q hz hw h=>?_);refine b_ (bk (n6 10 rfl)) ?_;refine G_ hw ?_;refine av jk ?_;exact λ_ E=>E hz λn' X e=>h n' (r++X) e
noncomputable def Sh:q6 0:=⟨_,λU H=>by exact(aP H 0 rfl (b7 (g7 U (by kernel_rfl)) (Ki U) (kU U H 0 12 rfl rfl) (ae ie ay)))⟩
noncomputable def Si:q6 1:=⟨_,λU H=>by exact(nT H 1 rfl (eD (ae bv ay)))⟩
noncomputable def Sj:q6 2:=⟨_,λU H=>by exact(Jq H 1 (ZW U) [0,1] (by kernel_rfl) rfl (aaA U (by kernel_rfl) (by kernel_rfl) (by kernel_rfl) (by kernel_rfl)) (aaB U (by kernel_rfl)) U.tq0 (aaC U (by kernel_rfl)) (λ_=>by kernel_rfl) (hd0:=by rfl) (TF:=by rfl) (MI:=by intro _;rfl))⟩
noncomputable def Sk:q6 3:=⟨_,λU H=>by exact(cj (mM U) 4 rfl (ai H 1 rfl) (ai H 0 rfl))⟩
noncomputable def Sl:q6 4:=⟨_,λU H=>by exact(aP H 2 rfl (b7 (g7 U (by kernel_rfl)) (Ki U) (kU U H 0 12 rfl rfl) (ae (ai H 0 rfl) ay)))⟩
noncomputable def Sm:q6 5:=⟨_,λU H=>by exact(aP H 3 rfl (eD ay))⟩
noncomputable def Di:q6 6:=⟨_,λU H=>by exact(aP H 4 rfl (iL U (mM U) (by kernel_rfl) (by kernel_rfl) (by kernel_rfl) (EQ U).ok (ai H 2 rfl) ay))⟩
noncomputable def Kp:q6 7:=⟨_,λU H=>by exact(xQ (a7 (ai H 4 rfl)) (Sg U))⟩
noncomputable def Kq:q6 8:=⟨_,λU H=>by exact(cP (ng (ae (ai H 3 rfl) (ae (dy (mM U) 0 rfl (ai H 2 rfl)) ay))))⟩
theorem Dj{l':List Nat}{wr:List Str}(hz:aw.length<=9000000)(h:iR l wr l'):∀(n:Nat)(ws:List Str)(r:List O),(ch aw).drop n=(sw l).2->ws.length+wr.length<=1000->(∀w∈wr,w.length<=10000)-> (∀n' X w,(ch aw).drop n'=l'->Q .next ⟨wL base.length w,ce,lx base aw n' (db aw n') ((ws++wr).map .str) X⟩)-> mv (ao (dX 4) nr) Ko (wr.length+1) ⟨wL base.length (sw l).1,ce,lx base aw n (db aw n) (ws.map .str) r⟩ Q:=by
 induction h with
 | @stop l e=>intro n ws r hd hw Sn q;have:=q n r (sw l).1 hd;rw[aS] at this;exact b_ (cM (by rw[bK e];exact aW _)) (wR (by rw[e];rfl) this)
 | @go l l' wr e hr T=>intro n ws r hd hw Sn q;rw[aJ] at hw;refine b_ (cM (Sn _ (.head _))) (vW (by rw[e];rfl) ?_);refine λ_ E=>E hz (aQ [_,_] (.c 1 (.a (.v 0) (.a (.v 1) (.n 1))) (.n 1000) .nil) 0 (.v 0) (.n 10000) tt hw) λn' X LH=>?_;rw[hd] at LH ⊢;exact T n' (ws++[(sw l).1]) X LH (by rw[ak];refine(?_ :ws.length+1+wr.length<=1000);exact aQ [_,_] (.c 1 (.a (.v 0) (.a (.v 1) (.n 1))) (.n 1000) .nil) 0 (.a (.a (.v 0) (.n 1)) (.v 1)) (.n 1000) tt hw) (λw hw=>Sn w (.tail _ hw)) λSo X w aaN=>by have:=q So X w aaN;rwa[<-List.singleton_append,<-au] at this
theorem Dk(U:cD P g){ws:List Str}{l':List Nat}{A:List Nat}{lo:List (Option V)}{Q:V->St->Prop}(J:iR (ch aw) ws l')(hz:aw.length<=9000000)(hw:ws.length<=1000)(Sn:∀w∈ws,w.length<=10000)(h:∀n X t,(ch aw).drop n=l'->X[t]?=some (.tup [.loc (base.length+10),.int (db aw n)])->Q (.loc (base.length+(11+t))) ⟨lo,A,lx base aw n (db aw n) (ws.map .str) X⟩):aV Di.1 (aV Kp.1 (aV Kq.1 (c8 .next))) ⟨[some (.loc (base.length+3)),some (.loc (base.length+6)),some (.loc (base.length+8)),some (.loc (base.length+10)),none],ce,lx base aw 0 (db aw 0) [] []⟩ (λfl a9=>Q (nF fl) ⟨lo,A,a9.mem⟩):=by refine av jk ?_;refine λ_ E=>E hz λn X hd=>⟨ws.length+1,?_⟩;refine Dj (ws:=[]) hz J n _ hd (by rw[fK,eQ];exact hw) Sn λn' X w LH=>?_;refine iQ jk (v:=.int (db aw n')) (by kernel_rfl) rfl ?_;have e:lx base aw n' (db aw n') (ws.map .str) X++[O.tup [.loc (base.length+10),.int (db aw n')]]=lx base aw n' (db aw n') (ws.map .str) (X++[.tup [.loc (base.length+10),.int (db aw n')]]):=Df;have:=h n' _ X.length LH (aR (t:=[]));rw[<-e,<-Dg] at this;exact this
theorem NC{l:Nat}{lo:List (Option V)}{Q:Unit->St->Prop}(h:me[l]?=some .de)(e:me.set l (.cell v)=Dd)(q:Q () ⟨lo,ce,Dd⟩):gd (oT me[l]?) (Q () ⟨lo,ce,me.set l (.cell v)⟩):=EJ h (by rw[e];exact q)
theorem ER(U:cD P g):cO g (k+5) (.ref 264) Ws:=by
 have H:=Ww P;refine EE U H (NB.at rfl (by exact(ab (Sh.2 U H) (ab (Si.2 U H) (ab (Sj.2 U H) (ab (Sk.2 U H) (ab (Sl.2 U H) (ab (Sm.2 U H) (ab (Di.2 U H) (ab (Kp.2 U H) (ab (Kq.2 U H) aC))))))))))) 1 [] ["page"] (List.replicate 5 none) [some 0,none] (by kernel_rfl) (λn=>rfl) rfl (by kernel_rfl) rfl (λs us X Z=>by
  refine xE (List.length_eq_one_iff.mp Z) λa Y=>?_;obtain rfl:=Y;exact⟨[],λ_=>.nil,kp_binds X λS=>rfl⟩) ?_
 refine kW (@λb u aw ws l' lo ce Q J hz hw Sn h=>?_);refine⟨rfl,?_⟩;refine λ_ E=>E (B:=bt b u++[O.cell (.str aw),.de]) (I:=.none) ?_;refine NC (me:=((bt b u++[O.cell (.str aw),.de])++[O.dict (qY .none (.loc ((bt b u++[O.cell (.str aw),.de]).length+2)) 1),.inst 206 (bt b u++[O.cell (.str aw),.de]).length,.list []])++[.list [.int 0]]) (l:=(bt b u).length+1) (v:=.loc ((bt b u++[O.cell (.str aw),.de])++[O.dict (qY .none (.loc ((bt b u++[O.cell (.str aw),.de]).length+2)) 1),.inst 206 (bt b u++[O.cell (.str aw),.de]).length,.list []]).length)
  (Dd:=bt b u++[O.cell (.str aw),.cell (.loc ((bt b u).length+5)),.dict (qY .none (.loc ((bt b u).length+4)) 1),.inst 206 ((bt b u).length+2),.list [],.list [.int 0]]) (ac (ac gx)) (by rw[au,au,au];refine(vm.trans ?_);simp) ?_
 have w:(bt b u++[O.cell (.str aw),.de]).length=(bt b u).length+2:=by simp
 refine EO (me:=(bt true u++[O.cell (.str aw),.cell (.loc ((bt b u).length+5)),.dict (qY .none (.loc ((bt b u).length+4)) 1),.inst 206 ((bt b u).length+2),.list [],.list [.int 0]])++[.fn 0 [(bt b u).length,(bt b u).length+1]]) (d:=(bt b u).length+2) (es:=qY .none (.loc ((bt b u).length+4)) 1) (a:=.loc ((bt b u++[O.cell (.str aw),.de]).length+1)) (v:=.loc (bt b u++[O.cell (.str aw),.cell (.loc ((bt b u).length+5)),.dict (qY .none (.loc ((bt b u).length+4)) 1),.inst 206 ((bt b u).length+2),.list [],.list [.int 0]]).length)
  (Dd:=bt true u++[O.cell (.str aw),.cell (.loc ((bt b u).length+5)),.dict (n5 (bt b u).length),.inst 206 ((bt b u).length+2),.list [],.list [.int 0],.fn 0 [(bt b u).length,(bt b u).length+1]])
  (mj (by rw[w,au];exact(bX (i:=3)).trans rfl) (by rw[au];exact(bX).trans rfl)) (by kernel_rfl) (by rw[au];exact(dO).trans (ag (bt true u++ ·) (by rw[ak];kernel_rfl))) ?_
 refine λ_ E=>E ?_;have aD:=Dk (base:=bt true u) (ce:=[(bt b u).length,(bt b u).length+1]) U J hz hw Sn h;have e1:(bt b u++[O.cell (.str aw),.cell (.loc ((bt b u).length+5)),.dict (qY .none (.loc ((bt b u).length+4)) 1),.inst 206 ((bt b u).length+2),.list [],.list [.int 0]]).length=(bt b u).length+6:=by rw[ak];rfl
 have e2:(bt true u++[O.cell (.str aw),.cell (.loc ((bt b u).length+5)),.dict (n5 (bt b u).length),.inst 206 ((bt b u).length+2),.list [],.list [.int 0],.fn 0 [(bt b u).length,(bt b u).length+1]]).length=(bt b u).length+7:=by rw[ak];rfl
 refine(?_ :aV Di.1 _ ⟨[some (.loc ((bt b u++[O.cell (.str aw),.de]).length+1)),some (.loc (bt b u++[O.cell (.str aw),.cell (.loc ((bt b u).length+5)),.dict (qY .none (.loc ((bt b u).length+4)) 1),.inst 206 ((bt b u).length+2),.list [],.list [.int 0]]).length),some (.loc ((bt true u++[O.cell (.str aw),.cell (.loc ((bt b u).length+5)),.dict (n5 (bt b u).length),.inst 206 ((bt b u).length+2),.list [],.list [.int 0],.fn 0 [(bt b u).length,(bt b u).length+1]]).length+1)),some (.loc ((bt true u++[O.cell (.str aw),.cell (.loc ((bt b u).length+5)),.dict (n5 (bt b u).length),.inst 206 ((bt b u).length+2),.list [],.list [.int 0],.fn 0 [(bt b u).length,(bt b u).length+1]])++[O.dict (qY (.loc ((bt b u++[O.cell (.str aw),.de]).length+1)) (.loc ((bt true u++[O.cell (.str aw),.cell (.loc ((bt b u).length+5)),.dict (n5 (bt b u).length),.inst 206 ((bt b u).length+2),.list [],.list [.int 0],.fn 0 [(bt b u).length,(bt b u).length+1]]).length+2)) 1),.inst 206 (bt true u++[O.cell (.str aw),.cell (.loc ((bt b u).length+5)),.dict (n5 (bt b u).length),.inst 206 ((bt b u).length+2),.list [],.list [.int 0],.fn 0 [(bt b u).length,(bt b u).length+1]]).length,.list []]).length),none],
  [(bt b u).length,(bt b u).length+1],((bt true u++[O.cell (.str aw),.cell (.loc ((bt b u).length+5)),.dict (n5 (bt b u).length),.inst 206 ((bt b u).length+2),.list [],.list [.int 0],.fn 0 [(bt b u).length,(bt b u).length+1]])++[O.dict (qY (.loc ((bt b u++[O.cell (.str aw),.de]).length+1)) (.loc ((bt true u++[O.cell (.str aw),.cell (.loc ((bt b u).length+5)),.dict (n5 (bt b u).length),.inst 206 ((bt b u).length+2),.list [],.list [.int 0],.fn 0 [(bt b u).length,(bt b u).length+1]]).length+2)) 1),.inst 206 (bt true u++[O.cell (.str aw),.cell (.loc ((bt b u).length+5)),.dict (n5 (bt b u).length),.inst 206 ((bt b u).length+2),.list [],.list [.int 0],.fn 0 [(bt b u).length,(bt b u).length+1]]).length,.list []])++[.list []]⟩ _)
 rw[ak (as:=bt true u++_),e1,e2,w,au,au];exact aD
end
noncomputable def aO(n:Nat):V:=.int ((n:Nat):Int)
theorem jr{xs:List α}{v:α}(hi:i<=10000)(e:xs[i]?=some v):uj xs ((i:Nat):Int)=some v:=by refine(?_ :uj.Tx (bw i) xs[i]?=_);rw[cM hi];exact e
theorem Kr(hz:xs.length<=10000)(hi:i<xs.length):Mp xs ((i:Nat):Int) v=some (xs.set i v):=by refine(?_ :cond (Nat.blt i xs.length&&bw xs.length) (some (xs.set i v)) none=_);rw[cM hz,show Nat.blt i xs.length=true from d8 hi];rfl
theorem n8(a b:Nat):Int.fmod ((a:Nat):Int) ((b:Nat):Int)=((a % b:Nat):Int):=by rw[Int.fmod_eq_emod_of_nonneg _ (gj b)];exact(Int.natCast_emod a b).symm
theorem q7(a b:Nat):Int.fdiv ((a:Nat):Int) ((b:Nat):Int)=((a / b:Nat):Int):=by rw[Int.fdiv_eq_ediv_of_nonneg _ (gj b)];exact(Int.natCast_ediv a b).symm
theorem Ks(a:Int)(b:Nat)(h:0<b):∃m:Nat,m<b/\Int.fmod a ((b:Nat):Int)=((m:Nat):Int):=by have h1:=Int.fmod_nonneg_of_pos a (Int.ofNat_lt.mpr h);have h2:=Int.fmod_lt_of_pos a (Int.ofNat_lt.mpr h);refine xE (Int.eq_ofNat_of_zero_le h1) λm hm=>?_;exact⟨m,by rw[hm] at h2;exact Int.ofNat_lt.mp h2,hm⟩
theorem A7{lo:List (Option V)}{l:Nat}{j:Int}{Q:Unit->St->Prop}(h:me[l]?=some (.list xs))(hz:xs.length<=10000)(ej:j=((i:Nat):Int))(hi:i<xs.length)(q:Q () ⟨lo,ce,me.set l (.list (xs.set i v))⟩):aA (dC me (.loc l)) λp=>aA (Mp p.2 j v) λI=>Q () ⟨lo,ce,me.set p.1 (.list I)⟩:=av (cV h) (av (by rw[ej];exact Kr hz hi) q)
theorem ND{l:Nat}(h:σ.mem[l]?=some (.list xs))(e:xs[i]?=some v):eX l σ i=some (some [.int i,v]):=by unfold eX;rw[ba h e];rfl
theorem Kt{l:Nat}(h:σ.mem[l]?=some (.list xs))(e:xs[i]?=none):eX l σ i=some none:=by unfold eX;rw[ba h e];rfl
structure s0(n:Nat)(cs:List Nat):Prop where
 len:cs.length=4
 le:∀c∈cs,c<=13610+n*999999
theorem s0.step{n:Nat}{cs:List Nat}(h:s0 n cs)(hm:m<1000000):s0 (n+1) (cs.set i ((cs[i]?.getD 0)+m)):=by
 refine⟨by rw[dS];exact h.len,λc hc=>?_⟩;rcases List.mem_or_eq_of_mem_set hc with hc|rfl
 ·exact am (h.le c hc) (by omega)
 ·cases e:cs[i]? with
  |none=>refine(?_ :0+m<=_);omega
  |some c=>have:=h.le c (ef e);refine(?_ :c+m<=_);omega
theorem NF{us:List Value}(h:IntsAre us ns)(wd:Wd):aE (VR wd) (ns.map .int) us:=by
 induction h with
 |nil=>exact .nil
 |cons n t _ T=>exact .cons ⟨t,rfl⟩ T
def NG(a0:Addr)(xs:List V)(a lo hi:V):ad V:=λσ Q=>aA (l5 lo) λlo=>aA (l5 hi) λhi=>gd (uI a0 a&&bw xs.length) (jR (.list (fR xs lo hi)) σ Q)
section
variable {F:df}
theorem NH{value:PySem.Expr}{lower sO:Option PySem.Expr}{p pos:Pos}{wa wl wu:ad V}(ha:NE g F k value wa)(m:NP g F k lower wl)(Ur:NP g F k sO wu):NE g F k (.Subscript value (.Slice lower sO none p) pos) (ao wa λa=>ao wl λlo=>ao wu (NG g.sa (g.sn.map .int) a lo)):=by
 refine⟨λd A af hr s wd σ Q Z R J=>?_⟩;refine Subscript_ (bb.go (ha.run d A af hr) Z R J λu dG D a G x1 x2 x3 x4=>?_);refine wpAny_Slice (bb.go (m.run d A af hr) (Z.trans x1) x2 x4 λvl mw P lo E y1 O y3 y4=>?_);refine bb.go (Ur.run d A af hr) ((Z.trans x1).trans y1) O y4 λvu c X hi H L z2 z3 z4=>?_;refine aj ?_;refine ah z4 λl r TB=>?_;refine ah TB λh eh T=>?_;clear TB z4;refine xA (aL T) λh0 Ca=>?_;rw[aM] at h0;obtain rfl:=nL h0.1;obtain rfl:u= .ref g.sa:=x3;have R3:bU g F d X H {c with heap:=c.heap.push {cls:=.type "slice",data:=.fields #[vl,vu,.none]}}:=z2.keeps λb o e=>bf _ e;have j:(c.heap.push {cls:=.type "slice",data:=.fields #[vl,vu,.none]}).get? c.heap.objs.size=some {cls:=.type "slice",data:=.fields #[vl,vu,.none]}:=cu _ rfl;refine jy (qt (VR.mono L y3) r) λp1 ql hql pz=>?_;obtain rfl:=pz;refine jy (qt z3 eh) λp2 qh hqh pz=>?_;obtain rfl:=pz;refine Hw (g.sl) λo ho hc n hd=>?_;have S:(c.heap.push {cls:=.type "slice",data:=.fields #[partValue ql,partValue qh,.none]}).IsList g.sa g.su.toArray:=⟨o,R3.hb _ _ ho,hc,n,hd⟩;have dL:=NF g.si X;have hp:slicePick g.su.toArray l h none=(fR g.su l h).toArray:=by unfold slicePick;rw[aZ];have:=rM g.su l h;rw[<-this];congr 1;apply ag (λf=>List.filterMap f _);funext i;simp
 refine tail_any S.typeIs slot_list_getitem.lookup (wpAny_getItem_list_slice S ⟨_,j,rfl,rfl⟩ p1 p2 .none (by simp) ?_ (by rw[aZ,<-dL.len];exact dp h0.2)) rfl;rw[hp];exact az _ (.loc H.mem.length) _ (((x1.trans y1).trans L).trans (Wd.aT _ _)) (R3.cE (o:=.list (fR (g.sn.map .int) l h)) ⟨fR g.su l h,0,rfl,(dL.cut l h).mono λ_ _=>VR.mono (Wd.aT _ _)⟩) R3.pushed Ca
end
noncomputable def aaO(g:G):List V->ad V:=L3 λM=>∀{lo ce Q}{me:List O},g.sn.length<=63->(∀cs X,s0 63 cs->Q (.loc me.length) ⟨lo,ce,me++[.list (cs.map aO),X]⟩)->M [.e_ (.ref g.sa)] ⟨lo,ce,me⟩ Q
section
noncomputable abbrev Wz (P:Params):df:=fb (KK P) 231 ["script","cells","place","number"] []
theorem WA(P:Params):cc (Wz P) ["enumerate"] .cell:=ik (by kernel_rfl)
noncomputable def Dl:ad Fl:=L2 λM=>∀{i:Nat}{n:Int}{cs:List Nat}{me:List O}{X:O}{s:Option V}{r:List (Option V)}{ce Q},cs.length=4->(∀m,m<1000000->Q .next ⟨s::some (.loc me.length)::some (.int i)::some (.int n)::r,ce,me++[.list ((cs.set (i % 4) ((cs[i % 4]?.getD 0)+m)).map aO),X]⟩)->M ⟨s::some (.loc me.length)::some (.int i)::some (.int n)::r,ce,me++[.list (cs.map aO),X]⟩ Q
theorem Sp(U:cD P g):NB g (Wz P) k (ru (cB (bh (KK P) 231) 1)) Dl:=by
 have H:=WA P;refine NB.c (NB.at' rfl (by exact(ab (vg kE (ai H 1 rfl) (cY lY (ai H 2 rfl) bv) (cY lY (ai H 3 rfl) bv) (ha:=by intros;rfl)) aC))) ?_;refine pO (@λi n cs me X s r ce Q hc h=>?_);refine bx (Ks n 1000000 (by decide)) λm hm e=>?_;have hi:i % 4<cs.length:=by rw[hc];exact eA _ (by decide)
 have e2:=bC hi;have e4:Int.fmod ((i:Nat):Int) 4=((i % 4:Nat):Int):=n8 i 4;refine bJ aR (by rw[e4];exact jr (eR (fM (eA i (by decide)) (by decide))) (by rw[bi,e2];rfl)) ?_;refine A7 aR (by rw[ax,hc];decide) e4 (by rw[ax];exact hi) ?_;rw[kK,show(V.int (((cs[i % 4]:Nat):Int)+Int.fmod n 1000000))=aO (cs[i % 4]+m) from ag V.int (by rw[show Int.fmod n 1000000=((m:Nat):Int) from e];rfl),<-List.map_set];have:=h m hm;rw[e2] at this;exact this
theorem Dm{ls:Nat}{s:Option V}{f:List (Option V)}(M:ls=me.length+1):∀(r:List Int)(i:Nat)(cs:List Nat)(x y:Option V),ns.drop i=r->i+r.length<=63->s0 i cs->(∀Yc x y,s0 (i+r.length) Yc->Q .next ⟨s::some (.loc me.length)::x::y::f,[],me++[.list (Yc.map aO),.list (ns.map .int)]⟩)-> gr (eX ls) (Ji 2 (vV (du 2) (vV (du 3) pe))) Dl (r.length+1) i ⟨s::some (.loc me.length)::x::y::f,[],me++[.list (cs.map aO),.list (ns.map .int)]⟩ Q:=λr=>by
 subst M;induction r with
 |nil=>exact λi cs x y hd hz hc h=>iM (Kt gx (by rw[bi,drop_nil hd];rfl)) (h cs x y hc)
 |cons n r T=>intro i cs x y hd hz hc h;refine xA (fC hd) λh1 h2=>?_;rw[aJ] at hz h;refine fm (ND gx (by rw[bi,h1];rfl)) ?_;refine λ_ E=>E hc.len λm hm=>?_;exact T (i+1) _ _ _ h2 (aQ [_,_] (.c 1 (.a (.v 0) (.a (.v 1) (.n 1))) (.n 63) .nil) 0 (.a (.a (.v 0) (.n 1)) (.v 1)) (.n 63) tt hz) (hc.step hm) (by rw[show i+1+r.length=i+(r.length+1) by exact fB [_,_] .nil 0 (.a (.a (.v 0) (.n 1)) (.v 1)) (.a (.v 0) (.a (.v 1) (.n 1))) tt tt];exact h)
theorem NI(U:cD P g):cO g (k+1) (.ref 231) (aaO g):=by
 have H:=WA P;refine lh U H (NB.at rfl (by exact(ab (aP H 1 rfl (eD (ae bv (ae bv (ae bv (ae bv ay)))))) (ab (Jl (bG U H 0 0 rfl rfl (by kernel_rfl)) (NH (ai H 0 rfl) iH (gI bv)) (dz (b8 H 2 rfl) (dz (b8 H 3 rfl) lF)) (Sp U) (z:=by intro _ _;rfl) (M:=by intro _;rfl) (cn:=by intro _;rfl) (T:=by intro _;rfl) (i:=by intro _ _;rfl)) (ab (cP (ai H 1 rfl)) aC))))) [] [] (λ_=>.nil) rfl (by kernel_rfl) (λa S=>rfl) ?_;refine kW (@λlo ce Q me hz h=>?_);generalize g.sn=ns at *;refine⟨_,rfl,?_⟩;refine o3 ?_;refine b_ (by rw[cM (by rw[ax];exact aQ [_] (.c 1 (.v 0) (.n 63) .nil) 0 (.v 0) (.n 10000) tt hz),Bool.and_true];exact hZ _) ?_;have ec:fR (ns.map V.int) none (some 63)=ns.map V.int:=by refine(?_ :((ns.map V.int).drop 0).take (min 63 (ns.map V.int).length-0)=_);rw[gV,Nat.sub_zero,j9 (by rw[ax];exact hz),List.take_length]
 refine(?_ :∃m,gr (eX (me++[O.list ([13610,298,759,457].map aO)]).length) (Ji 2 (vV (du 2) (vV (du 3) pe))) Dl m 0 ⟨some (.e_ (.ref g.sa))::some (.loc me.length)::none::none::[none],[],(me++[O.list ([13610,298,759,457].map aO)])++[O.list (fR (ns.map V.int) none (some 63))]⟩ (rH (aV (ao (dX 1) vd) (c8 .next)) λfl a9=>Q (nF fl) ⟨lo,ce,a9.mem⟩));rw[ec,sf];refine⟨ns.length+1,Dm (by rw[ak];rfl) ns 0 [13610,298,759,457] none none rfl (by rw[eQ];exact hz) ⟨rfl,by decide⟩ λYc x y hc=>h Yc _ ⟨hc.len,λc f=>am (hc.le c f) (by rw[eQ];exact Nat.add_le_add_left (oF _ hz) _)⟩⟩
end
inductive Ev where
 |st (o:Option Bool) (l:Lc) (more:Nat)
 |en (o:Option Bool) (l:Lc)
 |da (aeo:Nat) (vX:Str)
noncomputable def vY:Ev->List V
 | .st o l m=>[.str "start",.str (eO o l),aO m]
 | .en o l=>[.str "end",.str (eO o l),.int 0]
 | .da w g=>[.str "data",aO w,.str g]
abbrev kN:=List (Option Bool×Lc)
noncomputable def A8(s:kN):List V:=s.reverse.map λp=>.str (eO p.1 p.2)
theorem sx(p:Option Bool×Lc)(s:kN):A8 (p::s)=A8 s++[.str (eO p.1 p.2)]:=by unfold A8;simp
theorem kO(s:kN):(A8 s).length=s.length:=by unfold A8;simp
noncomputable def fY:Nat->Option Bool×Lc
 |0=>(none,.a)
 |1=>(none,.b)
 |2=>(some false,.a)
 |3=>(some false,.b)
 |4=>(some true,.a)
 |_=>(some true,.b)
noncomputable def q8:Nat->Str
 |0=>gK 32
 |1=>gK 10
 |_=>gK 9
noncomputable def lH(vX:Str)(l:kN):List Ev:=l.flatMap λp=>[.en p.1 p.2,.da 0 vX]
noncomputable def dY(c:Nat)(s:kN):Nat:=c / 648 % s.length
noncomputable def mR(c:Nat)(s:kN):List Ev:=lH (q8 (c / 216 % 3)) (s.take (dY c s))++[.st (fY (c % 6)).1 (fY (c % 6)).2 (c / 6 % 6),.da (c / 36 % 6) (q8 (c / 216 % 3))]
noncomputable def iS(c:Nat)(s:kN):kN:=fY (c % 6)::s.drop (dY c s)
noncomputable def m_:kN->List Ev
 | []=>[]
 |p::s=>.en p.1 p.2::(bif s.isEmpty then m_ s else .da 0 " "::m_ s)
noncomputable def evs:List Nat->kN->List Ev
 | [],s=>m_ s
 |c::cs,s=>mR c s++evs cs (iS c s)
noncomputable def eb(me:List O)(lv:List V)(s:kN)(r:List O):List O:=me++(.list lv:: .list (A8 s)::r)
def mS(N:Nat)(r:List O)(lv:List V)(es:List Ev):Prop:=aE (λv e=>∃t,v= .loc (N+t)/\r[t]?=some (.tup (vY e))) lv es
section
variable {lv:List V}{s:kN}
theorem mS.more{es:List Ev}(h:mS N r lv es)(xs:List O):mS N (r++xs) lv es:=aE.mono (λ_ _ ⟨t,e,h⟩=>⟨t,e,ac h⟩) h
theorem mS.add{es:List Ev}(h:mS N r lv es)(e:Ev):mS N (r++[O.tup (vY e)]) (lv++[V.loc (N+r.length)]) (es++[e]):=aE.append (h.more _) (.cons ⟨_,rfl,aR⟩ .nil)
theorem vF:(eb me lv s r)[me.length]?=some (.list lv):=aR
theorem s5:(eb me lv s r)[me.length+1]?=some (.list (A8 s)):=gx
theorem Dn{xs:List O}:eb me lv s r++xs=eb me lv s (r++xs):=by unfold eb;rw[au];rfl
theorem Sq:(eb me lv s r).length=me.length+2+r.length:=by unfold eb;rw[ak,aJ,aJ];exact fB [_,_] .nil 0 (.a (.v 0) (.a (.a (.v 1) (.n 1)) (.n 1))) (.a (.a (.v 0) (.n 2)) (.v 1)) tt tt
theorem Sr{kl:List V}:(eb me lv s r).set me.length (.list kl)=eb me kl s r:=kK
theorem ES{s':kN}:(eb me lv s r).set (me.length+1) (.list (A8 s'))=eb me lv s' r:=vm
theorem vG{lo:List (Option V)}{Q:V->St->Prop}(e:Ev)(hz:lv.length<=1000)(q:Q .none ⟨lo,ce,eb me (lv++[V.loc (me.length+2+r.length)]) s (r++[O.tup (vY e)])⟩):aA (dC (eb me lv s r++[O.tup (vY e)]) (.loc me.length)) λp=>gd (bw p.2.length) (Q .none ⟨lo,ce,(eb me lv s r++[O.tup (vY e)]).set p.1 (.list (p.2++[V.loc (eb me lv s r).length]))⟩):=lj (ac vF) (am hz (by decide)) (by rw[Dn,Sr,Sq]) q
theorem Ku{lo:List (Option V)}{p:Option Bool×Lc}{Q:V->St->Prop}(hz:s.length<=1000)(q:Q (.str (eO p.1 p.2)) ⟨lo,ce,eb me lv s r⟩):aA (dC (eb me lv (p::s) r) (.loc (me.length+1))) λx=>gd (bw x.2.length) (aA (zN x.2) λq=>Q q.2 ⟨lo,ce,(eb me lv (p::s) r).set x.1 (.list q.1)⟩):=qV (by rw[<-sx];exact s5) (by rw[kO];exact hz) (by rw[ES];exact q)
end
noncomputable def Do:ad Fl:=L2 λM=>∀{me r:List O}{lv:List V}{s:kN}{p:Option Bool×Lc}{vX:Str}{x0 x3:Option V}{r5:List (Option V)}{ce Q},lv.length<=900->s.length<=1000->Q .next ⟨x0::some (.loc me.length)::some (.loc (me.length+1))::x3::some (.str vX)::r5,ce,eb me ((lv++[V.loc (me.length+2+r.length)])++[V.loc (me.length+2+(r++[O.tup (vY (.en p.1 p.2))]).length)]) s ((r++[O.tup (vY (.en p.1 p.2))])++[O.tup (vY (.da 0 vX))])⟩->
 M ⟨x0::some (.loc me.length)::some (.loc (me.length+1))::x3::some (.str vX)::r5,ce,eb me lv (p::s) r⟩ Q
section
noncomputable abbrev NK (P:Params):df:=fb (KK P) 245 ["cells","events","opened","cell","gap","step"] []
theorem NM(P:Params):cc (NK P) ["range","len","_law_names"] .cell:=ik (by kernel_rfl)
theorem Ss(U:cD P g):NB g (NK P) k (ru (cB (ru (cB (ru (cB (bh (KK P) 245) 2)) 1)) 0)) Do:=by have H:=NM P;refine NB.c (NB.at' rfl (by exact(ab (cZ (bZ .list bD cJ b0 bB (ai H 1 rfl) (ae (ng (ae bz (ae (bZ .list bD kt jX oO (ai H 2 rfl) ay) (ae bv ay)))) ay))) (ab (cZ (bZ .list bD cJ b0 bB (ai H 1 rfl) (ae (ng (ae bz (ae bv (ae (ai H 4 rfl) ay)))) ay))) aC)))) ?_;refine pO (@λme r lv s p vX x0 x3 r5 ce Q hz M h=>?_);refine b_ (bk vF) ?_;refine b_ (bk s5) ?_;refine Ku M ?_;refine vG (.en p.1 p.2) (am hz (by decide)) ?_;refine b_ (bk vF) ?_;refine vG (.da 0 vX) (by rw[ak];exact am (dQ hz 1) (by decide)) ?_;exact h
end
theorem Dq(n:Nat):Builtin.Range.rangeSize 0 ((n:Nat):Int) 1=((n:Nat):Int):=by
 unfold Builtin.Range.rangeSize;rw[a6 (by decide)];by_cases h:(0:Int)<((n:Nat):Int)
 ·rw[a6 h,Int.ediv_one];omega
 ·rw[aH h];omega
theorem yx{n:Nat}(h:i<n):gB 0 ((n:Nat):Int) 1 σ i=some (some (.int (0+(i:Int)*1))):=by unfold gB;rw[Dq,Int.toNat_natCast,show Nat.blt i n=true from d8 h];rfl
theorem tV{n:Nat}(h:n<=i):gB 0 ((n:Nat):Int) 1 σ i=some none:=by unfold gB;rw[Dq,Int.toNat_natCast,show Nat.blt i n=false from Bool.eq_false_iff.mpr λe=>Nat.not_lt.mpr h (aU e)];rfl
theorem Kv{n:Nat}(h:n<=10000):Builtin.Range.rangeFitsLong ((n:Nat):Int)=true:=by unfold Builtin.Range.rangeFitsLong;simp;omega
theorem s6{n:Nat}(h:n<=10000):Builtin.Range.small 0 ((n:Nat):Int) 1=true:=by unfold Builtin.Range.small;rw[Dq,Kv h,show((n:Nat):Int)+(1-1)=((n:Nat):Int) from Int.add_zero _,Kv h];cases ((n:Nat):Int)==0<;>rfl
theorem Dr{vX:Str}{x0 x3:Option V}{r6:List (Option V)}{n:Nat}:∀(m i:Nat)(s:kN)(lv:List V)(r:List O)(es:List Ev)(y:Option V),i+m=n->m<=s.length->s.length<=1000->lv.length+2*m<=900->mS (me.length+2) r lv es-> (∀kl r' y,mS (me.length+2) r' kl (es++lH vX (s.take m))->Q .next ⟨x0::some (.loc me.length)::some (.loc (me.length+1))::x3::some (.str vX)::y::r6,[],eb me kl (s.drop m) r'⟩)-> gr (gB 0 ((n:Nat):Int) 1) (du 5) Do (m+1) i ⟨x0::some (.loc me.length)::some (.loc (me.length+1))::x3::some (.str vX)::y::r6,[],eb me lv s r⟩ Q:=λm=>by
 induction m with
 |zero=>intro i s lv r es y hi hm M hz he h;refine iM (tV (fN hi.symm)) ?_;have:=h lv r y (by rw[List.take_zero];exact(aS es).symm▸he);rw[gV] at this;exact this
 |succ m T=>
  intro i s lv r es y hi hm M hz he h;cases s with
  |nil=>cases hm
  |cons p s=>
   rw[aJ] at hm M;refine fm (yx (aQ [_,_,_] (.e 1 (.a (.v 0) (.a (.v 1) (.n 1))) (.v 2) .nil) 0 (.a (.v 0) (.n 1)) (.v 2) tt hi)) ?_;refine λ_ E=>E (aQ [_,_] (.c 1 (.a (.v 0) (.m 2 (.a (.v 1) (.n 1)))) (.n 900) .nil) 0 (.v 0) (.n 900) tt hz) (ir M) ?_;have Su:=(he.add (.en p.1 p.2)).add (.da 0 vX);rw[show(es++[Ev.en p.1 p.2])++[Ev.da 0 vX]=es++[Ev.en p.1 p.2,.da 0 vX] by simp] at Su;refine T (i+1) s _ _ _ _ (fB [_,_,_] (.e 1 (.a (.v 0) (.a (.v 1) (.n 1))) (.v 2) .nil) 0 (.a (.a (.v 0) (.n 1)) (.v 1)) (.v 2) tt tt hi) (ow hm) (ir M) ?_ Su λkl r' y D=>h kl r' y ?_
   ·rw[ak,ak];refine(?_ :lv.length+1+1+2*m<=900);exact aQ [_,_] (.c 1 (.a (.v 0) (.m 2 (.a (.v 1) (.n 1)))) (.n 900) .nil) 0 (.a (.a (.a (.v 0) (.n 1)) (.n 1)) (.m 2 (.v 1))) (.n 900) tt hz
   ·rw[au] at D;exact D
end
section
variable {D:cR}{e:Ev}{Q:Fl->St->Prop}{g:G}{l:Lc}{q9 r6:List (Option V)}{es:List Ev}{ce:List Nat}{me r r':List O}{left ts:List Str}{vs xs:List V}{N b k m:Nat}{o:Option Bool}{x0 x1 s7 q_ re x2 x3:Option V}{P:Params}{u v:V}{c:Wr}
theorem ET{lv:List V}{s:kN}{A B:Prop}(hz:s.length<=1000)(q:br (!(Nat.beq s.length 0)) A B):HM (eb me lv s r)[me.length+1]? λb=>br b A B:=qU s5 (by rw[kO];exact aQ [_] (.c 1 (.v 0) (.n 1000) .nil) 0 (.v 0) (.n 10000) tt hz) (by rw[kO];exact q)
theorem pW(vX:Str)(l:kN):(lH vX l).length=2*l.length:=by
 induction l with
 |nil=>rfl
 |cons p l T=>refine(?_ :(lH vX l).length+1+1=_);rw[T,aJ];exact fB [_] .nil 0 (.a (.a (.m 2 (.v 0)) (.n 1)) (.n 1)) (.m 2 (.a (.v 0) (.n 1))) tt tt
noncomputable def Ds:ad Fl:=L2 λM=>∀{me r:List O}{lv:List V}{s:kN}{p:Option Bool×Lc}{x0:Option V}{f:List (Option V)}{ce Q},lv.length<=900->s.length<=1000->
 br (!(Nat.beq s.length 0)) (Q .next ⟨x0::some (.loc me.length)::some (.loc (me.length+1))::f,ce,eb me ((lv++[V.loc (me.length+2+r.length)])++[V.loc (me.length+2+(r++[O.tup (vY (.en p.1 p.2))]).length)]) s ((r++[O.tup (vY (.en p.1 p.2))])++[O.tup (vY (.da 0 " "))])⟩)
 (Q .next ⟨x0::some (.loc me.length)::some (.loc (me.length+1))::f,ce,eb me (lv++[V.loc (me.length+2+r.length)]) s (r++[O.tup (vY (.en p.1 p.2))])⟩)->
 M ⟨x0::some (.loc me.length)::some (.loc (me.length+1))::f,ce,eb me lv (p::s) r⟩ Q
noncomputable def Dt:ad Fl:=L2 λM=>∀{me r:List O}{lv:List V}{s:kN}{es:List Ev}{c:Nat}{x0:Option V}{x4 x5:Option V}{r6:List (Option V)}{Q},lv.length<=800->s.length<=40->mS (me.length+2) r lv es->
 (∀kl r' x4 x5,mS (me.length+2) r' kl (es++mR c s)->Q .next ⟨x0::some (.loc me.length)::some (.loc (me.length+1))::some (aO c)::x4::x5::r6,[],eb me kl (iS c s) r'⟩)->
 M ⟨x0::some (.loc me.length)::some (.loc (me.length+1))::some (aO c)::x4::x5::r6,[],eb me lv s r⟩ Q
theorem Sv{c:Nat}(h:c<3):∃k,uj ((" \n\t":Str).cps.toList) ((c:Nat):Int)=some k/\(⟨#[k]⟩:Str)=q8 c:=by
 match c,h with
 |0,_=>exact⟨32,by decide+kernel,rfl⟩
 |1,_=>exact⟨10,by decide+kernel,rfl⟩
 |2,_=>exact⟨9,by decide+kernel,rfl⟩
theorem NO{c:Nat}(h:c<6):uj nW ((c:Nat):Int)=some (.str (eO (fY c).1 (fY c).2)):=by
 match c,h with
 |0,_=>rfl
 |1,_=>rfl
 |2,_=>rfl
 |3,_=>rfl
 |4,_=>rfl
 |5,_=>rfl
theorem EU{lv:List V}{s:kN}{lo:List (Option V)}{Q:V->St->Prop}(e:Ev)(B:xs=vY e)(hz:lv.length<=1000)(q:Q .none ⟨lo,ce,eb me (lv++[V.loc (me.length+2+r.length)]) s (r++[O.tup (vY e)])⟩):aA (dC (eb me lv s r++[O.tup xs]) (.loc me.length)) λp=>gd (bw p.2.length) (Q .none ⟨lo,ce,(eb me lv s r++[O.tup xs]).set p.1 (.list (p.2++[V.loc (eb me lv s r).length]))⟩):=by subst B;exact vG e hz q
def EV:ad Fl:=aV (ao (ao (dX 2) λb=>XT (λσ=>v6 σ.mem b Ty.list) (ao (ao (ao (ao (c8 []) Vy) λa=>ao (ao (dX 3) λa=>ao (eH (V.int 6)) (HL a)) (sF a)) λv=>ao (c8 []) (iV v)) (wO gC b))) k_)
  (aV (ao (ao (dX 1) λb=>XT (λσ=>v6 σ.mem b Ty.list) (ao (ao (ao (ao (eH (V.str "start")) λv=>ao (ao (ao (dX 2) λa=>ao (eH (V.int (-1))) (sF a)) λv=>ao (ao (ao (ao (dX 3) λa=>ao (eH (V.int 6)) (oK a)) λa=>ao (eH (V.int 6)) (HL a)) λv=>ao (c8 []) (iV v)) (iV v)) (iV v)) oM) λv=>ao (c8 []) (iV v)) (wO gC b))) k_)
   (aV (ao (ao (dX 1) λb=>XT (λσ=>v6 σ.mem b Ty.list) (ao (ao (ao (ao (eH (V.str "data")) λv=>ao (ao (ao (ao (dX 3) λa=>ao (eH (V.int 36)) (oK a)) λa=>ao (eH (V.int 6)) (HL a)) λv=>ao (ao (dX 4) λv=>ao (c8 []) (iV v)) (iV v)) (iV v)) oM) λv=>ao (c8 []) (iV v)) (wO gC b))) k_)
    (c8 Fl.next)))
theorem dm(c a b:Nat):Int.fmod (Int.fdiv ((c:Nat):Int) ((a:Nat):Int)) ((b:Nat):Int)=((c / a % b:Nat):Int):=by rw[q7];exact n8 _ b
theorem NQ{lv:List V}{s:kN}{c:Nat}{x5:Option V}(hz:lv.length<=900)(M:s.length<=50)(he:mS (me.length+2) r lv es)(h:∀kl r',mS (me.length+2) r' kl (es++[.st (fY (c % 6)).1 (fY (c % 6)).2 (c / 6 % 6),.da (c / 36 % 6) (q8 m)])->Q .next ⟨x0::some (.loc me.length)::some (.loc (me.length+1))::some (aO c)::some (.str (q8 m))::x5::r6,[],eb me kl (fY (c % 6)::s) r'⟩):EV ⟨x0::some (.loc me.length)::some (.loc (me.length+1))::some (aO c)::some (.str (q8 m))::x5::r6,[],eb me lv s r⟩ Q:=by have L:Int.fmod ((c:Nat):Int) 6=((c % 6:Nat):Int):=n8 c 6;refine b_ (bk s5) ?_;refine λ_ E=>E ?_;refine bJ aR (by rw[L];exact NO (eA _ (by decide))) ?_;refine lj (ac s5) (by rw[kO];exact aQ [_] (.c 1 (.v 0) (.n 50) .nil) 0 (.v 0) (.n 10000) tt M) (by rw[Dn,<-sx,ES]) ?_;refine b_ (bk vF) ?_;refine bJ (by rw[<-sx];exact s5) (nZ (by rw[kO];exact aQ [_] (.c 1 (.v 0) (.n 50) .nil) 0 (.v 0) (.n 1000) tt M)) ?_;refine EU (.st (fY (c % 6)).1 (fY (c % 6)).2 (c / 6 % 6)) (by refine ag (λx=>[V.str "start",_,V.int x]) ?_;exact dm c 6 6) (am hz (by decide)) ?_;refine b_ (bk vF) ?_;refine EU (.da (c / 36 % 6) (q8 m)) (by refine ag (λx=>[V.str "data",V.int x,_]) ?_;exact dm c 36 6) (by rw[ak];exact am (dQ hz 1) (by decide)) ?_;refine h _ _ ?_;have:=(((he.more [O.list nW]).add (.st (fY (c % 6)).1 (fY (c % 6)).2 (c / 6 % 6))).add (.da (c / 36 % 6) (q8 m)));rw[show ∀(a b:Ev),(es++[a])++[b]=es++[a,b] from λa b=>by simp] at this;exact this
theorem Kw{o:Option O}{a b c:Int}{K:(Int×Int×Int)->Prop}{B:Int->Int->Int->Bool}(h:o=some (.rng a b c))(M:B a b c=true)(q:K (a,b,c)):aA (zM o) λp=>gd (B p.1 p.2.1 p.2.2) (K p):=by subst h;exact b_ M q
theorem yy{lo:List (Option V)}{l n:Nat}{As:V->ad Unit}{Wb:ad Fl}(h:me[l]?=some (.rng 0 ((n:Nat):Int) 1))(hn:n<=10000)(f:Nat)(q:gr (gB 0 ((n:Nat):Int) 1) As Wb f 0 ⟨lo,ce,me⟩ Q):Jh As Wb (.loc l) ⟨lo,ce,me⟩ Q:=by refine av rfl ?_;exact Kw h (s6 hn) ⟨f,q⟩
def Sw:ad Fl:=ao (ao (ao (ao (ao (dX 3) λa=>ao (eH (V.int 648)) (oK a)) λa=>ao (ao (ao (dX 2) λv=>ao (c8 []) (iV v)) Ut) (HL a)) λv=>ao (c8 []) (iV v)) DW) (Jh (du 5) Do)
theorem Kx{lv:List V}{s:kN}{c n0:Nat}{vX:Str}{y:Option V}(Yd:s.length=n0+1)(hz:lv.length<=800)(M:s.length<=40)(he:mS (me.length+2) r lv es)(h:∀kl r' y,mS (me.length+2) r' kl (es++lH vX (s.take (dY c s)))->Q .next ⟨x0::some (.loc me.length)::some (.loc (me.length+1))::some (aO c)::some (.str vX)::y::r6,[],eb me kl (s.drop (dY c s)) r'⟩):Sw ⟨x0::some (.loc me.length)::some (.loc (me.length+1))::some (aO c)::some (.str vX)::y::r6,[],eb me lv s r⟩ Q:=by have dP:dY c s<s.length:=eA _ (aQ [_,_] (.f 1 (.v 0) (.a (.v 1) (.n 1)) .nil) 0 (.a (.n 0) (.n 1)) (.v 0) tt Yd);refine eG s5 (by rw[kO];exact aQ [_] (.c 1 (.v 0) (.n 40) .nil) 0 (.v 0) (.n 10000) tt M) ?_;rw[kO];refine b_ (by rw[Yd];rfl) ?_;have aaP:Int.fmod (Int.fdiv ((c:Nat):Int) 648) ((s.length:Nat):Int)=((dY c s:Nat):Int):=dm c 648 s.length;refine yy (by rw[aR,aaP]) (am (eR dP) (am M (by decide))) (dY c s+1) ?_;have:=Dr (dY c s) 0 s lv (r++[O.rng 0 (Int.fmod (Int.fdiv ((c:Nat):Int) 648) ((s.length:Nat):Int)) 1]) es y (eQ _) (eR dP) (am M (by decide)) (by exact aQ [_,_,_] (.c 1 (.v 0) (.n 800) (.c 2 (.a (.v 1) (.n 1)) (.v 2) (.c 2 (.v 2) (.n 40) .nil))) 0 (.a (.v 0) (.m 2 (.v 1))) (.n 900) tt hz dP M) (he.more _) h;rw[<-Dn] at this;exact this
section
theorem Sx(U:cD P g):NB g (NK P) k (ru (cB (bh (KK P) 245) 3)) Ds:=by have H:=NM P;refine NB.c (NB.at' rfl (by exact(ab (cZ (bZ .list bD cJ b0 bB (ai H 1 rfl) (ae (ng (ae bz (ae (bZ .list bD kt jX oO (ai H 2 rfl) ay) (ae bv ay)))) ay))) (ab (ii (a7 (ai H 2 rfl)) (ab (cZ (bZ .list bD cJ b0 bB (ai H 1 rfl) (ae (ng (ae bz (ae bv (ae bz ay)))) ay))) aC) aC) aC)))) ?_;refine pO (@λme r lv s p x0 f ce Q hz M h=>?_);refine b_ (bk vF) ?_;refine b_ (bk s5) ?_;refine Ku M ?_;refine vG (.en p.1 p.2) (am hz (by decide)) ?_;refine ET M ?_;refine qK h (λh=>?_) id;refine b_ (bk vF) ?_;refine vG (.da 0 " ") (by rw[ak];exact am (dQ hz 1) (by decide)) ?_;exact h
theorem Sy(U:cD P g):NB g (NK P) (k+1) (ru (cB (bh (KK P) 245) 2)) Dt:=by
 have H:=NM P;refine NB.c (NB.at' rfl (by exact(ab (aP H 4 rfl (eM bz (cY lY (cY eC (ai H 3 rfl) bv) bv))) (ab (ii (a7 (ai H 2 rfl)) (ab (r4 (b7 (λ_ _ _=>fW) mA (bG U H 0 1 rfl rfl (by kernel_rfl)) (ae (cY lY (cY eC (ai H 3 rfl) bv) (b7 (λ_ _ _=>aX) eW (bG U H 1 2 rfl rfl (by kernel_rfl)) (ae (ai H 2 rfl) ay))) ay)) (b8 H 5 rfl) (Ss U) (z:=by intro _ _;rfl)) aC) aC) (ab (cZ (bZ .list bD cJ b0 bB (ai H 2 rfl) (ae (eM (b7 (g7 U (by kernel_rfl)) (Es U).ok (kU U H 2 1 rfl rfl) ay) (cY lY (ai H 3 rfl) bv)) ay))) (ab (cZ (bZ .list bD cJ b0 bB (ai H 1 rfl) (ae (ng (ae bz (ae (eM (ai H 2 rfl) GG) (ae (cY lY (cY eC (ai H 3 rfl) bv) bv) ay)))) ay))) (ab (cZ (bZ .list bD cJ b0 bB (ai H 1 rfl) (ae (ng (ae bz (ae (cY lY (cY eC (ai H 3 rfl) bv) bv) (ae (ai H 4 rfl) ay)))) ay))) aC))))))) ?_;refine pO (@λme r lv s es c x0 x4 x5 r6 Q hz M he h=>?_);refine bx (Sv (c:=c / 216 % 3) (eA _ (by decide))) λW e1 e2=>?_;have e3:Int.fmod (Int.fdiv ((c:Nat):Int) 216) 3=((c / 216 % 3:Nat):Int):=by rw[show(216:Int)=((216:Nat):Int) from rfl,q7];exact n8 _ 3
 refine av (by rw[e3];exact e1) ?_;rw[e2];have fin:∀(y:Option V)(kl:List V)(r':List O)(s':kN),iS c s=fY (c % 6)::s'->s'.length<=50->kl.length<=900->mS (me.length+2) r' kl (es++lH (q8 (c / 216 % 3)) (s.take (dY c s)))->EV ⟨x0::some (.loc me.length)::some (.loc (me.length+1))::some (aO c)::some (.str (q8 (c / 216 % 3)))::y::r6,[],eb me kl s' r'⟩ Q:=λy kl r' s' N j L D=>
  NQ L j D λWB d NR=>by rw[au] at NR;rw[<-N];exact h WB d _ _ NR
 refine ET (am M (by decide)) ?_;refine bu (λeb=>?_) (λeb=>?_)
 ·have Yd:s.length=(s.length-1)+1:=by
   cases Y:s.length with
   |zero=>rw[Y] at eb;exact nB eb
   |succ n=>rfl
  refine Kx Yd hz M he λkl r' y D=>?_;refine fin y kl r' (s.drop (dY c s)) rfl (by rw[cb];exact am (Nat.sub_le _ _) (am M (by decide))) ?_ D;have h1:=D.len;have h2:=he.len;rw[ak,pW,jx] at h1;have:=lW (dY c s) s.length;exact aQ [_,_,_,_,_] (.e 1 (.v 0) (.a (.v 1) (.m 2 (.v 2))) (.f 1 (.v 3) (.v 1) (.c 1 (.v 3) (.n 800) (.c 2 (.v 2) (.v 4) (.c 2 (.v 4) (.n 40) .nil))))) 0 (.v 0) (.n 900) tt h1 h2 hz this M
 ·have hs0:s=[]:=by
   cases s with
   |nil=>rfl
   |cons p s=>exact yU eb
  subst hs0;exact fin x5 lv r [] (by unfold iS;rw[List.drop_nil]) (aW _) (am hz (by decide)) (by rw[List.take_nil];exact(aS es).symm▸he)
end
noncomputable def aaR:List V->ad V:=L3 λM=>∀{l:Nat}{cs:List Nat}{lo ce Q}{me:List O},me[l]?=some (.list (cs.map aO))->cs.length=4->(∀lv r,mS (me.length+2) r lv (evs cs [])->Q (.loc me.length) ⟨lo,ce,eb me lv [] r⟩)->M [.loc l] ⟨lo,ce,me⟩ Q
theorem Ky{f:List (Option V)}:∀(s:kN)(lv:List V)(r:List O)(es:List Ev),lv.length+2*s.length<=900->mS (me.length+2) r lv es-> (∀kl r',mS (me.length+2) r' kl (es++m_ s)->Q .next ⟨x0::some (.loc me.length)::some (.loc (me.length+1))::f,[],eb me kl [] r'⟩)-> mv (ao (dX 2) nr) Ds (s.length+1) ⟨x0::some (.loc me.length)::some (.loc (me.length+1))::f,[],eb me lv s r⟩ Q:=λs=>by
 induction s with
 |nil=>intro lv r es _ he h;refine ET (aW _) ?_;exact h lv r ((aS es).symm▸he)
 |cons p s T=>
  intro lv r es hz he h;rw[aJ] at hz;refine ET (by rw[aJ];exact aQ [_,_] (.c 1 (.a (.v 0) (.m 2 (.a (.v 1) (.n 1)))) (.n 900) .nil) 0 (.a (.v 1) (.n 1)) (.n 1000) tt hz) ?_;refine λ_ E=>E (aQ [_,_] (.c 1 (.a (.v 0) (.m 2 (.a (.v 1) (.n 1)))) (.n 900) .nil) 0 (.v 0) (.n 900) tt hz) (aQ [_,_] (.c 1 (.a (.v 0) (.m 2 (.a (.v 1) (.n 1)))) (.n 900) .nil) 0 (.v 1) (.n 1000) tt hz) ?_;refine bu (λeb=>?_) (λeb=>?_)
  ·have e1:m_ (p::s)=[.en p.1 p.2,.da 0 " "]++m_ s:=by
    cases s with
    |nil=>exact nB eb
    |cons q s=>rfl
   rw[e1] at h;refine T _ _ ((es++[.en p.1 p.2])++[.da 0 " "]) (by rw[ak,ak];refine(?_ :lv.length+1+1+2*s.length<=900);exact aQ [_,_] (.c 1 (.a (.v 0) (.m 2 (.a (.v 1) (.n 1)))) (.n 900) .nil) 0 (.a (.a (.a (.v 0) (.n 1)) (.n 1)) (.m 2 (.v 1))) (.n 900) tt hz) ((he.add (.en p.1 p.2)).add (.da 0 " ")) λkl r' D=>h kl r' ?_;rw[au,au] at D;exact D
  ·have hs0:s=[]:=by
    cases s with
    |nil=>rfl
    |cons p s=>exact yU eb
   subst hs0;refine T _ _ (es++[.en p.1 p.2]) (by rw[ak];refine(?_ :lv.length+1+0<=900);exact aQ [_,_] (.c 1 (.a (.v 0) (.m 2 (.a (.v 1) (.n 1)))) (.n 900) .nil) 0 (.a (.a (.v 0) (.n 1)) (.n 0)) (.n 900) tt hz) (he.add (.en p.1 p.2)) λkl r' D=>h kl r' ?_;rw[au] at D;exact D
theorem Hb{l:Nat}{cs:List Nat}(h1:me[l]?=some (.list (cs.map aO))):∀(rs:List Nat)(i:Nat)(s:kN)(lv:List V)(r:List O)(es:List Ev)(x y z:Option V),cs.drop i=rs->i+rs.length<=20->s.length<=i->lv.length<=40*i->mS (me.length+2) r lv es-> (∀s' kl r' tN x y z,mS (me.length+2) r' kl tN->s'.length<=20->kl.length<=800->tN++m_ s'=es++evs rs s->Q .next ⟨x0::some (.loc me.length)::some (.loc (me.length+1))::x::y::z::r6,[],eb me kl s' r'⟩)-> gr (bj l) (du 3) Dt (rs.length+1) i ⟨x0::some (.loc me.length)::some (.loc (me.length+1))::x::y::z::r6,[],eb me lv s r⟩ Q:=λrs=>by
 induction rs with
 |nil=>intro i s lv r es x y z hd hi M hz he h;have Go:=hi;exact iM (ba (ac h1) (by rw[bi,drop_nil hd];rfl)) (h s lv r es x y z he (aQ [_,_,_] (.c 1 (.a (.v 0) (.v 1)) (.n 20) (.c 1 (.v 2) (.v 0) .nil)) 0 (.v 2) (.n 20) tt hi M) (aQ [_,_] (.c 1 (.v 0) (.m 40 (.v 1)) (.c 40 (.a (.v 1) (.n 0)) (.n 20) .nil)) 0 (.v 0) (.n 800) tt hz hi) rfl)
 |cons c rs T=>
  intro i s lv r es x y z hd hi M hz he h;refine xA (fC hd) λe1 e2=>?_;rw[aJ] at hi;refine fm (ba (ac h1) (by rw[bi,e1];rfl)) ?_;refine λ_ E=>E (aQ [_,_,_] (.c 1 (.v 0) (.m 40 (.v 1)) (.c 40 (.a (.v 1) (.a (.v 2) (.n 1))) (.n 20) .nil)) 0 (.v 0) (.n 800) tt hz hi) (aQ [_,_,_] (.c 1 (.a (.v 0) (.a (.v 1) (.n 1))) (.n 20) (.c 1 (.v 2) (.v 0) .nil)) 0 (.v 2) (.n 40) tt hi M) he λkl r' x4 x5 D=>?_;have j:=D.len;have Z:=he.len;have hc:=pW (q8 (c / 216 % 3)) (s.take (dY c s));rw[jx] at hc;rw[ak,show(mR c s).length=(lH (q8 (c / 216 % 3)) (s.take (dY c s))).length+2 from ak,hc] at j;have:=lW (dY c s) s.length;refine T (i+1) (iS c s) kl r' (es++mR c s) _ _ _ e2 (aQ [_,_] (.c 1 (.a (.v 0) (.a (.v 1) (.n 1))) (.n 20) .nil) 0 (.a (.a (.v 0) (.n 1)) (.v 1)) (.n 20) tt hi) ?_ (by exact aQ [_,_,_,_,_,_,_] (.e 1 (.v 0) (.a (.v 1) (.a (.m 2 (.v 2)) (.n 2))) (.f 1 (.v 3) (.v 1) (.c 1 (.v 3) (.m 40 (.v 4)) (.c 2 (.v 2) (.v 5) (.c 2 (.v 5) (.v 4) (.c 2 (.a (.v 4) (.a (.v 6) (.n 1))) (.n 20) .nil)))))) 0 (.v 0) (.m 40 (.a (.v 4) (.n 1))) tt j Z hz this M hi) D λs' WB d tN x y z X a2 a3 a4=>h s' WB d tN x y z X a2 a3 ?_
  ·refine(?_ :(s.drop (dY c s)).length+1<=_);rw[cb];exact lA (λq1 q2=>aQ [_,_,_,_] (.c 1 (.v 0) (.v 1) (.e 1 (.a (.v 2) (.v 3)) (.v 0) .nil)) 0 (.a (.v 2) (.n 1)) (.a (.v 1) (.n 1)) tt M q2) (λq1 q2=>aQ [_,_] (.e 1 (.v 0) (.n 0) .nil) 0 (.a (.v 0) (.n 1)) (.a (.v 1) (.n 1)) tt q2)
  ·rw[a4,au];rfl
section
theorem NU(U:cD P g):cO g (k+2) (.ref 245) aaR:=by have H:=NM P;refine lh U H (NB.at rfl (by exact(ab (aP H 1 rfl (eD ay)) (ab (aP H 2 rfl (eD ay)) (ab (mf (ai H 0 rfl) (b8 H 3 rfl) (Sy U)) (ab (xQ (a7 (ai H 2 rfl)) (Sx U)) (ab (cP (ai H 1 rfl)) aC))))))) [] [] (λ_=>.nil) rfl (by kernel_rfl) (λa S=>rfl) ?_;refine kW (@λl cs lo ce Q me h1 Z h=>?_);refine⟨_,rfl,?_⟩;refine o3 ?_;refine(?_ :∃m,gr (bj l) (du 3) Dt m 0 ⟨[some (.loc l),some (.loc me.length),some (.loc (me++[O.list []]).length),none,none,none,none],[],(me++[O.list []])++[O.list []]⟩ (rH (aV (Jg (ao (dX 2) nr) Ds) (aV (ao (dX 1) vd) (c8 .next))) λfl a9=>Q (nF fl) ⟨lo,ce,a9.mem⟩));rw[show(me++[O.list []]).length=me.length+1 from ak,show(me++[O.list []])++[O.list []]=eb me [] [] [] from sf];refine⟨cs.length+1,Hb h1 cs 0 [] [] [] [] none none none rfl (by rw[Z];decide) (aW _) (aW _) .nil λs' kl r' tN x y z he M hz e=>?_⟩;refine⟨s'.length+1,Ky s' kl r' tN (aQ [_,_] (.c 2 (.v 0) (.n 20) (.c 1 (.v 1) (.n 800) .nil)) 0 (.a (.v 1) (.m 2 (.v 0))) (.n 900) tt M hz) he λWB d NR=>h WB d ?_⟩;rw[e] at NR;exact NR
end
structure Pg where
 s:kN
 pc:List Str
 da:List Str
 seen:Bool
 dD:Nat
noncomputable def g8:kN->List (Option Bool)
 | []=>[]
 |p::s=>g8 s++[lG (g8 s) p.1]
noncomputable def ft:List Str:=["","1","<\"","\t\n","\\",">\\ &"]
noncomputable def cW:List Str:=["","x","a&b","\"a <\"","\\\"\r",">\\ p"]
noncomputable def n9(m:Nat):Option Str:=bif Nat.beq m 0 then none else ft[m]?
noncomputable def Kz(ex:Option (List Str))(dD:Nat)(x:Str):Bool:=match ex with
 |none=>false
 |some xs=>!(Nat.beq dD 0)||dN x xs
noncomputable def fl(p:Pg):List Str:=bif !(Nat.beq (dE p.da).length 0)&&p.seen then p.pc++[mN (dE p.da)] else p.pc
noncomputable def NV(w:Nat)(g:Str):Str:=bif Nat.beq w 0 then g else g++((cW[w]?).getD "")++g
noncomputable def cC(D:cR)(p:Pg):Ev->Pg
 | .st o l m=>bif Kz D.ex p.dD (eO o l) then {p with dD:=p.dD+1} else {p with s:=(o,l)::p.s,pc:=((fl p++[("<":Str)++bY D o l])++A1 (kM D (g8 p.s) o (n9 m)))++[(">":Str)],da:=[],seen:=true}
 | .en o l=>bif Nat.beq p.dD 0 then {p with s:=p.s.tail,pc:=fl p++[ml (bY D o l)],da:=[]} else {p with dD:=p.dD-1}
 | .da w g=>bif Nat.beq p.dD 0 then {p with da:=p.da++[NV w g]} else p
def KA(p:Pg):Ev->Prop
 | .st o l m=>l≠ .k/\m<6/\p.s.length<=8
 | .en o l=>p.dD=0->∃s',p.s=(o,l)::s'
 | .da w g=>w<6/\g.length<=1
structure NW(n:Nat)(p:Pg):Prop where
 da:p.da.length<=n
 tot:kX p.da<=10*n
 pc:p.pc.length<=10*n
 s:p.s.length<=10
structure mT(D:cR)(N:Nat)(p:Pg)(c:Wr)(r:List O):Prop where
 W:v_ D N c (g8 p.s) r
 pc:c.pc=p.pc
 da:c.da=p.da
 seen:c.seen=p.seen
 dD:c.dD=(p.dD:Int)
 dc:c.dc.length=p.s.length
 nz:c.nz.length=p.s.length
 pr:c.pr=p.s.length
theorem rh(s:kN):(g8 s).length=s.length:=by
 induction s with
 |nil=>rfl
 |cons p s T=>exact List.length_append.trans (by rw[T];rfl)
theorem mT.win{n:Nat}{p:Pg}(h:mT D N p c r)(b:NW n p)(hn:n<=100):V3 c:=⟨by rw[h.da];exact am b.da (aQ [_] (.c 1 (.v 0) (.n 100) .nil) 0 (.v 0) (.n 1000) tt hn),by rw[h.da];exact am b.tot (by omega),by rw[h.pc];exact am b.pc (by omega),by rw[h.pr];exact am b.s (by decide)⟩
theorem mT.fl{p:Pg}(h:mT D N p c r):(bp c).pc=fl p:=by unfold bp Mine.fl;dsimp only;rw[h.da,h.seen,h.pc]
theorem yz(n:Nat):(((n:Nat):Int)==0)=Nat.beq n 0:=by cases n<;>rfl
theorem mT.ig{p:Pg}(h:mT D N p c r):(c.dD==0)=Nat.beq p.dD 0:=by rw[h.dD];exact yz _
theorem mT.sk{p:Pg}(h:mT D N p c r)(x:Str):RT D c x=Kz D.ex p.dD x:=by
 unfold RT Kz;cases D.ex with
 |none=>rfl
 |some xs=>exact ag (λb=>!b||dN x xs) h.ig
theorem Sz(o:Option Bool)(s:kN)(l:Lc):∀x,o=some x->o∈g8 ((o,l)::s):=by
 rintro x rfl;refine(?_ :some x∈g8 s++[bif (g8 s).contains (some x) then none else some x]);cases e:(g8 s).contains (some x) with
 |true=>exact fG _ (List.contains_iff_mem.mp e)
 |false=>exact oB _ (List.mem_singleton.mpr rfl)
theorem Pk{α:Type}{xs:List α}{n:Nat}(h:xs.length=n+1):∃d j,xs=d++[j]/\d.length=n:=by
 rcases List.eq_nil_or_concat xs with rfl|⟨d,j,rfl⟩
 ·cases h
 ·exact⟨d,j,by simp,by simpa using h⟩
theorem mT.st{i j:Nat}{p:Pg}(h:mT D N p c r)(M:Kz D.ex p.dD (eO o l)=false)(Z:p.s.length<=8)(T:ni D N c (cF (mO c j) (bY D o l) (kM D (g8 p.s) o (n9 m)) i) (g8 p.s++[lG (g8 p.s) o]) r r'):mT D N (cC D p (.st o l m)) (cF (mO c j) (bY D o l) (kM D (g8 p.s) o (n9 m)) i) r':=by
 have e:cC D p (.st o l m)={p with s:=(o,l)::p.s,pc:=((Mine.fl p++[("<":Str)++bY D o l])++A1 (kM D (g8 p.s) o (n9 m)))++[(">":Str)],da:=[],seen:=true}:=by refine(?_ :(bif Kz D.ex p.dD (eO o l) then _ else _)=_);rw[M];rfl
 rw[e];have Pl:=h.nz;refine⟨⟨h.W.ok,T.R,by refine(?_ :(g8 p.s++[lG (g8 p.s) o]).length<=10);rw[ak,rh];exact dQ (am Z (by decide)) 1,?_⟩,?_,rfl,rfl,h.dD,?_,?_,?_⟩
 ·refine(?_ :(c.nz++[i]).length<=100);rw[ak,Pl];refine(?_ :_+1<=100);exact aQ [_] (.c 1 (.v 0) (.n 8) .nil) 0 (.a (.v 0) (.n 1)) (.n 100) tt Z
 ·refine(?_ :(((bp c).pc++_)++_)++_=_);rw[h.fl]
 ·refine(?_ :(c.dc++[j]).length=_);rw[ak,h.dc];rfl
 ·refine(?_ :(c.nz++[i]).length=_);rw[ak,h.nz];rfl
 ·exact ag (· +1) h.pr
theorem mT.en{p:Pg}{s':kN}{d0 z0:List Nat}{dn:Bool}{j i:Nat}(h:mT D N p c r)(M:p.s=(o,l)::s')(hi:p.dD=0)(hd:c.dc=d0++[j])(hn:c.nz=z0++[i])(R:RR D N (sj c (bY D o l) d0 z0 s'.length dn) (g8 s') r'):mT D N (cC D p (.en o l)) (sj c (bY D o l) d0 z0 s'.length dn) r':=by
 have e:cC D p (.en o l)={p with s:=p.s.tail,pc:=Mine.fl p++[ml (bY D o l)],da:=[]}:=by refine(?_ :(bif Nat.beq p.dD 0 then _ else _)=_);rw[hi];rfl
 rw[e,M];have Pl:=h.nz;have TQ:=h.dc;have d:=h.W.lv;rw[rh] at d;rw[M,aJ] at Pl TQ d;rw[hn,ak] at Pl;rw[hd,ak] at TQ;have h1:=fU Pl;refine⟨⟨h.W.ok,R,by refine(?_ :(g8 s').length<=10);rw[rh];exact aQ [_] (.c 1 (.a (.v 0) (.n 1)) (.n 10) .nil) 0 (.v 0) (.n 10) tt d,by refine(?_ :z0.length<=100);exact aQ [_,_] (.c 1 (.a (.v 0) (.n 1)) (.n 10) (.e 1 (.v 1) (.v 0) .nil)) 0 (.v 1) (.n 100) tt d h1⟩,?_,rfl,h.seen,h.dD,fU TQ,h1,rfl⟩;refine(?_ :(bp c).pc++_=_);rw[h.fl]
noncomputable def Ye(x0 x1 x2 x3 x6:Option V)(s d:Nat)(w:V)(xs:List V)(r:List (Option V)):List (Option V):=x0::x1::x2::x3::some (.loc (s+2))::some (.loc (d+2))::x6::some w::(xs.map some++r)
noncomputable def yA:ad Fl:=L2 λM=>∀{D:cR}{t0:O}{b:Bool}{b2 r:List O}{c:Wr}{p:Pg}{n s d:Nat}{e:Ev}{x0 x1 x2 x3 x6:Option V}{LO:List (Option V)}{Q},mT D (D.N (bs t0 b b2).length) p c r->NW n p->n<=100->KA p e->(∀xs,D.ex=some xs->xs.length<=30)->b2[s]?=some (.list (ft.map .str))->b2[d]?=some (.list (cW.map .str))->
 (∀b' c' r',mT D (D.N (bs t0 b' b2).length) (cC D p e) c' r'->Q .next ⟨Ye x0 x1 x2 x3 x6 s d (bW (bs t0 b' b2)) (vY e) LO,[],mm D (bs t0 b' b2) c' r'⟩)->
 M ⟨Ye x0 x1 x2 x3 x6 s d (bW (bs t0 b b2)) (vY e) LO,[],mm D (bs t0 b b2) c r⟩ Q
theorem KB(m:Nat)(v:Str)(e:n9 m=some v):v.length<=10:=by
 unfold n9 at e;have hv:v∈ft:=by
  cases m with
  |zero=>exact nS e
  |succ m=>exact ef e
 exact(by decide+kernel:∀x∈ft,x.length<=10) v hv
theorem ni.less{c':Wr}{kl:List (Option Bool)}{xs:List O}(T:ni D N c c' kl (r++xs) r'):ni D N c c' kl r r':=⟨T.R,λj o h n=>T.keep j o (ac h) n,am (by rw[ak];exact gR _ _) T.le⟩
theorem v_.dD{lv:List (Option Bool)}(W:v_ D N c lv r)(i:Int):v_ D N {c with dD:=i} lv r:=⟨W.ok,W.R.wr rfl rfl,W.lv,W.nz⟩
section
noncomputable abbrev WC (P:Params):df:=fb (KK P) 257 ["events","one","two","left_out","values","texts","pieces","writer","kind","what","more"] []
theorem WD(P:Params):cc (WC P) ["C14NWriterTarget","_law_walk"] .cell:=ik (by kernel_rfl)
theorem SA(U:cD P g):NB g (WC P) (k+5) (ru (cB (bh (KK P) 257) 7)) yA:=by
 have H:=WD P;refine NB.c (NB.at' rfl (by exact(ab (ii (aN gq (ai H 8 rfl) bz) (ab (cZ (iL U (cA U) (by kernel_rfl) (by kernel_rfl) (by kernel_rfl) (Nr U).ok (ai H 7 rfl) (ae (ai H 9 rfl) (ae (iG (a7 (ai H 10 rfl)) (Rv (xT bz (eM (ai H 4 rfl) (ai H 10 rfl)) Jt)) CL) ay)))) aC) (ab (ii (aN gq (ai H 8 rfl) bz) (ab (cZ (iL U (cA U) (by kernel_rfl) (by kernel_rfl) (by kernel_rfl) (Nt U).ok (ai H 7 rfl) (ae (ai H 9 rfl) ay))) aC) (ab (cZ (iL U (cA U) (by kernel_rfl) (by kernel_rfl) (by kernel_rfl) (RD U).ok (ai H 7 rfl) (ae (iG (a7 (ai H 9 rfl)) (cY f_ (cY f_ (ai H 10 rfl) (eM (ai H 5 rfl) (ai H 9 rfl))) (ai H 10 rfl)) (ai H 10 rfl)) ay))) aC)) aC)) aC))) ?_;refine pO (@λD t0 b b2 r c p n s d e x0 x1 x2 x3 x6 LO Q hp hb hn he B hv ht h=>?_);have hI:=hp.win hb hn;cases e with
 |st o l m=>
  refine t_ he λZ hm M=>?_;try clear he
  refine nX D (bs t0 b b2) c r (by kernel_rfl) ?_;have fin:V4 [bW (bs t0 b b2),.str (eO o l),.loc (D.N (bs t0 b b2).length+r.length)] ⟨Ye x0 x1 x2 x3 x6 s d (bW (bs t0 b b2)) [.str "start",.str (eO o l),aO m] LO,[],mm D (bs t0 b b2) c (r++[.dict (GX (n9 m))])⟩ λ_ σ=>Q .next σ:=by
   refine λ_ E=>E (hp.W.more _) (by rw[rh];exact am M (by decide)) hI Z aR (λv e=>?_) B ?_
   ·exact KB m v e
   ·rw[hp.sk];refine bu (λe=>?_) (λe=>?_)
    ·have e2:cC D p (.st o l m)={p with dD:=p.dD+1}:=by refine(?_ :(bif Kz D.ex p.dD (eO o l) then _ else _)=_);rw[e];rfl
     refine h b _ (r++[.dict (GX (n9 m))]) ?_;rw[e2];exact⟨(hp.W.dD _).more _,hp.pc,hp.da,hp.seen,ag (· +1) hp.dD,hp.dc,hp.nz,hp.pr⟩
    ·exact λr' i T=>h true _ r' (hp.st e M (ni.less T))
  have e1:∀xs,mm D (bs t0 b b2) c (r++xs)=mm D (bs t0 b b2) c r++xs:=λxs=>c_.symm;have e2:D.N (bs t0 b b2).length+r.length=(mm D (bs t0 b b2) c r).length:=fq.symm;rw[e1,e2] at fin;cases m with
  |zero=>exact fin
  |succ m=>obtain⟨v,C⟩:∃v,ft[m+1]?=some v:=⟨_,bC hm⟩;rw[show n9 (m+1)=some v from C] at fin;refine bJ (ac (vp hv)) (jr (eR (fM hm (by decide))) (by rw[bi,C];rfl)) ?_;refine b_ (by rw[aR];rfl) ?_;rw[kK];exact fin
 |en o l=>
  refine nX D (bs t0 b b2) c r (by kernel_rfl) ?_;cases hi:Nat.beq p.dD 0 with
  |true=>have XF:=bK hi;refine xE (he XF) λs' M=>?_;have TQ:=hp.dc;have Pl:=hp.nz;have J:=hp.W;rw[M,aJ] at TQ Pl;rw[M] at J;refine dB (Pk TQ) λd0 j ed _=>?_;refine dB (Pk Pl) λz0 i ez _=>?_;refine G3.mk J ed ez (by rw[hp.pr,M];rfl) (Sz o s' l) hI ?_;refine wR (by rw[hp.ig,hi];rfl) ?_;exact λr' dn R=>h b _ r' (hp.en M XF ed ez R)
  |false=>
   refine G3.skip (by rw[hp.ig,hi]) (h b _ r ?_);have e2:cC D p (.en o l)={p with dD:=p.dD-1}:=by refine(?_ :(bif Nat.beq p.dD 0 then _ else _)=_);rw[hi];rfl
   rw[e2];refine⟨hp.W.dD _,hp.pc,hp.da,hp.seen,?_,hp.dc,hp.nz,hp.pr⟩;refine(?_ :c.dD-1=((p.dD-1:Nat):Int));rw[hp.dD];exact(Int.ofNat_sub (Nat.pos_of_ne_zero λe=>by rw[e] at hi;exact yU hi)).symm
 |da w f=>
  refine xA he λhw K=>?_;try clear he
  refine nX D (bs t0 b b2) c r (by kernel_rfl) ?_;have fin:W97 [bW (bs t0 b b2),.str (NV w f)] ⟨Ye x0 x1 x2 x3 x6 s d (bW (bs t0 b b2)) [.str "data",aO w,.str f] LO,[],mm D (bs t0 b b2) c r⟩ λ_ σ=>Q .next σ:=by
   refine λ_ E=>E hI.da ?_;rw[hp.ig];refine bu (λe=>h b _ r ?_) (λe=>h b c r ?_)
   ·have e2:cC D p (.da w f)={p with da:=p.da++[NV w f]}:=by refine(?_ :(bif Nat.beq p.dD 0 then _ else _)=_);rw[e];rfl
    rw[e2];exact⟨⟨hp.W.ok,hp.W.R.wr rfl rfl,hp.W.lv,hp.W.nz⟩,hp.pc,ag (· ++[NV w f]) hp.da,hp.seen,hp.dD,hp.dc,hp.nz,hp.pr⟩
   ·have e2:cC D p (.da w f)=p:=by refine(?_ :(bif Nat.beq p.dD 0 then _ else _)=_);rw[e];rfl
    rw[e2];exact hp
  cases w with
  |zero=>exact fin
  |succ w=>obtain⟨v,C⟩:∃v,cW[w+1]?=some v:=⟨_,bC hw⟩;have Yf:=(by decide+kernel:∀x∈cW,x.length<=10) v (ef C);rw[show NV (w+1) f=f++v++f by refine(?_ :f++((cW[w+1]?).getD "")++f=_);rw[C];rfl] at fin;refine bJ (vp ht) (jr (eR (fM hw (by decide))) (by rw[bi,C];rfl)) ?_;refine b_ (cT (aQ [_,_] (.c 1 (.v 0) (.n 1) (.c 1 (.v 1) (.n 10) .nil)) 0 (.a (.v 0) (.v 1)) (.n 16777216) tt K Yf)) ?_;refine b_ (cT (by rw[bH];exact aQ [_,_] (.c 2 (.v 0) (.n 1) (.c 1 (.v 1) (.n 10) .nil)) 0 (.a (.a (.v 0) (.v 1)) (.v 0)) (.n 16777216) tt K Yf)) ?_;exact fin
end
inductive kP(D:cR):Pg->List Ev->Prop
 |nil {p:Pg}:kP D p []
 |cons {p:Pg} {e:Ev} {es:List Ev}:KA p e->kP D (cC D p e) es->kP D p (e::es)
theorem kP.inv{p:Pg}(h:kP D p (e::es)):KA p e/\kP D (cC D p e) es:=by cases h with|cons a b=>exact⟨a,b⟩
theorem mS.inv(h:mS N r vs (e::es)):∃t K,vs= .loc (N+t)::K/\r[t]?=some (.tup (vY e))/\mS N r K es:=by
 cases h with
 |cons a b=>exact bx a λt e1 e2=>⟨t,_,by rw[e1],e2,b⟩
theorem WE(e:Ev):∃a b c,vY e=[a,b,c]:=by cases e<;>exact⟨_,_,_,rfl⟩
theorem SB(p:Pg):(fl p).length<=p.pc.length+1:=by
 unfold fl;cases !(Nat.beq (dE p.da).length 0)&&p.seen with
 |true=>rw[cS,ak];exact aF _
 |false=>exact eT _
theorem NX(es:List (Str×Str)):(A1 es).length<=1:=by unfold A1;cases es.isEmpty<;>exact aU rfl
theorem NY{w:Nat}{g:Str}(hw:w<6)(K:g.length<=1):(NV w g).length<=10:=by
 cases w with
 |zero=>exact am K (by decide)
 |succ w=>obtain⟨v,C⟩:∃v,cW[w+1]?=some v:=⟨_,bC hw⟩;have Yf:=(by decide+kernel:∀x∈cW,x.length<=8) v (ef C);refine(?_ :(g++((cW[w+1]?).getD "")++g).length<=10);rw[C,bH,bH];refine(?_ :g.length+v.length+g.length<=10);exact aQ [_,_] (.c 2 (.v 0) (.n 1) (.c 1 (.v 1) (.n 8) .nil)) 0 (.a (.a (.v 0) (.v 1)) (.v 0)) (.n 10) tt K Yf
theorem Hc(xs:List Str)(x:Str):kX (xs++[x])=kX xs+x.length:=by unfold kX;rw[fg,List.sum_append];simp
theorem NW.step{n:Nat}{p:Pg}(h:NW n p)(he:KA p e):NW (n+1) (cC D p e):=by
 obtain⟨h1,h2,h3,h4⟩:=h;have S:=SB p;cases e with
 |st o l m=>
  refine(?_ :NW (n+1) (bif Kz D.ex p.dD (eO o l) then _ else _));cases Kz D.ex p.dD (eO o l) with
  |true=>exact⟨by refine(?_ :p.da.length<=_);exact aQ [_,_] (.c 1 (.v 0) (.v 1) .nil) 0 (.v 0) (.a (.v 1) (.n 1)) tt h1,by refine(?_ :kX p.da<=_);exact aQ [_,_] (.c 1 (.v 0) (.m 10 (.v 1)) .nil) 0 (.v 0) (.m 10 (.a (.v 1) (.n 1))) tt h2,by refine(?_ :p.pc.length<=_);exact aQ [_,_] (.c 1 (.v 0) (.m 10 (.v 1)) .nil) 0 (.v 0) (.m 10 (.a (.v 1) (.n 1))) tt h3,h4⟩
  |false=>
   refine⟨aW _,aW _,?_,?_⟩
   ·refine(?_ :(((fl p++[_])++A1 (kM D (g8 p.s) o (n9 m)))++[_]).length<=_);have:=NX (kM D (g8 p.s) o (n9 m));rw[ak,ak,ak];refine(?_ :(fl p).length+1+_+1<=_);exact aQ [_,_,_,_] (.c 1 (.v 0) (.m 10 (.v 1)) (.c 1 (.v 2) (.a (.v 0) (.n 1)) (.c 1 (.v 3) (.n 1) .nil))) 0 (.a (.a (.a (.v 2) (.n 1)) (.v 3)) (.n 1)) (.m 10 (.a (.v 1) (.n 1))) tt h3 S this
   ·refine(?_ :p.s.length+1<=10);have:=he.2.2;exact aQ [_] (.c 1 (.v 0) (.n 8) .nil) 0 (.a (.v 0) (.n 1)) (.n 10) tt this
 |en o l=>
  refine(?_ :NW (n+1) (bif Nat.beq p.dD 0 then _ else _));cases Nat.beq p.dD 0 with
  |true=>
   refine⟨aW _,aW _,?_,?_⟩
   ·refine(?_ :(fl p++[_]).length<=_);rw[ak];refine(?_ :(fl p).length+1<=_);exact aQ [_,_,_] (.c 1 (.v 0) (.m 10 (.v 1)) (.c 1 (.v 2) (.a (.v 0) (.n 1)) .nil)) 0 (.a (.v 2) (.n 1)) (.m 10 (.a (.v 1) (.n 1))) tt h3 S
   ·refine(?_ :p.s.tail.length<=10);rw[List.length_tail];exact lA (λq1 q2=>aQ [_,_] (.c 1 (.v 0) (.n 10) (.e 1 (.a (.v 1) (.n 1)) (.v 0) .nil)) 0 (.v 1) (.n 10) tt h4 q2) (λq1 q2=>aQ [_] (.e 1 (.v 0) (.n 0) .nil) 0 (.v 0) (.n 10) tt q2)
  |false=>exact⟨by refine(?_ :p.da.length<=_);exact aQ [_,_] (.c 1 (.v 0) (.v 1) .nil) 0 (.v 0) (.a (.v 1) (.n 1)) tt h1,by refine(?_ :kX p.da<=_);exact aQ [_,_] (.c 1 (.v 0) (.m 10 (.v 1)) .nil) 0 (.v 0) (.m 10 (.a (.v 1) (.n 1))) tt h2,by refine(?_ :p.pc.length<=_);exact aQ [_,_] (.c 1 (.v 0) (.m 10 (.v 1)) .nil) 0 (.v 0) (.m 10 (.a (.v 1) (.n 1))) tt h3,h4⟩
 |da w g=>
  have hd:=NY he.1 he.2;refine(?_ :NW (n+1) (bif Nat.beq p.dD 0 then _ else _));cases Nat.beq p.dD 0 with
  |true=>exact⟨by refine(?_ :(p.da++[_]).length<=_);rw[ak];exact dQ h1 1,by refine(?_ :kX (p.da++[_])<=_);rw[Hc];exact aQ [_,_,_] (.c 1 (.v 0) (.m 10 (.v 1)) (.c 1 (.v 2) (.n 10) .nil)) 0 (.a (.v 0) (.v 2)) (.m 10 (.a (.v 1) (.n 1))) tt h2 hd,by refine(?_ :p.pc.length<=_);exact aQ [_,_] (.c 1 (.v 0) (.m 10 (.v 1)) .nil) 0 (.v 0) (.m 10 (.a (.v 1) (.n 1))) tt h3,h4⟩
  |false=>exact⟨by refine(?_ :p.da.length<=_);exact aQ [_,_] (.c 1 (.v 0) (.v 1) .nil) 0 (.v 0) (.a (.v 1) (.n 1)) tt h1,by refine(?_ :kX p.da<=_);exact aQ [_,_] (.c 1 (.v 0) (.m 10 (.v 1)) .nil) 0 (.v 0) (.m 10 (.a (.v 1) (.n 1))) tt h2,by refine(?_ :p.pc.length<=_);exact aQ [_,_] (.c 1 (.v 0) (.m 10 (.v 1)) .nil) 0 (.v 0) (.m 10 (.a (.v 1) (.n 1))) tt h3,h4⟩
theorem Hd{t0:O}{b2:List O}{je s d:Nat}{lv:List V}{x6:Option V}{LO:List (Option V)}(B:∀xs,D.ex=some xs->xs.length<=30)(hv:b2[s]?=some (.list (ft.map .str)))(ht:b2[d]?=some (.list (cW.map .str)))(Z:b2[je]?=some (.list lv)):∀(es:List Ev)(vs:List V)(i n:Nat)(p:Pg)(b:Bool)(c:Wr)(r:List O)(y8 y9 y:Option V),lv.drop i=vs->mS 2 b2 vs es->n+es.length<=100->mT D (D.N (bs t0 b b2).length) p c r->NW n p->kP D p es-> (∀b' c' r' y8 y9 y,mT D (D.N (bs t0 b' b2).length) (es.foldl (cC D) p) c' r'->Q .next ⟨x0::x1::x2::x3::some (.loc (s+2))::some (.loc (d+2))::x6::some (bW (bs t0 b' b2))::y8::y9::y::LO,[],mm D (bs t0 b' b2) c' r'⟩)-> gr (bj (je+2)) (ve 3 (vV (du 8) (vV (du 9) (vV (du 10) pe)))) yA (es.length+1) i ⟨x0::x1::x2::x3::some (.loc (s+2))::some (.loc (d+2))::x6::some (bW (bs t0 b b2))::y8::y9::y::LO,[],mm D (bs t0 b b2) c r⟩ Q:=λes=>by
 induction es with
 |nil=>intro vs i n p b c r y8 y9 y hd ha hn hp hb he h;exact iM (ba (vp (Z)) (drop_nil (hd.trans (by cases ha;rfl)))) (h b c r y8 y9 y hp)
 |cons e es T=>intro vs i n p b c r y8 y9 y hd ha hn hp hb he h;rw[aJ] at hn;refine dZ (mS.inv ha) λt K C I ha=>xA (fC (hd.trans C)) λM d2=>xA he.inv λSu NR=>FD (WE e) λu1 u2 u3 e3=>?_;refine fm (b:=.loc (2+t)) (ba (vp (Z)) M) ?_;refine av (o:=up (mm D (bs t0 b b2) c r) (.loc (2+t))) (v:=[u1,u2,u3]) (gy (vp (by rw[gz,<-e3];exact I))) ?_;have q:=λh'=>(λ_ E=>E (D:=D) (t0:=t0) (b:=b) (x0:=x0) (x1:=x1) (x2:=x2) (x3:=x3) (x6:=x6) (LO:=LO) (Q:=P6 (λσ=>gr (bj (je+2)) (ve 3 (vV (du 8) (vV (du 9) (vV (du 10) pe)))) yA (es.length+1) (i+1) σ Q) Q) hp hb (aQ [_,_] (.c 1 (.a (.v 0) (.a (.v 1) (.n 1))) (.n 100) .nil) 0 (.v 0) (.n 100) tt hn) Su B hv ht h':yA _ _);rw[e3] at q;refine q λb' c' r' f=>?_;exact T K (i+1) (n+1) _ b' c' r' (some u1) (some u2) (some u3) d2 ha (aQ [_,_] (.c 1 (.a (.v 0) (.a (.v 1) (.n 1))) (.n 100) .nil) 0 (.a (.a (.v 0) (.n 1)) (.v 1)) (.n 100) tt hn) f (hb.step Su) NR h
noncomputable def He:Pg:=⟨[],[],[],false,0⟩
noncomputable def s8(D:cR)(es:List Ev):List Str:=(es.foldl (cC D) He).pc
noncomputable def WF:List V->ad V:=L3 λM=>∀{t0:O}{b:Bool}{b2:List O}{je jl:Nat}{es:List Ev}{lv:List V}{one two:Str}{xs:List Str}{lo ce Q},b2[je]?=some (.list lv)->mS 2 b2 lv es->b2[jl]?=some (.list (xs.map .str))->xs.length<=20->tE ⟨cN xs,one,two⟩->kP ⟨cN xs,one,two⟩ He es->es.length<=50->kX (s8 ⟨cN xs,one,two⟩ es)<=100000->
 (∀b' X,Q (.str (dE (s8 ⟨cN xs,one,two⟩ es))) ⟨lo,ce,bs t0 b' (b2++X)⟩)->M [.loc (je+2),.str one,.str two,.loc (jl+2)] ⟨lo,ce,bs t0 b b2⟩ Q
theorem KC{xs:List Str}(h:xs.length<=20):∀I,cN xs=some I->I.length<=30:=by
 intro I e;cases xs with
 |nil=>exact nS e
 |cons x xs=>obtain rfl:=aq e;have:=sd (ts:=x::xs) (xs:=[]);rw[fK] at this;exact aQ [_,_] (.c 1 (.v 0) (.n 20) (.c 1 (.v 1) (.a (.n 0) (.v 0)) .nil)) 0 (.v 1) (.n 30) tt h this
theorem EW{C:Addr}{a:V}{d:Nat}{es:List (Str×V)}{n:Str}{K:Prop}(hi:d4 C me a=some (d,es))(e:eK n es=none)(q:K):aA (d4 C me a) λp=>gd (eK n p.2).isNone K:=av hi (by rw[e];exact q)
theorem SD{base:List O}:kY D (base++[O.list [],O.bP .sD [.e_ (.builtin "list.append"),.loc base.length]]) base.length (mi D base.length O8) (Yn D base.length 2)=mm D base O8 []:=by unfold kY im mm AS;rw[aS,au];rfl
theorem SE{B Z:List O}{es:List (Str×V)}{o:O}(w:B.length=b+2):(im B b es (o::Z))[b+4]?=some o:=by unfold im;rw[show b+4=B.length+2 by rw[w],bX];rfl
theorem EX{B:List O}{n:Nat}{p u:Str}{lo:List (Option V)}{Q:V->St->Prop}(w:B.length=b+2)(h3:(Yn D b n)[3]?=some (.list ([D.L b 12]++[D.L b 13])))(h13:(Yn D b n)[13]?=some (.list ([D.L b 16,D.L b 17].take n)))(G:((Yn D b n)++[O.tup [.str u,.str p]]).set 13 (.list ([D.L b 16,D.L b 17].take n++[D.L b (Yn D b n).length]))=Yn D b (n+1)) (q:Q .none ⟨lo,ce,kY D B b (mi D b O8) (Yn D b (n+1))⟩):V9 [.loc (b+3),.str p,.str u] ⟨lo,ce,kY D B b (mi D b O8) (Yn D b n)⟩ Q:=by refine λ_ E=>E (qW w) (by kernel_rfl) (by kernel_rfl) (SE w) (by kernel_rfl) (sq w 3 h3) (aU rfl) (sq w 13 h13) (by rw[jx];exact am (lW _ _) (aU rfl)) ?_;rw[gF,yk w,mP w,show V.loc (D.A b (Yn D b n).length)=D.L b (Yn D b n).length from rfl,G];exact q
theorem dW(D:cR)(b:Nat):cQ "_iter_namespaces" (.e_ (.ref 250)) (vC D b)=mi D b O8:=by kernel_rfl
section
theorem EY(U:cD P g):cO g (k+6) (.ref 257) WF:=by
 have H:=WD P;refine Er U H (NB.at rfl (by exact(ab (aP H 4 rfl (eD (ae bz (ae bz (ae bz (ae bz (ae bz (ae bz ay)))))))) (ab (aP H 5 rfl (eD (ae bz (ae bz (ae bz (ae bz (ae bz (ae bz ay)))))))) (ab (aP H 6 rfl (eD ay)) (ab (aP H 7 rfl (En (g7 U (by kernel_rfl)) (R7 U) (kU U H 0 11 rfl rfl) (AP rfl (ai H 6 rfl) (he:=by intro _;with_unfolding_all rfl)) (ai H 3 rfl) (T:=by intro _;rfl))) (ab (GO U (kU U H 1 3 rfl rfl) (ai H 7 rfl) (hn:=by rfl) (M:=by intro _;rfl)) (ab (cZ (iL U (cA U) (by kernel_rfl) (by kernel_rfl) (by kernel_rfl) (EM U).ok (ai H 7 rfl) (ae (ai H 1 rfl) (ae bz ay)))) (ab (cZ (iL U (cA U) (by kernel_rfl) (by kernel_rfl) (by kernel_rfl) (EM U).ok (ai H 7 rfl) (ae (ai H 2 rfl) (ae bz ay)))) (ab (mf (ai H 0 rfl) (qH (dz (b8 H 8 rfl) (dz (b8 H 9 rfl) (dz (b8 H 10 rfl) lF)))) (SA U)) (ab (cP (bZ .str kr PySem.F.slot_str_join PySem.F.type_str_join zQ bz (ae (ai H 6 rfl) ay))) aC))))))))))) rfl (by kernel_rfl) (λa b c d S=>rfl) ?_;refine kW (@λt0 b b2 je jl es lv one two xs lo ce Q h1 h2 h3 hz G he hn ht h=>?_);refine⟨_,_,_,_,rfl,?_⟩;refine o3 ?_;have z:(bs t0 b b2++[O.list (ft.map .str)])++[O.list (cW.map .str)]=bs t0 b (b2++[O.list (ft.map .str),O.list (cW.map .str)]):=sf;refine av (o:=dC (((bs t0 b b2++[O.list (ft.map .str)])++[O.list (cW.map .str)])++[O.list []]) (.loc ((bs t0 b b2++[O.list (ft.map .str)])++[O.list (cW.map .str)]).length)) (v:=(((bs t0 b b2++[O.list (ft.map .str)])++[O.list (cW.map .str)]).length,[])) (cV aR) ?_;refine(?_ :WMK (.loc (((bs t0 b b2++[O.list (ft.map .str)])++[O.list (cW.map .str)])++[O.list []]).length) (.loc (jl+2)) ⟨some (.loc (je+2))::some (.str one)::some (.str two)::some (.loc (jl+2))::some (.loc (bs t0 b b2).length)::some (.loc (bs t0 b b2++[O.list (ft.map .str)]).length)::some (.loc ((bs t0 b b2++[O.list (ft.map .str)])++[O.list (cW.map .str)]).length)::none::none::none::none::List.replicate 4 none,[],(((bs t0 b b2++[O.list (ft.map .str)])++[O.list (cW.map .str)])++[O.list []])++[O.bP .sD [.e_ (.builtin "list.append"),.loc ((bs t0 b b2++[O.list (ft.map .str)])++[O.list (cW.map .str)]).length]]⟩ _);have e1:(bs t0 b b2).length=b2.length+2:=rfl;have e2:(bs t0 b b2++[O.list (ft.map .str)]).length=(b2.length+1)+2:=by rw[ak,e1];rfl
 rw[z,sf,show(bs t0 b (b2++[O.list (ft.map .str),O.list (cW.map .str)])++[O.list []]).length=(bs t0 b (b2++[O.list (ft.map .str),O.list (cW.map .str)])).length+1 from ak,e2,e1];have hv:(b2++[O.list (ft.map .str),O.list (cW.map .str)])[b2.length]?=some (.list (ft.map .str)):=aR;have m:(b2++[O.list (ft.map .str),O.list (cW.map .str)])[b2.length+1]?=some (.list (cW.map .str)):=gx;have Rf:=ac (t:=[O.list (ft.map .str),O.list (cW.map .str)]) h3;have hev:=ac (t:=[O.list (ft.map .str),O.list (cW.map .str)]) h1;have Hr:=h2.more [O.list (ft.map .str),O.list (cW.map .str)];have C:∀b' X,Q (.str (dE (s8 ⟨cN xs,one,two⟩ es))) ⟨lo,ce,bs t0 b' ((b2++[O.list (ft.map .str),O.list (cW.map .str)])++X)⟩:=λb' X=>by rw[au];exact h b' _
 clear h z e1 e2 h3 h1 h2;revert hv m Rf hev Hr C;generalize b2.length=s;generalize b2++[O.list (ft.map .str),O.list (cW.map .str)]=b3;intro hv m Rf hev Hr C;have w:(bs t0 b b3++[O.list [],O.bP .sD [.e_ (.builtin "list.append"),.loc (bs t0 b b3).length]]).length=(bs t0 b b3).length+2:=ak;refine λ_ E=>E (D:=⟨cN xs,one,two⟩) w (ac (Rf)) hz rfl ?_;refine o4 w (by kernel_rfl) ?_;rw[dW];refine EW (qW w) (by kernel_rfl) ?_;refine EX w (by kernel_rfl) (by kernel_rfl) (by kernel_rfl) ?_;refine EW (qW w) (by kernel_rfl) ?_;refine EX w (by kernel_rfl) (by kernel_rfl) (by kernel_rfl) ?_;rw[SD];have hp:mT ⟨cN xs,one,two⟩ (cR.N ⟨cN xs,one,two⟩ (bs t0 b b3).length) He O8 []:=⟨⟨G,⟨.nil,(by intro j hj;cases hj),List.nodup_nil⟩,aW _,aW _⟩,rfl,rfl,rfl,rfl,rfl,rfl,rfl⟩;refine⟨es.length+1,Hd (KC hz) hv m hev es lv 0 0 He b O8 [] none none none rfl Hr (aQ [_] (.c 1 (.v 0) (.n 50) .nil) 0 (.a (.n 0) (.v 0)) (.n 100) tt hn) hp ⟨aW _,aW _,aW _,aW _⟩ he λb' c' r' y8 y9 y f=>?_⟩;have:=f.pc;refine EC O1 (by rw[this];exact ht) ?_;rw[this];exact C b' _
end
structure Rl where
 ws:List Str
 line:Nat
 op:List (Option Bool)
 sk:Nat
noncomputable def vH:Option Bool->Str
 |none=>""
 |some false=>"{u}"
 |some true=>"{v}"
noncomputable def eY:List Str:=["","k=\"1\"","k=\"&lt;&quot;\"","k=\"&#x9;&#xA;\"","k=\"\"","k=\"> &amp;\""]
noncomputable def eJ:List Str:=["","x","a&amp;b","a &lt;","\"&#xD;","&gt; p"]
noncomputable def qa(D:cR):Option Bool->Lc->Str
 |none,l=>l.s
 |some s,l=>pf D s++":"++l.s
noncomputable def SF(D:cR)(s:Bool):Str:="xmlns:"++pf D s++"=\""++np s++"\""
noncomputable def o6(D:cR)(op:List (Option Bool)):Option Bool->Lc->List Str
 |none,l=>["<"++qa D none l]
 |some s,l=>bif op.contains (some s) then["<"++qa D (some s) l] else["<"++qa D (some s) l,SF D s]
noncomputable def pX(ts:List Str)(m:Nat):List Str:=bif Nat.beq m 0 then ts else ts++[(eY[m]?).getD ""]
noncomputable def fE:List Str->List Str
 | []=>[]
 | [t]=>[t++">"]
 |t::ts=>t::fE ts
noncomputable def bO(D:cR)(left:List Str)(q:Rl):Ev->Rl
 | .st o l m=>bif !(Nat.beq q.sk 0)||dN (eO o l) left then {q with sk:=q.sk+1} else {q with ws:=q.ws++fE (pX (o6 D q.op o l) m),op:=q.op++[o]}
 | .en o l=>bif Nat.beq q.sk 0 then {q with ws:=q.ws++["</"++qa D o l++">"],op:=q.op.dropLast} else {q with sk:=q.sk-1}
 | .da w g=>bif Nat.beq q.sk 0 then {q with ws:=bif Nat.beq w 0 then q.ws else q.ws++[(eJ[w]?).getD ""],line:=bif d3 g "\n" then q.line+(bif Nat.beq w 0 then 1 else 2) else q.line} else q
noncomputable def yB(D:cR):List (Str×V):=[("{u}",.str D.one),("{v}",.str D.two)]
noncomputable def Du(op:List (Option Bool)):List V:=op.map λo=>.str (vH o)
noncomputable def iU(me:List O)(D:cR)(ws:List Str)(op:List (Option Bool))(r:List O):List O:=me++(.list (eY.map .str):: .list (eJ.map .str):: .dict (yB D):: .list (ws.map .str):: .list (Du op)::r)
noncomputable def rf(x0 x1 x2 x3:Option V)(m:Nat)(line sk:Nat)(xs:List V)(r:List (Option V)):List (Option V):=x0::x1::x2::x3::some (.loc m)::some (.loc (m+1))::some (.loc (m+2))::some (.loc (m+3))::some (aO line)::some (.loc (m+4))::some (aO sk)::(xs.map some++r)
section
variable {ws:List Str}{op:List (Option Bool)}
theorem lI(i:Nat){o:O}(h:(O.list (eY.map V.str):: .list (eJ.map .str):: .dict (yB D):: .list (ws.map .str):: .list (Du op)::r)[i]?=some o):(iU me D ws op r)[me.length+i]?=some o:=by unfold iU;rw[bX];exact h
theorem WG:(iU me D ws op r)[me.length]?=some (.list (eY.map .str)):=aR
theorem ri{xs:List O}:iU me D ws op r++xs=iU me D ws op (r++xs):=by unfold iU;rw[au];rfl
theorem tW:(iU me D ws op r).length=me.length+5+r.length:=by unfold iU;rw[ak];simp only[aJ];exact fB [_,_] .nil 0 (.a (.v 0) (.a (.a (.a (.a (.a (.v 1) (.n 1)) (.n 1)) (.n 1)) (.n 1)) (.n 1))) (.a (.a (.v 0) (.n 5)) (.v 1)) tt tt
theorem KD{Kj:List Str}:(iU me D ws op r).set (me.length+3) (.list (Kj.map .str))=iU me D Kj op r:=by unfold iU;rw[dO];rfl
theorem Pm{op':List (Option Bool)}:(iU me D ws op r).set (me.length+4) (.list (Du op'))=iU me D ws op' r:=by unfold iU;rw[dO];rfl
theorem KE{x y:O}:(iU me D ws op (r++[x])).set (me.length+5+r.length) y=iU me D ws op (r++[y]):=by rw[<-ri,<-ri,<-tW];exact kK
theorem lq{x:O}:(iU me D ws op (r++[x]))[me.length+5+r.length]?=some x:=by rw[<-ri,<-tW];exact aR
end
theorem sp0(Z:l≠ .k)(o:Option Bool):∃c,uj (eO o l).cps.toList 0=some c/\d3 ⟨#[c]⟩ "{"=o.isSome:=by
 cases l with
 |k=>exact absurd rfl Z
 |a=>cases o with
  |none=>exact⟨_,rfl,by kernel_rfl⟩
  |some s=>cases s<;>exact⟨_,rfl,by kernel_rfl⟩
 |b=>cases o with
  |none=>exact⟨_,rfl,by kernel_rfl⟩
  |some s=>cases s<;>exact⟨_,rfl,by kernel_rfl⟩
theorem sp3(s:Bool)(l:Lc):(⟨(fR (eO (some s) l).cps.toList none (some 3)).toArray⟩:Str)=vH (some s):=by cases s<;>cases l<;>kernel_rfl
theorem ch3(Z:l≠ .k)(s:Bool):∃c,uj (eO (some s) l).cps.toList 3=some c/\(⟨#[c]⟩:Str)=l.s:=by
 cases l with
 |k=>exact absurd rfl Z
 |a=>cases s<;>exact⟨_,rfl,by kernel_rfl⟩
 |b=>cases s<;>exact⟨_,rfl,by kernel_rfl⟩
theorem ch1(s:Bool):∃c,uj (vH (some s)).cps.toList 1=some c/\(⟨#[c]⟩:Str)=np s:=by cases s<;>exact⟨_,rfl,by kernel_rfl⟩
theorem KG(D:cR)(s:Bool):eK (vH (some s)) (yB D)=some (.str (pf D s)):=by cases s<;>kernel_rfl
section
noncomputable abbrev wg (P:Params):df:=fb (KK P) 271 ["events","one","two","left_out","values","texts","prefixes","words","line","opened","skipped","kind","what","more","space","shown","tag"] []
theorem wh(P:Params):cc (wg P) [] .cell:=ik (by kernel_rfl)
noncomputable def EZ:{W:ad Fl //∀{P:Params}{g:G}{k:Nat}(U:cD P g),NS g (wg P) k (cB (pQ (cB (pQ (cB (pQ (cB (ru (cB (bh (KK P) 271) 7)) 0)) 0)) 0)) 0) W}:=⟨_,λ{P g k} U=>have H:=wh P;by exact(aP H 14 rfl (iG (aN gq (eM (ai H 12 rfl) bv) bz) (iI (ai H 12 rfl) iH (gI bv)) bz))⟩
noncomputable def E0:{W:ad Fl //∀{P:Params}{g:G}{k:Nat}(U:cD P g),NS g (wg P) k (cB (pQ (cB (pQ (cB (pQ (cB (ru (cB (bh (KK P) 271) 7)) 0)) 0)) 0)) 1) W}:=⟨_,λ{P g k} U=>have H:=wh P;by exact(aP H 15 rfl (iG (a7 (ai H 14 rfl)) (cY f_ (cY f_ (MZ (ai H 6 rfl) (ai H 14 rfl)) bz) (eM (ai H 12 rfl) bv)) (ai H 12 rfl)))⟩
noncomputable def yC:{W:ad Fl //∀{P:Params}{g:G}{k:Nat}(U:cD P g),NS g (wg P) k (cB (pQ (cB (pQ (cB (pQ (cB (pQ (cB (ru (cB (bh (KK P) 271) 7)) 0)) 0)) 0)) 2)) 0) W}:=⟨_,λ{P g k} U=>have H:=wh P;by exact(aP H 16 rfl (eD (ae (cY f_ bz (ai H 15 rfl)) ay)))⟩
noncomputable def yD:{W:ad Fl //∀{P:Params}{g:G}{k:Nat}(U:cD P g),NS g (wg P) k (cB (pQ (cB (pQ (cB (pQ (cB (pQ (cB (ru (cB (bh (KK P) 271) 7)) 0)) 0)) 0)) 2)) 1) W}:=⟨_,λ{P g k} U=>have H:=wh P;by exact(ii (cG (bN (a7 (ai H 14 rfl)) (bN (aN uC (ai H 14 rfl) (ai H 9 rfl)) gD))) (ab (cZ (bZ .list bD cJ b0 bB (ai H 16 rfl) (ae (cY f_ (cY f_ (cY f_ (cY f_ bz (MZ (ai H 6 rfl) (ai H 14 rfl))) bz) (eM (ai H 14 rfl) bv)) bz) ay))) aC) aC)⟩
noncomputable def yE:{W:ad Fl //∀{P:Params}{g:G}{k:Nat}(U:cD P g),NS g (wg P) k (cB (pQ (cB (pQ (cB (pQ (cB (pQ (cB (ru (cB (bh (KK P) 271) 7)) 0)) 0)) 0)) 2)) 2) W}:=⟨_,λ{P g k} U=>have H:=wh P;by exact(ii (a7 (ai H 13 rfl)) (ab (cZ (bZ .list bD cJ b0 bB (ai H 16 rfl) (ae (eM (ai H 4 rfl) (ai H 13 rfl)) ay))) aC) aC)⟩
noncomputable def yF:{W:ad Fl //∀{P:Params}{g:G}{k:Nat}(U:cD P g),NS g (wg P) k (cB (pQ (cB (pQ (cB (pQ (cB (pQ (cB (ru (cB (bh (KK P) 271) 7)) 0)) 0)) 0)) 2)) 3) W}:=⟨_,λ{P g k} U=>have H:=wh P;by exact(vg kE (ai H 16 rfl) GG bz (ha:=by intros;rfl))⟩
noncomputable def yG:{W:ad Fl //∀{P:Params}{g:G}{k:Nat}(U:cD P g),NS g (wg P) k (cB (pQ (cB (pQ (cB (pQ (cB (pQ (cB (ru (cB (bh (KK P) 271) 7)) 0)) 0)) 0)) 2)) 4) W}:=⟨_,λ{P g k} U=>have H:=wh P;by exact(cZ (bZ .list bD PySem.F.slot_list_extend PySem.F.type_list_extend B0 (ai H 7 rfl) (ae (ai H 16 rfl) ay)))⟩
noncomputable def yH:{W:ad Fl //∀{P:Params}{g:G}{k:Nat}(U:cD P g),NS g (wg P) k (cB (pQ (cB (pQ (cB (pQ (cB (pQ (cB (ru (cB (bh (KK P) 271) 7)) 0)) 0)) 0)) 2)) 5) W}:=⟨_,λ{P g k} U=>have H:=wh P;by exact(cZ (bZ .list bD cJ b0 bB (ai H 9 rfl) (ae (ai H 14 rfl) ay)))⟩
section
variable {ws:List Str}{op:List (Option Bool)}{line sk:Nat}
theorem E1(U:cD P g)(Z:l≠ .k)(h:Q .next ⟨rf x0 x1 x2 x3 me.length line sk [u,.str (eO o l),v] (some (.str (vH o))::q_::re::q9),ce,iU me D ws op r⟩):EZ.1 ⟨rf x0 x1 x2 x3 me.length line sk [u,.str (eO o l),v] (s7::q_::re::q9),ce,iU me D ws op r⟩ Q:=by
 refine bx (sp0 Z o) λc e1 e2=>?_;refine av e1 ?_;cases o with
 |none=>exact wR e2 h
 |some s=>refine vW e2 ?_;refine b_ (by cases s<;>cases l<;>kernel_rfl) ?_;rw[sp3];exact h
theorem E2(U:cD P g)(Z:l≠ .k)(G:tE D)(h:Q .next ⟨rf x0 x1 x2 x3 me.length line sk [u,.str (eO o l),v] (some (.str (vH o))::some (.str (qa D o l))::re::q9),ce,iU me D ws op r⟩):E0.1 ⟨rf x0 x1 x2 x3 me.length line sk [u,.str (eO o l),v] (some (.str (vH o))::q_::re::q9),ce,iU me D ws op r⟩ Q:=by
 cases o with
 |none=>exact h
 |some s=>refine bx (ch3 Z s) λc e1 e2=>?_;refine b_ (by cases s<;>kernel_rfl) ?_;refine vW (by cases s<;>kernel_rfl) ?_;refine av (iP (lI 2 rfl)) ?_;refine av rfl (av (KG D s) ?_);have hp:=(jD G s).2;refine b_ (cT (by refine(?_ :(pf D s).length+1<=_);exact aQ [_] (.c 1 (.v 0) (.n 100) .nil) 0 (.a (.v 0) (.n 1)) (.n 16777216) tt hp)) ?_;refine av e1 ?_;rw[e2];refine b_ (cT (by have:=(iO l).2;rw[bH];refine(?_ :(pf D s).length+1+l.s.length<=_);exact aQ [_,_] (.c 1 (.v 0) (.n 100) (.c 1 (.v 1) (.n 100) .nil)) 0 (.a (.a (.v 0) (.n 1)) (.v 1)) (.n 16777216) tt hp this)) ?_;exact h
end
end
theorem SG(op:List (Option Bool)):Du op=(op.map vH).map .str:=by unfold Du;rw[h_];rfl
theorem E3{o:Option O}{y:Str}{K:Bool->Prop}(h:o=some (.list (ts.map .str)))(q:K (dN y ts)):Uw o y K:=by rw[h];exact(av (l6 ts) q:aA (kH (ts.map .str)) λts=>K (dN y ts))
theorem NZ:∀{a b:Option Bool},vH a=vH b->a=b:=by
 intro a b h;have:d3 (vH a) (vH b)=true:=by rw[h];cases b with|none=>kernel_rfl|some s=>cases s<;>kernel_rfl
 cases a with
 |none=>cases b with
  |none=>rfl
  |some s=>cases s<;>exact absurd this (by rw[show d3 _ _=false from by kernel_rfl];exact i0)
 |some s=>cases b with
  |none=>cases s<;>exact absurd this (by rw[show d3 _ _=false from by kernel_rfl];exact i0)
  |some s'=>cases s<;>cases s'<;>first|rfl|exact absurd this (by rw[show d3 _ _=false from by kernel_rfl];exact i0)
theorem N0(o:Option Bool)(op:List (Option Bool)):dN (vH o) (op.map vH)=op.contains o:=by rw[Bool.eq_iff_iff,fS,List.contains_iff_mem,List.mem_map];exact⟨λ⟨a,h,e⟩=>NZ e▸h,λh=>⟨o,h,rfl⟩⟩
theorem yI(G:tE D)(o:Option Bool)(l:Lc):(qa D o l).length<=300:=by
 have Z:=(iO l).2;cases o with
 |none=>exact am Z (by decide)
 |some s=>have:=(jD G s).2;refine(?_ :(pf D s++":"++l.s).length<=300);rw[bH,bH];refine(?_ :(pf D s).length+1+l.s.length<=300);exact aQ [_,_] (.c 1 (.v 0) (.n 100) (.c 1 (.v 1) (.n 100) .nil)) 0 (.a (.a (.v 1) (.n 1)) (.v 0)) (.n 300) tt Z this
theorem N1(G:tE D)(s:Bool):(SF D s).length<=300:=by have:=(jD G s).2;have:=vw s;unfold SF;rw[bH,bH,bH,bH];refine(?_ :6+(pf D s).length+2+(np s).length+1<=300);omega
theorem kn(D:cR)(op:List (Option Bool))(s:Bool)(l:Lc):o6 D op (some s) l=bif op.contains (some s) then["<"++qa D (some s) l] else["<"++qa D (some s) l,SF D s]:=rfl
theorem SH(G:tE D)(op:List (Option Bool))(o:Option Bool)(l:Lc)(hm:m<6):∃ts t,pX (o6 D op o l) m=ts++[t]/\ts.length<=2/\t.length<=400:=by
 have h1:("<"++qa D o l).length<=400:=by rw[bH];have:=yI G o l;refine(?_ :1+(qa D o l).length<=400);exact aQ [_] (.c 1 (.v 0) (.n 300) .nil) 0 (.a (.n 1) (.v 0)) (.n 400) tt this
 have h2:∃ts t,o6 D op o l=ts++[t]/\ts.length<=1/\t.length<=400:=by
  cases o with
  |none=>exact⟨[],_,rfl,aW _,h1⟩
  |some s=>
   rw[kn];cases op.contains (some s) with
   |true=>exact⟨[],_,rfl,aW _,h1⟩
   |false=>exact⟨[_],_,rfl,aF _,am (N1 G s) (by decide)⟩
 refine dZ h2 λts t e a b=>?_;try clear h2
 unfold pX;cases m with
 |zero=>exact⟨ts,t,e,am a (by decide),b⟩
 |succ m=>
  refine⟨ts++[t],(eY[m+1]?).getD "",?_,?_,?_⟩
  ·rw[e];rfl
  ·rw[ak];exact dQ a 1
  ·obtain⟨v,C⟩:∃v,eY[m+1]?=some v:=⟨_,bC hm⟩;rw[C];exact am ((by decide+kernel:∀x∈eY,x.length<=30) v (ef C)) (by decide)
theorem A9(ts:List Str)(t:Str):fE (ts++[t])=ts++[t++">"]:=by
 induction ts with
 |nil=>rfl
 |cons a ts T=>
  cases ts with
  |nil=>rfl
  |cons b ts=>exact ag (a:: ·) T
theorem Hf{a:V}(hz:xs.length<=1000):Mp (xs++[a]) (-1) v=some (xs++[v]):=by refine(?_ :cond (Nat.blt 0 (xs++[a]).length&&bw (xs++[a]).length) (some ((xs++[a]).set ((xs++[a]).length-(0+1)) v)) none=_);have h1:(xs++[a]).length=xs.length+1:=ak;rw[h1,show Nat.blt 0 (xs.length+1)=true from rfl,cT (n:=xs.length+1) (aQ [_] (.c 1 (.v 0) (.n 1000) .nil) 0 (.a (.v 0) (.n 1)) (.n 16777216) tt hz)];refine(?_ :some ((xs++[a]).set xs.length v)=_);rw[show(xs++[a]).set xs.length v=xs++[v] by simp]
section
section
variable {ws:List Str}{op:List (Option Bool)}{line sk:Nat}{w:V}
theorem N2(U:cD P g){b:Str}(M:b.length<=1000)(h:Q .next ⟨rf x0 x1 x2 x3 me.length line sk [u,w,v] (s7::some (.str b)::some (.loc (me.length+5+r.length))::q9),ce,iU me D ws op (r++[.list ((["<"++b]:List Str).map .str)])⟩):yC.1 ⟨rf x0 x1 x2 x3 me.length line sk [u,w,v] (s7::some (.str b)::re::q9),ce,iU me D ws op r⟩ Q:=by refine b_ (cT (by refine(?_ :1+b.length<=_);exact aQ [_] (.c 1 (.v 0) (.n 1000) .nil) 0 (.a (.n 1) (.v 0)) (.n 16777216) tt M)) ?_;refine(?_ :Q .next ⟨rf x0 x1 x2 x3 me.length line sk [u,w,v] (s7::some (.str b)::some (.loc (iU me D ws op r).length)::q9),ce,iU me D ws op r++[.list ((["<"++b]:List Str).map .str)]⟩);rw[tW,ri];exact h
theorem N3(U:cD P g)(G:tE D)(h:Q .next ⟨rf x0 x1 x2 x3 me.length line sk [u,w,v] (some (.str (vH o))::q_::some (.loc (me.length+5+r.length))::q9),ce,iU me D ws op (r++[.list ((o6 D op o l).map .str)])⟩):yD.1 ⟨rf x0 x1 x2 x3 me.length line sk [u,w,v] (some (.str (vH o))::q_::some (.loc (me.length+5+r.length))::q9),ce,iU me D ws op (r++[.list ((["<"++qa D o l]:List Str).map .str)])⟩ Q:=by
 cases o with
 |none=>exact h
 |some s=>
  refine b_ (by cases s<;>kernel_rfl) ?_;refine vW (by cases s<;>kernel_rfl) ?_;refine E3 (K:=λb=>br (!b) _ _) (by rw[<-SG];exact lI 4 rfl) ?_;rw[N0];rw[kn] at h;cases e:op.contains (some s) with
  |true=>rw[e] at h;exact h
  |false=>rw[e] at h;refine bx (ch1 s) λc e1 e2=>?_;have hp:=(jD G s).2;have hn:=vw s;refine b_ (bk lq) ?_;refine av (iP (lI 2 rfl)) ?_;refine av rfl (av (KG D s) ?_);refine b_ (cT (by refine(?_ :6+(pf D s).length<=_);exact aQ [_] (.c 1 (.v 0) (.n 100) .nil) 0 (.a (.n 6) (.v 0)) (.n 16777216) tt hp)) ?_;refine b_ (cT (by rw[bH];refine(?_ :6+(pf D s).length+2<=_);exact aQ [_] (.c 1 (.v 0) (.n 100) .nil) 0 (.a (.a (.n 6) (.v 0)) (.n 2)) (.n 16777216) tt hp)) ?_;refine av e1 ?_;rw[e2];refine b_ (cT (by rw[bH,bH];refine(?_ :6+(pf D s).length+2+(np s).length<=_);exact aQ [_,_] (.c 1 (.v 0) (.n 100) (.c 1 (.v 1) (.n 10) .nil)) 0 (.a (.a (.a (.n 6) (.v 0)) (.n 2)) (.v 1)) (.n 16777216) tt hp hn)) ?_;refine b_ (cT (by rw[bH,bH,bH];refine(?_ :6+(pf D s).length+2+(np s).length+1<=_);exact aQ [_,_] (.c 1 (.v 0) (.n 100) (.c 1 (.v 1) (.n 10) .nil)) 0 (.a (.a (.a (.a (.n 6) (.v 0)) (.n 2)) (.v 1)) (.n 1)) (.n 16777216) tt hp hn)) ?_;exact lj lq (aU rfl) KE h
theorem N4(U:cD P g)(hm:m<6)(hz:ts.length<=10)(h:Q .next ⟨rf x0 x1 x2 x3 me.length line sk [u,w,aO m] (s7::q_::some (.loc (me.length+5+r.length))::q9),ce,iU me D ws op (r++[.list ((pX ts m).map .str)])⟩):yE.1 ⟨rf x0 x1 x2 x3 me.length line sk [u,w,aO m] (s7::q_::some (.loc (me.length+5+r.length))::q9),ce,iU me D ws op (r++[.list (ts.map .str)])⟩ Q:=by
 cases m with
 |zero=>exact h
 |succ m=>obtain⟨t,C⟩:∃v,eY[m+1]?=some v:=⟨_,bC hm⟩;rw[show pX ts (m+1)=ts++[t] by refine(?_ :ts++[(eY[m+1]?).getD ""]=_);rw[C];rfl,fg] at h;refine b_ (bk lq) ?_;refine bJ WG (jr (eR (fM hm (by decide))) (by rw[bi,C];rfl)) ?_;exact lj lq (by rw[ax];exact aQ [_] (.c 1 (.v 0) (.n 10) .nil) 0 (.v 0) (.n 10000) tt hz) KE h
theorem N5(U:cD P g){t:Str}(hz:ts.length<=10)(ht:t.length<=1000)(h:Q .next ⟨rf x0 x1 x2 x3 me.length line sk [u,w,v] (s7::q_::some (.loc (me.length+5+r.length))::q9),ce,iU me D ws op (r++[.list ((ts++[t++">"]).map .str)])⟩):yF.1 ⟨rf x0 x1 x2 x3 me.length line sk [u,w,v] (s7::q_::some (.loc (me.length+5+r.length))::q9),ce,iU me D ws op (r++[.list ((ts++[t]).map .str)])⟩ Q:=by
 rw[fg] at h ⊢;have L:(ts.map V.str).length<=1000:=by rw[ax];exact aQ [_] (.c 1 (.v 0) (.n 10) .nil) 0 (.v 0) (.n 1000) tt hz
 refine bJ lq (nZ L) ?_;refine b_ (cT (by refine(?_ :t.length+1<=_);exact aQ [_] (.c 1 (.v 0) (.n 1000) .nil) 0 (.a (.v 0) (.n 1)) (.n 16777216) tt ht)) ?_;refine av (cV lq) ?_;refine av rfl (av (Hf L) ?_);refine(?_ :Q .next ⟨_,_,(iU me D ws op (r++[.list (ts.map .str++[.str t])])).set (me.length+5+r.length) (.list (ts.map .str++[.str (t++">")]))⟩);rw[KE];exact h
theorem N6(U:cD P g)(hz:ts.length<=10)(hw:ws.length<=1000)(h:Q .next ⟨rf x0 x1 x2 x3 me.length line sk [u,w,v] (s7::q_::some (.loc (me.length+5+r.length))::q9),ce,iU me D (ws++ts) op (r++[.list (ts.map .str)])⟩):yG.1 ⟨rf x0 x1 x2 x3 me.length line sk [u,w,v] (s7::q_::some (.loc (me.length+5+r.length))::q9),ce,iU me D ws op (r++[.list (ts.map .str)])⟩ Q:=by have J:(iU me D ws op (r++[.list (ts.map .str)]))[me.length+3]?=some (.list (ws.map .str)):=lI 3 rfl;refine b_ (bk J) ?_;refine av (cV J) ?_;refine av (cV lq) ?_;refine b_ (cT (by rw[ax,ax];exact aQ [_,_] (.c 1 (.v 0) (.n 10) (.c 1 (.v 1) (.n 1000) .nil)) 0 (.a (.v 1) (.v 0)) (.n 16777216) tt hz hw)) ?_;refine(?_ :Q .next ⟨_,_,(iU me D ws op (r++[.list (ts.map .str)])).set (me.length+3) (.list (ws.map .str++ts.map .str))⟩);rw[<-fg,KD];exact h
theorem N7(U:cD P g)(hz:op.length<=1000)(h:Q .next ⟨rf x0 x1 x2 x3 me.length line sk [u,w,v] (some (.str (vH o))::q_::re::q9),ce,iU me D ws (op++[o]) r⟩):yH.1 ⟨rf x0 x1 x2 x3 me.length line sk [u,w,v] (some (.str (vH o))::q_::re::q9),ce,iU me D ws op r⟩ Q:=by have J:(iU me D ws op r)[me.length+4]?=some (.list (Du op)):=lI 4 rfl;refine b_ (bk J) ?_;refine lj J (by unfold Du;rw[ax];exact aQ [_] (.c 1 (.v 0) (.n 1000) .nil) 0 (.v 0) (.n 10000) tt hz) ?_ h;rw[show Du op++[V.str (vH o)]=Du (op++[o]) by unfold Du;rw[fg];rfl];exact Pm
end
end
def E4(q:Rl):Ev->Prop
 | .st o l m=>l≠ .k/\m<6
 | .en o l=>l≠ .k/\(q.sk=0->q.op≠[])
 | .da w g=>w<6
noncomputable def vI:ad Fl:=L2 λM=>∀{x0 x1 x2:Option V}{me r:List O}{D:cR}{left:List Str}{q:Rl}{e:Ev}{ll:Nat}{s7 q_ re:Option V}{q9:List (Option V)}{Qm},tE D->E4 q e->q.ws.length<=900->q.op.length<=900->me[ll]?=some (.list (left.map .str))->
 (∀r' s7 q_ re,Qm .next ⟨rf x0 x1 x2 (some (.loc ll)) me.length (bO D left q e).line (bO D left q e).sk (vY e) (s7::q_::re::q9),[],iU me D (bO D left q e).ws (bO D left q e).op r'⟩)->
 M ⟨rf x0 x1 x2 (some (.loc ll)) me.length q.line q.sk (vY e) (s7::q_::re::q9),[],iU me D q.ws q.op r⟩ Qm
noncomputable def rf'(x0 x1 x2 x3:Option V)(m:Nat)(line:Nat)(sk:V)(xs:List V)(r:List (Option V)):List (Option V):=x0::x1::x2::x3::some (.loc m)::some (.loc (m+1))::some (.loc (m+2))::some (.loc (m+3))::some (aO line)::some (.loc (m+4))::some sk::(xs.map some++r)
theorem TR(n:Nat):decide ((0:Int)<((n:Nat):Int))= !(Nat.beq n 0):=by
 cases n with
 |zero=>rfl
 |succ n=>exact dI (Int.natCast_pos.mpr (Nat.succ_pos n))
section
section
variable {ws:List Str}{op:List (Option Bool)}{line sk:Nat}{w:V}
theorem SI(U:cD P g)(G:tE D)(hm:m<6)(hw:ws.length<=900)(ho:op.length<=900)(h:∀r' re,Q .next ⟨rf x0 x1 x2 x3 me.length line sk [u,w,aO m] (some (.str (vH o))::some (.str (qa D o l))::re::q9),ce,iU me D (ws++fE (pX (o6 D op o l) m)) (op++[o]) r'⟩):aV yC.1 (aV yD.1 (aV yE.1 (aV yF.1 (aV yG.1 (aV yH.1 (c8 .next)))))) ⟨rf x0 x1 x2 x3 me.length line sk [u,w,aO m] (some (.str (vH o))::some (.str (qa D o l))::re::q9),ce,iU me D ws op r⟩ Q:=by
 refine dZ (SH G op o l hm) λts t e h1 h2=>?_;refine N2 U (am (yI G o l) (by decide)) ?_;refine N3 U G ?_;refine N4 U hm ?_ ?_
 ·cases o with
  |none=>exact aU rfl
  |some s=>rw[kn];cases hc:op.contains (some s)<;>exact aU rfl
 rw[e];refine N5 U (am h1 (by decide)) (am h2 (by decide)) ?_;refine N6 U (by rw[ak];exact am (dQ h1 1) (by decide)) (am hw (by decide)) ?_;refine N7 U (am ho (by decide)) ?_;have:=h (r++[.list ((ts++[t++">"]).map .str)]) (some (.loc (me.length+5+r.length)));rw[e,A9] at this;exact this
end
theorem SJ(U:cD P g):NB g (wg P) k (ru (cB (bh (KK P) 271) 7)) vI:=by
 have H:=wh P;refine NB.c (NB.at' rfl (by exact(ab (ii (cG (bN (aN gq (ai H 11 rfl) bz) (bN (cG (g9 (aN ug (ai H 10 rfl) bv) (g9 (aN wv (ai H 12 rfl) (ai H 3 rfl)) rZ))) gD))) (ab (AK H 10 kE rfl bv) aC) (ab (ii (aN ug (ai H 10 rfl) bv) (ab (ii (aN gq (ai H 11 rfl) bz) (ab (AK H 10 BT rfl bv) aC) aC) aC) (ab (ii (aN gq (ai H 11 rfl) bz) (ab (ii (a7 (ai H 12 rfl)) (ab (cZ (bZ .list bD cJ b0 bB (ai H 7 rfl) (ae (eM (ai H 5 rfl) (ai H 12 rfl)) ay))) aC) aC) (ab (ii (aN gq (ai H 13 rfl) bz) (ab (AK H 8 kE rfl (iG (a7 (ai H 12 rfl)) bv bv)) aC) aC) aC)) (ab (EZ.2 U) (ab (E0.2 U) (ab (ii (aN gq (ai H 11 rfl) bz) (ab (cZ (bZ .list bD kt jX oO (ai H 9 rfl) ay)) (ab (cZ (bZ .list bD cJ b0 bB (ai H 7 rfl) (ae (cY f_ (cY f_ bz (ai H 15 rfl)) bz) ay))) aC)) (ab (yC.2 U) (ab (yD.2 U) (ab (yE.2 U) (ab (yF.2 U) (ab (yG.2 U) (ab (yH.2 U) aC))))))) aC)))) aC)) aC)) aC))) ?_;refine pO (@λx0 x1 x2 me r D left q e ll s7 q_ re q9 Q G he hw ho Z h=>?_);obtain⟨ws,line,op,sk⟩:=q;cases e with
 |st o l m=>
  have skip:((!(Nat.beq sk 0))||dN (eO o l) left)=true->Q .next ⟨rf x0 x1 x2 (some (.loc ll)) me.length line (sk+1) [.str "start",.str (eO o l),aO m] (s7::q_::re::q9),[],iU me D ws op r⟩:=λe=>by
   have e2:bO D left ⟨ws,line,op,sk⟩ (.st o l m)=⟨ws,line,op,sk+1⟩:=by refine(?_ :(bif (!(Nat.beq sk 0))||dN (eO o l) left then _ else _)=_);rw[e];rfl
   rw[e2] at h;exact h r s7 q_ re
  refine bu (λe=>?_) (λe=>?_)
  ·exact skip (by rw[<-TR,e];rfl)
  ·refine E3 (K:=λb=>br b _ _) (ac Z) ?_;refine bu (λe'=>?_) (λe'=>?_)
   ·exact skip (by rw[e',Bool.or_true])
   ·have e2:bO D left ⟨ws,line,op,sk⟩ (.st o l m)=⟨ws++fE (pX (o6 D op o l) m),line,op++[o],sk⟩:=by refine(?_ :(bif (!(Nat.beq sk 0))||dN (eO o l) left then _ else _)=_);rw[<-TR,e,e'];rfl
    rw[e2] at h;refine wR e ?_;refine E1 U he.1 ?_;refine E2 U he.1 G ?_;exact SI U G he.2 hw ho λr' re=>h r' _ _ re
 |en o l=>
  refine bu (λe=>?_) (λe=>?_)
  ·cases sk with
   |zero=>exact nB e
   |succ n=>refine(?_ :Q .next ⟨rf' x0 x1 x2 (some (.loc ll)) me.length line (V.int (((n+1:Nat):Int)-1)) [.str "end",.str (eO o l),.int 0] (s7::q_::re::q9),[],iU me D ws op r⟩);rw[show((n+1:Nat):Int)-1=((n:Nat):Int) by omega];exact h r s7 q_ re
  ·have e3:Nat.beq sk 0=true:=by have:=TR sk;rw[e] at this;cases hb:Nat.beq sk 0 with|true=>rfl|false=>rw[hb] at this;exact nB this
   have e2:bO D left ⟨ws,line,op,sk⟩ (.en o l)=⟨ws++["</"++qa D o l++">"],line,op.dropLast,sk⟩:=by refine(?_ :(bif Nat.beq sk 0 then _ else _)=_);rw[e3];rfl
   rw[e2] at h;obtain⟨SK,o',rfl⟩:∃a b,op=a++[b]:=by
    rcases List.eq_nil_or_concat op with rfl|⟨d,j,rfl⟩
    ·exact absurd rfl (he.2 (bK e3))
    ·exact⟨d,j,by simp⟩
   rw[lR] at h;refine E1 U he.1 ?_;refine E2 U he.1 G ?_;have M:=yI G o l;have e9:(iU me D ws (SK++[o']) r)[me.length+4]?=some (.list (Du SK++[.str (vH o')])):=by rw[show Du SK++[V.str (vH o')]=Du (SK++[o']) by unfold Du;rw[fg];rfl];exact lI 4 rfl
   refine b_ (bk e9) ?_;rw[ak] at ho;refine qV e9 (by unfold Du;rw[ax];exact am (ir ho) (by decide)) ?_;rw[Pm];have e8:(iU me D ws SK r)[me.length+3]?=some (.list (ws.map .str)):=lI 3 rfl;refine b_ (bk e8) ?_;refine b_ (cT (by refine(?_ :2+(qa D o l).length<=_);exact aQ [_] (.c 1 (.v 0) (.n 300) .nil) 0 (.a (.n 2) (.v 0)) (.n 16777216) tt M)) ?_;refine b_ (cT (by rw[bH];refine(?_ :2+(qa D o l).length+1<=_);exact aQ [_] (.c 1 (.v 0) (.n 300) .nil) 0 (.a (.a (.n 2) (.v 0)) (.n 1)) (.n 16777216) tt M)) ?_;refine lj e8 (by rw[ax];exact am hw (by decide)) ?_ (h r _ _ re);rw[show ws.map V.str++[V.str ("</"++qa D o l++">")]=(ws++["</"++qa D o l++">"]).map .str by rw[fg];rfl];exact KD
 |da w f=>
  refine bu (λe=>?_) (λe=>?_)
  ·have e3:Nat.beq sk 0=false:=by have:=TR sk;rw[e] at this;cases hb:Nat.beq sk 0 with|false=>rfl|true=>rw[hb] at this;exact yU this
   have e2:bO D left ⟨ws,line,op,sk⟩ (.da w f)=⟨ws,line,op,sk⟩:=by refine(?_ :(bif Nat.beq sk 0 then _ else _)=_);rw[e3];rfl
   rw[e2] at h;exact h r s7 q_ re
  ·have e3:Nat.beq sk 0=true:=by have:=TR sk;rw[e] at this;cases hb:Nat.beq sk 0 with|true=>rfl|false=>rw[hb] at this;exact nB this
   have e2:bO D left ⟨ws,line,op,sk⟩ (.da w f)=⟨bif Nat.beq w 0 then ws else ws++[(eJ[w]?).getD ""],bif d3 f "\n" then line+(bif Nat.beq w 0 then 1 else 2) else line,op,sk⟩:=by refine(?_ :(bif Nat.beq sk 0 then _ else _)=_);rw[e3];rfl
   rw[e2] at h;cases w with
   |zero=>
    refine bu (λe'=>?_) (λe'=>?_)
    ·rw[e'] at h;exact h r s7 q_ re
    ·rw[e'] at h;exact h r s7 q_ re
   |succ w=>
    obtain⟨t,C⟩:∃v,eJ[w+1]?=some v:=⟨_,bC he⟩;rw[C] at h;have e8:(iU me D ws op r)[me.length+3]?=some (.list (ws.map .str)):=lI 3 rfl;have e7:(iU me D ws op r)[me.length+1]?=some (.list (eJ.map .str)):=lI 1 rfl;refine b_ (bk e8) ?_;refine bJ e7 (jr (eR (fM he (by decide))) (by rw[bi,C];rfl)) ?_;refine lj e8 (Dd:=iU me D (ws++[t]) op r) (by rw[ax];exact am hw (by decide)) ?_ ?_
    ·rw[show ws.map V.str++[V.str t]=(ws++[t]).map .str by rw[fg];rfl];exact KD
    ·refine bu (λe'=>?_) (λe'=>?_)
     ·rw[e'] at h;exact h r s7 q_ re
     ·rw[e'] at h;exact h r s7 q_ re
end
inductive hU(D:cR)(left:List Str):Rl->List Ev->Prop
 |nil {q:Rl}:hU D left q []
 |cons {q:Rl} {e:Ev} {es:List Ev}:E4 q e->q.ws.length<=900->q.op.length<=900->hU D left (bO D left q e) es->hU D left q (e::es)
noncomputable def N8:Rl:=⟨[],1,[],0⟩
noncomputable def cX(D:cR)(left:List Str)(es:List Ev):Rl:=es.foldl (bO D left) N8
def SL(me:List O)(lv:List V)(es:List Ev):Prop:=aE (λv e=>∃t,v= .loc t/\me[t]?=some (.tup (vY e))) lv es
theorem SL.inv(h:SL me vs (e::es)):∃t K,vs= .loc t::K/\me[t]?=some (.tup (vY e))/\SL me K es:=by
 cases h with
 |cons a b=>exact bx a λt e1 e2=>⟨t,_,by rw[e1],e2,b⟩
theorem hU.inv{q:Rl}(h:hU D left q (e::es)):E4 q e/\q.ws.length<=900/\q.op.length<=900/\hU D left (bO D left q e) es:=by cases h with|cons a b c d=>exact⟨a,b,c,d⟩
theorem Hg{le ll:Nat}{lv:List V}(G:tE D)(Z:me[le]?=some (.list lv))(hll:me[ll]?=some (.list (left.map .str))):∀(es:List Ev)(vs:List V)(i:Nat)(q:Rl)(r:List O)(w SM SN Pn Po Pp:Option V),lv.drop i=vs->SL me vs es->hU D left q es-> (∀r' w SM SN Pn Po Pp,Q .next ⟨some (.loc le)::x1::x2::some (.loc ll)::some (.loc me.length)::some (.loc (me.length+1))::some (.loc (me.length+2))::some (.loc (me.length+3))::some (aO (es.foldl (bO D left) q).line)::some (.loc (me.length+4))::some (aO (es.foldl (bO D left) q).sk)::w::SM::SN::Pn::Po::Pp::q9,[],iU me D (es.foldl (bO D left) q).ws (es.foldl (bO D left) q).op r'⟩)-> gr (bj le) (ve 3 (vV (du 11) (vV (du 12) (vV (du 13) pe)))) vI (es.length+1) i ⟨some (.loc le)::x1::x2::some (.loc ll)::some (.loc me.length)::some (.loc (me.length+1))::some (.loc (me.length+2))::some (.loc (me.length+3))::some (aO q.line)::some (.loc (me.length+4))::some (aO q.sk)::w::SM::SN::Pn::Po::Pp::q9,[],iU me D q.ws q.op r⟩ Q:=λes=>by
 induction es with
 |nil=>intro vs i q r w SM SN Pn Po Pp hd ha he h;exact iM (ba (ac Z) (drop_nil (hd.trans (by cases ha;rfl)))) (h r w SM SN Pn Po Pp)
 |cons e es T=>intro vs i q r w SM SN Pn Po Pp hd ha he h;refine dZ (SL.inv ha) λt K C I ha=>xA (fC (hd.trans C)) λM d2=>FC he.inv λSu hw ho NR=>FD (WE e) λu1 u2 u3 e3=>?_;refine fm (b:=.loc t) (ba (ac Z) M) ?_;refine av (o:=up (iU me D q.ws q.op r) (.loc t)) (v:=[u1,u2,u3]) (gy (ac (by rw[<-e3];exact I))) ?_;have q':=λh'=>(λ_ E=>E (D:=D) (left:=left) (q:=q) (e:=e) (me:=me) (r:=r) (ll:=ll) (x0:=some (.loc le)) (x1:=x1) (x2:=x2) (s7:=Pn) (q_:=Po) (re:=Pp) (q9:=q9) (Qm:=P6 (λσ=>gr (bj le) (ve 3 (vV (du 11) (vV (du 12) (vV (du 13) pe)))) vI (es.length+1) (i+1) σ Q) Q) G Su hw ho hll h':vI _ _);rw[e3] at q';refine q' λr' s7 q_ re=>?_;exact T K (i+1) _ r' _ _ _ _ _ _ d2 ha NR h
noncomputable def WH:List V->ad V:=L3 λM=>∀{D:cR}{left:List Str}{me:List O}{le ll:Nat}{es:List Ev}{lv:List V}{lo ce Q},tE D->me[le]?=some (.list lv)->SL me lv es->me[ll]?=some (.list (left.map .str))->hU D left N8 es->
 (∀X t w,(me++X)[w]?=some (.list ((cX D left es).ws.map .str))->(me++X)[t]?=some (.tup [.loc w,aO (cX D left es).line])->Q (.loc t) ⟨lo,ce,me++X⟩)->M [.loc le,.str D.one,.str D.two,.loc ll] ⟨lo,ce,me⟩ Q
section
theorem E5(U:cD P g):cO g (k+1) (.ref 271) WH:=by
 have H:=wh P;refine Er U H (NB.at rfl (by exact(ab (aP H 4 rfl (eD (ae bz (ae bz (ae bz (ae bz (ae bz (ae bz ay)))))))) (ab (aP H 5 rfl (eD (ae bz (ae bz (ae bz (ae bz (ae bz (ae bz ay)))))))) (ab (aP H 6 rfl (Rw (xT bz (ai H 1 rfl) (xT bz (ai H 2 rfl) Jt)))) (ab (aP H 7 rfl (eD ay)) (ab (aP H 8 rfl bv) (ab (aP H 9 rfl (eD ay)) (ab (aP H 10 rfl bv) (ab (mf (ai H 0 rfl) (qH (dz (b8 H 11 rfl) (dz (b8 H 12 rfl) (dz (b8 H 13 rfl) lF)))) (SJ U)) (ab (cP (ng (ae (ai H 7 rfl) (ae (ai H 8 rfl) ay)))) aC))))))))))) rfl (by kernel_rfl) (λa b c d S=>rfl) ?_;refine kW (@λD left me le ll es lv lo ce Q G h1 h2 h3 h4 h=>?_);refine⟨_,_,_,_,rfl,?_⟩;refine o3 ?_;refine b_ (b:=IL (qj ((me++[O.list (eY.map .str)])++[O.list (eJ.map .str)]++[O.dict []])[((me++[O.list (eY.map .str)])++[O.list (eJ.map .str)]).length]?)&&l8 [("{u}",V.str D.one),("{v}",V.str D.two)]) (by rw[aR];kernel_rfl) ?_;refine(?_ :∃m,gr (bj le) (ve 3 (vV (du 11) (vV (du 12) (vV (du 13) pe)))) vI m 0 ⟨some (.loc le)::some (.str D.one)::some (.str D.two)::some (.loc ll)::some (.loc me.length)::some (.loc (me++[O.list (eY.map .str)]).length)::some (.loc (me++[O.list (eY.map .str)]++[O.list (eJ.map .str)]).length)::some (.loc ((me++[O.list (eY.map .str)]++[O.list (eJ.map .str)]++[O.dict []]).set (me++[O.list (eY.map .str)]++[O.list (eJ.map .str)]).length (.dict (yB D))).length)::some (aO 1)::some (.loc ((me++[O.list (eY.map .str)]++[O.list (eJ.map .str)]++[O.dict []]).set (me++[O.list (eY.map .str)]++[O.list (eJ.map .str)]).length (.dict (yB D))++[O.list []]).length)::some (aO 0)::none::none::none::none::none::none::List.replicate 4 none,[],
  (me++[O.list (eY.map .str)]++[O.list (eJ.map .str)]++[O.dict []]).set (me++[O.list (eY.map .str)]++[O.list (eJ.map .str)]).length (.dict (yB D))++[O.list []]++[O.list []]⟩ (rH (aV (ao (ao (ao (dX 7) λv=>ao (ao (dX 8) λv=>ao (c8 []) (iV v)) (iV v)) oM) vd) (c8 Fl.next)) λfl a9=>Q (nF fl) ⟨lo,ce,a9.mem⟩))
 have e1:(me++[O.list (eY.map .str)]).length=me.length+1:=ak;have e2:(me++[O.list (eY.map .str)]++[O.list (eJ.map .str)]).length=me.length+2:=by rw[ak,e1];rfl
 have e3:(me++[O.list (eY.map .str)]++[O.list (eJ.map .str)]++[O.dict (yB D)]).length=me.length+3:=by rw[ak,e2];rfl
 have e4:(me++[O.list (eY.map .str)]++[O.list (eJ.map .str)]++[O.dict (yB D)]++[O.list []]).length=me.length+4:=by rw[ak,e3];rfl
 have E:me++[O.list (eY.map .str)]++[O.list (eJ.map .str)]++[O.dict (yB D)]++[O.list []]++[O.list []]=iU me D [] [] []:=by rw[au,au,au,au];rfl
 rw[kK,E,e4,e3,e2,e1];refine⟨es.length+1,Hg G h1 h3 es lv 0 N8 [] none none none none none none rfl h2 h4 λr' w SM SN Pn Po Pp=>?_⟩;refine(?_ :Q (.loc (iU me D (cX D left es).ws (cX D left es).op r').length) ⟨lo,ce,iU me D (cX D left es).ws (cX D left es).op r'++[.tup [.loc (me.length+3),aO (cX D left es).line]]⟩);rw[tW,ri];have t:(iU me D (cX D left es).ws (cX D left es).op (r'++[.tup [.loc (me.length+3),aO (cX D left es).line]]))[me.length+5+r'.length]?=some (.tup [.loc (me.length+3),aO (cX D left es).line]):=lq;exact h _ _ _ (lI 3 rfl) t
end
end
section
variable {Q:Fl->St->Prop}{g:G}{mx:Int}{rr:List (Option V)}{ce:List Nat}{me:List O}{a b r ts xs I:List Str}{k l la lb:Nat}{S:Nat->List O->St}{p q:Option V}{P:Params}{C:ad Bool}{x:Str}{α:Type}
theorem Dv{n:Nat}(ts:List Str):wx (xm me n) (ts.map .str)=some (ts.map PyData.str):=by
 induction ts with
 |nil=>rfl
 |cons t ts T=>exact(bE (show xm me n (.str t)=some (.str t) by cases n<;>rfl)).trans (bE T)
theorem vJ(n:Nat)(h:me[l]?=some (.list (ts.map .str))):xm me (n+1) (.loc l)=some (.list (ts.map PyData.str)):=(bE h).trans (bE (Dv ts))
theorem KH(xs:List Str):∀I:List Str,PyData.eqvAll (xs.map PyData.str) (I.map PyData.str)=nh xs I:=by
 induction xs with
 |nil=>intro I;cases I<;>simp[PyData.eqvAll,nh]
 |cons x xs T=>
  intro I;cases I with
  |nil=>simp[PyData.eqvAll,nh]
  |cons y I=>unfold nh at T ⊢;rw[cy,cy,PyData.eqvAll,T,PyData.eqv,Bool.eq_iff_iff,aM,decide_eq_true_iff,decide_eq_true_iff,beq_iff_eq,List.cons.injEq]
def ry(ts:List Str):Prop:=∀t∈ts,PySem.PyData.strOk t=true
theorem rj:∀{ts:List Str},ry ts->PyData.canLayAll0 (ts.map PyData.str)=true/\PyData.depthAll (ts.map PyData.str)=0
 | [],_=>⟨by simp[PyData.canLayAll0],by simp[PyData.depthAll]⟩
 |t::ts,h=>by refine xA (rj (ts:=ts) λx B=>h x (.tail _ B)) λh1 h2=>?_;rw[cy,PyData.canLayAll0,PyData.depthAll,h1,h2,PyData.canLay0,h t (.head _),PyData.depth];exact⟨rfl,rfl⟩
theorem s9(h:ry ts):SeqAt.shaped (.list (ts.map PyData.str))=true:=by refine xA (rj h) λh1 h2=>?_;unfold SeqAt.shaped;rw[PyData.canLay0,PyData.depth,h1,h2];rfl
theorem KI{l':Nat}{K:Bool->Prop}(h:me[l]?=some (.list (xs.map .str)))(h':me[l']?=some (.list (I.map .str)))(B:ry xs)(hy:ry I)(q:K (nh xs I)):aA (xm me 4 (.loc l)) λx=>aA (xm me 4 (.loc l')) λy=>gd (SeqAt.shaped x&&SeqAt.shaped y) (K (PyData.eqv x y)):=by refine av (vJ 3 h) (av (vJ 3 h') (b_ (by rw[s9 B,s9 hy];rfl) ?_));rw[PyData.eqv,KH];exact q
theorem jE{lo:List (Option V)}{a b:V}{f m:Option Int}{xs I:List V}{Q:V->St->Prop}(h:me[l]?=some (.list xs))(hz:xs.length<=10000)(ha:l5 a=some f)(hb:l5 b=some m)(e:fR xs f m=I)(q:Q (.loc me.length) ⟨lo,ce,me++[.list I]⟩):aA (l5 a) λf=>aA (l5 b) λm=>aA (dC me (.loc l)) λp=>gd (bw p.2.length) (Q (.loc me.length) ⟨lo,ce,me++[.list (fR p.2 f m)]⟩):=by subst e;exact av ha (av hb (av (cV h) (b_ (cM hz) q)))
theorem n_(xs:List α)(n:Nat):fR xs (some ((n:Nat):Int)) none=xs.drop n:=by
 refine(?_ :(xs.drop (Nat.min n xs.length)).take (xs.length-Nat.min n xs.length)=xs.drop n);have:Nat.min n xs.length=min n xs.length:=rfl;rw[this];by_cases h:n<=xs.length
 ·rw[kb h,oz (by rw[cb];exact aQ [_] .nil 0 (.v 0) (.v 0) tt)]
 ·rw[j9 (by exact aQ [_,_] (.g 1 (.v 0) (.v 1) .nil) 0 (.v 1) (.v 0) tt h),Nat.sub_self,List.take_zero,oA (by exact aQ [_,_] (.g 1 (.v 0) (.v 1) .nil) 0 (.v 1) (.v 0) tt h)]
theorem N9(xs:List α):fR xs none none=xs:=by refine(?_ :(xs.drop 0).take (xs.length-0)=xs);rw[gV,Nat.sub_zero,List.take_length]
theorem N_(xs:List α)(n:Nat):fR xs none (some (Int.negSucc n))=(xs.reverse.drop (n+1)).reverse:=by refine(?_ :(xs.drop 0).take (xs.length-(n+1)-0)=_);rw[gV,Nat.sub_zero,List.drop_reverse,gL]
noncomputable def SO(n:Nat):V:=.int (-((n:Nat):Int))
noncomputable def yJ:List Str->List Str->Bool
 |x::_,y::_=>d3 x y
 |_,_=>false
noncomputable def cH:List Str->List Str->List Str×List Str
 |x::a,y::b=>bif d3 x y then cH a b else(x::a,y::b)
 |a,b=>(a,b)
theorem fA(x y:Str)(a b:List Str):cH (x::a) (y::b)=bif d3 x y then cH a b else(x::a,y::b):=rfl
theorem A_(h:yJ a b=false):cH a b=(a,b):=by
 cases a with
 |nil=>rfl
 |cons x a=>cases b with
  |nil=>rfl
  |cons y b=>rw[fA,show d3 x y=false from h];rfl
theorem Oa{B:ad Fl}(hC:∀n X K,(∀X',K (yJ (a.drop n) (b.drop n)) (S n (X++X')))->n<=a.length->C (S n X) K)(w:∀n X K,K .next (S (n+1) X)->n<=a.length->B (S n X) K):∀m n X,n<=a.length->(a.drop n).length<=m->(∀n' X',n'<=a.length->(a.drop n',b.drop n')=cH (a.drop n) (b.drop n)->Q .next (S n' (X++X')))->mv C B (m+1) (S n X) Q:=λm=>by
 induction m with
 |zero=>intro n X hn hm h;refine hC n X _ (λX'=>?_) hn;have e:=rz (Nat.le_zero.mp hm);refine wR (by rw[e];rfl) (h n X' hn ?_);rw[e];cases b.drop n<;>rfl
 |succ m T=>
  intro n X hn hm h;refine hC n X _ (λX'=>?_) hn;refine bu (λe=>?_) (λe=>h n X' hn (A_ e).symm);cases ea:a.drop n with
  |nil=>rw[ea] at e;exact nB e
  |cons x i=>cases eb:b.drop n with
   |nil=>rw[ea,eb] at e;exact nB e
   |cons y b'=>
    rw[ea,eb] at e h;have e:d3 x y=true:=e;have e1:=(fC ea).2;have e2:=(fC eb).2;have Z:n+1<=a.length:=by have:=ag List.length ea;rw[cb,aJ] at this;exact lA (λq1 q2=>aQ [_,_,_,_] (.f 1 (.v 0) (.a (.v 1) (.n 1)) (.e 1 (.a (.v 0) (.v 2)) (.v 3) .nil)) 0 (.a (.v 2) (.n 1)) (.v 3) tt this q2) (λq1 q2=>aQ [_,_,_,_] (.c 1 (.v 0) (.v 1) (.f 1 (.v 2) (.a (.v 3) (.n 1)) (.e 1 (.v 2) (.n 0) .nil))) 0 (.a (.v 0) (.n 1)) (.v 1) tt hn this q2)
    refine w n _ _ (T (n+1) _ Z ?_ λn' X'' k h'=>?_) hn
    ·rw[e1];rw[ea,aJ] at hm;exact ow hm
    ·rw[au];refine h n' _ k ?_;rw[h',e1,e2,fA,e];rfl
theorem Ba{B:ad Fl}{σ:St}(e:S 0 []=σ)(hC:∀n X K,(∀X',K (yJ (a.drop n) (b.drop n)) (S n (X++X')))->n<=a.length->C (S n X) K)(w:∀n X K,K .next (S (n+1) X)->n<=a.length->B (S n X) K)(h:∀n X,n<=a.length->(a.drop n,b.drop n)=cH a b->Q .next (S n X)):mv C B (a.length+1) σ Q:=by subst e;refine Oa hC w a.length 0 [] (aW _) (aF _) λn X hn e=>?_;rw[kc];exact h n X hn e
noncomputable def fr(a b:Nat)(mx:Int)(p q:Option V)(r:List (Option V)):List (Option V):=some (.loc a)::some (.loc b)::some (.int mx)::p::q::r
theorem E6{xs:List V}{n:Nat}{v:V}(hz:xs.length<=1000)(e:xs.reverse[n]?=some v):uj xs (-((n:Nat):Int)-1)=some v:=by
 have Z:n<xs.length:=by have:=(List.getElem?_eq_some_iff.mp e).1;rwa[dH] at this
 rw[show-((n:Nat):Int)-1=Int.negSucc n from((Int.negSucc_eq n).trans Int.neg_add).symm];refine(?_ :uj.Tx (Nat.ble (n+1) xs.length&&bw xs.length) xs[xs.length-(n+1)]?=_);rw[cM (by exact aQ [_] (.c 1 (.v 0) (.n 1000) .nil) 0 (.v 0) (.n 10000) tt hz),d8 Z];rw[List.getElem?_reverse Z] at e;rw[show xs.length-(n+1)=xs.length-1-n by rw[Nat.sub_sub,gz 1]];exact e
section
variable {lo:List (Option V)}
theorem mU{n:Nat}{xs I:List V}{Q:V->St->Prop}(h:me[l]?=some (.list xs))(hz:xs.length<=10000)(e:(xs.reverse.drop n).reverse=I)(q:Q (.loc me.length) ⟨lo,ce,me++[.list I]⟩):br (!((-((n:Nat):Int))==0)) (aA (l5 .none) λf=>aA (l5 (.int (-((n:Nat):Int)))) λm=>aA (dC me (.loc l)) λp=>gd (bw p.2.length) (Q (.loc me.length) ⟨lo,ce,me++[.list (fR p.2 f m)]⟩)) (aA (l5 .none) λf=>aA (l5 .none) λm=>aA (dC me (.loc l)) λp=>gd (bw p.2.length) (Q (.loc me.length) ⟨lo,ce,me++[.list (fR p.2 f m)]⟩)):=by
 subst e;cases n with
 |zero=>refine wR rfl ?_;refine jE h hz rfl rfl ?_ q;rw[N9,gV,gL]
 |succ n=>refine vW rfl ?_;exact jE h hz rfl rfl (N_ xs n) q
end
theorem tX(xs:List Str)(n:Nat):((xs.map V.str).reverse.drop n).reverse=((xs.reverse.drop n).reverse).map V.str:=by rw[gS,ki,gS]
section
noncomputable abbrev Ob (P:Params):df:=fb (KK P) 224 ["a","b","max_cost","pre","post","row","result","bindex","bchar","distance","minimum","index","substitute","insert_delete"] []
noncomputable def WI:List Str:=["_MOVE_COST","len","_MAX_STRING_SIZE","list","range","_substitution_cost","min"]
abbrev jF(i j:Nat):=NN Ob WI 224 i j
theorem SP(P:Params):cc (Ob P) WI .cell:=ik (by kernel_rfl)
variable {a b:Nat}{r5:List (Option V)}
theorem Dw{n:Nat}(e:xs.drop n=x::r):(xs.map V.str)[n]?=some (.str x):=by rw[bi,(fC e).1];rfl
theorem E7{n:Nat}(e:xs.reverse.drop n=x::r):(xs.map V.str).reverse[n]?=some (.str x):=by rw[<-gS];exact Dw e
noncomputable def Dx:jF 2 0:=⟨_,λU H=>by exact(xQ (cG (bN (a7 (iI (ai H 0 rfl) (gI (ai H 3 rfl)) iH)) (bN (a7 (iI (ai H 1 rfl) (gI (ai H 3 rfl)) iH)) (bN (aN gq (eM (ai H 0 rfl) (ai H 3 rfl)) (eM (ai H 1 rfl) (ai H 3 rfl))) gD)))) (ab (AK H 3 kE rfl bv) aC))⟩
noncomputable def Dy:jF 6 0:=⟨_,λU H=>by exact(xQ (cG (bN (a7 (iI (ai H 0 rfl) iH (gI (MY (ai H 4 rfl) ie)))) (bN (a7 (iI (ai H 1 rfl) iH (gI (MY (ai H 4 rfl) ie)))) (bN (aN gq (eM (ai H 0 rfl) (cY qg (ai H 4 rfl) bv)) (eM (ai H 1 rfl) (cY qg (ai H 4 rfl) bv))) gD)))) (ab (AK H 4 BT rfl bv) aC))⟩
section
theorem Oc(U:cD P g)(ha:me[a]?=some (.list (xs.map .str)))(hb:me[b]?=some (.list (I.map .str)))(s:xs.length<=1000)(t:I.length<=1000)(h:∀n X,n<=xs.length->(xs.drop n,I.drop n)=cH xs I->Q .next ⟨fr a b mx (some (aO n)) q r5,ce,me++X⟩):Dx.1 ⟨fr a b mx (some (aO 0)) q r5,ce,me⟩ Q:=by
 refine⟨xs.length+1,Ba (S:=λn X=>⟨fr a b mx (some (aO n)) q r5,ce,me++X⟩) (b:=I) (by rw[aS]) (λn X K h hn=>?_) (λn X K h hn=>h) h⟩;have z:(me++X)[a]?=_:=ac ha;have D:(me++X)[b]?=_:=ac hb;have h:∀X',K (yJ (xs.drop n) (I.drop n)) ⟨fr a b mx (some (aO n)) q r5,ce,(me++X)++X'⟩:=λX'=>by rw[au];exact h X'
 revert z D h;generalize me++X=Dd;intro z D h;refine jE (a:=aO n) (b:=.none) (I:=(xs.drop n).map .str) z (by rw[ax];exact aQ [_] (.c 1 (.v 0) (.n 1000) .nil) 0 (.v 0) (.n 10000) tt s) rfl rfl (by rw[n_,ki]) ?_;refine jq aR (by rw[ax,cb];exact lA (λq1 q2=>aQ [_,_,_] (.c 1 (.v 0) (.n 1000) (.e 1 (.a (.v 1) (.v 2)) (.v 0) .nil)) 0 (.v 1) (.n 10000) tt s q2) (λq1 q2=>aQ [_] (.e 1 (.v 0) (.n 0) .nil) 0 (.v 0) (.n 10000) tt q2)) ?_;cases ea:xs.drop n with
 |nil=>rw[ea] at h;exact h _
 |cons x i=>
  refine jE (a:=aO n) (b:=.none) (I:=(I.drop n).map .str) (ac D) (by rw[ax];exact aQ [_] (.c 1 (.v 0) (.n 1000) .nil) 0 (.v 0) (.n 10000) tt t) rfl rfl (by rw[n_,ki]) ?_;refine jq aR (by rw[ax,cb];exact lA (λq1 q2=>aQ [_,_,_] (.c 1 (.v 0) (.n 1000) (.e 1 (.a (.v 1) (.v 2)) (.v 0) .nil)) 0 (.v 1) (.n 10000) tt t q2) (λq1 q2=>aQ [_] (.e 1 (.v 0) (.n 0) .nil) 0 (.v 0) (.n 10000) tt q2)) ?_;cases eb:I.drop n with
  |nil=>rw[ea,eb] at h;rw[au];exact h _
  |cons y b'=>
   rw[ea,eb] at h;refine bJ (ac (ac z)) (jr (aQ [_,_] (.c 1 (.v 0) (.n 1000) (.c 1 (.v 1) (.v 0) .nil)) 0 (.v 1) (.n 10000) tt s hn) (Dw ea)) ?_;refine bJ (ac (ac D)) (jr (aQ [_,_] (.c 1 (.v 0) (.n 1000) (.c 1 (.v 1) (.v 0) .nil)) 0 (.v 1) (.n 10000) tt s hn) (Dw eb)) ?_;rw[au];refine bu (λe=>?_) (λe=>?_)
   ·have:=h ([O.list ((x::i).map .str)]++[O.list ((y::b').map .str)]);rw[show yJ (x::i) (y::b')=true from e] at this;exact this
   ·have:=h ([O.list ((x::i).map .str)]++[O.list ((y::b').map .str)]);rw[show yJ (x::i) (y::b')=false from e] at this;exact this
theorem KJ(U:cD P g)(ha:me[a]?=some (.list (xs.map .str)))(hb:me[b]?=some (.list (I.map .str)))(s:xs.length<=1000)(t:I.length<=1000)(h:∀n X,n<=xs.length->(xs.reverse.drop n,I.reverse.drop n)=cH xs.reverse I.reverse->Q .next ⟨fr a b mx p (some (SO n)) r5,ce,me++X⟩):Dy.1 ⟨fr a b mx p (some (SO 0)) r5,ce,me⟩ Q:=by
 refine⟨xs.reverse.length+1,Ba (by rw[aS]) (λn X K h hn=>?_) (λn X K h hn=>?_) (λn X hn=>h n X (by rw[<-dH];exact hn))⟩
 ·rw[dH] at hn;have z:(me++X)[a]?=_:=ac ha;have D:(me++X)[b]?=_:=ac hb;have h:∀X',K (yJ (xs.reverse.drop n) (I.reverse.drop n)) ⟨fr a b mx p (some (SO n)) r5,ce,(me++X)++X'⟩:=λX'=>by rw[au];exact h X'
  revert z D h;generalize me++X=Dd;intro z D h;refine mU z (by rw[ax];exact aQ [_] (.c 1 (.v 0) (.n 1000) .nil) 0 (.v 0) (.n 10000) tt s) (tX xs n) ?_;refine jq aR (by rw[ax,dH,cb,dH];exact lA (λq1 q2=>aQ [_,_,_] (.c 1 (.v 0) (.n 1000) (.e 1 (.a (.v 1) (.v 2)) (.v 0) .nil)) 0 (.v 1) (.n 10000) tt s q2) (λq1 q2=>aQ [_] (.e 1 (.v 0) (.n 0) .nil) 0 (.v 0) (.n 10000) tt q2)) ?_;rw[ax,dH];cases ea:xs.reverse.drop n with
  |nil=>rw[ea] at h;exact h _
  |cons x i=>
   refine mU (ac D) (by rw[ax];exact aQ [_] (.c 1 (.v 0) (.n 1000) .nil) 0 (.v 0) (.n 10000) tt t) (tX I n) ?_;refine jq aR (by rw[ax,dH,cb,dH];exact lA (λq1 q2=>aQ [_,_,_] (.c 1 (.v 0) (.n 1000) (.e 1 (.a (.v 1) (.v 2)) (.v 0) .nil)) 0 (.v 1) (.n 10000) tt t q2) (λq1 q2=>aQ [_] (.e 1 (.v 0) (.n 0) .nil) 0 (.v 0) (.n 10000) tt q2)) ?_;rw[ax,dH,au];cases eb:I.reverse.drop n with
   |nil=>rw[ea,eb] at h;exact h _
   |cons y b'=>
    rw[ea,eb] at h;refine bJ (ac z) (E6 (by rw[ax];exact s) (E7 ea)) ?_;refine bJ (ac D) (E6 (by rw[ax];exact t) (E7 eb)) ?_;refine bu (λe=>?_) (λe=>?_)
    ·rw[show yJ (x::i) (y::b')=true from e] at h;exact h _
    ·rw[show yJ (x::i) (y::b')=false from e] at h;exact h _
 ·refine(?_ :K .next ⟨fr a b mx p (some (V.int (-((n:Nat):Int)-1))) r5,ce,me++X⟩);rw[show-((n:Nat):Int)-1= -((n+1:Nat):Int) from(Int.neg_add (a:=(n:Int)) (b:=1)).symm];exact h
end
end
noncomputable def eI(x y:Int):Int:=bif decide (y<x) then y else x
structure Row where
 row:List Int
 res:Int
 mn:Int
noncomputable def tG(y:Str):List Str->List Int->Int->Int->Int->List Int->Row
 |x::a,u::us,d,r,mn,dn=>tG y a us u (eI (eI r u+2) (d+bn y x)) (eI mn (eI (eI r u+2) (d+bn y x))) (dn++[eI (eI r u+2) (d+bn y x)])
 |_,us,_,r,mn,dn=>⟨dn++us,r,mn⟩
noncomputable def lf(la:Nat)(x1:Option V)(mx:Option V)(x3 x4:Option V)(o:Nat)(r:Int)(x7:Option V)(y:Str)(d mn:Int)(na mo j:Option V)(rr:List (Option V)):List (Option V):=some (.loc la)::x1::mx::x3::x4::some (.loc o)::some (.int r)::x7::some (.str y)::some (.int d)::some (.int mn)::na::mo::j::rr
noncomputable def gf(row:List Int):O:=.list (row.map .int)
noncomputable def KL:ad Fl:=L2 λM=>∀{me:List O}{la o i:Nat}{xs:List Str}{row:List Int}{x y:Str}{u d r mn:Int}{x1 x2 x3 x4 x7 mo j:Option V}{rr:List (Option V)}{ce Q},me[la]?=some (.list (xs.map .str))->me[o]?=some (gf row)->xs[i]?=some x->row[i]?=some u->xs.length<=1000->row.length<=1000->x.length<=100000->y.length<=100000->
 (∀mo j,Q .next ⟨lf la x1 x2 x3 x4 o (eI (eI r u+2) (d+bn y x)) x7 y u (eI mn (eI (eI r u+2) (d+bn y x))) (some (aO i)) mo j rr,ce,me.set o (gf (row.set i (eI (eI r u+2) (d+bn y x))))⟩)->
 M ⟨lf la x1 x2 x3 x4 o r x7 y d mn (some (aO i)) mo j rr,ce,me⟩ Q
theorem KM{x y:Int}{K:Int->Prop}(q:K (eI x y)):br (decide (y<x)) (K y) (K x):=by
 unfold eI at q;cases h:decide (y<x) with
 |true=>rw[h] at q;exact q
 |false=>rw[h] at q;exact q
def Pr:ad Fl:=aV (ao (dX 6) λv=>ao (dX 5) λa=>ao (dX 11) λj=>ao (l9 a j v) k_) (aV (ao (ao (dX 6) λa=>ao (dX 10) (wLt a)) (Rn (aV (ao (dX 6) (sW 10)) (c8 Fl.next)) (c8 Fl.next))) (c8 Fl.next))
def WJ:ad Fl:=aV (ao (ao (ao (dX 13) λv=>ao (ao (dX 12) λv=>ao (c8 []) (iV v)) (iV v)) Uu) (sW 6)) Pr
section
theorem SQ(U:cD P g):NB g (Ob P) (k+1) (ru (cB (ru (cB (bh (KK P) 224) 15)) 3)) KL:=by
 have H:=SP P;refine NB.c (NB.at' rfl (by exact(ab (aP H 12 rfl (cY f_ (ai H 9 rfl) (b7 (g7 U (by kernel_rfl)) (M9 U).ok (kU U H 5 8 rfl rfl) (ae (ai H 8 rfl) (ae (eM (ai H 0 rfl) (ai H 11 rfl)) ay))))) (ab (aP H 9 rfl (eM (ai H 5 rfl) (ai H 11 rfl))) (ab (aP H 13 rfl (cY f_ (b7 (λ_ _ _=>aX) D3 (bG U H 6 6 rfl rfl (by kernel_rfl)) (ae (ai H 6 rfl) (ae (ai H 9 rfl) ay))) (nU U H 0 1 rfl rfl))) (ab (aP H 6 rfl (b7 (λ_ _ _=>aX) D3 (bG U H 6 6 rfl rfl (by kernel_rfl)) (ae (ai H 13 rfl) (ae (ai H 12 rfl) ay)))) (ab (Jk (ai H 6 rfl) (ai H 5 rfl) (ai H 11 rfl) (M:=by intro _;rfl)) (ab (ii (aN Ox (ai H 6 rfl) (ai H 10 rfl)) (ab (aP H 10 rfl (ai H 6 rfl)) aC) aC) aC)))))))) ?_;refine pO (@λme la o i xs row x y u d r mn x1 x2 x3 x4 x7 mo j rr ce Q ha hr B N s zr lx w h=>?_);have hi:=(List.getElem?_eq_some_iff.mp N).1;have Go:=(List.getElem?_eq_some_iff.mp B).1;refine bJ ha (jr (aQ [_,_] (.c 1 (.v 0) (.n 1000) (.c 1 (.a (.v 1) (.n 1)) (.v 0) .nil)) 0 (.v 1) (.n 10000) tt s Go) (by rw[bi,B];rfl)) ?_;refine λ_ E=>E (d8 (am w (by decide))) (d8 (am lx (by decide))) ?_;refine bJ hr (jr (aQ [_,_] (.c 1 (.v 0) (.n 1000) (.c 1 (.a (.v 1) (.n 1)) (.v 0) .nil)) 0 (.v 1) (.n 10000) tt s Go) (by rw[bi,N];rfl)) ?_;refine KM (K:=λm=>WJ ⟨lf la x1 x2 x3 x4 o r x7 y u mn (some (aO i)) (some (.int (d+bn y x))) (some (.int (m+2))) rr,ce,me⟩ Q) ?_;refine KM (K:=λm=>Pr ⟨lf la x1 x2 x3 x4 o m x7 y u mn (some (aO i)) (some (.int (d+bn y x))) (some (.int (eI r u+2))) rr,ce,me⟩ Q) ?_;have:=h (some (.int (d+bn y x))) (some (.int (eI r u+2)));revert this;generalize eI (eI r u+2) (d+bn y x)=r';intro h;refine A7 hr (by rw[ax];exact aQ [_] (.c 1 (.v 0) (.n 1000) .nil) 0 (.v 0) (.n 10000) tt zr) rfl (by rw[ax];exact hi) ?_;have e:(row.map V.int).set i (.int r')=(row.set i r').map V.int:=by rw[List.map_set]
 rw[e];unfold eI at h;refine bu (λe=>?_) (λe=>?_)
 ·rw[e] at h;exact h
 ·rw[e] at h;exact h
end
theorem Dz{o n:Nat}{y:Str}{x1 x2 x3 x4 x7:Option V}(p5:la≠o)(ha:me[la]?=some (.list (xs.map .str)))(Yg:o<me.length)(hn:xs.length=n)(s:xs.length<=1000)(lx:∀x∈xs,x.length<=100000)(w:y.length<=100000):∀(as:List Str)(us dn:List Int)(i:Nat)(d r mn:Int)(na mo j:Option V),xs.drop i=as->us.length=as.length->dn.length=i-> (∀d9 na mo j,Q .next ⟨lf la x1 x2 x3 x4 o (tG y as us d r mn dn).res x7 y d9 (tG y as us d r mn dn).mn na mo j rr,ce,me.set o (gf (tG y as us d r mn dn).row)⟩)-> gr (gB 0 ((n:Nat):Int) 1) (du 11) KL (as.length+1) i ⟨lf la x1 x2 x3 x4 o r x7 y d mn na mo j rr,ce,me.set o (gf (dn++us))⟩ Q:=λas=>by
 induction as with
 |nil=>intro us dn i d r mn na mo j hd N hi h;have Z:=ag List.length hd;rw[cb,fK] at Z;exact iM (tV (lA (λq1 q2=>aQ [_,_,_,_] (.f 1 (.v 0) (.v 1) (.e 1 (.v 2) (.n 0) (.f 1 (.a (.v 2) (.v 3)) (.v 0) .nil))) 0 (.v 1) (.v 3) tt hn Z q2) (λq1 q2=>aQ [_,_,_] (.f 1 (.v 0) (.v 1) (.c 1 (.a (.v 0) (.n 1)) (.v 2) .nil)) 0 (.v 1) (.v 2) tt hn q1))) (h d na mo j)
 |cons x as T=>
  intro us dn i d r mn na mo j hd N hi h;cases us with
  |nil=>cases N
  |cons u us=>refine xA (fC hd) λM d2=>?_;have Z:=(List.getElem?_eq_some_iff.mp M).1;have S:=ag List.length hd;rw[cb,aJ] at S;refine fm (b:=aO i) ((yx (aQ [_,_,_] (.e 1 (.v 0) (.v 1) (.c 1 (.a (.v 2) (.n 1)) (.v 0) .nil)) 0 (.a (.v 2) (.n 1)) (.v 1) tt hn Z)).trans (by rw[fV,Int.mul_one];rfl)) ?_;refine λ_ E=>E ((c6 (λe=>p5 e.symm)).trans ha) (fF Yg) M (by rw[List.getElem?_append_right (by exact aQ [_,_] (.e 1 (.v 0) (.v 1) .nil) 0 (.v 0) (.v 1) tt hi),hi,Nat.sub_self];rfl) s (by rw[ak,aJ];have:=fU N;exact lA (λq1 q2=>aQ [_,_,_,_,_,_] (.c 1 (.v 0) (.n 1000) (.e 1 (.v 1) (.v 2) (.f 1 (.v 3) (.a (.v 4) (.n 1)) (.e 1 (.v 5) (.v 4) (.e 1 (.a (.v 3) (.v 2)) (.v 0) .nil))))) 0 (.a (.v 1) (.a (.v 5) (.n 1))) (.n 1000) tt s hi S this q2) (λq1 q2=>aQ [_,_,_,_,_,_] (.c 1 (.v 0) (.n 1000) (.e 1 (.v 1) (.v 2) (.c 1 (.a (.v 2) (.n 1)) (.v 0) (.f 1 (.v 3) (.a (.v 4) (.n 1)) (.e 1 (.v 5) (.v 4) (.e 1 (.v 3) (.n 0) .nil)))))) 0 (.a (.v 1) (.a (.v 5) (.n 1))) (.n 1000) tt s hi Z S this q2)) (lx x (ef M)) w λmo j=>?_;rw[List.set_set,show(dn++u::us).set i (eI (eI r u+2) (d+bn y x))=(dn++[eI (eI r u+2) (d+bn y x)])++us by rw[lO _ _ (by exact aQ [_,_] (.e 1 (.v 0) (.v 1) .nil) 0 (.v 0) (.v 1) tt hi),hi,Nat.sub_self,au];rfl];refine T us _ (i+1) u _ _ _ _ _ d2 (fU N) (by rw[ak,hi];rfl) h
theorem KN{xs:List O}{i:Nat}{o:O}(h:xs[i]?=some o):xs.set i o=xs:=by
 refine List.ext_getElem? λj=>?_;by_cases e:i=j
 ·subst e;rw[fF (List.getElem?_eq_some_iff.mp h).1,h]
 ·rw[c6 e]
noncomputable def SR:Int:=9223372036854775807
noncomputable def dU(y:Str)(xs:List Str)(row:List Int)(i:Nat):Row:=tG y xs row (((i:Nat):Int)*2) (((i:Nat):Int)*2) SR []
noncomputable def KO:ad Fl:=L2 λM=>∀{me:List O}{la lb o i:Nat}{xs I:List Str}{row:List Int}{y:Str}{mx r:Int}{x3 x4 x8 x9 tH na mo j:Option V}{rr:List (Option V)}{ce Q},la≠o->me[la]?=some (.list (xs.map .str))->me[lb]?=some (.list (I.map .str))->me[o]?=some (gf row)->row.length=xs.length->I[i]?=some y->xs.length<=1000->I.length<=1000->(∀x∈xs,x.length<=100000)->(∀x∈I,x.length<=100000)->
 (∀X x8 x9 tH na mo j,br (decide (mx<(dU y xs row i).mn)) (Q (.ret (.int (mx+1))) ⟨some (.loc la)::some (.loc lb)::some (.int mx)::x3::x4::some (.loc o)::some (.int (dU y xs row i).res)::some (aO i)::x8::x9::tH::na::mo::j::rr,ce,me.set o (gf (dU y xs row i).row)++X⟩)
 (Q .next ⟨some (.loc la)::some (.loc lb)::some (.int mx)::x3::x4::some (.loc o)::some (.int (dU y xs row i).res)::some (aO i)::x8::x9::tH::na::mo::j::rr,ce,me.set o (gf (dU y xs row i).row)++X⟩))->
 M ⟨some (.loc la)::some (.loc lb)::some (.int mx)::x3::x4::some (.loc o)::some (.int r)::some (aO i)::x8::x9::tH::na::mo::j::rr,ce,me⟩ Q
section
theorem SS(U:cD P g):NB g (Ob P) (k+1) (ru (cB (bh (KK P) 224) 15)) KO:=by
 have H:=SP P;refine NB.c (NB.at' rfl (by exact(ab (aP H 8 rfl (eM (ai H 1 rfl) (ai H 7 rfl))) (ab (pM (cY wm (ai H 7 rfl) (nU U H 0 1 rfl rfl)) (Rt (b8 H 9 rfl) (b8 H 6 rfl) (he:=by intro _;rfl)) (M:=by intro _;rfl) (hw:=by intro _;rfl)) (ab (aP H 10 rfl bv) (ab (r4 (b7 (λ_ _ _=>fW) mA (bG U H 4 1 rfl rfl (by kernel_rfl)) (ae (b7 (λ_ _ _=>aX) eW (bG U H 1 2 rfl rfl (by kernel_rfl)) (ae (ai H 0 rfl) ay)) ay)) (b8 H 11 rfl) (SQ U) (z:=by intro _ _;rfl)) (ab (ii (aN ug (ai H 10 rfl) (ai H 2 rfl)) (ab (cP (cY f_ (ai H 2 rfl) bv)) aC) aC) aC))))))) ?_;refine pO (@λme la lb o i xs I row y mx r x3 x4 x8 x9 tH na mo j rr ce Q p5 ha hb hr Z hy s t lx w h=>?_);have hi:=(List.getElem?_eq_some_iff.mp hy).1;have Yg:=(List.getElem?_eq_some_iff.mp hr).1;refine bJ (xs:=I.map .str) (i:=((i:Nat):Int)) (v:=.str y) hb (jr (aQ [_,_] (.c 1 (.v 0) (.n 1000) (.c 1 (.a (.v 1) (.n 1)) (.v 0) .nil)) 0 (.v 1) (.n 10000) tt t hi) (by rw[bi,hy];rfl)) ?_;refine b_ (b:=Nat.ble (((i:Nat):Int)).natAbs 1000000) (d8 (by rw[Int.natAbs_natCast];exact aQ [_,_] (.c 1 (.v 0) (.n 1000) (.c 1 (.a (.v 1) (.n 1)) (.v 0) .nil)) 0 (.v 1) (.n 1000000) tt t hi)) ?_;refine eG (xs:=xs.map .str) ha (by rw[ax];exact aQ [_] (.c 1 (.v 0) (.n 1000) .nil) 0 (.v 0) (.n 10000) tt s) ?_;rw[ax];refine yy (me:=me++[O.rng 0 ((xs.length:Nat):Int) 1]) (l:=me.length) (n:=xs.length) aR (aQ [_] (.c 1 (.v 0) (.n 1000) .nil) 0 (.v 0) (.n 10000) tt s) (xs.length+1) ?_;have Yh:(me++[O.rng 0 ((xs.length:Nat):Int) 1]).set o (gf ([]++row))=me++[O.rng 0 ((xs.length:Nat):Int) 1]:=KN (ac hr);have:=Dz (la:=la) (o:=o) (n:=xs.length) (me:=me++[O.rng 0 ((xs.length:Nat):Int) 1]) (xs:=xs) (y:=y) (x1:=some (.loc lb)) (x2:=some (.int mx)) (x3:=x3) (x4:=x4) (x7:=some (aO i)) (rr:=rr) (ce:=ce) (Q:=rH (aV (ao (ao (dX 10) λa=>ao (dX 2) (wGt a)) (Rn (aV (ao (ao (dX 2) λa=>ao (eH (V.int 1)) (PW a)) vd) (c8 Fl.next)) (c8 Fl.next))) (c8 Fl.next)) Q) p5 (ac ha) (by rw[ak];exact aQ [_,_,_] (.c 1 (.a (.v 0) (.n 1)) (.v 1) .nil) 0 (.a (.v 0) (.n 1)) (.a (.v 1) (.v 2)) tt Yg) rfl s lx (w y (ef hy)) xs row [] 0 (((i:Nat):Int)*2) (((i:Nat):Int)*2) SR na mo j rfl Z rfl λd na mo j=>?_
 ·rw[Yh] at this;exact this
 ·have e:(me++[O.rng 0 ((xs.length:Nat):Int) 1]).set o (gf (dU y xs row i).row)=me.set o (gf (dU y xs row i).row)++[O.rng 0 ((xs.length:Nat):Int) 1]:=oG _ _ Yg;refine(?_ :rH _ Q .next ⟨lf la (some (.loc lb)) (some (.int mx)) x3 x4 o (dU y xs row i).res (some (aO i)) y d (dU y xs row i).mn na mo j rr,ce,(me++[O.rng 0 ((xs.length:Nat):Int) 1]).set o (gf (dU y xs row i).row)⟩);rw[e];have:=h [O.rng 0 ((xs.length:Nat):Int) 1] (some (.str y)) (some (.int d)) (some (.int (dU y xs row i).mn)) na mo j;refine bu (λe=>?_) (λe=>?_)
  ·rw[e] at this;exact this
  ·rw[e] at this;exact this
end
noncomputable def s_(xs:List Str)(mx:Int):List Str->Nat->List Int->Int->Int
 | [],_,_,r=>r
 |y::I,i,row,r=>bif decide (mx<(dU y xs row i).mn) then mx+1 else s_ xs mx I (i+1) (dU y xs row i).row (dU y xs row i).res
theorem DA(xs:List Str)(mx:Int)(y:Str)(I:List Str)(i:Nat)(row:List Int)(r:Int):s_ xs mx (y::I) i row r=bif decide (mx<(dU y xs row i).mn) then mx+1 else s_ xs mx I (i+1) (dU y xs row i).row (dU y xs row i).res:=rfl
theorem KP(y:Str):∀(as:List Str)(us:List Int)(d r mn:Int)(dn:List Int),us.length=as.length->(tG y as us d r mn dn).row.length=dn.length+as.length:=λas=>by
 induction as with
 |nil=>intro us d r mn dn h;refine(?_ :(dn++us).length=_);rw[ak,h]
 |cons x as T=>
  intro us d r mn dn h;cases us with
  |nil=>cases h
  |cons u us=>refine(T us _ _ _ _ (fU h)).trans ?_;rw[ak];refine(?_ :dn.length+1+as.length=dn.length+(as.length+1));exact fB [_,_] .nil 0 (.a (.a (.v 0) (.n 1)) (.v 1)) (.a (.v 0) (.a (.v 1) (.n 1))) tt tt
theorem DB{o n:Nat}{x3 x4:Option V}(p5:la≠o)(hnb:lb≠o)(XE:me.length<=o)(hn:I.length=n)(s:xs.length<=1000)(t:I.length<=1000)(lx:∀x∈xs,x.length<=100000)(w:∀x∈I,x.length<=100000):∀(bs:List Str)(Y:List O)(row:List Int)(i:Nat)(r:Int)(x7 x8 x9 tH na mo j:Option V),I.drop i=bs->row.length=xs.length->(me++Y)[la]?=some (.list (xs.map .str))->(me++Y)[lb]?=some (.list (I.map .str))->(me++Y)[o]?=some (gf row)-> (∀lo Y',Q (.ret (.int (s_ xs mx bs i row r))) ⟨lo,ce,me++Y'⟩)-> gr (gB 0 ((n:Nat):Int) 1) (du 7) KO (bs.length+1) i ⟨some (.loc la)::some (.loc lb)::some (.int mx)::x3::x4::some (.loc o)::some (.int r)::x7::x8::x9::tH::na::mo::j::rr,ce,me++Y⟩ (rH (aV (ao (dX 6) vd) (c8 .next)) Q):=λbs=>by
 induction bs with
 |nil=>intro Y row i r x7 x8 x9 tH na mo j hd Z ha hb hr h;have Z:=ag List.length hd;rw[cb,fK] at Z;exact iM (tV (lA (λq1 q2=>aQ [_,_,_,_] (.f 1 (.v 0) (.v 1) (.e 1 (.v 2) (.n 0) (.f 1 (.a (.v 2) (.v 3)) (.v 0) .nil))) 0 (.v 1) (.v 3) tt hn Z q2) (λq1 q2=>aQ [_,_,_] (.f 1 (.v 0) (.v 1) (.c 1 (.a (.v 0) (.n 1)) (.v 2) .nil)) 0 (.v 1) (.v 2) tt hn q1))) (h _ Y)
 |cons y bs T=>
  intro Y row i r x7 x8 x9 tH na mo j hd Z ha hb hr h;refine xA (fC hd) λM d2=>?_;have S:=(List.getElem?_eq_some_iff.mp M).1;refine fm (b:=aO i) ((yx (aQ [_,_,_] (.e 1 (.v 0) (.v 1) (.c 1 (.a (.v 2) (.n 1)) (.v 0) .nil)) 0 (.a (.v 2) (.n 1)) (.v 1) tt hn S)).trans (by rw[fV,Int.mul_one];rfl)) ?_;refine λ_ E=>E p5 ha hb hr Z M s t lx w λX x8 x9 tH na mo j=>?_;have e:(me++Y).set o (gf (dU y xs row i).row)++X=me++(Y.set (o-me.length) (gf (dU y xs row i).row)++X):=by rw[lO _ _ XE,au]
  have e1:((me++Y).set o (gf (dU y xs row i).row)++X)[la]?=some (.list (xs.map .str)):=ac ((c6 (λe=>p5 e.symm)).trans ha);have e2:((me++Y).set o (gf (dU y xs row i).row)++X)[lb]?=some (.list (I.map .str)):=ac ((c6 (λe=>hnb e.symm)).trans hb);have e3:((me++Y).set o (gf (dU y xs row i).row)++X)[o]?=some (gf (dU y xs row i).row):=ac (fF (List.getElem?_eq_some_iff.mp hr).1);rw[e] at e1 e2 e3 ⊢;have h:∀lo Y',Q (.ret (.int (bif decide (mx<(dU y xs row i).mn) then mx+1 else s_ xs mx bs (i+1) (dU y xs row i).row (dU y xs row i).res))) ⟨lo,ce,me++Y'⟩:=h;refine bu (λe=>?_) (λe=>?_)
  ·rw[e] at h;exact h _ _
  ·rw[e] at h;refine T _ (dU y xs row i).row (i+1) (dU y xs row i).res _ _ _ _ _ _ _ d2 ?_ e1 e2 e3 h;exact(KP y xs row _ _ _ [] Z).trans (eQ _)
noncomputable def sy(n:Nat):List Int:=(List.range n).map λ(i:Nat)=>2+((i:Nat):Int)*2
theorem DC(n:Nat):Builtin.Range.rangeSize 2 (2*(((n:Nat):Int)+1)) 2=((n:Nat):Int):=by
 unfold Builtin.Range.rangeSize;rw[a6 (by decide)];by_cases h:(2:Int)<2*(((n:Nat):Int)+1)
 ·rw[a6 h];omega
 ·rw[aH h];omega
theorem yK{i:Int}(h:0<=i)(h':i<=100000):Builtin.Range.rangeFitsLong i=true:=by unfold Builtin.Range.rangeFitsLong;simp;omega
theorem Od{n:Nat}(h:n<=1000):Builtin.Range.small 2 (2*(((n:Nat):Int)+1)) 2=true:=by unfold Builtin.Range.small;rw[DC,yK (by decide) (by decide),yK (by omega) (by omega),yK (by omega) (by omega),a6 (by decide),yK (by omega) (by omega),Bool.or_true];rfl
theorem Hh{o:Option O}{a b c:Int}{K:Int->Int->Int->Prop}{B:Int->Int->Int->Bool}(h:o=some (.rng a b c))(M:B a b c=true)(q:K a b c):aA (zM o) λp=>gd (B p.1 p.2.1 p.2.2) (K p.1 p.2.1 p.2.2):=by subst h;exact b_ M q
theorem KQ{lo:List (Option V)}{n:Nat}{Q:V->St->Prop}(h:me[l]?=some (.rng 2 (2*(((n:Nat):Int)+1)) 2))(hn:n<=1000)(q:Q (.loc me.length) ⟨lo,ce,me++[gf (sy n)]⟩):aA (zM me[l]?) λp=>gd (Builtin.Range.small p.1 p.2.1 p.2.2&&decide (0<=Builtin.Range.rangeSize p.1 p.2.1 p.2.2)&&decide (Builtin.Range.rangeSize p.1 p.2.1 p.2.2<=1000)) (Q (.loc me.length) ⟨lo,ce,me++[.list (mJ p.1 p.2.2 (Builtin.Range.rangeSize p.1 p.2.1 p.2.2).toNat)]⟩):=by
 refine Hh (B:=λa b c=>Builtin.Range.small a b c&&decide (0<=Builtin.Range.rangeSize a b c)&&decide (Builtin.Range.rangeSize a b c<=1000)) (K:=λa b c=>Q (.loc me.length) ⟨lo,ce,me++[.list (mJ a c (Builtin.Range.rangeSize a b c).toNat)]⟩) h ?_ ?_
 ·rw[Od hn,DC,dI (gj n),dI (by omega)];rfl
 ·rw[DC,Int.toNat_natCast,show mJ 2 2 n=(sy n).map V.int by unfold mJ sy;rw[h_];rfl];exact q
noncomputable def sA(xs I:List Str)(mx:Int):Int:=bif decide (mx<(((I.length:Nat):Int)-((xs.length:Nat):Int))*2) then mx+1 else s_ xs mx I 0 (sy xs.length) 0
noncomputable def tI(xs I:List Str)(mx:Int):Int:=bif xs.isEmpty||I.isEmpty then 2*(((xs.length:Nat):Int)+((I.length:Nat):Int)) else bif decide (((I.length:Nat):Int)<((xs.length:Nat):Int)) then sA I xs mx else sA xs I mx
noncomputable def Ps(xs I:List Str)(mx:Int):Int:=bif nh xs I then 0 else tI (cH (cH xs I).1.reverse (cH xs I).2.reverse).1.reverse (cH (cH xs I).1.reverse (cH xs I).2.reverse).2.reverse mx
section
noncomputable def ST:jF 0 0:=⟨_,λU H=>by exact(ii (aN B4 (ai H 0 rfl) (ai H 1 rfl)) (ab (cP bv) aC) aC)⟩
noncomputable def KS:jF 1 0:=⟨_,λU H=>by exact(aP H 3 rfl bv)⟩
noncomputable def KT:jF 3 0:=⟨_,λU H=>by exact(aP H 0 rfl (iI (ai H 0 rfl) (gI (ai H 3 rfl)) iH))⟩
noncomputable def KU:jF 4 0:=⟨_,λU H=>by exact(aP H 1 rfl (iI (ai H 1 rfl) (gI (ai H 3 rfl)) iH))⟩
noncomputable def KV:jF 5 0:=⟨_,λU H=>by exact(aP H 4 rfl bv)⟩
noncomputable def KW:jF 7 0:=⟨_,λU H=>by exact(aP H 0 rfl (iI (ai H 0 rfl) iH (gI (MY (ai H 4 rfl) ie))))⟩
noncomputable def KX:jF 8 0:=⟨_,λU H=>by exact(aP H 1 rfl (iI (ai H 1 rfl) iH (gI (MY (ai H 4 rfl) ie))))⟩
noncomputable def DE:jF 9 0:=⟨_,λU H=>by exact(ii (cG (g9 (nR (a7 (ai H 0 rfl))) (g9 (nR (a7 (ai H 1 rfl))) rZ))) (ab (cP (cY wm (nU U H 0 1 rfl rfl) (cY f_ (b7 (λ_ _ _=>aX) eW (bG U H 1 2 rfl rfl (by kernel_rfl)) (ae (ai H 0 rfl) ay)) (b7 (λ_ _ _=>aX) eW (bG U H 1 2 rfl rfl (by kernel_rfl)) (ae (ai H 1 rfl) ay))))) aC) aC)⟩
noncomputable def yL:jF 10 0:=⟨_,λU H=>by exact(ii (cG (g9 (aN ug (b7 (λ_ _ _=>aX) eW (bG U H 1 2 rfl rfl (by kernel_rfl)) (ae (ai H 0 rfl) ay)) (nU U H 2 0 rfl rfl)) (g9 (aN ug (b7 (λ_ _ _=>aX) eW (bG U H 1 2 rfl rfl (by kernel_rfl)) (ae (ai H 1 rfl) ay)) (nU U H 2 0 rfl rfl)) rZ))) fk aC)⟩
noncomputable def yM:jF 11 0:=⟨_,λU H=>by exact(ii (aN Ox (b7 (λ_ _ _=>aX) eW (bG U H 1 2 rfl rfl (by kernel_rfl)) (ae (ai H 1 rfl) ay)) (b7 (λ_ _ _=>aX) eW (bG U H 1 2 rfl rfl (by kernel_rfl)) (ae (ai H 0 rfl) ay))) (ab (Rs H 0 1 rfl rfl (ng (ae (ai H 1 rfl) (ae (ai H 0 rfl) ay))) (hw:=by intro _;rfl) (M:=by intro _;rfl)) aC) aC)⟩
noncomputable def tY:jF 12 0:=⟨_,λU H=>by exact(ii (aN ug (cY wm (cY qg (b7 (λ_ _ _=>aX) eW (bG U H 1 2 rfl rfl (by kernel_rfl)) (ae (ai H 1 rfl) ay)) (b7 (λ_ _ _=>aX) eW (bG U H 1 2 rfl rfl (by kernel_rfl)) (ae (ai H 0 rfl) ay))) (nU U H 0 1 rfl rfl)) (ai H 2 rfl)) (ab (cP (cY f_ (ai H 2 rfl) bv)) aC) aC)⟩
noncomputable def tZ:jF 13 0:=⟨_,λU H=>by exact(aP H 5 rfl (b7 (λ_ _ _=>fW) AI (bG U H 3 7 rfl rfl (by kernel_rfl)) (ae (b7 (λ_ _ _=>fW) CJ (bG U H 4 1 rfl rfl (by kernel_rfl)) (ae (nU U H 0 1 rfl rfl) (ae (cY wm (nU U H 0 1 rfl rfl) (cY f_ (b7 (λ_ _ _=>aX) eW (bG U H 1 2 rfl rfl (by kernel_rfl)) (ae (ai H 0 rfl) ay)) bv)) (ae (nU U H 0 1 rfl rfl) ay)))) ay)))⟩
noncomputable def t5:jF 14 0:=⟨_,λU H=>by exact(aP H 6 rfl bv)⟩
noncomputable def t6:jF 15 1:=⟨_,λU H=>by exact(r4 (b7 (λ_ _ _=>fW) mA (bG U H 4 1 rfl rfl (by kernel_rfl)) (ae (b7 (λ_ _ _=>aX) eW (bG U H 1 2 rfl rfl (by kernel_rfl)) (ae (ai H 1 rfl) ay)) ay)) (b8 H 7 rfl) (SS U) (z:=by intro _ _;rfl))⟩
noncomputable def t7:jF 16 0:=⟨_,λU H=>by exact(cP (ai H 6 rfl))⟩
theorem Bb(U:cD P g){x6 x7 x8 x9 tH na mo j:Option V}(ha:me[la]?=some (.list (xs.map .str)))(hb:me[lb]?=some (.list (I.map .str)))(s:xs.length<=1000)(t:I.length<=1000)(lx:∀x∈xs,x.length<=100000)(w:∀x∈I,x.length<=100000)(h:∀lo Y,Q (.ret (.int (sA xs I mx))) ⟨lo,ce,me++Y⟩):aV tY.1 (aV tZ.1 (aV t5.1 (aV t6.1 (aV t7.1 (c8 .next))))) ⟨some (.loc la)::some (.loc lb)::some (.int mx)::p::q::none::x6::x7::x8::x9::tH::na::mo::j::rr,ce,me⟩ Q:=by
 have hla:=(List.getElem?_eq_some_iff.mp ha).1;have hlb:=(List.getElem?_eq_some_iff.mp hb).1;refine eG hb (by rw[ax];exact aQ [_] (.c 1 (.v 0) (.n 1000) .nil) 0 (.v 0) (.n 10000) tt t) ?_;refine eG ha (by rw[ax];exact aQ [_] (.c 1 (.v 0) (.n 1000) .nil) 0 (.v 0) (.n 10000) tt s) ?_;rw[ax,ax];refine b_ (b:=Nat.ble (((I.length:Nat):Int)-((xs.length:Nat):Int)).natAbs 1000000) (d8 (by omega)) ?_;unfold sA at h;refine bu (b:=decide (mx<(((I.length:Nat):Int)-((xs.length:Nat):Int))*2)) (λe=>?_) (λe=>?_)
 ·rw[e] at h;have:=h (some (.loc la)::some (.loc lb)::some (.int mx)::p::q::none::x6::x7::x8::x9::tH::na::mo::j::rr) [];rw[aS] at this;exact this
 rw[e] at h;refine eG ha (by rw[ax];exact aQ [_] (.c 1 (.v 0) (.n 1000) .nil) 0 (.v 0) (.n 10000) tt s) ?_;rw[ax];refine b_ (b:= !(Builtin.divisionGoesByPylong (2*(((xs.length:Nat):Int)+1)-2) 2)) rfl ?_;refine KQ (me:=me++[O.rng 2 (2*(((xs.length:Nat):Int)+1)) 2]) (n:=xs.length) aR s ?_;refine eG (me:=(me++[O.rng 2 (2*(((xs.length:Nat):Int)+1)) 2])++[gf (sy xs.length)]) (ac (ac hb)) (by rw[ax];exact aQ [_] (.c 1 (.v 0) (.n 1000) .nil) 0 (.v 0) (.n 10000) tt t) ?_;rw[ax];refine yy (me:=((me++[O.rng 2 (2*(((xs.length:Nat):Int)+1)) 2])++[gf (sy xs.length)])++[O.rng 0 ((I.length:Nat):Int) 1]) (n:=I.length) aR (aQ [_] (.c 1 (.v 0) (.n 1000) .nil) 0 (.v 0) (.n 10000) tt t) (I.length+1) ?_;have z:(me++[O.rng 2 (2*(((xs.length:Nat):Int)+1)) 2]).length=me.length+1:=ak;have e1:((me++[O.rng 2 (2*(((xs.length:Nat):Int)+1)) 2])++[gf (sy xs.length)])++[O.rng 0 ((I.length:Nat):Int) 1]=me++[O.rng 2 (2*(((xs.length:Nat):Int)+1)) 2,gf (sy xs.length),.rng 0 ((I.length:Nat):Int) 1]:=by rw[au,au];rfl
 have:=DB (la:=la) (lb:=lb) (o:=me.length+1) (x3:=p) (x4:=q) (rr:=rr) ((λq=>zo [_,_] (.c 1 (.a (.v 0) (.n 1)) (.v 1) (.f 1 (.v 0) (.a (.v 1) (.n 1)) .nil)) 0 tt hla q)) ((λq=>zo [_,_] (.c 1 (.a (.v 0) (.n 1)) (.v 1) (.f 1 (.v 0) (.a (.v 1) (.n 1)) .nil)) 0 tt hlb q)) (aQ [_] .nil 0 (.v 0) (.a (.v 0) (.n 1)) tt) rfl s t lx w I [.rng 2 (2*(((xs.length:Nat):Int)+1)) 2,gf (sy xs.length),.rng 0 ((I.length:Nat):Int) 1] (sy xs.length) 0 0 x7 x8 x9 tH na mo j rfl (by unfold sy;rw[ax,j7]) (ac ha) (ac hb) gx h;rw[<-e1,<-z] at this;exact this
end
theorem vK:∀(a b:List Str),(∃n,n<=a.length/\(cH a b).1=a.drop n/\(cH a b).2=b.drop n)
 | [],b=>⟨0,aF _,rfl,rfl⟩
 |x::a,[]=>⟨0,aW _,rfl,rfl⟩
 |x::a,y::b=>by
  rw[fA];cases d3 x y with
  |true=>refine zf (vK a b) λn h e1 e2=>?_;exact⟨n+1,jw h,e1,e2⟩
  |false=>exact⟨0,aW _,rfl,rfl⟩
section
theorem KY(U:cD P g){x6 x7 x8 x9 tH na mo j:Option V}(ha:me[la]?=some (.list (xs.map .str)))(hb:me[lb]?=some (.list (I.map .str)))(s:xs.length<=40)(t:I.length<=40)(lx:∀x∈xs,x.length<=100000)(w:∀x∈I,x.length<=100000)(h:∀lo Y,Q (.ret (.int (tI xs I mx))) ⟨lo,ce,me++Y⟩):aV DE.1 (aV yL.1 (aV yM.1 (aV tY.1 (aV tZ.1 (aV t5.1 (aV t6.1 (aV t7.1 (c8 .next)))))))) ⟨some (.loc la)::some (.loc lb)::some (.int mx)::p::q::none::x6::x7::x8::x9::tH::na::mo::j::rr,ce,me⟩ Q:=by
 have za:(xs.map V.str).length<=10000:=by rw[ax];exact aQ [_] (.c 1 (.v 0) (.n 40) .nil) 0 (.v 0) (.n 10000) tt s
 have zb:(I.map V.str).length<=10000:=by rw[ax];exact aQ [_] (.c 1 (.v 0) (.n 40) .nil) 0 (.v 0) (.n 10000) tt t
 have done:(xs.isEmpty||I.isEmpty)=true->Q (.ret (.int (2*((((xs.map V.str).length:Nat):Int)+(((I.map V.str).length:Nat):Int))))) ⟨some (.loc la)::some (.loc lb)::some (.int mx)::p::q::none::x6::x7::x8::x9::tH::na::mo::j::rr,ce,me⟩:=λe=>by unfold tI at h;rw[e] at h;have:=h (some (.loc la)::some (.loc lb)::some (.int mx)::p::q::none::x6::x7::x8::x9::tH::na::mo::j::rr) [];rw[aS] at this;rw[ax,ax];exact this
 refine qU (K:=λb=>br (!b) _ _) ha za ?_;cases xs with
 |nil=>exact eG ha za (eG hb zb (done rfl))
 |cons x xs=>
  refine qU (K:=λb=>br (!b) _ _) hb zb ?_;cases I with
  |nil=>exact eG ha za (eG hb zb (done rfl))
  |cons y I=>
   refine eG ha za ?_;refine wR (dR (by rw[ax];omega)) ?_;refine eG hb zb ?_;refine wR (dR (by rw[ax];omega)) ?_;refine eG hb zb ?_;refine eG ha za ?_;rw[ax,ax];have h:∀lo Y,Q (.ret (.int (bif decide ((((y::I).length:Nat):Int)<(((x::xs).length:Nat):Int)) then sA (y::I) (x::xs) mx else sA (x::xs) (y::I) mx))) ⟨lo,ce,me++Y⟩:=h;refine bu (λe=>?_) (λe=>?_)
   ·rw[e] at h;refine av (gy aR) ?_;refine Bb (me:=me++[O.tup [.loc lb,.loc la]]) U (ac hb) (ac ha) (aQ [_] (.c 1 (.v 0) (.n 40) .nil) 0 (.v 0) (.n 1000) tt t) (aQ [_] (.c 1 (.v 0) (.n 40) .nil) 0 (.v 0) (.n 1000) tt s) w lx λlo Y=>?_;rw[au];exact h lo _
   ·rw[e] at h;exact Bb U ha hb (aQ [_] (.c 1 (.v 0) (.n 40) .nil) 0 (.v 0) (.n 1000) tt s) (aQ [_] (.c 1 (.v 0) (.n 40) .nil) 0 (.v 0) (.n 1000) tt t) lx w h
noncomputable def WK:List V->ad V:=L3 λM=>∀{la lb:Nat}{me:List O}{xs I:List Str}{mx:Int}{lo ce Q},me[la]?=some (.list (xs.map .str))->me[lb]?=some (.list (I.map .str))->xs.length<=40->I.length<=40->(∀x∈xs,x.length<=100000)->(∀x∈I,x.length<=100000)->ry xs->ry I->
 (∀X,Q (.int (Ps xs I mx)) ⟨lo,ce,me++X⟩)->M [.loc la,.loc lb,.int mx] ⟨lo,ce,me⟩ Q
theorem t8(U:cD P g):cO g (k+2) (.ref 224) WK:=by
 have H:=SP P;refine xV U H (NB.at rfl (by exact(ab (ST.2 U H) (ab (KS.2 U H) (ab (Dx.2 U H) (ab (KT.2 U H) (ab (KU.2 U H) (ab (KV.2 U H) (ab (Dy.2 U H) (ab (KW.2 U H) (ab (KX.2 U H) (ab (DE.2 U H) (ab (yL.2 U H) (ab (yM.2 U H) (ab (tY.2 U H) (ab (tZ.2 U H) (ab (t5.2 U H) (ab (t6.2 U H) (ab (t7.2 U H) aC))))))))))))))))))) rfl (by kernel_rfl) (λa b c S=>rfl) ?_;refine kW (@λla lb me xs I mx lo ce Q ha hb s t lx w ox oy h=>?_);refine⟨_,_,_,rfl,?_⟩;refine o3 ?_;refine KI (K:=λb=>br b (Q (.int 0) ⟨lo,ce,me⟩) ((aV KS.1 (aV Dx.1 (aV KT.1 (aV KU.1 (aV KV.1 (aV Dy.1 (aV KW.1 (aV KX.1 (aV DE.1 (aV yL.1 (aV yM.1 (aV tY.1 (aV tZ.1 (aV t5.1 (aV t6.1 (aV t7.1 (c8 .next))))))))))))))))) ⟨fr la lb mx none none (List.replicate 12 none),[],me⟩ (oZ Q lo ce))) ha hb ox oy ?_;unfold Ps at h;refine bu (b:=nh xs I) (λe=>?_) (λe=>?_)
 ·rw[e] at h;have:=h [];rw[aS] at this;exact this
 rw[e] at h;refine Oc U ha hb (aQ [_] (.c 1 (.v 0) (.n 40) .nil) 0 (.v 0) (.n 1000) tt s) (aQ [_] (.c 1 (.v 0) (.n 40) .nil) 0 (.v 0) (.n 1000) tt t) λn X hn e1=>?_;refine jE (a:=aO n) (b:=.none) (I:=(xs.drop n).map .str) (ac ha) (by rw[ax];exact aQ [_] (.c 1 (.v 0) (.n 40) .nil) 0 (.v 0) (.n 10000) tt s) rfl rfl (by rw[n_,ki]) ?_;refine jE (a:=aO n) (b:=.none) (I:=(I.drop n).map .str) (ac (ac hb)) (by rw[ax];exact aQ [_] (.c 1 (.v 0) (.n 40) .nil) 0 (.v 0) (.n 10000) tt t) rfl rfl (by rw[n_,ki]) ?_;rw[<-e1] at h;have WL:(xs.drop n).length<=40:=by rw[cb];exact lA (λq1 q2=>aQ [_,_,_] (.c 1 (.v 0) (.n 40) (.e 1 (.a (.v 1) (.v 2)) (.v 0) .nil)) 0 (.v 1) (.n 40) tt s q2) (λq1 q2=>aQ [_] (.e 1 (.v 0) (.n 0) .nil) 0 (.v 0) (.n 40) tt q2)
 have WM:(I.drop n).length<=40:=by rw[cb];exact lA (λq1 q2=>aQ [_,_,_] (.c 1 (.v 0) (.n 40) (.e 1 (.a (.v 1) (.v 2)) (.v 0) .nil)) 0 (.v 1) (.n 40) tt t q2) (λq1 q2=>aQ [_] (.e 1 (.v 0) (.n 0) .nil) 0 (.v 0) (.n 40) tt q2)
 have lx1:∀x∈xs.drop n,x.length<=100000:=λx B=>lx x (lQ B);have ly1:∀x∈I.drop n,x.length<=100000:=λx B=>w x (lQ B);dsimp only at h;revert WL WM lx1 ly1 h;generalize xs.drop n=SU;generalize I.drop n=TS;intro h WL WM lx1 ly1;refine KJ U (ac aR) aR (aQ [_] (.c 1 (.v 0) (.n 40) .nil) 0 (.v 0) (.n 1000) tt WL) (aQ [_] (.c 1 (.v 0) (.n 40) .nil) 0 (.v 0) (.n 1000) tt WM) λm Y hm e2=>?_;have UX:(((me++X)++[O.list (SU.map .str)]++[O.list (TS.map .str)])++Y)[(me++X).length]?=some (.list (SU.map .str)):=ac (ac aR);have TA:(((me++X)++[O.list (SU.map .str)]++[O.list (TS.map .str)])++Y)[((me++X)++[O.list (SU.map .str)]).length]?=some (.list (TS.map .str)):=ac aR;rw[<-e2] at h;refine mU UX (by rw[ax];exact aQ [_] (.c 1 (.v 0) (.n 40) .nil) 0 (.v 0) (.n 10000) tt WL) (tX SU m) ?_;refine mU (ac TA) (by rw[ax];exact aQ [_] (.c 1 (.v 0) (.n 40) .nil) 0 (.v 0) (.n 10000) tt WM) (tX TS m) ?_;refine KY U (ac aR) aR (by rw[dH,cb,dH];exact lA (λq1 q2=>aQ [_,_,_] (.c 1 (.v 0) (.n 40) (.e 1 (.a (.v 1) (.v 2)) (.v 0) .nil)) 0 (.v 1) (.n 40) tt WL q2) (λq1 q2=>aQ [_] (.e 1 (.v 0) (.n 0) .nil) 0 (.v 0) (.n 40) tt q2)) (by rw[dH,cb,dH];exact lA (λq1 q2=>aQ [_,_,_] (.c 1 (.v 0) (.n 40) (.e 1 (.a (.v 1) (.v 2)) (.v 0) .nil)) 0 (.v 1) (.n 40) tt WM q2) (λq1 q2=>aQ [_] (.e 1 (.v 0) (.n 0) .nil) 0 (.v 0) (.n 40) tt q2)) (λx B=>lx1 x (List.mem_reverse.mp (lQ (List.mem_reverse.mp B)))) (λx B=>ly1 x (List.mem_reverse.mp (lQ (List.mem_reverse.mp B)))) λA Z=>?_;have:=h (X++([O.list (SU.map .str)]++([O.list (TS.map .str)]++(Y++([O.list (((SU.reverse.drop m).reverse).map .str)]++([O.list (((TS.reverse.drop m).reverse).map .str)]++Z))))));rw[<-au,<-au,<-au,<-au,<-au,<-au] at this;exact this
end
end
section
variable {b b':Bool}{Q:Fl->St->Prop}{g:G}{L:Int}{rr:List (Option V)}{es:List Ev}{ce cs:List Nat}{me T s:List O}{R W left ts:List Str}{j je jl k l n' t tr tw w wr ww:Nat}{cl cr cw o:O}{x0 x1 tH x2 x3 x4 x5 x6 x7 x8 x9:Option V}{P:Params}{one two:Str}
section
noncomputable def aaV(g:G):Value:=(g.fo 2 [] .none 0 .none).cls
noncomputable def Hj(P:Params)(g:G):df:={fb (KK P) 276 ["script","cells","events","choice","one","two","left_out","renamed","price","bound","low","told","places"] ["whole","rest","lacking"] with cd:=aaV g}
noncomputable def WN:List Str:=["_law_cells","_law_events","_law_words","_law_page","_law_rule","len","_levenshtein_distance","isinstance","bool","range"]
abbrev iY(i:Nat):={W:ad Fl //∀{P:Params}{g:G}{k:Nat}(_:cD P g)(_:cc (Hj P g) WN .cell),NS g (Hj P g) (k+6) (cB (bh (KK P) 276) i) W}
theorem WO(U:cD P g):cc (Hj P g) WN .cell:=ik (by kernel_rfl)
noncomputable def KZ(g:G):{W:ad Fl //∀{P:Params}{k:Nat}(U:cD P g),NS g (Hj P g) (k+6) (cB (bh (KK P) 276) 0) W}:=⟨_,λ{P k} U=>have H:=WO U;by exact(aP H 1 rfl (b7 (g7 U (by kernel_rfl)) (NI U).ok (kU U H 0 0 rfl rfl) (ae (ai H 0 rfl) ay)))⟩
noncomputable def K0:iY 1:=⟨_,λU H=>by exact(aP H 2 rfl (b7 (g7 U (by kernel_rfl)) (NU U).ok (kU U H 1 2 rfl rfl) (ae (ai H 1 rfl) ay)))⟩
noncomputable def K1:iY 2:=⟨_,λU H=>by exact(aP H 3 rfl (cY eC (eM (ai H 1 rfl) bv) bv))⟩
noncomputable def K2:iY 3:=⟨_,λU H=>by exact(aP H 4 rfl (eM bz (cY lY (ai H 3 rfl) bv)))⟩
noncomputable def K3:iY 4:=⟨_,λU H=>by exact(aP H 5 rfl (eM bz (cY lY (cY eC (ai H 3 rfl) bv) bv)))⟩
noncomputable def K4:iY 5:=⟨_,λU H=>by exact(pL (qI:=["_law_names"]) ["pick"] [] [] (by kernel_rfl) (by kernel_rfl) H 6 rfl (eD (ae (cY lY (cY eC (ai H 3 rfl) bv) bv) (ae (cY lY (cY eC (ai H 3 rfl) bv) bv) ay))) (λH4=>(b8 H4 0 rfl)) (λH4=>Jo (aN ug (ai H4 0 rfl) bv)) (λH4=>(eM (b7 (g7 U (by kernel_rfl)) (Es U).ok (kU U H4 0 1 rfl rfl) ay) (cY qg (ai H4 0 rfl) bv))) (z:=by intro _ _;rfl) (c:=by intro _;rfl))⟩
noncomputable def K5:iY 6:=⟨_,λU H=>by exact(nT H 0 rfl (b7 (g7 U (by kernel_rfl)) (ER U).ok (kU U H 2 5 rfl rfl) (ae (b7 (g7 U (by kernel_rfl)) (EY U).ok (kU U H 3 4 rfl rfl) (ae (ai H 2 rfl) (ae bz (ae bz (ae (eD ay) ay))))) ay)))⟩
noncomputable def K6:iY 7:=⟨_,λU H=>by exact(nT H 1 rfl (b7 (g7 U (by kernel_rfl)) (ER U).ok (kU U H 2 5 rfl rfl) (ae (b7 (g7 U (by kernel_rfl)) (EY U).ok (kU U H 3 4 rfl rfl) (ae (ai H 2 rfl) (ae (ai H 4 rfl) (ae (ai H 5 rfl) (ae (ai H 6 rfl) ay))))) ay)))⟩
noncomputable def K7:iY 8:=⟨_,λU H=>by exact(ii (aN B5 (dw H 0 rfl) (b7 (g7 U (by kernel_rfl)) (E5 U).ok (kU U H 4 6 rfl rfl) (ae (ai H 2 rfl) (ae bz (ae bz (ae (eD ay) ay)))))) fk aC)⟩
noncomputable def K8:iY 9:=⟨_,λU H=>by exact(ii (aN B5 (dw H 1 rfl) (b7 (g7 U (by kernel_rfl)) (E5 U).ok (kU U H 4 6 rfl rfl) (ae (ai H 2 rfl) (ae (ai H 4 rfl) (ae (ai H 5 rfl) (ae (ai H 6 rfl) ay)))))) fk aC)⟩
noncomputable def E8:iY 10:=⟨_,λU H=>by exact(pL (qI:=[]) ["word"] [] [] (by kernel_rfl) (by kernel_rfl) H 7 rfl (eM (dw H 1 rfl) bv) (λH4=>(b8 H4 0 rfl)) (λH4=>Jo (cG (g9 (aN wv bz (ai H4 0 rfl)) (g9 (aN wv bz (ai H4 0 rfl)) rZ)))) (λH4=>(ai H4 0 rfl)) (z:=by intro _ _;rfl) (c:=by intro _;rfl))⟩
noncomputable def E9:iY 11:=⟨_,λU H=>by exact(nT H 2 rfl (cY qg (b7 (λ_ _ _=>aX) eW (bG U H 5 2 rfl rfl (by kernel_rfl)) (ae (eM (dw H 0 rfl) bv) ay)) (b7 (λ_ _ _=>aX) eW (bG U H 5 2 rfl rfl (by kernel_rfl)) (ae (eM (dw H 1 rfl) bv) ay))))⟩
noncomputable def E_:iY 12:=⟨_,λU H=>by exact(aP H 8 rfl (cY f_ (cY wm bv (dw H 2 rfl)) (b7 (λ_ _ _=>aX) eW (bG U H 5 2 rfl rfl (by kernel_rfl)) (ae (ai H 7 rfl) ay))))⟩
noncomputable def Fa:iY 13:=⟨_,λU H=>by exact(aP H 9 rfl (cY qg (cY f_ (ai H 8 rfl) (cY lY (cY eC (ai H 3 rfl) bv) bv)) bv))⟩
noncomputable def Fb:iY 14:=⟨_,λU H=>by exact(aP H 10 rfl (cY qg (cY qg (cY wm bv (dw H 2 rfl)) bv) (cY eC (ai H 3 rfl) bv)))⟩
noncomputable def Fd:iY 15:=⟨_,λU H=>by exact(ii (aN gq (cY lY (cY eC (ai H 3 rfl) bv) bv) bv) (ab (aP H 11 rfl (eD (ae (b7 (g7 U (by kernel_rfl)) (t8 U).ok (kU U H 6 7 rfl rfl) (ae (eM (dw H 1 rfl) bv) (ae (eM (dw H 0 rfl) bv) (ae (ai H 9 rfl) ay)))) (ae (b7 (g7 U (by kernel_rfl)) (t8 U).ok (kU U H 6 7 rfl rfl) (ae (eM (dw H 1 rfl) bv) (ae (eM (dw H 0 rfl) bv) (ae (ai H 10 rfl) ay)))) ay)))) aC) (ab (aP H 11 rfl (eD (ae (b7 (g7 U (by kernel_rfl)) (t8 U).ok (kU U H 6 7 rfl rfl) (ae (eM (dw H 0 rfl) bv) (ae (eM (dw H 1 rfl) bv) (ae (ai H 9 rfl) ay)))) (ae (b7 (g7 U (by kernel_rfl)) (t8 U).ok (kU U H 6 7 rfl rfl) (ae (eM (dw H 0 rfl) bv) (ae (eM (dw H 1 rfl) bv) (ae (ai H 10 rfl) ay)))) ay)))) aC))⟩
noncomputable def Fe:iY 16:=⟨_,λU H=>by exact(ii (cG (g9 (a7 (b7 (λ_ _ _=>aX) uz (bG U H 7 8 rfl rfl (by kernel_rfl)) (ae (eM (ai H 11 rfl) bv) (ae (bG (v:=.type "bool") U H 8 9 rfl rfl (by kernel_rfl)) ay)))) (g9 (a7 (b7 (λ_ _ _=>aX) uz (bG U H 7 8 rfl rfl (by kernel_rfl)) (ae (eM (ai H 11 rfl) bv) (ae (bG (v:=.type "bool") U H 8 9 rfl rfl (by kernel_rfl)) ay)))) rZ))) fk aC)⟩
noncomputable def Ff:iY 17:=⟨_,λU H=>by exact(CO (qI:=[]) ["k"] ["lacking","rest","whole"] [2,1,0] (by kernel_rfl) (by kernel_rfl) H 12 rfl (b7 (λ_ _ _=>fW) mA (bG U H 9 1 rfl rfl (by kernel_rfl)) (ae (cY f_ (b7 (λ_ _ _=>aX) eW (bG U H 5 2 rfl rfl (by kernel_rfl)) (ae (eM (dw H 1 rfl) bv) ay)) bv) ay)) (λH4=>(b8 H4 0 rfl)) (λH4=>Jo (aN B4 (cY Qt (iI (eM (dw H4 2 rfl) bv) iH (gI (ai H4 0 rfl))) (iI (eM (dw H4 2 rfl) bv) (gI (cY f_ (ai H4 0 rfl) (dw H4 0 rfl))) iH)) (eM (dw H4 1 rfl) bv))) (λH4=>(ai H4 0 rfl)) (z:=by intro _ _;rfl) (c:=by intro _;rfl))⟩
noncomputable def Fg:iY 18:=⟨_,λU H=>by exact(cP (Vm B4 (ai H 11 rfl) (eD (ae (ai H 8 rfl) (ae (iG (aN B5 (ai H 12 rfl) (eD ay)) (ai H 8 rfl) (cY f_ (ai H 10 rfl) bv)) ay))) (hm:=by with_unfolding_all rfl)))⟩
end
noncomputable def lm(b b':Bool)(T:List O)(cr cw cl:O)(s:List O):List O:=.tab 0 b:: .tab 1 b'::(T++(cw::cr::cl::s))
section
theorem rk(j:Nat):(lm b b' T cr cw cl s)[T.length+2+j]?=(cw::cr::cl::s)[j]?:=by rw[show T.length+2+j=(T.length+j)+2 by exact fB [_,_] .nil 0 (.a (.a (.v 0) (.n 2)) (.v 1)) (.a (.a (.v 0) (.v 1)) (.n 2)) tt tt];exact bX
theorem dF(h:s[j]?=some o):(lm b b' T cr cw cl s)[T.length+5+j]?=some o:=by rw[show T.length+5+j=T.length+2+(j+3) by exact fB [_,_] .nil 0 (.a (.a (.v 0) (.n 5)) (.v 1)) (.a (.a (.v 0) (.n 2)) (.a (.v 1) (.n 3))) tt tt,rk];exact h
theorem pq:(lm b b' T cr cw cl s)[T.length+3]?=some cr:=rk 1
theorem ta:(lm b b' T cr cw cl s)[T.length+2]?=some cw:=rk 0
theorem Fh:(lm b b' T cr cw cl s)[T.length+4]?=some cl:=rk 2
theorem jm{X:List O}:lm b b' T cr cw cl s++X=lm b b' T cr cw cl (s++X):=by refine ag (O.tab 0 b::O.tab 1 b':: ·) ?_;exact au _ _ _
theorem mV:(lm b b' T cr cw cl s).length=T.length+5+s.length:=by refine(?_ :(T++(cw::cr::cl::s)).length+1+1=_);rw[ak];refine(?_ :T.length+(s.length+3)+1+1=_);exact fB [_,_] .nil 0 (.a (.a (.a (.v 0) (.a (.v 1) (.n 3))) (.n 1)) (.n 1)) (.a (.a (.v 0) (.n 5)) (.v 1)) tt tt
theorem DF:(lm b b' T cr cw cl s).set (T.length+2+j) o= .tab 0 b:: .tab 1 b'::(T++(cw::cr::cl::s).set j o):=by rw[show T.length+2+j=(T.length+j)+2 by exact fB [_,_] .nil 0 (.a (.a (.v 0) (.n 2)) (.v 1)) (.a (.a (.v 0) (.v 1)) (.n 2)) tt tt];refine ag (O.tab 0 b::O.tab 1 b':: ·) ?_;exact dO
theorem WP:(lm b b' T cr cw cl s).set (T.length+3) o=lm b b' T o cw cl s:=DF (j:=1)
theorem WQ:(lm b b' T cr cw cl s).set (T.length+2) o=lm b b' T cr o cl s:=DF (j:=0)
theorem WR:(lm b b' T cr cw cl s).set (T.length+4) o=lm b b' T cr cw o s:=DF (j:=2)
end
noncomputable def H(T:List O):List Nat:=[T.length+2,T.length+3,T.length+4]
theorem DG{i:Nat}{Dd:List O}{v:V}{lo:List (Option V)}{Q:Unit->St->Prop}(hc:ce[i]?=some l)(h:me[l]?=some o)(ho:oT (some o)=true)(e:me.set l (.cell v)=Dd)(q:Q () ⟨lo,ce,Dd⟩):aA ce[i]? λl=>gd (oT me[l]?) (Q () ⟨lo,ce,me.set l (.cell v)⟩):=av hc (b_ (by rw[h];exact ho) (by rw[e];exact q))
noncomputable def pS(m:Nat):Str:=bif Nat.beq (m % 2) 0 then "p" else "P"
noncomputable def qS(m:Nat):Str:=bif Nat.beq (m % 2) 0 then "q" else "Q"
theorem aaW(m:Nat):∃k,uj ("pP":Str).cps.toList ((m % 2:Nat):Int)=some k/\(⟨#[k]⟩:Str)=pS m:=by
 have:=eA m (by decide:0<2);unfold pS
 match m % 2,this with
 |0,_=>exact⟨112,by decide+kernel,by decide+kernel⟩
 |1,_=>exact⟨80,by decide+kernel,by decide+kernel⟩
theorem aaX(m:Nat):∃k,uj ("qQ":Str).cps.toList ((m % 2:Nat):Int)=some k/\(⟨#[k]⟩:Str)=qS m:=by
 have:=eA m (by decide:0<2);unfold qS
 match m % 2,this with
 |0,_=>exact⟨113,by decide+kernel,by decide+kernel⟩
 |1,_=>exact⟨81,by decide+kernel,by decide+kernel⟩
theorem mS.shift{N:Nat}{me:List O}{r:List O}{lv:List V}{a b:O}(h:mS (N+s.length+2) r lv es):mS N (s++(a::b::r)) lv es:=by
 refine aE.mono (λv e ⟨t,ht,h⟩=>⟨s.length+(t+2),?_,?_⟩) h
 ·rw[ht];refine ag V.loc ?_;exact fB [_,_,_] .nil 0 (.a (.a (.a (.v 0) (.v 1)) (.n 2)) (.v 2)) (.a (.v 0) (.a (.v 1) (.a (.v 2) (.n 2)))) tt tt
 ·rw[bX];exact h
section
theorem WS(U:cD P g)(hz:g.sn.length<=63)(h:∀cs X,s0 63 cs->Q .next ⟨some (.e_ (.ref g.sa))::some (.loc (T.length+5+s.length))::rr,H T,lm b b' T cr cw cl (s++[.list (cs.map aO),X])⟩):(KZ g).1 ⟨some (.e_ (.ref g.sa))::x1::rr,H T,lm b b' T cr cw cl s⟩ Q:=by refine λ_ E=>E hz λcs X hc=>?_;rw[mV,jm];exact h cs X hc
theorem WT(U:cD P g)(h1:s[j]?=some (.list (cs.map aO)))(hc:cs.length=4)(h:∀lv r,mS (T.length+5) (s++(.list lv:: .list []::r)) lv (evs cs [])->Q .next ⟨x0::some (.loc (T.length+5+j))::some (.loc (T.length+5+s.length))::rr,H T,lm b b' T cr cw cl (s++(.list lv:: .list []::r))⟩):K0.1 ⟨x0::some (.loc (T.length+5+j))::x2::rr,H T,lm b b' T cr cw cl s⟩ Q:=by refine λ_ E=>E (dF h1) hc λlv r he=>?_;rw[mV] at he ⊢;unfold eb;rw[jm];exact h lv r (mS.shift (me:=[]) he)
theorem WU(U:cD P g){c:Nat}(h1:s[j]?=some (.list ((c::cs).map aO)))(h:Q .next ⟨x0::some (.loc (T.length+5+j))::x2::some (aO (c / 648))::rr,H T,lm b b' T cr cw cl s⟩):K1.1 ⟨x0::some (.loc (T.length+5+j))::x2::x3::rr,H T,lm b b' T cr cw cl s⟩ Q:=by refine bJ (dF h1) (by rfl) ?_;have e:Int.fdiv ((c:Nat):Int) 648=((c / 648:Nat):Int):=q7 c 648;refine(?_ :Q .next ⟨x0::some (.loc (T.length+5+j))::x2::some (V.int (Int.fdiv ((c:Nat):Int) 648))::rr,H T,lm b b' T cr cw cl s⟩);rw[e];exact h
theorem WV(U:cD P g){m:Nat}(h:Q .next ⟨x0::x1::x2::some (aO m)::some (.str (pS m))::rr,H T,lm b b' T cr cw cl s⟩):K2.1 ⟨x0::x1::x2::some (aO m)::x4::rr,H T,lm b b' T cr cw cl s⟩ Q:=by refine bx (aaW m) λc e1 e2=>?_;have e:Int.fmod ((m:Nat):Int) 2=((m % 2:Nat):Int):=n8 m 2;refine av (by rw[e];exact e1) ?_;rw[e2];exact h
theorem WW(U:cD P g){m:Nat}(h:Q .next ⟨x0::x1::x2::some (aO m)::x4::some (.str (qS (m / 2)))::rr,H T,lm b b' T cr cw cl s⟩):K3.1 ⟨x0::x1::x2::some (aO m)::x4::x5::rr,H T,lm b b' T cr cw cl s⟩ Q:=by refine bx (aaX (m / 2)) λc e1 e2=>?_;have e:Int.fmod (Int.fdiv ((m:Nat):Int) 2) 2=((m / 2 % 2:Nat):Int):=dm m 2 2;refine av (by rw[e];exact e1) ?_;rw[e2];exact h
end
theorem oe{β:Type}{cL:St->Nat->Option (Option β)}{As:β->ad Unit}{Wt:ad Bool}{We:ad V}{m:List O}{iC:List Nat}{xs:List β}{keep:β->Bool}{val v0:β->V}{Q:Unit->St->Prop}(hI:∀i lo Y,cL ⟨lo,iC,m++Y⟩ i=some xs[i]?)(hC:∀b∈xs,∀x Y K,(∀Y',K (keep b) ⟨[some (v0 b)],iC,(m++Y)++Y'⟩)->As b ⟨[x],iC,m++Y⟩ (sI Wt K))(hE:∀b∈xs,keep b=true->∀Y K,(∀Y',K (val b) ⟨[some (v0 b)],iC,(m++Y)++Y'⟩)->We ⟨[some (v0 b)],iC,m++Y⟩ K)(hz:xs.length<=1000):∀(r:List β)(i:Nat)(bV:List V)(x:Option V)(X:List O),xs.drop i=r->bV.length<=i->(∀x X,Q () ⟨[x],iC,m++(.list (bV++(r.filter keep).map val)::X)⟩)-> gw cL As Wt (sX We m.length) (r.length+1) i ⟨[x],iC,m++(.list bV::X)⟩ Q:=λr=>by
 induction r with
 |nil=>exact λi bV x X hd hz h=>jh ((hI i _ _).trans (by rw[drop_nil hd])) (by rw[List.filter_nil,List.map_nil,aS] at h;exact h x X)
 |cons b r T=>
  intro i bV x X hd ha h;refine xA (fC hd) λh1 h2=>?_;have hb:=ef h1;have hi:=(List.getElem?_eq_some_iff.mp h1).1;refine jg ((hI i _ _).trans (by rw[h1])) ?_;refine hC b hb x _ _ λY'=>?_;refine bu (λe=>?_) (λe=>?_)
  ·rw[au,iw];refine hE b hb e _ _ λY''=>?_;rw[au,iw];refine av (cV aR) (b_ (cM (aQ [_,_,_] (.c 1 (.v 0) (.n 1000) (.c 1 (.v 1) (.v 2) (.c 1 (.a (.v 2) (.n 1)) (.v 0) .nil))) 0 (.v 1) (.n 10000) tt hz ha hi)) ?_);refine(?_ :gw _ _ _ _ _ _ ⟨[some (v0 b)],iC,(m++O.list bV::((X++Y')++Y'')).set m.length (.list (bV++[val b]))⟩ Q);rw[kK];refine T (i+1) (bV++[val b]) _ _ h2 (by rw[ak];exact dQ ha 1) λx X=>?_;rw[List.filter_cons_of_pos e,cy] at h;rw[au];exact h x X
  ·rw[au,iw];rw[List.filter_cons_of_neg (by rw[e];exact i0)] at h;exact T (i+1) bV _ _ h2 (iq ha) h
noncomputable def nmI(p:Nat):Str:=eO (fY (p-1)).1 (fY (p-1)).2
noncomputable def eF(m:Nat):List Str:=([m / 4 % 7,m / 28 % 7].filter λp=>!(Nat.beq p 0)).map nmI
noncomputable def K_:V->Bool
 | .int i=>decide (0<i)
 |_=>false
noncomputable def nmV:V->V
 | .int i=>.str (nmI i.toNat)
 |_=>.none
theorem yN(p:Nat):K_ (aO p)= !(Nat.beq p 0):=TR p
theorem Oe(m:Nat):([aO (m / 4 % 7),aO (m / 28 % 7)].filter K_).map nmV=(eF m).map .str:=by unfold eF;generalize m / 4 % 7=a;generalize m / 28 % 7=b;rw[i6,i6,i6,i6,yN,yN];cases Nat.beq a 0<;>cases Nat.beq b 0<;>rfl
theorem WX{p:Nat}(h:p<7)(h0:p≠0):uj nW (((p:Nat):Int)-1)=some (.str (nmI p)):=by
 match p,h,h0 with
 |0,_,h0=>exact absurd rfl h0
 |1,_,_=>rfl
 |2,_,_=>rfl
 |3,_,_=>rfl
 |4,_,_=>rfl
 |5,_,_=>rfl
 |6,_,_=>rfl
section
theorem WY(U:cD P g){m:Nat}(h:∀X,Q .next ⟨x0::x1::x2::some (aO m)::x4::x5::some (.loc (T.length+5+(s.length+1)))::rr,H T,lm b b' T cr cw cl ((s++[.list [aO (m / 4 % 7),aO (m / 28 % 7)]])++(.list ((eF m).map .str)::X))⟩):K4.1 ⟨x0::x1::x2::some (aO m)::x4::x5::x6::rr,H T,lm b b' T cr cw cl s⟩ Q:=by
 have e1:Int.fmod (Int.fdiv ((m:Nat):Int) 4) 7=((m / 4 % 7:Nat):Int):=dm m 4 7;have e2:Int.fmod (Int.fdiv ((m:Nat):Int) 28) 7=((m / 28 % 7:Nat):Int):=dm m 28 7;refine(?_ :OL kI bj 1 (.list []) _ _ (sX _) [] (λv σ=>Q .next (σ.nf 6 v)) (.loc (lm b b' T cr cw cl s).length) ⟨x0::x1::x2::some (aO m)::x4::x5::x6::rr,H T,lm b b' T cr cw cl s++[.list [.int (Int.fmod (Int.fdiv ((m:Nat):Int) 4) 7),.int (Int.fmod (Int.fdiv ((m:Nat):Int) 28) 7)]]⟩);rw[e1,e2];refine av (ji aR) ?_;have hp:∀v∈[aO (m / 4 % 7),aO (m / 28 % 7)],∃p,p<7/\v=aO p:=λv hv=>by
  rcases List.mem_cons.mp hv with rfl|hv
  ·exact⟨_,eA _ (by decide),rfl⟩
  ·obtain rfl:=List.mem_singleton.mp hv;exact⟨_,eA _ (by decide),rfl⟩
 refine⟨3,?_⟩;refine oe (keep:=K_) (val:=nmV) (v0:=id) (xs:=[aO (m / 4 % 7),aO (m / 28 % 7)]) (λi lo Y=>ba (ac aR) rfl) (λv hv x Y K hK=>?_) (λv hv hk Y K hK=>?_) (aU rfl) _ 0 [] none [] rfl (aF _) λx X=>?_
 ·refine bx (hp v hv) λp hp jJ=>?_;obtain rfl:=jJ;have:=hK [];rw[aS] at this;exact this
 ·refine bx (hp v hv) λp hp jJ=>?_;obtain rfl:=jJ;rw[yN] at hk;have h0:p≠0:=λe=>by subst e;exact nB hk
  refine λ_ E=>E ?_;refine bJ aR (WX hp h0) ?_;exact hK [O.list nW]
 ·rw[kc,gV,Oe];refine(?_ :Q .next ⟨x0::x1::x2::some (aO m)::x4::x5::some (.loc (lm b b' T cr cw cl s++[O.list [aO (m / 4 % 7),aO (m / 28 % 7)]]).length)::rr,H T,(lm b b' T cr cw cl s++[.list [aO (m / 4 % 7),aO (m / 28 % 7)]])++(.list ((eF m).map .str)::X)⟩);rw[jm,jm,mV,ak];exact h X
end
structure og(one two:Str)(left:List Str)(es:List Ev):Prop where
 ok:tE ⟨cN left,one,two⟩
 zl:left.length<=20
 evs:kP ⟨cN left,one,two⟩ He es
 tot:kX (s8 ⟨cN left,one,two⟩ es)<=100000
 evr:hU ⟨cN left,one,two⟩ left N8 es
 words:iR (ch (dE (s8 ⟨cN left,one,two⟩ es))) (cX ⟨cN left,one,two⟩ left es).ws []
 line:1+(ch (dE (s8 ⟨cN left,one,two⟩ es))).count 10=(cX ⟨cN left,one,two⟩ left es).line
 zw:(cX ⟨cN left,one,two⟩ left es).ws.length<=40
 Bc:ry (cX ⟨cN left,one,two⟩ left es).ws
 lw:∀w∈(cX ⟨cN left,one,two⟩ left es).ws,w.length<=10000
theorem SV{aw:Str}{n:Nat}(h:(ch aw).drop n=[]):db aw n=((1+(ch aw).count 10:Nat):Int):=by unfold db;rw[oz (List.drop_eq_nil_iff.mp h)];omega
theorem vL{lv:List V}{lo:List (Option V)}{Q:V->St->Prop}(f:og one two left es)(hn:es.length<=50)(h1:s[je]?=some (.list lv))(h2:mS (T.length+5) s lv es)(h3:s[jl]?=some (.list (left.map .str)))(h:∀b' X t w,(s++X)[w]?=some (.list ((cX ⟨cN left,one,two⟩ left es).ws.map .str))->(s++X)[t]?=some (.tup [.loc (T.length+5+w),aO (cX ⟨cN left,one,two⟩ left es).line])->Q (.loc (T.length+5+t)) ⟨lo,H T,lm true b' T cr cw cl (s++X)⟩):WF [.loc (T.length+5+je),.str one,.str two,.loc (T.length+5+jl)] ⟨lo,H T,lm b b' T cr cw cl s⟩ (λv σ=>Ws [v] σ Q):=by
 have e:∀j,T.length+5+j=(T.length+(j+3))+2:=λj=>by exact fB [_,_] .nil 0 (.a (.a (.v 0) (.n 5)) (.v 1)) (.a (.a (.v 0) (.a (.v 1) (.n 3))) (.n 2)) tt tt
 rw[e je,e jl];refine λ_ E=>E (by rw[bX];exact h1) ?_ (by rw[bX];exact h3) f.zl f.ok f.evs hn f.tot λTT X=>?_
 ·refine aE.mono (λv e' ⟨t,ht,h⟩=>⟨T.length+(t+3),?_,?_⟩) h2
  ·rw[ht,e];refine ag V.loc ?_;exact fB [_,_] .nil 0 (.a (.a (.v 0) (.a (.v 1) (.n 3))) (.n 2)) (.a (.n 2) (.a (.v 0) (.a (.v 1) (.n 3)))) tt tt
  ·rw[bX];exact h
 ·refine λ_ E=>E f.words (by rw[qR];exact am f.tot (by decide)) (am f.zw (by decide)) f.lw λn Y t hd ht=>?_;have hb:(bt b (.tab 1 TT::((T++(cw::cr::cl::s))++X))).length=T.length+5+(s++X).length:=by refine(?_ :((T++(cw::cr::cl::s))++X).length+1+1=_);rw[au,ak,iw,iw,iw];refine(?_ :T.length+((s++X).length+3)+1+1=_);exact fB [_,_] .nil 0 (.a (.a (.a (.v 0) (.a (.v 1) (.n 3))) (.n 1)) (.n 1)) (.a (.a (.v 0) (.n 5)) (.v 1)) tt tt
  rw[hb] at ht ⊢;have D:(bt true (.tab 1 TT::((T++(cw::cr::cl::s))++X))).length=T.length+5+(s++X).length:=hb;have Bd:=f.line;revert hd ht Bd;generalize dE (s8 ⟨cN left,one,two⟩ es)=aw;intro hd ht Bd;have em:lx (bt true (.tab 1 TT::((T++(cw::cr::cl::s))++X))) aw n (db aw n) ((cX ⟨cN left,one,two⟩ left es).ws.map .str) Y=lm true TT T cr cw cl (s++(X++(Pj (T.length+5+(s++X).length) aw n (db aw n) ((cX ⟨cN left,one,two⟩ left es).ws.map .str)++Y))):=by unfold lx;rw[D];refine ag (O.tab 0 true::O.tab 1 TT:: ·) ?_;exact(au _ _ _).trans (au _ _ _)
  rw[em];rw[SV hd,Bd] at ht ⊢;generalize S:Pj (T.length+5+(s++X).length) aw n ((cX ⟨cN left,one,two⟩ left es).line:Nat) ((cX ⟨cN left,one,two⟩ left es).ws.map .str)=L;have Z:L.length=11:=by rw[<-S];rfl
  have hw:L[10]?=some (.list ((cX ⟨cN left,one,two⟩ left es).ws.map .str)):=by rw[<-S];rfl
  have e9:s++(X++(L++Y))=(s++X)++(L++Y):=(au _ _ _).symm;have:=h TT (X++(L++Y)) ((s++X).length+(11+t)) ((s++X).length+10) (by rw[e9,bX];exact ac hw) (by rw[e9,bX,<-Z,bX,ht,c7];rfl);rw[show T.length+5+((s++X).length+(11+t))=T.length+5+(s++X).length+(11+t) by exact fB [_,_,_] .nil 0 (.a (.a (.v 0) (.n 5)) (.a (.v 1) (.a (.n 11) (.v 2)))) (.a (.a (.a (.v 0) (.n 5)) (.v 1)) (.a (.n 11) (.v 2))) tt tt] at this;exact this
section
variable {lv:List V}
theorem WZ(U:cD P g)(f:og "p" "q" [] es)(hn:es.length<=50)(h1:s[je]?=some (.list lv))(h2:mS (T.length+5) s lv es)(h:∀b' X t w,((s++[.list []])++X)[w]?=some (.list ((cX ⟨cN [],"p","q"⟩ [] es).ws.map .str))->((s++[.list []])++X)[t]?=some (.tup [.loc (T.length+5+w),aO (cX ⟨cN [],"p","q"⟩ [] es).line])->
  Q .next ⟨x0::x1::some (.loc (T.length+5+je))::rr,H T,lm true b' T cr (.cell (.loc (T.length+5+t))) cl ((s++[.list []])++X)⟩):
 K5.1 ⟨x0::x1::some (.loc (T.length+5+je))::rr,H T,lm b b' T cr .de cl s⟩ Q:=by
 have:=vL (b:=b) (b':=b') (cr:=cr) (cw:=.de) (cl:=cl) (lo:=x0::x1::some (.loc (T.length+5+je))::rr) (s:=s++[.list []]) (Q:=λv σ=>ao (AQ 0 v) k_ σ Q) f hn (ac h1) (h2.more _) aR λb' X t w hw ht=>?_
 ·rw[<-jm,<-mV] at this;exact this
 ·refine DG (i:=0) (ce:=H T) rfl ta rfl WQ ?_;exact h b' X t w hw ht
theorem W0(U:cD P g)(f:og one two left es)(hn:es.length<=50)(h1:s[je]?=some (.list lv))(h2:mS (T.length+5) s lv es)(h3:s[jl]?=some (.list (left.map .str)))(h:∀b' X t w,(s++X)[w]?=some (.list ((cX ⟨cN left,one,two⟩ left es).ws.map .str))->(s++X)[t]?=some (.tup [.loc (T.length+5+w),aO (cX ⟨cN left,one,two⟩ left es).line])->
  Q .next ⟨x0::x1::some (.loc (T.length+5+je))::x3::some (.str one)::some (.str two)::some (.loc (T.length+5+jl))::rr,H T,lm true b' T (.cell (.loc (T.length+5+t))) cw cl (s++X)⟩):
 K6.1 ⟨x0::x1::some (.loc (T.length+5+je))::x3::some (.str one)::some (.str two)::some (.loc (T.length+5+jl))::rr,H T,lm b b' T .de cw cl s⟩ Q:=by
 refine vL f hn h1 h2 h3 λb' X t w hw ht=>?_;refine DG (i:=1) (ce:=H T) rfl pq rfl WP ?_;exact h b' X t w hw ht
theorem Be{n:Nat}(h:me[t]?=some (.tup [.loc w,aO n]))(h':me[w]?=some (.list (ts.map .str))):xm me 4 (.loc t)=some (.tuple [.list (ts.map PyData.str),.int ((n:Nat):Int)]):=(bE h).trans (bE (bE (vJ 2 h')))
theorem Bf{n:Int}(h:ry ts):SeqAt.shaped (.tuple [.list (ts.map PyData.str),.int n])=true:=by refine xA (rj h) λh1 h2=>?_;unfold SeqAt.shaped;simp only[PyData.canLay0,PyData.canLayAll0,PyData.depth,PyData.depthAll,h1,h2];rfl
theorem La{n:Int}(h:ry ts):PyData.eqv (.tuple [.list (ts.map PyData.str),.int n]) (.tuple [.list (ts.map PyData.str),.int n])=true:=by have h1:=(rj h).1;refine SeqAt.eqv_refl _ ?_;simp only[PyData.canLay0,PyData.canLayAll0,h1,Bool.and_self]
theorem Lb{C w':Nat}{n:Nat}{K:Bool->Prop}(o:ry ts)(h:me[t]?=some (.tup [.loc w,aO n]))(h':me[w]?=some (.list (ts.map .str)))(k:me[C]?=some (.tup [.loc w',aO n]))(j:me[w']?=some (.list (ts.map .str)))(q:K false):aA (xm me 4 (.loc t)) λx=>aA (xm me 4 (.loc C)) λy=>gd (SeqAt.shaped x&&SeqAt.shaped y) (K (!(PyData.eqv x y))):=by refine av (Be h h') (av (Be k j) (b_ (by rw[Bf o];rfl) ?_));rw[La o];exact q
end
section
variable {lv:List V}
theorem mS.m(h:mS (T.length+5) s lv es):SL (lm b b' T cr cw cl s) lv es:=aE.mono (λv e ⟨t,ht,h⟩=>⟨_,ht,dF h⟩) h
theorem Bg{lo:List (Option V)}{K:Bool->St->Prop}(f:og one two left es)(h1:s[je]?=some (.list lv))(h2:mS (T.length+5) s lv es)(h3:s[jl]?=some (.list (left.map .str)))(hw:s[w]?=some (.list ((cX ⟨cN left,one,two⟩ left es).ws.map .str))) (ht:s[t]?=some (.tup [.loc (T.length+5+w),aO (cX ⟨cN left,one,two⟩ left es).line])) (h:∀X,K false ⟨lo,H T,lm b b' T cr cw cl (s++X)⟩):WH [.loc (T.length+5+je),.str one,.str two,.loc (T.length+5+jl)] ⟨lo,H T,lm b b' T cr cw cl s⟩ (λv σ=>Ux (.loc (T.length+5+t)) v σ K):=by refine λ_ E=>E f.ok (dF h1) h2.m (dF h3) f.evr λX C w' k LP=>?_;refine Lb (K:=λr=>K r _) f.Bc (ac (dF ht)) (ac (dF hw)) LP k ?_;rw[jm];exact h X
theorem W3(U:cD P g)(f:og "p" "q" [] es)(h1:s[je]?=some (.list lv))(h2:mS (T.length+5) s lv es)(hw:s[w]?=some (.list ((cX ⟨cN [],"p","q"⟩ [] es).ws.map .str)))(ht:s[t]?=some (.tup [.loc (T.length+5+w),aO (cX ⟨cN [],"p","q"⟩ [] es).line]))(h:∀X,Q .next ⟨x0::x1::some (.loc (T.length+5+je))::rr,H T,lm b b' T cr (.cell (.loc (T.length+5+t))) cl (s++X)⟩):K7.1 ⟨x0::x1::some (.loc (T.length+5+je))::rr,H T,lm b b' T cr (.cell (.loc (T.length+5+t))) cl s⟩ Q:=by
 refine bS (i:=0) (ce:=H T) rfl ta ?_;have:=Bg (s:=s++[.list []]) (K:=λr σ=>br r False (Q .next σ)) f (ac h1) (h2.more _) aR (ac hw) (ac ht) λX=>by rw[au];exact h _
 rw[<-jm,<-mV] at this;exact this
theorem W4(U:cD P g)(f:og one two left es)(h1:s[je]?=some (.list lv))(h2:mS (T.length+5) s lv es)(h3:s[jl]?=some (.list (left.map .str)))(hw:s[w]?=some (.list ((cX ⟨cN left,one,two⟩ left es).ws.map .str)))(ht:s[t]?=some (.tup [.loc (T.length+5+w),aO (cX ⟨cN left,one,two⟩ left es).line]))(h:∀X,Q .next ⟨x0::x1::some (.loc (T.length+5+je))::x3::some (.str one)::some (.str two)::some (.loc (T.length+5+jl))::rr,H T,lm b b' T (.cell (.loc (T.length+5+t))) cw cl (s++X)⟩):K8.1 ⟨x0::x1::some (.loc (T.length+5+je))::x3::some (.str one)::some (.str two)::some (.loc (T.length+5+jl))::rr,H T,lm b b' T (.cell (.loc (T.length+5+t))) cw cl s⟩ Q:=by refine bS (i:=1) (ce:=H T) rfl pq ?_;exact Bg f h1 h2 h3 hw ht h
end
noncomputable def oh(x:Str):Bool:=v7 "P" x||v7 "Q" x
noncomputable def pqV:V->Bool
 | .str x=>oh x
 |_=>false
theorem W5(R:List Str):((R.map V.str).filter pqV).map id=(R.filter oh).map .str:=by
 rw[List.map_id];induction R with
 |nil=>rfl
 |cons x R T=>rw[cy,i6,i6,T];refine(?_ :(if oh x=true then _ else _)=_);cases oh x<;>rfl
section
variable {n:Nat}
theorem SW(U:cD P g)(ht:s[tr]?=some (.tup [.loc (T.length+5+wr),aO n]))(hw:s[wr]?=some (.list (R.map .str)))(hz:R.length<=40)(Z:∀x∈R,x.length<=10000)(h:∀X,Q .next ⟨x0::x1::x2::x3::x4::x5::x6::some (.loc (T.length+5+s.length))::rr,H T,lm b b' T (.cell (.loc (T.length+5+tr))) cw cl (s++(.list ((R.filter oh).map .str)::X))⟩):E8.1 ⟨x0::x1::x2::x3::x4::x5::x6::x7::rr,H T,lm b b' T (.cell (.loc (T.length+5+tr))) cw cl s⟩ Q:=by
 refine bS (i:=1) (ce:=H T) rfl pq ?_;refine dK (dF ht) rfl ?_;refine av (ji (dF hw)) ?_;refine⟨(R.map V.str).length+1,?_⟩;refine oe (keep:=pqV) (val:=id) (v0:=id) (λi lo Y=>ba (ac (dF hw)) rfl) (λv hv x Y K hK=>?_) (λv hv hk Y K hK=>?_) (by rw[ax];exact aQ [_] (.c 1 (.v 0) (.n 40) .nil) 0 (.v 0) (.n 1000) tt hz) _ 0 [] none [] rfl (aF _) λx X=>?_
 ·refine bx (List.mem_map.mp hv) λy hy jJ=>?_;obtain rfl:=jJ;have:=hK [];rw[aS] at this;have this:K (v7 "P" y||v7 "Q" y) _:=this;refine bu (λe=>?_) (λe=>?_)
  ·rw[e] at this;exact this
  ·rw[e] at this;refine bu (λe=>?_) (λe=>?_)
   ·rw[e] at this;exact this
   ·rw[e] at this;exact this
 ·have:=hK [];rw[aS] at this;exact this
 ·rw[kc,W5];refine(?_ :Q .next ⟨x0::x1::x2::x3::x4::x5::x6::some (.loc (lm b b' T (.cell (.loc (T.length+5+tr))) cw cl s).length)::rr,H T,(lm b b' T (.cell (.loc (T.length+5+tr))) cw cl s)++(.list ((R.filter oh).map .str)::X)⟩);rw[jm,mV];exact h X
theorem SX(U:cD P g)(ht:s[tr]?=some (.tup [.loc (T.length+5+wr),aO n]))(hw:s[wr]?=some (.list (R.map .str)))(hz:R.length<=40)(LP:s[tw]?=some (.tup [.loc (T.length+5+ww),aO n']))(k:s[ww]?=some (.list (W.map .str)))(L:W.length<=40)(h:Q .next ⟨rr,H T,lm b b' T (.cell (.loc (T.length+5+tr))) (.cell (.loc (T.length+5+tw))) (.cell (.int (((W.length:Nat):Int)-((R.length:Nat):Int)))) s⟩):E9.1 ⟨rr,H T,lm b b' T (.cell (.loc (T.length+5+tr))) (.cell (.loc (T.length+5+tw))) .de s⟩ Q:=by refine bS (i:=0) (ce:=H T) rfl ta ?_;refine dK (dF LP) rfl ?_;refine eG (dF k) (by rw[ax];exact aQ [_] (.c 1 (.v 0) (.n 40) .nil) 0 (.v 0) (.n 10000) tt L) ?_;refine bS (i:=1) (ce:=H T) rfl pq ?_;refine dK (dF ht) rfl ?_;refine eG (dF hw) (by rw[ax];exact aQ [_] (.c 1 (.v 0) (.n 40) .nil) 0 (.v 0) (.n 10000) tt hz) ?_;rw[ax,ax];exact DG (i:=2) (ce:=H T) rfl Fh rfl WR h
theorem SY(U:cD P g){zs:List V}(hj:s[j]?=some (.list zs))(hz:zs.length<=1000)(h:Q .next ⟨x0::x1::x2::x3::x4::x5::x6::some (.loc (T.length+5+j))::some (.int (2*L+((zs.length:Nat):Int)))::rr,H T,lm b b' T cr cw (.cell (.int L)) s⟩):E_.1 ⟨x0::x1::x2::x3::x4::x5::x6::some (.loc (T.length+5+j))::x8::rr,H T,lm b b' T cr cw (.cell (.int L)) s⟩ Q:=by refine bS (i:=2) (ce:=H T) rfl Fh ?_;exact eG (dF hj) (aQ [_] (.c 1 (.v 0) (.n 1000) .nil) 0 (.v 0) (.n 10000) tt hz) h
theorem SZ(U:cD P g){p:Int}{m:Nat}(h:Q .next ⟨x0::x1::x2::some (aO m)::x4::x5::x6::x7::some (.int p)::some (.int (p+((m / 196 % 3:Nat):Int)-1))::rr,H T,lm b b' T cr cw cl s⟩):Fa.1 ⟨x0::x1::x2::some (aO m)::x4::x5::x6::x7::some (.int p)::x9::rr,H T,lm b b' T cr cw cl s⟩ Q:=by have e:Int.fmod (Int.fdiv ((m:Nat):Int) 196) 3=((m / 196 % 3:Nat):Int):=dm m 196 3;refine(?_ :Q .next ⟨x0::x1::x2::some (aO m)::x4::x5::x6::x7::some (.int p)::some (.int (p+Int.fmod (Int.fdiv ((m:Nat):Int) 196) 3-1))::rr,H T,lm b b' T cr cw cl s⟩);rw[e];exact h
theorem S0(U:cD P g){m:Nat}(h:Q .next ⟨x0::x1::x2::some (aO m)::x4::x5::x6::x7::x8::x9::some (.int (2*L-1-((m / 1176:Nat):Int)))::rr,H T,lm b b' T cr cw (.cell (.int L)) s⟩):Fb.1 ⟨x0::x1::x2::some (aO m)::x4::x5::x6::x7::x8::x9::tH::rr,H T,lm b b' T cr cw (.cell (.int L)) s⟩ Q:=by refine bS (i:=2) (ce:=H T) rfl Fh ?_;have e:Int.fdiv ((m:Nat):Int) 1176=((m / 1176:Nat):Int):=q7 m 1176;refine(?_ :Q .next ⟨x0::x1::x2::some (aO m)::x4::x5::x6::x7::x8::x9::some (.int (2*L-1-Int.fdiv ((m:Nat):Int) 1176))::rr,H T,lm b b' T cr cw (.cell (.int L)) s⟩);rw[e];exact h
end
noncomputable def vM(m:Nat)(R W:List Str)(mx:Int):Int:=bif Nat.beq (m / 588 % 2) 0 then Ps R W mx else Ps W R mx
section
variable {na mo:Option V}{n:Nat}
theorem yO{lo:List (Option V)}{mx:Int}{K:V->St->Prop}(hw:s[wr]?=some (.list (R.map .str)))(hz:R.length<=40)(Z:∀x∈R,x.length<=10000)(ho:ry R)(k:s[ww]?=some (.list (W.map .str)))(L:W.length<=40)(j:∀x∈W,x.length<=10000)(k6:ry W)(h:∀X,K (.int (Ps R W mx)) ⟨lo,H T,lm b b' T cr cw cl (s++X)⟩):WK [.loc (T.length+5+wr),.loc (T.length+5+ww),.int mx] ⟨lo,H T,lm b b' T cr cw cl s⟩ K:=by refine λ_ E=>E (dF hw) (dF k) hz L (λx B=>am (Z x B) (by decide)) (λx B=>am (j x B) (by decide)) ho k6 λX=>?_;rw[jm];exact h X
theorem S1(U:cD P g){m:Nat}{bd low:Int}(ht:s[tr]?=some (.tup [.loc (T.length+5+wr),aO n]))(hw:s[wr]?=some (.list (R.map .str)))(hz:R.length<=40)(Z:∀x∈R,x.length<=10000)(ho:ry R)(LP:s[tw]?=some (.tup [.loc (T.length+5+ww),aO n']))(k:s[ww]?=some (.list (W.map .str)))(L:W.length<=40)(j:∀x∈W,x.length<=10000)(k6:ry W)(h:∀X,Q .next ⟨x0::x1::x2::some (aO m)::x4::x5::x6::x7::x8::some (.int bd)::some (.int low)::some (.loc (T.length+5+(s++X).length))::rr,H T,lm b b' T (.cell (.loc (T.length+5+tr))) (.cell (.loc (T.length+5+tw))) cl ((s++X)++[.list [.int (vM m R W bd),.int (vM m R W low)]])⟩):Fd.1 ⟨x0::x1::x2::some (aO m)::x4::x5::x6::x7::x8::some (.int bd)::some (.int low)::na::rr,H T,lm b b' T (.cell (.loc (T.length+5+tr))) (.cell (.loc (T.length+5+tw))) cl s⟩ Q:=by
 have e:Int.fmod (Int.fdiv ((m:Nat):Int) 588) 2=((m / 588 % 2:Nat):Int):=dm m 588 2;unfold vM at h;refine bu (b:=Int.fmod (Int.fdiv ((m:Nat):Int) 588) 2==0) (λe1=>?_) (λe1=>?_)
 ·rw[e,yz] at e1;rw[e1] at h;refine bS (i:=1) (ce:=H T) (l:=T.length+3) (v:=.loc (T.length+5+tr)) rfl pq ?_;refine dK (xs:=[.loc (T.length+5+wr),aO n]) (i:=0) (v:=.loc (T.length+5+wr)) (dF ht) rfl ?_;refine bS (i:=0) (ce:=H T) (l:=T.length+2) (v:=.loc (T.length+5+tw)) rfl ta ?_;refine dK (xs:=[.loc (T.length+5+ww),aO n']) (i:=0) (v:=.loc (T.length+5+ww)) (dF LP) rfl ?_;refine yO (R:=R) (W:=W) hw hz Z ho k L j k6 λX=>?_;refine bS (i:=1) (ce:=H T) (l:=T.length+3) (v:=.loc (T.length+5+tr)) rfl pq ?_;refine dK (xs:=[.loc (T.length+5+wr),aO n]) (i:=0) (v:=.loc (T.length+5+wr)) (dF (ac ht)) rfl ?_;refine bS (i:=0) (ce:=H T) (l:=T.length+2) (v:=.loc (T.length+5+tw)) rfl ta ?_;refine dK (xs:=[.loc (T.length+5+ww),aO n']) (i:=0) (v:=.loc (T.length+5+ww)) (dF (ac LP)) rfl ?_;refine yO (R:=R) (W:=W) (ac hw) hz Z ho (ac k) L j k6 λY=>?_;have:=h (X++Y);rw[<-au,<-jm (s:=(s++X)++Y),<-mV (b:=b) (b':=b') (cr:=.cell (.loc (T.length+5+tr))) (cw:=.cell (.loc (T.length+5+tw))) (cl:=cl)] at this;exact this
 ·rw[e,yz] at e1;rw[e1] at h;refine bS (i:=0) (ce:=H T) (l:=T.length+2) (v:=.loc (T.length+5+tw)) rfl ta ?_;refine dK (xs:=[.loc (T.length+5+ww),aO n']) (i:=0) (v:=.loc (T.length+5+ww)) (dF LP) rfl ?_;refine bS (i:=1) (ce:=H T) (l:=T.length+3) (v:=.loc (T.length+5+tr)) rfl pq ?_;refine dK (xs:=[.loc (T.length+5+wr),aO n]) (i:=0) (v:=.loc (T.length+5+wr)) (dF ht) rfl ?_;refine yO (R:=W) (W:=R) k L j k6 hw hz Z ho λX=>?_;refine bS (i:=0) (ce:=H T) (l:=T.length+2) (v:=.loc (T.length+5+tw)) rfl ta ?_;refine dK (xs:=[.loc (T.length+5+ww),aO n']) (i:=0) (v:=.loc (T.length+5+ww)) (dF (ac LP)) rfl ?_;refine bS (i:=1) (ce:=H T) rfl pq ?_;refine dK (dF (ac ht)) rfl ?_;refine yO (ac k) L j k6 (ac hw) hz Z ho λY=>?_;have:=h (X++Y);rw[<-au,<-jm,<-mV] at this;exact this
theorem S2(U:cD P g){t1 t2:Int}(hj:s[j]?=some (.list [.int t1,.int t2]))(h:Q .next ⟨x0::x1::x2::x3::x4::x5::x6::x7::x8::x9::tH::some (.loc (T.length+5+j))::rr,H T,lm b b' T cr cw cl s⟩):Fe.1 ⟨x0::x1::x2::x3::x4::x5::x6::x7::x8::x9::tH::some (.loc (T.length+5+j))::rr,H T,lm b b' T cr cw cl s⟩ Q:=by refine bJ (dF hj) rfl ?_;refine b_ (b:=("bool":Str)=="bool") (by kernel_rfl) ?_;refine bJ (dF hj) rfl ?_;refine b_ (b:=("bool":Str)=="bool") (by kernel_rfl) ?_;exact h
end
noncomputable def DH(R W:List Str)(d k:Nat):Bool:=nh (W.take k++W.drop (k+d)) R
noncomputable def W6(R W:List Str)(d:Nat):V->Bool
 | .int i=>DH R W d i.toNat
 |_=>false
noncomputable def Bh(R W:List Str)(d:Nat):List Nat:=(List.range (R.length+1)).filter (DH R W d)
theorem S3(R W:List Str)(d:Nat):(((List.range (R.length+1)).map aO).filter (W6 R W d)).map id=(Bh R W d).map aO:=by rw[List.map_id,List.filter_map];rfl
theorem ry.app{a b:List Str}(h:ry a)(h':ry b):ry (a++b):=λx B=>(List.mem_append.mp B).elim (h x) (h' x)
theorem Ld{α:Type}(xs:List α)(n:Nat):fR xs none (some ((n:Nat):Int))=xs.take n:=by
 refine(?_ :(xs.drop 0).take (Nat.min n xs.length-0)=xs.take n);rw[gV,Nat.sub_zero];have:Nat.min n xs.length=min n xs.length:=rfl;rw[this];by_cases h:n<=xs.length
 ·rw[kb h]
 ·rw[j9 (by exact aQ [_,_] (.g 1 (.v 0) (.v 1) .nil) 0 (.v 1) (.v 0) tt h),List.take_length,oz (by exact aQ [_,_] (.g 1 (.v 0) (.v 1) .nil) 0 (.v 1) (.v 0) tt h)]
theorem Lf{lo:List (Option V)}{a b c:Int}(h:me[l]?=some (.rng a b c))(M:Builtin.Range.small a b c=true):IE (.loc l) ⟨lo,ce,me⟩=some (a,b,c):=(bE (o:=zM me[l]?) (bE (f:=O.rg) h)).trans (ag (λx=>cond x (some (a,b,c)) none) M)
section
variable {na mo:Option V}{n:Nat}
theorem S4(U:cD P g){d:Nat}(ht:s[tr]?=some (.tup [.loc (T.length+5+wr),aO n]))(hw:s[wr]?=some (.list (R.map .str)))(hz:R.length<=40)(ho:ry R)(LP:s[tw]?=some (.tup [.loc (T.length+5+ww),aO n']))(k:s[ww]?=some (.list (W.map .str)))(L:W.length<=40)(k6:ry W)(h:∀j X,(s++X)[j]?=some (.list ((Bh R W d).map aO))->Q .next ⟨x0::x1::x2::x3::x4::x5::x6::x7::x8::x9::tH::na::some (.loc (T.length+5+j))::rr,H T,lm b b' T (.cell (.loc (T.length+5+tr))) (.cell (.loc (T.length+5+tw))) (.cell (aO d)) (s++X)⟩):Ff.1 ⟨x0::x1::x2::x3::x4::x5::x6::x7::x8::x9::tH::na::mo::rr,H T,lm b b' T (.cell (.loc (T.length+5+tr))) (.cell (.loc (T.length+5+tw))) (.cell (aO d)) s⟩ Q:=by
 refine bS (i:=1) (ce:=H T) (l:=T.length+3) (v:=.loc (T.length+5+tr)) rfl pq ?_;refine dK (xs:=[.loc (T.length+5+wr),aO n]) (i:=0) (v:=.loc (T.length+5+wr)) (dF ht) rfl ?_;refine eG (dF hw) (by rw[ax];exact aQ [_] (.c 1 (.v 0) (.n 40) .nil) 0 (.v 0) (.n 10000) tt hz) ?_;rw[ax];refine av (Lf (a:=0) (b:=((R.length+1:Nat):Int)) (c:=1) aR (s6 (by exact aQ [_] (.c 1 (.v 0) (.n 40) .nil) 0 (.a (.v 0) (.n 1)) (.n 10000) tt hz))) ?_;refine⟨((List.range (R.length+1)).map aO).length+1,?_⟩;have f:∀Y:List O,((lm b b' T (.cell (.loc (T.length+5+tr))) (.cell (.loc (T.length+5+tw))) (.cell (aO d)) s++[.rng 0 ((R.length+1:Nat):Int) 1])++Y)[T.length+3]?=some (.cell (.loc (T.length+5+tr))):=λY=>ac (ac pq);have N:∀Y:List O,((lm b b' T (.cell (.loc (T.length+5+tr))) (.cell (.loc (T.length+5+tw))) (.cell (aO d)) s++[.rng 0 ((R.length+1:Nat):Int) 1])++Y)[T.length+2]?=some (.cell (.loc (T.length+5+tw))):=λY=>ac (ac ta);have c2:∀Y:List O,((lm b b' T (.cell (.loc (T.length+5+tr))) (.cell (.loc (T.length+5+tw))) (.cell (aO d)) s++[.rng 0 ((R.length+1:Nat):Int) 1])++Y)[T.length+4]?=some (.cell (aO d)):=λY=>ac (ac Fh);have d0:∀Y:List O,((lm b b' T (.cell (.loc (T.length+5+tr))) (.cell (.loc (T.length+5+tw))) (.cell (aO d)) s++[.rng 0 ((R.length+1:Nat):Int) 1])++Y)[T.length+5+tr]?=some (.tup [.loc (T.length+5+wr),aO n]):=λY=>ac (ac (dF ht));have M:∀Y:List O,((lm b b' T (.cell (.loc (T.length+5+tr))) (.cell (.loc (T.length+5+tw))) (.cell (aO d)) s++[.rng 0 ((R.length+1:Nat):Int) 1])++Y)[T.length+5+tw]?=some (.tup [.loc (T.length+5+ww),aO n']):=λY=>ac (ac (dF LP));have f0:∀Y:List O,((lm b b' T (.cell (.loc (T.length+5+tr))) (.cell (.loc (T.length+5+tw))) (.cell (aO d)) s++[.rng 0 ((R.length+1:Nat):Int) 1])++Y)[T.length+5+wr]?=some (.list (R.map .str)):=λY=>ac (ac (dF hw));have p:∀Y:List O,((lm b b' T (.cell (.loc (T.length+5+tr))) (.cell (.loc (T.length+5+tw))) (.cell (aO d)) s++[.rng 0 ((R.length+1:Nat):Int) 1])++Y)[T.length+5+ww]?=some (.list (W.map .str)):=λY=>ac (ac (dF k));refine oe (keep:=W6 R W d) (val:=id) (v0:=id) (iC:=[T.length+4,T.length+3,T.length+2]) (xs:=(List.range (R.length+1)).map aO) (m:=lm b b' T (.cell (.loc (T.length+5+tr))) (.cell (.loc (T.length+5+tw))) (.cell (aO d)) s++[.rng 0 ((R.length+1:Nat):Int) 1]) (λi lo Y=>?_) (λv hv x Y K hK=>?_) (λv hv hk Y K hK=>?_) (by rw[ax,j7];exact aQ [_] (.c 1 (.v 0) (.n 40) .nil) 0 (.a (.v 0) (.n 1)) (.n 1000) tt hz) _ 0 [] none [] rfl (aF _) λx X=>?_
 ·by_cases hi:i<R.length+1
  ·refine(yx hi).trans ?_;rw[bi,j4 hi,fV,Int.mul_one];rfl
  ·refine(tV (by exact aQ [_,_] (.g 1 (.a (.v 0) (.n 1)) (.a (.v 1) (.n 1)) .nil) 0 (.a (.v 1) (.n 1)) (.v 0) tt hi)).trans ?_;rw[List.getElem?_eq_none (by rw[ax,j7];exact aQ [_,_] (.g 1 (.a (.v 0) (.n 1)) (.a (.v 1) (.n 1)) .nil) 0 (.a (.v 1) (.n 1)) (.v 0) tt hi)]
 ·refine bx (List.mem_map.mp hv) λi hi jJ=>?_;obtain rfl:=jJ;replace f:=f Y;replace N:=N Y;replace c2:=c2 Y;replace d0:=d0 Y;replace M:=M Y;replace f0:=f0 Y;replace p:=p Y;revert hK f N c2 d0 M f0 p;generalize (lm b b' T (.cell (.loc (T.length+5+tr))) (.cell (.loc (T.length+5+tw))) (.cell (aO d)) s++[.rng 0 ((R.length+1:Nat):Int) 1])++Y=me;intro hK f N c2 d0 M f0 p;refine bS (i:=2) (ce:=[T.length+4,T.length+3,T.length+2]) (l:=T.length+2) (v:=.loc (T.length+5+tw)) rfl N ?_;refine dK (xs:=[.loc (T.length+5+ww),aO n']) (i:=0) (v:=.loc (T.length+5+ww)) M rfl ?_;refine jE (a:=.none) (b:=aO i) (I:=(W.take i).map .str) p (by rw[ax];exact aQ [_] (.c 1 (.v 0) (.n 40) .nil) 0 (.v 0) (.n 10000) tt L) rfl rfl (by rw[Ld,List.map_take]) ?_;refine bS (i:=2) (ce:=[T.length+4,T.length+3,T.length+2]) (l:=T.length+2) (v:=.loc (T.length+5+tw)) rfl (ac N) ?_;refine dK (xs:=[.loc (T.length+5+ww),aO n']) (i:=0) (v:=.loc (T.length+5+ww)) (ac M) rfl ?_;refine bS (i:=0) (ce:=[T.length+4,T.length+3,T.length+2]) (l:=T.length+4) (v:=aO d) rfl (ac c2) ?_;refine jE (a:=aO (i+d)) (b:=.none) (I:=(W.drop (i+d)).map .str) (ac p) (by rw[ax];exact aQ [_] (.c 1 (.v 0) (.n 40) .nil) 0 (.v 0) (.n 10000) tt L) rfl rfl (by rw[n_,ki]) ?_;refine av (cV (ac aR)) (av (cV aR) (b_ (b:=bw (((W.take i).map V.str).length+((W.drop (i+d)).map V.str).length)) (cM (by rw[ax,ax,jx,cb];exact am (gU (lW _ _) (Nat.sub_le _ _)) (aQ [_] (.c 2 (.v 0) (.n 40) .nil) 0 (.a (.v 0) (.v 0)) (.n 10000) tt L))) ?_));refine bS (i:=1) (ce:=[T.length+4,T.length+3,T.length+2]) (l:=T.length+3) (v:=.loc (T.length+5+tr)) rfl (ac (ac (ac f))) ?_;refine dK (xs:=[.loc (T.length+5+wr),aO n]) (i:=0) (v:=.loc (T.length+5+wr)) (ac (ac (ac d0))) rfl ?_;refine KI (me:=((me++[O.list ((W.take i).map V.str)])++[O.list ((W.drop (i+d)).map V.str)])++[O.list ((W.take i).map V.str++(W.drop (i+d)).map V.str)]) (K:=λr=>K r ⟨[some (aO i)],[T.length+4,T.length+3,T.length+2],((me++[.list ((W.take i).map V.str)])++[.list ((W.drop (i+d)).map V.str)])++[.list ((W.take i).map V.str++(W.drop (i+d)).map V.str)]⟩) (xs:=W.take i++W.drop (i+d)) (I:=R) (by rw[fg];exact aR) (ac (ac (ac f0))) (ry.app (λx B=>k6 x (oH B)) (λx B=>k6 x (lQ B))) ho ?_;rw[au,au];exact hK _
 ·have:=hK [];rw[aS] at this;exact this
 ·rw[kc,gV,S3];refine(?_ :Q .next ⟨x0::x1::x2::x3::x4::x5::x6::x7::x8::x9::tH::na::some (.loc (lm b b' T (.cell (.loc (T.length+5+tr))) (.cell (.loc (T.length+5+tw))) (.cell (aO d)) s++[O.rng 0 ((R.length+1:Nat):Int) 1]).length)::rr,H T,(lm b b' T (.cell (.loc (T.length+5+tr))) (.cell (.loc (T.length+5+tw))) (.cell (aO d)) s++[.rng 0 ((R.length+1:Nat):Int) 1])++(.list ((Bh R W d).map aO)::X)⟩);rw[jm,jm,mV,au];refine h (s++[O.rng 0 ((R.length+1:Nat):Int) 1]).length _ ?_;rw[<-au];exact aR
end
theorem DI{n:Nat}(ts:List Int):wx (xm me n) (ts.map .int)=some (ts.map PyData.int):=by
 induction ts with
 |nil=>rfl
 |cons t ts T=>exact(bE (show xm me n (.int t)=some (.int t) by cases n<;>rfl)).trans (bE T)
theorem rm{ts:List Int}(n:Nat)(h:me[l]?=some (.list (ts.map .int))):xm me (n+1) (.loc l)=some (.list (ts.map PyData.int)):=(bE h).trans (bE (DI ts))
theorem vN:∀ts:List Int,PyData.canLayAll0 (ts.map PyData.int)=true/\PyData.depthAll (ts.map PyData.int)=0
 | []=>⟨by simp[PyData.canLayAll0],by simp[PyData.depthAll]⟩
 |t::ts=>by refine xA (vN ts) λh1 h2=>?_;rw[cy,PyData.canLayAll0,PyData.depthAll,h1,h2,PyData.canLay0,PyData.depth];exact⟨rfl,rfl⟩
theorem om(ts:List Int):SeqAt.shaped (.list (ts.map PyData.int))=true:=by refine xA (vN ts) λh1 h2=>?_;unfold SeqAt.shaped;rw[PyData.canLay0,PyData.depth,h1,h2];rfl
theorem Lg(ts:List Int):PyData.eqv (.list (ts.map PyData.int)) (.list (ts.map PyData.int))=true:=SeqAt.eqv_refl _ (by rw[PyData.canLay0];exact(vN ts).1)
theorem Of{l':Nat}{ts:List Int}{K:Bool->Prop}(h:me[l]?=some (.list (ts.map .int)))(h':me[l']?=some (.list []))(q:K (!ts.isEmpty)):aA (xm me 4 (.loc l)) λx=>aA (xm me 4 (.loc l')) λy=>gd (SeqAt.shaped x&&SeqAt.shaped y) (K (!(PyData.eqv x y))):=by
 refine av (rm 3 h) (av (rm (ts:=[]) 3 h') (b_ (by rw[om,om];rfl) ?_));cases ts with
 |nil=>exact q
 |cons t ts=>rw[show PyData.eqv (.list ((t::ts).map PyData.int)) (.list (([]:List Int).map PyData.int))=false by simp[PyData.eqv,PyData.eqvAll]];exact q
theorem Bi{l':Nat}{ts:List Int}{K:Bool->Prop}(h:me[l]?=some (.list (ts.map .int)))(h':me[l']?=some (.list (ts.map .int)))(q:K true):aA (xm me 4 (.loc l)) λx=>aA (xm me 4 (.loc l')) λy=>gd (SeqAt.shaped x&&SeqAt.shaped y) (K (PyData.eqv x y)):=by refine av (rm 3 h) (av (rm 3 h') (b_ (by rw[om];rfl) ?_));rw[Lg];exact q
section
variable {na mo:Option V}
theorem S5(U:cD P g){jt jp:Nat}{pr low:Int}{ks:List Nat}(ht:s[jt]?=some (.list ([pr,bif ks.isEmpty then low+1 else pr].map V.int)))(hp:s[jp]?=some (.list (ks.map aO)))(h:∀lo b b' r,Q (.ret (.bool true)) ⟨lo,H T,.tab 0 b:: .tab 1 b'::r⟩):Fg.1 ⟨x0::x1::x2::x3::x4::x5::x6::x7::some (.int pr)::x9::some (.int low)::some (.loc (T.length+5+jt))::some (.loc (T.length+5+jp))::rr,H T,lm b b' T cr cw cl s⟩ Q:=by
 have f:ks.map aO=(ks.map Int.ofNat).map V.int:=by rw[h_];rfl
 rw[f] at hp;refine Of (K:=λr=>br r _ _) (ac (dF hp)) aR ?_;cases ks with
 |nil=>exact Bi (K:=λr=>Q (.ret (.bool r)) ⟨x0::x1::x2::x3::x4::x5::x6::x7::some (.int pr)::x9::some (.int low)::some (.loc (T.length+5+jt))::some (.loc (T.length+5+jp))::rr,H T,(lm b b' T cr cw cl s++[O.list []])++[O.list (([pr,low+1]:List Int).map V.int)]⟩) (ac (ac (dF ht))) aR (h _ b b' _)
 |cons k ks=>exact Bi (K:=λr=>Q (.ret (.bool r)) ⟨x0::x1::x2::x3::x4::x5::x6::x7::some (.int pr)::x9::some (.int low)::some (.loc (T.length+5+jt))::some (.loc (T.length+5+jp))::rr,H T,(lm b b' T cr cw cl s++[O.list []])++[O.list (([pr,pr]:List Int).map V.int)]⟩) (ac (ac (dF ht))) aR (h _ b b' _)
end
structure Pt(cs:List Nat)(m:Nat):Prop where
 n:(evs cs []).length<=50
 g0:og "p" "q" [] (evs cs [])
 g1:og (pS m) (qS (m / 2)) (eF m) (evs cs [])
 le:(cX ⟨cN (eF m),pS m,qS (m / 2)⟩ (eF m) (evs cs [])).ws.length<=(cX ⟨cN [],"p","q"⟩ [] (evs cs [])).ws.length
 t1:∀R W:List Str,R=(cX ⟨cN (eF m),pS m,qS (m / 2)⟩ (eF m) (evs cs [])).ws->W=(cX ⟨cN [],"p","q"⟩ [] (evs cs [])).ws->vM m R W (2*((W.length-R.length:Nat):Int)+(((R.filter oh).length:Nat):Int)+((m / 196 % 3:Nat):Int)-1)=2*((W.length-R.length:Nat):Int)+(((R.filter oh).length:Nat):Int)
 t2:∀R W:List Str,R=(cX ⟨cN (eF m),pS m,qS (m / 2)⟩ (eF m) (evs cs [])).ws->W=(cX ⟨cN [],"p","q"⟩ [] (evs cs [])).ws->vM m R W (2*((W.length-R.length:Nat):Int)-1-((m / 1176:Nat):Int))=bif (Bh R W (W.length-R.length)).isEmpty then 2*((W.length-R.length:Nat):Int)-1-((m / 1176:Nat):Int)+1 else 2*((W.length-R.length:Nat):Int)+(((R.filter oh).length:Nat):Int)
theorem aaZ{W W':ad Fl}{σ:St}(h:W σ (rH W' Q)):aV W W' σ Q:=h
theorem iZ{W W':ad Fl}{σ:St}(h:W σ (rH W' Q)):rH (aV W W') Q .next σ:=h
section
theorem Lh(U:cD P g)(hz:g.sn.length<=63)(f:∀c cs,s0 63 (c::cs)->Pt (c::cs) (c / 648)):∃W:ad Fl,NB g (Hj P g) (k+6) (bh (KK P) 276) W/\∀Q:Fl->St->Prop,(∀lo b b' r,Q (.ret (.bool true)) ⟨lo,[2,3,4],.tab 0 b:: .tab 1 b'::r⟩)-> W ⟨some (.e_ (.ref g.sa))::List.replicate 12 none,[2,3,4],[.tab 0 false,.tab 1 false,.de,.de,.de]⟩ Q:=by
 have H:=WO U;refine⟨_,(NB.at rfl (by exact(ab ((KZ g).2 U) (ab (K0.2 U H) (ab (K1.2 U H) (ab (K2.2 U H) (ab (K3.2 U H) (ab (K4.2 U H) (ab (K5.2 U H) (ab (K6.2 U H) (ab (K7.2 U H) (ab (K8.2 U H) (ab (E8.2 U H) (ab (E9.2 U H) (ab (E_.2 U H) (ab (Fa.2 U H) (ab (Fb.2 U H) (ab (Fd.2 U H) (ab (Fe.2 U H) (ab (Ff.2 U H) (ab (Fg.2 U H) aC))))))))))))))))))))),λQ h=>?_⟩;refine aaZ ?_;refine WS (b:=false) (b':=false) (T:=[]) (cr:=.de) (cw:=.de) (cl:=.de) (s:=[]) U hz λcs X hc=>?_;obtain⟨c,cs,rfl⟩:∃c t,cs=c::t:=by
  have:=hc.len;cases cs with
  |nil=>cases this
  |cons c cs=>exact⟨c,cs,rfl⟩
 have G:=f c cs hc;refine iZ ?_;refine WT (j:=0) (cs:=c::cs) U rfl hc.len λlv r he=>?_;have f0:(([]++[O.list ((c::cs).map aO),X])++(.list lv:: .list []::r))[0]?=some (.list ((c::cs).map aO)):=rfl;have p:(([]++[O.list ((c::cs).map aO),X])++(.list lv:: .list []::r))[([]++[O.list ((c::cs).map aO),X]).length]?=some (.list lv):=rfl;revert he f0 p;generalize ([]++[O.list ((c::cs).map aO),X])++(.list lv:: .list []::r)=s;generalize ([]++[O.list ((c::cs).map aO),X]).length=je;intro he f0 p;refine iZ ?_;refine WU (j:=0) (c:=c) (cs:=cs) U f0 ?_;refine iZ ?_;refine WV (m:=c / 648) U ?_;refine iZ ?_;refine WW (m:=c / 648) U ?_;refine iZ ?_;refine WY (m:=c / 648) U λY=>?_;revert G;generalize c / 648=m;intro G;have f0':((s++[O.list [aO (m / 4 % 7),aO (m / 28 % 7)]])++(.list ((eF m).map .str)::Y))[je]?=some (.list lv):=ac (ac p);have q:((s++[O.list [aO (m / 4 % 7),aO (m / 28 % 7)]])++(.list ((eF m).map .str)::Y))[s.length+1]?=some (.list ((eF m).map .str)):=by rw[show s.length+1=(s++[O.list [aO (m / 4 % 7),aO (m / 28 % 7)]]).length by rw[ak];rfl];exact aR
 have D:=(he.more [O.list [aO (m / 4 % 7),aO (m / 28 % 7)]]).more (.list ((eF m).map .str)::Y);clear he f0 p;revert f0' q D;generalize (s++[O.list [aO (m / 4 % 7),aO (m / 28 % 7)]])++(.list ((eF m).map .str)::Y)=s1;generalize s.length+1=jl;intro p q he;refine iZ ?_;refine WZ U G.g0 G.n p he λu X1 tw ww a d=>?_;refine iZ ?_;refine W0 U G.g1 G.n (ac (ac p)) ((he.more _).more _) (ac (ac q)) λb2 X2 tr wr e i=>?_;replace p:=ac (t:=X2) (ac (t:=X1) (ac (t:=[.list []]) p));replace q:=ac (t:=X2) (ac (t:=X1) (ac (t:=[.list []]) q));replace he:=((he.more [.list []]).more X1).more X2;replace a:=ac (t:=X2) a;replace d:=ac (t:=X2) d;revert p q he a d e i;generalize ((s1++[.list []])++X1)++X2=s2;intro e i p q he a d;refine iZ ?_;refine W3 U G.g0 p he a d λX3=>?_;refine iZ ?_;refine W4 U G.g1 (ac p) (he.more _) (ac q) (ac e) (ac i) λX4=>?_;replace a:=ac (t:=X4) (ac (t:=X3) a);replace d:=ac (t:=X4) (ac (t:=X3) d);replace e:=ac (t:=X4) (ac (t:=X3) e);replace i:=ac (t:=X4) (ac (t:=X3) i);clear p q he;revert a d e i;generalize (s2++X3)++X4=s3;intro a d e i;have t1:=G.t1 _ _ rfl rfl;have t2:=G.t2 _ _ rfl rfl;have gG:=G.le;have zr:=G.g1.zw;have zw:=G.g0.zw;have o:=G.g1.lw;have lw:=G.g0.lw;have Yi:=G.g1.Bc;have Bc:=G.g0.Bc;clear G f hc;revert t1 t2 gG zr zw o lw Yi Bc a e d i;generalize (cX ⟨cN (eF m),pS m,qS (m / 2)⟩ (eF m) (evs (c::cs) [])).ws=R;generalize (cX ⟨cN [],"p","q"⟩ [] (evs (c::cs) [])).ws=W;intro a d e i t1 t2 gG zr zw o lw Yi Bc;have eL:((W.length:Nat):Int)-((R.length:Nat):Int)=((W.length-R.length:Nat):Int):=(Int.ofNat_sub gG).symm;refine iZ ?_;refine SW U i e zr o λX5=>?_;refine iZ ?_;refine SX U (ac i) (ac e) zr (ac d) (ac a) zw ?_;rw[eL];refine iZ ?_;refine SY (j:=s3.length) U aR (by rw[ax];exact am (List.length_filter_le _ _) (am zr (by decide))) ?_;rw[ax];refine iZ ?_;refine SZ (m:=m) U ?_;refine iZ ?_;refine S0 (m:=m) U ?_;replace a:=ac (t:=O.list ((R.filter oh).map .str)::X5) a;replace d:=ac (t:=O.list ((R.filter oh).map .str)::X5) d;replace e:=ac (t:=O.list ((R.filter oh).map .str)::X5) e;replace i:=ac (t:=O.list ((R.filter oh).map .str)::X5) i;revert a d e i;generalize s3++(O.list ((R.filter oh).map .str)::X5)=s4;intro a d e i;refine iZ ?_;refine S1 U i e zr o Yi d a zw lw Bc λX6=>?_;rw[t1,t2];refine iZ ?_;refine S2 U aR ?_;refine iZ ?_;refine S4 U (ac (ac i)) (ac (ac e)) zr Yi (ac (ac d)) (ac (ac a)) zw Bc λj X7 hj=>?_;refine iZ ?_;refine S5 U (ac aR) hj λA b b' r=>?_;exact h A b b' r
end
end
section
variable {D:cR}{l:Lc}{l' r:List Nat}{m:Nat}{sp:Nat->Bool}{X t w:Str}
theorem W7{c:Nat}(h:sp c=true):sT sp (c::r) t=(t,r):=by unfold sT;rw[h];rfl
theorem aa0{d:Nat}(h:sp 92=false):sT sp (92::d::r) t=sT sp r (t++gK d):=by rw[sT,h];rfl
theorem aa1{c:Nat}(h:sp c=false)(h':Nat.beq c 92=false):sT sp (c::r) t=sT sp r (t++gK c):=by rw[sT.eq_def];dsimp only;rw[h,h'];rfl
inductive Rd(sp:Nat->Bool):List Nat->Str->Str->Prop
 |nil {t:Str}:Rd sp [] t t
 |esc {d:Nat} {r:List Nat} {t w:Str}:Rd sp r (t++gK d) w->Rd sp (92::d::r) t w
 |chr {c:Nat} {r:List Nat} {t w:Str}:sp c=false->Nat.beq c 92=false->Rd sp r (t++gK c) w->Rd sp (c::r) t w
theorem Rd.app(h92:sp 92=false){l:List Nat}(h:Rd sp l t w):∀aD,sT sp (l++aD) t=sT sp aD w:=by
 induction h with
 |nil=>exact λ_=>rfl
 |esc _ T=>exact λaD=>(aa0 h92).trans (T aD)
 |chr h1 h2 _ T=>exact λaD=>(aa1 h1 h2).trans (T aD)
theorem Rd.cat{l:List Nat}{w':Str}(h:Rd sp l t w)(h':Rd sp l' w w'):Rd sp (l++l') t w':=by
 induction h with
 |nil=>exact h'
 |esc _ T=>exact .esc (T h')
 |chr h1 h2 _ T=>exact .chr h1 h2 (T h')
noncomputable def Li(sp:Nat->Bool):Bool->List Nat->Str->Option Str
 |false,[],t=>some t
 |true,[],_=>none
 |true,d::r,t=>Li sp false r (t++gK d)
 |false,c::r,t=>bif Nat.beq c 92 then Li sp true r t else bif sp c then none else Li sp false r (t++gK c)
theorem Bl:∀(l:List Nat)(t:Str),(Li sp false l t=some w->Rd sp l t w)/\(Li sp true l t=some w->Rd sp (92::l) t w)
 | [],t=>⟨λh=>by obtain rfl:=aq h;exact .nil,λh=>by exact nS h⟩
 |c::r,t=>by
  refine⟨λh=>?_,λh=>.esc ((Bl r _).1 h)⟩;have h:(bif Nat.beq c 92 then Li sp true r t else bif sp c then none else Li sp false r (t++gK c))=some w:=h;cases e':Nat.beq c 92 with
  |true=>rw[e'] at h;rw[bK e'];exact(Bl r t).2 h
  |false=>
   rw[e'] at h;cases e:sp c with
   |true=>rw[e] at h;exact nS h
   |false=>rw[e] at h;exact .chr e e' ((Bl r _).1 h)
theorem aa2:rx 92=false:=by decide
theorem aa3:pU 92=false:=rfl
inductive Tk:List Nat->Str->Prop
 |un {c:Nat} {r:List Nat} {w:Str}:rx c=false->pU c=false->Rd rx (c::r) "" w->Tk (c::r) w
 |qu {r:List Nat} {w:Str}:Rd pU r "" w->Tk (34::(r++[34])) w
theorem S6{c:Nat}(h1:rx c=false)(h2:pU c=false):sw (c::r)=sT rx (c::r) "":=by
 rw[sw,h1];refine(?_ :Kl c r=_);unfold Kl;rw[h2];cases r with
 |nil=>refine(?_ :_=bif rx c then(("":Str),[]) else bif Nat.beq c 92 then(("":Str)++(⟨#[]⟩:Str),[]) else sT rx [] (""++gK c));rw[h1];rfl
 |cons d r=>refine(?_ :_=bif rx c then(("":Str),d::r) else bif Nat.beq c 92 then sT rx r (""++gK d) else sT rx (d::r) (""++gK c));rw[h1];rfl
theorem S7:sw (34::r)=sT pU r "":=rfl
theorem S8{c:Nat}(h:rx c=true):sw (c::r)=sw r:=by rw[sw,h];rfl
theorem Bm{c:Nat}{ws:List Str}(h:rx c=true):iR (c::r) ws l'↔iR r ws l':=by
 have e:=S8 (r:=r) h;constructor
 ·intro k;cases k with
  |stop k=>rw[e] at k ⊢;exact .stop k
  |go k j=>rw[e] at k j ⊢;exact .go k j
 ·intro k;cases k with
  |stop k=>rw[<-e] at k ⊢;exact .stop k
  |go k j=>rw[<-e] at k j ⊢;exact .go k j
def Wh(aD:List Nat):Prop:=aD=[]\/∃c r,aD=c::r/\rx c=true
theorem Tk.words{tk:List Nat}(h:Tk tk w)(hw:Nat.beq w.length 0=false){aD:List Nat}{ws:List Str}(hr:Wh aD)(k:iR aD ws l'):iR (tk++aD) (w::ws) l':=by
 have go:∀{l r:List Nat},sw l=(w,r)->iR r ws l'->iR l (w::ws) l':=λ{l r} e k=>by
  have e1:(sw l).1=w:=by rw[e]
  have e2:(sw l).2=r:=by rw[e]
  have:=iR.go (by rw[e1];exact hw) (by rw[e2];exact k);rw[e1] at this;exact this
 cases h with
 | @un c r _ h1 h2 h=>
  have e:=(S6 h1 h2).trans (h.app aa2 aD);rcases hr with rfl|⟨d,r',rfl,hd⟩
  ·exact go e k
  ·exact go (e.trans (W7 hd)) ((Bm hd).mp k)
 | @qu r _ h=>
  have e:sw (34::(r++[34])++aD)=(w,aD):=by refine(?_ :sw (34::((r++[34])++aD))=_);rw[S7,au,h.app aa3];exact W7 rfl
  exact go e k
def wj(V:List Nat)(ws:List Str):Prop:=∀aD Kj l',iR aD Kj l'->iR (V++aD) (ws++Kj) l'
def yP(V:List Nat)(ws:List Str):Prop:=∀aD Kj l',Wh aD->iR aD Kj l'->iR (V++aD) (ws++Kj) l'
theorem Bn:wj [] []:=λ_ _ _ k=>k
theorem wj.c{V:List Nat}{ws:List Str}(h:wj V ws):yP V ws:=λr w l _ k=>h r w l k
theorem wj.tk{V tk:List Nat}{ws:List Str}(h:wj V ws)(t:Tk tk w)(hw:Nat.beq w.length 0=false):yP (V++tk) (ws++[w]):=λr w' l hr k=>by rw[au,au];exact h _ _ _ (t.words hw hr k)
theorem yP.ws{V:List Nat}{ws:List Str}(h:yP V ws){c:Nat}(hc:rx c=true):wj (V++[c]) ws:=λr w l k=>by rw[au];exact h _ _ _ (.inr ⟨c,r,rfl,hc⟩) ((Bm hc).mpr k)
theorem yP.fin{V:List Nat}{ws:List Str}(h:yP V ws):iR V ws []:=by have:=h [] [] [] (.inl rfl) (.stop rfl);rwa[aS,aS] at this
structure Un(tk:List Nat)(w:Str):Prop where
 hd:∃c r,tk=c::r/\rx c=false/\pU c=false
 rd:Rd rx tk "" w
 ne:Nat.beq w.length 0=false
theorem Un.tk{tk:List Nat}(h:Un tk w):Tk tk w:=by obtain⟨⟨c,r,rfl,h1,h2⟩,h3,_⟩:=h;exact .un h1 h2 h3
theorem S9{x:Str}(h:Nat.beq w.length 0=false):Nat.beq (w++x).length 0=false:=by rw[bH];have:=Nat.ne_of_beq_eq_false h;exact Bool.eq_false_iff.mpr λe=>by have:=bK e;omega
theorem Un.gt{tk:List Nat}(h:Un tk w):Un (tk++[62]) (w++">"):=by obtain⟨⟨c,r,rfl,h1,h2⟩,h3,h4⟩:=h;refine⟨⟨c,r++[62],rfl,h1,h2⟩,?_,S9 h4⟩;refine h3.cat (.chr (by decide) rfl ?_);rw[show(">":Str)=gK 62 by decide+kernel];exact .nil
structure Kb(tk:List Nat)(w:Str):Prop where
 z:tk.count 10=0
 zl:tk.length<=60
 ok:PySem.PyData.strOk w=true
 wl:w.length<=60
noncomputable def kB(tk:List Nat)(w:Str):Bool:=Nat.beq (tk.count 10) 0&&Nat.ble tk.length 60&&PySem.PyData.strOk w&&Nat.ble w.length 60
theorem Hl{tk:List Nat}(h:kB tk w=true):Kb tk w:=by unfold kB at h;simp only[aM] at h;obtain⟨⟨⟨h1,h2⟩,h3⟩,h4⟩:=h;exact⟨bK h1,aU h2,h3,aU h4⟩
structure Pu(tk:List Nat)(w:Str):Prop where
 u:Un tk w
 k:Kb tk w
noncomputable def Yj(tk:List Nat)(w:Str):Bool:=match tk with
 | []=>false
 |c::r=>!(rx c)&& !(pU c)&&(match Li rx false (c::r) "" with
  |some w'=>d3 w' w
  |none=>false)&& !(Nat.beq w.length 0)
theorem Pv{tk:List Nat}(h:Yj tk w=true):Un tk w:=by
 cases tk with
 |nil=>exact nB h
 |cons c r=>
  simp only[Yj,aM,gQ] at h;obtain⟨⟨⟨h1,h2⟩,h3⟩,h4⟩:=h;refine⟨⟨c,r,rfl,h1,h2⟩,?_,h4⟩;cases e:Li rx false (c::r) "" with
  |none=>rw[e] at h3;exact nB h3
  |some w'=>rw[e] at h3;have:=(cq _ _).mp h3;subst this;exact(Bl _ _).1 e
noncomputable def ukB(tk:List Nat)(w:Str):Bool:=Yj tk w&&kB tk w
theorem rn{tk:List Nat}(h:ukB tk w=true):Pu tk w:=by unfold ukB at h;rw[aM] at h;exact⟨Pv h.1,Hl h.2⟩
theorem wj.un{V tk:List Nat}{ws:List Str}(h:wj V ws)(t:Un tk w):yP (V++tk) (ws++[w]):=h.tk t.tk t.ne
def PX(X:Str):Prop:=X="p"\/X="P"\/X="q"\/X="Q"
structure Dp(D:cR):Prop where
 one:D.one="p"\/D.one="P"
 two:D.two="q"\/D.two="Q"
theorem Dp.px(h:Dp D)(s:Bool):PX (pf D s):=by
 cases s with
 |false=>exact h.one.imp id .inl
 |true=>exact .inr (.inr h.two)
theorem W8(h:PX X)(Z:l≠ .k):Pu (ch (("<":Str)++m8 X l.s)) ("<"++(X++":"++l.s)):=by
 cases l with
 |k=>exact absurd rfl Z
 |a=>rcases h with rfl|rfl|rfl|rfl<;>exact rn (by kernel_rfl)
 |b=>rcases h with rfl|rfl|rfl|rfl<;>exact rn (by kernel_rfl)
theorem S_(Z:l≠ .k):Pu (ch (("<":Str)++l.s)) ("<"++l.s):=by
 cases l with
 |k=>exact absurd rfl Z
 |a=>exact rn (by kernel_rfl)
 |b=>exact rn (by kernel_rfl)
theorem Lj(G:Dp D)(o:Option Bool)(Z:l≠ .k):Pu (ch (("<":Str)++bY D o l)) ("<"++qa D o l):=by
 cases o with
 |none=>exact S_ Z
 |some s=>exact W8 (G.px s) Z
theorem W9(h:PX X)(Z:l≠ .k):Pu (ch (ml (m8 X l.s))) ("</"++(X++":"++l.s)++">"):=by
 cases l with
 |k=>exact absurd rfl Z
 |a=>rcases h with rfl|rfl|rfl|rfl<;>exact rn (by kernel_rfl)
 |b=>rcases h with rfl|rfl|rfl|rfl<;>exact rn (by kernel_rfl)
theorem Ta(Z:l≠ .k):Pu (ch (ml l.s)) ("</"++l.s++">"):=by
 cases l with
 |k=>exact absurd rfl Z
 |a=>exact rn (by kernel_rfl)
 |b=>exact rn (by kernel_rfl)
theorem Tb(G:Dp D)(o:Option Bool)(Z:l≠ .k):Pu (ch (ml (bY D o l))) ("</"++qa D o l++">"):=by
 cases o with
 |none=>exact Ta Z
 |some s=>exact W9 (G.px s) Z
def Og(e:Str×Str)(w:Str):Prop:=∃tk,ch (iX e)=32::tk/\Pu tk w
noncomputable def W_(e:Str×Str)(w:Str):Bool:=match ch (iX e) with
 | []=>false
 |c::tk=>Nat.beq c 32&&ukB tk w
theorem pY{e:Str×Str}(h:W_ e w=true):Og e w:=by
 unfold W_ at h;cases q:ch (iX e) with
 |nil=>rw[q] at h;exact nB h
 |cons c tk=>rw[q] at h;simp only[aM] at h;refine⟨tk,?_,rn h.2⟩;rw[q,bK h.1]
theorem Tc(G:Dp D)(s:Bool):Og ("xmlns:"++pf D s,np s) (SF D s):=by
 cases s with
 |false=>unfold SF;rcases G.one with e|e<;>rw[show pf D false=_ from e]<;>exact pY (by kernel_rfl)
 |true=>unfold SF;rcases G.two with e|e<;>rw[show pf D true=_ from e]<;>exact pY (by kernel_rfl)
theorem Xa(hm:m<6)(h0:m≠0):∃v,n9 m=some v/\Og ("k",v) ((eY[m]?).getD ""):=by
 match m,hm,h0 with
 |0,_,h0=>exact absurd rfl h0
 |1,_,_=>exact⟨_,rfl,pY (by kernel_rfl)⟩
 |2,_,_=>exact⟨_,rfl,pY (by kernel_rfl)⟩
 |3,_,_=>exact⟨_,rfl,pY (by kernel_rfl)⟩
 |4,_,_=>exact⟨_,rfl,pY (by kernel_rfl)⟩
 |5,_,_=>exact⟨_,rfl,pY (by kernel_rfl)⟩
noncomputable def tkB(tk:List Nat)(w:Str):Bool:=match tk with
 | []=>false
 |c::r=>!(Nat.beq w.length 0)&&(bif pU c then(match Li pU false r.dropLast "" with
  |some w'=>d3 w' w&&P1 (c::r) (34::(r.dropLast++[34]))
  |none=>false) else Yj (c::r) w)
theorem Bo{tk:List Nat}(h:tkB tk w=true):Tk tk w/\Nat.beq w.length 0=false:=by
 cases tk with
 |nil=>exact nB h
 |cons c r=>
  unfold tkB at h;simp only[aM,gQ] at h;refine⟨?_,h.1⟩;have h:=h.2;cases q:pU c with
  |false=>rw[q] at h;exact(Pv (tk:=c::r) h).tk
  |true=>
   rw[q] at h;cases e:Li pU false r.dropLast "" with
   |none=>rw[e] at h;exact nB h
   |some w'=>rw[e] at h;have h:(d3 w' w&&P1 (c::r) (34::(r.dropLast++[34])))=true:=h;rw[aM] at h;have e1:=(cq _ _).mp h.1;have e2:=(mu _ _).mp h.2;subst e1;rw[e2];exact .qu ((Bl _ _).1 e)
theorem Oh{w:Nat}(hw:w<6)(h0:w≠0):(Tk (ch (mN ((cW[w]?).getD ""))) ((eJ[w]?).getD "")/\Nat.beq ((eJ[w]?).getD "").length 0=false)/\Kb (ch (mN ((cW[w]?).getD ""))) ((eJ[w]?).getD ""):=by
 match w,hw,h0 with
 |0,_,h0=>exact absurd rfl h0
 |1,_,_=>exact⟨Bo (by kernel_rfl),Hl (by kernel_rfl)⟩
 |2,_,_=>exact⟨Bo (by kernel_rfl),Hl (by kernel_rfl)⟩
 |3,_,_=>exact⟨Bo (by kernel_rfl),Hl (by kernel_rfl)⟩
 |4,_,_=>exact⟨Bo (by kernel_rfl),Hl (by kernel_rfl)⟩
 |5,_,_=>exact⟨Bo (by kernel_rfl),Hl (by kernel_rfl)⟩
theorem yQ(x y:Str):ch (mN (x++y))=ch (mN x)++ch (mN y):=by unfold mN XZ XY LL GP;rw[show("\r":Str)=⟨#[13]⟩ by decide+kernel,show(">":Str)=⟨#[62]⟩ by decide+kernel,show("<":Str)=⟨#[60]⟩ by decide+kernel,show("&":Str)=⟨#[38]⟩ by decide+kernel];simp only[xX,mh,j5]
theorem yR{x:Str}(h:ch x=[]):ch (mN x)=[]:=by unfold mN XZ XY LL GP;rw[show("\r":Str)=⟨#[13]⟩ by decide+kernel,show(">":Str)=⟨#[62]⟩ by decide+kernel,show("<":Str)=⟨#[60]⟩ by decide+kernel,show("&":Str)=⟨#[38]⟩ by decide+kernel];simp only[xX,h,ka]
theorem vO(xs:List Str)(x:Str):ch (dE (xs++[x]))=ch (dE xs)++ch x:=by rw[fD,fD,j5,gO,ka,aS]
noncomputable def vP(p:Pg):List Nat:=ch (dE p.pc)++(bif p.seen then ch (mN (dE p.da)) else[])
theorem Td(p:Pg):ch (dE (fl p))=vP p:=by
 unfold fl vP;cases p.seen with
 |false=>rw[Bool.and_false,dk,dk,aS]
 |true=>
  rw[Bool.and_true,cS];cases e:Nat.beq (dE p.da).length 0 with
  |false=>exact vO _ _
  |true=>refine(?_ :ch (dE p.pc)=_);rw[yR (rz ((pP _).symm.trans (bK e))),aS]
noncomputable def jM(es:List (Str×Str)):List Nat:=es.flatMap λe=>ch (iX e)
theorem Te(es:List (Str×Str)):ch (dE (A1 es))=jM es:=by
 unfold A1 jM;cases es with
 |nil=>rw[fD];rfl
 |cons e es=>refine(?_ :ch (dE [dE ((e::es).map iX)])=_);rw[fD,gO,ka,aS,fD,List.flatMap_map]
theorem Oi:∀{es:List (Str×Str)}{us:List Str},aE Og es us->∀{V tk:List Nat}{ws:List Str}{w:Str},wj V ws->Un tk w->yP (V++(tk++jM es++[62])) (ws++fE (w::us)):=λ{es us} h=>by
 induction h with
 |nil=>intro V tk ws w h t;have:=h.un t.gt;rw[show tk++jM []++[62]=tk++[62] by rw[show jM []=[] from rfl,aS]];exact this
 | @cons e u es us a b T=>
  intro V tk ws w h t;refine bx a λQO e1 C=>?_;try clear a
  have:=T ((h.un t).ws (c:=32) (by decide)) C.u;rw[show jM (e::es)=ch (iX e)++jM es from rfl,e1,show fE (w::u::us)=w::fE (u::us) from rfl];rw[au,au,au] at this;rw[au,au];rw[au] at this;exact this
theorem Lk(G:Dp D){lv op:List (Option Bool)}{o:Option Bool}(l:Lc)(hm:m<6)(hr:∀s,o=some s->lv.contains (some s)=op.contains (some s)):∃us,aE Og (kM D lv o (n9 m)) us/\pX (o6 D op o l) m=("<"++qa D o l)::us:=by
 have h1:∃us,aE Og (V1 D (lG lv o)) us/\o6 D op o l=("<"++qa D o l)::us:=by
  cases o with
  |none=>exact⟨[],.nil,rfl⟩
  |some s=>
   have e:=hr s rfl;rw[kn];refine(?_ :∃us,aE Og (V1 D (bif lv.contains (some s) then none else some s)) us/\_);rw[e];cases op.contains (some s) with
   |true=>exact⟨[],.nil,rfl⟩
   |false=>exact⟨[_],.cons (Tc G s) .nil,rfl⟩
 have h2:∃us,aE Og (X_ (n9 m)) us/\∀ts,pX ts m=ts++us:=by
  cases m with
  |zero=>exact⟨[],.nil,λts=>(aS ts).symm⟩
  |succ m=>refine bx (Xa hm (lV m)) λv e1 e2=>?_;rw[e1];exact⟨[_],.cons e2 .nil,λts=>rfl⟩
 refine bx h1 λus X e1=>?_;try clear h1
 refine bx h2 λf a2 e2=>?_;try clear h2
 refine⟨us++f,X.append a2,?_⟩;rw[e2,e1];rfl
end
section
variable {D0 D1:cR}{l:Lc}{R W left:List Str}{c m:Nat}{o:Option Bool}{p:Pg}{X x:Str}
theorem wZ{y:Str}:∀{ts xs:List Str},(y∈xs\/y∈ts)->y∈gH xs ts
 | [],xs,h=>h.elim id λh=>(nomatch h)
 |t::r,xs,h=>by
  refine wZ (ts:=r) ?_;have:y∈jC t xs↔(y∈xs\/y=t):=by have:=uG t y xs;rw[<-Bool.decide_or,decide_eq_decide] at this;exact this
  rcases h with h|h
  ·exact .inl (this.mpr (.inl h))
  ·rcases List.mem_cons.mp h with h|h
   ·exact .inl (this.mpr (.inr h))
   ·exact .inr h
theorem Ll{ig:Nat}(h:cN left=none->ig=0):Kz (cN left) ig x=(!(Nat.beq ig 0)||dN x left):=by
 cases left with
 |nil=>rw[h rfl];rfl
 |cons a r=>
  refine(?_ :(!(Nat.beq ig 0)||dN x (gH [] (a::r)))=_);refine ag (!(Nat.beq ig 0)|| ·) ?_;rw[Bool.eq_iff_iff,fS,fS];constructor
  ·intro h;rcases pR ((fS _ _).mpr h) with h|h
   ·cases (fS _ _).mp h
   ·exact h
  ·exact λh=>wZ (.inr h)
theorem DJ:∀(s:kN)(x:Bool),some x∈g8 s↔some x∈s.map (·.1)
 | [],x=>Iff.rfl
 |p::s,x=>by
  refine(?_ :some x∈g8 s++[lG (g8 s) p.1]↔some x∈p.1::s.map (·.1));rw[List.mem_append,List.mem_singleton,List.mem_cons,DJ s x];constructor
  ·rintro(h|h)
   ·exact .inr h
   ·left;obtain⟨o,l⟩:=p;cases o with
    |none=>exact LG h
    |some y=>
     have h:some x=bif (g8 s).contains (some y) then none else some y:=h;cases e:(g8 s).contains (some y) with
     |true=>rw[e] at h;exact LG h
     |false=>rw[e] at h;exact h
  ·rintro(h|h)
   ·obtain⟨o,l⟩:=p;subst h;by_cases e:some x∈g8 s
    ·exact .inl ((DJ s x).mp e)
    ·right;refine(?_ :some x=bif (g8 s).contains (some x) then none else some x);rw[Bool.eq_false_iff.mpr λe'=>e (List.contains_iff_mem.mp e')];rfl
   ·exact .inl h
theorem Xb(s:kN)(x:Bool):(g8 s).contains (some x)=(s.reverse.map (·.1)).contains (some x):=by rw[Bool.eq_iff_iff,List.contains_iff_mem,List.contains_iff_mem,DJ,gS,j_]
structure J(D:cR)(left:List Str)(S:kN)(ph:Bool)(n t:Nat)(p:Pg)(q:Rl):Prop where
 ig:p.dD=q.sk
 st:S.drop p.dD=p.s
 le:p.dD<=S.length
 ex:cN left=none->p.dD=0
 op:q.op=p.s.reverse.map (·.1)
 sn:p.seen=false->p.s=[]/\p.da=[]/\p.pc=[]
 nk:∀e∈S,e.2≠ .k
 lo:ph=true\/p.dD≠0->wj (vP p) q.ws
 lc:yP (vP p) q.ws
 ln:q.line=1+(vP p).count 10
 zl:(vP p).length<=1000*t
 zw:q.ws.length+2*S.length<=n
 Bc:ry q.ws
 lw:∀w∈q.ws,w.length<=1000
 s2:p.s=[]->(S≠[]\/ph=true)->p.seen=false
 d0:ph=false->S=[]->p.da=[]
theorem Xc{n:Nat}(h:Nat.beq n 0=false):n≠0:=λe=>by rw[e] at h;exact yU h
theorem Bp{xs:List Str}{s:kN}{ig:Nat}:vP ⟨s,fl p++xs,[],true,ig⟩=vP p++ch (dE xs):=by unfold vP;rw[cS,yR (by rw[fD];rfl),aS,fD,j5,<-fD,<-fD,Td];rfl
theorem Oj{es:List (Str×Str)}{us:List Str}(h:aE Og es us):(jM es).count 10=0/\(jM es).length<=61*us.length/\ry us/\∀u∈us,u.length<=60:=by
 induction h with
 |nil=>exact⟨rfl,aF _,λ_ h=>(nomatch h),λ_ h=>(nomatch h)⟩
 | @cons e u es us a b T=>
  refine bx a λtk e1 t=>?_;try clear a
  refine FC T λh1 h2 h3 h4=>?_;try clear T
  rw[show jM (e::es)=ch (iX e)++jM es from rfl,e1];refine⟨?_,?_,?_,?_⟩
  ·rw[gP,h1,List.count_cons,t.k.z];rfl
  ·have:=t.k.zl;rw[ak,aJ,aJ];exact aQ [_,_,_] (.c 1 (.v 0) (.m 61 (.v 1)) (.c 1 (.v 2) (.n 60) .nil)) 0 (.a (.a (.v 2) (.n 1)) (.v 0)) (.m 61 (.a (.v 1) (.n 1))) tt h2 this
  ·intro x B;rcases List.mem_cons.mp B with rfl|B
   ·exact t.k.ok
   ·exact h3 x B
  ·intro x B;rcases List.mem_cons.mp B with rfl|B
   ·exact t.k.wl
   ·exact h4 x B
theorem Xd{w:Str}(h:PySem.PyData.strOk w=true):PySem.PyData.strOk (w++">")=true:=by unfold PySem.PyData.strOk at *;refine(?_ :(w.cps++(">":Str).cps).all _=true);rw[Array.all_append,h];kernel_rfl
theorem Bq:∀{us:List Str},ry us->(∀u∈us,u.length<=60)->ry (fE us)/\(∀u∈fE us,u.length<=61)/\(fE us).length=us.length
 | [],h,h'=>⟨h,λ_ h=>(nomatch h),rfl⟩
 | [u],h,h'=>⟨λx B=>by
  obtain rfl:=List.mem_singleton.mp B;exact Xd (h u (.head _)),λx B=>by
  obtain rfl:=List.mem_singleton.mp B;rw[bH];exact dQ (h' u (.head _)) 1,rfl⟩
 |u::v::us,h,h'=>by
  refine t_ (Bq (us:=v::us) (λx B=>h x (.tail _ B)) (λx B=>h' x (.tail _ B))) λh1 h2 h3=>?_;refine⟨?_,?_,?_⟩
  ·intro x B;rcases List.mem_cons.mp B with rfl|B
   ·exact h _ (.head _)
   ·exact h1 x B
  ·intro x B;rcases List.mem_cons.mp B with rfl|B
   ·exact iq (h' _ (.head _))
   ·exact h2 x B
  ·exact ag (· +1) h3
section
variable {D:cR}{S:kN}{ph:Bool}{n t:Nat}{q:Rl}
noncomputable def Xe(D:cR)(p:Pg)(o:Option Bool)(l:Lc)(m:Nat):Pg:=⟨(o,l)::p.s,((fl p++[("<":Str)++bY D o l])++A1 (kM D (g8 p.s) o (n9 m)))++[(">":Str)],[],true,p.dD⟩
noncomputable def Xf(D:cR)(p:Pg)(S:kN)(o:Option Bool)(l:Lc):Pg:=⟨S,fl p++[ml (bY D o l)],[],true,p.dD⟩
noncomputable def Xg(p:Pg)(x:Str):Pg:={p with da:=p.da++[x]}
noncomputable def aa5(q:Rl)(us:List Str)(o:Option Bool):Rl:={q with ws:=q.ws++us,op:=q.op++[o]}
noncomputable def aa6(q:Rl)(w:Str):Rl:={q with ws:=q.ws++[w],op:=q.op.dropLast}
noncomputable def aa7(q:Rl)(w c:Nat):Rl:={q with ws:=bif Nat.beq w 0 then q.ws else q.ws++[(eJ[w]?).getD ""],line:=bif Nat.beq c 10 then q.line+(bif Nat.beq w 0 then 1 else 2) else q.line}
noncomputable def TU(D:cR)(p:Pg)(o:Option Bool)(l:Lc)(m:Nat):List Nat:=ch (("<":Str)++bY D o l)++jM (kM D (g8 p.s) o (n9 m))++[62]
theorem Lm:vP (Xe D p o l m)=vP p++TU D p o l m:=by refine(?_ :vP ⟨(o,l)::p.s,((fl p++[("<":Str)++bY D o l])++A1 (kM D (g8 p.s) o (n9 m)))++[(">":Str)],[],true,p.dD⟩=_);unfold TU;rw[au,au,Bp,fD,j5,j5,<-fD (A1 _),Te];rw[show List.flatMap ch [("<":Str)++bY D o l]=ch (("<":Str)++bY D o l) by rw[gO,ka,aS],show List.flatMap ch [(">":Str)]=[62] by kernel_rfl,au]
theorem Ln:vP (Xf D p S o l)=vP p++ch (ml (bY D o l)):=by refine(?_ :vP ⟨S,fl p++[ml (bY D o l)],[],true,p.dD⟩=_);rw[Bp,fD,gO,ka,aS]
theorem Xh(h:p.seen=true):vP (Xg p x)=vP p++ch (mN x):=by refine(?_ :ch (dE p.pc)++(bif p.seen then ch (mN (dE (p.da++[x]))) else[])=_);unfold vP;rw[h,cS,cS,show dE (p.da++[x])=dE p.da++x from Et (by rw[vO,mh]),yQ,au]
theorem aa8(hc:c=32\/c=10\/c=9):ch (mN (gK c))=[c]/\rx c=true/\[c].count 10=bif Nat.beq c 10 then 1 else 0:=by rcases hc with rfl|rfl|rfl<;>exact⟨by kernel_rfl,rfl,rfl⟩
theorem J.Fi(G:Dp D)(B:D.ex=cN left)(h:J D left S true n t p q)(Z:l≠ .k)(hm:m<6):J D left ((o,l)::S) false (n+5) (t+1) (cC D p (.st o l m)) (bO D left q (.st o l m)):=by
 have Xi:∀e∈(o,l)::S,e.2≠ .k:=λe he=>by
  rcases List.mem_cons.mp he with rfl|he
  ·exact Z
  ·exact h.nk e he
 have g:=h.zw;have Ar:=h.zl;cases b:(!(Nat.beq p.dD 0)||dN (eO o l) left) with
 |true=>
  have e1:cC D p (.st o l m)={p with dD:=p.dD+1}:=by refine(?_ :(bif Kz D.ex p.dD (eO o l) then _ else _)=_);rw[B,Ll h.ex,b];rfl
  have e2:bO D left q (.st o l m)={q with sk:=q.sk+1}:=by refine(?_ :(bif !(Nat.beq q.sk 0)||dN (eO o l) left then _ else _)=_);rw[<-h.ig,b];rfl
  rw[e1,e2];refine⟨ag (· +1) h.ig,h.st,jw h.le,λe=>?_,h.op,h.sn,Xi,λ_=>h.lo (.inl rfl),h.lc,h.ln,am Ar (aQ [_] .nil 0 (.m 1000 (.v 0)) (.m 1000 (.a (.v 0) (.n 1))) tt),?_,h.Bc,h.lw,λe _=>h.s2 e (.inr rfl),λ_ e=>(nomatch e)⟩
  ·exfalso;have hi:=h.ex e;cases left with
   |nil=>rw[hi] at b;exact nB b
   |cons a r=>exact LG e
  ·refine(?_ :q.ws.length+2*(S.length+1)<=n+5);exact aQ [_,_,_] (.c 1 (.a (.v 0) (.m 2 (.v 1))) (.v 2) .nil) 0 (.a (.v 0) (.m 2 (.a (.v 1) (.n 1)))) (.a (.v 2) (.n 5)) tt g
 |false=>
  have e1:cC D p (.st o l m)=Xe D p o l m:=by refine(?_ :(bif Kz D.ex p.dD (eO o l) then _ else _)=_);rw[B,Ll h.ex,b];rfl
  have e2:bO D left q (.st o l m)=aa5 q (fE (pX (o6 D q.op o l) m)) o:=by refine(?_ :(bif !(Nat.beq q.sk 0)||dN (eO o l) left then _ else _)=_);rw[show(!(Nat.beq q.sk 0)||dN (eO o l) left)=false by rw[<-h.ig];exact b];rfl
  have hi:p.dD=0:=by
   cases e:Nat.beq p.dD 0 with
   |true=>exact bK e
   |false=>rw[e] at b;exact yU b
  have M:S=p.s:=by have:=h.st;rw[hi] at this;exact this
  refine bx (Lk G l hm (λs e=>by rw[Xb,<-h.op]:∀s,o=some s->(g8 p.s).contains (some s)=q.op.contains (some s))) λus ha I=>?_;have y:=(Lj G o Z);refine FC (Oj ha) λf j k3 k4=>?_;have Mq:us.length<=2:=by rw[<-ha.len];refine am (fN (ak)) ?_;exact gU (yf _ _) (EI _)
  obtain⟨N,c2,c3⟩:=Bq (λx B=>by
   rcases List.mem_cons.mp B with rfl|B
   ·exact y.k.ok
   ·exact k3 x B) (λx B=>by
   rcases List.mem_cons.mp B with rfl|B
   ·exact y.k.wl
   ·exact k4 x B)
  rw[e1,e2,I];have hz:(TU D p o l m).count 10=0:=by unfold TU;rw[gP,gP,y.k.z,f];rfl
  have hzz:(TU D p o l m).length<=1000:=by unfold TU;have:=y.k.zl;rw[ak,ak];refine(?_ :_+1<=1000);omega
  refine⟨h.ig,(ag (λn=>List.drop n ((o,l)::S)) hi).trans (ag (List.cons (o,l)) M),am (fN hi) (aW _),h.ex,?_,λe=>(nomatch e),Xi,λe=>?_,?_,?_,?_,?_,?_,?_,λe=>(nomatch e),λ_ _=>rfl⟩
  ·refine(?_ :q.op++[o]=((o,l)::p.s).reverse.map (·.1));rw[eP,fg,<-h.op];rfl
  ·rcases e with e|e
   ·exact nB e
   ·exact absurd hi e
  ·rw[Lm];exact Oi ha (h.lo (.inl rfl)) y.u
  ·rw[Lm,gP,hz];exact h.ln
  ·rw[Lm,ak];exact aQ [_,_,_] (.c 1 (.v 0) (.m 1000 (.v 1)) (.c 1 (.v 2) (.n 1000) .nil)) 0 (.a (.v 0) (.v 2)) (.m 1000 (.a (.v 1) (.n 1))) tt Ar hzz
  ·refine(?_ :(q.ws++fE _).length+2*(S.length+1)<=n+5);rw[ak,c3,aJ];exact aQ [_,_,_,_] (.c 1 (.a (.v 0) (.m 2 (.v 1))) (.v 2) (.c 1 (.v 3) (.n 2) .nil)) 0 (.a (.a (.v 0) (.a (.v 3) (.n 1))) (.m 2 (.a (.v 1) (.n 1)))) (.a (.v 2) (.n 5)) tt g Mq
  ·exact ry.app h.Bc N
  ·intro w hw;rcases List.mem_append.mp hw with hw|hw
   ·exact h.lw w hw
   ·exact am (c2 w hw) (by decide)
theorem J.Fj(G:Dp D)(h:J D left ((o,l)::S) true n t p q):J D left S false n (t+1) (cC D p (.en o l)) (bO D left q (.en o l)):=by
 have Z:=h.nk _ (.head _);have Xi:∀e∈S,e.2≠ .k:=λe he=>h.nk e (.tail _ he);have g:=h.zw;have Ar:=h.zl;have gG:=h.le;rw[aJ] at g gG;cases b:Nat.beq p.dD 0 with
 |false=>
  have e1:cC D p (.en o l)={p with dD:=p.dD-1}:=by refine(?_ :(bif Nat.beq p.dD 0 then _ else _)=_);rw[b];rfl
  have e2:bO D left q (.en o l)={q with sk:=q.sk-1}:=by refine(?_ :(bif Nat.beq q.sk 0 then _ else _)=_);rw[<-h.ig,b];rfl
  have hi:=Xc b;obtain⟨i,r⟩:∃i,p.dD=i+1:=⟨p.dD-1,by exact lA (λq1 q2=>(Nat.lt_or_gt_of_ne hi).elim (λq=>fB [_,_] (.f 1 (.a (.v 0) (.n 1)) (.v 1) .nil) 0 (.v 1) (.a (.v 0) (.n 1)) tt tt q2) (λq=>fB [_,_] (.f 1 (.a (.v 0) (.n 1)) (.v 1) .nil) 0 (.v 1) (.a (.v 0) (.n 1)) tt tt q2)) (λq1 q2=>(Nat.lt_or_gt_of_ne hi).elim (λq=>fB [_,_] (.f 1 (.v 0) (.n 0) (.c 1 (.a (.v 1) (.n 1)) (.n 0) .nil)) 0 (.v 1) (.a (.v 0) (.n 1)) tt tt q2 q) (λq=>fB [_,_] (.c 2 (.a (.v 0) (.n 1)) (.n 1) (.f 1 (.v 1) (.n 0) (.c 1 (.a (.n 0) (.n 1)) (.v 0) .nil))) 0 (.v 0) (.a (.v 1) (.n 1)) tt tt q1 q2 q))⟩;have T:=h.st;rw[r] at T gG;rw[e1,e2];refine⟨ag (· -1) h.ig,?_,?_,λe=>?_,h.op,h.sn,Xi,λ_=>h.lo (.inl rfl),h.lc,h.ln,am Ar (aQ [_] .nil 0 (.m 1000 (.v 0)) (.m 1000 (.a (.v 0) (.n 1))) tt),am ?_ g,h.Bc,h.lw,λe _=>h.s2 e (.inr rfl),λ_ e=>?_⟩
  ·refine(?_ :S.drop (p.dD-1)=p.s);rw[r];exact T
  ·refine(?_ :p.dD-1<=S.length);exact lA (λq1 q2=>aQ [_,_,_,_] (.c 1 (.a (.v 0) (.n 1)) (.a (.v 1) (.n 1)) (.e 1 (.v 2) (.a (.v 0) (.n 1)) (.e 1 (.a (.v 3) (.n 1)) (.v 2) .nil))) 0 (.v 3) (.v 1) tt gG r q2) (λq1 q2=>aQ [_,_] (.e 1 (.v 0) (.n 0) .nil) 0 (.v 0) (.v 1) tt q2)
  ·refine(?_ :p.dD-1=0);rw[h.ex e]
  ·refine(?_ :q.ws.length+2*S.length<=_);exact aQ [_,_] .nil 0 (.a (.v 0) (.m 2 (.v 1))) (.a (.v 0) (.m 2 (.a (.v 1) (.n 1)))) tt
  ·have QZ:p.s=[]:=by rw[<-h.st,r,List.drop_succ_cons,e,List.drop_nil]
   exact(h.sn (h.s2 QZ (.inr rfl))).2.1
 |true=>
  have hi:=bK b;have M:(o,l)::S=p.s:=by have:=h.st;rw[hi] at this;exact this
  have Xj:p.seen=true:=by
   cases e:p.seen with
   |true=>rfl
   |false=>have:=(h.sn e).1;rw[<-M] at this;cases this
  have LI:=h.op;rw[<-M,eP,fg] at LI;have e1:cC D p (.en o l)=Xf D p S o l:=by refine(?_ :(bif Nat.beq p.dD 0 then _ else _)=_);rw[b,<-M];refine(?_ :(⟨S,fl p++[ml (bY D o l)],[],p.seen,p.dD⟩:Pg)=_);rw[Xj];rfl
  have e2:bO D left q (.en o l)=aa6 q ("</"++qa D o l++">"):=by refine(?_ :(bif Nat.beq q.sk 0 then _ else _)=_);rw[show Nat.beq q.sk 0=true by rw[<-h.ig];exact b];rfl
  have y:=Tb G o Z;rw[e1,e2];refine⟨h.ig,ag (λn=>List.drop n S) hi,am (fN hi) (aW _),h.ex,?_,λe=>(nomatch e),Xi,λe=>?_,?_,?_,?_,?_,?_,?_,λe e'=>?_,λ_ _=>rfl⟩
  ·refine(?_ :q.op.dropLast=S.reverse.map (·.1));rw[LI];exact lR
  ·rcases e with e|e
   ·exact nB e
   ·exact absurd hi e
  ·rw[Ln];exact(h.lo (.inl rfl)).un y.u
  ·rw[Ln,gP,y.k.z];exact h.ln
  ·have:=y.k.zl;rw[Ln,ak];exact aQ [_,_,_] (.c 1 (.v 0) (.m 1000 (.v 1)) (.c 1 (.v 2) (.n 60) .nil)) 0 (.a (.v 0) (.v 2)) (.m 1000 (.a (.v 1) (.n 1))) tt Ar this
  ·refine(?_ :(q.ws++[_]).length+2*S.length<=n);rw[ak];refine(?_ :q.ws.length+1+2*S.length<=n);exact aQ [_,_,_] (.c 1 (.a (.v 0) (.m 2 (.a (.v 1) (.n 1)))) (.v 2) .nil) 0 (.a (.a (.v 0) (.n 1)) (.m 2 (.v 1))) (.v 2) tt g
  ·exact ry.app h.Bc λx B=>by obtain rfl:=List.mem_singleton.mp B;exact y.k.ok
  ·intro w hw;rcases List.mem_append.mp hw with hw|hw
   ·exact h.lw w hw
   ·obtain rfl:=List.mem_singleton.mp hw;exact am y.k.wl (by decide)
  ·rcases e' with e'|e'
   ·exact absurd e e'
   ·exact nB e'
theorem J.Fk{w:Nat}(h:J D left S ph n t p q)(G:S≠[])(hw:w<6)(hc:c=32\/c=10\/c=9):J D left S true (n+bif Nat.beq w 0 then 0 else 1) (t+1) (cC D p (.da w (gK c))) (bO D left q (.da w (gK c))):=by
 have g:=h.zw;have Ar:=h.zl;cases b:Nat.beq p.dD 0 with
 |false=>
  have e1:cC D p (.da w (gK c))=p:=by refine(?_ :(bif Nat.beq p.dD 0 then _ else _)=_);rw[b];rfl
  have e2:bO D left q (.da w (gK c))=q:=by refine(?_ :(bif Nat.beq q.sk 0 then _ else _)=_);rw[<-h.ig,b];rfl
  rw[e1,e2];exact⟨h.ig,h.st,h.le,h.ex,h.op,h.sn,h.nk,λ_=>h.lo (.inr (Xc b)),h.lc,h.ln,am Ar (aQ [_] .nil 0 (.m 1000 (.v 0)) (.m 1000 (.a (.v 0) (.n 1))) tt),am g (gR _ _),h.Bc,h.lw,λe _=>h.s2 e (.inl G),λe=>(nomatch e)⟩
 |true=>
  have hi:=bK b;have M:S=p.s:=by have:=h.st;rw[hi] at this;exact this
  have Xj:p.seen=true:=by
   cases e:p.seen with
   |true=>rfl
   |false=>have:=(h.sn e).1;rw[<-M] at this;exact absurd this G
  have e1:cC D p (.da w (gK c))=Xg p (NV w (gK c)):=by refine(?_ :(bif Nat.beq p.dD 0 then _ else _)=_);rw[b];rfl
  have Bd:d3 (gK c) "\n"=Nat.beq c 10:=by rw[show("\n":Str)=gK 10 by decide+kernel,n7]
  have e2:bO D left q (.da w (gK c))=aa7 q w c:=by refine(?_ :(bif Nat.beq q.sk 0 then _ else _)=_);rw[show Nat.beq q.sk 0=true by rw[<-h.ig];exact b,Bd];rfl
  have d:=Xh (x:=NV w (gK c)) Xj;refine t_ (aa8 hc) λK Yk Xk=>?_;rw[e1,e2];cases w with
  |zero=>
   have d:=d.trans (ag (vP p++ ·) K);refine⟨h.ig,h.st,h.le,h.ex,h.op,λe=>?_,h.nk,λ_=>?_,?_,?_,?_,g,h.Bc,h.lw,λe _=>h.s2 e (.inl G),λe=>(nomatch e)⟩
   ·exact absurd (Xj.symm.trans e) (by decide)
   ·rw[d];exact h.lc.ws Yk
   ·rw[d];exact(h.lc.ws Yk).c
   ·rw[d,gP,Xk];refine(?_ :(bif Nat.beq c 10 then q.line+1 else q.line)=_);rw[h.ln];cases Nat.beq c 10<;>rfl
   ·rw[d,ak];refine(?_ :_+1<=_);exact aQ [_,_] (.c 1 (.v 0) (.m 1000 (.v 1)) .nil) 0 (.a (.v 0) (.n 1)) (.m 1000 (.a (.v 1) (.n 1))) tt Ar
  |succ w=>
   obtain⟨⟨y,p5⟩,hK⟩:=Oh hw (lV w);have ed:ch (mN (NV (w+1) (gK c)))=[c]++ch (mN ((cW[w+1]?).getD ""))++[c]:=by refine(?_ :ch (mN (gK c++(cW[w+1]?).getD ""++gK c))=_);rw[yQ,yQ,K]
   rw[ed] at d;have i:=(((h.lc.ws Yk).tk y p5).ws Yk);rw[au,au] at i;refine⟨h.ig,h.st,h.le,h.ex,h.op,λe=>?_,h.nk,λ_=>?_,?_,?_,?_,?_,?_,?_,λe _=>h.s2 e (.inl G),λe=>(nomatch e)⟩
   ·exact absurd (Xj.symm.trans e) (by decide)
   ·rw[d,au];exact i
   ·rw[d,au];exact i.c
   ·rw[d,gP,gP,gP,Xk,hK.z];refine(?_ :(bif Nat.beq c 10 then q.line+2 else q.line)=_);rw[h.ln];cases Nat.beq c 10<;>simp<;>exact fB [_] .nil 0 (.a (.a (.n 1) (.v 0)) (.n 2)) (.a (.n 1) (.a (.v 0) (.n 2))) tt tt
   ·have:=hK.zl;rw[d,ak,ak,ak];refine(?_ :_+(1+_+1)<=_);exact aQ [_,_,_] (.c 1 (.v 0) (.m 1000 (.v 1)) (.c 1 (.v 2) (.n 60) .nil)) 0 (.a (.v 0) (.a (.a (.n 1) (.v 2)) (.n 1))) (.m 1000 (.a (.v 1) (.n 1))) tt Ar this
   ·refine(?_ :(q.ws++[_]).length+2*S.length<=n+1);rw[ak];refine(?_ :q.ws.length+1+2*S.length<=n+1);exact aQ [_,_,_] (.c 1 (.a (.v 0) (.m 2 (.v 1))) (.v 2) .nil) 0 (.a (.a (.v 0) (.n 1)) (.m 2 (.v 1))) (.a (.v 2) (.n 1)) tt g
   ·exact ry.app h.Bc λx B=>by obtain rfl:=List.mem_singleton.mp B;exact hK.ok
   ·intro w' k;rcases List.mem_append.mp k with k|k
    ·exact h.lw w' k
    ·obtain rfl:=List.mem_singleton.mp k;exact am hK.wl (by decide)
end
structure w3(w' w:Str):Prop where
 or:(w'=w/\oh w'=false)\/(oh w'=true/\bn w' w=1)
 n:oh w=false
noncomputable def Xl(w' w:Str):Bool:= !(oh w)&&((d3 w' w&& !(oh w'))||(oh w'&&(bn w' w==1)))
theorem cI{w' w:Str}(h:Xl w' w=true):w3 w' w:=by unfold Xl at h;simp only[aM,Bool.or_eq_true,gQ,beq_iff_eq] at h;exact⟨h.2.imp (λh=>⟨(cq _ _).mp h.1,h.2⟩) id,h.1⟩
inductive kQ:List Str->List Str->Prop
 |nil:kQ [] []
 |keep {w' w:Str} {R W:List Str}:w3 w' w->kQ R W->kQ (w'::R) (w::W)
 |skip {w:Str} {R W:List Str}:oh w=false->kQ R W->kQ R (w::W)
theorem kQ.app{R' W':List Str}(h:kQ R W)(h':kQ R' W'):kQ (R++R') (W++W'):=by
 induction h with
 |nil=>exact h'
 |keep r _ T=>exact .keep r T
 |skip r _ T=>exact .skip r T
theorem Ok(h:aE w3 R W):kQ R W:=by
 induction h with
 |nil=>exact .nil
 |cons a _ T=>exact .keep a T
theorem Lo(h:aE w3 R W):kQ [] W:=by
 induction h with
 |nil=>exact .nil
 |cons a _ T=>exact .skip a.n T
def PP(X x:Str):Prop:=(X="p"/\x="p")\/(X="P"/\x="p")\/(X="q"/\x="q")\/(X="Q"/\x="q")
theorem Lp(h:PP X x)(Z:l≠ .k):w3 ("<"++(X++":"++l.s)) ("<"++(x++":"++l.s))/\w3 ("<"++(X++":"++l.s)++">") ("<"++(x++":"++l.s)++">"):=by
 cases l with
 |k=>exact absurd rfl Z
 |a=>rcases h with ⟨rfl,rfl⟩|⟨rfl,rfl⟩|⟨rfl,rfl⟩|⟨rfl,rfl⟩<;>exact⟨cI (by kernel_rfl),cI (by kernel_rfl)⟩
 |b=>rcases h with ⟨rfl,rfl⟩|⟨rfl,rfl⟩|⟨rfl,rfl⟩|⟨rfl,rfl⟩<;>exact⟨cI (by kernel_rfl),cI (by kernel_rfl)⟩
theorem Ol(Z:l≠ .k):w3 ("<"++l.s) ("<"++l.s)/\w3 ("<"++l.s++">") ("<"++l.s++">"):=by
 cases l with
 |k=>exact absurd rfl Z
 |a=>exact⟨cI (by kernel_rfl),cI (by kernel_rfl)⟩
 |b=>exact⟨cI (by kernel_rfl),cI (by kernel_rfl)⟩
theorem Tf(h:PP X x)(Z:l≠ .k):w3 ("</"++(X++":"++l.s)++">") ("</"++(x++":"++l.s)++">"):=by
 cases l with
 |k=>exact absurd rfl Z
 |a=>rcases h with ⟨rfl,rfl⟩|⟨rfl,rfl⟩|⟨rfl,rfl⟩|⟨rfl,rfl⟩<;>exact cI (by kernel_rfl)
 |b=>rcases h with ⟨rfl,rfl⟩|⟨rfl,rfl⟩|⟨rfl,rfl⟩|⟨rfl,rfl⟩<;>exact cI (by kernel_rfl)
theorem Om(Z:l≠ .k):w3 ("</"++l.s++">") ("</"++l.s++">"):=by
 cases l with
 |k=>exact absurd rfl Z
 |a=>exact cI (by kernel_rfl)
 |b=>exact cI (by kernel_rfl)
theorem Tg(h:PP X x)(s:Bool):w3 ("xmlns:"++X++"=\""++np s++"\"") ("xmlns:"++x++"=\""++np s++"\"")/\w3 ("xmlns:"++X++"=\""++np s++"\""++">") ("xmlns:"++x++"=\""++np s++"\""++">"):=by
 cases s with
 |true=>rcases h with ⟨rfl,rfl⟩|⟨rfl,rfl⟩|⟨rfl,rfl⟩|⟨rfl,rfl⟩<;>exact⟨cI (by kernel_rfl),cI (by kernel_rfl)⟩
 |false=>rcases h with ⟨rfl,rfl⟩|⟨rfl,rfl⟩|⟨rfl,rfl⟩|⟨rfl,rfl⟩<;>exact⟨cI (by kernel_rfl),cI (by kernel_rfl)⟩
theorem Xm(hm:m<6):w3 ((eY[m]?).getD "") ((eY[m]?).getD "")/\w3 ((eY[m]?).getD ""++">") ((eY[m]?).getD ""++">"):=by
 match m,hm with
 |0,_=>exact⟨cI (by kernel_rfl),cI (by kernel_rfl)⟩
 |1,_=>exact⟨cI (by kernel_rfl),cI (by kernel_rfl)⟩
 |2,_=>exact⟨cI (by kernel_rfl),cI (by kernel_rfl)⟩
 |3,_=>exact⟨cI (by kernel_rfl),cI (by kernel_rfl)⟩
 |4,_=>exact⟨cI (by kernel_rfl),cI (by kernel_rfl)⟩
 |5,_=>exact⟨cI (by kernel_rfl),cI (by kernel_rfl)⟩
theorem Pw(hm:m<6):w3 ((eJ[m]?).getD "") ((eJ[m]?).getD ""):=by
 match m,hm with
 |0,_=>exact cI (by kernel_rfl)
 |1,_=>exact cI (by kernel_rfl)
 |2,_=>exact cI (by kernel_rfl)
 |3,_=>exact cI (by kernel_rfl)
 |4,_=>exact cI (by kernel_rfl)
 |5,_=>exact cI (by kernel_rfl)
def DD(D0 D1:cR):Prop:=∀s,PP (pf D1 s) (pf D0 s)
def Rn2(a b:Str):Prop:=w3 a b/\w3 (a++">") (b++">")
theorem DK{a b:List Str}(h:aE Rn2 a b):aE w3 (fE a) (fE b):=by
 induction h with
 |nil=>exact .nil
 |cons h r T=>
  cases r with
  |nil=>exact .cons h.2 .nil
  |cons h' r=>exact .cons h.1 T
theorem Br(h:DD D0 D1)(op:List (Option Bool))(o:Option Bool)(Z:l≠ .k)(hm:m<6):aE w3 (fE (pX (o6 D1 op o l) m)) (fE (pX (o6 D0 op o l) m)):=by
 have h1:aE Rn2 (o6 D1 op o l) (o6 D0 op o l):=by
  cases o with
  |none=>exact .cons (Ol Z) .nil
  |some s=>
   rw[kn,kn];cases op.contains (some s) with
   |true=>exact .cons (Lp (h s) Z) .nil
   |false=>exact .cons (Lp (h s) Z) (.cons (Tg (h s) s) .nil)
 refine DK ?_;unfold pX;cases Nat.beq m 0 with
 |true=>exact h1
 |false=>exact h1.append (.cons (Xm hm) .nil)
theorem Lq(h:DD D0 D1)(o:Option Bool)(Z:l≠ .k):w3 ("</"++qa D1 o l++">") ("</"++qa D0 o l++">"):=by
 cases o with
 |none=>exact Om Z
 |some s=>exact Tf (h s) Z
structure CX(D0 D1:cR)(left:List Str):Prop where
 h0:Dp D0
 h1:Dp D1
 x0:D0.ex=cN []
 x1:D1.ex=cN left
 dd:DD D0 D1
structure JJ(D0 D1:cR)(left:List Str)(S:kN)(ph:Bool)(n t:Nat)(p0:Pg)(q0:Rl)(p1:Pg)(q1:Rl):Prop where
 j0:J D0 [] S ph n t p0 q0
 j1:J D1 left S ph n t p1 q1
 sub:kQ q1.ws q0.ws
section
variable {D:cR}{S S' S'':kN}{ph Th Ti:Bool}{n n' So t:Nat}{p0 p1:Pg}{q q0 q1:Rl}{w:Nat}
theorem J.zero(h:J D [] S ph n t p q):p.dD=0/\q.sk=0/\p.s=S:=by have hi:=h.ex rfl;have:=h.st;rw[hi] at this;exact⟨hi,h.ig▸hi,this.symm⟩
theorem J.SK(h:J D [] S ph n t p q):q.op=S.reverse.map (·.1):=by rw[h.op,h.zero.2.2]
theorem JJ.st(C:CX D0 D1 left)(h:JJ D0 D1 left S true n t p0 q0 p1 q1)(Z:l≠ .k)(hm:m<6):JJ D0 D1 left ((o,l)::S) false (n+5) (t+1) (cC D0 p0 (.st o l m)) (bO D0 [] q0 (.st o l m)) (cC D1 p1 (.st o l m)) (bO D1 left q1 (.st o l m)):=by
 refine⟨h.j0.Fi C.h0 C.x0 Z hm,h.j1.Fi C.h1 C.x1 Z hm,?_⟩;refine t_ (h.j0.zero) λL z2 z3=>?_;have z:(bO D0 [] q0 (.st o l m)).ws=q0.ws++fE (pX (o6 D0 q0.op o l) m):=by refine(?_ :(bif !(Nat.beq q0.sk 0)||dN (eO o l) [] then {q0 with sk:=q0.sk+1} else _:Rl).ws=_);rw[z2];rfl
 rw[z];cases b:(!(Nat.beq q1.sk 0)||dN (eO o l) left) with
 |true=>
  have e1:(bO D1 left q1 (.st o l m)).ws=q1.ws:=by refine(?_ :(bif !(Nat.beq q1.sk 0)||dN (eO o l) left then {q1 with sk:=q1.sk+1} else _:Rl).ws=_);rw[b];rfl
  rw[e1,<-aS q1.ws];exact h.sub.app (Lo (Br C.dd _ o Z hm))
 |false=>
  have e1:(bO D1 left q1 (.st o l m)).ws=q1.ws++fE (pX (o6 D1 q1.op o l) m):=by refine(?_ :(bif !(Nat.beq q1.sk 0)||dN (eO o l) left then {q1 with sk:=q1.sk+1} else _:Rl).ws=_);rw[b];rfl
  have hi:p1.dD=0:=by
   rw[h.j1.ig];cases e:Nat.beq q1.sk 0 with
   |true=>exact bK e
   |false=>rw[e] at b;exact yU b
  have eo:q1.op=q0.op:=by have:=h.j1.st;rw[hi] at this;rw[h.j0.SK,h.j1.op,<-this];rfl
  rw[e1,eo];exact h.sub.app (Ok (Br C.dd _ o Z hm))
theorem JJ.en(C:CX D0 D1 left)(h:JJ D0 D1 left ((o,l)::S) true n t p0 q0 p1 q1):JJ D0 D1 left S false n (t+1) (cC D0 p0 (.en o l)) (bO D0 [] q0 (.en o l)) (cC D1 p1 (.en o l)) (bO D1 left q1 (.en o l)):=by
 have Z:=h.j0.nk _ (.head _);refine⟨h.j0.Fj C.h0,h.j1.Fj C.h1,?_⟩;refine t_ (h.j0.zero) λL z2 z3=>?_;have z:(bO D0 [] q0 (.en o l)).ws=q0.ws++["</"++qa D0 o l++">"]:=by refine(?_ :(bif Nat.beq q0.sk 0 then {q0 with ws:=q0.ws++["</"++qa D0 o l++">"],op:=q0.op.dropLast} else _:Rl).ws=_);rw[z2];rfl
 rw[z];cases b:Nat.beq q1.sk 0 with
 |true=>
  have e1:(bO D1 left q1 (.en o l)).ws=q1.ws++["</"++qa D1 o l++">"]:=by refine(?_ :(bif Nat.beq q1.sk 0 then {q1 with ws:=q1.ws++["</"++qa D1 o l++">"],op:=q1.op.dropLast} else _:Rl).ws=_);rw[b];rfl
  rw[e1];exact h.sub.app (.keep (Lq C.dd o Z) .nil)
 |false=>
  have e1:(bO D1 left q1 (.en o l)).ws=q1.ws:=by refine(?_ :(bif Nat.beq q1.sk 0 then {q1 with ws:=q1.ws++["</"++qa D1 o l++">"],op:=q1.op.dropLast} else _:Rl).ws=_);rw[b];rfl
  rw[e1,<-aS q1.ws];exact h.sub.app (.skip (Lq C.dd o Z).n .nil)
theorem JJ.da(h:JJ D0 D1 left S ph n t p0 q0 p1 q1)(G:S≠[])(hw:w<6)(hc:c=32\/c=10\/c=9):JJ D0 D1 left S true (n+bif Nat.beq w 0 then 0 else 1) (t+1) (cC D0 p0 (.da w (gK c))) (bO D0 [] q0 (.da w (gK c))) (cC D1 p1 (.da w (gK c))) (bO D1 left q1 (.da w (gK c))):=by
 refine⟨h.j0.Fk G hw hc,h.j1.Fk G hw hc,?_⟩;refine t_ (h.j0.zero) λL z2 z3=>?_;have z:(bO D0 [] q0 (.da w (gK c))).ws=bif Nat.beq w 0 then q0.ws else q0.ws++[(eJ[w]?).getD ""]:=by refine(?_ :(bif Nat.beq q0.sk 0 then {q0 with ws:=bif Nat.beq w 0 then q0.ws else q0.ws++[(eJ[w]?).getD ""],line:=_} else _:Rl).ws=_);rw[z2];rfl
 rw[z];cases b:Nat.beq q1.sk 0 with
 |true=>
  have e1:(bO D1 left q1 (.da w (gK c))).ws=bif Nat.beq w 0 then q1.ws else q1.ws++[(eJ[w]?).getD ""]:=by refine(?_ :(bif Nat.beq q1.sk 0 then {q1 with ws:=bif Nat.beq w 0 then q1.ws else q1.ws++[(eJ[w]?).getD ""],line:=_} else _:Rl).ws=_);rw[b];rfl
  rw[e1];cases Nat.beq w 0 with
  |true=>exact h.sub
  |false=>exact h.sub.app (.keep (Pw hw) .nil)
 |false=>
  have e1:(bO D1 left q1 (.da w (gK c))).ws=q1.ws:=by refine(?_ :(bif Nat.beq q1.sk 0 then {q1 with ws:=bif Nat.beq w 0 then q1.ws else q1.ws++[(eJ[w]?).getD ""],line:=_} else _:Rl).ws=_);rw[b];rfl
  rw[e1];cases Nat.beq w 0 with
  |true=>exact h.sub
  |false=>rw[<-aS q1.ws];exact h.sub.app (.skip (Pw hw).n .nil)
end
end
section
variable {D:cR}{h:Heap}{bd c:Int}{cs:List Nat}{R W a b left py xs:List Str}{L:Nat}{one two x y:Str}{mg:Str->Option Value}
theorem kP.app:∀{a:List Ev}{p:Pg}{b:List Ev},kP D p a->kP D (a.foldl (cC D) p) b->kP D p (a++b)
 | [],_,_,_,h=>h
 |_::_,_,_,.cons h1 h2,h=>.cons h1 (kP.app h2 h)
theorem hU.app:∀{a:List Ev}{q:Rl}{b:List Ev},hU D left q a->hU D left (a.foldl (bO D left) q) b->hU D left q (a++b)
 | [],_,_,_,h=>h
 |_::_,_,_,.cons h1 h2 h3 h4,h=>.cons h1 h2 h3 (hU.app h4 h)
section
variable {D0 D1:cR}{S S' S'':kN}{ph Th Ti:Bool}{n n' So t:Nat}{p p0 p1:Pg}{q q0 q1:Rl}{o:Option Bool}{l:Lc}{m w c:Nat}{es tN:List Ev}
theorem J.mono(h:J D left S ph n t p q)(hn:n<=n'):J D left S ph n' t p q:={h with zw:=am h.zw hn}
theorem J.close(h:J D left [] true n t p q):J D left [] false n t p q:={h with
 lo:=λe=>h.lo (.inl rfl)
 s2:=λe _=>h.s2 e (.inr rfl)
 d0:=λ_ _=>by
  have M:p.s=[]:=by rw[<-h.st,List.drop_nil]
  exact(h.sn (h.s2 M (.inr rfl))).2.1}
theorem J.Tj(h:J D left S ph n t p q):p.s.length<=S.length:=by rw[<-h.st,cb];exact lA (λq1 q2=>aQ [_,_,_] (.e 1 (.a (.v 0) (.v 1)) (.v 2) .nil) 0 (.v 0) (.v 2) tt q2) (λq1 q2=>aQ [_,_] (.e 1 (.v 0) (.n 0) .nil) 0 (.v 0) (.v 1) tt q2)
theorem J.wz(h:J D left S ph n t p q)(hn:n<=900)(G:S.length<=8):q.ws.length<=900/\q.op.length<=900:=by have:=h.zw;have h2:=h.Tj;refine⟨by exact aQ [_,_,_] (.c 1 (.v 0) (.n 900) (.c 1 (.a (.v 1) (.m 2 (.v 2))) (.v 0) .nil)) 0 (.v 1) (.n 900) tt hn this,?_⟩;rw[h.op,ax,dH];exact aQ [_,_] (.c 1 (.v 0) (.n 8) (.c 1 (.v 1) (.v 0) .nil)) 0 (.v 1) (.n 900) tt G h2
theorem J.Fn(h:J D left ((o,l)::S) ph n t p q):KA p (.en o l)/\E4 q (.en o l):=by
 have key:p.dD=0->p.s=(o,l)::S:=λhi=>by have:=h.st;rw[hi] at this;exact this.symm
 refine⟨λhi=>⟨S,key hi⟩,h.nk _ (.head _),λhi=>?_⟩;rw[h.op,key (h.ig.trans hi),eP,fg];exact λe=>by cases (List.append_eq_nil_iff.mp e).2
def Tl(D:cR)(left:List Str)(p:Pg)(q:Rl)(es:List Ev):Prop:=kP D p es/\hU D left q es
def jG(D0 D1:cR)(left:List Str)(S:kN)(ph:Bool)(n:Nat)(es:List Ev)(S':kN)(Th:Bool)(n':Nat):Prop:=∀t p0 q0 p1 q1,JJ D0 D1 left S ph n t p0 q0 p1 q1->Tl D0 [] p0 q0 es/\Tl D1 left p1 q1 es/\JJ D0 D1 left S' Th n' (t+es.length) (es.foldl (cC D0) p0) (es.foldl (bO D0 []) q0) (es.foldl (cC D1) p1) (es.foldl (bO D1 left) q1)
theorem jG.cat(h:jG D0 D1 left S ph n es S' Th n')(h':jG D0 D1 left S' Th n' tN S'' Ti So):jG D0 D1 left S ph n (es++tN) S'' Ti So:=λt p0 q0 p1 q1 j=>by refine t_ (h t p0 q0 p1 q1 j) λa b j=>?_;refine t_ (h' _ _ _ _ _ j) λi b' j'=>?_;rw[ak,<-c7,List.foldl_append,List.foldl_append,List.foldl_append,List.foldl_append];exact⟨⟨a.1.app i.1,a.2.app i.2⟩,⟨b.1.app b'.1,b.2.app b'.2⟩,j'⟩
theorem jG.nil:jG D0 D1 left S ph n [] S ph n:=λt p0 q0 p1 q1 j=>⟨⟨.nil,.nil⟩,⟨.nil,.nil⟩,j⟩
theorem jG.st(C:CX D0 D1 left)(Z:l≠ .k)(hm:m<6)(G:S.length<=8)(hn:n<=900):jG D0 D1 left S true n [.st o l m] ((o,l)::S) false (n+5):=λt p0 q0 p1 q1 j=>by have w0:=j.j0.wz hn G;have w1:=j.j1.wz hn G;exact⟨⟨.cons ⟨Z,hm,am j.j0.Tj G⟩ .nil,.cons ⟨Z,hm⟩ w0.1 w0.2 .nil⟩,⟨.cons ⟨Z,hm,am j.j1.Tj G⟩ .nil,.cons ⟨Z,hm⟩ w1.1 w1.2 .nil⟩,j.st C Z hm⟩
theorem jG.en(C:CX D0 D1 left)(G:((o,l)::S).length<=8)(hn:n<=900):jG D0 D1 left ((o,l)::S) true n [.en o l] S false n:=λt p0 q0 p1 q1 j=>by have w0:=j.j0.wz hn G;have w1:=j.j1.wz hn G;exact⟨⟨.cons j.j0.Fn.1 .nil,.cons j.j0.Fn.2 w0.1 w0.2 .nil⟩,⟨.cons j.j1.Fn.1 .nil,.cons j.j1.Fn.2 w1.1 w1.2 .nil⟩,j.en C⟩
theorem jG.da(hS0:S≠[])(hw:w<6)(hc:c=32\/c=10\/c=9)(G:S.length<=8)(hn:n<=900):jG D0 D1 left S ph n [.da w (gK c)] S true (n+bif Nat.beq w 0 then 0 else 1):=λt p0 q0 p1 q1 j=>by have w0:=j.j0.wz hn G;have w1:=j.j1.wz hn G;exact⟨⟨.cons ⟨hw,aF _⟩ .nil,.cons hw w0.1 w0.2 .nil⟩,⟨.cons ⟨hw,aF _⟩ .nil,.cons hw w1.1 w1.2 .nil⟩,j.da hS0 hw hc⟩
theorem jG.more(h:jG D0 D1 left S ph n es S' Th n')(hn:n'<=So):jG D0 D1 left S ph n es S' Th So:=λt p0 q0 p1 q1 j=>by refine t_ (h t p0 q0 p1 q1 j) λa b j=>?_;exact⟨a,b,j.j0.mono hn,j.j1.mono hn,j.sub⟩
theorem w5(C:CX D0 D1 left)(hc:c=32\/c=10\/c=9)(hn:n<=900):∀(k:Nat)(S:kN),k<S.length->S.length<=8->jG D0 D1 left S true n (lH (gK c) (S.take k)) (S.drop k) true n
 |0,S,_,_=>by rw[List.take_zero,gV];exact .nil
 |k+1,[],h,_=>nomatch h
 |k+1,(o,l)::S,h,G=>by
  have h':k<S.length:=Nat.lt_of_succ_lt_succ h;have q:=ir G;have h0:S≠[]:=λe=>by subst e;cases h'
  have:=((jG.en C G hn).cat (.da h0 (w:=0) (by decide) hc q hn)).cat (w5 C hc hn k S h' q);exact this
theorem Xn(m:Nat):∃c,q8 m=gK c/\(c=32\/c=10\/c=9):=by
 match m with
 |0=>exact⟨32,rfl,.inl rfl⟩
 |1=>exact⟨10,rfl,.inr (.inl rfl)⟩
 |n+2=>exact⟨9,rfl,.inr (.inr rfl)⟩
theorem Tm(m:Nat):(fY m).2≠ .k:=by
 match m with
 |0|1|2|3|4=>exact λe=>(nomatch e)
 |n+5=>exact λe=>(nomatch e)
theorem Ls(C:CX D0 D1 left)(k:Nat)(hn:n<=800)(G:S.length<=7):jG D0 D1 left S true n (mR k S) (iS k S) true (n+6):=by
 refine bx (Xn (k / 216 % 3)) λc e hc=>?_;unfold mR iS;rw[e];have h1:jG D0 D1 left S true n (lH (gK c) (S.take (dY k S))) (S.drop (dY k S)) true n:=by
  cases S with
  |nil=>rw[List.take_nil,List.drop_nil];exact .nil
  |cons a S=>exact w5 C hc (aQ [_] (.c 1 (.v 0) (.n 800) .nil) 0 (.v 0) (.n 900) tt hn) _ _ (eA _ (Nat.succ_pos _)) (aQ [_] (.c 1 (.v 0) (.n 7) .nil) 0 (.v 0) (.n 8) tt G)
 have q:(S.drop (dY k S)).length<=7:=by rw[cb];exact lA (λq1 q2=>aQ [_,_,_] (.c 1 (.v 0) (.n 7) (.e 1 (.a (.v 1) (.v 2)) (.v 0) .nil)) 0 (.v 1) (.n 7) tt G q2) (λq1 q2=>aQ [_] (.e 1 (.v 0) (.n 0) .nil) 0 (.v 0) (.n 7) tt q2)
 refine h1.cat ?_;have h2:=jG.st (o:=(fY (k % 6)).1) (l:=(fY (k % 6)).2) (m:=k / 6 % 6) C (Tm _) (eA _ (by decide)) (iq q) (aQ [_] (.c 1 (.v 0) (.n 800) .nil) 0 (.v 0) (.n 900) tt hn);refine h2.cat (jG.more (jG.da (gT _ _) (eA _ (by decide)) hc (jw q) (aQ [_] (.c 1 (.v 0) (.n 800) .nil) 0 (.a (.v 0) (.n 5)) (.n 900) tt hn)) ?_);cases Nat.beq (k / 36 % 6) 0 with
 |true=>exact eT _
 |false=>exact aF _
theorem Fo(C:CX D0 D1 left)(hn:n<=900):∀(S:kN),S.length<=8->jG D0 D1 left S true n (m_ S) [] false n
 | [],_=>λt p0 q0 p1 q1 j=>⟨⟨.nil,.nil⟩,⟨.nil,.nil⟩,j.j0.close,j.j1.close,j.sub⟩
 | [(o,l)],G=>jG.en C G hn
 |(o,l)::b::S,G=>by have q:=ir G;have:=((jG.en C G hn).cat (.da (gT b S) (w:=0) (by decide) (.inl rfl) q hn)).cat (Fo C hn (b::S) q);rw[show m_ ((o,l)::b::S)=([.en o l]++[.da 0 (gK 32)])++m_ (b::S) by rw[show gK 32=(" ":Str) by decide+kernel];rfl];exact this
theorem Fp(C:CX D0 D1 left):∀(cs:List Nat)(S:kN)(n:Nat),S.length+cs.length<=7->n+6*cs.length<=800->jG D0 D1 left S true n (evs cs S) [] false (n+6*cs.length)
 | [],S,n,G,hn=>Fo C (by rw[fK] at hn;exact aQ [_] (.c 1 (.a (.v 0) (.m 6 (.n 0))) (.n 800) .nil) 0 (.v 0) (.n 900) tt hn) S (by rw[fK] at G;exact aQ [_] (.c 1 (.a (.v 0) (.n 0)) (.n 7) .nil) 0 (.v 0) (.n 8) tt G)
 |k::cs,S,n,G,hn=>by rw[aJ] at G hn;have h1:=Ls C k (aQ [_,_] (.c 1 (.a (.v 0) (.m 6 (.a (.v 1) (.n 1)))) (.n 800) .nil) 0 (.v 0) (.n 800) tt hn) (aQ [_,_] (.c 1 (.a (.v 0) (.a (.v 1) (.n 1))) (.n 7) .nil) 0 (.v 0) (.n 7) tt G);have h2:=Fp C cs (iS k S) (n+6) (by refine(?_ :(S.drop (dY k S)).length+1+cs.length<=7);rw[cb];exact lA (λq1 q2=>aQ [_,_,_,_] (.c 1 (.a (.v 0) (.a (.v 1) (.n 1))) (.n 7) (.e 1 (.a (.v 2) (.v 3)) (.v 0) .nil)) 0 (.a (.a (.v 2) (.n 1)) (.v 1)) (.n 7) tt G q2) (λq1 q2=>aQ [_,_,_] (.c 1 (.a (.v 0) (.a (.v 1) (.n 1))) (.n 7) (.e 1 (.v 2) (.n 0) .nil)) 0 (.a (.a (.v 2) (.n 1)) (.v 1)) (.n 7) tt G q2)) (aQ [_,_] (.c 1 (.a (.v 0) (.m 6 (.a (.v 1) (.n 1)))) (.n 800) .nil) 0 (.a (.a (.v 0) (.n 6)) (.m 6 (.v 1))) (.n 800) tt hn);rw[aJ,show n+6*(cs.length+1)=n+6+6*cs.length by exact fB [_,_] .nil 0 (.a (.v 0) (.m 6 (.a (.v 1) (.n 1)))) (.a (.a (.v 0) (.n 6)) (.m 6 (.v 1))) tt tt];exact h1.cat h2
theorem Lu(c:Nat)(k:Nat)(S:kN):(lH (q8 c) (S.take k)).length=2*min k S.length:=by rw[pW,jx]
theorem Px:∀S:kN,(m_ S).length<=2*S.length
 | []=>aF _
 | [_]=>eT 1
 |_::b::S=>by have:=Px (b::S);refine(?_ :(m_ (b::S)).length+1+1<=2*((b::S).length+1));exact aQ [_,_] (.c 1 (.v 0) (.m 2 (.v 1)) .nil) 0 (.a (.a (.v 0) (.n 1)) (.n 1)) (.m 2 (.a (.v 1) (.n 1))) tt this
theorem Py:∀(cs:List Nat)(S:kN),(evs cs S).length<=2*S.length+4*cs.length
 | [],S=>Px S
 |k::cs,S=>by
  have:=Py cs (iS k S);have h1:(iS k S).length=S.length-dY k S+1:=by refine(?_ :(S.drop (dY k S)).length+1=_);rw[cb]
  have h2:(mR k S).length=2*min (dY k S) S.length+2:=by unfold mR;rw[ak,Lu];rfl
  refine(?_ :(mR k S++evs cs (iS k S)).length<=_);rw[ak,aJ,h2];rw[h1] at this;have h3:min (dY k S) S.length+(S.length-dY k S)=S.length:=by rw[Nat.min_comm,gz];exact Nat.sub_add_min_cancel _ _
  exact aQ [_,_,_,_,_] (.c 1 (.v 2) (.a (.m 2 (.a (.v 1) (.n 1))) (.m 4 (.v 3))) (.e 2 (.a (.v 0) (.v 1)) (.v 4) .nil)) 0 (.a (.a (.m 2 (.v 0)) (.n 2)) (.v 2)) (.a (.m 2 (.v 4)) (.m 4 (.a (.v 3) (.n 1)))) tt this h3
end
theorem Pz(m:Nat):pS m="p"\/pS m="P":=by
 unfold pS;cases Nat.beq (m % 2) 0 with
 |true=>exact .inl rfl
 |false=>exact .inr rfl
theorem PA(m:Nat):qS m="q"\/qS m="Q":=by
 unfold qS;cases Nat.beq (m % 2) 0 with
 |true=>exact .inl rfl
 |false=>exact .inr rfl
theorem Lv(h:d3 x y=false):x≠y:=λe=>by rw[(cq x y).mpr e] at h;exact yU h
theorem Tn{ex:Option (List Str)}(h1:one="p"\/one="P")(h2:two="q"\/two="Q"):tE ⟨ex,one,two⟩:=by
 rcases h1 with rfl|rfl<;>rcases h2 with rfl|rfl<;>
  exact⟨⟨aU (by kernel_rfl),aU (by kernel_rfl)⟩,⟨aU (by kernel_rfl),aU (by kernel_rfl)⟩,Lv (by kernel_rfl),Lv (by kernel_rfl),Lv (by kernel_rfl)⟩
theorem Xo(h1:one="p"\/one="P")(h2:two="q"\/two="Q"):CX ⟨cN [],"p","q"⟩ ⟨cN left,one,two⟩ left:=by
 refine⟨⟨.inl rfl,.inl rfl⟩,⟨h1,h2⟩,rfl,rfl,λs=>?_⟩;cases s with
 |false=>exact h1.elim (λe=>.inl ⟨e,rfl⟩) (λe=>.inr (.inl ⟨e,rfl⟩))
 |true=>exact .inr (.inr (h2.elim (λe=>.inl ⟨e,rfl⟩) (λe=>.inr ⟨e,rfl⟩)))
theorem Lw(D:cR)(left:List Str):J D left [] true 0 0 He N8:=by
 have e:vP He=[]:=by unfold vP;rw[fD];rfl
 refine⟨rfl,rfl,aF _,λ_=>rfl,rfl,λ_=>⟨rfl,rfl,rfl⟩,λ_ h=>(nomatch h),λ_=>?_,?_,?_,?_,aF _,λ_ h=>(nomatch h),λ_ h=>(nomatch h),λ_ _=>rfl,λh=>(nomatch h)⟩
 ·rw[e];exact Bn
 ·rw[e];exact Bn.c
 ·rw[e];rfl
 ·rw[e];exact aW _
theorem Fq{es:List Ev}{n:Nat}(h1:one="p"\/one="P")(h2:two="q"\/two="Q")(Z:left.length<=20)(H:es.length<=50)(hn:n<=40)(r:Tl ⟨cN left,one,two⟩ left He N8 es)(j:J ⟨cN left,one,two⟩ left [] false n (0+es.length) (es.foldl (cC ⟨cN left,one,two⟩) He) (es.foldl (bO ⟨cN left,one,two⟩ left) N8)):og one two left es:=by
 have d:vP (es.foldl (cC ⟨cN left,one,two⟩) He)=ch (dE (s8 ⟨cN left,one,two⟩ es)):=by have hd:=j.d0 rfl rfl;unfold vP;rw[hd,yR (by rw[fD];rfl)];cases (es.foldl (cC ⟨cN left,one,two⟩) He).seen<;>exact aS _
 have Ar:=j.zl;have hlc:=j.lc;have XO:=j.ln;have g:=j.zw;rw[d] at Ar hlc XO;refine⟨Tn h1 h2,Z,r.1,?_,r.2,hlc.fin,XO.symm,?_,j.Bc,λw hw=>am (j.lw w hw) (by decide)⟩
 ·rw[<-qR,pP];omega
 ·refine am ?_ hn;have:=g;exact aQ [_,_] (.c 1 (.a (.v 0) (.m 2 (.n 0))) (.v 1) .nil) 0 (.v 0) (.v 1) tt this
theorem aa_(hc:cs.length=4)(m:Nat):(evs cs []).length<=50/\og "p" "q" [] (evs cs [])/\og (pS m) (qS (m / 2)) (eF m) (evs cs [])/\kQ (cX ⟨cN (eF m),pS m,qS (m / 2)⟩ (eF m) (evs cs [])).ws (cX ⟨cN [],"p","q"⟩ [] (evs cs [])).ws:=by have hn:=Py cs [];rw[hc] at hn;have H:(evs cs []).length<=50:=am hn (by decide);have C:=Xo (left:=eF m) (Pz m) (PA (m / 2));have r:=Fp C cs [] 0 (by rw[hc];decide) (by rw[hc];decide);rw[hc] at r;refine t_ (r 0 He N8 He N8 ⟨Lw _ _,Lw _ _,.nil⟩) λT u j=>?_;refine⟨H,Fq (.inl rfl) (.inl rfl) (aW _) H (by decide) T j.j0,Fq (Pz m) (PA _) ?_ H (by decide) u j.j1,j.sub⟩;unfold eF;rw[ax];exact am (List.length_filter_le _ _) (aU rfl)
theorem vQ(x y:Str):d3 x y=d3 y x:=by rw[Bool.eq_iff_iff,cq,cq];exact⟨Eq.symm,Eq.symm⟩
theorem Fs(x:Str):bn x x=0:=by unfold bn;rw[qT];rfl
theorem Ft(x y:Str):bn x y=bn y x:=by unfold bn;rw[vQ x y,vQ (Txt.lower x)]
theorem w6(x y:Str):0<=bn x y/\bn x y<=2:=by unfold bn;cases d3 x y<;>cases d3 (Txt.lower x) (Txt.lower y)<;>decide
theorem Xp(h:x≠y):1<=bn x y:=by unfold bn;rw[show d3 x y=false from Bool.eq_false_iff.mpr λe=>h ((cq x y).mp e)];cases d3 (Txt.lower x) (Txt.lower y)<;>decide
inductive Al:List Str->List Str->Int->Prop
 |nil:Al [] [] 0
 |sub {x y:Str} {a b:List Str} {c d:Int}:Al a b c->d=c+bn x y->Al (x::a) (y::b) d
 |del {x:Str} {a b:List Str} {c d:Int}:Al a b c->d=c+2->Al (x::a) b d
 |ins {y:Str} {a b:List Str} {c d:Int}:Al a b c->d=c+2->Al a (y::b) d
theorem Al.symm(h:Al a b c):Al b a c:=by
 induction h with
 |nil=>exact .nil
 |sub _ e T=>exact .sub T (by rw[e,Ft])
 |del _ e T=>exact .ins T e
 |ins _ e T=>exact .del T e
theorem Al.app{i b':List Str}{c':Int}(h:Al a b c)(h':Al i b' c'):Al (a++i) (b++b') (c+c'):=by
 induction h with
 |nil=>rw[fV];exact h'
 |sub _ e T=>exact .sub T (by rw[e];omega)
 |del _ e T=>exact .del T (by rw[e];omega)
 |ins _ e T=>exact .ins T (by rw[e];omega)
theorem DL(x y:Str):Al [x] [y] (bn x y):=.sub .nil (fV _).symm
theorem Lx(x:Str):Al [x] [] 2:=.del .nil rfl
theorem Ly(y:Str):Al [] [y] 2:=.ins .nil rfl
theorem Al.rev(h:Al a b c):Al a.reverse b.reverse c:=by
 induction h with
 |nil=>exact .nil
 | @sub x y a b c d _ e T=>rw[eP,eP,e];exact T.app (DL x y)
 | @del x a b c d _ e T=>have:=T.app (Lx x);rw[aS] at this;rw[eP,e];exact this
 | @ins y a b c d _ e T=>have:=T.app (Ly y);rw[aS] at this;rw[eP,e];exact this
theorem Al.ge0(h:Al a b c):0<=c:=by
 induction h with
 |nil=>exact fO _
 | @sub x y _ _ _ _ _ e T=>have:=(w6 x y).1;omega
 |del _ e T=>omega
 |ins _ e T=>omega
theorem Al.vR(h:Al [] b c):c=2*((b.length:Nat):Int):=by
 generalize ea:([]:List Str)=a at h;induction h with
 |nil=>rfl
 |sub _ _ _=>cases ea
 |del _ _ _=>cases ea
 |ins _ e T=>rw[e,T ea,aJ];omega
theorem Bs(b:List Str):Al [] b (2*((b.length:Nat):Int)):=by
 induction b with
 |nil=>exact .nil
 |cons y b T=>exact .ins T (by rw[aJ];omega)
theorem Al.Lz:∀{a b:List Str}{c:Int},Al a b c->∀b',b=y::b'->∃c',c'<=c+2/\Al a b' c':=by
 intro a b c h;induction h with
 |nil=>intro b' e;cases e
 | @sub x z a b c d h e T=>intro b' eb;cases eb;have:=(w6 x y).1;exact⟨c+2,by omega,.del h rfl⟩
 | @del x a b c d h e T=>intro b' eb;refine bx (T b' eb) λc' h1 h2=>?_;exact⟨c'+2,by omega,.del h2 rfl⟩
 | @ins z a b c d h e T=>intro b' eb;cases eb;exact⟨c,by omega,h⟩
theorem Al.strip(h:Al (x::a) (x::b) c):∃c',c'<=c/\Al a b c':=by
 cases h with
 |sub h e=>rw[Fs] at e;exact⟨_,by omega,h⟩
 |del h e=>refine bx (h.Lz b rfl) λc' h1 h2=>?_;exact⟨c',by omega,h2⟩
 |ins h e=>refine bx (h.symm.Lz a rfl) λc' h1 h2=>?_;exact⟨c',by omega,h2.symm⟩
theorem sB:∀{a b:List Str}{c:Int},Al a b c->∃c',c'<=c/\Al (cH a b).1 (cH a b).2 c'
 | [],b,c,h=>⟨c,fO _,h⟩
 |x::a,[],c,h=>⟨c,fO _,h⟩
 |x::a,y::b,c,h=>by
  rw[fA];cases e:d3 x y with
  |false=>exact⟨c,fO _,h⟩
  |true=>obtain rfl:=(cq x y).mp e;refine bx (h.strip) λN h1 h2=>?_;refine bx (sB h2) λc2 h3 h4=>?_;exact⟨c2,gl h3 h1,h4⟩
noncomputable def Fu(r:List Str):Nat:=(r.filter oh).length
theorem vS(x:Str)(r:List Str):Fu (x::r)=(bif oh x then 1 else 0)+Fu r:=by
 unfold Fu;rw[i6];cases oh x with
 |true=>rw[a6 rfl,aJ,cS];exact fB [_] .nil 0 (.a (.v 0) (.n 1)) (.a (.n 1) (.v 0)) tt tt
 |false=>rw[aH i0,dk];exact fB [_] .nil 0 (.v 0) (.a (.n 0) (.v 0)) tt tt
theorem To{r w:List Str}(h:Al r w c)(hw:∀y∈w,oh y=false):2*((w.length:Nat):Int)-2*((r.length:Nat):Int)+((Fu r:Nat):Int)<=c:=by
 induction h with
 |nil=>exact fO _
 | @sub x y a b c d _ e T=>
  have:=T λz hz=>hw z (.tail _ hz);have h1:=(w6 x y).1;have h2:((bif oh x then 1 else 0:Nat):Int)<=bn x y:=by
   cases B:oh x with
   |false=>exact h1
   |true=>exact Xp λe=>by subst e;rw[hw x (.head _)] at B;exact nB B
  rw[aJ,aJ,vS];omega
 | @del x a b c d _ e T=>
  have:=T hw;have h2:(bif oh x then 1 else 0:Nat)<=1:=by cases oh x<;>decide
  rw[aJ,vS];omega
 | @ins y a b c d _ e T=>have:=T λz hz=>hw z (.tail _ hz);rw[aJ];omega
theorem kQ.w(h:kQ R W):∀y∈W,oh y=false:=by
 induction h with
 |nil=>exact λ_ h=>(nomatch h)
 | @keep w' w R W r _ T=>
  intro y hy;rcases List.mem_cons.mp hy with rfl|hy
  ·exact r.n
  ·exact T y hy
 | @skip w R W r _ T=>
  intro y hy;rcases List.mem_cons.mp hy with rfl|hy
  ·exact r
  ·exact T y hy
theorem kQ.le(h:kQ R W):R.length<=W.length:=by
 induction h with
 |nil=>exact aF _
 |keep _ _ T=>exact jw T
 |skip _ _ T=>exact iq T
theorem kQ.al(h:kQ R W):Al R W (2*((W.length:Nat):Int)-2*((R.length:Nat):Int)+((Fu R:Nat):Int)):=by
 induction h with
 |nil=>exact .nil
 | @keep w' w R W r _ T=>
  refine .sub T ?_;rw[aJ,aJ,vS];rcases r.or with ⟨e,h⟩|⟨h,e⟩
  ·rw[h,e,Fs,dk];omega
  ·rw[h,e,cS];omega
 | @skip w R W r _ T=>refine .ins T ?_;rw[aJ];omega
theorem Al.last(h:Al (a++[x]) (b++[y]) c):(∃c',c=c'+bn x y/\Al a b c')\/(∃c',c=c'+2/\Al a (b++[y]) c')\/(∃c',c=c'+2/\Al (a++[x]) b c'):=by
 have h:=h.rev;rw[lT,lT] at h;have h:Al (x::a.reverse) (y::b.reverse) c:=h;cases h with
 |sub h e=>have:=h.rev;rw[gL,gL] at this;exact .inl ⟨_,e,this⟩
 |del h e=>have:=h.rev;rw[gL,eP,gL] at this;exact .inr (.inl ⟨_,e,this⟩)
 |ins h e=>have:=h.rev;rw[gL,eP,gL] at this;exact .inr (.inr ⟨_,e,this⟩)
theorem Al.split:∀{a u b2:List Str}{c:Int},Al a (u++b2) c->∃X a2 N c2,a=X++a2/\c=N+c2/\Al X u N/\Al a2 b2 c2:=by
 intro a u b2 c h;generalize eb:u++b2=b at h;induction h generalizing u with
 |nil=>refine xA (List.append_eq_nil_iff.mp eb) λCz Y=>?_;obtain rfl:=Cz;obtain rfl:=Y;exact⟨[],[],0,0,rfl,rfl,.nil,.nil⟩
 | @sub x y a b c d h e T=>
  cases u with
  |nil=>obtain rfl:=eb;exact⟨[],x::a,0,d,rfl,(fV _).symm,.nil,.sub h e⟩
  |cons z u=>cases eb;refine gY (T rfl) λX a2 N c2 CN e2 h1 h2=>?_;obtain rfl:=CN;exact⟨x::X,a2,N+bn x y,c2,rfl,by omega,.sub h1 rfl,h2⟩
 | @del x a b c d h e T=>refine gY (T eb) λX a2 N c2 CN e2 h1 h2=>?_;obtain rfl:=CN;exact⟨x::X,a2,N+2,c2,rfl,by omega,.del h1 rfl,h2⟩
 | @ins y a b c d h e T=>
  cases u with
  |nil=>obtain rfl:=eb;exact⟨[],a,0,d,rfl,(fV _).symm,.nil,.ins h e⟩
  |cons z u=>cases eb;refine gY (T rfl) λX a2 N c2 CN e2 h1 h2=>?_;obtain rfl:=CN;exact⟨X,a2,N+2,c2,rfl,by omega,.ins h1 rfl,h2⟩
theorem Tp(h:Al a b c):2*((b.length:Nat):Int)-2*((a.length:Nat):Int)<=c:=by
 induction h with
 |nil=>exact fO _
 | @sub x y _ _ _ _ _ e T=>have:=(w6 x y).1;rw[aJ,aJ];omega
 |del _ e T=>rw[aJ];omega
 |ins _ e T=>rw[aJ];omega
structure ze(a b:List Str)(v:Int):Prop where
 al:Al a b v
 lo:∀c,Al a b c->v<=c
theorem yS(x y:Int):eI x y<=x/\eI x y<=y/\(eI x y=x\/eI x y=y):=by
 unfold eI;by_cases h:y<x
 ·rw[dI h,cS];exact⟨Int.le_of_lt h,fO _,.inr rfl⟩
 ·rw[dR h,dk];exact⟨fO _,Int.not_lt.mp h,.inl rfl⟩
theorem cell{px:List Str}{d u r:Int}(hd:ze px py d)(N:ze (px++[x]) py u)(hr1:∀c,Al px (py++[y]) c->r<=c)(hr2:Al px (py++[y]) r\/d<=r):ze (px++[x]) (py++[y]) (eI (eI r u+2) (d+bn y x)):=by
 refine t_ (yS r u) λi1 i2 i3=>?_;refine t_ (yS (eI r u+2) (d+bn y x)) λj1 j2 j3=>?_;have M:=w6 y x;have hc:=Ft y x;have X:Al (px++[x]) (py++[y]) (d+bn y x):=by rw[hc];exact hd.al.app (DL x y)
 have a2:Al (px++[x]) (py++[y]) (u+2):=by have:=N.al.app (Ly y);rw[aS] at this;exact this
 constructor
 ·rcases j3 with e|e
  ·rcases i3 with e'|e'
   ·rcases hr2 with h|h
    ·have:=h.app (Lx x);rw[aS] at this;rw[e,e'];exact this
    ·rw[show eI (eI r u+2) (d+bn y x)=d+bn y x by omega];exact X
   ·rw[e,e'];exact a2
  ·rw[e];exact X
 ·intro c h;rcases h.last with ⟨c',e,h⟩|⟨c',e,h⟩|⟨c',e,h⟩
  ·have:=hd.lo c' h;omega
  ·have:=hr1 c' h;omega
  ·have:=N.lo c' h;omega
inductive wk:List Str->List Str->List Str->List Int->Prop
 |nil {px py:List Str}:wk px py [] []
 |cons {px py as:List Str} {us:List Int} {x:Str} {u:Int}:ze (px++[x]) py u->wk (px++[x]) py as us->wk px py (x::as) (u::us)
theorem On:∀(as:List Str)(us:List Int)(d r mn:Int)(px:List Str)(dn:List Int),wk px py as us->ze px py d->(∀c,Al px (py++[y]) c->r<=c)->(Al px (py++[y]) r\/d<=r)-> ∃f,(tG y as us d r mn dn).row=dn++f/\wk px (py++[y]) as f/\(as=[]->(tG y as us d r mn dn).res=r)/\(as≠[]->ze (px++as) (py++[y]) (tG y as us d r mn dn).res)/\(tG y as us d r mn dn).mn<=mn/\ (∀X a2,as=X++a2->X≠[]->∀c,Al (px++X) (py++[y]) c->(tG y as us d r mn dn).mn<=c):=λas=>by
 induction as with
 |nil=>intro us d r mn px dn h hd h1 h2;cases h;refine⟨[],rfl,.nil,λ_=>rfl,λe=>absurd rfl e,fO _,λX a2 e h=>?_⟩;exact absurd (List.append_eq_nil_iff.mp e.symm).1 h
 |cons x as T=>
  intro us d r mn px dn h hd h1 h2;cases h with
  | @cons _ _ _ us _ u N h=>
   have hc:=cell hd N h1 h2;refine DN (T us u (eI (eI r u+2) (d+bn y x)) (eI mn (eI (eI r u+2) (d+bn y x))) (px++[x]) (dn++[eI (eI r u+2) (d+bn y x)]) h N hc.lo (.inl hc.al)) λf e1 e2 e3 e4 E L=>?_;refine t_ (yS mn (eI (eI r u+2) (d+bn y x))) λm1 m2 _=>?_;refine⟨eI (eI r u+2) (d+bn y x)::f,?_,.cons hc e2,λe=>(nomatch e),λ_=>?_,gl E m1,λX a2 e hn c D=>?_⟩
   ·refine e1.trans ?_;rw[au];rfl
   ·cases as with
    |nil=>rw[show(tG y [x] (u::us) d r mn dn).res=_ from e3 rfl];exact hc
    |cons z as=>have:=e4 (gT _ _);rw[au] at this;exact this
   ·cases X with
    |nil=>exact absurd rfl hn
    |cons z X=>
     cases e;cases X with
     |nil=>exact gl E (gl m2 (hc.lo c D))
     |cons g X=>refine L (g::X) a2 rfl (gT _ _) c ?_;rw[au];exact D
theorem Oo(b:List Str):ze [] b (2*((b.length:Nat):Int)):=⟨Bs b,λc h=>by rw[h.vR];exact fO _⟩
theorem LA(a:List Str):ze a [] (2*((a.length:Nat):Int)):=⟨(Bs a).symm,λc h=>by rw[h.symm.vR];exact fO _⟩
theorem LB{row:List Int}(B:xs≠[])(h:wk [] py xs row):wk [] (py++[y]) xs (dU y xs row py.length).row/\ze xs (py++[y]) (dU y xs row py.length).res/\∀bs c,Al xs (py++[y]++bs) c->(dU y xs row py.length).mn<=c:=by
 have hd:ze [] py (((py.length:Nat):Int)*2):=by rw[Int.mul_comm];exact Oo py
 obtain⟨f,e1,e2,e3,e4,E,L⟩:=On xs row _ (((py.length:Nat):Int)*2) SR [] [] h hd (λc h=>by
  have:=h.vR;rw[ak] at this;have:=this;omega) (.inr (fO _))
 refine⟨?_,e4 B,λbs c h=>?_⟩
 ·rw[show(dU y xs row py.length).row=_ from e1];exact e2
 ·refine gY (h.split) λX a2 N c2 ea ec h1 h2=>?_;have:=h2.ge0;cases X with
  |nil=>
   have h1:=h1.vR;rw[ak] at h1;have h1:N=2*(((py.length+1:Nat)):Int):=h1;cases xs with
   |nil=>exact absurd rfl B
   |cons x xs=>have:=L [x] xs rfl (gT _ _) (((py.length:Nat):Int)*2+bn x y) (hd.al.app (DL x y));have h3:=(w6 x y).2;refine gl this ?_;omega
  |cons z X=>have:=L (z::X) a2 ea (gT _ _) N h1;refine gl this ?_;omega
theorem LC(B:xs≠[]):∀(bs py:List Str)(row:List Int)(r:Int),wk [] py xs row->(bs=[]->ze xs py r)-> ze xs (py++bs) (s_ xs bd bs py.length row r)\/(s_ xs bd bs py.length row r=bd+1/\∀c,Al xs (py++bs) c->bd<c):=λbs=>by
 induction bs with
 |nil=>intro py row r h h';rw[aS];exact .inl (h' rfl)
 |cons y bs T=>
  intro py row r h h';refine t_ (LB (y:=y) B h) λh1 h2 h3=>?_;rw[DA];have h3:=h3 bs;rw[au] at h3;cases e:decide (bd<(dU y xs row py.length).mn) with
  |true=>exact .inr ⟨rfl,λc h=>Int.lt_of_lt_of_le (ip e) (h3 c h)⟩
  |false=>have:=T (py++[y]) _ _ h1 (λ_=>h2);rw[ak,au] at this;exact this
theorem Fv:∀(as px:List Str),wk px [] as ((List.range as.length).map λ(i:Nat)=>2*((px.length:Nat):Int)+(2+((i:Nat):Int)*2))
 | [],px=>.nil
 |x::as,px=>by
  rw[aJ,List.range_succ_eq_map,cy,h_];refine .cons ?_ ?_
  ·have:=LA (px++[x]);rw[ak] at this;rw[show 2*((px.length:Nat):Int)+(2+((0:Nat):Int)*2)=2*((px.length+1:Nat):Int) by omega];exact this
  ·have:=Fv as (px++[x]);rw[ak] at this;refine cast (ag (wk (px++[x]) [] as) ?_) this;refine io λi _=>?_;refine(?_ :2*((px.length+1:Nat):Int)+(2+((i:Nat):Int)*2)=2*((px.length:Nat):Int)+(2+((i+1:Nat):Int)*2));omega
theorem Fw{I:List Str}(B:xs≠[])(hy:I≠[]):ze xs I (sA xs I bd)\/(sA xs I bd=bd+1/\∀c,Al xs I c->bd<c):=by
 unfold sA;cases e:decide (bd<(((I.length:Nat):Int)-((xs.length:Nat):Int))*2) with
 |true=>refine .inr ⟨rfl,λc h=>?_⟩;have:=Tp h;have:=ip e;omega
 |false=>
  have h0:=Fv xs [];have z:((List.range xs.length).map λ(i:Nat)=>2*((([]:List Str).length:Nat):Int)+(2+((i:Nat):Int)*2))=sy xs.length:=io λi _=>by refine(?_ :2*((0:Nat):Int)+(2+((i:Nat):Int)*2)=2+((i:Nat):Int)*2);omega
  rw[z] at h0;exact LC B I [] (sy xs.length) 0 h0 (λe=>absurd e hy)
theorem pZ:∀a b:List Str,∃z,a=z++(cH a b).1/\b=z++(cH a b).2
 | [],b=>⟨[],rfl,rfl⟩
 |x::a,[]=>⟨[],rfl,rfl⟩
 |x::a,y::b=>by
  rw[fA];cases e:d3 x y with
  |false=>exact⟨[],rfl,rfl⟩
  |true=>obtain rfl:=(cq x y).mp e;refine bx (pZ a b) λz e1 e2=>?_;exact⟨x::z,ag (x:: ·) e1,ag (x:: ·) e2⟩
theorem on:∀a b:List Str,cH b a=((cH a b).2,(cH a b).1)
 | [],[]=>rfl
 | [],y::b=>rfl
 |x::a,[]=>rfl
 |x::a,y::b=>by
  rw[fA,fA,vQ y x];cases d3 x y with
  |false=>rfl
  |true=>exact on a b
theorem p4:∀z a b:List Str,cH (z++a) (z++b)=cH a b
 | [],a,b=>rfl
 |x::z,a,b=>by rw[iw,iw,fA,qT];exact p4 z a b
noncomputable def lK(a b:List Str):List Str×List Str:=((cH (cH a b).1.reverse (cH a b).2.reverse).1.reverse,(cH (cH a b).1.reverse (cH a b).2.reverse).2.reverse)
theorem ro(a b:List Str):lK b a=((lK a b).2,(lK a b).1):=by unfold lK;rw[on a b];dsimp only;rw[on (cH a b).1.reverse]
theorem Fx(a b:List Str):∃z g,a=z++(lK a b).1++g/\b=z++(lK a b).2++g:=by
 refine bx (pZ a b) λz e1 e2=>?_;refine bx (pZ (cH a b).1.reverse (cH a b).2.reverse) λg e3 e4=>?_;refine⟨z,g.reverse,?_,?_⟩
 ·have:=ag List.reverse e3;rw[gL,lT] at this;rw[au];exact e1.trans (ag (z++ ·) this)
 ·have:=ag List.reverse e4;rw[gL,lT] at this;rw[au];exact e2.trans (ag (z++ ·) this)
theorem Tq(h:Al a b c):∃c',c'<=c/\Al (lK a b).1 (lK a b).2 c':=by refine bx (sB h) λN h1 h2=>?_;refine bx (sB h2.rev) λc2 h3 h4=>?_;exact⟨c2,gl h3 h1,h4.rev⟩
theorem Fy(a b:List Str):Fu (a++b)=Fu a+Fu b:=by unfold Fu;rw[List.filter_append,ak]
theorem LD(h:∀x∈a,oh x=false):Fu a=0:=by unfold Fu;rw[List.filter_eq_nil_iff.mpr λx B=>by rw[h x B];exact i0];rfl
noncomputable def Hm(R W:List Str):Int:=2*((W.length:Nat):Int)-2*((R.length:Nat):Int)+((Fu R:Nat):Int)
theorem Fz(h:kQ R W):ze (lK R W).1 (lK R W).2 (Hm R W)/\((lK R W).2.length:Int)-((lK R W).1.length:Int)=(W.length:Int)-(R.length:Int):=by
 refine dB (Fx R W) λz g e1 e2=>?_;refine bx (Tq h.al) λc h1 h2=>?_;have hw:=h.w;have hz:∀x∈z,oh x=false:=λx B=>hw x (by rw[e2];exact fG _ (fG _ B));have L:∀x∈g,oh x=false:=λx B=>hw x (by rw[e2];exact oB _ B);have k:∀x∈(lK R W).2,oh x=false:=λx B=>hw x (by rw[e2];exact fG _ (oB _ B));have l1:=ag List.length e1;have l2:=ag List.length e2;have n1:=ag Fu e1;rw[ak,ak] at l1 l2;rw[Fy,Fy,LD hz,LD L] at n1;have lo:∀c,Al (lK R W).1 (lK R W).2 c->Hm R W<=c:=λc h=>by have:=To h k;unfold Hm;omega
 refine⟨⟨?_,lo⟩,by omega⟩;have h3:=lo c h2;have h1:c<=Hm R W:=h1;rw[show Hm R W=c from Int.le_antisymm h3 h1];exact h2
theorem ze.symm{v:Int}(h:ze a b v):ze b a v:=⟨h.al.symm,λc h'=>h.lo c h'.symm⟩
theorem Bt(I:List Str)(bd:Int):tI [] I bd=2*(((0:Nat):Int)+((I.length:Nat):Int)):=rfl
theorem w7(xs:List Str)(bd:Int):tI xs [] bd=2*(((xs.length:Nat):Int)+((0:Nat):Int)):=by cases xs<;>rfl
theorem sC(x y:Str)(xs I:List Str)(bd:Int):tI (x::xs) (y::I) bd=bif decide ((((y::I).length:Nat):Int)<(((x::xs).length:Nat):Int)) then sA (y::I) (x::xs) bd else sA (x::xs) (y::I) bd:=rfl
theorem FA{I:List Str}{p:Int}(h:ze xs I p):tI xs I bd=p\/(tI xs I bd=bd+1/\bd<p):=by
 cases xs with
 |nil=>left;rw[Bt,h.al.vR];exact ag (2* ·) (fV _)
 |cons x xs=>
  cases I with
  |nil=>left;rw[w7,h.al.symm.vR];exact ag (2* ·) (Int.add_zero _)
  |cons y I=>
   rw[sC];cases e:decide ((((y::I).length:Nat):Int)<(((x::xs).length:Nat):Int)) with
   |true=>
    rw[cS];rcases Fw (bd:=bd) (gT _ _) (gT _ _) with h'|⟨h',l⟩
    ·have X:=h'.lo p h.symm.al;have a2:=h.lo _ h'.al.symm;exact .inl (Int.le_antisymm X a2)
    ·exact .inr ⟨h',l p h.al.symm⟩
   |false=>
    rw[dk];rcases Fw (bd:=bd) (gT _ _) (gT _ _) with h'|⟨h',l⟩
    ·have X:=h'.lo p h.al;have a2:=h.lo _ h'.al;exact .inl (Int.le_antisymm X a2)
    ·exact .inr ⟨h',l p h.al⟩
theorem Hn(a:List Str):nh a a=true:=dI rfl
theorem rp(h:kQ R R):Hm R R=0:=by unfold Hm;rw[LD h.w,Int.sub_self];rfl
theorem Ho(h:kQ R W)(m:Nat)(bd:Int):vM m R W bd=Hm R W\/(vM m R W bd=bd+1/\bd<Hm R W):=by
 unfold vM Ps;refine xA (Fz h) λhd _=>?_;cases Nat.beq (m / 588 % 2) 0 with
 |true=>
  rw[cS];cases e:nh R W with
  |true=>obtain rfl:=jW e;exact .inl (rp h).symm
  |false=>exact FA hd
 |false=>
  rw[dk];cases e:nh W R with
  |true=>obtain rfl:=jW e;exact .inl (rp h).symm
  |false=>have:=FA (bd:=bd) hd.symm;rw[show(lK R W).2=(lK W R).1 by rw[ro R W],show(lK R W).1=(lK W R).2 by rw[ro R W]] at this;exact this
theorem FB{d:Nat}:(Bh R W d).isEmpty=false↔∃k,k<=R.length/\W.take k++W.drop (k+d)=R:=by
 unfold Bh;constructor
 ·intro h;cases e:(List.range (R.length+1)).filter (DH R W d) with
  |nil=>rw[e] at h;exact yU h
  |cons k ks=>
   have hk:k∈(List.range (R.length+1)).filter (DH R W d):=by rw[e];exact .head _
   refine xA (List.mem_filter.mp hk) λh1 h2=>?_;exact⟨k,Nat.le_of_lt_succ (List.mem_range.mp h1),jW h2⟩
 ·rintro⟨k,h1,h2⟩;have hk:k∈(List.range (R.length+1)).filter (DH R W d):=List.mem_filter.mpr ⟨List.mem_range.mpr (Nat.lt_succ_of_le h1),by unfold DH;rw[h2];exact Hn R⟩;cases e:(List.range (R.length+1)).filter (DH R W d) with
  |nil=>rw[e] at hk;cases hk
  |cons k ks=>rfl
theorem Op{k:Nat}(hk:k<=R.length)(Z:R.length<=W.length)(h:W.take k++W.drop (k+(W.length-R.length))=R):(lK R W).1=[]:=by
 have J:W=W.take k++((W.drop k).take (W.length-R.length)++W.drop (k+(W.length-R.length))):=by rw[<-List.drop_drop,List.take_append_drop,List.take_append_drop]
 generalize W.take k=u at h J;generalize (W.drop k).take (W.length-R.length)=z at J;generalize W.drop (k+(W.length-R.length))=v at h J;subst h;subst J;refine zf (vK v (z++v)) λn h1 h2 h3=>?_;unfold lK;rw[p4,h2,h3];have M:=List.suffix_of_suffix_length_le ((List.drop_suffix n v).trans (List.suffix_append z v)) (List.drop_suffix n _) (by rw[cb,cb,ak];omega);refine xE M λq Y=>?_;try clear M
 rw[<-Y,lT];have:=p4 (v.drop n).reverse [] q.reverse;rw[aS] at this;rw[this];rfl
theorem Tr(Z:R.length<=W.length)(h:(lK R W).1=[]):∃k,k<=R.length/\W.take k++W.drop (k+(W.length-R.length))=R:=by refine dB (Fx R W) λz g e1 e2=>?_;rw[h,aS] at e1;generalize (lK R W).2=w at e2;subst e1;subst e2;refine⟨z.length,by rw[ak];exact aQ [_,_] .nil 0 (.v 0) (.a (.v 0) (.v 1)) tt,?_⟩;rw[au,List.take_left,show z.length+((z++(w++g)).length-(z++g).length)=z.length+w.length by simp only[ak];exact lA (λq1 q2=>fB [_,_,_,_] (.e 1 (.a (.v 0) (.a (.v 1) (.v 2))) (.a (.v 1) (.a (.v 3) (.v 2))) .nil) 0 (.a (.v 1) (.v 0)) (.a (.v 1) (.v 3)) tt tt q2) (λq1 q2=>fB [_,_,_,_] (.c 1 (.a (.a (.v 0) (.a (.v 1) (.v 2))) (.n 1)) (.a (.v 0) (.v 2)) (.e 1 (.v 3) (.n 0) .nil)) 0 (.a (.v 0) (.v 3)) (.a (.v 0) (.v 1)) tt tt q1 q2),<-List.drop_drop,List.drop_left,List.drop_left]
theorem Oq(h:kQ R W)(m k:Nat){low:Int}(p:low=2*((W.length-R.length:Nat):Int)-1-((k:Nat):Int)):vM m R W low=bif (Bh R W (W.length-R.length)).isEmpty then low+1 else Hm R W:=by
 have gG:=h.le;refine xA (Fz h) λhd cn=>?_;have e1:(lK R W).2=(lK W R).1:=by rw[ro R W]
 have e2:(lK R W).1=(lK W R).2:=by rw[ro R W]
 cases b:(Bh R W (W.length-R.length)).isEmpty with
 |false=>
  refine bx (FB.mp b) λk hk hp=>?_;have h0:=Op hk gG hp;rw[h0] at hd;have hv:=hd.al.vR;rw[dk];unfold vM Ps;cases Nat.beq (m / 588 % 2) 0 with
  |true=>
   rw[cS];cases e:nh R W with
   |true=>obtain rfl:=jW e;exact(rp h).symm
   |false=>refine(?_ :tI (lK R W).1 (lK R W).2 low=_);rw[h0,Bt,hv];exact ag (2* ·) (fV _)
  |false=>
   rw[dk];cases e:nh W R with
   |true=>obtain rfl:=jW e;exact(rp h).symm
   |false=>refine(?_ :tI (lK W R).1 (lK W R).2 low=_);rw[<-e1,<-e2,h0,w7,hv];exact ag (2* ·) (Int.add_zero _)
 |true=>
  have XC:¬ ∃k,k<=R.length/\W.take k++W.drop (k+(W.length-R.length))=R:=λhp=>by rw[FB.mpr hp] at b;exact nB b
  have p5:R≠W:=λe=>XC ⟨0,aW _,by rw[e,Nat.sub_self];rfl⟩;have h1:(lK R W).1≠[]:=λe=>XC (Tr gG e);have h2:(lK R W).2≠[]:=λe=>by
   rw[e,fK] at cn;have:(lK R W).1.length=0:=by omega
   exact h1 (rz this)
  have eS:∀xs I:List Str,low<(((I.length:Nat):Int)-((xs.length:Nat):Int))*2->sA xs I low=low+1:=λxs I h=>by unfold sA;rw[dI h];rfl
  rw[cS];unfold vM Ps;cases Nat.beq (m / 588 % 2) 0 with
  |true=>
   rw[cS];cases e:nh R W with
   |true=>exact absurd (jW e) p5
   |false=>
    refine(?_ :tI (lK R W).1 (lK R W).2 low=_);generalize (lK R W).1=xs at *;generalize (lK R W).2=I at *;cases xs with
    |nil=>exact absurd rfl h1
    |cons x xs=>cases I with
     |nil=>exact absurd rfl h2
     |cons y I=>rw[sC];rw[dR (by omega),dk];exact eS _ _ (by omega)
  |false=>
   rw[dk];cases e:nh W R with
   |true=>exact absurd (jW e).symm p5
   |false=>
    refine(?_ :tI (lK W R).1 (lK W R).2 low=_);rw[<-e1,<-e2];generalize (lK R W).1=xs at *;generalize (lK R W).2=I at *;cases xs with
    |nil=>exact absurd rfl h1
    |cons x xs=>cases I with
     |nil=>exact absurd rfl h2
     |cons y I=>
      rw[sC];cases e:decide ((((x::xs).length:Nat):Int)<(((y::I).length:Nat):Int)) with
      |true=>rw[cS];exact eS _ _ (by omega)
      |false=>have:=of_decide_eq_false e;rw[dk];exact eS _ _ (by omega)
theorem LE(h:R.length<=W.length):Hm R W=2*((W.length-R.length:Nat):Int)+(((R.filter oh).length:Nat):Int):=by unfold Hm Fu;rw[Int.ofNat_sub h,Int.mul_sub]
theorem Ts(hc:cs.length=4)(m:Nat):Pt cs m:=by
 refine FC (aa_ hc m) λh1 h2 h3 h4=>?_;refine⟨h1,h2,h3,h4.le,λR W hR J=>?_,λR W hR J=>?_⟩
 ·rw[<-hR,<-J] at h4;have gG:=h4.le;have e:=LE gG;have:=eA (m / 196) (by decide:0<3);rw[<-e];rcases Ho h4 m (Hm R W+((m / 196 % 3:Nat):Int)-1) with h|⟨h,h'⟩
  ·exact h
  ·rw[h];omega
 ·rw[<-hR,<-J] at h4;have gG:=h4.le;have e:=LE gG;rw[<-e];exact Oq h4 m (m / 1176) rfl
theorem mW{K:Frag}{N:Addr}{n:Str}{v:Value}(X:K.In h)(G:h.Ns N mg)(e:nsIn K N n=some (some v)):mg n=some v:=by
 refine fZ G λo es ep ho hd _ S=>?_;try clear G
 unfold nsIn at e;split at e
 ·rename_i c d tN n' sl q;have:=X _ _ q;rw[ho] at this;obtain rfl:=aq this;cases hd;split at e
  ·rename_i en he;rw[<-S];unfold nsFind findBy;rw[<-Array.find?_toList,he];exact aq e
  ·split at e<;>cases e
 ·exact nS e
noncomputable def mkG(prog:Program)(w:World)(hb:Heap)(mg mb:Str->Option Value)(p:Program)(loose:List Str)(mean:ExcName->Option Value)(os:OsState)(cd:Value)(X:(KK w.params).In hb)(T:Top p loose mean mg mb hb)(sm:∃z o,sysModules<z/\hb.get? z=some o)(sa:Addr) (sn:List Int) (su:List Value) (sl:hb.IsList sa su.toArray) (si:IntsAre su sn):G:={prog:=prog,w:=w,K:=KK w.params,hb:=hb,mg:=mg,mb:=mb,p:=p,loose:=loose,mean:=mean,os:=os,tp:=λt=>bif Nat.beq t 0 then(dT w.params).pos else(pN w.params).pos,tq:=λt=>bif Nat.beq t 0 then qJ else GN,ff:=λt=>bif Nat.beq t 0 then c9 (dT w.params).scope else c9 (pN w.params).scope,fo:=λt=>bif Nat.beq t 0 then(λfy fw c' ij=>fnMade (dT w.params).name qJ (dT w.params).params (dT w.params).body (dT w.params).scope fy fw ((mg "__name__").getD .none) c' ij) else bif Nat.beq t 1 then(λfy fw c' ij=>kla_obj "<lambda>" GN (pN w.params).params (M4 w.params) (pN w.params).scope fy ((mg "__name__").getD .none) c' ij) else λ_ _ _ _=>{cls:=cd,data:=.plain},tabs:=[259,123],X:=X,T:=T,sm:=sm,sa:=sa,sn:=sn,su:=su,sl:=sl,si:=si}
section
variable {P:Params}
theorem LF{α β:Type}{f g:α->β}{l:List α}{i:Nat}{x:α}(e:l.map f=l.map g)(h:l[i]?=some x):f x=g x:=by have q:=ag (λm=>m[i]?) e;rw[bi,bi,h] at q;exact aq q
theorem Xq(X:(KK P).In h)(G:h.Ns mainGlobals mg)(i:Nat){a:Nat}(h:xU[i]?=some (x,a)):mg x=some (.ref a):=mW X G (LF (f:=λe=>nsIn (KK P) mainGlobals e.1) (g:=λe=>some (some (.ref e.2))) (by kernel_rfl) h)
theorem Tt(X:(KK P).In h)(G:h.Ns mainGlobals mg)(i:Nat)(h:vj[i]?=some x):mg x=none:=ns_none_of X G (LF (g:=λ_=>some none) (by kernel_rfl) h)
theorem Tu(X:(KK P).In h)(G:h.Ns mainGlobals mg)(i:Nat){n:Int}(h:CR[i]?=some (x,n)):∃t,mg x=some (.int n t):=by
 match i with
 |0=>cases h;exact⟨601,mW X G (by kernel_rfl)⟩
 |1=>cases h;exact⟨603,mW X G (by kernel_rfl)⟩
 |2=>cases h;exact⟨605,mW X G (by kernel_rfl)⟩
 |n+3=>exact nS h
end
theorem gok(prog:Program)(w:World)(hb:Heap)(mg mb:Str->Option Value)(p:Program)(loose:List Str)(mean:ExcName->Option Value)(os:OsState)(cd:Value)(X:(KK w.params).In hb)(T:Top p loose mean mg mb hb)(sm:∃z o,sysModules<z/\hb.get? z=some o)(sa:Addr) (sn:List Int) (su:List Value) (sl:hb.IsList sa su.toArray) (si:IntsAre su sn) (d0:CodeHd hb 263 259) (M:CodeHd hb 125 123):cD w.params (mkG prog w hb mg mb p loose mean os cd X T sm sa sn su sl si):=⟨rfl,rfl,λi _ _ h=>Xq X T.g i h,λi _ h=>Tt X T.g i h,λi _ _ h=>Tu X T.g i h,rfl,d0,M,rfl,rfl,rfl,rfl,rfl,rfl,rfl,rfl⟩
noncomputable def yT(L:Nat):Nat->Addr
 |0=>259
 |1=>123
 |l+2=>L+1+l
theorem t9(S:259<L)(n:Nat):259<L+1+n:=dA S (am (eT L) (gR _ n))
theorem Os(S:259<L)(l l':Nat)(e:yT L l=yT L l'):l=l':=by
 cases l with
 |zero=>
  cases l' with
  |zero=>rfl
  |succ l'=>
   cases l' with
   |zero=>exact absurd e (by decide:(259:Nat)≠123)
   |succ n=>exact absurd e (bL (t9 S n))
 |succ l=>
  cases l with
  |zero=>
   cases l' with
   |zero=>exact absurd e (by decide:(123:Nat)≠259)
   |succ l'=>
    cases l' with
    |zero=>rfl
    |succ n=>exact absurd e (bL (fM (by decide:(123:Nat)<259) (t9 S n)))
  |succ n=>
   cases l' with
   |zero=>exact absurd e (dJ (t9 S n))
   |succ l'=>
    cases l' with
    |zero=>exact absurd e (dJ (fM (by decide:(123:Nat)<259) (t9 S n)))
    |succ n'=>exact ag (· +2) (Nat.add_left_cancel (show L+1+n=L+1+n' from e))
theorem aeI{prog:Program}{w:World}{dG:Shared}{d:Heap}{mb:Str->Option Value}{loose:List Str}{mean:ExcName->Option Value}{sa:Addr}{sn:List Int}{su:List Value}{iz:Heap}{tk:Nat}{fa:Addr}{cd:Value}{o0 o1 o2:Obj}{m:Str->Option Value}(X:(KK w.params).In d) (T:Top topProg loose mean mg mb d) (hF:Fr d L iz m) (hN:News d L iz [(L+1+1+1,o2),(L+1+1,o1),(L+1,o0),(259,tabObj #[]),(123,tabObj #[])])(S:259<L) (f:o0.data= .cell none) (N:o1.data= .cell none) (c2:o2.data= .cell none) (hm:m "script"=some (.ref sa)) (sl:d.IsList sa su.toArray) (si:IntsAre su sn) (hz:sn.length<=63) (d0:CodeHd d 263 259) (M:CodeHd d 125 123) (K:dG.gens= #[]){Q:Flow->Shared->Prop} {E:Value->Shared->Prop} (C:∀s',(∀a o,d.get? a=some o->s'.heap.get? a=some o)->s'.gens= #[]->s'.os=dG.os->GrownAt 259 s'.heap->GrownAt 123 s'.heap->Q (.ret (.bool true)) s'):wpAny (model prog w) (callerA.deeper (envOfC "law" (bR (KK w.params) 276).scope L fa cd)) (execs (bh (KK w.params) 276) (envOfC "law" (bR (KK w.params) 276).scope L fa cd)) Q E ⟨iz,dG.gens,dG.drawn,tk,dG.os⟩:=by
 have sm:∃z o,sysModules<z/\d.get? z=some o:=⟨276,_,by decide,X 276 _ (by rfl)⟩;have G:=gok prog w d mg mb topProg loose mean dG.os cd X T sm sa sn su sl si d0 M;refine bx (Lh (k:=0) G hz λc cs hc=>Ts hc.len (c / 648)) λW hb J=>?_;have W1:=J (λfl σ=>fl= .ret (.bool true)/\∃b b' r,σ.mem= .tab 0 b:: .tab 1 b'::r) λlo b b' r=>⟨rfl,b,b',r,rfl⟩;have n2:=hN _ (.head _);have n1:=hN _ (.tail _ (.head _));have n0:=hN _ (.tail _ (.tail _ (.head _)));have t0:=hN _ (.tail _ (.tail _ (.tail _ (.head _))));have t1:=hN _ (.tail _ (.tail _ (.tail _ (.tail _ (.head _)))));have p:sysModules<L:=by
  refine dB sm λz o h1 h2=>?_;try clear sm
  exact dA h1 (eR (dA (bT h2) hF.above))
 have Gp:∀l,l<5->d.get? (yT L l)=none/\yT L l≠L/\yT L l≠sysModules:=λl Z=>by
  match l,Z with
  |0,_=>exact⟨t0.2.2,t0.2.1,(by decide:(259:Nat)≠sysModules)⟩
  |1,_=>exact⟨t1.2.2,t1.2.1,(by decide:(123:Nat)≠sysModules)⟩
  |2,_=>exact⟨n0.2.2,n0.2.1,dJ (fH p)⟩
  |3,_=>exact⟨n1.2.2,n1.2.1,dJ (fH (fH p))⟩
  |4,_=>exact⟨n2.2.2,n2.2.1,dJ (fH (fH (fH p)))⟩
 have abb:∀l l',l<5->l'<5->yT L l=yT L l'->l=l':=λl l' _ _ e=>Os S l l' e;have R:bU (mkG prog w d mg mb topProg loose mean dG.os cd X T sm sa sn su sl si) (Hj w.params (mkG prog w d mg mb topProg loose mean dG.os cd X T sm sa sn su sl si)) ⟨L,some fa,some L,cellsFrom (L+1) (bR (KK w.params) 276).scope.names []⟩ ⟨yT L,5,d.get?⟩
  ⟨some (.e_ (.ref sa))::List.replicate 12 none,[2,3,4],[.tab 0 false,.tab 1 false,.de,.de,.de]⟩ ⟨iz,dG.gens,dG.drawn,tk,dG.os⟩:=by
  refine⟨⟨rfl,hF.keep,λ_ _ e=>e,λl o e=>?_,λl Z=>(Gp l Z).2.2,abb,λl Z=>(Gp l Z).1,λi P e=>?_⟩,⟨m,hF.ns,λi x v e1 e2=>?_⟩,λi x l e1 e2=>?_,gM hF.above,λl Z=>(Gp l Z).2.1,K,rfl⟩
  ·match l with
   |0=>obtain rfl:=aq e;exact⟨_,t0.1,rfl⟩
   |1=>obtain rfl:=aq e;exact⟨_,t1.1,rfl⟩
   |2=>obtain rfl:=aq e;exact⟨_,n0.1,f⟩
   |3=>obtain rfl:=aq e;exact⟨_,n1.1,N⟩
   |4=>obtain rfl:=aq e;exact⟨_,n2.1,c2⟩
   |n+5=>exact nS e
  ·match i with
   |0=>obtain rfl:=aq e;exact⟨aU rfl,rfl⟩
   |1=>obtain rfl:=aq e;exact⟨aU rfl,rfl⟩
   |n+2=>exact nS e
  ·match i with
   |0=>obtain rfl:=aq e1;cases e2;exact⟨_,hm,rfl⟩
   |n+1=>have e2:(List.replicate 12 (none:Option V))[n]?=some (some v):=e2;rw[List.getElem?_replicate] at e2;split at e2<;>cases e2
  ·match i with
   |0=>obtain rfl:=aq e1;obtain rfl:=aq e2;exact⟨aU rfl,rfl⟩
   |1=>obtain rfl:=aq e1;obtain rfl:=aq e2;exact⟨aU rfl,rfl⟩
   |2=>obtain rfl:=aq e1;obtain rfl:=aq e2;exact⟨aU rfl,rfl⟩
   |n+3=>exact nS e1
 have room:cK (callerA.deeper (envOfC "law" (bR (KK w.params) 276).scope L fa cd)) (0+6):=⟨(by decide:callerA.depth+1+2*(0+6)<recursionLimit),(by decide:callerA.units+3+16*(0+6)+80<cLine),rfl⟩;refine a_ (hb.run ⟨L,some fa,some L,cellsFrom (L+1) (bR (KK w.params) 276).scope.names []⟩ (callerA.deeper (envOfC "law" (bR (KK w.params) 276).scope L fa cd)) _ room _ _ _ _ (.refl _) R W1) (λfl s' x=>?_) λ_ _ x=>x.elim;refine iy.elim x λbg Mb a9 x1 x2 x3 x4=>?_;refine Ov x4 λCz b b' r Yh=>?_;try clear x4
 obtain rfl:=Cz;refine bx x3 λu Y hv=>?_;try clear x3
 obtain rfl:=Y;obtain rfl:u= .bool true:=hv;have grown:∀l t b,l<5->a9.mem[l]?=some (.tab t b)->GrownAt (yT L l) s'.heap:=λl t b Z e=>by
  refine bx (x2.mem.own l _ e) λob h1 h2=>?_;rw[x1.ρ l Z] at h1;cases b with
  |false=>exact⟨_,h1.trans (ag some h2)⟩
  |true=>obtain⟨c,oc,e1,_⟩:=h2;exact⟨_,h1.trans (ag some e1)⟩
 exact C s' (λa o e=>x2.hb a o e) x2.gens x2.os (grown 0 0 b (by decide) (by rw[Yh];rfl)) (grown 1 1 b' (by decide) (by rw[Yh];rfl))
theorem abc{F K:Frag}(H:F.In h)(e:K.map (λe=>F.lookup e.1)=K.map λe=>some e.2):K.In h:=by
 induction K with
 |nil=>exact λ_ _ e=>nomatch e
 |cons x r T=>
  have h1:=(hY e).1;have h2:=(hY e).2;intro a o ha;rw[List.lookup_cons] at ha;cases Y:a==x.1 with
  |false=>rw[Y] at ha;exact T h2 a o ha
  |true=>rw[Y] at ha;exact H a o (by rw[eq_of_beq Y];exact h1.trans ha)
end
namespace top
theorem T:True:=⟨⟩
def tw10006222313960134694:=T
def tw10008009275831360322:=T
def tw10008474027749305400:=T
def tw10090393231696489298:=T
def tw10187264123177260123:=T
def tw10327409571362585415:=T
def tw10448899703829047738:=T
def tw105208000716104510:=T
def tw10567129059001840431:=T
def tw10617020205504526918:=T
def tw10648311167861321448:=T
def tw10657950659306570408:=T
def tw10797620697341660853:=T
def tw1088946173253831356:=T
def tw10936122117785486979:=T
def tw10996937224433265937:=T
def tw1108800333578037850:=T
def tw11133666699803404755:=T
def tw11134409312858018536:=T
def tw11203750815551599093:=T
def tw11240886729373846589:=T
def tw11279390925490393535:=T
def tw1139600151236580504:=T
def tw11430207588045935325:=T
def tw11845233108574324481:=T
def tw11858546649754279707:=T
def tw1195175773429642966:=T
def tw11960245374511038805:=T
def tw12012865196380796599:=T
def tw12105128591322288922:=T
def tw12166907935582030026:=T
def tw12318557346453588183:=T
def tw12376051458212225564:=T
def tw12385144161495827662:=T
def tw12425085872883035938:=T
def tw12427389293880184781:=T
def tw12622177474791663080:=T
def tw1275901062530889299:=T
def tw12772138429114895339:=T
def tw12787338502077490372:=T
def tw12819366960792805191:=T
def tw13001836021917841797:=T
def tw13044034144603486326:=T
def tw13090165191389475591:=T
def tw13264354339760550358:=T
def tw13290321428070320777:=T
def tw13326734554550294991:=T
def tw13345470168829271861:=T
def tw13359135706311490777:=T
def tw13369591340354186047:=T
def tw13370750898655102155:=T
def tw13501252493785611398:=T
def tw13706816188851595723:=T
def tw13799840507378627052:=T
def tw13802547742096326172:=T
def tw13822267516522204269:=T
def tw13891453685205211890:=T
def tw13896958669275611876:=T
def tw13928562000808390012:=T
def tw1421504965699865390:=T
def tw14263998999751124003:=T
def tw14282377253939248939:=T
def tw1428903351477058769:=T
def tw14297960882044545977:=T
def tw14349089067433371257:=T
def tw14371913498598963198:=T
def tw14372152842798730730:=T
def tw14390669486469195807:=T
def tw14436450140739016385:=T
def tw14608685727046917156:=T
def tw14789260269991461300:=T
def tw14826035006057030972:=T
def tw14861896470697024400:=T
def tw14901070454687303710:=T
def tw14917401599646851644:=T
def tw1492452104121835379:=T
def tw15058813355848621054:=T
def tw15092371282622821202:=T
def tw1516213087968936877:=T
def tw15361541807878343388:=T
def tw15362295582089109014:=T
def tw15392752256976776920:=T
def tw15646934709686841381:=T
def tw15877122091014420850:=T
def tw15878805988109762761:=T
def tw15988258018655671626:=T
def tw16044733080236030384:=T
def tw16054190913257422852:=T
def tw16058212318047004132:=T
def tw16155163154822807229:=T
def tw1617357707322924660:=T
def tw16204670001084760307:=T
def tw16501892561545584006:=T
def tw16541100652227675460:=T
def tw16580785732701462914:=T
def tw16597617366809209970:=T
def tw16713831800681072344:=T
def tw16719718919923625709:=T
def tw16759092144687519636:=T
def tw16782997733028217545:=T
def tw16821654228018055803:=T
def tw16832052283712560449:=T
def tw16840627104734473223:=T
def tw16878204669230926818:=T
def tw16885616592811714743:=T
def tw16900427199656544559:=T
def tw16975562568813534335:=T
def tw17046948494117081484:=T
def tw1706793611546318481:=T
def tw17177869089781658578:=T
def tw17219337458794519322:=T
def tw1732150942055357024:=T
def tw17323899518341599180:=T
def tw17428532607074087071:=T
def tw17469865338272021226:=T
def tw17470836177267949868:=T
def tw17486766287000646611:=T
def tw17542608870123051758:=T
def tw17565814175750979855:=T
def tw17620759639134147866:=T
def tw17795014544551873601:=T
def tw18008055252877512497:=T
def tw18063644159110109576:=T
def tw18064794426631996164:=T
def tw18164388396756303480:=T
def tw18186074749648716422:=T
def tw18245740138792012028:=T
def tw1843344800811705456:=T
def tw1886144042066472794:=T
def tw1956274872801931767:=T
def tw2007660962349395123:=T
def tw2126296398998916975:=T
def tw216529984938456764:=T
def tw2218668502564051296:=T
def tw2249405535684624136:=T
def tw2287823674025257028:=T
def tw2369445192022557226:=T
def tw2443449257678562572:=T
def tw2462062305354472974:=T
def tw2464713573024523455:=T
def tw2541056938265868773:=T
def tw2543606523685570607:=T
def tw2581206410525282061:=T
def tw2731995056826638727:=T
def tw2741389259953327712:=T
def tw283044589724301:=T
def tw2847958352784047137:=T
def tw2924597203103170677:=T
def tw2985252069258134486:=T
def tw2988451766255067171:=T
def tw3195522803047326042:=T
def tw3195968871104189447:=T
def tw3261557481417251176:=T
def tw339143206060000330:=T
def tw3422688185749166683:=T
def tw342308947776675178:=T
def tw3561193834555079511:=T
def tw3595333255337623440:=T
def tw370947364307004932:=T
def tw3712731000106771831:=T
def tw3776753064480771068:=T
def tw3844969445664438809:=T
def tw390997316461189296:=T
def tw4047667213573674445:=T
def tw4056573560341054690:=T
def tw4076138812419527698:=T
def tw4166218997396506358:=T
def tw4205137553216949640:=T
def tw4213018616267185653:=T
def tw4526881389914513428:=T
def tw453181688931711583:=T
def tw4551080515912023512:=T
def tw4655869559712951663:=T
def tw4656485037274611717:=T
def tw4671429814451907529:=T
def tw4680269561136488386:=T
def tw4713442408853163898:=T
def tw4784893810139332661:=T
def tw4828031223510198475:=T
def tw4940147422707163885:=T
def tw5088376156974544275:=T
def tw5105846836358774362:=T
def tw5118827330378232414:=T
def tw513902232445383129:=T
def tw517144808224063464:=T
def tw5278709424875269971:=T
def tw5303079699428457377:=T
def tw5581607755468803823:=T
def tw5604026686304666287:=T
def tw5667650583090716360:=T
def tw575894324575664597:=T
def tw5766051744304087583:=T
def tw5868845118606482295:=T
def tw5926821756582167016:=T
def tw5938664839603501006:=T
def tw5969682004907312646:=T
def tw6187478851450931391:=T
def tw6240723676877644813:=T
def tw6286779285267259847:=T
def tw6333448901615975916:=T
def tw6370870915552960936:=T
def tw6431110157172167083:=T
def tw6505410396798821541:=T
def tw6520327441239513222:=T
def tw6664487174759623829:=T
def tw6694047246710070196:=T
def tw6749217079512962374:=T
def tw6761616313442571491:=T
def tw6859976401760118174:=T
def tw6885214360128481674:=T
def tw7008692893051332821:=T
def tw7127249843939869334:=T
def tw7201712573628287653:=T
def tw72247145696351765:=T
def tw7250933059871147345:=T
def tw7297446738713254254:=T
def tw7414872774492366064:=T
def tw7429413206186439793:=T
def tw7444641836354208208:=T
def tw7458633546980236471:=T
def tw7557910624720293991:=T
def tw7740461459972228597:=T
def tw7743179893348639699:=T
def tw7847650389618582240:=T
def tw7855079511596107753:=T
def tw8148004212497801138:=T
def tw81815255157605957:=T
def tw8184561461823581802:=T
def tw8204474986945543665:=T
def tw8237333600419904120:=T
def tw8321918168302905379:=T
def tw8363718466572441477:=T
def tw8443935842833279946:=T
def tw8472579005086612782:=T
def tw8507776931139520737:=T
def tw8598144960395782539:=T
def tw860223938195835975:=T
def tw8640399195822439974:=T
def tw8645369167282567922:=T
def tw864819663365544661:=T
def tw8679839319945467846:=T
def tw8729362747519067210:=T
def tw8810280945414196856:=T
def tw8813761850579938390:=T
def tw887695700811335699:=T
def tw9059832203979395877:=T
def tw9063741608606530840:=T
def tw9195894827357321740:=T
def tw9227057690007400460:=T
def tw9233335307524088747:=T
def tw9259421805112917234:=T
def tw9272544492142499777:=T
def tw9335426496214029073:=T
def tw9442318146202087700:=T
def tw956942650209027819:=T
def tw9601329371697537090:=T
def tw9631074621892390191:=T
def tw9738859856056681363:=T
def tw9759319705405543751:=T
def tw9768079942903668216:=T
def tw9800703332001039478:=T
def tw9851269098105209369:=T
def tw9877603946657424859:=T
def tw987869383939708018:=T
def tw9951221954081769418:=T
def tw9961057766049560675:=T
def tw9962302188120564619:=T
end top
end Mine
set_option maxHeartbeats 8000000
set_option Elab.async true
theorem Mine.top : PySem.Challenge.rw_sc0110_01.Holds := by
  w_on
  o_law
  k_head
  (case hw => w_witness2)
  k_go0
  rename_i cl cr cw x0 xx tt kk ff chd nn l0
  refine Mine.aeI (w := _) (Mine.abc ‹Frag.In _ (ghostOf _ _)› (by kernel_rfl)) ‹Top topProg _ _ _ _ _› ‹Fr _ _ _ _› ‹News _ _ _ _› ?hL ?c0 ?c1 ?c2 ?hm ‹Heap.IsList (ghostOf _ _) _ _› ‹IntsAre _ _› ?hz ‹CodeHd _ 263 259› ‹CodeHd _ 125 123› ‹_ = #[]› ?hQ
  case hL => exact l0.1
  case hz => have h := ‹¬ _ < _›; omega
  case hm => rfl
  case c0 => exact cw
  case c1 => exact cr
  case c2 => exact cl
  case hQ =>
    intro s' h1 h2 h3 h4 h5
    exact ⟨⟨.inl ⟨_, .bool true, [], rfl, fun _ => rfl, .bool true, by kernel_rfl, fun _ => ⟨List.nodup_nil, fun _ h => (nomatch h)⟩⟩, h1, h3, h2⟩, h4, h5, trivial⟩
theorem PySem.Challenge.cw_sc0110_01_holds : PySem.Challenge.rw_sc0110_01.Holds :=
 Mine.top
