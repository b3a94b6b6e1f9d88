import PyProof.Rows.All
import Wide.All
import OpenK.AllK
import Wide.FinOn
import PyProof.StrLawsReplace
import PyProof.StrLawsIn
import PyProof.StrLawsJoin
import Lean
import PySem.Challenge.RW_sc0110_01
open PySem PySem.W PySem.Calls PyProof.Rows
set_option Elab.async false
set_option linter.all false
set_option maxRecDepth 100000
set_option genSizeOf false
set_option genInjectivity false
set_option genCtorIdx false
set_option bootstrap.genMatcherCode false
set_option compiler.extract_closed false
namespace Mine
def U:=@wpAny_bind
def ak:=@List.length_append
def au:=@List.append_assoc
def aq:=@Option.some.inj
def ax:=@List.length_map
def am:=@Nat.le_trans
def aj:=@wpAny_pure
def aU:=@Nat.le_of_ble_eq_true
def aJ:=@List.length_cons
def ag:=@congrArg
def bf:=@Heap.get?_push_of_some
def aM:=@Bool.and_eq_true
def aZ:=@List.size_toArray
def bC:=@List.getElem?_eq_getElem
def aS:=@List.append_nil
def bD:=@PySem.F.plainAttrs_list
def bK:=@Nat.eq_of_beq_eq_true
def b0:=@PySem.F.type_list_append
def bi:=@List.getElem?_map
def aF:=@Nat.le_refl
def cJ:=@PySem.F.slot_list_append
def aW:=@Nat.zero_le
def cu:=@Heap.get?_push_size
def a8:=@Exists.elim
def bq:=@wpAny_holding
def c7:=@List.getElem?_set_ne
def cb:=@List.length_drop
def a_:=@wpAny_mono
def bL:=@Nat.ne_of_lt
def dA:=@Nat.lt_of_lt_of_le
def dH:=@List.length_reverse
def dQ:=@Nat.add_le_add_right
def d_:=@Nat.ble_eq_true_of_le
def ef:=@Heap.get?_update_self
def bT:=@Heap.lt_size
def eg:=@List.mem_of_getElem?
def cy:=@List.map_cons
def er:=@Heap.SameBut.update
def aH:=@if_neg
def cS:=@Nat.add_assoc
def fG:=@List.getElem?_set_self
def dh:=@wpAny_standAt
def fH:=@List.mem_append_left
def eA:=@Nat.lt_succ_self
def dR:=@decide_eq_false
def eT:=@List.reverse_cons
def dS:=@List.length_set
def dI:=@decide_eq_true
def a6:=@if_pos
def lR:=@PyProof.Rows.F.plain_set_update_loop
def gj:=@Array.length_toList
def fJ:=@Nat.lt_succ_of_lt
def dj:=@sizeLine_eq
def gN:=@List.reverse_reverse
def gO:=@Heap.get?_none_of_le
def dJ:=@Nat.ne_of_gt
def gl:=@Int.natCast_nonneg
def fg:=@codeAny_builtin
def fh:=@List.map_append
def dT:=@Int.le_trans
def dk:=@cond_false
def iq:=@Around.under_plainId
def fK:=@wpAny_loadPart'
def fL:=@List.length_nil
def cT:=@cond_true
def bM:=@Ne.symm
def eB:=@Nat.zero_add
def kC:=@List.getElem?_eq_none_iff
def ir:=@List.map_congr_left
def gP:=@wpAny_newObj_type
def gQ:=@List.flatMap_cons
def gR:=@List.count_append
def gS:=@Bool.not_eq_true'
def jx:=@builtinLookup_eq_fast
def eU:=@Nat.le_of_lt
def eC:=@Nat.le_succ
def gT:=@Nat.le_add_right
def gU:=@List.map_reverse
def gV:=@List.cons_ne_nil
def iu:=@of_decide_eq_true
def kD:=@PySem.F.plainAttrs_str
def iw:=@Nat.le_succ_of_le
def ix:=@Nat.le_of_succ_le
def gm:=@Nat.add_le_add
def kE:=@PySem.F.slot_list_pop
def iy:=@wpAny_askSetting
def eD:=@Nat.mod_lt
def iz:=@List.cons_append
def jy:=@Bool.false_eq_true
def fM:=@codeAny_mono
def fN:=@Nat.lt_trans
def fO:=@Nat.le_of_eq
def gW:=@List.drop_zero
def eV:=@strKind_is
def qR:=@PyProof.Rows.F.entry_set_update_loop
def gX:=@plainId_quiet
def fP:=@Int.le_refl
def jz:=@Nat.succ_le_succ
def jA:=@List.length_take
def i6:=@Bool.false_ne_true
def j4:=@PySem.F.type_list_pop
def j5:=@List.getElem?_toArray
def lS:=@PySem.F.plain_extend_loop
def hX:=@wpAny_execs_nil
def hY:=@typeLookup_type
def i7:=@wpAny_setState_of
def fV:=@Nat.succ.inj
def j6:=@List.drop_eq_nil_iff
def fW:=@Int.zero_add
def eQ:=@wpAny_rule
def j7:=@List.getElem?_range
def j8:=@List.flatMap_append
def i8:=@wpAny_call_entry
def i9:=@List.filter_cons
def i_:=@List.all_eq_true
def j9:=@wpAny_setField_rec
def fi:=@wpAny_call
def gA:=@Nat.add_comm
def lT:=@Heap.get?_update_other
def hZ:=@List.cons.inj
def lU:=@List.set_append_right
def j_:=@List.length_range
def lV:=@wpAny_loadName_local
def gB:=@wpAny_field
def lW:=@Nat.mul_le_mul_right
def lX:=@List.mem_of_mem_drop
def lY:=@List.dropLast_concat
def ka:=@wpAny_isInstance
def kb:=@Nat.min_eq_right
def h_:=@Nat.beq_refl
def kc:=@List.mem_reverse
def ia:=@List.map_map
def ke:=@List.flatMap_nil
def lZ:=@Value.isStrOf_shape
def l4:=@Nat.add_le_add_left
def l5:=@List.reverse_append
def l6:=@Int.negSucc_lt_zero
def jb:=@listUpdate_at
def jc:=@Value.ref.inj
def jd:=@Nat.lt_irrefl
def kg:=@Nat.min_eq_left
def kh:=@List.nil_append
def oO:=@PySem.F.slot_dict_items
def d7:=@trivial
def ki:=@isSubtype_type
def fj:=@any_some
def kj:=@Value.type.inj
def oP:=@Nat.le_of_succ_le_succ
def oQ:=@List.take_of_length_le
def oR:=@List.drop_eq_nil_of_le
def kl:=@Heap.size_push
def oS:=@List.mem_append_right
def oT:=@List.length_replicate
def l8:=@Nat.succ_ne_zero
def l9:=@Nat.min_le_right
def km:=@List.map_drop
def kn:=@List.any_cons
def oU:=@codeAny_call_builtin
def oV:=@List.set_append_left
def oW:=@List.mem_of_mem_take
def sj:=@List.eq_nil_of_length_eq_zero
def l_:=@List.nodup_cons
def ma:=@List.mem_append
def mc:=@List.forIn_cons
def md:=@Bool.eq_iff_iff
def oX:=@wpAny_setEntries_of
def kq:=@Nat.sub_self
def ib:=@eq_of_beq
def oY:=@wpAny_Constant_str
def gC:=@if_false
def sq:=@List.getElem?_append_right
def sr:=@List.getElem?_append_left
def oZ:=@wpAny_truthy_bool
def o3:=@List.reverse_perm
def o4:=@List.foldl_append
def sw:=@wpAny_getItem_list_slice
def sx:=@Nat.succ_add_eq_add_succ
def sy:=@markedBehindIn_of_false
def ic:=@kp_binds
def o5:=@entryFor_of_tree
def sA:=@PySem.F.plainAttrs_dict
def o6:=@Nat.le_of_not_lt
def o7:=@List.getElem_mem
def kr:=@wpAny_load
def kt:=@wpAny_Name
def mf:=@Nat.succ_pos
def o8:=@wpAny_updateSeq
def o9:=@codeAny_of_tree
def o_:=@Data.fields.inj
def pd:=@Array.size_push
def sB:=@Nat.sub_eq_zero_of_le
def sC:=@List.contains_iff_mem
def sD:=@Array.getElem?_toList
def sE:=@wpAny_newFunctionEnv
def pe:=@wpAny_loadPart
def sF:=@wpAny_letTemporaryGo
def mh:=@callWith_of
def xm:=@Std.Legacy.Range.forIn_eq_forIn_range'
def mi:=@Prod.mk.inj
def sG:=@Name_function_global
def pg:=@List.tail_drop
def pi:=@List.tail_cons
def pj:=@List.forIn_nil
def pn:=@List.drop_left
def pq:=@Bool.and_false
def xn:=@List.exists_cons_of_length_eq_add_one
def sH:=@codeAny_forLoop_any
def sI:=@Nat.mul_le_mul_left
def sJ:=@List.mem_map_of_mem
def sK:=@Int.subNatNat_of_le
def pt:=@wpAny_newList
def pu:=@wpAny_attempt
def pv:=@List.mem_cons
def pw:=@List.drop_nil
section
variable {P p:Prop}{α β γ δ ε:Type}{q:α->Prop}{b:α->β->γ->δ->Prop}{d:α->β->γ->δ->ε->Prop}
set_option maxHeartbeats 200000
theorem xA{q:Prop}(h:p/\q)(k:p->q->P):P:=And.elim k h
theorem xE{p:α->Prop}(h:∃x,p x)(k:∀x,p x->P):P:=a8 h k
theorem u6{q a:Prop}(h:p/\q/\a)(k:p->q->a->P):P:=And.elim (λa h=>xA h (k a)) h
theorem Ur(h:p/\(∃x,q x))(k:p->∀x,q x->P):P:=And.elim (λa h=>xE h (k a)) h
theorem bx{p:α->Prop}(h:∃x,p x/\q x)(k:∀x,p x->q x->P):P:=a8 h λx h=>xA h (k x)
theorem yc{p:α->β->Prop}(h:∃x,∃y,p x y)(k:∀x,∀y,p x y->P):P:=a8 h λx h=>xE h (k x)
theorem Gv{q a b:Prop}(h:p/\q/\a/\b)(k:p->q->a->b->P):P:=And.elim (λa h=>u6 h (k a)) h
theorem ML{q:Prop}{a:α->Prop}(h:p/\q/\(∃x,a x))(k:p->q->∀x,a x->P):P:=And.elim (λa h=>Ur h (k a)) h
theorem jB{a:α->Prop}(h:p/\(∃x,q x/\a x))(k:p->∀x,q x->a x->P):P:=And.elim (λa h=>bx h (k a)) h
theorem Am{p a:α->Prop}(h:∃x,p x/\q x/\a x)(k:∀x,p x->q x->a x->P):P:=a8 h λx h=>u6 h (k x)
theorem Ze{p:α->Prop}{q:α->β->Prop}(h:∃x,p x/\(∃y,q x y))(k:∀x,p x->∀y,q x y->P):P:=a8 h λx h=>Ur h (k x)
theorem dB{p q:α->β->Prop}(h:∃x,∃y,p x y/\q x y)(k:∀x,∀y,p x y->q x y->P):P:=a8 h λx h=>bx h (k x)
theorem Gw{p:α->β->γ->Prop}(h:∃x,∃y,∃z,p x y z)(k:∀x,∀y,∀z,p x y z->P):P:=a8 h λx h=>yc h (k x)
theorem Pn{q a b c:Prop}(h:p/\q/\a/\b/\c)(k:p->q->a->b->c->P):P:=And.elim (λa h=>Gv h (k a)) h
theorem UQ{q:Prop}{a b:α->Prop}(h:p/\q/\(∃x,a x/\b x))(k:p->q->∀x,a x->b x->P):P:=And.elim (λa h=>jB h (k a)) h
theorem EI{a b:α->Prop}(h:p/\(∃x,q x/\a x/\b x))(k:p->∀x,q x->a x->b x->P):P:=And.elim (λa h=>Am h (k a)) h
theorem Po{q a:α->β->Prop}(h:p/\(∃x,∃y,q x y/\a x y))(k:p->∀x,∀y,q x y->a x y->P):P:=And.elim (λa h=>dB h (k a)) h
theorem Pp{q:α->β->γ->Prop}(h:p/\(∃x,∃y,∃z,q x y z))(k:p->∀x,∀y,∀z,q x y z->P):P:=And.elim (λa h=>Gw h (k a)) h
theorem An{p a b:α->Prop}(h:∃x,p x/\q x/\a x/\b x)(k:∀x,p x->q x->a x->b x->P):P:=a8 h λx h=>Gv h (k x)
theorem Iy{p:α->Prop}{a:α->β->Prop}(h:∃x,p x/\q x/\(∃y,a x y))(k:∀x,p x->q x->∀y,a x y->P):P:=a8 h λx h=>ML h (k x)
theorem UR{p:α->Prop}{q a:α->β->Prop}(h:∃x,p x/\(∃y,q x y/\a x y))(k:∀x,p x->∀y,q x y->a x y->P):P:=a8 h λx h=>jB h (k x)
theorem d3{p q a:α->β->Prop}(h:∃x,∃y,p x y/\q x y/\a x y)(k:∀x,∀y,p x y->q x y->a x y->P):P:=a8 h λx h=>Am h (k x)
theorem nf{p q:α->β->γ->Prop}(h:∃x,∃y,∃z,p x y z/\q x y z)(k:∀x,∀y,∀z,p x y z->q x y z->P):P:=a8 h λx h=>dB h (k x)
theorem US{p:α->β->γ->δ->Prop}(h:∃x,∃y,∃z,∃u,p x y z u)(k:∀x,∀y,∀z,∀u,p x y z u->P):P:=a8 h λx h=>Gw h (k x)
theorem Iz{q a b c d:Prop}(h:p/\q/\a/\b/\c/\d)(k:p->q->a->b->c->d->P):P:=And.elim (λa h=>Pn h (k a)) h
theorem Ct{q a:Prop}{b c:α->Prop}(h:p/\q/\a/\(∃x,b x/\c x))(k:p->q->a->∀x,b x->c x->P):P:=And.elim (λa h=>UQ h (k a)) h
theorem yd{q:Prop}{a b:α->β->Prop}(h:p/\q/\(∃x,∃y,a x y/\b x y))(k:p->q->∀x,∀y,a x y->b x y->P):P:=And.elim (λa h=>Po h (k a)) h
theorem Qw{a b c:α->Prop}(h:p/\(∃x,q x/\a x/\b x/\c x))(k:p->∀x,q x->a x->b x->c x->P):P:=And.elim (λa h=>An h (k a)) h
theorem u7{a b:α->β->Prop}(h:p/\(∃x,q x/\(∃y,a x y/\b x y)))(k:p->∀x,q x->∀y,a x y->b x y->P):P:=And.elim (λa h=>UR h (k a)) h
theorem Qx{q a b:α->β->Prop}(h:p/\(∃x,∃y,q x y/\a x y/\b x y))(k:p->∀x,∀y,q x y->a x y->b x y->P):P:=And.elim (λa h=>d3 h (k a)) h
theorem Qy{q a:α->β->γ->Prop}(h:p/\(∃x,∃y,∃z,q x y z/\a x y z))(k:p->∀x,∀y,∀z,q x y z->a x y z->P):P:=And.elim (λa h=>nf h (k a)) h
theorem Qz{p a b c:α->Prop}(h:∃x,p x/\q x/\a x/\b x/\c x)(k:∀x,p x->q x->a x->b x->c x->P):P:=a8 h λx h=>Pn h (k x)
theorem IA{p:α->Prop}{q a:α->β->γ->Prop}(h:∃x,p x/\(∃y,∃z,q x y z/\a x y z))(k:∀x,p x->∀y,∀z,q x y z->a x y z->P):P:=a8 h λx h=>Po h (k x)
theorem QA{p:α->Prop}{q:α->β->γ->δ->Prop}(h:∃x,p x/\(∃y,∃z,∃u,q x y z u))(k:∀x,p x->∀y,∀z,∀u,q x y z u->P):P:=a8 h λx h=>Pp h (k x)
theorem u8{p q a b:α->β->Prop}(h:∃x,∃y,p x y/\q x y/\a x y/\b x y)(k:∀x,∀y,p x y->q x y->a x y->b x y->P):P:=a8 h λx h=>An h (k x)
theorem jf{p q a:α->β->γ->Prop}(h:∃x,∃y,∃z,p x y z/\q x y z/\a x y z)(k:∀x,∀y,∀z,p x y z->q x y z->a x y z->P):P:=a8 h λx h=>d3 h (k x)
theorem Cu{p q:α->β->γ->δ->Prop}(h:∃x,∃y,∃z,∃u,p x y z u/\q x y z u)(k:∀x,∀y,∀z,∀u,p x y z u->q x y z u->P):P:=a8 h λx h=>nf h (k x)
theorem MM{q a b c d e:Prop}(h:p/\q/\a/\b/\c/\d/\e)(k:p->q->a->b->c->d->e->P):P:=And.elim (λa h=>Iz h (k a)) h
theorem mH{a b:α->β->γ->Prop}(h:p/\(∃x,q x/\(∃y,∃z,a x y z/\b x y z)))(k:p->∀x,q x->∀y,∀z,a x y z->b x y z->P):P:=And.elim (λa h=>IA h (k a)) h
theorem ye{a:α->β->γ->δ->Prop}(h:p/\(∃x,q x/\(∃y,∃z,∃u,a x y z u)))(k:p->∀x,q x->∀y,∀z,∀u,a x y z u->P):P:=And.elim (λa h=>QA h (k a)) h
theorem EJ{p a b c d:α->Prop}(h:∃x,p x/\q x/\a x/\b x/\c x/\d x)(k:∀x,p x->q x->a x->b x->c x->d x->P):P:=a8 h λx h=>Iz h (k x)
theorem MN{p a:α->Prop}{b c:α->β->Prop}(h:∃x,p x/\q x/\a x/\(∃y,b x y/\c x y))(k:∀x,p x->q x->a x->∀y,b x y->c x y->P):P:=a8 h λx h=>Ct h (k x)
theorem MO{p q a b c:α->β->Prop}(h:∃x,∃y,p x y/\q x y/\a x y/\b x y/\c x y)(k:∀x,∀y,p x y->q x y->a x y->b x y->c x y->P):P:=a8 h λx h=>Qz h (k x)
theorem f_{p q a b:α->β->γ->Prop}(h:∃x,∃y,∃z,p x y z/\q x y z/\a x y z/\b x y z)(k:∀x,∀y,∀z,p x y z->q x y z->a x y z->b x y z->P):P:=a8 h λx h=>u8 h (k x)
theorem MP{p q a:α->β->γ->δ->Prop}(h:∃x,∃y,∃z,∃u,p x y z u/\q x y z u/\a x y z u)(k:∀x,∀y,∀z,∀u,p x y z u->q x y z u->a x y z u->P):P:=a8 h λx h=>jf h (k x)
theorem IB{q a b c d e f:Prop}(h:p/\q/\a/\b/\c/\d/\e/\f)(k:p->q->a->b->c->d->e->f->P):P:=And.elim (λa h=>MM h (k a)) h
theorem Ao{p q a b c d:α->β->Prop}(h:∃x,∃y,p x y/\q x y/\a x y/\b x y/\c x y/\d x y)(k:∀x,∀y,p x y->q x y->a x y->b x y->c x y->d x y->P):P:=a8 h λx h=>EJ h (k x)
theorem IC{p q a:α->β->Prop}{b c:α->β->γ->Prop}(h:∃x,∃y,p x y/\q x y/\a x y/\(∃z,b x y z/\c x y z))(k:∀x,∀y,p x y->q x y->a x y->∀z,b x y z->c x y z->P):P:=a8 h λx h=>MN h (k x)
theorem gY{p q a b c:α->β->γ->Prop}(h:∃x,∃y,∃z,p x y z/\q x y z/\a x y z/\b x y z/\c x y z)(k:∀x,∀y,∀z,p x y z->q x y z->a x y z->b x y z->c x y z->P):P:=a8 h λx h=>MO h (k x)
theorem gZ{p q a:α->β->γ->δ->Prop}(h:∃x,∃y,∃z,∃u,p x y z u/\q x y z u/\a x y z u/\b x y z u)(k:∀x,∀y,∀z,∀u,p x y z u->q x y z u->a x y z u->b x y z u->P):P:=a8 h λx h=>f_ h (k x)
theorem Ap{p q a:α->β->γ->δ->ε->Prop}(h:∃x,∃y,∃z,∃u,∃v,p x y z u v/\q x y z u v/\a x y z u v)(k:∀x,∀y,∀z,∀u,∀v,p x y z u v->q x y z u v->a x y z u v->P):P:=a8 h λx h=>MP h (k x)
theorem Gx{q a b c d:α->β->γ->Prop}(h:p/\(∃x,∃y,∃z,q x y z/\a x y z/\b x y z/\c x y z/\d x y z))(k:p->∀x,∀y,∀z,q x y z->a x y z->b x y z->c x y z->d x y z->P):P:=And.elim (λa h=>gY h (k a)) h
theorem Gy{p a b c d e f:α->Prop}(h:∃x,p x/\q x/\a x/\b x/\c x/\d x/\e x/\f x)(k:∀x,p x->q x->a x->b x->c x->d x->e x->f x->P):P:=a8 h λx h=>IB h (k x)
theorem sL{p q a b c d:α->β->γ->Prop}(h:∃x,∃y,∃z,p x y z/\q x y z/\a x y z/\b x y z/\c x y z/\d x y z)(k:∀x,∀y,∀z,p x y z->q x y z->a x y z->b x y z->c x y z->d x y z->P):P:=a8 h λx h=>Ao h (k x)
theorem sM{p q a:α->β->γ->Prop}{c:α->β->γ->δ->Prop}(h:∃x,∃y,∃z,p x y z/\q x y z/\a x y z/\(∃u,b x y z u/\c x y z u))(k:∀x,∀y,∀z,p x y z->q x y z->a x y z->∀u,b x y z u->c x y z u->P):P:=a8 h λx h=>IC h (k x)
theorem pz{p q a c:α->β->γ->δ->Prop}(h:∃x,∃y,∃z,∃u,p x y z u/\q x y z u/\a x y z u/\b x y z u/\c x y z u)(k:∀x,∀y,∀z,∀u,p x y z u->q x y z u->a x y z u->b x y z u->c x y z u->P):P:=a8 h λx h=>gY h (k x)
theorem Cv{q a c d:α->β->γ->δ->Prop}(h:p/\(∃x,∃y,∃z,∃u,q x y z u/\a x y z u/\b x y z u/\c x y z u/\d x y z u))(k:p->∀x,∀y,∀z,∀u,q x y z u->a x y z u->b x y z u->c x y z u->d x y z u->P):P:=And.elim (λa h=>pz h (k a)) h
theorem Cw{p:α->Prop}{q a c d:α->β->γ->δ->Prop}(h:∃x,p x/\(∃y,∃z,∃u,q x y z u/\a x y z u/\b x y z u/\c x y z u/\d x y z u))(k:∀x,p x->∀y,∀z,∀u,q x y z u->a x y z u->b x y z u->c x y z u->d x y z u->P):P:=a8 h λx h=>Gx h (k x)
theorem Cx{p q a b c d e f:α->β->Prop}(h:∃x,∃y,p x y/\q x y/\a x y/\b x y/\c x y/\d x y/\e x y/\f x y)(k:∀x,∀y,p x y->q x y->a x y->b x y->c x y->d x y->e x y->f x y->P):P:=a8 h λx h=>Gy h (k x)
theorem Cy{p q a c d:α->β->γ->δ->Prop}(h:∃x,∃y,∃z,∃u,p x y z u/\q x y z u/\a x y z u/\b x y z u/\c x y z u/\d x y z u)(k:∀x,∀y,∀z,∀u,p x y z u->q x y z u->a x y z u->b x y z u->c x y z u->d x y z u->P):P:=a8 h λx h=>sL h (k x)
theorem u9{p q a b c:α->β->γ->δ->ε->Prop}(h:∃x,∃y,∃z,∃u,∃v,p x y z u v/\q x y z u v/\a x y z u v/\b x y z u v/\c x y z u v)(k:∀x,∀y,∀z,∀u,∀v,p x y z u v->q x y z u v->a x y z u v->b x y z u v->c x y z u v->P):P:=a8 h λx h=>pz h (k x)
theorem Aq{a c d e:α->β->γ->δ->Prop}(h:p/\(∃x,q x/\(∃y,∃z,∃u,a x y z u/\b x y z u/\c x y z u/\d x y z u/\e x y z u)))(k:p->∀x,q x->∀y,∀z,∀u,a x y z u->b x y z u->c x y z u->d x y z u->e x y z u->P):P:=And.elim (λa h=>Cw h (k a)) h
theorem Ar{p:α->Prop}{q a b c:α->β->γ->δ->ε->Prop}(h:∃x,p x/\(∃y,∃z,∃u,∃v,q x y z u v/\a x y z u v/\b x y z u v/\c x y z u v/\d x y z u v))(k:∀x,p x->∀y,∀z,∀u,∀v,q x y z u v->a x y z u v->b x y z u v->c x y z u v->d x y z u v->P):P:=a8 h λx h=>Cv h (k x)
theorem At{p q a b c d e f:α->β->γ->Prop}(h:∃x,∃y,∃z,p x y z/\q x y z/\a x y z/\b x y z/\c x y z/\d x y z/\e x y z/\f x y z)(k:∀x,∀y,∀z,p x y z->q x y z->a x y z->b x y z->c x y z->d x y z->e x y z->f x y z->P):P:=a8 h λx h=>Cx h (k x)
theorem Au{p q a b c:α->β->γ->δ->ε->Prop}(h:∃x,∃y,∃z,∃u,∃v,p x y z u v/\q x y z u v/\a x y z u v/\b x y z u v/\c x y z u v/\d x y z u v)(k:∀x,∀y,∀z,∀u,∀v,p x y z u v->q x y z u v->a x y z u v->b x y z u v->c x y z u v->d x y z u v->P):P:=a8 h λx h=>Cy h (k x)
theorem yf{a b c e:α->β->γ->δ->ε->Prop}(h:p/\(∃x,q x/\(∃y,∃z,∃u,∃v,a x y z u v/\b x y z u v/\c x y z u v/\d x y z u v/\e x y z u v)))(k:p->∀x,q x->∀y,∀z,∀u,∀v,a x y z u v->b x y z u v->c x y z u v->d x y z u v->e x y z u v->P):P:=And.elim (λa h=>Ar h (k a)) h
theorem yg{q a b c e:α->β->γ->δ->ε->Prop}(h:p/\(∃x,∃y,∃z,∃u,∃v,q x y z u v/\a x y z u v/\b x y z u v/\c x y z u v/\d x y z u v/\e x y z u v))(k:p->∀x,∀y,∀z,∀u,∀v,q x y z u v->a x y z u v->b x y z u v->c x y z u v->d x y z u v->e x y z u v->P):P:=And.elim (λa h=>Au h (k a)) h
theorem yh{p q a c d e f:α->β->γ->δ->Prop}(h:∃x,∃y,∃z,∃u,p x y z u/\q x y z u/\a x y z u/\b x y z u/\c x y z u/\d x y z u/\e x y z u/\f x y z u)(k:∀x,∀y,∀z,∀u,p x y z u->q x y z u->a x y z u->b x y z u->c x y z u->d x y z u->e x y z u->f x y z u->P):P:=a8 h λx h=>At h (k x)
theorem lF{p q a b c e f:α->β->γ->δ->ε->Prop}(h:∃x,∃y,∃z,∃u,∃v,p x y z u v/\q x y z u v/\a x y z u v/\b x y z u v/\c x y z u v/\d x y z u v/\e x y z u v/\f x y z u v)(k:∀x,∀y,∀z,∀u,∀v,p x y z u v->q x y z u v->a x y z u v->b x y z u v->c x y z u v->d x y z u v->e x y z u v->f x y z u v->P):P:=a8 h λx h=>yh h (k x)
theorem u_{q a b c e f g:α->β->γ->δ->ε->Prop}(h:p/\(∃x,∃y,∃z,∃u,∃v,q x y z u v/\a x y z u v/\b x y z u v/\c x y z u v/\d x y z u v/\e x y z u v/\f x y z u v/\g x y z u v))(k:p->∀x,∀y,∀z,∀u,∀v,q x y z u v->a x y z u v->b x y z u v->c x y z u v->d x y z u v->e x y z u v->f x y z u v->g x y z u v->P):P:=And.elim (λa h=>lF h (k a)) h
theorem nS{x:α}(h:none=some x):P:=nomatch h
theorem MB{x:α}(h:some x=none):P:=nomatch h
theorem nB(h:false=true):P:=nomatch h
theorem Ab(h:true=false):P:=nomatch h
inductive Ex|v(i:Nat)|n(k:Nat)|a(x y:Ex)|m(k:Nat)(x:Ex)
noncomputable def Yq:List Nat->Nat->Nat
 | [],_=>0
 |a::_,0=>a
 |_::t,i+1=>Yq t i
noncomputable def Ex.den(c:List Nat):Ex->Nat
 | .v i=>Yq c i
 | .n k=>k
 | .a x y=>x.den c+y.den c
 | .m k x=>k*x.den c
noncomputable def nC:List Nat->List Nat->List Nat
 | [],q=>q
 |a::p,[]=>a::p
 |a::p,b::q=>(a+b)::nC p q
noncomputable def nK(k:Nat):List Nat->List Nat
 | []=>[]
 |a::p=>k*a::nK k p
noncomputable def Yr:List Nat->List Nat->Bool
 | [],_=>true
 |a::p,[]=>Nat.beq a 0&&Yr p []
 |a::p,b::q=>Nat.ble a b&&Yr p q
noncomputable def ID:Nat->List Nat
 |0=>[1]
 |i+1=>0::ID i
noncomputable def Ex.pol:Ex->List Nat
 | .v i=>0::ID i
 | .n k=>[k]
 | .a x y=>nC x.pol y.pol
 | .m k x=>nK k x.pol
noncomputable def pN:List Nat->List Nat->Nat
 |x::c,a::p=>a*x+pN c p
 |_,_=>0
theorem qT(c:List Nat):pN c []=0:=by cases c<;>rfl
theorem mI:∀(c p q:List Nat),pN c (nC p q)=pN c p+pN c q
 | [],p,q=>by cases p<;>cases q<;>rfl
 |x::c,[],q=>by cases q<;>exact(eB _).symm
 |x::c,a::p,[]=>(Nat.add_zero _).symm
 |x::c,a::p,b::q=>by show(a+b)*x+pN c (nC p q)=a*x+pN c p+(b*x+pN c q);rw[mI c p q,Nat.add_mul];exact Nat.add_add_add_comm _ _ _ _
theorem pA(k:Nat):∀(c p:List Nat),pN c (nK k p)=k*pN c p
 | [],p=>by cases p<;>rfl
 |x::c,[]=>rfl
 |x::c,a::p=>by show k*a*x+pN c (nK k p)=k*(a*x+pN c p);rw[pA k c p,Nat.mul_add,Nat.mul_assoc]
theorem Cz:∀(c p q:List Nat),Yr p q=true->pN c p<=pN c q
 |c,[],q,_=>by rw[qT];exact aW _
 | [],a::p,q,_=>aW _
 |x::c,a::p,[],h=>by have h:=(aM _ _).mp h;have h1:=bK h.1;have h2:=Cz c p [] h.2;rw[qT] at h2;show a*x+pN c p<=0;rw[h1,Nat.zero_mul,eB];exact h2
 |x::c,a::p,b::q,h=>by have h:=(aM _ _).mp h;exact gm (lW x (aU h.1)) (Cz c p q h.2)
theorem EK:∀(c:List Nat)(i:Nat),pN c (ID i)=Yq c i
 | [],i=>by cases i<;>rfl
 |x::c,0=>by show 1*x+pN c []=x;rw[qT,Nat.one_mul];rfl
 |x::c,i+1=>by show 0*x+pN c (ID i)=Yq c i;rw[Nat.zero_mul,eB];exact EK c i
theorem mJ(c:List Nat):∀e:Ex,e.den c=pN (1::c) e.pol
 | .v i=>by show _=0*1+pN c (ID i);rw[EK];exact(eB _).symm
 | .n k=>by show _=k*1+pN c [];rw[qT];exact(Nat.mul_one k).symm
 | .a x y=>by show _+_=pN (1::c) (nC _ _);rw[mI,<-mJ c x,<-mJ c y]
 | .m k x=>by show _*_=pN (1::c) (nK _ _);rw[pA,<-mJ c x]
inductive Hs|nil|c(k:Nat)(l r:Ex)(t:Hs)|e(k:Nat)(l r:Ex)(t:Hs)|f(k:Nat)(l r:Ex)(t:Hs)|g(k:Nat)(l r:Ex)(t:Hs)
noncomputable def Hs.imp(c:List Nat)(G:Prop):Hs->Prop
 | .nil=>G
 | .c _ l r t=>l.den c<=r.den c->t.imp c G
 | .e _ l r t=>l.den c=r.den c->t.imp c G
 | .f _ l r t=>l.den c=r.den c->t.imp c G
 | .g _ l r t=>¬ l.den c<=r.den c->t.imp c G
noncomputable def Hs.lo:Hs->List Nat
 | .nil=>[]
 | .c k l _ t=>nC (nK k l.pol) t.lo
 | .e k l _ t=>nC (nK k l.pol) t.lo
 | .f k _ r t=>nC (nK k r.pol) t.lo
 | .g k _ r t=>nC (nK k (Ex.a r (.n 1)).pol) t.lo
noncomputable def Hs.hi:Hs->List Nat
 | .nil=>[]
 | .c k _ r t=>nC (nK k r.pol) t.hi
 | .e k _ r t=>nC (nK k r.pol) t.hi
 | .f k l _ t=>nC (nK k l.pol) t.hi
 | .g k l _ t=>nC (nK k l.pol) t.hi
noncomputable def Hs.flip:Hs->Hs
 | .nil=>.nil
 | .c k l r t=>.c k l r t.flip
 | .e k l r t=>.f k l r t.flip
 | .f k l r t=>.e k l r t.flip
 | .g k l r t=>.g k l r t.flip
noncomputable def Hs.UT(h:Hs)(k:Nat)(l r:Ex):Bool:=Yr (nC (nK (k+1) l.pol) h.hi) (nC (nK (k+1) r.pol) (nC h.lo [k]))
def Hs.ok(h:Hs)(c:List Nat):Prop:=pN (1::c) h.lo<=pN (1::c) h.hi
theorem k_(c:List Nat)(k:Nat)(l r:Ex)(p q:List Nat)(h:l.den c<=r.den c)(h2:pN (1::c) p<=pN (1::c) q):pN (1::c) (nC (nK k l.pol) p)<=pN (1::c) (nC (nK k r.pol) q):=by rw[mI,mI,pA,pA,<-mJ,<-mJ];exact gm (sI k h) h2
theorem Hs.qd(c:List Nat)(G:Prop):∀h:Hs,(h.ok c->h.flip.ok c->G)->h.imp c G
 | .nil,F=>F (aF _) (aF _)
 | .c k l r t,F=>λh=>t.qd c G λh2 h3=>F (k_ c k l r _ _ h h2) (k_ c k l r _ _ h h3)
 | .e k l r t,F=>λh=>t.qd c G λh2 h3=>F (k_ c k l r _ _ (fO h) h2) (k_ c k r l _ _ (fO h.symm) h3)
 | .f k l r t,F=>λh=>t.qd c G λh2 h3=>F (k_ c k r l _ _ (fO h.symm) h2) (k_ c k l r _ _ (fO h) h3)
 | .g k l r t,F=>λh=>t.qd c G λh2 h3=>F (k_ c k (.a r (.n 1)) l _ _ (Nat.not_le.mp h) h2) (k_ c k (.a r (.n 1)) l _ _ (Nat.not_le.mp h) h3)
theorem yi(c:List Nat)(h:Hs)(k:Nat)(l r:Ex)(e:h.UT k l r=true)(h1:h.ok c):l.den c<=r.den c:=by
 have h2:=Cz (1::c) _ _ e;rw[mI,mI,mI,pA,pA,<-mJ,<-mJ] at h2;have h3:pN (1::c) [k]=k:=by show k*1+pN c []=k;rw[qT,Nat.mul_one];rfl
 rw[h3] at h2;have h1:pN (1::c) h.lo<=pN (1::c) h.hi:=h1;refine o6 λh4=>?_;have h5:(k+1)*(r.den c+1)<=(k+1)*l.den c:=sI _ h4;rw[Nat.mul_add,Nat.mul_one] at h5;have h6:=am (am (dQ h5 _) h2) (l4 (dQ h1 k) _);rw[cS,gA (k+1)] at h6;exact Nat.not_succ_le_self k (Nat.le_of_add_le_add_left (Nat.le_of_add_le_add_left h6))
theorem aQ(c:List Nat)(h:Hs)(k:Nat)(l r:Ex)(e:h.UT k l r=true):h.imp c (l.den c<=r.den c):=h.qd c _ λh1 _=>yi c h k l r e h1
theorem fC(c:List Nat)(h:Hs)(k:Nat)(l r:Ex)(e:h.UT k l r=true)(e2:h.flip.UT k r l=true):h.imp c (l.den c=r.den c):=h.qd c _ λh1 h2=>Nat.le_antisymm (yi c h k l r e h1) (yi c _ k r l e2 h2)
theorem Av(c:List Nat)(h:Hs)(k:Nat)(e:h.UT k (.n 1) (.n 0)=true):h.imp c False:=h.qd c _ λh1 _=>Nat.not_succ_le_zero 0 (yi c h k (.n 1) (.n 0) e h1)
theorem lG{a b:Nat}(f:b<=a->a-b+b=a->P)(j:a+1<=b->a-b=0->P):P:=(Nat.lt_or_ge a b).elim (λh=>j h (sB (eU h))) λh=>f h (Nat.sub_add_cancel h)
theorem tt:true=true:=rfl
noncomputable def sN(i:Nat):Stmt:=PySem.Challenge.pw_sc0110_01.main.body.getD i (.Pass ⟨0,0,0,0⟩)
noncomputable def Zf(s:Stmt):List Stmt:=by
 cases s with
 |ClassDef _ _ _ b=>exact b
 |_=>exact[]
noncomputable def ul(i j:Nat):Stmt:=(Zf (sN i)).getD j (.Pass ⟨0,0,0,0⟩)
noncomputable def uI(qn:Str)(dV kV pm cd:Value)(s:Stmt):Obj:=by
 cases s with
 |FunctionDef name args body _ _ _ scope=>exact⟨.type "function",none,.func (fnOf name qn args body scope dV kV .none pm none cd .none), #[]⟩
 |_=>exact⟨.none,none,.plain, #[]⟩
noncomputable def ent(P:Params)(k:Str)(t:Tok)(v:Value):DictEntry:=⟨PyData.keyHash P k,.str k t,v⟩
noncomputable def dc(es:List DictEntry)(n:Nat):Data:=.dict es.toArray n
noncomputable def QB(P:Params):List DictEntry:=[ent P "http://www.w3.org/XML/1998/namespace" 329 (.str "xml" 330),ent P "http://www.w3.org/1999/xhtml" 331 (.str "html" 332),ent P "http://www.w3.org/1999/02/22-rdf-syntax-ns#" 333 (.str "rdf" 334),ent P "http://schemas.xmlsoap.org/wsdl/" 335 (.str "wsdl" 336),ent P "http://www.w3.org/2001/XMLSchema" 337 (.str "xs" 338),ent P "http://www.w3.org/2001/XMLSchema-instance" 339 (.str "xsi" 340),ent P "http://purl.org/dc/elements/1.1/" 341 (.str "dc" 342)]
noncomputable def cdO(n q:Str)(t:Tok)(L a d f:Int)(r:Nat)(z:Nat)(x y w:Value):Obj:=⟨.type "code",none,.fields #[.str n t,.str q (t+1),.str "/claim/cut.py" (t+2),.int L 0,.int a 0,.int 0 0,.int d 0,.int f 0,.ref r,.bool true,.int 276 0,.ref (r+1),.none,x,y,w,.int z 0,.int L 0,.str "/claim/cut.py" (z+1)], #[]⟩
noncomputable def w8(n q:Str)(t:Tok)(L a d f:Int)(r:Nat)(z:Nat):Obj:=cdO n q t L a d f r z (.ref (r+2)) (.ref (r+3)) (.ref (r+4))
noncomputable def Zg(n q:Str)(t:Tok)(L a d f:Int)(r:Nat)(z:Nat):Obj:=cdO n q t L a d f r z .none .none (.ref (r+2))
noncomputable def Ir:Value:=.str "cpy313.xml.etree.ElementTree" 289
noncomputable def MQ:Value:=.str "law_sc0110_01" 635
noncomputable def Ys:Value:=.str "cpy313.netrc" 539
noncomputable def KK(P:Params):Frag:=[
 (2,⟨.none,none,dc [ent P "\x69mport.loaded._sre" 183 (.bool true),ent P "class._frozen_importlib.BuiltinImporter" 185 (.ref 14),ent P "watched.\x69mport" 206 (.ref 18),ent P "class._frozen_importlib.ModuleSpec" 216 (.ref 22),ent P "sys.modules.booked-epoch" 245 (.int 3 0),ent P "\x69mport.later-laid._sre" 270 (.bool true),ent P "watched.library" 272 (.ref 27),ent P "watched.library-objects" 0 (.str "\x0c" 0),ent P "watched.library-deep._sre" 273 (.str "\x04\x00\x00\x0b\x04\x00\x00\x0b\x04\x00\x00\x03\x04\x00\x00\x0b\x08\x04dict\x02" 0)] 9, #[]⟩),
 (3,⟨.type "dict",none,dc [ent P "__name__" 165 MQ,ent P "__doc__" 166 .none,ent P "__package__" 167 .none,ent P "__loader__" 168 (.builtin "__main__.__loader__#opaque"),ent P "__spec__" 169 .none,ent P "__annotations__" 170 (.ref 6),ent P "__builtins__" 171 (.ref 4),ent P "__file__" 173 (.str "/claim/cut.py" 172),ent P "__cached__" 174 .none,ent P "_sre" 275 (.ref 12),ent P "_wall" 288 (.ref 38),ent P "_twin_re_1" 328 (.ref 43),ent P "_namespace_map" 350 (.ref 44),ent P "_raise_serialization_error" 357 (.ref 51),ent P "_looks_like_prefix_name" 359 (.ref 52),ent P "C14NWriterTarget" 524 (.ref 150),ent P "_escape_cdata_c14n" 531 (.ref 161),ent P "_escape_attrib_c14n" 538 (.ref 168),ent P "_netrclex" 598 (.ref 206),ent P "_MAX_STRING_SIZE" 602 (.int 40 601),ent P "_MOVE_COST" 604 (.int 2 603),ent P "_CASE_COST" 606 (.int 1 605),ent P "_substitution_cost" 614 (.ref 217),ent P "_levenshtein_distance" 634 (.ref 224),ent P "_law_cells" 646 (.ref 231),ent P "_law_names" 652 (.ref 238),ent P "_law_events" 664 (.ref 245),ent P "_law_walk" 670 (.ref 250),ent P "_law_page" 687 (.ref 257),ent P "_law_words" 701 (.ref 264),ent P "_law_rule" 724 (.ref 271),ent P "law" 730 (.ref 276)] 32, #[]⟩),
 (44,⟨.type "dict",none,dc (QB P) 7, #[]⟩),
 (60,⟨.type "dict",none,dc [ent P "with_comments" 372 (.bool false),ent P "strip_text" 373 (.bool false),ent P "rewrite_prefixes" 374 (.bool false),ent P "qname_aware_tags" 375 .none,ent P "qname_aware_attrs" 376 .none,ent P "exclude_attrs" 377 .none,ent P "exclude_tags" 378 .none] 7, #[]⟩),
 (66,w8 "__init__" "C14NWriterTarget.__init__" 379 13 2 7 3 61 391),
 (67,uI "C14NWriterTarget.__init__" .none (.ref 60) Ir (.ref 66) (ul 7 0)),
 (68,⟨.type "tuple",none,.seq #[.type "reversed"] 0, #[]⟩),
 (74,w8 "_iter_namespaces" "C14NWriterTarget._iter_namespaces" 394 41 3 0 35 69 401),
 (75,uI "C14NWriterTarget._iter_namespaces" (.ref 68) .none Ir (.ref 74) (ul 7 1)),
 (83,⟨.type "tuple",none,.seq #[.none] 0, #[]⟩),
 (89,w8 "_qname" "C14NWriterTarget._qname" 416 53 3 0 3 84 426),
 (90,uI "C14NWriterTarget._qname" (.ref 83) .none Ir (.ref 89) (ul 7 3)),
 (96,w8 "data" "C14NWriterTarget.data" 429 80 2 0 3 91 434),
 (97,uI "C14NWriterTarget.data" .none .none Ir (.ref 96) (ul 7 4)),
 (98,⟨.type "builtin_function_or_method",none,.fields #[.builtin "str.join",.str "" 437], #[]⟩),
 (99,⟨.type "tuple",none,.seq #[.ref 98] 0, #[]⟩),
 (105,w8 "_flush" "C14NWriterTarget._flush" 439 84 2 0 3 100 447),
 (106,uI "C14NWriterTarget._flush" (.ref 99) .none Ir (.ref 105) (ul 7 5)),
 (112,w8 "start_ns" "C14NWriterTarget.start_ns" 450 98 3 0 3 107 456),
 (113,uI "C14NWriterTarget.start_ns" .none .none Ir (.ref 112) (ul 7 6)),
 (119,w8 "start" "C14NWriterTarget.start" 459 105 3 0 3 114 466),
 (120,uI "C14NWriterTarget.start" .none .none Ir (.ref 119) (ul 7 7)),
 (121,⟨.type "tuple",none,.seq #[.none] 0, #[]⟩),
 (125,Zg "_start" "C14NWriterTarget._start" 469 118 5 0 3 122 472),
 (126,uI "C14NWriterTarget._start" (.ref 121) .none Ir (.ref 125) (ul 7 8)),
 (132,w8 "end" "C14NWriterTarget.end" 475 163 2 0 3 127 480),
 (133,uI "C14NWriterTarget.end" .none .none Ir (.ref 132) (ul 7 9)),
 (149,⟨.type "dict",none,dc [ent P "__module__" 367 Ir,ent P "__firstlineno__" 371 (.int 11 370),ent P "__init__" 393 (.ref 67),ent P "_iter_namespaces" 403 (.ref 75),ent P "_resolve_prefix_name" 415 (.ref 82),ent P "_qname" 428 (.ref 90),ent P "data" 436 (.ref 97),ent P "_flush" 449 (.ref 106),ent P "start_ns" 458 (.ref 113),ent P "start" 468 (.ref 120),ent P "_start" 474 (.ref 126),ent P "end" 482 (.ref 133),ent P "comment" 490 (.ref 140),ent P "pi" 499 (.ref 147),ent P "__static_attributes__" 517 (.ref 148),ent P "__dict__" 519 (.ref 151),ent P "__weakref__" 521 (.ref 152),ent P "__doc__" 522 .none] 4, #[]⟩),
 (150,⟨.type "type",none,.cls ⟨"C14NWriterTarget",[.type "object"],[.ref 150,.type "object"],149,"C14NWriterTarget",true,[],[],false,none,false⟩, #[none,none,some (.str "C14NWriterTarget" 360),some (.str "C14NWriterTarget" 368),some (.builtin "object.__new__"),some (.bool true)]⟩),
 (160,w8 "_escape_cdata_c14n" "_escape_cdata_c14n" 525 180 1 0 3 155 529),
 (161,uI "_escape_cdata_c14n" .none .none Ir (.ref 160) (sN 8)),
 (167,w8 "_escape_attrib_c14n" "_escape_attrib_c14n" 532 193 1 0 3 162 536),
 (168,uI "_escape_attrib_c14n" .none .none Ir (.ref 167) (sN 9)),
 (181,w8 "__init__" "_netrclex.__init__" 553 213 2 0 3 176 558),
 (182,uI "_netrclex.__init__" .none .none Ys (.ref 181) (ul 11 0)),
 (188,w8 "_read_char" "_netrclex._read_char" 561 219 1 0 3 183 566),
 (189,uI "_netrclex._read_char" .none .none Ys (.ref 188) (ul 11 1)),
 (195,w8 "get_token" "_netrclex.get_token" 569 225 1 0 3 190 576),
 (196,uI "_netrclex.get_token" .none .none Ys (.ref 195) (ul 11 2)),
 (205,⟨.type "dict",none,dc [ent P "__module__" 548 Ys,ent P "__firstlineno__" 552 (.int 211 551),ent P "__init__" 560 (.ref 182),ent P "_read_char" 568 (.ref 189),ent P "get_token" 578 (.ref 196),ent P "push_token" 586 (.ref 203),ent P "__static_attributes__" 591 (.ref 204),ent P "__dict__" 593 (.ref 207),ent P "__weakref__" 595 (.ref 208),ent P "__doc__" 596 .none] 4, #[]⟩),
 (206,⟨.type "type",none,.cls ⟨"_netrclex",[.type "object"],[.ref 206,.type "object"],205,"_netrclex",true,[],[],false,none,false⟩, #[none,none,some (.str "_netrclex" 541),some (.str "_netrclex" 549),some (.builtin "object.__new__"),some (.bool true)]⟩),
 (216,w8 "_substitution_cost" "_substitution_cost" 607 258 2 0 3 211 612),
 (217,uI "_substitution_cost" .none .none (.str "cpy313.traceback" 599) (.ref 216) (sN 16)),
 (223,w8 "_levenshtein_distance" "_levenshtein_distance" 615 264 3 0 3 218 632),
 (224,uI "_levenshtein_distance" .none .none (.str "cpy313.traceback" 599) (.ref 223) (sN 17)),
 (230,w8 "_law_cells" "_law_cells" 637 303 1 0 3 225 644),
 (231,uI "_law_cells" .none .none MQ (.ref 230) (sN 19)),
 (237,w8 "_law_names" "_law_names" 647 308 0 0 3 232 650),
 (238,uI "_law_names" .none .none MQ (.ref 237) (sN 20)),
 (244,w8 "_law_events" "_law_events" 653 310 1 0 3 239 662),
 (245,uI "_law_events" .none .none MQ (.ref 244) (sN 21)),
 (249,Zg "_law_walk" "_law_walk" 665 327 1 0 3 246 668),
 (250,uI "_law_walk" .none .none MQ (.ref 249) (sN 22)),
 (256,w8 "_law_page" "_law_page" 671 329 4 0 3 251 685),
 (257,uI "_law_page" .none .none MQ (.ref 256) (sN 23)),
 (263,w8 "_law_words" "_law_words" 688 345 1 0 3 258 699),
 (264,uI "_law_words" .none .none MQ (.ref 263) (sN 24)),
 (270,w8 "_law_rule" "_law_rule" 702 360 4 0 3 265 722),
 (271,uI "_law_rule" .none .none MQ (.ref 270) (sN 25)),
 (275,Zg "law" "law" 725 395 1 0 3 272 728),
 (276,uI "law" .none .none MQ (.ref 275) (sN 26))]
end
section
variable {C a:Addr}{params:Arguments}{A:Around}{Aw:Array (Option Value)}{b:Bool}{h h':Heap}{d8:List Addr}{ds:List DictEntry}{args es:List PySem.Expr}{body:List Stmt}{us:List Value}{M:Model}{i k:Nat}{o ob IE:Obj}{op:Operator}{pos:Pos}{P:Prop}{e iter r target sO:PySem.Expr}{s s':Shared}{n' qn x:Str}{α β:Type}{f u:Value}{E:Value->Shared->Prop}{l:List α}{m:List β}{t:Sem α}{c:α}
inductive V where
 |none
 |bool (b:Bool)
 |int (i:Int)
 |str (s:Str)
 |fb (v:Value)
 |loc (l:Nat)
set_option genCtorIdx true in
inductive FK where
 |meth|tN|ng|UU|bI
noncomputable def FK.name:FK->String
 | .meth=>"method"
 | .tN=>"builtin_function_or_method"
 | .ng=>"callable_iterator"
 | .UU=>"list_iterator"
 | .bI=>"dict_items"
set_option genCtorIdx true in
inductive O where
 |list (xs:List V)
 |tup (xs:List V)
 |dict (es:List (Str×V))
 |inst (C:Addr) (d:Nat)
 |cell (v:V)
 |de
 |bP (k:FK) (vs:List V)
 |set (xs:List Str)
 |rows (rs:List (List V))
 |tab (t:Nat) (b:Bool)
 |rng (a b c:Int)
 |fn (t:Nat) (ls:List Nat)
 |sset (xs:List Str)
def aA(o:Option α)(K:α->Prop):Prop:=match o with
 |some v=>K v
 |none=>False
theorem ah{o:Option α}{K:α->Prop}(h:aA o K)(k:∀v,o=some v->K v->P):P:=by
 cases o with
 |none=>exact h.elim
 |some v=>exact k v rfl h
theorem gq{o:Option α}{K:α->Prop}{v:α}(e:o=some v)(h:K v):aA o K:=e.symm▸h
theorem aI{o:Option α}{f:α->Option β}{b:β}(h:o.bind f=some b)(k:∀a,o=some a->f a=some b->P):P:=by
 cases o with
 |none=>exact nS h
 |some v=>exact k v rfl h
theorem bE{o:Option α}{f:α->Option β}{a:α}(h:o=some a):o.bind f=f a:=by rw[h];rfl
noncomputable def O.ls(o:O):Option (List V):=@O.casesOn (λ_=>Option (List V)) o some (λ_=>none) (λ_=>none) (λ_ _=>none) (λ_=>none) none (λ_ _=>none) (λ_=>none) (λ_=>none) (λ_ _=>none) (λ_ _ _=>none) (λ_ _=>none) (λ_=>none)
noncomputable def O.tu(o:O):Option (List V):=@O.casesOn (λ_=>Option (List V)) o (λ_=>none) some (λ_=>none) (λ_ _=>none) (λ_=>none) none (λ_ _=>none) (λ_=>none) (λ_=>none) (λ_ _=>none) (λ_ _ _=>none) (λ_ _=>none) (λ_=>none)
noncomputable def O.di(o:O):Option (List (Str×V)):=@O.casesOn (λ_=>Option (List (Str×V))) o (λ_=>none) (λ_=>none) some (λ_ _=>none) (λ_=>none) none (λ_ _=>none) (λ_=>none) (λ_=>none) (λ_ _=>none) (λ_ _ _=>none) (λ_ _=>none) (λ_=>none)
noncomputable def O.ce(o:O):Option V:=@O.casesOn (λ_=>Option V) o (λ_=>none) (λ_=>none) (λ_=>none) (λ_ _=>none) some none (λ_ _=>none) (λ_=>none) (λ_=>none) (λ_ _=>none) (λ_ _ _=>none) (λ_ _=>none) (λ_=>none)
noncomputable def O.fl(o:O):Option (FK×List V):=@O.casesOn (λ_=>Option (FK×List V)) o (λ_=>none) (λ_=>none) (λ_=>none) (λ_ _=>none) (λ_=>none) none (λk l=>some (k,l)) (λ_=>none) (λ_=>none) (λ_ _=>none) (λ_ _ _=>none) (λ_ _=>none) (λ_=>none)
noncomputable def O.ins(o:O):Option (Addr×Nat):=@O.casesOn (λ_=>Option (Addr×Nat)) o (λ_=>none) (λ_=>none) (λ_=>none) (λC d=>some (C,d)) (λ_=>none) none (λ_ _=>none) (λ_=>none) (λ_=>none) (λ_ _=>none) (λ_ _ _=>none) (λ_ _=>none) (λ_=>none)
theorem O.MR{o:O}{p}(h:o.ins=some p):o= .inst p.1 p.2:=by cases o<;>first|exact nS h|exact ag (λp:Addr×Nat=>O.inst p.1 p.2) (aq h)
noncomputable def O.se(o:O):Option (List Str):=@O.casesOn (λ_=>Option (List Str)) o (λ_=>none) (λ_=>none) (λ_=>none) (λ_ _=>none) (λ_=>none) none (λ_ _=>none) some (λ_=>none) (λ_ _=>none) (λ_ _ _=>none) (λ_ _=>none) (λ_=>none)
theorem O.CA{o:O}{xs}(h:o.se=some xs):o= .set xs:=by cases o<;>first|exact nS h|exact ag _ (aq h)
noncomputable def O.rg(o:O):Option (Int×Int×Int):=@O.casesOn (λ_=>Option (Int×Int×Int)) o (λ_=>none) (λ_=>none) (λ_=>none) (λ_ _=>none) (λ_=>none) none (λ_ _=>none) (λ_=>none) (λ_=>none) (λ_ _=>none) (λa b c=>some (a,b,c)) (λ_ _=>none) (λ_=>none)
theorem O.CB{o:O}{p}(h:o.rg=some p):o= .rng p.1 p.2.1 p.2.2:=by cases o<;>first|exact nS h|exact ag (λp:Int×Int×Int=>O.rng p.1 p.2.1 p.2.2) (aq h)
noncomputable def O.tb(o:O):Option (Nat×Bool):=@O.casesOn (λ_=>Option (Nat×Bool)) o (λ_=>none) (λ_=>none) (λ_=>none) (λ_ _=>none) (λ_=>none) none (λ_ _=>none) (λ_=>none) (λ_=>none) (λt b=>some (t,b)) (λ_ _ _=>none) (λ_ _=>none) (λ_=>none)
theorem O.QC{o:O}{p}(h:o.tb=some p):o= .tab p.1 p.2:=by cases o<;>first|exact nS h|exact ag (λp:Nat×Bool=>O.tab p.1 p.2) (aq h)
noncomputable def O.fd(o:O):Option (Nat×List Nat):=@O.casesOn (λ_=>Option (Nat×List Nat)) o (λ_=>none) (λ_=>none) (λ_=>none) (λ_ _=>none) (λ_=>none) none (λ_ _=>none) (λ_=>none) (λ_=>none) (λ_ _=>none) (λ_ _ _=>none) (λt l=>some (t,l)) (λ_=>none)
theorem O.QD{o:O}{p}(h:o.fd=some p):o= .fn p.1 p.2:=by cases o<;>first|exact nS h|exact ag (λp:Nat×List Nat=>O.fn p.1 p.2) (aq h)
noncomputable def O.ss(o:O):Option (List Str):=@O.casesOn (λ_=>Option (List Str)) o (λ_=>none) (λ_=>none) (λ_=>none) (λ_ _=>none) (λ_=>none) none (λ_ _=>none) (λ_=>none) (λ_=>none) (λ_ _=>none) (λ_ _ _=>none) (λ_ _=>none) some
theorem O.QE{o:O}{xs}(h:o.ss=some xs):o= .sset xs:=by cases o<;>first|exact nS h|exact ag _ (aq h)
theorem qU{o:Option α}(h:o.isSome=true)(k:∀v,o=some v->P):P:=by
 cases o with
 |none=>exact nB h
 |some v=>exact k v rfl
theorem O.va{o:O}{xs}(h:o.ls=some xs):o= .list xs:=by cases o<;>first|exact nS h|exact ag _ (aq h)
theorem O.CC{o:O}{xs}(h:o.tu=some xs):o= .tup xs:=by cases o<;>first|exact nS h|exact ag _ (aq h)
theorem O.CD{o:O}{xs}(h:o.di=some xs):o= .dict xs:=by cases o<;>first|exact nS h|exact ag _ (aq h)
theorem O.QF{o:O}{xs}(h:o.ce=some xs):o= .cell xs:=by cases o<;>first|exact nS h|exact ag _ (aq h)
theorem O.CE{o:O}{p}(h:o.fl=some p):o= .bP p.1 p.2:=by cases o<;>first|exact nS h|exact ag (λp:FK×List V=>O.bP p.1 p.2) (aq h)
theorem e_{f:O->Option α}{c:α->O}(S:∀{o x},f o=some x->o=c x){o:Option O}{x:α}(h:o.bind f=some x):o=some (c x):=aI h λ_ e h=>e.trans (ag some (S h))
noncomputable def FK.me(k:FK):Bool:=@FK.casesOn (λ_=>Bool) k true false false false false
noncomputable def FK.bm(k:FK):Bool:=@FK.casesOn (λ_=>Bool) k false true false false false
noncomputable def FK.ci(k:FK):Bool:=@FK.casesOn (λ_=>Bool) k false false true false false
noncomputable def FK.it(k:FK):Bool:=@FK.casesOn (λ_=>Bool) k false false false false true
theorem FK.QG{k:FK}(h:k.me=true):k= .meth:=by cases k<;>first|rfl|exact nB h
theorem FK.QH{k:FK}(h:k.bm=true):k= .tN:=by cases k<;>first|rfl|exact nB h
theorem FK.QI{k:FK}(h:k.ci=true):k= .ng:=by cases k<;>first|rfl|exact nB h
theorem FK.QJ{k:FK}(h:k.it=true):k= .bI:=by cases k<;>first|rfl|exact nB h
theorem lg{o:Option α}(h:cond b o none=some c)(k:b=true->o=some c->P):P:=by
 cases b with
 |true=>exact k rfl h
 |false=>exact nS h
noncomputable def l1(l:List V):Option V:=@List.casesOn V (λ_=>Option V) l none λa l=>@List.casesOn V (λ_=>Option V) l (some a) λ_ _=>none
noncomputable def l2(l:List V):Option (V×V):=@List.casesOn V (λ_=>Option (V×V)) l none λa l=>(l1 l).bind λb=>some (a,b)
noncomputable def l3(l:List V):Option (V×V×V):=@List.casesOn V (λ_=>Option (V×V×V)) l none λa l=>(l2 l).bind λb=>some (a,b)
theorem yj{l:List V}{a:V}(h:l1 l=some a):l=[a]:=by
 cases l with
 |nil=>exact nS h
 |cons a l=>cases l with
  |nil=>exact ag (λa=>[a]) (aq h)
  |cons _ _=>exact nS h
theorem CF{l:List V}{p:V×V}(h:l2 l=some p):l=[p.1,p.2]:=by
 cases l with
 |nil=>exact nS h
 |cons a l=>exact aI h λb e h=>by rw[yj e,<-aq h]
theorem QK{l:List V}{p:V×V×V}(h:l3 l=some p):l=[p.1,p.2.1,p.2.2]:=by
 cases l with
 |nil=>exact nS h
 |cons a l=>exact aI h λb e h=>by rw[CF e,<-aq h]
noncomputable def V.bo(v:V):Option Bool:=@V.casesOn (λ_=>Option Bool) v Option.none some (λ_=>Option.none) (λ_=>Option.none) (λ_=>Option.none) (λ_=>Option.none)
noncomputable def V.no(v:V):Bool:=@V.casesOn (λ_=>Bool) v true (λ_=>false) (λ_=>false) (λ_=>false) (λ_=>false) (λ_=>false)
theorem V.QL{v:V}{x}(h:v.bo=some x):v= .bool x:=by cases v<;>first|exact nS h|exact ag _ (aq h)
theorem V.IF{v:V}(h:v.no=true):v= .none:=by cases v<;>first|rfl|exact nB h
noncomputable def V.iv(v:V):Option Int:=@V.casesOn (λ_=>Option Int) v Option.none (λ_=>Option.none) some (λ_=>Option.none) (λ_=>Option.none) (λ_=>Option.none)
noncomputable def V.sv(v:V):Option Str:=@V.casesOn (λ_=>Option Str) v Option.none (λ_=>Option.none) (λ_=>Option.none) some (λ_=>Option.none) (λ_=>Option.none)
noncomputable def V.lo(v:V):Option Nat:=@V.casesOn (λ_=>Option Nat) v Option.none (λ_=>Option.none) (λ_=>Option.none) (λ_=>Option.none) (λ_=>Option.none) some
noncomputable def V.im(v:V):Option Value:=@V.casesOn (λ_=>Option Value) v Option.none (λ_=>Option.none) (λ_=>Option.none) (λ_=>Option.none) some (λ_=>Option.none)
theorem V.sP{v:V}{x}(h:v.iv=some x):v= .int x:=by cases v<;>first|exact nS h|exact ag _ (aq h)
theorem V.qe{v:V}{x}(h:v.sv=some x):v= .str x:=by cases v<;>first|exact nS h|exact ag _ (aq h)
theorem V.lH{v:V}{x}(h:v.lo=some x):v= .loc x:=by cases v<;>first|exact nS h|exact ag _ (aq h)
theorem V.CG{v:V}{x}(h:v.im=some x):v= .fb x:=by cases v<;>first|exact nS h|exact ag _ (aq h)
structure Wd where
 ρ:Nat->Addr
 n:Nat
 fz:Addr->Option Obj
structure Wd.Le(a b:Wd):Prop where
 n:a.n<=b.n
 ρ:∀l,l<a.n->b.ρ l=a.ρ l
 fz:∀x o,a.fz x=some o->b.fz x=some o
theorem Wd.Le.refl(a:Wd):Wd.Le a a:=⟨aF _,λ_ _=>rfl,λ_ _ e=>e⟩
theorem Wd.Le.trans{a b c:Wd}(x:Wd.Le a b)(y:Wd.Le b c):Wd.Le a c:=⟨am x.n y.n,λl h=>(y.ρ l (dA h x.n)).trans (x.ρ l h),λz o e=>y.fz z o (x.fz z o e)⟩
inductive aE{α β:Type}(R:α->β->Prop):List α->List β->Prop where
 |nil:aE R [] []
 |cons {a_q b_q l_q m_q}:R a_q b_q->aE R l_q m_q->aE R (a_q::l_q) (b_q::m_q)
section
variable {γ:Type}{R S:α->β->Prop}
theorem aE.mono(h:∀a b,R a b->S a b)(x:aE R l m):aE S l m:=by
 induction x with
 |nil=>exact .nil
 |cons x _ T=>exact .cons (h _ _ x) T
theorem aE.len(x:aE R l m):l.length=m.length:=by
 induction x with
 |nil=>rfl
 |cons _ _ T=>exact ag Nat.succ T
theorem aE.get(x:aE R l m){a:α}(e:l[i]?=some a):∃b,m[i]?=some b/\R a b:=by
 induction x generalizing i with
 |nil=>exact nS e
 |cons x _ T=>
  cases i with
  |zero=>obtain rfl:=aq e;exact⟨_,rfl,x⟩
  |succ i=>exact T e
theorem aE.append{l':List α}{f:List β}(x:aE R l m)(y:aE R l' f):aE R (l++l') (m++f):=by
 induction x with
 |nil=>exact y
 |cons x _ T=>exact .cons x T
theorem aE.set{a:α}{b:β}(x:aE R l m)(h:R a b)(i:Nat):aE R (l.set i a) (m.set i b):=by
 induction x generalizing i with
 |nil=>exact .nil
 |cons x y T=>
  cases i with
  |zero=>exact .cons h y
  |succ i=>exact .cons x (T i)
theorem aE.take(x:aE R l m)(n:Nat):aE R (l.take n) (m.take n):=by
 induction x generalizing n with
 |nil=>cases n<;>exact .nil
 |cons x _ T=>
  cases n with
  |zero=>exact .nil
  |succ n=>exact .cons x (T n)
theorem aE.drop(x:aE R l m)(n:Nat):aE R (l.drop n) (m.drop n):=by
 induction x generalizing n with
 |nil=>cases n<;>exact .nil
 |cons x y T=>
  cases n with
  |zero=>exact .cons x y
  |succ n=>exact T n
theorem aE.reverse(h:aE R l m):aE R l.reverse m.reverse:=by
 induction h with
 |nil=>exact .nil
 |cons x _ T=>rw[eT,eT];exact T.append (.cons x .nil)
end
def VR(wd:Wd):V->Value->Prop
 | .none,u=>u= .none
 | .bool b,u=>u= .bool b
 | .int i,u=>∃t,u= .int i t
 | .str s,u=>∃t,u= .str s t
 | .fb v,u=>u=v
 | .loc l,u=>l<wd.n/\u= .ref (wd.ρ l)
theorem VR.map{a b:Wd}(hn:a.n<=b.n)(i:∀l,l<a.n->b.ρ l=a.ρ l){v:V}(e:VR a v u):VR b v u:=by
 cases v with
 |loc l=>exact⟨dA e.1 hn,e.2.trans (ag Value.ref (i l e.1).symm)⟩
 |_=>exact e
theorem VR.mono{a b:Wd}(h:Wd.Le a b){v:V}(e:VR a v u):VR b v u:=e.map h.n h.ρ
theorem VR.int{w:Wd}{v:V}{x:Int}(e:v.iv=some x)(h:VR w v u):∃t,u= .int x t:=by rw[V.sP e] at h;exact h
theorem VR.str{w:Wd}{v:V}(e:v.sv=some x)(h:VR w v u):∃t,u= .str x t:=by rw[V.qe e] at h;exact h
theorem VR.ref{w:Wd}{v:V}{x:Nat}(e:v.lo=some x)(h:VR w v u):x<w.n/\u= .ref (w.ρ x):=by rw[V.lH e] at h;exact h
noncomputable def aG(ty:String)(I:List Value)(e:Nat):Obj:={cls:=.type ty,data:=.seq I.toArray e}
noncomputable def IG(ty:String)(I:List Value):Obj:={cls:=.type ty,data:=.fields I.toArray}
structure G where
 prog:Program
 w:World
 K:Frag
 hb:Heap
 mg:Str->Option Value
 mb:Str->Option Value
 p:Program
 loose:List Str
 mean:ExcName->Option Value
 os:OsState
 tp:Nat->Pos
 tq:Nat->Str
 ff:Nat->List Str
 fo:Nat->List (Str×Addr)->Value->Addr->Value->Obj
 tabs:List Addr
 X:K.In hb
 T:Top p loose mean mg mb hb
 sm:∃z o,sysModules<z/\hb.get? z=some o
 sa:Addr
 sn:List Int
 su:List Value
 sl:hb.IsList sa su.toArray
 si:IntsAre su sn
def tO(o:Obj)(q:Str):Prop:=∃vs t,o.data= .fields vs/\vs[1]?=some (.str q t)
def Perm(o:Obj):Prop:=(∃zs n,o=aG "tuple" zs n)\/∃q,tO o q
def OR(g:G)(wd:Wd):O->Obj->Prop
 | .list xs,o=>∃I e,o=aG "list" I e/\aE (VR wd) xs I
 | .tup xs,o=>∃I e,o=aG "tuple" I e/\aE (VR wd) xs I
 | .dict es,o=>∃(ds:List DictEntry)(e:Nat),o=dictOf ds e/\aE (λ(p:Str×V) d=>∃t u,d=⟨PyData.keyHash g.w.params p.1,.str p.1 t,u⟩/\VR wd p.2 u) es ds
 | .inst C d,o=>o=instObj C (wd.ρ d)/\d<wd.n
 | .cell v,o=>∃u,o.data= .cell (some u)/\VR wd v u
 | .de,o=>o.data= .cell none
 | .bP k vs,o=>∃I,o=IG k.name I/\aE (VR wd) vs I
 | .set xs,o=>o.SetObjOf (strKind g.prog g.w) (λk=>decide (k∈xs)) xs.length/\o.cls= .type "set"/\o.dict=none
 | .rows rs,o=>∃I e,o=aG "list" I e/\aE (λ(r:List V) u=>∃a zs n,u= .ref a/\wd.fz a=some (aG "tuple" zs n)/\aE (VR wd) r zs) rs I
 | .tab t b,o=>match b with
  |false=>o=tabObj #[]
  |true=>∃c oc,o=tabObj #[rawInt (g.tp t).line,rawInt (g.tp t).col,.ref c]/\wd.fz c=some oc/\tO oc (g.tq t)
 | .rng a b c,o=>∃t u v,o={cls:=.type "range",dict:=none,data:=.fields #[.int a t,.int b u,.int c v],slots:= #[]}
 | .fn t ls,o=>∃c oc io fx,o=g.fo t (((g.ff t).zip (ls.map wd.ρ)).reverse) fx c io/\wd.fz c=some oc/\tO oc (g.tq t)/\(∀l∈ls,l<wd.n)/\o.isFreed=false
 | .sset xs,o=>∃es ep t,o={cls:=.type "set",dict:=none,data:=.set es ep t,slots:= #[]}/\(∃I:List Str,I.Perm xs/\aE (λ(x:Str)(e:Int×Value)=>e.1=hashStr g.w x/\∃tk,e.2= .str x tk) I es.toList)/\
  t.led= !(g.w.params.followText "set-order")/\t.fits es.size=true/\(es.size=0\/t.plain=false)
theorem OR.map{g:G}{a b:Wd}(hn:a.n<=b.n)(i:∀l,l<a.n->b.ρ l=a.ρ l)(S:∀c o,a.fz c=some o->Perm o->b.fz c=some o){v:O}(x:OR g a v o):OR g b v o:=by
 cases v with
 |list _=>exact dB x λI e h1 h2=>⟨I,e,h1,h2.mono λ_ _=>VR.map hn i⟩
 |tup _=>exact dB x λI e h1 h2=>⟨I,e,h1,h2.mono λ_ _=>VR.map hn i⟩
 |dict _=>exact dB x λI e h1 h2=>⟨I,e,h1,h2.mono λ_ _ y=>dB y λt u h3 h4=>⟨t,u,h3,VR.map hn i h4⟩⟩
 |inst _ d=>exact⟨x.1.trans (ag _ (i d x.2).symm),dA x.2 hn⟩
 |cell _=>exact bx x λu h1 h2=>⟨u,h1,VR.map hn i h2⟩
 |bP _ _=>exact bx x λI h1 h2=>⟨I,h1,h2.mono λ_ _=>VR.map hn i⟩
 |rows _=>exact dB x λI e h1 h2=>⟨I,e,h1,h2.mono λ_ _ y=>jf y λx zs n h3 h4 h5=>⟨x,zs,n,h3,S _ _ h4 (.inl ⟨zs,n,rfl⟩),h5.mono λ_ _=>VR.map hn i⟩⟩
 |tab _ t=>
  cases t with
  |false=>exact x
  |true=>exact d3 x λc oc h1 h2 h3=>⟨c,oc,h1,S _ _ h2 (.inr ⟨_,h3⟩),h3⟩
 |fn t ls=>exact pz x λc oc io fx h1 h4 h5 h2 h3=>⟨c,oc,io,fx,h1.trans (by rw[ir λl Z=>i l (h2 l Z)]),S _ _ h4 (.inr ⟨_,h5⟩),h5,λl Z=>dA (h2 l Z) hn,h3⟩
 |_=>exact x
theorem OR.mono{g:G}{a b:Wd}(h:Wd.Le a b){v:O}(x:OR g a v o):OR g b v o:=x.map h.n h.ρ λc o e _=>h.fz c o e
theorem lv{x:Obj}(h:o=x)(e:x.isFreed=false):o.isFreed=false:=h.symm▸e
theorem OR.live{g:G}{wd:Wd}{v:O}(x:OR g wd v o):o.isFreed=false:=by
 cases v with
 |list _=>exact dB x λ_ _ h _=>lv h rfl
 |tup _=>exact dB x λ_ _ h _=>lv h rfl
 |dict _=>exact dB x λ_ _ h _=>lv h rfl
 |inst _ _=>exact lv x.1 rfl
 |cell _=>exact bx x λ_ h _=>by cases o;obtain rfl:_=_:=h;rfl
 |de=>cases o;obtain rfl:_=_:=x;rfl
 |bP _ _=>exact bx x λ_ h _=>lv h rfl
 |set _=>exact Qy x.1 λ_ es ep t hd _=>by cases o;obtain rfl:_=_:=hd;rfl
 |rows _=>exact dB x λ_ _ h _=>lv h rfl
 |tab _ t=>
  cases t with
  |false=>exact lv x rfl
  |true=>exact dB x λ_ _ h _=>lv h rfl
 |rng _ _ _=>exact Gw x λ_ _ _ h=>lv h rfl
 |fn _ _=>exact pz x λ_ _ _ _ _ _ _ _ h=>h
 |sset _=>exact nf x λ_ _ _ h _=>lv h rfl
structure df where
 qual:Str
 cd:Value
 scope:Scope
 names:List Str
 cells:List Str
structure hJ where
 L:Addr
 fn:Option Addr
 fr:Option Addr
 cl:List (Str×Addr)
noncomputable abbrev aK (F:df) (d:hJ):Env:={scope:=F.scope,locals:=d.L,globals:=mainGlobals,cells:=d.cl,qual:=F.qual,func:=d.fn,code:=F.cd,frame:=d.fr,builtins:=builtinsNs}
structure St where
 loc:List (Option V)
 iA:List Nat
 mem:List O
def Ay(F:df)(wd:Wd)(loc:List (Option V))(m:Str->Option Value):Prop:=∀(i:Nat)(x:Str)(v:V),F.names[i]?=some x->loc[i]?=some (some v)->∃u,m x=some u/\VR wd v u
def w9(F:df)(wd:Wd)(iA:List Nat)(cl:List (Str×Addr)):Prop:=∀(i:Nat)(x:Str)(l:Nat),F.cells[i]?=some x->iA[i]?=some l->l<wd.n/\cl.lookup x=some (wd.ρ l)
def MS(g:G)(wd:Wd):Prop:=∀(i:Nat)(P:Addr),g.tabs[i]?=some P->i<wd.n/\wd.ρ i=P
theorem MS.mono{g:G}{a b:Wd}(x:MS g a)(h:Wd.Le a b):MS g b:=λi P e=>xA (x i P e) λh1 h2=>⟨dA h1 h.n,(h.ρ i h1).trans h2⟩
structure hM(g:G)(wd:Wd)(mem:List O)(h:Heap):Prop where
 len:wd.n=mem.length
 sQ:∀a o,wd.fz a=some o->h.get? a=some o
 base:∀a o,g.hb.get? a=some o->wd.fz a=some o
 own:∀(l:Nat)(o:O),mem[l]?=some o->∃ob,h.get? (wd.ρ l)=some ob/\OR g wd o ob
 low:∀l,l<wd.n->wd.ρ l≠sysModules
 inj:∀l l',l<wd.n->l'<wd.n->wd.ρ l=wd.ρ l'->l=l'
 new:∀l,l<wd.n->wd.fz (wd.ρ l)=none
 tabs:MS g wd
structure bU(g:G)(F:df)(d:hJ)(wd:Wd)(σ:St)(s:Shared):Prop where
 mem:hM g wd σ.mem s.heap
 loc:∃m,s.heap.Ns d.L m/\Ay F wd σ.loc m
 iA:w9 F wd σ.iA d.cl
 qf:wd.fz d.L=none
 kZ:∀l,l<wd.n->wd.ρ l≠d.L
 gens:s.gens= #[]
 os:s.os=g.os
structure cK(A:Around)(k:Nat):Prop where
 depth:A.depth+2*k<recursionLimit
 units:A.units+16*k+80<cLine
 handled:A.handled=none
abbrev ad(β:Type):=St->(β->St->Prop)->Prop
abbrev iB(g:G)(F:df)(d:hJ)(RA:Wd->β->α->Prop)(wd:Wd)(Q:β->St->Prop):α->Shared->Prop:=λa s'=>∃bg b a9,Wd.Le wd bg/\bU g F d bg a9 s'/\RA bg b a/\Q b a9
abbrev Ac:Value->Shared->Prop:=λ_ _=>False
theorem iB.elim{g:G}{F:df}{d:hJ}{RA:Wd->β->α->Prop}{wd:Wd}{Q:β->St->Prop}{a:α}(h:iB g F d RA wd Q a s')(k:∀bg b a9,Wd.Le wd bg->bU g F d bg a9 s'->RA bg b a->Q b a9->P):P:=f_ h k
theorem az{g:G}{F:df}{d:hJ}{RA:Wd->β->α->Prop}{wd:Wd}{Q:β->St->Prop}{a:α}(bg:Wd)(b:β)(a9:St)(h1:Wd.Le wd bg)(h2:bU g F d bg a9 s')(h3:RA bg b a)(h4:Q b a9):iB g F d RA wd Q a s':=⟨bg,b,a9,h1,h2,h3,h4⟩
def bb(g:G)(F:df)(d:hJ)(A:Around)(af:Wd)(RA:Wd->β->α->Prop)(t:Sem α)(W:ad β):Prop:=∀(s:Shared)(wd:Wd)(σ:St)(Q:β->St->Prop),Wd.Le af wd->bU g F d wd σ s->W σ Q->
  wpAny (model g.prog g.w) A t (iB g F d RA wd Q) Ac s
section
variable {γ δ:Type}{g:G}{F:df}{d:hJ}{af:Wd}{RA:Wd->β->α->Prop}{RC:Wd->δ->γ->Prop}
theorem bb.bind{f:α->Sem γ}{UV:ad β}{UW:β->ad δ}(iC:bb g F d A af RA t UV)(Zh:∀wd a b,Wd.Le af wd->RA wd b a->bb g F d A wd RC (f a) (UW b)):bb g F d A af RC (t>>=f) (λσ Q=>UV σ λb a9=>UW b a9 Q):=by intro s wd σ Q Z hR J;refine U (a_ (iC s wd σ _ Z hR J) (λa s' h=>?_) λ_ _ h=>h);refine iB.elim h λbg b a9 j hR' D C=>?_;clear h;refine a_ (Zh bg a b (Z.trans j) D s' bg a9 Q (.refl _) hR' C) (λc w_ h=>?_) λ_ _ h=>h;refine iB.elim h λo e m QM Zi hC hQ'=>?_;clear h;exact⟨o,e,m,j.trans QM,Zi,hC,hQ'⟩
theorem bb.go{W:ad β}{wd:Wd}{σ:St}{K:β->St->Prop}{Q:α->Shared->Prop}(h:bb g F d A af RA t W)(Z:Wd.Le af wd)(R:bU g F d wd σ s)(J:W σ K)(k:∀a s' bg b a9,Wd.Le wd bg->bU g F d bg a9 s'->RA bg b a->K b a9->Q a s'):wpAny (model g.prog g.w) A t Q E s:=a_ (h s wd σ K Z R J) (λa s' x=>f_ x (k a s')) λ_ _ x=>x.elim
theorem bb.conv{W W':ad β}(h:bb g F d A af RA t W)(J:∀σ Q,W' σ Q->W σ Q):bb g F d A af RA t W':=λs wd σ Q Z hR UX=>h s wd σ Q Z hR (J σ Q UX)
theorem bb.holding{vs:List Value}{W:ad β}(h:bb g F d A af RA t W):bb g F d A af RA (holding vs t) W:=λs wd σ Q Z hR J=>bq (h s wd σ Q Z hR J)
theorem bb.standAt{q:Pos}{W:ad β}(h:bb g F d A af RA t W):bb g F d A af RA (do standAt q;t) W:=λs wd σ Q Z hR J=>U (dh (h s wd σ Q Z hR J))
theorem bb.operate{vs:List Value}{t:Sem Value}{RA:Wd->β->Value->Prop}{W:ad β}(h:bb g F d A af RA t W):bb g F d A af RA (operate vs t) W:=λs wd σ Q Z hR J=>wpAny_operateT (h s wd σ Q Z hR J)
end
theorem hM.keeps{g:G}{wd:Wd}{mem:List O}(R:hM g wd mem h)(k:∀b o,h.get? b=some o->h'.get? b=some o):hM g wd mem h':=⟨R.len,λa o e=>k _ _ (R.sQ a o e),R.base,λl o e=>bx (R.own l o e) λob h1 h2=>⟨ob,k _ _ h1,h2⟩,R.low,R.inj,R.new,R.tabs⟩
theorem bU.keeps{g:G}{F:df}{d:hJ}{wd:Wd}{σ:St}(R:bU g F d wd σ s)(k:∀b o,s.heap.get? b=some o->s'.heap.get? b=some o)(K:s'.gens=s.gens:=by rfl) (ho:s'.os=s.os:=by rfl):bU g F d wd σ s':=⟨R.mem.keeps k,bx R.loc λm h1 h2=>⟨m,h1.keeps k,h2⟩,R.iA,R.qf,R.kZ,K.trans R.gens,ho.trans R.os⟩
theorem bU.toks{g:G}{F:df}{d:hJ}{wd:Wd}{σ:St}{n:Nat}(R:bU g F d wd σ s):bU g F d wd σ {s with toks:=n}:=R.keeps λ_ _ e=>e
theorem bU.hb{g:G}{F:df}{d:hJ}{wd:Wd}{σ:St}(R:bU g F d wd σ s):∀a o,g.hb.get? a=some o->s.heap.get? a=some o:=λa o e=>R.mem.sQ a o (R.mem.base a o e)
theorem hM.set{g:G}{wd:Wd}{mem:List O}(R:hM g wd mem h){l:Nat}{o':O}(Z:l<wd.n)(M:Heap.SameBut (wd.ρ l) h h')(K:h'.get? (wd.ρ l)=some IE)(ho:OR g wd o' IE):hM g wd (mem.set l o') h':=by
 refine⟨by rw[dS];exact R.len,λa o e=>?_,R.base,λIH o e=>?_,R.low,R.inj,R.new,R.tabs⟩
 ·have ne:a≠wd.ρ l:=λq=>by rw[q,R.new l Z] at e;exact nS e
  exact(M.2 a ne).trans (R.sQ a o e)
 ·by_cases Y:IH=l
  ·subst Y;rw[fG (by rw[<-R.len];exact Z)] at e;obtain rfl:=aq e;exact⟨IE,K,ho⟩
  ·rw[c7 (bM Y)] at e;refine bx (R.own IH o e) λob h1 h2=>?_;have UY:IH<wd.n:=by rw[R.len];exact(List.getElem?_eq_some_iff.mp e).1
   exact⟨ob,(M.2 _ λq=>Y (R.inj _ _ UY Z q)).trans h1,h2⟩
noncomputable def Wd.push(wd:Wd)(a:Addr):Wd:=⟨λl=>if l=wd.n then a else wd.ρ l,wd.n+1,wd.fz⟩
theorem Wd.aT(wd:Wd)(a:Addr):Wd.Le wd (wd.push a):=⟨eC _,λl h=>by show(if l=wd.n then a else wd.ρ l)=_;rw[aH (bL h)],λ_ _ e=>e⟩
theorem Wd.mj(wd:Wd)(a:Addr):(wd.push a).ρ wd.n=a:=by show(if wd.n=wd.n then a else wd.ρ wd.n)=a;rw[a6 rfl]
theorem Wd.eE{wd:Wd}{l:Nat}(Z:l<(wd.push a).n)(f:l<wd.n->(wd.push a).ρ l=wd.ρ l->P)(j:l=wd.n->(wd.push a).ρ l=a->P):P:=(Nat.lt_succ_iff_lt_or_eq.mp Z).elim (λh=>f h ((Wd.aT wd a).ρ l h)) λe=>j e (by rw[e];exact Wd.mj wd a)
theorem hM.UZ{g:G}{wd:Wd}{mem:List O}(R:hM g wd mem h){o:O}(kf:∀b o,wd.fz b=some o->h'.get? b=some o)(ko:∀l o,l<wd.n->h.get? (wd.ρ l)=some o->h'.get? (wd.ρ l)=some o) (new:wd.fz a=none) (own:∀l,l<wd.n->wd.ρ l≠a)(K:h'.get? a=some ob) (ho:OR g (wd.push a) o ob) (p:a≠sysModules):hM g (wd.push a) (mem++[o]) h':=by
 refine⟨by rw[ak,<-R.len];rfl,kf,R.base,λl Zj e=>?_,λl Z=>Wd.eE Z (λh1 e1=>e1▸R.low l h1) λ_ e1=>λq=>p (e1.symm.trans q),
  λl l' Z j e=>Wd.eE Z (λh1 e1=>Wd.eE j (λh2 e2=>R.inj l l' h1 h2 (e1.symm.trans (e.trans e2))) λh2 e2=>absurd (e1.symm.trans (e.trans e2)) (own l h1)) λh1 e1=>
   Wd.eE j (λh2 e2=>absurd (e1.symm.trans (e.trans e2)).symm (own l' h2)) λh2 e2=>h1.trans h2.symm,
  λl Z=>Wd.eE Z (λh1 e1=>e1▸R.new l h1) λ_ e1=>(ag wd.fz e1).trans new,R.tabs.mono (Wd.aT wd a)⟩
 have Z:l<(wd.push a).n:=by have:=(List.getElem?_eq_some_iff.mp e).1;rw[ak,<-R.len] at this;exact this
 refine Wd.eE Z (λh1 e1=>?_) λh1 e1=>?_
 ·rw[sr (by rw[<-R.len];exact h1)] at e;exact bx (R.own l Zj e) λPr x1 x2=>⟨Pr,e1.symm▸ko l Pr h1 x1,x2.mono (Wd.aT wd a)⟩
 ·rw[h1,R.len,List.getElem?_concat_length] at e;exact⟨ob,e1.symm▸K,aq e▸ho⟩
theorem hM.II{g:G}{wd:Wd}{mem:List O}(R:hM g wd mem h){o:O}(kf:∀b o,wd.fz b=some o->h'.get? b=some o)(ko:∀l o,l<wd.n->h.get? (wd.ρ l)=some o->h'.get? (wd.ρ l)=some o) (ha:h.get? a=none)(K:h'.get? a=some ob) (ho:OR g (wd.push a) o ob) (p:a≠sysModules):hM g (wd.push a) (mem++[o]) h':=by
 refine R.UZ kf ko ?_ (λl Z q=>bx (R.own l (mem[l]'(by rw[<-R.len];exact Z)) (bC _)) λob h1 _=>by rw[q,ha] at h1;exact nS h1) K ho p;cases Y:wd.fz a with
 |none=>rfl
 |some o=>have:=R.sQ a o Y;rw[ha] at this;exact nS this
theorem hM.alloc{g:G}{wd:Wd}{mem:List O}(R:hM g wd mem h){o:O}(k:∀b o,h.get? b=some o->h'.get? b=some o)(ha:h.get? a=none)(K:h'.get? a=some ob) (ho:OR g (wd.push a) o ob) (p:a≠sysModules):hM g (wd.push a) (mem++[o]) h':=R.II (λb o e=>k _ _ (R.sQ b o e)) (λl o _ e=>k _ _ e) ha K ho p
section
variable {g:G}{F:df}{d:hJ}{wd:Wd}{σ:St}
theorem Ay.mono{a b:Wd}(h:Wd.Le a b){loc:List (Option V)}{m:Str->Option Value}(x:Ay F a loc m):Ay F b loc m:=λi y v e1 e2=>bx (x i y v e1 e2) λu h1 h2=>⟨u,h1,VR.mono h h2⟩
theorem w9.mono{a b:Wd}(h:Wd.Le a b){iA:List Nat}{cl:List (Str×Addr)}(x:w9 F a iA cl):w9 F b iA cl:=λi y l e1 e2=>xA (x i y l e1 e2) λh1 h2=>⟨dA h1 h.n,h2.trans (ag some (h.ρ l h1).symm)⟩
theorem bU.there(R:bU g F d wd σ s):∃o,s.heap.get? d.L=some o:=bx R.loc λ_ hn _=>nf hn λo _ _ h _=>⟨o,h⟩
theorem bU.alloc(R:bU g F d wd σ s){o:O}(k:∀b o,s.heap.get? b=some o->s'.heap.get? b=some o)(ha:s.heap.get? a=none)(K:s'.heap.get? a=some ob)(ho:OR g (wd.push a) o ob) (p:a≠sysModules) (h1:s'.gens=s.gens:=by rfl) (h2:s'.os=s.os:=by rfl):bU g F d (wd.push a) {σ with mem:=σ.mem++[o]} s':=bx (R.loc) λm hn hm=>
  ⟨R.mem.alloc k ha K ho p,⟨m,hn.keeps k,hm.mono (Wd.aT wd a)⟩,R.iA.mono (Wd.aT wd a),R.qf,λl Z=>Wd.eE Z (λh1 e1=>e1▸R.kZ l h1) λ_ e1 e2=>xE (R.there) λx B=>by
   rw[<-e2,e1,ha] at B;exact nS B,h1.trans R.gens,h2.trans R.os⟩
theorem bU.pushed(R:bU g F d wd σ s):VR (wd.push a) (.loc σ.mem.length) (.ref a):=by have e:=R.mem.len.symm;refine⟨by rw[e];exact eA _,by rw[e,Wd.mj]⟩
theorem bU.setM(R:bU g F d wd σ s){l:Nat}{o':O}(Z:l<wd.n)(M:Heap.SameBut (wd.ρ l) s.heap s'.heap)(K:s'.heap.get? (wd.ρ l)=some IE)(ho:OR g wd o' IE)(h1:s'.gens=s.gens:=by rfl) (h2:s'.os=s.os:=by rfl):bU g F d wd {σ with mem:=σ.mem.set l o'} s':=by refine bx (R.loc) λm hn hm=>?_;exact⟨R.mem.set Z M K ho,⟨m,hn.sameBut M (R.kZ l Z).symm,hm⟩,R.iA,R.qf,R.kZ,h1.trans R.gens,h2.trans R.os⟩
theorem bU.get(R:bU g F d wd σ s){l:Nat}{o:O}(e:σ.mem[l]?=some o):l<wd.n/\∃ob,s.heap.get? (wd.ρ l)=some ob/\OR g wd o ob:=⟨by rw[R.mem.len];exact(List.getElem?_eq_some_iff.mp e).1,R.mem.own l o e⟩
theorem bU.lst(R:bU g F d wd σ s){l:Nat}{xs:List V}(e:(σ.mem[l]?).bind O.ls=some xs)(k:∀I n,l<wd.n->s.heap.get? (wd.ρ l)=some (aG "list" I n)->aE (VR wd) xs I->P):P:=mH (R.get (e_ O.va e)) λZ ob h I n e h'=>k I n Z (h.trans (ag some e)) h'
theorem bU.tpl(R:bU g F d wd σ s){l:Nat}{xs:List V}(e:(σ.mem[l]?).bind O.tu=some xs)(k:∀I n,l<wd.n->s.heap.get? (wd.ρ l)=some (aG "tuple" I n)->aE (VR wd) xs I->P):P:=mH (R.get (e_ O.CC e)) λZ ob h I n e h'=>k I n Z (h.trans (ag some e)) h'
end
def qg(wd:Wd)(v:V)(u:Value):Prop:=VR wd v u
def um(_:Wd)(_:Unit)(_:Unit):Prop:=True
def Yt(_:Wd)(b:Bool)(a:Bool):Prop:=a=b
inductive Fl where
 |next|brk|cont
 |ret (v:V)
def Us(wd:Wd):Fl->Flow->Prop
 | .next,f=>f= .next
 | .brk,f=>f= .brk
 | .cont,f=>f= .cont
 | .ret v,f=>∃u,f= .ret u/\VR wd v u
def be(g:G)(F:df)(k:Nat)(e:PySem.Expr)(W:ad V):Prop:=∀d A af,cK A k->bb g F d A af qg (eval e (aK F d)) W
def qV(g:G)(F:df)(k:Nat)(e:PySem.Expr)(W:ad Bool):Prop:=∀d A af,cK A k->bb g F d A af Yt (isTrue e (aK F d) (eval e (aK F d))) W
def iW(g:G)(F:df)(k:Nat)(st:Stmt)(W:ad Fl):Prop:=∀d A af,cK A k->bb g F d A af Us (exec st (aK F d)) W
def k0(g:G)(F:df)(k:Nat)(b:List Stmt)(W:ad Fl):Prop:=∀d A af,cK A k->bb g F d A af Us (execs b (aK F d)) W
section
variable {g:G}{F:df}
def dY(i:Nat):ad V:=λσ Q=>aA (σ.loc[i]?) λo=>aA o λv=>Q v σ
theorem qW{σ:St}{Q:V->St->Prop}(h:dY i σ Q)(k:∀v,σ.loc[i]?=some (some v)->Q v σ->P):P:=ah h λo e h=>ah h λv e' h=>k v (e.trans (ag some e')) h
theorem MT{σ:St}{v:V}{Q:V->St->Prop}(e:σ.loc[i]?=some (some v))(h:Q v σ):dY i σ Q:=gq e h
theorem Zk(i:Nat)(B:F.names[i]?=some x)(hk:F.scope.kind= .function)(Z:∀d,(aK F d).kindOf x=some .local) (hd:(x==("__debug__":Str))=false):be g F k (.Name x pos) (dY i):=by
 intro d A af _ s wd σ Q _ R J;exact qW J λv e J=>bx (R.loc) λm hn hm=>bx (hm i x v B e) λu N hv=>
  kt (lV hk (Z d) hn N (az wd v σ (.refl _) R hv J)) hd
def eK(v:V):ad V:=λσ Q=>Q v σ
theorem Zl{i:Int}{n:Nat}:be g F k (.Constant (.int i) n pos) (eK (.int i)):=λ_ _ _ _ s wd σ _ _ R J=>wpAny_Constant_int (az wd (.int i) σ (.refl _) R.toks ⟨_,rfl⟩ J)
theorem Zm{n:Nat}:be g F k (.Constant (.str x) n pos) (eK (.str x)):=λ_ _ _ _ s wd σ _ _ R J=>oY (az wd (.str x) σ (.refl _) R.toks ⟨_,rfl⟩ J)
theorem U0{n:Nat}:be g F k (.Constant .none n pos) (eK .none):=λ_ _ _ _ s wd σ _ _ R J=>wpAny_Constant_none (az wd .none σ (.refl _) R rfl J)
theorem U1{n:Nat}:be g F k (.Constant (.bool b) n pos) (eK (.bool b)):=λ_ _ _ _ s wd σ _ _ R J=>wpAny_Constant_bool (az wd (.bool b) σ (.refl _) R rfl J)
theorem U2{v:Value}(e:g.mg x=some v)(hk:F.scope.kind= .function)(B:∀d,(aK F d).kindOf x=some .globalImplicit) (hd:(x==("__debug__":Str))=false):be g F k (.Name x pos) (eK (.fb v)):=λd _ _ _ s wd σ _ _ R J=>sG hk (B d) (loadGlobal_global (g.T.g.keeps R.hb) e (az wd (.fb v) σ (.refl _) R rfl J)) hd
theorem IJ{i:Int}{t:Tok}(e:g.mg x=some (.int i t))(hk:F.scope.kind= .function)(B:∀d,(aK F d).kindOf x=some .globalImplicit) (hd:(x==("__debug__":Str))=false):be g F k (.Name x pos) (eK (.int i)):=λd _ _ _ s wd σ _ _ R J=>sG hk (B d) (loadGlobal_global (g.T.g.keeps R.hb) e (az wd (.int i) σ (.refl _) R ⟨t,rfl⟩ J)) hd
theorem QN{v:Value}(e:g.mg x=none)(hv:bootBuiltins x=some v)(hn:x≠"__name__")(hk:F.scope.kind= .function)(B:∀d,(aK F d).kindOf x=some .globalImplicit) (hd:(x==("__debug__":Str))=false):be g F k (.Name x pos) (eK (.fb v)):=λd _ _ _ s wd σ _ _ R J=>sG hk (B d) (loadGlobal_builtin (g.T.g.keeps R.hb) e (g.T.b.keeps R.hb) ((g.T.builtins x hn).trans hv) (az wd (.fb v) σ (.refl _) R rfl J)) hd
def vb(i:Nat):ad V:=λσ Q=>aA (σ.iA[i]?) λl=>aA ((σ.mem[l]?).bind O.ce) λv=>Q v σ
theorem Az{d:hJ}{wd:Wd}{σ:St}{Q:V->St->Prop}(R:bU g F d wd σ s)(B:F.cells[i]?=some x)(h:vb i σ Q)(k:∀a v u,d.cl.lookup x=some a->(∃ob,s.heap.get? a=some ob/\ob.data= .cell (some u))->VR wd v u->Q v σ->P):P:=ah h λl e h=>ah h λv e' h=>xA (R.iA i x l B e) λ_ h2=>u7 (R.get (e_ O.QF e')) λ_ ob h3 u h4 h5=>k _ v u h2 ⟨ob,h3,h4⟩ h5 h
theorem IK(i:Nat)(B:F.cells[i]?=some x)(hk:F.scope.kind= .function)(Z:∀d,(aK F d).kindOf x=some .cell) (hd:(x==("__debug__":Str))=false):be g F k (.Name x pos) (vb i):=by intro d A af _ s wd σ Q _ R J;exact Az R B J λa v u h2 h3 h5 J=>kt (wpAny_loadName_cell hk (Z d) h2 h3 (az wd v σ (.refl _) R h5 J)) hd
theorem Gz(i:Nat)(B:F.cells[i]?=some x)(hk:F.scope.kind= .function)(Z:∀d,(aK F d).kindOf x=some .free) (hd:(x==("__debug__":Str))=false) (hn:(x==("__classdict__":Str))=false):be g F k (.Name x pos) (vb i):=by intro d A af _ s wd σ Q _ R J;exact Az R B J λa v u h2 h3 h5 J=>kt (wpAny_loadName_free hk (Z d) h2 h3 (az wd v σ (.refl _) R h5 J) hn) hd
theorem kG{v:V}{d:hJ}{af:Wd}(hv:VR af v u)(B:F.names[i]?=some x)(nD:F.names.Nodup)(hk:F.scope.kind= .function)(Z:(aK F d).kindOf x=some .local):bb g F d A af um (storeName (aK F d) x u) (λσ Q=>Q () {σ with loc:=σ.loc.set i (some v)}):=by
 intro s wd σ Q gI R J;refine bx (R.loc) λm hn hm=>?_;refine wpAny_storeName_local Z hn (λh' k M=>az wd () _ (.refl _) ?_ d7 J) (by show(F.scope.kind== .class||(F.scope.kind== .module&&d.L !=mainGlobals))=false;rw[hk];rfl);have keep:∀b o,b≠d.L->s.heap.get? b=some o->h'.get? b=some o:=λb o hb e=>(M.2 b hb).trans e;refine⟨⟨R.mem.len,λa o e=>keep a o (λq=>?_) (R.mem.sQ a o e),R.mem.base,λl o e=>?_,R.mem.low,R.mem.inj,R.mem.new,R.mem.tabs⟩,⟨_,k,λj y f e1 e2=>?_⟩,R.iA,R.qf,R.kZ,R.gens,R.os⟩
 ·rw[q,R.qf] at e;exact nS e
 ·refine jB (R.get e) λh1 ob h2 h3=>?_;exact⟨ob,keep _ _ (R.kZ l h1) h2,h3⟩
 ·dsimp only at e2 ⊢;by_cases hj:j=i
  ·subst hj;have:y=x:=by rw[B] at e1;exact(aq e1).symm
   subst this;have dP:j<σ.loc.length:=by have:=(List.getElem?_eq_some_iff.mp e2).1;rwa[dS] at this
   rw[fG dP] at e2;cases e2;exact⟨u,a6 rfl,VR.mono gI hv⟩
  ·rw[c7 (bM hj)] at e2;refine bx (hm j y f e1 e2) λu' h1 h2=>?_;have qO:y≠x:=λq=>by subst q;have h1:=List.getElem?_eq_some_iff.mp e1;have h2:=List.getElem?_eq_some_iff.mp B;exact hj ((List.getElem_inj nD).mp (h1.2.trans h2.2.symm))
   exact⟨u',(aH qO).trans h1,h2⟩
end
def gd(b:Bool)(P:Prop):Prop:=match b with
 |true=>P
 |false=>False
theorem CH:gd b P↔b=true/\P:=by cases b<;>simp[gd]
theorem aL(h:gd b P):b=true/\P:=CH.mp h
def br(b:Bool)(P Q:Prop):Prop:=match b with
 |true=>P
 |false=>Q
theorem bu{Q:Prop}(h1:b=true->P)(h2:b=false->Q):br b P Q:=by cases b<;>simp_all [br]
noncomputable def bw(n:Nat):Bool:=Nat.ble n 16777216
theorem dp{n:Nat}(h:bw n=true):n<=sizeLine:=by have:=aU h;rw[dj];exact aQ [_] (.c 1 (.v 0) (.n 16777216) .nil) 0 (.v 0) (.n 16777216) tt this
theorem cU{n:Nat}(h:n<=16777216):bw n=true:=d_ h
theorem b9{I:List Value}{e:Nat}(x:h.get? a=some (aG "list" I e)):h.IsList a I.toArray:=⟨_,x,rfl,e,rfl⟩
section
variable {g:G}{F:df}
def yk(g:G)(op:Operator)(W:V->V->ad V):Prop:=∀(F:df)(d:hJ)(A:Around)(af:Wd)(a b:V)(u v:Value),VR af a u->VR af b v->bb g F d A af qg (binaryOp op u v) (W a b)
theorem Zn{l:PySem.Expr}{wa wb:ad V}{W:V->V->ad V}(ho:yk g op W)(ha:be g F k l wa)(hb:be g F k r wb):be g F k (.BinOp l op r pos) (λσ Q=>wa σ λa G=>wb G λb E=>W a b E Q):=by intro d A af hr;rw[eval_BinOp];refine bb.bind (ha d A af hr) λwd u a Z D=>?_;refine bb.bind (bb.holding (hb d A wd hr)) λP v b q w=>?_;exact bb.standAt (bb.operate (ho F d A P a b u v (VR.mono q D) w))
theorem GB{w:Wd}{a b:V}{v:Value}{K:Int->Int->Prop}{P:Value->Value->Prop}(ha:VR w a u)(hb:VR w b v)(h:aA a.iv λx=>aA b.iv λy=>K x y)(k:∀x y t C,K x y->P (.int x t) (.int y C)):P u v:=by refine ah h λx e h=>ah h λy e' h=>?_;rw[V.sP e] at ha;rw[V.sP e'] at hb;refine xE ha λt ha=>xE hb λC hb=>?_;rw[ha,hb];exact k x y t C h
theorem QO{w:Wd}{a b:V}{v:Value}{K:Str->Str->Prop}{P:Value->Value->Prop}(ha:VR w a u)(hb:VR w b v)(h:aA a.sv λx=>aA b.sv λy=>K x y)(k:∀x y t C,K x y->P (.str x t) (.str y C)):P u v:=by refine ah h λx e h=>ah h λy e' h=>?_;rw[V.qe e] at ha;rw[V.qe e'] at hb;refine xE ha λt ha=>xE hb λC hb=>?_;rw[ha,hb];exact k x y t C h
def xa(o:Option α)(K:α->Prop)(D:Prop):Prop:=@Option.casesOn α (λ_=>Prop) o D K
theorem g6{o:Option α}{K:α->Prop}{D:Prop}(h:xa o K D)(k:aA o K->P)(j:D->P):P:=by
 cases o with
 |none=>exact j h
 |some v=>exact k h
theorem yl{W:V->V->ad V}{K:Int->Int->ad V}(J:∀{a b σ Q},W a b σ Q->aA a.iv λx=>aA b.iv λy=>K x y σ Q)(h:∀(F d A s wd σ Q x y t C),bU g F d wd σ s->K x y σ Q->wpAny (model g.prog g.w) A (binaryOp op (.int x t) (.int y C)) (iB g F d qg wd Q) Ac s):yk g op W:=λF d A af a b u v ha hb s wd σ Q Z R hw=>GB (P:=λu v=>wpAny (model g.prog g.w) A (binaryOp op u v) (iB g F d qg wd Q) Ac s) ha hb (J hw) λx y t C hw=>h F d A s wd σ Q x y t C R hw
theorem GC{o:Option α}{K:α->Prop}{D:Prop}(h:xa o K D)(k:∀v,o=some v->K v->P)(j:o=none->D->P):P:=by
 cases o with
 |none=>exact j rfl h
 |some v=>exact k v rfl h
def QP(a b:V):ad V:=λσ Q=>xa a.iv (λx=>aA b.iv λy=>Q (.int (x+y)) σ) (aA a.sv λx=>aA b.sv λy=>gd (bw (x.length+y.length)) (Q (.str (x++y)) σ))
theorem gb:yk g .Add QP:=by
 intro F d A af a b u v ha hb s wd σ Q Z R J;refine g6 J (λJ=>?_) λJ=>?_
 ·refine GB (P:=λu v=>wpAny (model g.prog g.w) A (binaryOp .Add u v) (iB g F d qg wd Q) Ac s) ha hb J λx y t C J=>?_;exact PyProof.Rows.add_int (az wd (V.int _) σ (.refl _) R.toks ⟨_,rfl⟩ J)
 ·refine QO (P:=λu v=>wpAny (model g.prog g.w) A (binaryOp .Add u v) (iB g F d qg wd Q) Ac s) ha hb J λx y t C J=>?_;refine xA (aL J) λh1 h2=>?_;exact PyProof.Rows.add_str (λC tk=>az wd (V.str _) σ (.refl _) R.toks ⟨_,rfl⟩ h2) (dp h1)
def U3(a b:V):ad V:=λσ Q=>aA a.iv λx=>aA b.iv λy=>Q (.int (x-y)) σ
theorem qX:yk g .Sub U3:=yl (λh=>h) λF d A s wd σ Q x y t C R J=>PyProof.Rows.sub_int (az wd (V.int _) σ (.refl _) R.toks ⟨_,rfl⟩ J)
def Zo(a b:V):ad V:=λσ Q=>aA a.iv λx=>aA b.iv λy=>gd (Nat.ble x.natAbs 1000000) (Q (.int (x*y)) σ)
theorem xo:yk g .Mult Zo:=by refine yl (λh=>h) λF d A s wd σ Q x y t C R J=>?_;refine xA (aL J) λh1 h2=>?_;have h3:=aU h1;exact PyProof.Rows.mul_int (az wd (V.int _) σ (.refl _) R.toks ⟨_,rfl⟩ h2) (IntMulOk.of_left (intBits_le_64 (by omega) (by omega)))
def pB(a b:V):ad V:=λσ Q=>aA a.iv λx=>aA b.iv λy=>gd (!(Builtin.divisionGoesByPylong x y)&& !(y==0)) (Q (.int (x.fdiv y)) σ)
theorem eF:yk g .FloorDiv pB:=by refine yl (λh=>h) λF d A s wd σ Q x y t C R J=>?_;refine xA (aL J) λh1 h2=>?_;refine xA ((aM _ _).mp h1) λh3 h4=>?_;exact PyProof.Rows.floordiv_int (by simpa using h4) (az wd (V.int _) σ (.refl _) R.toks ⟨_,rfl⟩ h2) (.inl (by simpa using h3))
def IL(a b:V):ad V:=λσ Q=>aA a.iv λx=>aA b.iv λy=>gd (!(y==0)) (Q (.int (x.fmod y)) σ)
theorem ml:yk g .Mod IL:=by refine yl (λh=>h) λF d A s wd σ Q x y t C R J=>?_;refine xA (aL J) λh1 h2=>?_;exact PyProof.Rows.mod_int' (by simpa using h1) (az wd (V.int _) σ (.refl _) R.toks ⟨_,rfl⟩ h2)
theorem Zp{i:Int}{n:Nat}{p q:Pos}:be g F k (.UnaryOp .USub (.Constant (.int i) n p) q) (eK (.int (-i))):=λd A af hr s wd σ Q _ R J=>wpAny_UnaryOp (wpAny_Constant_int (PyProof.Rows.neg_int (az wd (.int (-i)) σ (.refl _) R.toks ⟨_,rfl⟩ J)))
def IM(o:Option O)(K:Bool->Prop):Prop:=aA (o.bind O.ls) λxs=>gd (bw xs.length) (K (!(Nat.beq xs.length 0)))
def nL:V->ad Bool
 | .none=>λσ Q=>Q false σ
 | .bool b=>λσ Q=>Q b σ
 | .int i=>λσ Q=>Q (!(i==0)) σ
 | .str x=>λσ Q=>gd (bw x.length) (Q (!(Nat.beq x.length 0)) σ)
 | .loc l=>λσ Q=>IM σ.mem[l]? λb=>Q b σ
 | .fb _=>λ_ _=>False
theorem QQ(n:Nat):((n:Int) !=0)= !(Nat.beq n 0):=by
 cases n with
 |zero=>rfl
 |succ n=>simp[Nat.beq];omega
theorem IN(I:List α):(!I.toArray.isEmpty)= !(Nat.beq I.length 0):=by cases I<;>simp[Nat.beq]
theorem AA{prog:Program}{w:World}{a:Int}{t:Tok}{Q:Bool->Shared->Prop}(h:Q (a !=0) s):wpAny (model prog w) A (truthy (.int a t)) Q E s:=P.truthy_int h
theorem qY{n:Nat}(h:bw n=true):(n:Int)<2 ^ 63:=by have:=aU h;omega
theorem xp{d:hJ}{af:Wd}{a:V}(ha:VR af a u):bb g F d A af Yt (truthy u) (nL a):=by
 intro s wd σ Q Z R J;cases a with
 |none=>obtain rfl:=ha;exact aj (az wd false σ (.refl _) R rfl J)
 |bool b=>obtain rfl:=ha;exact oZ (az wd b σ (.refl _) R rfl J)
 |int i=>exact xE ha λt ha=>ha.symm▸AA (az wd _ σ (.refl _) R rfl J)
 |str x=>exact xE ha λt ha=>ha.symm▸xA (aL J) λh1 h2=>P.truthy_str (Int.not_le.mpr (qY h1)) (az wd _ σ (.refl _) R.toks (QQ _) h2)
 |fb v=>exact J.elim
 |loc l=>rw[(VR.mono Z ha).2];refine ah J λxs e J=>mH (R.get (e_ O.va e)) λdP ob Y I n j dL=>xA (aL J) λh1 h2=>?_;rw[j] at Y;exact wpAny_truthy_list (b9 Y) (by rw[aZ,<-dL.len];exact qY h1) (az wd _ σ (.refl _) R.toks (by rw[dL.len];exact IN I) h2)
theorem IO{W:ad V}(h:be g F k e W)(hv:∀bc b,PySem.isTrue e bc b=(do let v <-b;standAt e.pos;holding [v] (truthy v))):qV g F k e (λσ Q=>W σ λv a9=>nL v a9 Q):=by intro d A af hr;rw[hv];exact bb.bind (h d A af hr) λwd u a Z D=>bb.standAt (bb.holding (xp D))
theorem IP{W:ad Bool}(h:qV g F k e W):qV g F k (.UnaryOp .Not e pos) (λσ Q=>W σ λb a9=>Q (!b) a9):=by intro d A af hr s wd σ Q Z R J;refine wpAny_isTrue_Not (bb.go (h d A af hr) Z R J λb s' bg b' a9 h1 h2 h3 h4=>?_);exact az bg (!b') a9 h1 h2 (ag (!·) h3) h4
def nN(g:G)(F:df)(k:Nat)(op:BoolOp)(es:List PySem.Expr)(W:ad Bool):Prop:=∀d A af,cK A k->bb g F d A af Yt (allTrue op es (aK F d)) W
theorem MU:nN g F k .And [] (λσ Q=>Q true σ):=λ_ _ _ _ s wd σ Q _ R J=>wpAny_allTrue_And_nil (az wd true σ (.refl _) R rfl J)
theorem QR:nN g F k .Or [] (λσ Q=>Q false σ):=λ_ _ _ _ s wd σ Q _ R J=>wpAny_allTrue_Or_nil (az wd false σ (.refl _) R rfl J)
theorem IQ{W W':ad Bool}(h:qV g F k e W)(h':nN g F k .And es W'):nN g F k .And (e::es) (λσ Q=>W σ λb a9=>br b (W' a9 Q) (Q false a9)):=by
 intro d A af hr s wd σ Q Z R J;refine wpAny_allTrue_And_cons (bb.go (h d A af hr) Z R J λb s' bg b' a9 h1 h2 h3 h4=>?_);obtain rfl:=h3;cases b with
 |true=>refine bb.go (h' d A af hr) (Z.trans h1) h2 h4 λc w_ o c' m y1 O y3 y4=>?_;exact az o c' m (h1.trans y1) O y3 y4
 |false=>exact az bg false a9 h1 h2 rfl h4
theorem MV{W W':ad Bool}(h:qV g F k e W)(h':nN g F k .Or es W'):nN g F k .Or (e::es) (λσ Q=>W σ λb a9=>br b (Q true a9) (W' a9 Q)):=by
 intro d A af hr s wd σ Q Z R J;refine wpAny_allTrue_Or_cons (bb.go (h d A af hr) Z R J λb s' bg b' a9 h1 h2 h3 h4=>?_);obtain rfl:=h3;cases b with
 |false=>refine bb.go (h' d A af hr) (Z.trans h1) h2 h4 λc w_ o c' m y1 O y3 y4=>?_;exact az o c' m (h1.trans y1) O y3 y4
 |true=>exact az bg true a9 h1 h2 rfl h4
theorem GE{op:BoolOp}{W:ad Bool}(h:nN g F k op es W):qV g F k (.BoolOp op es pos) W:=λd A af hr s wd σ Q Z R J=>wpAny_isTrue_BoolOp (h d A af hr s wd σ Q Z R J)
theorem bb.ite{d:hJ}{af:Wd}{RA:Wd->β->α->Prop}{C:Sem α}{W W':ad β}(h:bb g F d A af RA t W)(h':bb g F d A af RA C W'):bb g F d A af RA (if b=true then t else C) (λσ Q=>br b (W σ Q) (W' σ Q)):=by
 cases b with
 |true=>exact h
 |false=>exact h'
theorem QS{body c:PySem.Expr}{Wt:ad Bool}{W W':ad V}(ht:qV g F k sO Wt)(h:be g F k body W)(h':be g F k c W'):be g F k (.IfExp sO body c pos) (λσ Q=>Wt σ λb a9=>br b (W a9 Q) (W' a9 Q)):=by intro d A af hr;rw[arm_eval_IfExp];refine bb.bind (ht d A af hr) λwd u a Z D=>?_;obtain rfl:=D;exact bb.ite (h d A wd hr) (h' d A wd hr)
def kI(g:G)(op:CmpOp)(W:V->V->ad Bool):Prop:=∀(F:df)(d:hJ)(A:Around)(af:Wd)(a b:V)(u v:Value),cK A 0->VR af a u->VR af b v->bb g F d A af (λ_ (b:Bool)(r:Value)=>r= .bool b) (compareOp op u v) (W a b)
theorem cK.zero(h:cK A k):cK A 0:=⟨by have:=h.depth;exact aQ [_,_,_] (.c 1 (.a (.a (.v 0) (.m 2 (.v 1))) (.n 1)) (.v 2) .nil) 0 (.a (.a (.v 0) (.m 2 (.n 0))) (.n 1)) (.v 2) tt this,by have:=h.units;exact aQ [_,_,_] (.c 1 (.a (.a (.a (.v 0) (.m 16 (.v 1))) (.n 80)) (.n 1)) (.v 2) .nil) 0 (.a (.a (.a (.v 0) (.m 16 (.n 0))) (.n 80)) (.n 1)) (.v 2) tt this,h.handled⟩
theorem Zq{l:PySem.Expr}{op:CmpOp}{wa wb:ad V}{W:V->V->ad Bool}(ho:kI g op W)(ha:be g F k l wa)(hb:be g F k r wb)(hm:behindInMarks op r=false):be g F k (.Compare l [op] [r] pos) (λσ Q=>wa σ λa G=>wb G λb E=>W a b E λc H=>Q (.bool c) H):=by intro d A af hr;rw[eval_Compare1,sy hm];refine bb.bind (ha d A af hr) λwd u a Z D=>?_;refine bb.bind (bb.holding (hb d A wd hr)) λP v b q w=>?_;refine bb.standAt (bb.operate ?_);intro s X σ Q AB R J;refine bb.go (ho F d A P a b u v hr.zero (VR.mono q D) w) AB R J λc s' bg c' a9 h1 h2 h3 h4=>?_;exact az bg (.bool c') a9 h1 h2 h3 h4
theorem IR{l:PySem.Expr}{op:CmpOp}{wa wb:ad V}{W:V->V->ad Bool}(ho:kI g op W)(ha:be g F k l wa)(hb:be g F k r wb)(hm:behindInMarks op r=false):qV g F k (.Compare l [op] [r] pos) (λσ Q=>wa σ λa G=>wb G λb E=>W a b E Q):=by intro d A af hr;rw[isTrue_Compare1,sy hm];refine bb.bind (ha d A af hr) λwd u a Z D=>?_;refine bb.bind (bb.holding (hb d A wd hr)) λP v b q w=>?_;refine bb.standAt ?_;refine bb.bind (bb.operate (ho F d A P a b u v hr.zero (VR.mono q D) w)) λX c r AB hC=>?_;subst hC;refine bb.holding ?_;exact λs wd σ Q _ R J=>oZ (az wd r σ (.refl _) R rfl J)
noncomputable def QT:List Nat->List Nat->Bool
 | [],[]=>true
 |a::l,b::m=>Nat.beq a b&&QT l m
 |_,_=>false
theorem mK(l:List Nat):∀m,QT l m=true↔l=m:=by
 induction l with
 |nil=>exact λm=>by cases m with
  |nil=>exact⟨λ_=>rfl,λ_=>rfl⟩
  |cons _ _=>exact⟨λh=>nB h,λh=>nomatch h⟩
 |cons a l T=>exact λm=>by cases m with
  |nil=>exact⟨λh=>nB h,λh=>nomatch h⟩
  |cons b m=>exact⟨λh=>xA ((aM _ _).mp h) λh1 h2=>by rw[bK h1,(T m).mp h2],λh=>by
   rw[<-(hZ h).1];exact(aM _ _).mpr ⟨h_ a,(T m).mpr (hZ h).2⟩⟩
noncomputable def d4(x y:Str):Bool:=QT x.cps.toList y.cps.toList
theorem MW(x y:Str):(x.cps.toList==y.cps.toList)=d4 x y:=by
 cases h:d4 x y with
 |true=>exact beq_iff_eq.mpr ((mK _ _).mp h)
 |false=>refine beq_eq_false_iff_ne.mpr λe=>?_;rw[show d4 x y=true from(mK _ _).mpr e] at h;exact Ab h
theorem cq(x y:Str):d4 x y=true↔x=y:=⟨λh=>by cases x;cases y;exact ag _ (ag Array.mk ((mK _ _).mp h)),λh=>(mK _ _).mpr (by rw[h])⟩
def wEq(a b:V):ad Bool:=λσ Q=>xa a.iv (λx=>aA b.iv λy=>Q (x==y) σ) (aA a.sv λx=>aA b.sv λy=>Q (d4 x y) σ)
theorem gr:kI g .Eq wEq:=by
 intro F d A af a b u v _ ha hb s wd σ Q Z R J;refine g6 J (λJ=>?_) λJ=>?_
 ·refine GB (P:=λu v=>wpAny (model g.prog g.w) A (compareOp .Eq u v) (iB g F d _ wd Q) Ac s) ha hb J λx y t C J=>?_;exact PyProof.Rows.eq_int (az wd _ σ (.refl _) R rfl J)
 ·refine QO (P:=λu v=>wpAny (model g.prog g.w) A (compareOp .Eq u v) (iB g F d _ wd Q) Ac s) ha hb J λx y t C J=>?_;exact P.eq_str (az wd _ σ (.refl _) R (by rw[MW]) J)
theorem EL{op:CmpOp}{W:V->V->ad Bool}{f:Int->Int->Bool}(J:∀{a b σ Q},W a b σ Q->aA a.iv λx=>aA b.iv λy=>Q (f x y) σ)(h:∀(A s Q x y t C),Q (.bool (f x y)) s->wpAny (model g.prog g.w) A (compareOp op (.int x t) (.int y C)) Q Ac s):kI g op W:=λF d A af a b u v _ ha hb s wd σ Q Z R hw=>GB (P:=λu v=>wpAny (model g.prog g.w) A (compareOp op u v) (iB g F d _ wd Q) Ac s) ha hb (J hw) λx y t C hw=>h A s _ x y t C (az wd _ σ (.refl _) R rfl hw)
def wLt(a b:V):ad Bool:=λσ Q=>aA a.iv λx=>aA b.iv λy=>Q (decide (x<y)) σ
theorem Ps:kI g .Lt wLt:=EL (λh=>h) λA s Q x y t C h=>PyProof.Rows.lt_int h
def wGt(a b:V):ad Bool:=λσ Q=>aA a.iv λx=>aA b.iv λy=>Q (decide (y<x)) σ
theorem vc:kI g .Gt wGt:=EL (λh=>h) λA s Q x y t C h=>PyProof.Rows.gt_int h
noncomputable def U4(v:Value):Option Bool:=match v with
 | .ref _=>some false
 |_=>none
noncomputable def uJ(v:V):Option Bool:=@V.casesOn (λ_=>Option Bool) v (some true) (λ_=>some false) (λ_=>some false) (λ_=>some false) U4 (λ_=>some false)
theorem vd{wd:Wd}{a:V}(h:VR wd a u)(e:uJ a=some b):(u== .none)=b:=by
 cases a with
 |none=>rw[h];exact aq e
 |bool _=>rw[h];exact aq e
 |int _=>exact xE h λ_ h=>by rw[h];exact aq e
 |str _=>exact xE h λ_ h=>by rw[h];exact aq e
 |loc _=>rw[h.2];exact aq e
 |fb v=>
  rw[h];cases v with
  |ref _=>exact aq e
  |_=>exact nS e
def QU(f:Bool->Bool)(a b:V):ad Bool:=λσ Q=>@V.casesOn (λ_=>Prop) b (aA (uJ a) λb=>Q (f b) σ) (λ_=>False) (λ_=>False) (λ_=>False) (λ_=>False) (λ_=>False)
theorem IS{op:CmpOp}{f:Bool->Bool}(h:∀(A s Q u),Q (.bool (f (u== .none))) s->wpAny (model g.prog g.w) A (compareOp op u .none) Q Ac s):kI g op (QU f):=by
 intro F d A af a b u v _ ha hb s wd σ Q Z R J;cases b with
 |none=>rw[hb];exact ah J λb e J=>h A s _ u (az wd (f b) σ (.refl _) R (by rw[vd ha e]) J)
 |_=>exact J.elim
def wIs:V->V->ad Bool:=QU id
theorem U5:kI g .Is wIs:=IS λA s Q u h=>is_none h
def QV:V->V->ad Bool:=QU (!·)
theorem jC:kI g .IsNot QV:=IS λA s Q u h=>isNot_none h
end
section
variable {g:G}{F:df}
def LRr(wd:Wd)(vs:List V)(us:List Value):Prop:=aE (VR wd) vs us
def sR(g:G)(F:df)(k:Nat)(es:List PySem.Expr)(W:ad (List V)):Prop:=∀d A af pos,cK A k->bb g F d A af LRr (spliced (backTo pos (starEach es (aK F d)))) W
theorem IT:sR g F k [] (λσ Q=>Q [] σ):=λd A af pos hr s wd σ Q Z R J=>wpAny_items_nil (az wd [] σ (.refl _) R .nil J)
theorem CI{W:ad V}{W':ad (List V)}(h:be g F k e W)(h':sR g F k es W')(he:∀bc,starEach (e::es) bc=(false,eval e bc)::starEach es bc):sR g F k (e::es) (λσ Q=>W σ λv G=>W' G λvs E=>Q (v::vs) E):=by intro d A af pos hr s wd σ Q Z R J;refine wpAny_items_cons (bb.go (h d A af hr) Z R J λu s' bg v a9 h1 h2 h3 h4=>?_) (he _);refine bb.go (h' d A af pos hr) (Z.trans h1) h2 h4 λus w_ o vs m y1 O y3 y4=>?_;exact az o (v::vs) m (h1.trans y1) O (.cons (VR.mono y1 h3) y3) y4
theorem c6(h:Heap):h.get? h.objs.size=none:=by
 cases q:h.get? h.objs.size with
 |none=>rfl
 |some o=>exact absurd (bT q) (jd _)
def jU(o:O):ad V:=λσ Q=>Q (.loc σ.mem.length) {σ with mem:=σ.mem++[o]}
def ve(xs:List V):ad V:=λσ Q=>gd (bw xs.length) (jU (.list xs) σ Q)
def pC(xs:List V):ad V:=λσ Q=>gd (bw xs.length) (jU (.tup xs) σ Q)
theorem bU.g7{d:hJ}{wd:Wd}{σ:St}(R:bU g F d wd σ s):s.heap.objs.size≠sysModules:=by refine dB (g.sm) λz o h1 h2=>?_;have h3:=bT (R.hb z o h2);exact dJ (fN h1 h3)
theorem bU.cE{d:hJ}{wd:Wd}{σ:St}(R:bU g F d wd σ s){o:O}(ho:OR g (wd.push s.heap.objs.size) o ob):bU g F d (wd.push s.heap.objs.size) {σ with mem:=σ.mem++[o]} {s with heap:=s.heap.push ob}:=R.alloc (λ_ _ e=>bf _ e) (c6 _) (cu _ ho.live) ho R.g7
theorem AC{d:hJ}{af:Wd}{vs:List V}(h:aE (VR af) vs us):bb g F d A af qg (newList us) (ve vs):=by
 intro s wd σ Q Z R J;refine xA (aL J) λh1 h2=>?_;have hz:us.length<=sizeLine:=by rw[<-h.len];exact dp h1
 refine gP (az (wd.push s.heap.objs.size) (.loc σ.mem.length) _ (Wd.aT _ _) (R.cE (o:=.list vs) ⟨us,0,rfl,h.mono λ_ _=>VR.mono (Z.trans (Wd.aT _ _))⟩) R.pushed h2) ?_;refine(?_ :us.toArray.size<=sizeLine);rw[aZ];exact hz
theorem CJ{d:hJ}{af:Wd}{vs:List V}(h:aE (VR af) vs us):bb g F d A af qg (newTuple us) (pC vs):=by
 intro s wd σ Q Z R J;refine xA (aL J) λh1 h2=>?_;have hz:us.length<=sizeLine:=by rw[<-h.len];exact dp h1
 refine gP (az (wd.push s.heap.objs.size) (.loc σ.mem.length) _ (Wd.aT _ _) (R.cE (o:=.tup vs) ⟨us,0,rfl,h.mono λ_ _=>VR.mono (Z.trans (Wd.aT _ _))⟩) R.pushed h2) ?_;refine(?_ :us.toArray.size<=sizeLine);rw[aZ];exact hz
theorem U6{W:ad (List V)}(h:sR g F k es W):be g F k (.List es pos) (λσ Q=>W σ λvs a9=>ve vs a9 Q):=by intro d A af hr;rw[arm_eval_List];exact bb.standAt (bb.bind (h d A af pos hr) λwd us vs Z D=>AC D)
theorem Zr{n:Nat}{W:ad (List V)}(h:sR g F k es W):be g F k (.Tuple es n pos) (λσ Q=>W σ λvs a9=>pC vs a9 Q):=by intro d A af hr;rw[arm_eval_Tuple];exact bb.standAt (bb.bind (h d A af pos hr) λwd us vs Z D=>CJ D)
noncomputable def vf(xs:List α):Int->Option α
 | .ofNat n=>Ut (bw n) xs[n]?
 | .negSucc n=>Ut (Nat.ble (n+1) xs.length&&bw xs.length) xs[xs.length-(n+1)]?
where Ut (b:Bool) (o:Option α):Option α:=match b with
 |true=>o
 |false=>none
theorem AD{o:Option α}{v:α}(h:vf.Ut b o=some v)(k:b=true->o=some v->P):P:=by
 cases b with
 |true=>exact k rfl h
 |false=>exact nS h
def ixN(i:Int)(m j:Nat):Prop:=seqIndex? i m=some j/\ -2 ^ 63<=i/\i<2 ^ 63/\((0<=i/\i.toNat=j)\/i<0/\ -(m:Int)<=i/\(i+m).toNat=j)
theorem IU{i:Int}{m j:Nat}(h:(0<=i/\i.toNat=j)\/i<0/\ -(m:Int)<=i/\(i+m).toNat=j)(hj:j<m)(h1:i<2 ^ 62)(h2: -2 ^ 62<=i):ixN i m j:=by
 refine⟨?_,dT (by decide) h2,Int.lt_of_lt_of_le h1 (by decide),h⟩;unfold seqIndex?;rcases h with h|h
 ·simp only[show ¬ i<0 from Int.not_lt.mpr h.1,gC];rw[a6 (by rw[dI h.1,dI ((Int.toNat_lt h.1).mp (by rw[h.2];exact hj))];rfl),h.2]
 ·simp only[h.1,if_true];rw[a6 (by rw[dI (by have:=Int.add_le_add_right h.2.1 (m:Int);rwa[Int.add_left_neg] at this),dI (by have:=Int.add_lt_add_right h.1 (m:Int);rwa[fW] at this)];rfl),h.2.2]
theorem ym{xs:List α}{i:Int}{v:α}(h:vf xs i=some v)(k:∀j,ixN i xs.length j->xs[j]?=some v->P):P:=by
 cases i with
 |ofNat n=>refine AD h λh1 h2=>?_;have h3:=aU h1;have h4:=(List.getElem?_eq_some_iff.mp h2).1;exact k n (IU (.inl ⟨gl n,rfl⟩) h4 (Int.ofNat_lt.mpr (Nat.lt_of_le_of_lt h3 (by decide:16777216<2 ^ 62))) (dT (by decide) (gl n))) h2
 |negSucc n=>refine AD h λh1 h2=>xA ((aM _ _).mp h1) λh3 h4=>?_;have h5:=aU h3;have h6:=aU h4;exact k _ (IU (.inr ⟨l6 n,Int.neg_le_neg (Int.ofNat_le.mpr h5),ag Int.toNat (sK h5)⟩) (Nat.sub_lt (dA (mf n) h5) (mf n)) (Int.lt_trans (l6 n) (by decide)) (dT (b:= -((16777216:Nat):Int)) (by decide) (by rw[Int.negSucc_eq];exact Int.neg_le_neg (Int.ofNat_le.mpr (am h5 h6))))) h2
def QW(o:Option O)(i:V)(K:V->Prop):Prop:=aA i.iv λi=>xa (o.bind O.ls) (λxs=>aA (vf xs i) K) (aA (o.bind O.tu) λxs=>aA (vf xs i) K)
def tP(a i:V):ad V:=λσ Q=>xa a.lo (λl=>QW σ.mem[l]? i λv=>Q v σ) (aA a.sv λx=>aA i.iv λi=>aA (vf x.cps.toList i) λc=>Q (.str ⟨#[c]⟩) σ)
noncomputable def nO(e:PySem.Expr):Bool:=by
 cases e with
 |Slice=>exact false
 |_=>exact true
theorem lh(h:nO e=true)(o i:Value):subscripted e false o i=PySem.operate [o,i] (getItem o i):=by
 cases e with
 |Slice=>exact nB h
 |_=>rfl
theorem tQ{d:hJ}{af:Wd}{a i:V}{v:Value}(ha:VR af a u)(hi:VR af i v):bb g F d A af qg (getItem u v) (tP a i):=by
 intro s wd σ Q Z R J;refine g6 J (λJ=>ah J λl e J=>ah J λi r J=>?_) λJ=>ah J λx e J=>ah J λi r J=>ah J λc hc Y=>?_
 ·rw[V.lH e] at ha;rw[V.sP r] at hi;rw[(VR.mono Z ha).2];refine xE hi λt hi=>?_;rw[hi];refine g6 J (λJ=>ah J λxs e J=>R.lst e λI n _ ho dL=>?_) λJ=>ah J λxs e J=>R.tpl e λI n _ ho dL=>?_
  ·refine ah J λw hw Y=>ym hw λj h1 h2=>bx (dL.get h2) λy hy Yu=>?_;rw[dL.len] at h1;rcases h1.2.2.2 with h3|h3
   ·exact wpAny_getItem_list (b9 ho) h3.1 h1.2.2.1 (by rw[h3.2];simpa using hy) (az wd w σ (.refl _) R Yu Y)
   ·exact wpAny_getItem_list_neg (b9 ho) h3.1 (by rw[aZ];exact h3.2.1) h1.2.1 (by rw[aZ,h3.2.2];simpa using hy) (az wd w σ (.refl _) R Yu Y)
  ·refine ah J λw hw Y=>ym hw λj h1 h2=>bx (dL.get h2) λy hy Yu=>?_;rw[dL.len] at h1;exact getItem_tuple ⟨_,ho,rfl,n,rfl⟩ h1.2.1 h1.2.2.1 (by rw[aZ];exact h1.1) (by simpa using hy) (az wd w σ (.refl _) R Yu Y)
 ·rw[V.qe e] at ha;rw[V.sP r] at hi;refine xE hi λt hi=>xE ha λC ha=>?_;rw[hi,ha];refine ym hc λj h1 h2=>?_;refine P.getItem_str ?_ ?_ (az wd (.str ⟨#[c]⟩) σ (.refl _) R.toks ⟨_,rfl⟩ Y)
  ·rw[dR (Int.not_lt.mpr h1.2.1),dR (Int.not_le.mpr h1.2.2.1)];rfl
  ·rw[show x.length=x.cps.toList.length by simp[Str.length],h1.1];simpa using h2
noncomputable def IV(o:O):Option String:=match o with
 | .list _=>some "list"
 | .tup _=>some "tuple"
 |_=>none
noncomputable def Pt(σ:St)(v:V):Option String:=@V.casesOn (λ_=>Option String) v none (λ_=>none) (λ_=>none) (λ_=>some "str") (λ_=>none) λl=>(σ.mem[l]?).bind IV
theorem IW{a i:V}{σ:St}{Q:V->St->Prop}(h:tP a i σ Q):∃T,Pt σ a=some T:=by
 refine g6 h (λh=>ah h λl e h=>ah h λ_ _ h=>?_) λh=>ah h λx e _=>?_
 ·rw[V.lH e];exact g6 h (λh=>ah h λxs e _=>⟨"list",ag (Option.bind · IV) (e_ O.va e)⟩) λh=>ah h λxs e _=>⟨"tuple",ag (Option.bind · IV) (e_ O.CC e)⟩
 ·rw[V.qe e];exact⟨_,rfl⟩
theorem IX{d:hJ}{wd:Wd}{σ:St}(R:bU g F d wd σ s){a:V}(ha:VR wd a u){T:String}(h:Pt σ a=some T):s.TypeIs u T/\∃id,typeLookup (.type T) "__getitem__"=Pure.pure (some (.builtin id)):=by
 cases a with
 |loc l=>
  refine aI h λo e h=>jB (R.get e) λ_ ob Y ho=>?_;rw[ha.2];cases o with
  |list xs=>rw[<-aq h];exact dB ho λI n e _=>⟨⟨ob,Y,by rw[e];rfl⟩,_,slot_list_getitem.lookup⟩
  |tup xs=>rw[<-aq h];exact dB ho λI n e _=>⟨⟨ob,Y,by rw[e];rfl⟩,_,slot_tuple_getitem.lookup⟩
  |_=>exact nS h
 |str x=>rw[<-aq h];exact xE ha λt ha=>ha.symm▸⟨typeIs_str s x t,_,PySem.F.slot_str_getitem.lookup⟩
 |_=>exact nS h
theorem Zs{value b:PySem.Expr}{wa h:ad V}(ha:be g F k value wa)(hi:be g F k b h)(hp:nO b=true):be g F k (.Subscript value b pos) (λσ Q=>wa σ λa G=>h G λi E=>tP a i E Q):=by intro d A af hr s wd σ Q Z R J;refine Subscript_ (bb.go (ha d A af hr) Z R J λu s' bg a a9 h1 h2 h3 h4=>?_);refine bb.go (hi d A af hr) (Z.trans h1) h2 h4 λv w_ o i m y1 O y3 y4=>?_;refine xE (IW y4) λT y=>?_;refine Ur (IX O (VR.mono y1 h3) y) λt1 id t2=>?_;refine tail_any t1 t2 (bb.go (tQ (VR.mono y1 h3) y3) (.refl _) O y4 λr c X r' H L z2 z3 z4=>?_) (lh hp _ _);exact az X r' H ((h1.trans y1).trans L) z2 z3 z4
end
noncomputable def Wd.jr(wd:Wd)(a:Addr)(o:Obj):Wd:=⟨wd.ρ,wd.n,λx=>if x=a then some o else wd.fz x⟩
noncomputable def Wd.jV(wd:Wd)(a:Addr):Wd:=⟨wd.ρ,wd.n,λx=>if x=a then none else wd.fz x⟩
theorem Wd.nP{wd:Wd}(h:wd.fz a=none):Wd.Le wd (wd.jr a o):=⟨aF _,λ_ _=>rfl,λx o' e=>by
  refine(?_ :(if x=a then some o else wd.fz x)=some o');rw[aH (λq=>by rw[q,h] at e;exact nS e)];exact e⟩
theorem Wd.pD{wd bg:Wd}(h:wd.fz a=none)(Z:Wd.Le (wd.jr a o) bg):Wd.Le wd (bg.jV a):=⟨Z.n,Z.ρ,λx o' e=>by
  have ne:x≠a:=λq=>by rw[q,h] at e;exact nS e
  refine(?_ :(if x=a then none else bg.fz x)=some o');rw[aH ne];exact Z.fz x o' (by show(if x=a then some o else wd.fz x)=some o';rw[aH ne];exact e)⟩
theorem Wd.QX{wd bg:Wd}(Z:Wd.Le (wd.jr a o) bg):bg.fz a=some o:=Z.fz a o (by show(if a=a then some o else wd.fz a)=some o;rw[a6 rfl])
theorem OR.jV{g:G}{wd:Wd}(ha:∀o,wd.fz a=some o->¬ Perm o){v:O}(x:OR g wd v o):OR g (wd.jV a) v o:=OR.map (a:=wd) (b:=wd.jV a) (aF _) (λ_ _=>rfl) (x:=x) λc o h p=>by refine(?_ :(if c=a then none else wd.fz c)=_);rw[aH λq:c=a=>ha _ (q▸h) p];exact h
theorem VR.jr{wd:Wd}{v:V}(h:VR wd v u):VR (wd.jr a o) v u:=VR.map (e:=h) (aF _) λ_ _=>rfl
theorem VR.jV{wd:Wd}{v:V}(h:VR wd v u):VR (wd.jV a) v u:=VR.map (e:=h) (aF _) λ_ _=>rfl
theorem hM.jr{g:G}{wd:Wd}{mem:List O}(R:hM g wd mem h)(ha:h.get? a=some o)(S:wd.fz a=none)(hn:∀l,l<wd.n->wd.ρ l≠a):hM g (wd.jr a o) mem h:=by
 have Z:Wd.Le wd (wd.jr a o):=Wd.nP S;refine⟨R.len,λb ob e=>?_,λb ob e=>Z.fz b ob (R.base b ob e),λl o e=>bx (R.own l o e) λob h1 h2=>⟨ob,h1,h2.mono Z⟩,R.low,R.inj,λl dP=>?_,R.tabs.mono Z⟩
 ·by_cases q:b=a
  ·subst q;have:(wd.jr b o).fz b=some o:=a6 rfl;rw[this] at e;obtain rfl:=aq e;exact ha
  ·exact R.sQ b ob (by have:(wd.jr a o).fz b=wd.fz b:=aH q;rw[this] at e;exact e)
 ·refine(?_ :(if wd.ρ l=a then some o else wd.fz (wd.ρ l))=none);rw[aH (hn l dP)];exact R.new l dP
theorem hM.jV{g:G}{wd:Wd}{mem:List O}(R:hM g wd mem h)(ha:∀o,wd.fz a=some o->¬ Perm o)(hb:g.hb.get? a=none):hM g (wd.jV a) mem h:=by
 have sub:∀x o,(wd.jV a).fz x=some o->wd.fz x=some o:=λx o e=>by
  by_cases q:x=a
  ·have:(wd.jV a).fz x=none:=a6 q;rw[this] at e;exact nS e
  ·have:(wd.jV a).fz x=wd.fz x:=aH q;rw[this] at e;exact e
 refine⟨R.len,λb ob e=>R.sQ b ob (sub b ob e),λb ob e=>?_,λl o e=>bx (R.own l o e) λob h1 h2=>⟨ob,h1,h2.jV ha⟩,R.low,R.inj,λl Z=>?_,λi P e=>R.tabs i P e⟩
 ·have ne:b≠a:=λq=>by rw[q,hb] at e;exact nS e
  have:(wd.jV a).fz b=wd.fz b:=aH ne;rw[this];exact R.base b ob e
 ·refine(?_ :(if wd.ρ l=a then none else wd.fz (wd.ρ l))=none);rw[R.new l Z];exact ite_self _
section
variable {g:G}{F:df}
theorem U7:k0 g F k [] (λσ Q=>Q .next σ):=λd A af hr s wd σ Q Z R J=>hX (az wd .next σ (.refl _) R rfl J)
def sS(W':ad Fl)(Q:Fl->St->Prop):Fl->St->Prop
 | .next=>λa9=>W' a9 Q
 | .brk=>Q .brk
 | .cont=>Q .cont
 | .ret v=>Q (.ret v)
def aV(W W':ad Fl):ad Fl:=λσ Q=>W σ (sS W' Q)
def QY(go:St->Prop)(Q:Fl->St->Prop):Fl->St->Prop
 | .next=>go
 | .cont=>go
 | .brk=>Q .next
 | .ret v=>Q (.ret v)
theorem QZ{st:Stmt}{aD:List Stmt}{W W':ad Fl}(h:iW g F k st W)(h':k0 g F k aD W'):k0 g F k (st::aD) (aV W W'):=by
 intro d A af hr s wd σ Q Z R J;refine wpAny_execs_cons (bb.go (h d A af hr) Z R J λf s' bg j a9 h1 h2 h3 h4=>?_);cases j with
 |next=>rw[h3];exact bb.go (h' d A af hr) (Z.trans h1) h2 h4 λc w_ o c' m y1 O y3 y4=>az o c' m (h1.trans y1) O y3 y4
 |brk=>rw[h3];exact az bg .brk a9 h1 h2 rfl h4
 |cont=>rw[h3];exact az bg .cont a9 h1 h2 rfl h4
 |ret v=>exact bx h3 λu e hv=>e.symm▸az bg (.ret v) a9 h1 h2 ⟨u,rfl,hv⟩ h4
def vg:ad β:=λ_ _=>False
theorem Q0:be g F k e vg:=λ_ _ _ _ _ _ _ _ _ _ J=>J.elim
theorem Q1:qV g F k e vg:=λ_ _ _ _ _ _ _ _ _ _ J=>J.elim
theorem Q2{e:List Stmt}:k0 g F k e vg:=λ_ _ _ _ _ _ _ _ _ _ J=>J.elim
noncomputable def St.nE(σ:St)(i:Nat)(v:V):St:={σ with loc:=σ.loc.set i (some v)}
theorem MX(i:Nat){p:Pos}{W:ad V}(h:be g F k e W)(B:F.names[i]?=some x)(nD:F.names.Nodup)(hk:F.scope.kind= .function)(Z:∀d,(aK F d).kindOf x=some .local) (M:∀d,swapsWith e (some (.Name x p)) pos.line (aK F d)=Pure.pure false):iW g F k (.Assign [.Name x p] e pos) (λσ Q=>W σ λv a9=>Q .next (a9.nE i v)):=by intro d A af hr s wd σ Q gI R J;refine wpAny_Assign_Name (bb.go (h d A af hr) gI R J λu s' bg v a9 h1 h2 h3 h4=>?_) (M d);refine bb.go (kG h3 B nD hk (Z d)) (K:=(λ_ m=>Q .next m)) (.refl _) h2 h4 λ_ w_ o _ m y1 O _ y4=>?_;exact az o .next m (h1.trans y1) O rfl y4
theorem U8{W:ad V}(h:be g F k e W)(hi:∀d,interactive (aK F d)=false)(M:∀d,swapsWith e none pos.line (aK F d)=Pure.pure false):iW g F k (.Expr e pos) (λσ Q=>W σ λ_ a9=>Q .next a9):=by intro d A af hr s wd σ Q gI R J;refine wpAny_Expr_any (bb.go (h d A af hr) gI R J λu s' bg v a9 h1 h2 h3 h4=>?_) (hi d) (M d);exact az bg .next a9 h1 h2 rfl h4
theorem MY{W:ad V}(h:be g F k e W):iW g F k (.Return (some e) pos) (λσ Q=>W σ λv a9=>Q (.ret v) a9):=by intro d A af hr s wd σ Q gI R J;refine wpAny_Return_some (bb.go (h d A af hr) gI R J λu s' bg v a9 h1 h2 h3 h4=>?_);exact az bg (.ret v) a9 h1 h2 ⟨u,rfl,h3⟩ h4
theorem IY:iW g F k (.Return none pos) (λσ Q=>Q (.ret .none) σ):=λd A af hr s wd σ Q gI R J=>wpAny_Return_none (az wd (.ret .none) σ (.refl _) R ⟨_,rfl,rfl⟩ J)
theorem rIf{c:List Stmt}{Wt:ad Bool}{W W':ad Fl}(ht:qV g F k sO Wt)(h:k0 g F k body W)(h':k0 g F k c W'):iW g F k (.If sO body c pos) (λσ Q=>Wt σ λb a9=>br b (W a9 Q) (W' a9 Q)):=by intro d A af hr;rw[exec_If];refine bb.standAt (bb.bind (ht d A af hr) λwd u a Z D=>?_);obtain rfl:=D;exact bb.ite (h d A wd hr) (h' d A wd hr)
theorem U9:iW g F k (.Continue pos) (λσ Q=>Q .cont σ):=λd A af hr s wd σ Q gI R J=>wpAny_Continue (az wd .cont σ (.refl _) R rfl J)
def tR(g:G)(op:Operator)(W:V->V->ad V):Prop:=∀(F:df)(d:hJ)(A:Around)(af:Wd)(a b:V)(u v:Value),VR af a u->VR af b v->bb g F d A af qg (inplaceOp op u v) (W a b)
theorem kK:tR g .Add QP:=by
 intro F d A af a b u v ha hb s wd σ Q Z R J;refine g6 J (λJ=>?_) λJ=>?_
 ·refine GB (P:=λu v=>wpAny (model g.prog g.w) A (inplaceOp .Add u v) (iB g F d qg wd Q) Ac s) ha hb J λx y t C J=>?_;exact PyProof.Rows.iadd_int (az wd (V.int _) σ (.refl _) R.toks ⟨_,rfl⟩ J)
 ·refine QO (P:=λu v=>wpAny (model g.prog g.w) A (inplaceOp .Add u v) (iB g F d qg wd Q) Ac s) ha hb J λx y t C J=>?_;refine xA (aL J) λh1 h2=>?_;exact PyProof.Rows.iadd_str (λC tk=>az wd (V.str _) σ (.refl _) R.toks ⟨_,rfl⟩ h2) (dp h1)
theorem CK:tR g .Sub U3:=by intro F d A af a b u v ha hb s wd σ Q Z R J;refine GB (P:=λu v=>wpAny (model g.prog g.w) A (inplaceOp .Sub u v) (iB g F d qg wd Q) Ac s) ha hb J λx y t C J=>?_;exact PyProof.Rows.isub_int (az wd (V.int _) σ (.refl _) R.toks ⟨_,rfl⟩ J)
theorem MZ{d:hJ}{af:Wd}(B:F.names[i]?=some x)(hk:F.scope.kind= .function)(Z:(aK F d).kindOf x=some .local):bb g F d A af qg (loadName (aK F d) x) (dY i):=λs wd σ Q _ R J=>qW J λv e J=>bx (R.loc) λm hn hm=>bx (hm i x v B e) λu N hv=>
  lV hk Z hn N (az wd v σ (.refl _) R hv J)
theorem Zt(i:Nat){p:Pos}{W:ad V}{Wo:V->V->ad V}(ho:tR g op Wo)(h:be g F k e W)(B:F.names[i]?=some x)(nD:F.names.Nodup)(hk:F.scope.kind= .function) (Z:∀d,(aK F d).kindOf x=some .local):iW g F k (.AugAssign (.Name x p) op e pos) (λσ Q=>dY i σ λa G=>W G λb E=>Wo a b E λc H=>Q .next (H.nE i c)):=by intro d A af hr;rw[exec_AugAssign_Name];refine bb.standAt (bb.bind (MZ B hk (Z d)) λwd u a gI D=>?_);refine bb.bind (bb.holding (h d A wd hr)) λP v b Q3 w=>?_;refine bb.standAt (bb.bind (bb.operate (ho F d A P a b u v (VR.mono Q3 D) w)) λX r c Zu hC=>?_);refine bb.standAt ?_;intro s vh σ Q Q4 R J;refine U (wpAny_bindName ?_);refine bb.go (kG (VR.mono Q4 hC) B nD hk (Z d)) (K:=(λ_ m=>Q .next m)) (.refl _) R J λ_ w_ o _ m y1 O _ y4=>?_;exact aj (az o .next m y1 O rfl y4)
def whK(Wb:ad Fl)(K Q:Fl->St->Prop)(b:Bool)(σ:St):Prop:=br b (Wb σ K) (Q .next σ)
noncomputable def mL(Wt:ad Bool)(Wb:ad Fl):Nat->St->(Fl->St->Prop)->Prop
 |0,_,_=>False
 |n+1,σ,Q=>Wt σ (whK Wb (QY (λE=>mL Wt Wb n E Q) Q) Q)
def whI(g:G)(F:df)(d:hJ)(Wt:ad Bool)(Wb:ad Fl)(wd:Wd)(Q:Fl->St->Prop)(n:Nat)(s:Shared):Prop:=∃bg σ,Wd.Le wd bg/\bU g F d bg σ s/\mL Wt Wb n σ Q
def Yv(g:G)(F:df)(d:hJ)(wd:Wd)(Q:Fl->St->Prop):Except Value Flow->Shared->Prop:=λr s'=>match r with| .ok f=>iB g F d Us wd Q f s'| .error _=>False
theorem Q5{Wt:ad Bool}{Wb:ad Fl}(ht:qV g F k sO Wt)(hb:k0 g F k body Wb):iW g F k (.While sO body [] pos) (λσ Q=>∃n,mL Wt Wb n σ Q):=by
 intro d A af hr s wd σ Q gI R J;refine xE J λn J=>?_;refine wpAny_While ?_;refine fM (codeAny_whileLoop (R:=Yv g F d wd Q) (whI g F d Wt Wb wd Q) ?_ n ⟨wd,σ,.refl _,R,J⟩) λr s' x=>by cases r<;>first|exact x|exact x.elim
 intro n s hI;refine d3 hI λbg σ h1 h2 h3=>?_;cases n with
 |zero=>exact h3.elim
 |succ n=>
  refine bb.go (ht d A af hr) (gI.trans h1) h2 h3 λb s' P b' E x1 x2 x3 x4=>?_;rw[x3];cases b' with
  |false=>exact hX (az P .next E (h1.trans x1) x2 rfl x4)
  |true=>
   refine bb.go (hb d A af hr) ((gI.trans h1).trans x1) x2 x4 λf w_ X j H y1 O y3 y4=>?_;have go:mL Wt Wb n H Q->whI g F d Wt Wb wd Q n w_:=λh=>⟨X,H,(h1.trans x1).trans y1,O,h⟩;cases j with
   |next=>rw[y3];exact⟨n,eA _,go y4⟩
   |cont=>rw[y3];exact⟨n,eA _,go y4⟩
   |brk=>rw[y3];exact az X .next H ((h1.trans x1).trans y1) O rfl y4
   |ret v=>exact bx y3 λu e hv=>e.symm▸az X (.ret v) H ((h1.trans x1).trans y1) O ⟨u,rfl,hv⟩ y4
end
theorem jW(x y:Str):(x==y)=d4 x y:=by
 cases h:d4 x y with
 |true=>exact beq_iff_eq.mpr ((cq _ _).mp h)
 |false=>refine beq_eq_false_iff_ne.mpr λe=>?_;rw[(cq x y).mpr e] at h;exact Ab h
noncomputable def eO(n:Str):List (Str×V)->Option V
 | []=>none
 |p::r=>cond (d4 p.1 n) (some p.2) (eO n r)
noncomputable def cQ(n:Str)(v:V):List (Str×V)->List (Str×V)
 | []=>[(n,v)]
 |p::r=>cond (d4 p.1 n) ((p.1,v)::r) (p::cQ n v r)
abbrev mo(g:G)(wd:Wd)(p:Str×V)(d:DictEntry):Prop:=∃t u,d=⟨PyData.keyHash g.w.params p.1,.str p.1 t,u⟩/\VR wd p.2 u
section
variable {g:G}{wd:Wd}
theorem GF{es:List (Str×V)}(h:aE (mo g wd) es ds):(ds.any λx=>x.refKey)=false:=by
 induction h with
 |nil=>rfl
 |cons e _ T=>refine dB e λt u e _=>?_;rw[kn,T,e];rfl
theorem uK{n:Str}{es:List (Str×V)}(h:aE (mo g wd) es ds):(∀v,eO n es=some v->∃u,getL n ds=some (some u)/\VR wd v u)/\(eO n es=none->getL n ds=some none):=by
 induction h with
 |nil=>exact⟨λv e=>nS e,λ_=>rfl⟩
 | @cons p d es ds e _ T=>
  refine dB e λt u e hv=>?_;have hk:d.key.isStr n=d4 p.1 n:=by rw[e];exact jW p.1 n
  have S:d.refKey=false:=by rw[e];rfl
  have N:d.val=u:=by rw[e]
  unfold getL;rw[List.find?_cons,hk,kn,S];show(∀v,cond (d4 p.1 n) (some p.2) (eO n es)=some v->_)/\(cond (d4 p.1 n) (some p.2) (eO n es)=none->_);cases d4 p.1 n with
  |true=>exact⟨λv e=>⟨u,ag (λx=>some (some x)) N,aq e▸hv⟩,λe=>MB e⟩
  |false=>exact T
theorem M2{n:Str}{t:Tok}{v:V}(hv:VR wd v u){es:List (Str×V)}(h:aE (mo g wd) es ds):aE (mo g wd) (cQ n v es) (putL n (PyData.keyHash g.w.params n) (.str n t) u ds):=by
 induction h with
 |nil=>exact .cons ⟨t,u,rfl,hv⟩ .nil
 | @cons p d es ds e y T=>
  refine dB e λC u' e' Uu=>?_;have hk:d.key.isStr n=d4 p.1 n:=by rw[e'];exact jW p.1 n
  unfold putL;rw[hk];show aE _ (cond (d4 p.1 n) ((p.1,v)::es) (p::cQ n v es)) _;cases d4 p.1 n with
  |true=>rw[e'];exact .cons ⟨C,u,rfl,hv⟩ y
  |false=>exact .cons e T
end
theorem IZ(n:Str)(hsh:Int)(ky v:Value)(ds:List DictEntry):(putL n hsh ky v ds).length<=ds.length+1:=by
 induction ds with
 |nil=>exact aF _
 |cons p r T=>
  unfold putL;by_cases h:p.key.isStr n=true
  ·rw[a6 h];exact eC _
  ·rw[aH h];exact jz T
structure sU(K:Frag)(C:Addr):Prop where
 ga:findIn K (.ref C) "__getattribute__"=some (some (.builtin "object.__getattribute__"))
 gt:findIn K (.ref C) "__getattr__"=some none
 sa:findIn K (.ref C) "__setattr__"=some (some (.builtin "object.__setattr__"))
 po:plainOver K C=true
 hd:hasDictIn K C=true
structure NameK(K:Frag)(C:Addr)(n:Str):Prop where
 there:∃a,findIn K (.ref C) n=some a/\∀f,a=some f->∃x get,f= .ref x/\specialIn K f "__get__"=some get/\takesIn K f=some false
theorem NameK.taker{K:Frag}{n:Str}(N:NameK K C n):takerIn K C n=some none:=by
 refine bx (N.there) λa h1 h2=>(bE h1).trans ?_;cases a with
 |none=>rfl
 |some f=>exact d3 (h2 f rfl) λx get _ h3 h4=>ag (Option.map λb=>if b=true then some f else none) h4
theorem NameK.find{K:Frag}{n:Str}(N:NameK K C n)(hh:hasDictIn K C=true){od:Obj}{v:Value}(Z:lookIn n od=some (some v)):findObj K C (some od) n=some (.value v):=by
 refine bx (fj hh) λcd hc hd=>bx (N.there) λa h1 h2=>?_;have ho:W.ownOf cd (some od) n=some (some v):=(a6 hd).trans Z;refine(bE hc).trans ((bE h1).trans ?_);cases a with
 |none=>exact(bE ho).trans rfl
 |some f=>
  refine d3 (h2 f rfl) λx get _ h3 h4=>(bE h3).trans ?_;cases get with
  |none=>exact(bE ho).trans rfl
  |some gv=>exact(bE h4).trans ((bE ho).trans rfl)
section
variable {g:G}{F:df}
noncomputable def nQ:V->Bool
 | .fb (.builtin i)=>(withoutEnding? i "#data").isNone
 |_=>true
theorem AE{wd:Wd}{v:V}(h:VR wd v u)(e:nQ v=true):handedIn u=true:=by
 cases v with
 |int i=>exact xE h λt h=>by rw[h];rfl
 |str i=>exact xE h λt h=>by rw[h];rfl
 |loc l=>rw[h.2];rfl
 |fb w=>rw[h];cases w<;>exact e
 |_=>rw[h];rfl
noncomputable def I0(C:Addr)(o:Option O):Option Nat:=(o.bind O.ins).bind λp=>cond (Nat.beq p.1 C) (some p.2) none
noncomputable def qZ(o:Option O):Option (List (Str×V)):=o.bind O.di
noncomputable def d5(C:Addr)(mem:List O)(v:V):Option (Nat×List (Str×V)):=v.lo.bind λl=>(I0 C mem[l]?).bind λd=>(qZ mem[d]?).bind λes=>some (d,es)
theorem kL{a:α}(h:cond b (some a) none=some c)(k:b=true->a=c->P):P:=by
 cases b with
 |true=>exact k rfl (aq h)
 |false=>exact nS h
theorem GG{o:Option O}{d:Nat}(h:I0 C o=some d):o=some (.inst C d):=aI h λp e h=>kL h λh1 h2=>(e_ O.MR e).trans (by rw[bK h1,h2])
theorem nR{d:hJ}{wd:Wd}{σ:St}(R:bU g F d wd σ s){a:V}(ha:VR wd a u){p:Nat×List (Str×V)}(h:d5 C σ.mem a=some p):∃x ds n,u= .ref x/\PySem.W.InstAt s.heap x (instObj C (wd.ρ p.1)) C (some (dictOf ds n))/\aE (mo g wd) p.2 ds/\p.1<wd.n/\s.heap.get? (wd.ρ p.1)=some (dictOf ds n)/\σ.mem[p.1]?=some (.dict p.2):=by
 refine aI h λl e h=>aI h λc e1 h=>aI h λuL e2 h=>?_;rw[V.lH e] at ha;rw[<-aq h];have e3:=e_ O.CD e2;exact EI (R.get (GG e1)) λ_ ob ho e4 _=>mH (R.get e3) λh2 ob2 Yw ds n E H=>
  have Yw:=Yw.trans (ag some E)
  ⟨_,ds,n,ha.2,⟨ho.trans (ag some e4),rfl,rfl,Yw⟩,H,h2,Yw,e3⟩
def AF(C:Addr)(n:Str)(a:V):ad V:=λσ Q=>aA (d5 C σ.mem a) λp=>aA (eO n p.2) λv=>gd (nQ v) (Q v σ)
theorem EM{n:Str}(HC:sU g.K C)(q:NameK g.K C n){d:hJ}{af:Wd}{a:V}{ex:Bool}(ha:VR af a u):bb g F d A af qg (getAttr u n ex) (AF C n a):=by intro s wd σ Q Z R J;refine ah J λp h1 J=>ah J λv h2 J=>xA (aL J) λh3 J=>f_ (nR R (VR.mono Z ha) h1) λx ds m qi I H _=>?_;rw[qi];refine bx ((uK H).1 v h2) λw hw hv=>?_;exact get_value (g.X.keeps R.hb) I HC.ga (q.find HC.hd (by rw[lookIn_dict];exact hw)) (AE hv h3) (az wd v σ (.refl _) R.toks hv J)
theorem U_{n:Str}{o:PySem.Expr}{W:ad V}(h:be g F k o W)(hn:n=n')(HC:sU g.K C)(q:NameK g.K C n')(he:∀bc,eval (.Attribute o n pos) bc=(do
  let o' <-eval o bc
  standAt pos.atName
  let r <-holding [o'] (getAttr o' n true)
  letTemporaryGo o o' r
  Pure.pure r)):be g F k (.Attribute o n pos) (λσ Q=>W σ λa a9=>AF C n' a a9 Q):=by
 subst hn;intro d A af hr;rw[he];refine bb.bind (h d A af hr) λwd u a Z D=>bb.standAt ?_;intro s bg σ Q j R J;refine U (bq (a_ (EM HC q D s bg σ Q j R J) (λr s' x=>?_) λ_ _ x=>x));exact U (sF (aj x))
theorem M3{prog:Program}{w:World}{K:Frag}{x dx:Addr}{name:Str}{tk:Tok}{v:Value}{n:Nat}{R:Result->Shared->Prop}(X:K.In s.heap)(I:PySem.W.InstAt s.heap x (instObj C dx) C (some (dictOf ds n))) (hp:plainOver K C=true) (ht:takerIn K C name=some none) (hh:hasDictIn K C=true) (hz:ds.length<=900) (hr:(ds.any λe=>e.refKey)=false)(h:R (.ok (.ret .none)) {s with heap:=s.heap.update dx (Obj.putName name (PyData.keyHash w.params name) (.str name s.toks) v),toks:=s.toks+1}):codeAny (model prog w) A (.call (.builtin "object.__setattr__") ⟨[.ref x,.str name tk,v],[]⟩) R s:=by
 refine osa_open X I hp ht λb=>?_;refine bx (fj hh) λcd hc MC=>?_;obtain⟨B,L,hn,G⟩:=I;have D:=G;have e':Obj.putName name (PyData.keyHash w.params name) (.str name s.toks) v (dictOf ds n)=dictOf (putL name (PyData.keyHash w.params name) (.str name s.toks) v ds) (putN name ds n):=putName_dict ..;have D':(s.heap.update dx (Obj.putName name (PyData.keyHash w.params name) (.str name s.toks) v)).get? dx=some (dictOf (putL name (PyData.keyHash w.params name) (.str name s.toks) v ds) (putN name ds n)):=by rw[<-e'];exact ef _ D (by rw[e'];rfl)
 refine U (aj (U (U (pe B (U ((looks_clsIn X hc).here ?_))))));rw[MC];refine aj (U (aj (U ?_)));unfold nsSet;refine U (U (iy (aj (U (wpAny_mkText (U (pe D ?_)))))));dsimp only;have c:aRefKeyMayBeTheName name ds.toArray=false:=by
  rw[aRefKeyMayBeTheName_at];have:(ds.toArray.any λe=>e.refKey)=false:=by simpa using hr
  rw[this,pq]
 rw[c];refine wpAny_updatePart D ?_;refine U (wpAny_lookBehind D' (pastItsLine_dict ?_) ?_)
 ·rw[aZ,dj];have:=IZ name (PyData.keyHash w.params name) (.str name s.toks) v ds;exact aQ [_,_] (.c 1 (.v 0) (.n 900) (.c 1 (.v 1) (.a (.v 0) (.n 1)) .nil)) 0 (.v 1) (.a (.n 16777216) (.n 1)) tt hz this
 ·exact aj h
def GH(C:Addr)(n:Str)(a v:V):ad Unit:=λσ Q=>aA (d5 C σ.mem a) λp=>gd (Nat.ble p.2.length 800) (Q () {σ with mem:=σ.mem.set p.1 (.dict (cQ n v p.2))})
theorem EO{n:Str}(HC:sU g.K C)(q:NameK g.K C n){d:hJ}{af:Wd}{a v:V}{r:Value}(ha:VR af a u)(hv:VR af v r):bb g F d A af um (setAttr u n r) (GH C n a v):=by intro s wd σ Q Z R J;refine ah J λp h1 J=>xA (aL J) λh3 J=>sL (nR R (VR.mono Z ha) h1) λx ds m qi I H S hdo hdm=>?_;rw[qi];have gI:=aU h3;have cn:=H.len;refine set_plain (g.X.keeps R.hb) I HC.sa (M3 (g.X.keeps R.hb) I HC.po q.taker HC.hd (aQ [_,_] (.c 1 (.v 0) (.n 800) (.f 1 (.v 0) (.v 1) .nil)) 0 (.v 1) (.n 900) tt gI cn) (GF H) ?_);refine az wd () _ (.refl _) ?_ d7 J;have e':=putName_dict n (PyData.keyHash g.w.params n) (.str n (s.toks+1)) r ds m;refine R.setM S (er ..) ?_ (IE:=dictOf (putL n (PyData.keyHash g.w.params n) (.str n (s.toks+1)) r ds) (putN n ds m)) ⟨_,_,rfl,M2 (VR.mono Z hv) H⟩;rw[<-e'];exact ef _ hdo (by rw[e'];rfl)
theorem AG{n:Str}{o:PySem.Expr}{p:Pos}{Wv Wo:ad V}(hv:be g F k e Wv)(ho:be g F k o Wo)(hn:n=n')(HC:sU g.K C)(q:NameK g.K C n')(M:∀d,swapsWith e (some (.Attribute o n p)) pos.line (aK F d)=Pure.pure false):iW g F k (.Assign [.Attribute o n p] e pos) (λσ Q=>Wv σ λv G=>Wo G λa E=>GH C n' a v E λ_ H=>Q .next H):=by subst hn;intro d A af hr s wd σ Q Z R J;refine plainObj_wpAny_Assign_Attribute (bb.go (hv d A af hr) Z R J λu s' D v G h1 h2 h3 h4=>?_) (M d);refine bb.go (ho d A af hr) (Z.trans h1) h2 h4 λr w_ P a E x1 x2 x3 x4=>?_;refine bb.go (EO HC q x3 (VR.mono x1 h3)) (.refl _) x2 x4 λ_ c X _ H y1 O _ y4=>?_;exact az X .next H ((h1.trans x1).trans y1) O rfl y4
theorem I1{n:Str}{o:PySem.Expr}{p:Pos}{We Wo:ad V}{W:V->V->ad V}(MD:tR g op W)(ho:be g F k o Wo)(he:be g F k e We)(hn:n=n')(HC:sU g.K C)(q:NameK g.K C n'):iW g F k (.AugAssign (.Attribute o n p) op e pos) (λσ Q=>Wo σ λa G=>AF C n' a G λz E=>We E λv H=>W z v H λr h=>GH C n' a r h λ_ nh=>Q .next nh):=by subst hn;intro d A af hr s wd σ Q Z R J;refine wpAny_AugAssign_AttributeAny (bb.go (ho d A af hr) Z R J λu s' D a G h1 h2 h3 h4=>?_);refine bb.go (EM HC q h3) (.refl _) h2 h4 λz mM P Q6 E x1 x2 x3 x4=>?_;refine bb.go (he d A af hr) ((Z.trans h1).trans x1) x2 x4 λr c X f H y1 O y3 y4=>?_;refine bb.go (MD F d A X Q6 f z r (VR.mono y1 x3) y3) (.refl _) O y4 λadv CL vh r' h L z2 z3 z4=>?_;refine bb.go (EO HC q (VR.mono ((x1.trans y1).trans L) h3) z3) (.refl _) z2 z4 λ_ GI q6 _ nh t1 t2 _ t4=>?_;exact az q6 .next nh ((((h1.trans x1).trans y1).trans L).trans t1) t2 rfl t4
end
theorem mN{n:Str}{cs:List (Str×α)}(hn:(cs.map (·.1)).Nodup)(hm:(n,c)∈cs):cs.lookup n=some c:=by
 induction cs with
 |nil=>exact nomatch hm
 |cons p r T=>
  rw[cy,l_] at hn;rw[List.lookup_cons];refine(List.mem_cons.mp hm).elim (λe=>?_) λe=>?_
  ·rw[<-e,beq_self_eq_true]
  ·rw[beq_eq_false_iff_ne.mpr λq:n=p.1=>hn.1 (by rw[<-q];exact sJ e)];exact T hn.2 e
theorem q7{a:α}{b:β}(h1:l[i]?=some a)(h2:m[i]?=some b):(a,b)∈l.zip m:=by
 induction l generalizing m i with
 |nil=>exact nS h1
 |cons x l T=>
  cases m with
  |nil=>exact nS h2
  |cons y m=>
   cases i with
   |zero=>rw[<-aq h1,<-aq h2];exact List.mem_cons_self
   |succ i=>exact List.mem_cons_of_mem _ (T h1 h2)
theorem nU(l:List α)(m:List β):((l.zip m).map (·.1)).Sublist l:=by
 induction l generalizing m with
 |nil=>exact .slnil
 |cons a l T=>
  cases m with
  |nil=>exact List.nil_sublist _
  |cons b m=>exact .cons_cons a (T m)
theorem qj{names:List Str}{m:Nat}(hn:names.Nodup)(h1:names[i]?=some x)(h2:us[i]?=some u)(hm:i<m):((names.take m).zip us).reverse.lookup x=some u:=by
 refine mN ?_ ?_
 ·rw[gU];exact List.pairwise_reverse.mpr ((((nU _ _).nodup ((List.take_sublist _ _).nodup hn))).imp λh=>bM h)
 ·rw[kc];exact q7 (by rw[List.getElem?_take_of_lt hm];exact h1) h2
theorem cK.deeper{bc:Env}(h:cK A (k+1)):cK (A.deeper bc) k:=by
 refine⟨?_,?_,h.handled⟩
 ·have:=h.depth;show A.depth+1+2*k<_;exact aQ [_,_,_] (.c 1 (.a (.a (.v 0) (.m 2 (.a (.v 1) (.n 1)))) (.n 1)) (.v 2) .nil) 0 (.a (.a (.a (.v 0) (.n 1)) (.m 2 (.v 1))) (.n 1)) (.v 2) tt this
 ·have:=h.units;show A.units+3+16*k+80<_;exact aQ [_,_,_] (.c 1 (.a (.a (.a (.v 0) (.m 16 (.a (.v 1) (.n 1)))) (.n 80)) (.n 1)) (.v 2) .nil) 0 (.a (.a (.a (.a (.v 0) (.n 3)) (.m 16 (.v 1))) (.n 80)) (.n 1)) (.v 2) tt this
theorem cK.yn(h:cK A k):A.depth<recursionLimit:=by have:=h.depth;exact aQ [_,_,_] (.c 1 (.a (.a (.v 0) (.m 2 (.v 1))) (.n 1)) (.v 2) .nil) 0 (.a (.v 0) (.n 1)) (.v 2) tt this
theorem cK.Q7(h:cK A k):A.units<cLine:=by have:=h.units;exact aQ [_,_,_] (.c 1 (.a (.a (.a (.v 0) (.m 16 (.v 1))) (.n 80)) (.n 1)) (.v 2) .nil) 0 (.a (.v 0) (.n 1)) (.v 2) tt this
def cz(g:G)(k:Nat)(f:Value)(W:List V->ad V):Prop:=∀(F:df)(d:hJ)(A:Around)(af:Wd)(vs:List V)(us:List Value),cK A k->aE (VR af) vs us->bb g F d A af qg (call f us []) (W vs)
def I2(g:G)(F:df)(d:hJ)(wd:Wd)(Q:V->St->Prop):Result->Shared->Prop:=λr s'=>match r with| .ok (.ret v)=>iB g F d qg wd Q v s'| .ok _=>False| .error _=>False
def cO(g:G)(k:Nat)(f:Value)(W:List V->ad V):Prop:=∀(F:df)(d:hJ)(A:Around)(af:Wd)(vs:List V)(us:List Value),cK A k->aE (VR af) vs us->∀(s:Shared)(wd:Wd)(σ:St)(Q:V->St->Prop),Wd.Le af wd->bU g F d wd σ s->W vs σ Q->
  codeAny (model g.prog g.w) A (.call f ⟨us,[]⟩) (I2 g F d wd Q) s
theorem cO.ok{g:G}{W:List V->ad V}(h:cO g k f W):cz g k f W:=λF d A af vs us hr D s wd σ Q Z R J=>fi (h F d A af vs us hr D s wd σ Q Z R J)
noncomputable def nV:Fl->V
 | .ret v=>v
 |_=>.none
noncomputable def iD(m:Nat)(vs:List V):List (Option V):=vs.map some++List.replicate m none
theorem sV{w:Wd}{m:Nat}{vs:List V}{v:V}(D:aE (VR w) vs us)(e:(iD m vs)[i]?=some (some v)):i<vs.length/\∃u,us[i]?=some u/\VR w v u:=by
 unfold iD at e;have hi:=Nat.lt_of_not_le λk=>by rw[sq (by rw[ax];exact k)] at e;exact nomatch (List.mem_replicate.mp (eg e)).2
 rw[sr (by rw[ax];exact hi),bi] at e;exact⟨hi,bx (Option.map_eq_some_iff.mp e) λf Uu e3=>D.get (aq e3▸Uu)⟩
theorem AH{L:Addr}{m:Str->Option Value}(hn:h.Ns L m)(ho:h.get? L=some o):¬ Perm o:=λp=>
 jf hn λo' es ep h1 h2 _=>by
 have e:=aq (ho.symm.trans h1);refine p.elim (λp=>yc p λzs n p=>?_) λp=>xE p λq p=>dB p λvs t e1 e2=>?_
 ·rw[<-e,p] at h2;exact nomatch h2
 ·rw[<-e,e1] at h2;exact nomatch h2
section
variable {g:G}{F:df}
theorem bU.enter{F':df}{d c:hJ}{wd:Wd}{σ:St}(R:bU g F d wd σ s)(ho:s.heap.get? d.L=some o){iC:Heap}{tk:Nat}{f:Str->Option Value}{loc:List (Option V)}(S:c.L=s.heap.objs.size) (y:iC.Ns c.L f) (hk:∀b ob,s.heap.get? b=some ob->iC.get? b=some ob) (hm:Ay F' (wd.jr d.L o) loc f):bU g F' c (wd.jr d.L o) {loc:=loc,iA:=[],mem:=σ.mem} {s with heap:=iC,toks:=tk}:=by
 have lI:s.heap.get? c.L=none:=by rw[S];exact c6 _
 have M:=(R.mem.jr ho R.qf R.kZ);refine⟨M.keeps hk,⟨f,y,hm⟩,λi x l _ e=>by simp at e,?_,λl Z e=>?_,R.gens,R.os⟩
 ·cases q:(wd.jr d.L o).fz c.L with
  |none=>rfl
  |some ob=>have:=M.sQ _ _ q;rw[lI] at this;exact nS this
 ·obtain⟨ob,h1,_⟩:=M.own l (σ.mem[l]'(by rw[<-M.len];exact Z)) (bC _);have h1:=h1;have e:=e;rw[e,lI] at h1;exact nS h1
theorem bU.leave{F':df}{d c:hJ}{wd bg:Wd}{σ a9:St}(R:bU g F d wd σ s)(ho:s.heap.get? d.L=some o)(R':bU g F' c bg a9 s')(Z:Wd.Le (wd.jr d.L o) bg):bU g F d (bg.jV d.L) {σ with mem:=a9.mem} s':=by
 refine bx (R.loc) λm hn hm=>?_;have j:=Wd.QX Z;have lj:=R'.mem.sQ _ _ j;have gI:=Wd.pD R.qf Z;refine⟨R'.mem.jV (λo' e=>?_) ?_,⟨m,?_,hm.mono gI⟩,R.iA.mono gI,a6 rfl,λl dP e=>?_,R'.gens,R'.os⟩
 ·rw[j] at e;obtain rfl:=aq e;exact AH hn ho
 ·cases q:g.hb.get? d.L with
  |none=>rfl
  |some ob=>have:=R.mem.base _ _ q;rw[R.qf] at this;exact nS this
 ·refine nf hn λoo es ep h1 h2=>?_;try clear hn
  rw[ho] at h1;obtain rfl:=aq h1;exact⟨o,es,ep,lj,h2⟩
 ·have h1:=R'.mem.new l dP;have e:bg.ρ l=d.L:=e;rw[e,j] at h1;exact MB h1
theorem AJ{F':df}{Wb:ad Fl}(hb:k0 g F' k body Wb){f:Addr}{name:Str}{dV kV fx pm ct oc:Value}{an od:Option Addr}(ho:g.K.lookup f=some ⟨oc,od,.func (fnOf name qn params body F'.scope dV kV fx pm an F'.cd ct),Aw⟩) (Q8:codeIn g.K F'.cd qn=true) (Y:F'.qual=qn++".<locals>.")(nD:F'.names.Nodup) (yo:∀x∈F'.names,F'.scope.names.lookup x=some .local) (q8:∀x∈F'.scope.names,x.2≠ .cell)(E:F'.scope.isCoroutine=false) (H:F'.scope.isGenerator=false) (hk:F'.scope.kind= .function){d:hJ} {vs:List V} {args:Args} {wd:Wd} {σ:St} {Q:V->St->Prop} {m:Nat} (hr:cK A (k+1)) (D:aE (VR wd) vs us) (hm:vs.length<=m)(Q9:BindsTo s (fnOf name qn params body F'.scope dV kV fx pm an F'.cd ct) args ((F'.names.take m).zip us)) (R:bU g F d wd σ s)(J:Wb ⟨iD F'.names.length vs,[],σ.mem⟩ λfl a9=>Q (nV fl) {σ with mem:=a9.mem}):codeAny (model g.prog g.w) A (.call (.ref f) args) (I2 g F d wd Q) s:=by
 refine xE (R.there) λU W=>?_;refine(codeAny_call_def hr.yn ((g.X.keeps R.hb) _ _ ho) rfl (g.T.nolimit.keeps R.hb) (codeRec_of (g.X.keeps R.hb) Q8) rfl Q9 q8
  (λx B=>yo _ (oW (List.of_mem_zip B).1)) (λiC y vi=>?_) E H hk)
 have R1:bU g F' ⟨s.heap.objs.size,some f,some s.heap.objs.size,[]⟩ (wd.jr d.L U) ⟨iD F'.names.length vs,[],σ.mem⟩ {s with heap:=iC,toks:=s.toks+((F'.names.take m).zip us).length}:=by refine R.enter W rfl y vi λi x v e1 e2=>?_;exact jB (sV (D.mono λ_ _ h=>VR.jr h) e2) λhi u N M4=>⟨u,qj nD e1 N (dA hi hm),M4⟩
 have ee:callEnv (fnOf name qn params body F'.scope dV kV fx pm an F'.cd ct) s.heap.objs.size f=aK F' ⟨s.heap.objs.size,some f,some s.heap.objs.size,[]⟩:=by unfold aK;rw[Y];rfl
 rw[ee];refine bb.go (hb ⟨s.heap.objs.size,some f,some s.heap.objs.size,[]⟩ _ (wd.jr d.L U) hr.deeper) (.refl _) R1 J λfl s' bg M5 a9 x1 x2 x3 x4=>?_;refine az (bg.jV d.L) (nV M5) _ (Wd.pD R.qf x1) (R.leave W x2 x1) ?_ x4;cases M5 with
 |ret v=>exact bx x3 λu e hv=>by rw[e];exact VR.jV hv
 |next=>rw[x3];rfl
 |brk=>rw[x3];rfl
 |cont=>rw[x3];rfl
theorem M6{F':df}{Wb:ad Fl}(hb:k0 g F' k body Wb){f:Addr}{name:Str}{dV kV fx pm ct oc:Value}{an od:Option Addr}(ho:g.K.lookup f=some ⟨oc,od,.func (fnOf name qn params body F'.scope dV kV fx pm an F'.cd ct),Aw⟩) (Q8:codeIn g.K F'.cd qn=true) (Y:F'.qual=qn++".<locals>.") (n:Nat) (dflt:List V)(m:∀(s:Shared)(us:List Value),g.K.In s.heap->us.length=n->∃ds,(∀wd,aE (VR wd) dflt ds)/\BindsTo s (fnOf name qn params body F'.scope dV kV fx pm an F'.cd ct) ⟨us,[]⟩ ((F'.names.take (n+dflt.length)).zip (us++ds)))(nD:F'.names.Nodup) (yo:∀x∈F'.names,F'.scope.names.lookup x=some .local) (q8:∀x∈F'.scope.names,x.2≠ .cell)(E:F'.scope.isCoroutine=false) (H:F'.scope.isGenerator=false) (hk:F'.scope.kind= .function):cO g (k+1) (.ref f) (λvs σ Q=>gd (Nat.beq vs.length n) (Wb ⟨iD F'.names.length (vs++dflt),[],σ.mem⟩ λfl a9=>Q (nV fl) {σ with mem:=a9.mem})):=by intro F d A af vs us hr D s wd σ Q Z R J;refine xA (aL J) λh1 J=>?_;have hn:=bK h1;have cn:=D.len;refine bx (m s us (g.X.keeps R.hb) (fC [_,_,_] (.e 1 (.v 0) (.v 1) (.f 1 (.v 0) (.v 2) .nil)) 0 (.v 2) (.v 1) tt tt hn cn)) λds G Q9=>?_;exact AJ hb ho Q8 Y nD yo q8 E H hk hr ((D.mono λ_ _ h=>VR.mono Z h).append (G wd)) (by rw[ak,hn];exact aF _) Q9 R J
theorem jX{args:List (Bool×Sem Value)}{Q:Args->Shared->Prop}(h:args.any (·.1)=false)(x:wpAny M A (spliced args) (λvs s'=>Q ⟨vs,[]⟩ s') E s):wpAny M A (evalArgs f true args []) Q E s:=by
 cases args with
 |nil=>unfold evalArgs;refine(?_ :wpAny M A (spliced []>>=_) Q E s);refine U (a_ x (λvs s' h'=>?_) λ_ _ x=>x);refine bq ?_;exact U (aj (U (aj (aj h'))))
 |cons p aD=>obtain⟨b,t⟩:=p;rw[kn,Bool.or_eq_false_iff] at h;obtain rfl:b=false:=h.1;exact evalArgs_plain x
def jK(M:Model)(h:Heap)(f:Value):Prop:=∃k,(k=Keeper.frame\/k=Keeper.machine\/k=Keeper.boundFrame)/\Looks M h (keeperOf f) k
theorem fX{T:String}:jK M h (.type T):=⟨.machine,.inr (.inl rfl),Looks.of_pure rfl⟩
theorem aX{i:String}:jK M h (.builtin i):=⟨.machine,.inr (.inl rfl),Looks.of_pure rfl⟩
theorem I3(hk:keepIn g.K f=true)(X:g.K.In h):jK M h f:=keeps_K hk h X
theorem jY{wa:ad (List V)}(ha:sR g F k args wa)(i:∀bc pos,((backTo pos (starEach args bc)).any (·.1))=false){d:hJ}{af:Wd}{first:List Value}{W:List V->ad V} (hr:cK A k)(N:∀wd σ s vs (Q:V->St->Prop),Wd.Le af wd->bU g F d wd σ s->W vs σ Q->jK (model g.prog g.w) s.heap f)(hc:∀wd vs us,Wd.Le af wd->aE (VR wd) vs us->bb g F d A wd qg (call f (first++us) []) (W vs)):bb g F d A af qg (callWith pos f first (backTo pos (starEach args (aK F d))) []) (λσ Q=>wa σ λvs a9=>W vs a9 Q):=by intro s wd σ Q Z R J;refine mh (by rw[i];rfl) (λh x=>x) (jX (i _ _) ?_);refine bb.go (ha d A af pos hr) Z R J λus s' bg vs a9 h1 h2 h3 h4=>?_;refine⟨N bg a9 s' vs Q (Z.trans h1) h2 h4,?_⟩;refine bb.go (hc bg vs us (Z.trans h1) h3) (.refl _) h2 h4 λr w_ o r' m y1 O y3 y4=>?_;exact az o r' m (h1.trans y1) O y3 y4
theorem Va{p:Pos}{wa:ad (List V)}{W:List V->ad V}(S:be g F k (.Name x p) (eK (.fb f)))(ha:sR g F k args wa)(N:∀M h,g.K.In h->jK M h f) (hc:cz g k f W) (i:∀bc pos,((backTo pos (starEach args bc)).any (·.1))=false):be g F k (.Call (.Name x p) args [] pos) (λσ Q=>wa σ λvs a9=>W vs a9 Q):=by
 intro d A af hr;refine(?_ :bb g F d A af qg (do callWith pos (<-eval (.Name x p) (aK F d)) [] (backTo pos (starEach args (aK F d))) []) _);refine bb.conv (W:=λσ Q=>eK (.fb f) σ λt G=>wa G λvs a9=>W vs a9 Q) ?_ (λσ Q h=>h)
 refine bb.bind (RA:=λ_ _ u=>u=f) ?_ λwd u a Z D=>?_
 ·intro s wd σ Q Z R J;refine a_ (S d A af hr s wd σ (λb a9=>b= .fb f/\Q b a9) Z R ⟨rfl,J⟩) (λu s' y=>?_) λ_ _ y=>y;refine gY y λbg b a9 y1 O y3 P y4=>?_;try clear y
  obtain rfl:=P;exact az bg _ a9 y1 O y3 y4
 ·subst D;refine jY ha i hr (λbg σ s vs Q _ R _=>N _ _ (g.X.keeps R.hb)) λbg vs us j Zv=>?_;exact hc F d A bg vs us hr Zv
set_option genCtorIdx true in
inductive Ty where
 |str|list|dict|set|tup
noncomputable def Ty.name:Ty->String
 | .str=>"str"
 | .list=>"list"
 | .dict=>"dict"
 | .set=>"set"
 | .tup=>"tuple"
noncomputable def tyS(mem:List O)(v:V)(T:Ty):Bool:=match T with
 | .str=>v.sv.isSome
 | .list=>(v.lo.bind λl=>(mem[l]?).bind O.ls).isSome
 | .dict=>(v.lo.bind λl=>(mem[l]?).bind O.di).isSome
 | .set=>(v.lo.bind λl=>(mem[l]?).bind O.se).isSome
 | .tup=>(v.lo.bind λl=>(mem[l]?).bind O.tu).isSome
noncomputable def xb(mem:List O)(a:V)(T:Ty):Bool:=tyS mem a T
theorem M7{d:hJ}{wd:Wd}{σ:St}(R:bU g F d wd σ s){a:V}(ha:VR wd a u){T:Ty}(h:xb σ.mem a T=true):s.TypeIs u T.name/\∀x,u= .ref x->∃o,s.heap.get? x=some o/\o.dict=none:=by
 have at_:∀{α:Type}{f:O->Option α}{T:String},(∀{o x ob},f o=some x->OR g wd o ob->ob.cls= .type T/\ob.dict=none)->(a.lo.bind λl=>(σ.mem[l]?).bind f).isSome=true->
  s.TypeIs u T/\∀x,u= .ref x->∃o,s.heap.get? x=some o/\o.dict=none:=λS h=>
  qU h λx e=>aI e λl e e'=>aI e' λo e1 e2=>jB (R.get e1) λ_ ob ho i=>by rw[V.lH e] at ha;rw[ha.2];exact⟨⟨ob,ho,(S e2 i).1⟩,λx e=>⟨ob,jc e▸ho,(S e2 i).2⟩⟩
 cases T with
 |str=>exact qU h λy e=>by rw[V.qe e] at ha;exact xE ha λt ha=>by rw[ha];exact⟨typeIs_str s y t,λ_ e=>nomatch e⟩
 |list=>exact at_ (λe h=>by rw[O.va e] at h;exact dB h λ_ _ h _=>by rw[h];exact⟨rfl,rfl⟩) h
 |dict=>exact at_ (λe h=>by rw[O.CD e] at h;exact dB h λ_ _ h _=>by rw[h];exact⟨rfl,rfl⟩) h
 |set=>exact at_ (λe h=>by rw[O.CA e] at h;exact h.2) h
 |tup=>exact at_ (λe h=>by rw[O.CC e] at h;exact dB h λ_ _ h _=>by rw[h];exact⟨rfl,rfl⟩) h
def fR(o:PySem.Expr)(n:Str)(ap:Pos)(args:List PySem.Expr)(pos:Pos):Prop:=∀bc,∃pl,eval (.Call (.Attribute o n ap) args [] pos) bc=(do
  let b <-eval o bc
  standAt ap.atName
  let (f,first) <-holding [b] (getMethod b n pl)
  callWith pos f first (backTo pos (starEach args bc)) [])
theorem Q_{o:PySem.Expr}{n:Str}{ap:Pos}{Wo:ad V}{wa:ad (List V)}{W:List V->ad V}(T:Ty){id:String}(ho:be g F k o Wo)(ha:sR g F k args wa)(f:PlainAttrs T.name) (nW:Slot T.name n id) (Zw:typeOf (.builtin id)=Pure.pure (.type "method_descriptor")) (hc:cz g k (.builtin id) W)(l:fR o n ap args pos) (i:∀bc pos,((backTo pos (starEach args bc)).any (·.1))=false):be g F k (.Call (.Attribute o n ap) args [] pos) (λσ Q=>Wo σ λb G=>gd (xb G.mem b T) (wa G λvs E=>W (b::vs) E Q)):=by intro d A af hr;refine xE (l (aK F d)) λpl he=>?_;rw[he];refine bb.bind (ho d A af hr) λwd u b Z D=>bb.standAt ?_;intro s bg σ Q j R J;refine xA (aL J) λZx J=>?_;refine xA (M7 R (VR.mono j D) Zx) λt1 t2=>?_;refine U (bq (getMethod_builtin t1 f nW Zw t2 ?_));refine jY ha i hr (λ_ _ _ _ _ _ _ _=>aX) (λP vs us q I4=>?_) s bg σ Q j R J;exact hc F d A P (b::vs) (u::us) hr (.cons (VR.mono q D) I4)
theorem Ra{o:PySem.Expr}{n:Str}{ap:Pos}{Wo:ad V}{wa:ad (List V)}{W:List V->ad V}(C:Addr){f:Addr}(ho:be g F k o Wo)(ha:sR g F k args wa)(hn:n=n')(HC:sU g.K C) (S:findIn g.K (.ref C) n'=some (some (.ref f))) (Vb:typeIn g.K (.ref f)=some (.type "function")) (Vc:keepIn g.K (.ref f)=true) (hc:cz g k (.ref f) W)(l:fR o n ap args pos) (i:∀bc pos,((backTo pos (starEach args bc)).any (·.1))=false):be g F k (.Call (.Attribute o n ap) args [] pos) (λσ Q=>Wo σ λb G=>aA (d5 C G.mem b) λp=>gd (eO n' p.2).isNone (wa G λvs E=>W (b::vs) E Q)):=by subst hn;intro d A af hr;refine xE (l (aK F d)) λpl he=>?_;rw[he];refine bb.bind (ho d A af hr) λwd u b Z D=>bb.standAt ?_;intro s bg σ Q j R J;refine ah J λp h1 J=>xA (aL J) λh2 J=>f_ (nR R (VR.mono j D) h1) λx ds m qi I H _=>?_;rw[qi] at D ⊢;have nX:=(uK H).2 (by simpa using h2);refine U (bq (method_fn (g.X.keeps R.hb) I HC.ga HC.gt S Vb (by show(lookIn n (dictOf ds m)).map _=_;rw[lookIn_dict,nX];rfl) ?_));refine jY ha i hr (λ_ _ s _ _ _ R _=>I3 Vc (g.X.keeps R.hb)) (λP vs us q I4=>?_) s bg σ Q j R J;exact hc F d A P (b::vs) (.ref x::us) hr (.cons (VR.mono q D) I4)
end
noncomputable def Wd.jD(wd:Wd)(d8:List Addr)(h:Heap):Wd:=⟨wd.ρ,wd.n,λx=>if x∈d8 then h.get? x else wd.fz x⟩
noncomputable def Wd.d6(wd:Wd)(d8:List Addr):Wd:=⟨wd.ρ,wd.n,λx=>if x∈d8 then none else wd.fz x⟩
structure jE(g:G)(d:hJ)(wd:Wd)(d8:List Addr):Prop where
 fz:∀x∈d8,wd.fz x=none
 own:∀x∈d8,∀l,l<wd.n->wd.ρ l≠x
 L:d.L∉d8
 hb:∀x∈d8,g.hb.get? x=none
section
variable {g:G}{F:df}{d:hJ}{wd bg:Wd}{σ a9:St}
theorem jE.le(H:jE g d wd d8)(h:Heap):Wd.Le wd (wd.jD d8 h):=⟨aF _,λ_ _=>rfl,λx o e=>by
  have ne:x∉d8:=λq=>by rw[H.fz x q] at e;exact nS e
  refine(?_ :(if x∈d8 then h.get? x else wd.fz x)=some o);rw[aH ne];exact e⟩
theorem jE.le'(H:jE g d wd d8)(Z:Wd.Le (wd.jD d8 h) bg):Wd.Le wd (bg.d6 d8):=⟨Z.n,Z.ρ,λx o e=>by
  have ne:x∉d8:=λq=>by rw[H.fz x q] at e;exact nS e
  refine(?_ :(if x∈d8 then none else bg.fz x)=some o);rw[aH ne];exact Z.fz x o (by show(if x∈d8 then h.get? x else wd.fz x)=some o;rw[aH ne];exact e)⟩
theorem jE.at(H:jE g d wd d8)(Z:Wd.Le (wd.jD d8 h) bg){x:Addr}(B:x∈d8)(ho:h.get? x=some o):bg.fz x=some o:=Z.fz x o (by show(if x∈d8 then h.get? x else wd.fz x)=some o;rw[a6 B];exact ho)
theorem VR.jD{v:V}(x:VR wd v u):VR (wd.jD d8 h) v u:=x.map (aF _) λ_ _=>rfl
theorem VR.d6{v:V}(x:VR wd v u):VR (wd.d6 d8) v u:=x.map (aF _) λ_ _=>rfl
theorem OR.d6(ha:∀x∈d8,∀o,wd.fz x=some o->¬ Perm o){v:O}(x:OR g wd v o):OR g (wd.d6 d8) v o:=OR.map (a:=wd) (b:=wd.d6 d8) (aF _) (λ_ _=>rfl) (x:=x) λc o h p=>by refine(?_ :(if c∈d8 then none else wd.fz c)=_);rw[aH λq=>ha c q _ h p];exact h
theorem bU.other(R:bU g F d wd σ s)(H:jE g d wd d8)(k:∀b o,b∉d8->s.heap.get? b=some o->s'.heap.get? b=some o)(h1:s'.gens=s.gens:=by rfl)(h2:s'.os=s.os:=by rfl):bU g F d wd σ s':=by
 refine bx (R.loc) λm hn hm=>?_;refine⟨⟨R.mem.len,λa o e=>k a o (λq=>?_) (R.mem.sQ a o e),R.mem.base,λl o e=>?_,R.mem.low,R.mem.inj,R.mem.new,R.mem.tabs⟩,⟨m,?_,hm⟩,R.iA,R.qf,R.kZ,h1.trans R.gens,h2.trans R.os⟩
 ·rw[H.fz a q] at e;exact nS e
 ·refine jB (R.get e) λZ ob x1 x2=>?_;exact⟨ob,k _ _ (λq=>H.own _ q l Z rfl) x1,x2⟩
 ·refine nf hn λo es ep x1 x2=>?_;try clear hn
  exact⟨o,es,ep,k _ _ H.L x1,x2⟩
theorem bU.jD(R:bU g F d wd σ s)(H:jE g d wd d8)(B:∀x∈d8,∃o,s.heap.get? x=some o):bU g F d (wd.jD d8 s.heap) σ s:=by
 have Z:=H.le s.heap;refine bx (R.loc) λm hn hm=>?_;refine⟨⟨R.mem.len,λa o e=>?_,λb ob e=>Z.fz b ob (R.mem.base b ob e),λl o e=>bx (R.mem.own l o e) λob h1 h2=>⟨ob,h1,h2.mono Z⟩,R.mem.low,R.mem.inj,λl dP=>?_,R.mem.tabs.mono Z⟩,⟨m,hn,hm.mono Z⟩,R.iA.mono Z,?_,R.kZ,R.gens,R.os⟩
 ·by_cases q:a∈d8
  ·have:(wd.jD d8 s.heap).fz a=s.heap.get? a:=a6 q;rw[this] at e;exact e
  ·have:(wd.jD d8 s.heap).fz a=wd.fz a:=aH q;rw[this] at e;exact R.mem.sQ a o e
 ·refine(?_ :(if wd.ρ l∈d8 then s.heap.get? (wd.ρ l) else wd.fz (wd.ρ l))=none);rw[aH (λq=>H.own _ q l dP rfl)];exact R.mem.new l dP
 ·refine(?_ :(if d.L∈d8 then s.heap.get? d.L else wd.fz d.L)=none);rw[aH H.L];exact R.qf
theorem bU.d6(R:bU g F d wd σ s)(H:jE g d wd d8)(B:∀x∈d8,∃o,s.heap.get? x=some o/\¬ Perm o)(R':bU g F d bg a9 s')(Z:Wd.Le (wd.jD d8 s.heap) bg):bU g F d (bg.d6 d8) a9 s'/\jE g d (bg.d6 d8) d8/\∀x∈d8,∀o,s.heap.get? x=some o->s'.heap.get? x=some o:=by
 have j:∀x∈d8,∀o,s.heap.get? x=some o->bg.fz x=some o:=λx q o ho=>H.at Z q ho;have sub:∀x o,(bg.d6 d8).fz x=some o->bg.fz x=some o:=λx o e=>by
  by_cases q:x∈d8
  ·have:(bg.d6 d8).fz x=none:=a6 q;rw[this] at e;exact nS e
  ·have:(bg.d6 d8).fz x=bg.fz x:=aH q;rw[this] at e;exact e
 have Pu:∀x∈d8,∀l,l<bg.n->bg.ρ l≠x:=λx q l dP e=>by refine bx (B x q) λo ho _=>?_;have h1:=R'.mem.new l dP;rw[e,j x q o ho] at h1;exact MB h1
 have Zy:∀x∈d8,∀o,bg.fz x=some o->¬ Perm o:=λx q o e=>bx (B x q) λo' lj k=>aq ((j x q o' lj).symm.trans e)▸k;have le':Wd.Le (bg.d6 d8) bg:=⟨aF _,λ_ _=>rfl,sub⟩;refine bx (R'.loc) λm hn hm=>?_;refine⟨⟨⟨R'.mem.len,λa o e=>R'.mem.sQ a o (sub a o e),λb ob e=>?_,λl o e=>bx (R'.mem.own l o e) λob h1 h2=>⟨ob,h1,OR.d6 Zy h2⟩,R'.mem.low,R'.mem.inj,λl dP=>?_,λi P e=>R'.mem.tabs i P e⟩,
  ⟨m,hn,λi x v e1 e2=>bx (hm i x v e1 e2) λu h1 h2=>⟨u,h1,VR.d6 h2⟩⟩,R'.iA,?_,R'.kZ,R'.gens,R'.os⟩,⟨λx q=>a6 q,Pu,H.L,H.hb⟩,λx q o ho=>R'.mem.sQ x o (j x q o ho)⟩
 ·have ne:b∉d8:=λq=>by rw[H.hb b q] at e;exact nS e
  have:(bg.d6 d8).fz b=bg.fz b:=aH ne;rw[this];exact R'.mem.base b ob e
 ·refine(?_ :(if bg.ρ l∈d8 then none else bg.fz (bg.ρ l))=none);rw[aH (λq=>Pu _ q l dP rfl)];exact R'.mem.new l dP
 ·refine(?_ :(if d.L∈d8 then none else bg.fz d.L)=none);rw[aH H.L];exact R'.qf
theorem jE.fresh(R:bU g F d wd σ s)(S:∀x∈d8,s.heap.get? x=none):jE g d wd d8:=by
 refine⟨λx q=>?_,λx q l Z e=>?_,λq=>?_,λx q=>?_⟩
 ·cases h:wd.fz x with
  |none=>rfl
  |some o=>have:=R.mem.sQ x o h;rw[S x q] at this;exact nS this
 ·obtain⟨ob,h1,_⟩:=R.mem.own l (σ.mem[l]'(by rw[<-R.mem.len];exact Z)) (bC _);rw[e,S x q] at h1;exact nS h1
 ·refine xE (R.there) λo ho=>?_;rw[S _ q] at ho;exact nS ho
 ·cases h:g.hb.get? x with
  |none=>rfl
  |some o=>have:=R.hb x o h;rw[S x q] at this;exact nS this
end
section
variable {g:G}{F:df}
def q9(g:G)(F:df)(k:Nat)(t:PySem.Expr)(W:V->ad Unit):Prop:=∀d A af v u,cK A k->VR af v u->bb g F d A af um (assign t (aK F d) u) (W v)
theorem CM(i:Nat){p:Pos}(B:F.names[i]?=some x)(nD:F.names.Nodup)(hk:F.scope.kind= .function)(Z:∀d,(aK F d).kindOf x=some .local):q9 g F k (.Name x p) (λv σ Q=>Q () (σ.nE i v)):=by intro d A af v u hr hv s wd σ Q j R J;exact wpAny_assign_Name (kG hv B nD hk (Z d) s wd σ Q j R J)
structure GK(g:G)(A:Around)(it:Addr)(d8:List Addr){β:Type}(RI:Wd->β->Value->Prop)(S:Wd->Nat->Heap->Prop)(cL:Mine.St->Nat->Option (Option β)):Prop where
 step:∀(F:df)(d:hJ)(wd:Wd)(σ:Mine.St)(i:Nat)(s:Shared)(v:β)(Q:Option Value->Shared->Prop)(E:Value->Shared->Prop),bU g F d wd σ s->jE g d wd d8->S wd i s.heap->cL σ i=some (some v)->
  (∀u s' bg,RI bg v u->Wd.Le wd bg->bU g F d bg σ s'->jE g d bg d8->S bg (i+1) s'.heap->Q (some u) s')->wpAny (model g.prog g.w) A (pyNext (.ref it)) Q E s
 stop:∀(F:df)(d:hJ)(wd:Wd)(σ:Mine.St)(i:Nat)(s:Shared)(Q:Option Value->Shared->Prop)(E:Value->Shared->Prop),bU g F d wd σ s->jE g d wd d8->S wd i s.heap->cL σ i=some none->
  (∀s',bU g F d wd σ s'->Q none s')->wpAny (model g.prog g.w) A (pyNext (.ref it)) Q E s
 stay:∀wd bg i h h',S wd i h->Wd.Le wd bg->(∀x∈d8,∀o,h.get? x=some o->h'.get? x=some o)->S bg i h'
 live:∀wd i h,S wd i h->∀x∈d8,∃o,h.get? x=some o/\¬ Perm o
 owned:∀(F:df)(d:hJ)(wd:Wd)(σ:Mine.St)(i:Nat)(s:Shared)(target:PySem.Expr)(u:Value)(Q:Unit->Shared->Prop)(E:Value->Shared->Prop),bU g F d wd σ s->jE g d wd d8->S wd i s.heap->
  (∀s',bU g F d wd σ s'->S wd i s'.heap->Q () s')->wpAny (model g.prog g.w) A (letOwnedTupleGo target (.ref it) u) Q E s
def tS(W:ad β)(Q:β->St->Prop)(_:α)(σ:St):Prop:=W σ Q
noncomputable def gu(cL:St->Nat->Option (Option β))(As:β->ad Unit)(Wb:ad Fl):Nat->Nat->St->(Fl->St->Prop)->Prop
 |0,_,_,_=>False
 |n+1,i,σ,Q=>aA (cL σ i) λo=>match o with
  |none=>Q .next σ
  |some b=>As b σ (tS Wb (QY (λE=>gu cL As Wb n (i+1) E Q) Q))
def M8(g:G)(F:df)(d:hJ)(S:Wd->Nat->Heap->Prop)(d8:List Addr)(cL:St->Nat->Option (Option β))(As:β->ad Unit)(Wb:ad Fl)(wd:Wd)(Q:Fl->St->Prop)(n:Nat)(s:Shared):Prop:=∃bg σ i,Wd.Le wd bg/\bU g F d bg σ s/\jE g d bg d8/\S bg i s.heap/\gu cL As Wb n i σ Q
theorem tT{it:Addr}{RI:Wd->β->Value->Prop}{S:Wd->Nat->Heap->Prop}{cL:St->Nat->Option (Option β)}(I:GK g A it d8 RI S cL)(Vd:∀wd bg b u,Wd.Le wd bg->RI wd b u->RI bg b u){d:hJ} {af:Wd} {As:β->ad Unit} {Wb:ad Fl} (hr:cK A k)(ha:∀af b u,RI af b u->bb g F d A af um (assign target (aK F d) u) (As b)) (hb:k0 g F k body Wb) {wd:Wd} {σ:St} {Q:Fl->St->Prop} (gI:Wd.Le af wd) (R:bU g F d wd σ s) (H:jE g d wd d8) {CN:Nat} (G:S wd CN s.heap)(J:∃n,gu cL As Wb n CN σ Q):wpAny (model g.prog g.w) A (runOwn (.forLoop target (.ref it) body [] (aK F d)) (aK F d)) (iB g F d Us wd Q) Ac s:=by
 refine xE J λn J=>?_;refine wpAny_runOwn ?_;refine(?_ :codeAny (model g.prog g.w) A _ _ s);refine fM (sH (R:=Yv g F d wd Q) (M8 g F d S d8 cL As Wb wd Q) ?_ n ⟨wd,σ,CN,.refl _,R,H,G,J⟩) λr s' x=>by cases r<;>first|exact x|exact x.elim
 intro n s hI;refine gY hI λD σ i h1 R H G J=>?_;cases n with
 |zero=>exact J.elim
 |succ n=>
  refine ah J λo ho J=>?_;cases o with
  |none=>exact I.stop F d D σ i s _ _ R H G ho λs' R'=>hX (az D .next σ h1 R' rfl J)
  |some b=>
   refine I.step F d D σ i s b _ _ R H G ho λu s' P N q R₂ H₂ a=>?_;refine I.owned F d P σ (i+1) s' target u _ _ R₂ H₂ a λc I5 vj=>?_;have nY:=I.live _ _ _ vj;have R₄:=I5.jD H₂ λx B=>bx (nY x B) λo ho _=>⟨o,ho⟩;refine bb.go (ha (P.jD d8 c.heap) b u (Vd _ _ _ _ (H₂.le c.heap) N)) (.refl _) R₄ J λ_ GI q6 _ nh x1 x2 _ x4=>?_;refine bb.go (hb d A (P.jD d8 c.heap) hr) x1 x2 x4 λf AL lq j t y1 O y3 y4=>?_;refine u6 (I5.d6 H₂ nY O (x1.trans y1)) λt1 t2 t3=>?_;have tU:=H₂.le' (x1.trans y1);have I6:=(h1.trans q).trans tU;have go:gu cL As Wb n (i+1) t Q->M8 g F d S d8 cL As Wb wd Q n AL:=λh=>⟨lq.d6 d8,t,i+1,I6,t1,t2,I.stay _ (lq.d6 d8) _ _ AL.heap vj tU t3,h⟩;cases j with
   |next=>rw[y3];exact⟨n,eA _,go y4⟩
   |cont=>rw[y3];exact⟨n,eA _,go y4⟩
   |brk=>rw[y3];exact az (lq.d6 d8) .next t I6 t1 rfl y4
   |ret v=>exact bx y3 λu' e hv=>e.symm▸az (lq.d6 d8) (.ret v) t I6 t1 ⟨u',rfl,VR.d6 hv⟩ y4
theorem fe{c:Bool}{a b:Sem α}{Q:α->Shared->Prop}(hc:c=false)(h:wpAny M A b Q E s):wpAny M A (if c=true then a else b) Q E s:=by subst hc;exact h
theorem qm{it:Addr}{Q:Unit->Shared->Prop}(ho:s.heap.get? it=some o){T:String}(hc:o.cls= .type T)(y:(["enumerate","zip","dict_itemiterator","dict_reverseitemiterator","odict_iterator","itertools.zip_longest","itertools.pairwise"]:List String).contains T=false) (h:Q () s):wpAny M A (letOwnedTupleGo target (.ref it) u) Q E s:=by
 have key:∀e n p,wpAny M A (letOwnedTupleGo (.Tuple e n p) (.ref it) u) Q E s:=λe n p=>by
  cases u with
  |ref a=>
   refine(?_ :wpAny M A (load it>>=_) Q E s);refine U (kr ho ?_);cases o with
   |mk cls dict data slots=>
    rw[show cls= .type T from hc];cases data with
    |fields vs=>exact fe (by rw[y];rfl) (aj h)
    |_=>exact aj h
  |_=>exact aj h
 cases target with
 |Tuple e n p=>exact key e n p
 |List e p=>exact key e 0 p
 |_=>exact aj h
noncomputable def tV(o:Option O):Option (List V):=o.bind O.ls
noncomputable def bj(l:Nat)(σ:St)(i:Nat):Option (Option V):=(tV σ.mem[l]?).bind λxs=>some xs[i]?
theorem mO{l:Nat}{σ:St}{o:Option V}(h:bj l σ i=some o)(k:∀xs,(σ.mem[l]?).bind O.ls=some xs->xs[i]?=o->P):P:=aI h λxs e h=>k xs e (aq h)
theorem AM{RI:Wd->β->Value->Prop}{cL:St->Nat->Option (Option β)}{it l:Nat}(hh:A.handled=none)(K:∀(F:df)(d:hJ)(wd:Wd)(σ:St)(s:Shared)(i:Nat)(o:Option β)(P:Prop),bU g F d wd σ s->cL σ i=some o->(∀xs I n,s.heap.get? (wd.ρ l)=some (aG "list" I n)->aE (RI wd) xs I->xs[i]?=o->P)->P):GK g A it [it] RI (λwd i h=>l<wd.n/\h.IsListIter it (wd.ρ l) i) cL where
 step F d wd σ i s v Q E R H G hi C:=K F d wd σ s i _ _ R hi λxs I n ho dL e2=>bx (dL.get e2) λy hy hv=>
  wpAny_pyNext_list_item G.2 (b9 ho) (by simpa using hy) λh' K M=>
   C y _ wd hv (.refl _) (R.other H λb o hb e=>(M.2 b (λq=>hb (by rw[q];exact .head _))).trans e) H ⟨G.1,K⟩
 stop F d wd σ i s Q E R H G hi C:=K F d wd σ s i _ _ R hi λxs I n ho dL e2=>
  wpAny_pyNext_list_end hh G.2 (b9 ho) (by rw[j5,kC,<-dL.len];exact List.getElem?_eq_none_iff.mp e2) λh' M=>
   C _ (R.other H λb o hb e=>M b o (λq=>hb (by rw[q];exact .head _)) e)
 stay wd bg i h h' G Z hk:=jB G λh1 o h2 h3=>⟨dA h1 Z.n,o,hk it (.head _) o h2,by rw[Z.ρ l h1];exact h3⟩
 live wd i h G x B:=by
  refine EI G λh1 o h2 h3 h4=>⟨o,List.mem_singleton.mp B▸h2,λp=>p.elim (λp=>yc p λzs n p=>?_) λp=>xE p λq p=>dB p λvs t e1 e2=>?_⟩
  ·rw[p] at h3;exact absurd (kj h3) (by decide)
  ·rw[<-o_ (h4.symm.trans e1)] at e2;exact nomatch e2
 owned F d wd σ i s target u Q E R H G C:=EI G λh1 o h2 h3 h4=>qm h2 h3 (by decide) (C s R ⟨h1,o,h2,h3,h4⟩)
theorem GL{it l:Nat}(hh:A.handled=none):GK g A it [it] VR (λwd i h=>l<wd.n/\h.IsListIter it (wd.ρ l) i) (bj l):=AM hh λF d wd σ s i o P R hi k=>mO hi λxs e1 e2=>R.lst e1 λI n _ ho dL=>k xs I n ho dL e2
theorem nZ:∀wd bg b u,Wd.Le wd bg->VR wd b u->VR bg b u:=λ_ _ _ _ h x=>VR.mono h x
noncomputable def pO:V->Option Nat:=V.lo
theorem qo:∀x∈[h.objs.size],h.get? x=none:=λx B=>by rw[List.mem_singleton.mp B];exact c6 _
theorem yp{Wi:ad V}{Wl:Nat->ad Fl}(hi:be g F k iter Wi)(z:∀bc v,foldedSetIterable iter bc v=Pure.pure v)(h:∀d A wd σ s l Q,cK A k->bU g F d wd σ s->l<wd.n->Wl l σ Q->wpAny (model g.prog g.w) A (pyIter (.ref (wd.ρ l))) (λit s'=>wpAny (model g.prog g.w) A (runOwn (.forLoop target it body [] (aK F d)) (aK F d)) (iB g F d Us wd Q) Ac s') Ac s):iW g F k (.For target iter body [] pos) (λσ Q=>Wi σ λv G=>aA (pO v) λl=>Wl l G Q):=by intro d A af hr;rw[arm_exec_For];refine bb.standAt (bb.bind (hi d A af hr) λwd u v Z D=>?_);rw[z];intro s bg σ Q j R J;refine U (aj (U (dh ?_)));refine ah J λl e J=>?_;have D:=VR.mono j D;rw[V.lH e] at D;rw[D.2];exact U (bq (h d A bg σ s l Q hr R D.1 J))
theorem M9{RI:Wd->β->Value->Prop}{cL:Nat->St->Nat->Option (Option β)}{Wi:ad V}{As:β->ad Unit}{Wb:ad Fl}(hi:be g F k iter Wi)(Vd:∀wd bg b u,Wd.Le wd bg->RI wd b u->RI bg b u) (ha:∀d A af b u,cK A k->RI af b u->bb g F d A af um (assign target (aK F d) u) (As b)) (hb:k0 g F k body Wb) (z:∀bc v,foldedSetIterable iter bc v=Pure.pure v)(K:∀(l:Nat)(F:df)(d:hJ)(wd:Wd)(σ:St)(s:Shared)(i:Nat)(o:Option β)(P:Prop),bU g F d wd σ s->cL l σ i=some o->(∀xs I n,s.heap.get? (wd.ρ l)=some (aG "list" I n)->aE (RI wd) xs I->xs[i]?=o->P)->P):iW g F k (.For target iter body [] pos) (λσ Q=>Wi σ λv G=>aA (pO v) λl=>∃n,gu (cL l) As Wb n 0 G Q):=yp hi z λd A wd σ s l Q hr R dP J=>xE J λn J=>by
  cases n with
  |zero=>exact J.elim
  |succ n=>
   refine ah J λo ho _=>K l F d wd σ s 0 o _ R ho λxs I m Y _ _=>?_;refine wpAny_pyIter_list (b9 Y) ?_;exact tT (AM hr.handled (K l)) Vd hr (λaf b u h=>ha d A af b u hr h) hb (.refl _) (R.keeps λb o e=>bf _ e) (jE.fresh R qo)
    ⟨dP,_,cu _ rfl,rfl,rfl⟩ ⟨n+1,J⟩
theorem I7{Wi:ad V}{As:V->ad Unit}{Wb:ad Fl}(hi:be g F k iter Wi)(ha:q9 g F k target As)(hb:k0 g F k body Wb)(z:∀bc v,foldedSetIterable iter bc v=Pure.pure v):iW g F k (.For target iter body [] pos) (λσ Q=>Wi σ λv G=>aA (pO v) λl=>∃n,gu (bj l) As Wb n 0 G Q):=M9 hi nZ ha hb z λl F d wd σ s i o P R hi k=>mO hi λxs e1 e2=>R.lst e1 λI n _ ho dL=>k xs I n ho dL e2
end
end
section
variable {C a it x:Addr}{A:Around}{xs:Array Value}{d:hJ}{F:df}{g:G}{h:Heap}{es:List (Str×V)}{X:List Addr}{ds:List DictEntry}{args ts:List PySem.Expr}{vs:List V}{us I:List Value}{M:Model}{k l:Nat}{p pos:Pos}{prog:Program}{P:Prop}{e o t value:PySem.Expr}{pl:Sem Bool}{wa:ad (List V)}{We Wi Wo:ad V}{s:Shared}{σ:St}{tk:Tok}{α β:Type}{v:V}{W:V->List V->ad V}{u:Value}{Q:Value×List Value->Shared->Prop}{E:Value->Shared->Prop}{wd af:Wd}{w:World}{R:α->β->Prop}
section
def tW(g:G)(F:df)(k:Nat)(ts:List PySem.Expr)(W:List V->ad Unit):Prop:=∀d A af vs us,cK A k->aE (VR af) vs us->bb g F d A af um (assignInOrder ((assignEach ts (aK F d)).map (·.2)) us) (W vs)
theorem Rb:tW g F k [] (λ_ σ Q=>Q () σ):=λd A af vs us hr D s wd σ Q Z R J=>assignInOrder_nil (az wd () σ (.refl _) R d7 J)
def AN(vs:List V)(K:V->List V->Prop):Prop:=@List.casesOn V (λ_=>Prop) vs False K
theorem M_{W:V->ad Unit}{W':List V->ad Unit}(h:q9 g F k t W)(h':tW g F k ts W')(he:∀bc,assignEach (t::ts) bc=(false,assign t bc)::assignEach ts bc):tW g F k (t::ts) (λvs σ Q=>AN vs λv r=>W v σ λ_ a9=>W' r a9 Q):=by
 intro d A af vs us hr D s wd σ Q Z R J;cases D with
 |nil=>exact J.elim
 |cons hv D=>rw[he];refine assignInOrder_cons (bb.go (h d A af _ _ hr hv) Z R J λ_ s' bg _ a9 x1 x2 _ x4=>?_);refine bb.go (h' d A af _ _ hr D) (Z.trans x1) x2 x4 λ_ w_ o u m y1 O y3 y4=>?_;exact az o u m (x1.trans y1) O y3 y4
noncomputable def vk(mem:List O)(v:V):Option (List V):=v.lo.bind λl=>(mem[l]?).bind λo=>match o with
 | .list xs=>some xs
 | .tup xs=>some xs
 |_=>none
theorem ER(R:bU g F d wd σ s){a:V}(ha:VR wd a u){xs:List V}(h:vk σ.mem a=some xs):∃x I,u= .ref x/\aE (VR wd) xs I/\(s.heap.IsList x I.toArray\/IsTup s.heap x I.toArray):=by
 refine aI h λl e h=>aI h λo e' h=>jB (R.get e') λ_ ob ho i=>?_;rw[V.lH e] at ha;cases o with
 |list zs=>rw[<-aq h];exact dB i λI n e dL=>⟨_,I,ha.2,dL,.inl (b9 (ho.trans (ag some e)))⟩
 |tup zs=>rw[<-aq h];exact dB i λI n e dL=>⟨_,I,ha.2,dL,.inr ⟨_,ho.trans (ag some e),rfl,n,rfl⟩⟩
 |_=>exact nS h
theorem jL(hh:A.handled=none)(R:bU g F d wd σ s)(B:s.heap.IsList x I.toArray\/IsTup s.heap x I.toArray){Q:List Value->Shared->Prop}{n:Nat}(hn:n=I.length)(h:∀s',bU g F d wd σ s'->Q I s'):wpAny (model g.prog g.w) A (unpackItems (.ref x) n none) Q E s:=by
 have e:n=I.toArray.size:=by rw[aZ];exact hn
 rw[e];have S:=jE.fresh R qo;rcases B with B|B
 ·refine kun_itemsOf hh B λh' M=>?_;exact h _ (R.other S λb o hb e=>M b o (λq=>hb (by rw[q];exact .head _)) e)
 ·refine unpackItems_tuple hh B λh' M=>?_;exact h _ (R.other S λb o hb e=>M b o (λq=>hb (by rw[q];exact .head _)) e)
theorem Ve{n:Nat}{W:List V->ad Unit}(h:tW g F k ts W)(M:∀bc,(assignEach ts bc).findIdx? (·.1)=none)(cn:∀bc,(assignEach ts bc).length=ts.length):q9 g F k (.Tuple ts n pos) (λv σ Q=>aA (vk σ.mem v) λxs=>gd (Nat.beq xs.length ts.length) (W xs σ Q)):=by intro d A af v u hr hv;rw[assign_Tuple];refine bb.standAt ?_;intro s wd σ Q Z R J;refine ah J λxs e J=>xA (aL J) λh1 J=>d3 (ER R (VR.mono Z hv) e) λx I jM dL B=>?_;have h1:=bK h1;rw[jM];unfold unpack;rw[M,cn];refine U (bq (jL hr.handled R B (by rw[<-dL.len];exact h1.symm) λs' R'=>?_));exact h d A wd xs I hr dL s' wd σ Q (.refl _) R' J
def CO(wd:Wd)(r:List V)(u:Value):Prop:=∃a zs n,u= .ref a/\wd.fz a=some (aG "tuple" zs n)/\aE (VR wd) r zs
theorem CO.mono:∀wd bg b u,Wd.Le wd bg->CO wd b u->CO bg b u:=λ_ _ _ _ h x=>jf x λa zs n h1 h2 h3=>⟨a,zs,n,h1,h.fz _ _ h2,h3.mono λ_ _=>VR.mono h⟩
theorem Na{n:Nat}{W:List V->ad Unit}(h:tW g F k ts W)(M:∀bc,(assignEach ts bc).findIdx? (·.1)=none)(cn:∀bc,(assignEach ts bc).length=ts.length) {r:List V} (hr:cK A k) (hv:CO af r u):bb g F d A af um (assign (.Tuple ts n pos) (aK F d) u) (λσ Q=>gd (Nat.beq r.length ts.length) (W r σ Q)):=by rw[assign_Tuple];refine bb.standAt ?_;intro s wd σ Q Z R J;refine xA (aL J) λh1 J=>?_;have h1:=bK h1;refine jf (CO.mono _ _ _ _ Z hv) λx zs m qi hz hzs=>?_;rw[qi];have B:IsTup s.heap x zs.toArray:=⟨_,R.mem.sQ _ _ hz,rfl,m,rfl⟩;unfold unpack;rw[M,cn];refine U (bq (jL hr.handled R (.inr B) (by rw[<-hzs.len];exact h1.symm) λs' R'=>?_));exact h d A wd r zs hr hzs s' wd σ Q (.refl _) R' J
noncomputable def AO(o:Option O):Option (Int×Int×Int):=o.bind O.rg
noncomputable def gD(a b c:Int)(_:St)(i:Nat):Option (Option V):=some (cond (Nat.blt i (Builtin.Range.rangeSize a b c).toNat) (some (.int (a+(i:Int)*c))) none)
theorem vm{a b c:Int}(hh:A.handled=none):GK g A it [it] VR (λwd i h=>IsRangeIter h it (a+(i:Int)*c) (Builtin.Range.rangeSize a b c-i) c) (gD a b c) where
 step F d wd σ i s v Q E R H G hi C:=kL (aq hi) λdP e=>by have dP:=aU dP;rw[<-e] at C;refine wpAny_pyNext_range_item G (Int.sub_pos_of_lt (Int.lt_toNat.mp dP)) λh' K M=>?_;refine C _ _ wd ⟨s.toks,rfl⟩ (.refl _) (R.other H λb o hb e=>(M.2 b (λq=>hb (by rw[q];exact .head _))).trans e) H ?_;refine(?_ :IsRangeIter h' it (a+((i+1:Nat):Int)*c) (Builtin.Range.rangeSize a b c-((i+1:Nat):Int)) c);rw[Int.natCast_add,Int.add_mul,<-Int.add_assoc,<-Int.sub_sub];show IsRangeIter h' it (a+(i:Int)*c+1*c) _ c;rw[Int.one_mul];exact K
 stop F d wd σ i s Q E R H G hi C:=by refine wpAny_pyNext_range_end hh G ?_ λh' M=>C _ (R.other H λb o hb e=>M b o (λq=>hb (by rw[q];exact .head _)) e);have hi:=aq hi;refine Int.sub_nonpos_of_le (Int.not_lt.mp λq=>?_);rw[show Nat.blt i (Builtin.Range.rangeSize a b c).toNat=true from d_ (Int.lt_toNat.mpr q)] at hi;exact MB hi
 stay wd bg i h h' G Z hk:=hk it (.head _) _ G
 live wd i h G x B:=by
  refine⟨_,List.mem_singleton.mp B▸G,λp=>p.elim (λp=>yc p λzs n e=>?_) λp=>xE p λq p=>dB p λvs t e1 e2=>?_⟩
  ·exact absurd (kj (ag Obj.cls e)) (by decide)
  ·rw[<-o_ e1] at e2;exact nomatch e2
 owned F d wd σ i s target u Q E R H G C:=qm G rfl (by decide) (C s R G)
theorem CP{n:Int}(N:VR af (.int n) u):bb g F d A af qg (call (.type "range") [u] []) (jU (.rng 0 n 1)):=by intro s wd σ Q Z R J;refine xE N λt N=>?_;rw[N];refine call_range_1 ?_;have R':=R.cE (o:=.rng 0 n 1) ⟨s.toks,t,s.toks+1,rfl⟩;exact az (wd.push s.heap.objs.size) (.loc σ.mem.length) _ (Wd.aT _ _) R'.toks R.pushed J
def kM(vs:List V)(K:V->ad β):ad β:=λσ Q=>AN vs λv r=>@List.casesOn V (λ_=>Prop) r (K v σ Q) λ_ _=>False
def pV(vs:List V)(K:V->V->ad β):ad β:=λσ Q=>AN vs λv r=>kM r (K v) σ Q
def I8(vs:List V)(K:V->V->V->ad β):ad β:=λσ Q=>AN vs λv r=>pV r (K v) σ Q
section
variable {R:V->Value->Prop}{Q:β->St->Prop}
theorem q_(D:aE R vs us){K:V->ad β}(h:kM vs K σ Q)(k:∀v u,us=[u]->R v u->K v σ Q->P):P:=by
 cases D with
 |nil=>exact h.elim
 |cons h1 h2=>
  cases h2 with
  |nil=>exact k _ _ rfl h1 h
  |cons _ _=>exact h.elim
theorem yq(D:aE R vs us){K:V->V->ad β}(h:pV vs K σ Q)(k:∀v w u x,us=[u,x]->R v u->R w x->K v w σ Q->P):P:=by
 cases D with
 |nil=>exact h.elim
 |cons h1 h2=>exact q_ h2 h λw x e h3 h=>k _ w _ x (ag _ e) h1 h3 h
theorem Vf(D:aE R vs us){K:V->V->V->ad β}(h:I8 vs K σ Q)(k:∀v w y u x z,us=[u,x,z]->R v u->R w x->R y z->K v w y σ Q->P):P:=by
 cases D with
 |nil=>exact h.elim
 |cons h1 h2=>exact yq h2 h λw y x z e h3 h4 h=>k _ w y _ x z (ag _ e) h1 h3 h4 h
end
theorem vn{v:α}{us:List β}(h:aE R [v] us)(k:∀u,us=[u]->R v u->P):P:=by
 cases h with
 |cons h1 h2=>cases h2;exact k _ rfl h1
theorem CQ{v w:α}{us:List β}(h:aE R [v,w] us)(k:∀u x,us=[u,x]->R v u->R w x->P):P:=by
 cases h with
 |cons h1 h2=>exact vn h2 λx e h3=>k _ x (ag _ e) h1 h3
theorem Rc{v w y:α}{us:List β}(h:aE R [v,w,y] us)(k:∀u x z,us=[u,x,z]->R v u->R w x->R y z->P):P:=by
 cases h with
 |cons h1 h2=>exact CQ h2 λx z e h3 h4=>k _ x z (ag _ e) h1 h3 h4
def ES(vs:List V):ad V:=kM vs λv σ Q=>aA v.iv λn=>jU (.rng 0 n 1) σ Q
theorem mP:cz g k (.type "range") ES:=by intro F d A af vs us hr D s wd σ Q Z R J;refine q_ D J λv u e hv J=>ah J λn hn J=>?_;rw[V.sP hn] at hv;rw[e];exact CP hv s wd σ Q Z R J
theorem GM{target iter:PySem.Expr}{body:List Stmt}{As:V->ad Unit}{Wb:ad Fl}(hi:be g F k iter Wi)(ha:q9 g F k target As)(hb:k0 g F k body Wb)(z:∀bc v,foldedSetIterable iter bc v=Pure.pure v):iW g F k (.For target iter body [] pos) (λσ Q=>Wi σ λv G=>aA (pO v) λl=>aA (AO G.mem[l]?) λp=>gd (Builtin.Range.small p.1 p.2.1 p.2.2) (∃n,gu (gD p.1 p.2.1 p.2.2) As Wb n 0 G Q)):=yp hi z λd A wd σ s l Q hr R dP J=>by refine ah J λp e J=>Ur (aL J) λr n J=>ye (R.get (e_ O.CB e)) λ_ ob Y t u' f P=>?_;rw[P] at Y;refine wpAny_pyIter_range Y r ?_;refine tT (vm hr.handled) nZ hr (λaf b u h=>ha d A af b u hr h) hb (.refl _) (R.keeps λb o e=>bf _ e) (jE.fresh R qo) ?_ ⟨n,J⟩;refine(?_ :IsRangeIter _ _ (p.1+((0:Nat):Int)*p.2.2) (Builtin.Range.rangeSize p.1 p.2.1 p.2.2-((0:Nat):Int)) p.2.2);rw[show p.1+((0:Nat):Int)*p.2.2=p.1 by simp,show Builtin.Range.rangeSize p.1 p.2.1 p.2.2-((0:Nat):Int)=Builtin.Range.rangeSize p.1 p.2.1 p.2.2 from Int.sub_zero _];exact cu _ rfl
end
noncomputable def ET(h:Heap)(X:List Addr):List (Addr×Obj):=(List.range h.objs.size).filterMap λa=>if a∈X then none else(h.get? a).map λo=>(a,o)
theorem GN{o:Obj}(e:h.get? a=some o)(B:a∉X):(a,o)∈ET h X:=by refine List.mem_filterMap.mpr ⟨a,List.mem_range.mpr (bT e),?_⟩;rw[aH B,e];rfl
theorem GO{p:Addr×Obj}(e:p∈ET h X):h.get? p.1=some p.2/\p.1∉X:=by
 refine bx (List.mem_filterMap.mp e) λa _ h2=>?_;by_cases B:a∈X
 ·rw[a6 B] at h2;exact nS h2
 ·rw[aH B] at h2;exact bx (Option.map_eq_some_iff.mp h2) λo ho jM=>by rw[<-jM];exact⟨ho,B⟩
noncomputable def vo:Heap:={}
theorem vp(a:Addr):vo.get? a=none:=by refine(?_ :(match (#[]:Array Obj)[a]? with|some ⟨_,_,.freed,_⟩=>none|o=>o)=none);simp
section
theorem bU.fr(R:bU g F d wd σ s):∃m,Fr vo d.L s.heap m/\Ay F wd σ.loc m:=by refine bx (R.loc) λm h1 h2=>?_;exact⟨m,⟨h1,λb o e=>(by rw[vp] at e;exact nS e),aW _⟩,h2⟩
theorem bU.news(R:bU g F d wd σ s)(X:List Addr):News vo d.L s.heap (ET s.heap (d.L::X)):=λp hp=>xA (GO hp) λh1 h2=>
 ⟨h1,λe=>h2 (by rw[e];exact .head _),vp _⟩
theorem bU.I9(R:bU g F d wd σ s){m:Str->Option Value}{h':Heap}{tk:Nat}{ob:Obj}{o:O}(hm:Ay F wd σ.loc m)(Fm:Fr vo d.L h' m)(N:News vo d.L h' ((a,ob)::ET s.heap [d.L]))(ha:s.heap.get? a=none)(ho:OR g (wd.push a) o ob) (p:a≠sysModules):bU g F d (wd.push a) {σ with mem:=σ.mem++[o]} {s with heap:=h',toks:=tk}:=by
 have k:∀b o,b≠d.L->s.heap.get? b=some o->h'.get? b=some o:=λb o hb e=>(N _ (.tail _ (GN e (by simpa using hb)))).1;have hw:=Wd.aT wd a;exact⟨R.mem.II (λb o e=>k b o (λq=>by rw[q,R.qf] at e;exact nS e) (R.mem.sQ b o e)) (λl o Z e=>k _ _ (R.kZ l Z) e) ha (N _ (.head _)).1 ho p,⟨m,Fm.ns,hm.mono hw⟩,R.iA.mono hw,R.qf,
  λl Z=>Wd.eE Z (λh1 e1=>e1▸R.kZ l h1) λ_ e1 q=>(N _ (.head _)).2.1 (e1.symm.trans q),R.gens,R.os⟩
end
section
noncomputable def dC(mem:List O)(v:V):Option (Nat×List V):=v.lo.bind λl=>(tV mem[l]?).bind λxs=>some (l,xs)
theorem bU.lv(R:bU g F d wd σ s){a:V}(ha:VR wd a u){p:Nat×List V}(h:dC σ.mem a=some p)(k:∀I n,u= .ref (wd.ρ p.1)->p.1<wd.n->s.heap.get? (wd.ρ p.1)=some (aG "list" I n)->aE (VR wd) p.2 I->P):P:=by refine aI h λl e h=>aI h λxs e' h=>?_;rw[V.lH e] at ha;rw[<-aq h] at k;exact R.lst e' λI n Z ho dL=>k I n ha.2 Z ho dL
def gE(vs:List V):ad V:=pV vs λa v σ Q=>aA (dC σ.mem a) λp=>gd (bw p.2.length) (Q .none {σ with mem:=σ.mem.set p.1 (.list (p.2++[v]))})
theorem bB:cz g k (.builtin "list.append") gE:=by
 intro F d A af vs us hr D s wd σ Q Z R J;refine yq D J λa v u x e ha hv J=>ah J λp e' J=>xA (aL J) λh1 J=>R.lv (VR.mono Z ha) e' λI n N dP ho dL=>?_;rw[e,N];refine append_at ho (λh' M lj=>az wd .none _ (.refl _) (R.setM dP M lj (o':=.list (p.2++[v])) ⟨I++[x],n+1,?_,dL.append (.cons (VR.mono Z hv) .nil)⟩) rfl J) ?_
 ·unfold aG;simp
 ·rw[aZ,<-dL.len];exact dp h1
noncomputable def AP(l:List V):Option (List V×V):=l.getLast?.map λy=>(l.dropLast,y)
theorem GP{l:List V}{q:List V×V}(h:AP l=some q):l=q.1++[q.2]:=bx (Option.map_eq_some_iff.mp h) λy e1 e2=>xE (List.getLast?_eq_some_iff.mp e1) λI e3=>by rw[<-e2,e3,lY]
theorem tX(p:List V)(y:V):AP (p++[y])=some (p,y):=by unfold AP;rw[List.getLast?_concat,lY];rfl
theorem aE.snoc{p:List α}{y:α}{us:List β}(h:aE R (p++[y]) us):∃q z,us=q++[z]/\aE R p q/\R y z:=by
 induction p generalizing us with
 |nil=>
  cases h with
  |cons h1 h2=>cases h2;exact⟨[],_,rfl,.nil,h1⟩
 |cons x p T=>
  cases h with
  |cons h1 h2=>exact d3 (T h2) λq z e h3 h4=>⟨_::q,z,ag _ e,.cons h1 h3,h4⟩
def Zz(vs:List V):ad V:=kM vs λa σ Q=>aA (dC σ.mem a) λp=>gd (bw p.2.length) (aA (AP p.2) λq=>Q q.2 {σ with mem:=σ.mem.set p.1 (.list q.1)})
theorem EU{q:List Value}{z:Value}{n:Nat}(hk:k=q.length):Obj.mapSeq (λxs=>xs.eraseIdxIfInBounds k) (aG "list" (q++[z]) n)=aG "list" q (n+1):=by
 have E:(q++[z]).toArray.eraseIdxIfInBounds k=q.toArray:=by rw[hk,kl_erase,aS]
 unfold Obj.mapSeq aG;dsimp only;rw[E,aH];rw[aZ,aZ,ak];simp
theorem pE:cz g k (.builtin "list.pop") Zz:=by
 intro F d A af vs us hr D s wd σ Q Z R J;refine q_ D J λa u e ha J=>ah J λp e' J=>xA (aL J) λh1 J=>ah J λq e2 J=>R.lv (VR.mono Z ha) e' λI n N dP ho dL=>?_;rw[e,N];have cn:=dL.len;rw[GP e2] at dL;refine d3 dL.snoc λq' z jM Y hz=>?_;rw[jM] at ho cn;have L:(q'++[z]).toArray.size<=sizeLine:=by rw[aZ,<-cn];exact dp h1
 have hk:(q'++[z]).toArray.size-1=q'.length:=by rw[aZ,ak];rfl
 have hy:(q'++[z]).toArray[(q'++[z]).toArray.size-1]?=some z:=by rw[hk];simp
 refine call_meets kE ⟨_,ho,rfl⟩ PySem.F.entry_list_pop (PySem.F.args_list_pop_1 _) (PySem.MeetsSeq.list_pop_last _ _ n z hy L) ⟨ho,?_⟩;refine az wd q.2 _ (.refl _) (R.setM dP (er ..) (o':=.list q.1) ?_ ⟨q',n+1,rfl,Y⟩) hz J;exact(ef _ ho (by rw[EU hk];rfl)).trans (ag some (EU hk))
def Nb(vs:List V):ad V:=pV vs λa b σ Q=>aA (dC σ.mem a) λp=>aA (dC σ.mem b) λq=>gd (bw (p.2.length+q.2.length)) (Q .none {σ with mem:=σ.mem.set p.1 (.list (p.2++q.2))})
theorem EV(I h:List Value)(n:Nat):Obj.mapSeq (λx=>x++h.toArray) (aG "list" I n)=aG "list" (I++h) (if (I.toArray++h.toArray).size==I.toArray.size then n else n+1):=by unfold Obj.mapSeq aG;simp
theorem CR:cz g k (.builtin "list.extend") Nb:=by
 intro F d A af vs us hr D s wd σ Q Z R J;refine yq D J λa b u x e ha hb J=>ah J λp e1 J=>ah J λp' e2 J=>xA (aL J) λh1 J=>R.lv (VR.mono Z ha) e1 λI n N dP ho dL=>R.lv (VR.mono Z hb) e2 λh n' Re _ lj CS=>?_;rw[e,N,Re];have Rf:I.toArray.size+h.toArray.size<=sizeLine:=by rw[aZ,aZ,<-dL.len,<-CS.len];exact dp h1
 refine call_meets PySem.F.slot_list_extend ⟨_,ho,rfl⟩ PySem.F.entry_list_extend (PySem.F.args_list_extend_2 _ _) (AutoSeq1.list_extend_list_list_0 _ I.toArray n _ h.toArray n' (extend_door Rf) (am (gT _ _) Rf) (iw Rf)) ⟨ho,lj,?_⟩;refine az wd .none _ (.refl _) (R.setM dP (er ..) (o':=.list (p.2++p'.2)) ?_ ⟨I++h,(if (I.toArray++h.toArray).size==I.toArray.size then n else n+1),rfl,dL.append CS⟩) rfl J;exact(ef _ ho (by rw[EV];rfl)).trans (ag some (EV I h n))
noncomputable def I_(n:Nat):Int->Nat
 | .ofNat i=>Nat.min i n
 | .negSucc i=>n-(i+1)
noncomputable def mr(v:V):Option (Option Int):=@V.casesOn (λ_=>Option (Option Int)) v (some none) (λ_=>none) (λi=>some (some i)) (λ_=>none) (λ_=>none) (λ_=>none)
noncomputable def Vg(n:Nat):Option Int->Nat
 |some i=>I_ n i
 |none=>0
noncomputable def Vh(n:Nat):Option Int->Nat
 |some i=>I_ n i
 |none=>n
theorem Rg(n:Nat):∀h,Vh n h<=n
 |none=>aF _
 |some (.ofNat _)=>l9 _ _
 |some (.negSucc _)=>Nat.sub_le _ _
noncomputable def fS(xs:List α)(lo hi:Option Int):List α:=(xs.drop (Vg xs.length lo)).take (Vh xs.length hi-Vg xs.length lo)
theorem rh{p:Option Int}(h:VR wd v u)(e:mr v=some p):IsPart u p/\∃q:Option (Int×Tok),q.map (·.1)=p/\u=partValue q:=by
 cases v with
 |none=>rw[<-aq e,h];exact⟨.none,none,rfl,rfl⟩
 |int i=>rw[<-aq e];exact xE h λt h=>by rw[h];exact⟨.int i t,some (i,t),rfl,rfl⟩
 |_=>exact nS e
theorem Nc(n:Nat)(i:Int):max 0 (min (if i<0 then i+(n:Int) else i) (n:Int))=(I_ n i:Int):=by
 cases i with
 |ofNat i=>
  rw[aH (show ¬ (Int.ofNat i<0) from Int.not_lt.mpr (gl i))];refine(?_ :max 0 (min (i:Int) n)=((min i n:Nat):Int));refine(Nat.le_total i n).elim (λh=>?_) λh=>?_
  ·rw[Int.min_eq_left (Int.ofNat_le.mpr h),kg h];exact Int.max_eq_right (gl _)
  ·rw[Int.min_eq_right (Int.ofNat_le.mpr h),kb h];exact Int.max_eq_right (gl _)
 |negSucc i=>
  rw[a6 (l6 i)];refine(?_ :max 0 (min (Int.subNatNat n (i+1)) n)=((n-(i+1):Nat):Int));refine(Nat.lt_or_ge n (i+1)).elim (λh=>?_) λh=>?_
  ·rw[Int.subNatNat_of_lt h,sB (eU h)];exact Int.max_eq_left (dT (Int.min_le_left _ _) (Int.le_of_lt (l6 _)))
  ·rw[sK h,Int.min_eq_left (Int.ofNat_le.mpr (Nat.sub_le _ _))];exact Int.max_eq_right (gl _)
theorem ni(I:List α)(c:Nat):(List.range c).filterMap (λk=>I[k]?)=I.take c:=by
 induction c with
 |zero=>rfl
 |succ c T=>rw[List.range_succ,List.filterMap_append,T,List.take_add_one];congr 1
theorem pW(a b:Nat):(sliceRange (a:Int) (b:Int) 1)=(List.range (b-a)).map λk=>a+k:=by
 have:(if (a:Int)<(b:Int) then((b:Int)-(a:Int)+1-1) / 1 else 0).toNat=b-a:=by
  by_cases h:(a:Int)<(b:Int)
  ·rw[a6 h,Int.add_sub_cancel,Int.ediv_one];exact Int.toNat_sub b a
  ·rw[aH h];exact(sB (Int.ofNat_le.mp (Int.not_lt.mp h))).symm
 refine(?_ :List.map _ (List.range (if (a:Int)<(b:Int) then((b:Int)-(a:Int)+1-1) / 1 else 0).toNat)=_);rw[this];exact ir λk _=>by rw[Int.one_mul];rfl
theorem vq(xs:List α)(a b:Nat):(sliceRange (a:Int) (b:Int) 1).filterMap (λi=>xs[i]?)=(xs.drop a).take (b-a):=by rw[pW,List.filterMap_map,<-ni];congr 1;funext k;exact(List.getElem?_drop ..).symm
theorem nj(n:Nat)(lo hi:Option Int):sliceBounds lo hi none n=((Vg n lo:Int),(Vh n hi:Int),1):=by
 unfold sliceBounds Vg Vh;have h1:(1:Int)>0:=by decide
 simp only[Option.getD_none,h1,if_true];cases lo<;>cases hi<;>simp[Nc]
theorem sY(xs:List α)(lo hi:Option Int):(sliceRange (sliceBounds lo hi none xs.length).1 (sliceBounds lo hi none xs.length).2.1 (sliceBounds lo hi none xs.length).2.2).filterMap (λi=>xs[i]?)=fS xs lo hi:=by rw[nj];exact vq xs _ _
theorem EW(x:Str)(lo hi:Option Int):Builtin.Str.strSliceIndices lo hi 1 x.length=sliceRange (sliceBounds lo hi none x.cps.toList.length).1 (sliceBounds lo hi none x.cps.toList.length).2.1 (sliceBounds lo hi none x.cps.toList.length).2.2:=by rw[show x.length=x.cps.toList.length by simp[Str.length]];rfl
theorem Nd(x:Str)(lo hi:Option Int):(Builtin.Str.strSliceIndices lo hi 1 x.length).filterMap (x.cps[·]?)=fS x.cps.toList lo hi:=by rw[EW,<-sY];congr 1;funext i;simp
theorem GQ(xs:List α):(sliceRange (sliceBounds none none (some (-1)) xs.length).1 (sliceBounds none none (some (-1)) xs.length).2.1 (sliceBounds none none (some (-1)) xs.length).2.2).filterMap (λi=>xs[i]?)=xs.reverse:=by
 have e:sliceBounds none none (some (-1)) xs.length=((xs.length:Int)-1, -1, -1):=rfl;rw[e];have e2:sliceRange ((xs.length:Int)-1) (-1) (-1)=(List.range xs.length).map λk=>xs.length-1-k:=by
  have:(if (xs.length:Int)-1> -1 then((xs.length:Int)-1- -1- -1-1) / (- -1) else 0).toNat=xs.length:=by
   by_cases h:(xs.length:Int)-1> -1
   ·rw[a6 h,show(- -1:Int)=1 from rfl,Int.ediv_one,show(xs.length:Int)-1- -1- -1-1=xs.length from(Int.add_sub_cancel _ _).trans (Int.sub_add_cancel _ _)];rfl
   ·rw[aH h];omega
  refine(?_ :List.map _ (List.range (if (xs.length:Int)-1> -1 then((xs.length:Int)-1- -1- -1-1) / (- -1) else 0).toNat)=_);rw[this];exact ir λk _=>by rw[Int.neg_mul,Int.one_mul,Nat.sub_sub,<-Int.toNat_sub,Int.natCast_add];exact ag Int.toNat (Int.sub_sub _ _ _)
 rw[e2,List.filterMap_map];have e3:=ni xs.reverse xs.length;rw[oQ (by simp)] at e3;rw[<-e3];have cg:∀(l:List Nat)(f h:Nat->Option α),(∀k∈l,f k=h k)->l.filterMap f=l.filterMap h:=by
  intro l f h e;induction l with
  |nil=>rfl
  |cons x l T=>rw[List.filterMap_cons,List.filterMap_cons,e x (.head _),T λk hk=>e k (.tail _ hk)]
 refine cg _ _ _ λk hk=>?_;have:=List.mem_range.mp hk;rw[List.getElem?_reverse this];rfl
end
section
def Ja(g:G)(F:df)(k:Nat)(e:Option PySem.Expr)(W:ad V):Prop:=∀d A af,cK A k->bb g F d A af qg (evalPart e (aK F d)) W
theorem Rh:Ja g F k none (eK .none):=λd A af hr s wd σ Q Z R J=>aj (az wd .none σ (.refl _) R rfl J)
theorem Rj{W:ad V}(h:be g F k e W):Ja g F k (some e) W:=h
def Jb(a lo hi:V):ad V:=λσ Q=>aA (mr lo) λlo=>aA (mr hi) λhi=>xa a.sv (λx=>gd (bw x.length) (Q (.str ⟨(fS x.cps.toList lo hi).toArray⟩) σ))
 (aA (dC σ.mem a) λp=>gd (bw p.2.length) (jU (.list (fS p.2 lo hi)) σ Q))
theorem AQ(xs:List α)(lo hi:Option Int):(fS xs lo hi).Sublist xs:=(List.take_sublist _ _).trans (List.drop_sublist _ _)
theorem Jc(xs:List α)(lo hi:Option Int)(h:Vh xs.length hi-Vg xs.length lo=xs.length):fS xs lo hi=xs:=(AQ xs lo hi).eq_of_length (by
  unfold fS;rw[jA,cb,h];exact kg (am (fO h.symm) (Nat.sub_le_sub_right (Rg _ _) _)))
theorem Nf{x:Str}{lo hi:Option Int}(h:(Builtin.Str.strSliceIndices lo hi 1 x.length).length=x.length):x=⟨(fS x.cps.toList lo hi).toArray⟩:=by rw[EW,nj,pW,ax,j_] at h;rw[Jc _ _ _ (h.trans (by simp[Str.length]))]
theorem aE.cut{l:List α}{m:List β}(h:aE R l m)(lo hi:Option Int):aE R (fS l lo hi) (fS m lo hi):=by unfold fS;rw[h.len];exact(h.drop _).take _
theorem Jd(I:List Value)(l h:Option Int):slicePick I.toArray l h none=(fS I l h).toArray:=by unfold slicePick;rw[aZ,<-sY I l h];congr 1;apply ag (λf=>List.filterMap f _);funext i;simp
theorem Je(I:List Value):slicePick I.toArray none none (some (-1))=I.reverse.toArray:=by unfold slicePick;rw[aZ,<-GQ I];congr 1;apply ag (λf=>List.filterMap f _);funext i;simp
theorem Rk{lower tY:Option PySem.Expr}{wa wl wu:ad V}(ha:be g F k value wa)(m:Ja g F k lower wl)(Vi:Ja g F k tY wu):be g F k (.Subscript value (.Slice lower tY none p) pos) (λσ Q=>wa σ λa G=>wl G λlo E=>wu E λhi H=>Jb a lo hi H Q):=by
 intro d A af hr s wd σ Q Z R J;refine Subscript_ (bb.go (ha d A af hr) Z R J λu dG D a G x1 x2 x3 x4=>?_);refine wpAny_Slice (bb.go (m d A af hr) (Z.trans x1) x2 x4 λvl mM P lo E y1 O y3 y4=>?_);refine bb.go (Vi d A af hr) ((Z.trans x1).trans y1) O y4 λvu c X hi H L z2 z3 z4=>?_;refine aj ?_;refine ah z4 λl r J=>ah J λh eh J=>jB (rh (VR.mono L y3) r) λp1 ql hql e1=>jB (rh z3 eh) λp2 qh hqh e2=>?_;have z:=VR.mono (y1.trans L) x3;have AB:=(x1.trans y1).trans L;have R3:bU g F d X H {c with heap:=c.heap.push {cls:=.type "slice",data:=.fields #[vl,vu,.none]}}:=z2.keeps λb o e=>bf _ e;have j:(c.heap.push {cls:=.type "slice",data:=.fields #[vl,vu,.none]}).get? c.heap.objs.size=some {cls:=.type "slice",data:=.fields #[vl,vu,.none]}:=cu _ rfl;refine g6 J (λJ=>ah J λx ex J=>xA (aL J) λh1 J=>xE (VR.str ex z) λt N=>?_) λJ=>ah J λq y J=>xA (aL J) λh1 J=>R3.lv z y λI n N dP ho dL=>?_
 ·rw[N];refine tail_any (typeIs_str _ x t) PySem.F.slot_str_getitem.lookup (wpAny_getItem_str_slice (st:=none) ⟨_,j,rfl,by rw[e1,e2];rfl⟩ rfl ?_) rfl;have B:slicePicked x ql qh none=Builtin.Str.strSliceIndices l h 1 x.length:=by unfold slicePicked;rw[hql,hqh];rfl
  unfold sliceMade;rw[B,Nd];have he:(if ((Option.map (·.1) (none:Option (Int×Tok))).getD 1==1&&(Builtin.Str.strSliceIndices l h 1 x.length).length==x.length)=true then x else(⟨(fS x.cps.toList l h).toArray⟩:Str))=⟨(fS x.cps.toList l h).toArray⟩:=by
   split
   ·rename_i hc;exact Nf (ib ((aM _ _).mp hc).2)
   ·rfl
  refine post_val_or_str ⟨?_,λC tk=>?_⟩
  ·split
   ·exact dp h1
   ·refine am ?_ (dp h1);refine(?_ :((fS x.cps.toList l h).toArray).size<=x.length);rw[aZ];exact am (AQ _ _ _).length_le (by simp[Str.length])
  ·rw[he];exact az X (.str _) H AB R3.toks ⟨_,rfl⟩ J
 ·rw[N];have S:=b9 ho;refine tail_any S.typeIs slot_list_getitem.lookup (sw S ⟨_,j,rfl,rfl⟩ p1 p2 .none (by simp) ?_ (by rw[aZ,<-dL.len];exact dp h1)) rfl;rw[Jd];exact az _ (.loc H.mem.length) _ (AB.trans (Wd.aT _ _)) (R3.cE (o:=.list (fS q.2 l h)) ⟨fS I l h,0,rfl,(dL.cut l h).mono λ_ _=>VR.mono (Wd.aT _ _)⟩) R3.pushed J
def Rm(a:V):ad V:=λσ Q=>aA (dC σ.mem a) λp=>gd (bw p.2.length) (jU (.list p.2.reverse) σ Q)
theorem GR{st:PySem.Expr}{wa:ad V}(ha:be g F k value wa)(T:be g F k st (eK (.int (-1)))):be g F k (.Subscript value (.Slice none none (some st) p) pos) (λσ Q=>wa σ λa G=>Rm a G Q):=by intro d A af hr s wd σ Q Z R J;refine Subscript_ (bb.go (ha d A af hr) Z R J λu dG D a G x1 x2 x3 x4=>?_);refine wpAny_Slice (aj (aj ?_));refine a_ (T d A af hr dG D G (λv a9=>v= .int (-1)/\Rm a a9 Q) (Z.trans x1) x2 ⟨rfl,x4⟩) (λvs c z=>?_) λ_ _ x=>x;refine gY z λX v H L z2 z3 P J=>?_;rw[P] at z3;refine xE z3 λt z3=>ah J λq e J=>xA (aL J) λh1 J=>?_;rw[z3];have R3:bU g F d X H {c with heap:=c.heap.push {cls:=.type "slice",data:=.fields #[.none,.none,.int (-1) t]}}:=z2.keeps λb o e=>bf _ e;have j:(c.heap.push {cls:=.type "slice",data:=.fields #[.none,.none,.int (-1) t]}).get? c.heap.objs.size=some {cls:=.type "slice",data:=.fields #[.none,.none,.int (-1) t]}:=cu _ rfl;refine R3.lv (VR.mono L x3) e λI n N dP ho dL=>?_;rw[N];have S:=b9 ho;refine tail_any S.typeIs slot_list_getitem.lookup (sw S ⟨_,j,rfl,rfl⟩ .none .none (.int (-1) t) (by decide) ?_ (by rw[aZ,<-dL.len];exact dp h1)) rfl;rw[Je];exact az _ (.loc H.mem.length) _ ((x1.trans L).trans (Wd.aT _ _)) (R3.cE (o:=.list q.2.reverse) ⟨I.reverse,0,rfl,dL.reverse.mono λ_ _=>VR.mono (Wd.aT _ _)⟩) R3.pushed J
def Vj(a b:V):ad V:=λσ Q=>aA (dC σ.mem a) λp=>aA (dC σ.mem b) λq=>gd (bw (p.2.length+q.2.length)) (jU (.list (p.2++q.2)) σ Q)
theorem Rn:yk g .Add Vj:=by intro F d A af a b u v ha hb s wd σ Q Z R J;refine ah J λp e1 J=>ah J λq e2 J=>xA (aL J) λh1 J=>R.lv (VR.mono Z ha) e1 λI n N dP ho dL=>R.lv (VR.mono Z hb) e2 λh n' Re _ lj CS=>bx (R.fr) λm Fm hm=>?_;rw[N,Re];refine add_lists Fm (R.news []) (b9 ho) (b9 lj) (λh' F' N'=>?_) (by rw[<-dL.len,<-CS.len];exact dp h1);exact az _ (.loc σ.mem.length) _ (Wd.aT _ _) (R.I9 hm F' N' (c6 _) (o:=.list (p.2++q.2)) ⟨I++h,0,rfl,(dL.append CS).mono λ_ _=>VR.mono (Wd.aT _ _)⟩ R.g7) R.pushed J
noncomputable def Ro(mem:List O)(v:V):Option Nat:=@V.casesOn (λ_=>Option Nat) v none (λ_=>none) (λ_=>none) (λx=>some x.length) (λ_=>none) λl=>(tV mem[l]?).bind λxs=>some xs.length
def Vk(vs:List V):ad V:=kM vs λa σ Q=>aA (Ro σ.mem a) λn=>gd (bw n) (Q (.int n) σ)
theorem eX:cz g k (.builtin "len") Vk:=by
 intro F d A af vs us hr D s wd σ Q Z R J;refine q_ D J λa u e ha J=>ah J λn e1 J=>xA (aL J) λh1 Y=>?_;rw[e];cases a with
 |str x=>rw[<-aq e1] at h1 Y;exact xE ha λt N=>by rw[N];exact PySem.P.len_str (Int.not_le.mpr (qY h1)) (az wd (.int x.length) σ (.refl _) R.toks ⟨_,rfl⟩ Y)
 |loc l=>refine aI e1 λxs r e1=>R.lst r λI n dP ho dL=>?_;rw[(VR.mono Z ha).2];rw[<-aq e1,dL.len] at h1 Y;exact call_len_list (b9 ho) (by rw[aZ];exact qY h1) (az wd (.int I.length) σ (.refl _) R.toks ⟨s.toks+1,rfl⟩ Y)
 |_=>exact nS e1
def Vl(vs:List V):ad V:=pV vs λa b σ Q=>aA a.iv λx=>aA b.iv λy=>br (decide (y<x)) (Q (.int y) σ) (Q (.int x) σ)
theorem EX:cz g k (.builtin "min") Vl:=by
 intro F d A af vs us hr D s wd σ Q Z R J;refine yq D J λa b u v e ha hb J=>ah J λx ex J=>ah J λy ey J=>xE (VR.int ex ha) λt N=>xE (VR.int ey hb) λC hv=>?_;rw[e,N,hv];refine min_two_ints hr.handled λh' tk hk=>?_;have R':bU g F d wd σ {s with heap:=h',toks:=tk}:=R.keeps hk;by_cases hc:y<x
 ·rw[a6 hc];rw[dI hc] at J;exact az wd (.int y) σ (.refl _) R' ⟨_,rfl⟩ J
 ·rw[aH hc];rw[dR hc] at J;exact az wd (.int x) σ (.refl _) R' ⟨_,rfl⟩ J
noncomputable def ZA(v:Value):Bool:=match v with
 | .type T=>T=="bool"
 |_=>false
def Ng(vs:List V):ad V:=pV vs λa b σ Q=>aA a.iv λ_=>aA b.im λw=>gd (ZA w) (Q (.bool false) σ)
theorem vt:cz g k (.builtin "isinstance") Ng:=by
 intro F d A af vs us hr D s wd σ Q Z R J;refine yq D J λa b u v e ha hb J=>ah J λx ex J=>ah J λw ew J=>xA (aL J) λh1 Y=>xE (VR.int ex ha) λt N=>?_;rw[V.CG ew] at hb;rw[e,N,hb];cases w with
 |type T=>rw[ib (show(T=="bool")=true from h1)];exact IsiPair.int_bool (az wd (.bool false) σ (.refl _) R.toks rfl Y)
 |_=>exact nB h1
end
section
noncomputable def kN:List V->Option (List Str)
 | []=>some []
 |v::r=>v.sv.bind λx=>(kN r).bind λt=>some (x::t)
theorem ri{xs:List V}{ts:List Str}(h:aE (VR wd) xs us)(e:kN xs=some ts):∃l:List (Str×Tok),us=strValues l/\l.map (·.1)=ts:=by
 induction h generalizing ts with
 |nil=>exact⟨[],rfl,aq e⟩
 |cons h _ T=>exact aI e λx e1 e=>aI e λt e2 e=>bx (T e2) λl e3 e4=>xE (VR.str e1 h) λtk E=>⟨(x,tk)::l,by rw[E,e3];rfl,by rw[<-aq e,<-e4];rfl⟩
theorem ms(ts:List Str):kN (ts.map V.str)=some ts:=by
 induction ts with
 |nil=>rfl
 |cons x r T=>exact bE T
theorem Jf{xs:List V}{ts:List Str}(h:aE (VR wd) xs us)(e:kN xs=some ts):StrsAre us ts:=bx (ri h e) λl e1 e2=>by rw[e1,<-e2];exact strsAre_of_values l
theorem xq(l:List (Str×Tok)):aE (VR wd) (l.map λp=>V.str p.1) (strValues l):=by
 induction l with
 |nil=>exact .nil
 |cons p r T=>exact .cons ⟨p.2,rfl⟩ T
def Jg(vs:List V):ad V:=pV vs λa b σ Q=>aA a.sv λNh=>aA (dC σ.mem b) λp=>aA (kN p.2) λts=>gd (JoinOk Nh ts) (Q (.str (Txt.join Nh ts)) σ)
theorem AS:cz g k (.builtin "str.join") Jg:=by intro F d A af vs us hr D s wd σ Q Z R J;refine yq D J λa b u v e ha hb J=>ah J λNh e1 J=>ah J λp e2 J=>ah J λts e3 J=>xA (aL J) λh1 J=>xE (VR.str e1 ha) λt N=>R.lv (VR.mono Z hb) e2 λI n hv dP ho dL=>bx (ri dL e3) λll e4 E=>?_;rw[e,N,hv];rw[e4] at ho;exact SC.join (b9 ho) E h1 λC tk=>az wd (.str _) σ (.refl _) R.toks ⟨_,rfl⟩ J
def Rp(vs:List V):ad V:=kM vs λa σ Q=>aA a.sv λx=>gd (Nat.ble x.length 5592405) (Q (.str (Txt.lower x)) σ)
theorem xr:cz g k (.builtin "str.lower") Rp:=by intro F d A af vs us hr D s wd σ Q Z R J;refine q_ D J λa u e ha J=>ah J λx e1 J=>xA (aL J) λh1 J=>xE (VR.str e1 ha) λt N=>?_;rw[e,N];exact SC.lower (fit_lower (aU h1)) (az wd (.str _) σ (.refl _) R.toks ⟨_,rfl⟩ J)
def CT(f:Str->Str->Int->List Str)(vs:List V):ad V:=I8 vs λa b c σ Q=>aA a.sv λx=>aA b.sv λy=>aA c.iv λi=>gd (bw (x.length+2)&&Nat.ble 1 y.length&&Nat.ble i.natAbs 1000000) (jU (.list ((f x y i).map V.str)) σ Q)
theorem GS{i:Int}(h:i.natAbs<=1000000):(decide (i< -(2 ^ 63:Int))||decide (i≥2 ^ 63))=false:=by simp only[Bool.or_eq_false_iff,decide_eq_false_iff_not];omega
theorem xt{f:Str->Str->Int->List Str}{w:Wd}{Q:V->St->Prop}(D:aE (VR w) vs us)(h:CT f vs σ Q)(k:∀x y i t C Vm,us=[.str x t,.str y C,.int i Vm]->(y.length==0)=false->(decide (i< -(2 ^ 63:Int))||decide (i≥2 ^ 63))=false->x.length+2<=sizeLine->jU (.list ((f x y i).map V.str)) σ Q->P):P:=by refine Vf D h λa b c u v z e ha hb hc h=>ah h λx ex h=>ah h λy ey h=>ah h λi r h=>xA (aL h) λh1 h=>xE (VR.str ex ha) λt N=>xE (VR.str ey hb) λC hv=>xE (VR.int r hc) λVm hz=>xA ((aM _ _).mp h1) λh1 h3=>xA ((aM _ _).mp h1) λh1 h2=>?_;exact k x y i t C Vm (by rw[e,N,hv,hz]) (beq_eq_false_iff_ne.mpr (dJ (aU h2))) (GS (aU h3)) (dp h1) h
theorem GT:cz g k (.builtin "str.split") (CT Txt.splitMax):=by intro F d A af vs us hr D s wd σ Q Z R J;refine xt D J λx y i t C Vm e h2 h3 h1 J=>bx (R.fr) λm Fm hm=>?_;rw[e];refine splitN2A Fm (R.news []) h2 h3 (λl h' tk e M cn S F' N'=>?_) h1;exact az _ (.loc σ.mem.length) _ (Wd.aT _ _) (R.I9 hm F' N' (c6 _) (o:=.list ((Txt.splitMax x y i).map V.str)) ⟨strValues l,0,rfl,by rw[<-e,ia];exact xq l⟩ R.g7) R.pushed J
theorem CU:cz g k (.builtin "str.rsplit") (CT Txt.rsplitMax):=by intro F d A af vs us hr D s wd σ Q Z R J;refine xt D J λx y i t C Vm e h2 h3 h1 J=>bx (R.fr) λm Fm hm=>?_;rw[e];refine rsplitN2A Fm (R.news []) h2 h3 (λl h' tk e M cn S F' N'=>?_) h1;exact az _ (.loc σ.mem.length) _ (Wd.aT _ _) (R.I9 hm F' N' (c6 _) (o:=.list ((Txt.rsplitMax x y i).map V.str)) ⟨strValues l,0,rfl,by rw[<-e,ia];exact xq l⟩ R.g7) R.pushed J
noncomputable def xc(y x:Str):Bool:= !(Builtin.Str.occurrences x y 0 x.length 1).isEmpty
noncomputable def dN(y:Str):List Str->Bool
 | []=>false
 |x::r=>d4 x y||dN y r
theorem vw(y:Str)(xs:List Str):xs.any (· ==y)=dN y xs:=by
 induction xs with
 |nil=>rfl
 |cons x r T=>rw[kn,jW,T];rfl
theorem fT(y:Str)(xs:List Str):dN y xs=true↔y∈xs:=by rw[<-vw,List.any_eq_true];exact⟨λh=>bx h λx h1 h2=>ib h2▸h1,λh=>⟨y,h,beq_self_eq_true y⟩⟩
theorem vy(y:Str)(xs:List Str):decide (y∈xs)=dN y xs:=by
 cases h:dN y xs with
 |true=>exact dI ((fT y xs).mp h)
 |false=>exact dR λe=>by rw[(fT y xs).mpr e] at h;exact Ab h
def Vn(o:Option O)(y:Str)(K:Bool->Prop):Prop:=xa (o.bind O.se) (λxs=>gd (Nat.ble xs.length 30) (K (dN y xs))) (aA (o.bind O.ls) λxs=>aA (kN xs) λts=>K (dN y ts))
def wIn(a b:V):ad Bool:=λσ Q=>aA a.sv λy=>xa b.sv (λx=>Q (xc y x) σ) (aA b.lo λl=>Vn σ.mem[l]? y λb=>Q b σ)
def Rq(a b:V):ad Bool:=λσ Q=>aA a.sv λy=>aA b.lo λl=>Vn σ.mem[l]? y λb=>Q (!b) σ
theorem mQ{n:Nat}(h:n<=30):n<scanBound:=Nat.lt_of_le_of_lt h (by decide+kernel)
theorem Jh(R:bU g F d wd σ s){y:Str}{K:Bool->Prop}(h:Vn σ.mem[l]? y K)(f:∀xs ob,s.heap.get? (wd.ρ l)=some ob->ob.SetObjOf (strKind g.prog g.w) (λk=>decide (k∈xs)) xs.length->xs.length<scanBound->K (dN y xs)->P)(j:∀I ts,s.heap.IsList (wd.ρ l) I->StrsAre I.toList ts->K (dN y ts)->P):P:=g6 h (λh=>ah h λxs e h=>xA (aL h) λh1 h=>EI (R.get (e_ O.CA e)) λ_ ob ho M _=>f xs ob ho M (mQ (aU h1)) h)
  λh=>ah h λxs e h=>ah h λts e2 h=>R.lst e λI n _ ho dL=>j I.toArray ts (b9 ho) (Jf dL e2) h
theorem xu:kI g .In wIn:=by
 intro F d A af a b u v _ ha hb s wd σ Q Z R J;refine ah J λy e J=>xE (VR.str e ha) λt N=>?_;rw[N];refine g6 J (λJ=>ah J λx e J=>xE (VR.str e hb) λC hv=>?_) λJ=>ah J λl e J=>?_
 ·rw[hv];exact PySem.P.in_str (az wd _ σ (.refl _) R rfl J)
 ·rw[(VR.ref e (VR.mono Z hb)).2];exact Jh R J (λxs ob ho M h1 J=>wpAny_inSet_of (eV _ _ _ t) rfl (M.setOf ho h1) (az wd _ σ (.refl _) R.toks (by rw[vy]) J))
   λI ts ho M J=>in_list_strs ho M (az wd _ σ (.refl _) R (by rw[vw]) J)
theorem vz:kI g .NotIn Rq:=by
 intro F d A af a b u v _ ha hb s wd σ Q Z R J;refine ah J λy e J=>xE (VR.str e ha) λt N=>ah J λl e J=>?_;rw[N,(VR.ref e (VR.mono Z hb)).2];exact Jh R J (λxs ob ho M h1 J=>wpAny_notInSet_of (eV _ _ _ t) rfl (M.setOf ho h1) (az wd _ σ (.refl _) R.toks (by rw[vy]) J))
  λI ts ho M J=>notin_list_strs ho M (az wd _ σ (.refl _) R (by rw[vw]) J)
noncomputable def xw(f:V->Option PyData):List V->Option (List PyData)
 | []=>some []
 |v::r=>(f v).bind λd=>(xw f r).bind λds=>some (d::ds)
noncomputable def ZB(f:Nat->Option PyData)(v:V):Option PyData:=@V.casesOn (λ_=>Option PyData) v (some .none) (λb=>some (.bool b)) (λi=>some (.int i)) (λx=>some (.str x)) (λ_=>none) f
noncomputable def pyL(mem:List O)(f:V->Option PyData)(l:Nat):Option PyData:=(mem[l]?).bind λo=>match o with
 | .list xs=>(xw f xs).bind λds=>some (.list ds)
 | .tup xs=>(xw f xs).bind λds=>some (.tuple ds)
 |_=>none
noncomputable def yr(mem:List O):Nat->V->Option PyData
 |0=>ZB λ_=>none
 |n+1=>ZB (pyL mem (yr mem n))
theorem AT{f:V->Option PyData}(S:∀v u d,VR wd v u->f v=some d->∃as,Reads h u d as){xs:List V}{ds:List PyData}(x:aE (VR wd) xs us)(e:xw f xs=some ds):∃as,ReadsAll h us ds as:=by
 induction x generalizing ds with
 |nil=>rw[<-aq e];exact⟨[],.nil⟩
 |cons h1 _ T=>exact aI e λd e1 e=>aI e λYx e2 e=>xE (S _ _ _ h1 e1) λas ha=>xE (T e2) λbs hb=>by rw[<-aq e];exact⟨_,.cons ha hb⟩
theorem Ji{f:Nat->Option PyData}(S:∀l d,l<wd.n->f l=some d->∃as,Reads h (.ref (wd.ρ l)) d as)(v:V)(u:Value)(d:PyData)(hv:VR wd v u)(e:ZB f v=some d):∃as,Reads h u d as:=by
 cases v with
 |none=>rw[<-aq e,hv];exact⟨_,.none⟩
 |bool b=>rw[<-aq e,hv];exact⟨_,.bool _⟩
 |int i=>rw[<-aq e];exact xE hv λt hv=>by rw[hv];exact⟨_,.int _ _⟩
 |str x=>rw[<-aq e];exact xE hv λt hv=>by rw[hv];exact⟨_,.str _ _⟩
 |fb _=>exact nS e
 |loc l=>rw[hv.2];exact S l d hv.1 e
theorem Jj(R:bU g F d wd σ s)(n:Nat):∀(v:V)(u:Value)(dt:PyData),VR wd v u->yr σ.mem n v=some dt->∃as,Reads s.heap u dt as:=by
 induction n with
 |zero=>exact Ji λl d _ e=>nS e
 |succ n T=>
  refine Ji λl d _ e=>aI e λo eo e=>jB (R.get eo) λ_ ob ho i=>?_;cases o with
  |list xs=>exact aI e λds e1 e=>dB i λI m e2 dL=>xE (AT T dL e1) λas ha=>by rw[<-aq e];rw[e2] at ho;exact⟨_,reads_list_at ho rfl rfl ha⟩
  |tup xs=>exact aI e λds e1 e=>dB i λI m e2 dL=>xE (AT T dL e1) λas ha=>by rw[<-aq e];rw[e2] at ho;exact⟨_,reads_tuple_at ho rfl rfl ha⟩
  |_=>exact nS e
def Rr(a b:V):ad Bool:=λσ Q=>aA (yr σ.mem 4 a) λx=>aA (yr σ.mem 4 b) λy=>gd (SeqAt.shaped x&&SeqAt.shaped y) (Q (PyData.eqv x y) σ)
def Vo(a b:V):ad Bool:=λσ Q=>Rr a b σ λr a9=>Q (!r) a9
theorem EY{af:Wd}(R:bU g F d wd σ s)(hr:cK A 0){a b:V}{v:Value}(ha:VR wd a u)(hb:VR wd b v){Q:Bool->St->Prop}(h:Rr a b σ Q)(k:∀x y as bs,Reads s.heap u x as->Reads s.heap v y bs->SeqAt.shaped x=true->SeqAt.shaped y=true->A.units+64<cLine->Q (PyData.eqv x y) σ->P):P:=ah h λx e1 h=>ah h λy e2 h=>xA (aL h) λh1 h=>xA ((aM _ _).mp h1) λh1 h2=>xE (Jj R 4 a u x ha e1) λas ra=>xE (Jj R 4 b v y hb e2) λbs rb=>
  k x y as bs ra rb h1 h2 (by have:=hr.units;exact aQ [_,_] (.c 1 (.a (.a (.a (.v 0) (.m 16 (.n 0))) (.n 80)) (.n 1)) (.v 1) .nil) 0 (.a (.a (.v 0) (.n 64)) (.n 1)) (.v 1) tt this) h
theorem CV:kI g .Eq Rr:=λF d A af a b u v hr ha hb s wd σ Q Z R J=>EY (af:=af) R hr (VR.mono Z ha) (VR.mono Z hb) J λx y as bs ra rb h1 h2 N J=>by exact SeqAt.compareEq_shaped ra rb h1 h2 N (az wd _ σ (.refl _) R rfl J)
theorem CW:kI g .NotEq Vo:=λF d A af a b u v hr ha hb s wd σ Q Z R J=>EY (af:=af) R hr (VR.mono Z ha) (VR.mono Z hb) J λx y as bs ra rb h1 h2 N J=>by exact SeqAt.compareNe_shaped ra rb h1 h2 N (az wd _ σ (.refl _) R rfl J)
end
section
theorem GU(w:World)(x:Str):PyData.keyHash w.params x=hashStr w x:=rfl
theorem vA(h:aE (mo g wd) es ds):∀e∈ds,∃k,(strKind g.prog g.w).is k e.key=true/\e.hash=(strKind g.prog g.w).hash k:=by
 induction h with
 |nil=>exact λ_ h=>nomatch h
 | @cons p _ _ _ e _ T=>exact λe' h=>(List.mem_cons.mp h).elim (λq=>dB e λt u e _=>by rw[q,e];exact⟨p.1,eV _ _ _ t,GU _ _⟩) λq=>T e' q
theorem Jk(k x:Str)(t:Tok):(strKind g.prog g.w).is k (.str x t)=d4 x k:=by refine(?_ :Value.isStrOf k (.str x t)=_);unfold Value.isStrOf;exact jW x k
theorem vB{n:Str}(h:aE (mo g wd) es ds):(∀v,eO n es=some v->∃u,(ds.find? λe=>(strKind g.prog g.w).is n e.key).map (·.val)=some u/\VR wd v u)/\(eO n es=none->(ds.find? λe=>(strKind g.prog g.w).is n e.key).map (·.val)=none):=by
 induction h with
 |nil=>exact⟨λv e=>nS e,λ_=>rfl⟩
 | @cons p d es ds e _ T=>
  refine dB e λt u e hv=>?_;rw[List.find?_cons,show(strKind g.prog g.w).is n d.key=d4 p.1 n by rw[e];exact Jk _ _ _];show(∀v,cond (d4 p.1 n) (some p.2) (eO n es)=some v->_)/\(cond (d4 p.1 n) (some p.2) (eO n es)=none->_);cases d4 p.1 n with
  |true=>exact⟨λv e'=>⟨u,by rw[e];rfl,aq e'▸hv⟩,λe=>MB e⟩
  |false=>exact T
noncomputable def mt:List (Str×V)->Bool
 | []=>true
 |p::r=>(eO p.1 r).isNone&&mt r
theorem GV{n:Str}(h:eO n es=none):n∉es.map (·.1):=by
 induction es with
 |nil=>exact λh=>nomatch h
 |cons p r T=>
  replace h:cond (d4 p.1 n) (some p.2) (eO n r)=none:=h;cases Y:d4 p.1 n with
  |true=>rw[Y] at h;exact MB h
  |false=>rw[Y] at h;exact λe=>(List.mem_cons.mp e).elim (λe=>by rw[(cq _ _).mpr e.symm] at Y;exact Ab Y) (T h)
theorem qp(h:mt es=true):(es.map (·.1)).Nodup:=by
 induction es with
 |nil=>exact .nil
 |cons p r T=>exact xA ((aM _ _).mp h) λh1 h2=>List.nodup_cons.mpr ⟨GV (Option.isNone_iff_eq_none.mp h1),T h2⟩
noncomputable def jR(es:List (Str×V))(ds:List DictEntry):List (Str×Value):=(es.map (·.1)).zip (ds.map (·.val))
theorem GW(h:aE (mo g wd) es ds):Pairs (strKind g.prog g.w) ds (jR es ds):=by
 induction h with
 |nil=>exact .nil
 |cons e _ T=>exact dB e λt u e _=>.cons (by rw[e];exact eV _ _ _ t) (by rw[e]) T
theorem pF(h:aE (mo g wd) es ds):(jR es ds).map (·.1)=es.map (·.1):=by unfold jR;rw[List.map_fst_zip];simp[h.len]
theorem rj(ds:List DictEntry)(n:Nat):(dictOf ds n).ExactDict:=⟨rfl,rfl,rfl⟩
theorem gw{n:Nat}(ho:h.get? a=some (dictOf ds n))(he:aE (mo g wd) es ds)(hn:mt es=true):h.DictOf (strKind g.prog g.w) a (jR es ds):=by refine⟨_,ds.toArray,n,ho,rj ds n,rfl,λe h=>vA he e (by simpa using h),by simpa using GW he,?_⟩;rw[pF he];exact qp hn
theorem xx{n:Nat}(ho:h.get? a=some (dictOf ds n))(he:aE (mo g wd) es ds):h.MapOf (strKind g.prog g.w) a (λn=>(ds.find? λe=>(strKind g.prog g.w).is n e.key).map (·.val)):=by
 refine⟨_,ds.toArray,n,ho,rj ds n,rfl,λe h=>vA he e (by simpa using h),λk=>?_⟩;unfold findBy;first
  |rfl
  |simp
noncomputable def tZ(mem:List O)(v:V):Option (Nat×List (Str×V)):=v.lo.bind λl=>(qZ mem[l]?).bind λes=>some (l,es)
theorem qq{o:Option O}(h:qZ o=some es):o=some (.dict es):=e_ O.CD h
theorem bU.dv(R:bU g F d wd σ s){a:V}(ha:VR wd a u){p:Nat×List (Str×V)}(h:tZ σ.mem a=some p)(k:∀ds n,u= .ref (wd.ρ p.1)->p.1<wd.n->s.heap.get? (wd.ρ p.1)=some (dictOf ds n)->aE (mo g wd) p.2 ds->P):P:=by refine aI h λl e h=>aI h λes e' h=>?_;rw[V.lH e] at ha;rw[<-aq h] at k;exact mH (R.get (qq e')) λZ ob ho ds n E G=>k ds n ha.2 Z (ho.trans (ag some E)) G
theorem yt{mem:List O}(M:hM g wd mem h)(Z:l<wd.n):(wd.ρ l==sysModules)=false:=beq_eq_false_iff_ne.mpr (M.low l Z)
def Vp(a i:V):ad V:=λσ Q=>aA (tZ σ.mem a) λp=>aA i.sv λx=>aA (eO x p.2) λv=>Q v σ
theorem ZC{b:PySem.Expr}{wa h:ad V}(ha:be g F k value wa)(hi:be g F k b h)(hp:nO b=true):be g F k (.Subscript value b pos) (λσ Q=>wa σ λa G=>h G λi E=>Vp a i E Q):=by intro d A af hr s wd σ Q Z R J;refine Subscript_ (bb.go (ha d A af hr) Z R J λu s' bg a a9 h1 h2 h3 h4=>?_);refine bb.go (hi d A af hr) (Z.trans h1) h2 h4 λv w_ o i m y1 O y3 y4=>?_;refine ah y4 λp e J=>ah J λx ex J=>ah J λf e2 J=>xE (VR.str ex y3) λt hv=>O.dv (VR.mono y1 h3) e λds n N dP ho H=>bx ((vB H).1 f e2) λu' Re Uu=>?_;rw[hv,N];refine tail_any ⟨_,ho,rfl⟩ slot_dict_getitem.lookup (wpAny_getItem_of (eV _ _ x t) (xx ho H) Re ?_) (lh hp _ _);exact az o f m (h1.trans y1) O.toks Uu J
def AU(vs:List V):ad V:=pV vs λa b σ Q=>aA (tZ σ.mem a) λp=>aA b.sv λx=>xa (eO x p.2) (λv=>Q v σ) (Q .none σ)
theorem AV:cz g k (.builtin "dict.get") AU:=by
 intro F d A af vs us hr D s wd σ Q Z R J;refine yq D J λa b u v e ha hb J=>ah J λp e1 J=>ah J λx ex J=>xE (VR.str ex hb) λt hv=>R.dv (VR.mono Z ha) e1 λds n N dP ho H=>?_;rw[e,N,hv];refine call_meetsIn PySem.F.slot_dict_get ⟨_,ho,rfl⟩ PySem.F.entry_dict_get (PySem.F.args_dict_get_2 _ _) (meets_dict_get (strKind g.prog g.w) _ (eV _ _ x t) (yt R.mem dP)) ⟨_,xx ho H,?_⟩;refine(?_ :∃bg b a9,_);refine GC J (λf e2 J=>bx ((vB H).1 f e2) λu' N hv=>?_) λe2 J=>?_
 ·rw[N];exact az wd f σ (.refl _) R.toks hv J
 ·rw[(vB H).2 e2];exact az wd .none σ (.refl _) R.toks rfl J
def EZ(a:V):ad Bool:=λσ Q=>aA (tZ σ.mem a) λp=>gd (mt p.2&&bw p.2.length) (Q (!(Nat.beq p.2.length 0)) σ)
theorem GX{W:ad V}(h:be g F k e W)(hv:∀bc b,PySem.isTrue e bc b=(do let v <-b;standAt e.pos;holding [v] (truthy v))):qV g F k e (λσ Q=>W σ λv a9=>EZ v a9 Q):=by
 intro d A af hr;rw[hv];refine bb.bind (h d A af hr) λwd u a Z D=>bb.standAt (bb.holding ?_);intro s bg σ Q j R J;refine ah J λp e J=>xA (aL J) λh1 J=>xA ((aM _ _).mp h1) λh1 h2=>R.dv (VR.mono j D) e λds n N dP ho H=>?_;rw[N];have cn:(jR p.2 ds).length=p.2.length:=by have:=ag List.length (pF H);simpa using this
 refine wpAny_truthy_dict (yt R.mem dP) (gw ho H h1) (by rw[cn];exact qY h2) ?_;rw[show(!(jR p.2 ds).isEmpty)= !(Nat.beq p.2.length 0) by rw[<-cn];cases jR p.2 ds<;>rfl];exact az bg _ σ (.refl _) R.toks rfl J
def Rs(vs:List V):ad V:=kM vs λa σ Q=>aA (tZ σ.mem a) λp=>gd (mt p.2) (jU (.bP .bI [a]) σ Q)
theorem GY:cz g k (.builtin "dict.items") Rs:=by intro F d A af vs us hr D s wd σ Q Z R J;refine q_ D J λa u e ha J=>ah J λp e1 J=>xA (aL J) λh1 J=>R.dv (VR.mono Z ha) e1 λds n N dP ho H=>?_;rw[N] at ha;rw[e,N];refine call_meetsIn oO ⟨_,ho,rfl⟩ PySem.F.entry_dict_items (PySem.F.args_dict_items_1 _) (meets_dict_items (strKind g.prog g.w) _ (yt R.mem dP)) ⟨⟨_,gw ho H h1⟩,?_⟩;exact az _ (.loc σ.mem.length) _ (Wd.aT _ _) (R.cE (o:=.bP .bI [a]) ⟨_,rfl,.cons (VR.mono (Z.trans (Wd.aT _ _)) ha) .nil⟩) R.pushed J
theorem Rt:be g F k (.Dict [] [] pos) (jU (.dict [])):=by intro d A af hr s wd σ Q Z R J;refine wpAny_Dict_empty ?_;exact az _ (.loc σ.mem.length) _ (Wd.aT _ _) (R.cE (o:=.dict []) ⟨[],0,rfl,.nil⟩) R.pushed J
theorem Jl:cz g k (.type "set") (λvs=>match vs with
 | []=>jU (.set [])
 |_=>vg):=by
 intro F d A af vs us hr D s wd σ Q Z R J;cases D with
 |nil=>refine call_set_0 λled=>?_;exact az _ (.loc σ.mem.length) _ (Wd.aT _ _) (R.cE (o:=.set []) ⟨by simpa using setObjOf_fresh led,rfl,rfl⟩) R.pushed J
 |cons _ _=>exact J.elim
noncomputable def Ru(o:Option O):Option (List Str):=o.bind O.se
noncomputable def Rv(mem:List O)(v:V):Option (Nat×List Str):=v.lo.bind λl=>(Ru mem[l]?).bind λxs=>some (l,xs)
theorem GZ{o:Option O}{xs:List Str}(h:Ru o=some xs):o=some (.set xs):=e_ O.CA h
noncomputable def jF(x:Str)(xs:List Str):List Str:=cond (dN x xs) xs (xs++[x])
theorem vC(x:Str)(xs:List Str):(jF x xs).length=if decide (x∈xs)=true then xs.length else xs.length+1:=by rw[vy];unfold jF;cases dN x xs<;>simp
theorem vD(x y:Str)(xs:List Str):decide (y∈jF x xs)=(decide (y∈xs)||decide (y=x)):=by
 unfold jF;cases h:dN x xs with
 |true=>
  have h1:=(fT x xs).mp h;by_cases e:y=x
  ·subst e;simp[h1]
  ·simp[e]
 |false=>simp
def Ni(vs:List V):ad V:=pV vs λa b σ Q=>aA (Rv σ.mem a) λp=>aA b.sv λx=>gd (Nat.ble p.2.length 20) (Q .none {σ with mem:=σ.mem.set p.1 (.set (jF x p.2))})
theorem CY:cz g k (.builtin "set.add") Ni:=by intro F d A af vs us hr D s wd σ Q Z R J;refine yq D J λa b u v e ha hb J=>ah J λp e1 J=>ah J λx ex J=>xA (aL J) λh1 J=>xE (VR.str ex hb) λt hv=>aI e1 λl r e1=>aI e1 λxs es e1=>?_;rw[<-aq e1] at h1 J;have h1:=aU h1;refine Qw (R.get (GZ es)) λdP o ho M hc hd=>?_;rw[e,(VR.ref r (VR.mono Z ha)).2,hv];refine call_set_add (eV _ _ x t) rfl (M.setOf ho (mQ (am h1 (by decide)))) (mQ (am (jz h1) (by decide))) λh' z q=>bx (q.objOf) λso' lj Vq=>?_;have i:=Vq.1;refine az wd .none _ (.refl _) (R.setM dP z lj (o':=.set (jF x xs)) ⟨?_,i.1,i.2.1⟩) rfl J;rw[vC,<-show(λj=>decide (j∈xs)||decide (j=x))=λk=>decide (k∈jF x xs) from funext λk=>(vD x k xs).symm];exact Vq
noncomputable def Nj(xs:List V)(i:Int)(v:V):Option (List V):=match i with
 | .ofNat n=>cond (Nat.blt n xs.length&&bw xs.length) (some (xs.set n v)) none
 | .negSucc n=>cond (Nat.blt n xs.length&&bw xs.length) (some (xs.set (xs.length-(n+1)) v)) none
def mu(a i v:V):ad Unit:=λσ Q=>aA (dC σ.mem a) λp=>aA i.iv λi=>aA (Nj p.2 i v) λI=>Q () {σ with mem:=σ.mem.set p.1 (.list I)}
theorem E0{x:Value}{n j:Nat}(h:k=j):Obj.mapSeq (λxs=>xs.setIfInBounds k x) (aG "list" us n)=aG "list" (us.set j x) n:=by rw[h];unfold Obj.mapSeq aG;simp
theorem Rw{m n:Nat}(hm:m<n):(Int.negSucc m+(n:Int)).toNat=n-(m+1):=by rw[show Int.negSucc m+(n:Int)=Int.subNatNat n (m+1) from rfl,sK hm];rfl
theorem t5{a i:V}{j x:Value}(ha:VR af a u)(hi:VR af i j)(hv:VR af v x):bb g F d A af um (setItem u j x) (mu a i v):=by
 intro s wd σ Q Z R J;refine ah J λp e J=>ah J λi r J=>ah J λI e2 Y=>xE (VR.int r hi) λt hj=>R.lv (VR.mono Z ha) e λus n N dP ho Nk=>?_;rw[N,hj];cases i with
 |negSucc m=>refine kL e2 λhc e2=>xA ((aM _ _).mp hc) λhm hz=>?_;rw[<-e2] at Y;have hm0:=aU hm;have hm:=Nk.len▸hm0;have hz:=Nk.len▸aU hz;refine ki_setBack (items:=us.toArray) (n:=n) ho (l6 m) (by rw[aZ];omega) (by omega) ?_;have e4:=E0 (us:=us) (x:=x) (n:=n) (k:=(Int.negSucc m+(us.toArray.size:Int)).toNat) (j:=p.2.length-(m+1)) (by rw[aZ,<-Nk.len];exact Rw hm0);exact az wd () _ (.refl _) (R.setM dP (er ..) (o':=.list (p.2.set (p.2.length-(m+1)) v)) ((ef _ ho (by rw[e4];rfl)).trans (ag some e4)) ⟨_,n,rfl,Nk.set (VR.mono Z hv) _⟩) d7 Y
 |ofNat m=>refine kL e2 λhc e2=>xA ((aM _ _).mp hc) λhm hz=>?_;rw[<-e2] at Y;have hm:=Nk.len▸aU hm;have hz:=Nk.len▸aU hz;refine ki_setAt ho (gl m) (Int.ofNat_lt.mpr (dA (dA hm hz) (by decide:16777216<=2 ^ 63))) (by rw[aZ];exact Int.ofNat_lt.mpr hm) ?_;have e4:=E0 (us:=us) (x:=x) (n:=n) (k:=(Int.ofNat m).toNat) rfl;exact az wd () _ (.refl _) (R.setM dP (er ..) (o':=.list (p.2.set m v)) ((ef _ ho (by rw[e4];rfl)).trans (ag some e4)) ⟨us.set m x,n,rfl,Nk.set (VR.mono Z hv) m⟩) d7 Y
theorem Jm{i:PySem.Expr}(he:be g F k e We)(ho:be g F k o Wo)(hi:be g F k i Wi)(M:∀d,swapsWith e (some (.Subscript o i p)) pos.line (aK F d)=Pure.pure false):iW g F k (.Assign [.Subscript o i p] e pos) (λσ Q=>We σ λv G=>Wo G λa E=>Wi E λj H=>mu a j v H λ_ h=>Q .next h):=by intro d A af hr s wd σ Q Z R J;refine wpAny_Assign_Subscript (bb.go (he d A af hr) Z R J λu dG D v G x1 x2 x3 x4=>?_) (M d);refine bb.go (ho d A af hr) (Z.trans x1) x2 x4 λb mM P a E y1 O y3 y4=>?_;refine bb.go (hi d A af hr) ((Z.trans x1).trans y1) O y4 λiv c X j H L z2 z3 z4=>?_;refine bb.go (t5 (VR.mono L y3) z3 (VR.mono (y1.trans L) x3)) (.refl _) z2 z4 λ_ CL vh _ h t1 t2 _ t4=>?_;exact az vh .next h (((x1.trans y1).trans L).trans t1) t2 rfl t4
theorem Jn{i:PySem.Expr}{op:Operator}{W:V->V->ad V}(MD:tR g op W)(ho:be g F k o Wo)(hi:be g F k i Wi)(he:be g F k e We)(ha:∀b iv new,augStore i b iv new=(do holding [new,b,iv] (setItem b iv new);release [new,b,iv] [];pure .next)):iW g F k (.AugAssign (.Subscript o i p) op e pos) (λσ Q=>Wo σ λa G=>Wi G λj E=>tP a j E λz H=>We H λv h=>W z v h λr nh=>mu a j r nh λ_ t=>Q .next t):=by intro d A af hr s wd σ Q Z R J;refine wpAny_AugAssign_SubscriptAny (bb.go (ho d A af hr) Z R J λu dG D a G x1 x2 x3 x4=>?_) ha;refine bb.go (hi d A af hr) (Z.trans x1) x2 x4 λiv mM P j E y1 O y3 y4=>?_;refine bb.go (tQ (VR.mono y1 x3) y3) (.refl _) O y4 λz c X Q6 H L z2 z3 z4=>?_;refine bb.go (he d A af hr) (((Z.trans x1).trans y1).trans L) z2 z4 λr CL vh f h t1 t2 t3 t4=>?_;refine bb.go (MD F d A vh Q6 f z r (VR.mono t1 z3) t3) (.refl _) t2 t4 λadz GI q6 r' nh q1 q2 q3 q4=>?_;refine bb.go (t5 (VR.mono (((y1.trans L).trans t1).trans q1) x3) (VR.mono ((L.trans t1).trans q1) y3) q3) (.refl _) q2 q4 λ_ AL lq _ t w1 w2 _ w4=>?_;exact az lq .next t (((((x1.trans y1).trans L).trans t1).trans q1).trans w1) w2 rfl w4
def uo(v:V)(K:Str->Prop):Prop:=aA v.sv K
theorem ZD{W:ad V}(h:be g F k e W):be g F k (.FormattedValue e (-1) none pos) (λσ Q=>W σ λv a9=>uo v λx=>gd (bw x.length) (Q (.str x) a9)):=by intro d A af hr s wd σ Q Z R J;refine wpAny_FormattedValue_plain (bb.go (h d A af hr) Z R J λu dG D v G x1 x2 x3 x4=>?_);refine ah x4 λy e x4=>xA (aL x4) λh1 x5=>xE (VR.str e x3) λt N=>?_;rw[N];exact wpAny_formatField_str (az D (.str y) G x1 x2 ⟨_,rfl⟩ x5) (az D (.str y) G x1 x2.toks ⟨_,rfl⟩ x5) (dp h1)
def Jo(g:G)(F:df)(k:Nat)(es:List PySem.Expr)(W:Str->ad Str):Prop:=∀d A af bV s wd σ (Q:Str->St->Prop),cK A k->Wd.Le af wd->bU g F d wd σ s->W bV σ Q->
  Joins (model g.prog g.w) A (λ_ _=>False) (evalEach es (aK F d)) bV (λm s'=>∃bg a9,Wd.Le wd bg/\bU g F d bg a9 s'/\Q m a9) s
theorem Vr:Jo g F k [] (λbV σ Q=>Q bV σ):=λd A af bV s wd σ Q hr Z R J=>⟨wd,σ,.refl _,R,J⟩
theorem vE{Q Q':Str->Shared->Prop}(Y:∀o s,Q o s->Q' o s)(ts:List (Sem Value)):∀(bV:Str)(s:Shared),Joins M A E ts bV Q s->Joins M A E ts bV Q' s:=by
 induction ts with
 |nil=>exact λbV s h=>Y _ _ h
 |cons t r T=>exact λbV s h=>a_ h (λv dG x=>d3 x λy tk e hz hr=>⟨y,tk,e,hz,T _ _ hr⟩) λ_ _ x=>x
theorem Rx{es:List PySem.Expr}{W:ad V}{W':Str->ad Str}(h:be g F k e W)(h':Jo g F k es W')(he:∀bc,evalEach (e::es) bc=eval e bc::evalEach es bc):Jo g F k (e::es) (λbV σ Q=>W σ λv G=>uo v λy=>gd (bw (bV.length+y.length)) (W' (bV++y) G Q)):=by intro d A af bV s wd σ Q hr Z R J;rw[he];refine bb.go (h d A af hr) Z R J λu dG D v G x1 x2 x3 x4=>?_;refine ah x4 λy e x4=>xA (aL x4) λh1 x5=>xE (VR.str e x3) λt N=>?_;exact⟨y,t,N,by rw[Str.length_append];exact dp h1,vE (λo s' z=>d3 z λbg a9 L z2 z3=>⟨bg,a9,x1.trans L,z2,z3⟩) _ _ _ (h' d A af (bV++y) dG D G Q hr (Z.trans x1) x2 x5)⟩
theorem Nl{i c:PySem.Expr}{es:List PySem.Expr}{W:Str->ad Str}(h:Jo g F k (i::c::es) W):be g F k (.JoinedStr (i::c::es) pos) (λσ Q=>W Str.empty σ λm a9=>gd (bw m.length) (Q (.str m) a9)):=by
 intro d A af hr s wd σ Q Z R J;refine wpAny_JoinedStr (vE (λo s' z=>?_) _ _ _ (h d A af Str.empty s wd σ _ hr Z R J));refine d3 z λbg a9 L z2 z3=>?_;try clear z
 refine xA (aL z3) λh1 z4=>?_;exact⟨dp h1,bg,.str o,a9,L,z2.toks,⟨_,rfl⟩,z4⟩
end
set_option maxHeartbeats 1000000
theorem G0:typeLookup (.type "list") "append"=Pure.pure (some (.builtin "list.append")):=by rw[hY,jx];kernel_rfl
theorem n3:Slot "method_descriptor" "__get__" "method_descriptor.__get__":=.of (owner:="method_descriptor") (n:="__get__") (by rw[hY,jx];kernel_rfl) (by decide+kernel) (by decide+kernel) (by decide+kernel)
  (by first|exact .inl (by decide+kernel)|exact .inr (by decide+kernel)) (by rw[ki];kernel_rfl)
theorem G1:typeLookup (.type "method_descriptor") "__set__"=Pure.pure none:=by rw[hY,jx];kernel_rfl
theorem G2:typeLookup (.type "method_descriptor") "__delete__"=Pure.pure none:=by rw[hY,jx];kernel_rfl
theorem yu:entryFor table "method_descriptor.__get__"=some Builtin.«method_descriptor.__get__» :=o5 (by kernel_rfl)
theorem AW(a b c:Value):argsOk "method_descriptor.__get__" ⟨[a,b,c],[]⟩:=by unfold argsOk;kernel_rfl
theorem AX:Manifest.toldItsClass.contains "list.append"=false:=by decide+kernel
theorem yv:(".".intercalate ("list.append".cutAt '.').dropLast)="list":=by first|kernel_rfl|decide+kernel
noncomputable def rk(a:Addr):Obj:={cls:=.type "builtin_function_or_method",data:=.fields #[.builtin "list.append",.ref a]}
section
variable {g:Array GenState}{d:Drawn}{t:Nat}{os:OsState}{o:Obj}
theorem C0{R:Result->Shared->Prop}(B:h.get? a=some o)(hc:o.cls= .type "list")(Y:R (.ok (.ret (.ref h.objs.size))) ⟨h.push (rk a),g,d,t,os⟩):codeAny (model prog w) A (.call (.builtin "method_descriptor.__get__") ⟨[.builtin "list.append",.ref a,.type "list"],[]⟩) R ⟨h,g,d,t,os⟩:=by
 have y:(⟨h,g,d,t,os⟩:Shared).TypeIs (.ref a) "list":=⟨_,B,hc⟩;have hT5:=b0;have f9:=AX;have f8:=sub_list_list;refine oU n3.plain yu (n3.check _ _ _ _ _ _ _ _ hT5 (AW _ _ _) ?_);have f10:isSubtype (.type "list") (.type (".".intercalate ("list.append".cutAt '.').dropLast))=Pure.pure true:=by rw[yv];exact sub_list_list
 repeat (any_goals (first|assumption|wp_step))
theorem yw{Q:PySem.Fin->Shared->Prop}{n:Nat}(B:h.get? a=some {cls:=.type "list",dict:=none,data:=.seq xs n,slots:= #[]})(Y:Q (.done (.ret (.ref h.objs.size))) ⟨h.push (rk a),g,d,t,os⟩):wpAny (model prog w) A (Builtin.«object.__getattribute__» ⟨[.ref a,.str "append" tk],[]⟩) Q E ⟨h,g,d,t,os⟩:=by
 have y:(⟨h,g,d,t,os⟩:Shared).TypeIs (.ref a) "list":=⟨_,B,rfl⟩;have hT5:=b0;have f4:=G0;have f5:=b0;have f6:=n3.lookup;have f7:=G1;have f8:=G2;repeat (any_goals (first|assumption|wp_step))
 refine C0 B rfl ?_;repeat (any_goals (first|assumption|wp_step))
theorem AY{R:Result->Shared->Prop}{n:Nat}(B:h.get? a=some {cls:=.type "list",dict:=none,data:=.seq xs n,slots:= #[]})(Y:R (.ok (.ret (.ref h.objs.size))) ⟨h.push (rk a),g,d,t,os⟩):codeAny (model prog w) A (.call (.builtin "list.__getattribute__") ⟨[.ref a,.str "append" tk],[]⟩) R ⟨h,g,d,t,os⟩:=oU PySem.F.slot_list_getattribute.plain PySem.F.entry_list_ga (PySem.F.slot_list_getattribute.check _ _ _ _ _ _ _ _ (show(⟨h,g,d,t,os⟩:Shared).TypeIs (.ref a) "list" from⟨_,B,rfl⟩) (PySem.F.args_list_getattribute_2 _ _) (yw B Y))
theorem AZ{Q:Value->Shared->Prop}{n:Nat}{ex:Bool}(B:h.get? a=some {cls:=.type "list",dict:=none,data:=.seq xs n,slots:= #[]})(Y:Q (.ref h.objs.size) ⟨h.push (rk a),g,d,t+1,os⟩):wpAny (model prog w) A (getAttr (.ref a) "append" ex) Q E ⟨h,g,d,t,os⟩:=by
 have y:∀t,(⟨h,g,d,t,os⟩:Shared).TypeIs (.ref a) "list":=λ_=>⟨_,B,rfl⟩;have q:=PySem.F.slot_list_getattribute.lookup;have f3:=PySem.F.slot_list_getattribute.bind (.ref a);unfold getAttr getAttrBy;repeat (any_goals (first|assumption|exact y _|wp_step))
 rw[aH (by cases ex<;>decide)];repeat (any_goals (first|assumption|exact y _|wp_step))
 refine AY B ?_;repeat (any_goals (first|assumption|exact y _|wp_step))
end
section
def gf(g:G)(k:Nat)(W:V->List V->ad V):Prop:=(∀(F:df)(d:hJ)(wd:Wd)(σ:St)(s:Shared)(v:V)(u:Value)(vs:List V)(Q:V->St->Prop),bU g F d wd σ s->VR wd v u->W v vs σ Q->jK (model g.prog g.w) s.heap u)/\
 (∀(F:df)(d:hJ)(A:Around)(af:Wd)(v:V)(u:Value)(vs:List V)(us:List Value),cK A k->VR af v u->aE (VR af) vs us->bb g F d A af qg (call u us) (W v vs))
noncomputable def Vs(w:Value):Option Addr:=match w with
 | .ref b=>some b
 |_=>none
theorem Jp{w:Value}{b:Addr}(h:Vs w=some b):w= .ref b:=by cases w<;>first|exact nS h|exact ag _ (aq h)
noncomputable def vF(a:Addr)(v:V):Bool:=(v.im.bind Vs).any λb=>Nat.beq b a
theorem n4(h:vF a v=true):v= .fb (.ref a):=bx (fj h) λb e h=>aI e λw e1 e2=>by rw[V.CG e1,Jp e2,bK h]
theorem Pv(f:Addr){W:List V->ad V}(N:∀M h,(∀a o,g.hb.get? a=some o->h.get? a=some o)->jK M h (.ref f))(hc:cz g k (.ref f) W):gf g k (λv vs σ Q=>gd (vF f v) (W vs σ Q)):=by
 refine⟨λF d wd σ s v u vs Q R hv J=>xA (aL J) λh1 _=>?_,λF d A af v u vs us hr hv D s wd σ Q Z R J=>xA (aL J) λh1 T=>?_⟩
 ·rw[n4 h1] at hv;rw[show u= .ref f from hv];exact N _ _ R.hb
 ·rw[n4 h1] at hv;rw[show u= .ref f from hv];exact hc F d A af vs us hr D s wd σ Q Z R T
theorem bU.fl2(R:bU g F d wd σ s){p:FK×List V}{q:V×V}(e:(σ.mem[l]?).bind O.fl=some p)(e2:l2 p.2=some q)(k:∀u v,l<wd.n->s.heap.get? (wd.ρ l)=some (IG p.1.name [u,v])->VR wd q.1 u->VR wd q.2 v->P):P:=u7 (R.get (e_ O.CE e)) λZ ob ho I e4 dL=>by rw[CF e2] at dL;exact CQ dL λu v E N hv=>k u v Z (ho.trans (by rw[e4,E])) N hv
noncomputable def xy(f:Addr)(o:Option O):Option V:=(o.bind O.fl).bind λp=>cond p.1.me ((l2 p.2).bind λq=>cond (vF f q.1) (some q.2) none) none
noncomputable def A0(f:Addr)(mem:List O)(v:V):Option V:=v.lo.bind λl=>xy f mem[l]?
theorem rm{f:Addr}(R:bU g F d wd σ s)(hv:VR wd v u){self:V}(h:A0 f σ.mem v=some self):∃x su,u= .ref x/\s.heap.get? x=some (methodObj (.ref f) su)/\VR wd self su:=aI h λl e h=>aI h λp ep h=>lg h λhm h=>aI h λq y h=>lg h λhi h=>R.fl2 ep y λa b dP ho ha hb=>by rw[n4 hi] at ha;rw[FK.QG hm,show a= .ref f from ha] at ho;exact⟨_,b,(VR.ref e hv).2,ho,aq h▸hb⟩
theorem Ry(f:Addr){W:List V->ad V}(Rz:fnIn g.K f=true)(hc:cO g k (.ref f) W):gf g k (λv vs σ Q=>aA (A0 f σ.mem v) λself=>W (self::vs) σ Q):=by
 refine⟨λF d wd σ s v u vs Q R hv J=>ah J λself h1 _=>d3 (rm R hv h1) λx su e B _=>?_,λF d A af v u vs us hr hv D s wd σ Q Z R J=>ah J λself h1 J=>d3 (rm R (VR.mono Z hv) h1) λx su e B M=>?_⟩
 ·rw[e];exact keeps_M Rz s.heap ⟨B,g.X.keeps R.hb⟩
 ·rw[e];exact fi (method_call B (hc F d A wd (self::vs) (su::us) hr (.cons M (D.mono λ_ _=>VR.mono Z)) s wd σ Q (.refl _) R J))
noncomputable def Pw(w:Value):Bool:=match w with
 | .builtin i=>i=="list.append"
 |_=>false
theorem G3{w:Value}(h:Pw w=true):w= .builtin "list.append":=by cases w<;>first|exact nB h|exact ag _ (ib h)
noncomputable def Px(o:Option O):Option V:=(o.bind O.fl).bind λp=>cond p.1.bm ((l2 p.2).bind λq=>cond (q.1.im.any Pw) (some q.2) none) none
noncomputable def Jq(mem:List O)(v:V):Option V:=v.lo.bind λl=>Px mem[l]?
theorem A1(R:bU g F d wd σ s)(hv:VR wd v u){self:V}(h:Jq σ.mem v=some self):∃x su,u= .ref x/\s.heap.get? x=some {cls:=.type "builtin_function_or_method",data:=.fields #[.builtin "list.append",su]}/\VR wd self su:=aI h λl e h=>aI h λp ep h=>lg h λhm h=>aI h λq y h=>lg h λhi h=>bx (fj hi) λw ew hw=>R.fl2 ep y λa b dP ho ha hb=>by rw[V.CG ew,G3 hw] at ha;rw[FK.QH hm,show a= .builtin "list.append" from ha] at ho;exact⟨_,b,(VR.ref e hv).2,ho,aq h▸hb⟩
theorem vG{vs:Array Value}(B:h.get? x=some {cls:=.type "builtin_function_or_method",data:=.fields vs}):jK M h (.ref x):=⟨.machine,.inr (.inl rfl),(Looks.ld B).andThen .now⟩
theorem jh{c:Bool}{a b:Sem α}{Q:α->Shared->Prop}(hc:c=true)(h:wpAny M A a Q E s):wpAny M A (if c=true then a else b) Q E s:=by subst hc;exact h
theorem up:isSubtype (.type "list") (.type "module")=Pure.pure false:=by rw[ki];kernel_rfl
theorem A2:builtinKind "list.append"=some .method:=by decide+kernel
theorem vH:Manifest.varargsMethods.contains "list.append"=false:=by decide+kernel
noncomputable def xz:Manifest.Signature:=(Manifest.signature? "list.append").getD ⟨.positional,"","",.none,[]⟩
theorem C1:Manifest.signature? "list.append"=some xz:=by kernel_rfl
theorem G4(a:Addr)(v:Value):Bind.checkArgs "list.append" {xz with full:=s!"{Bind.lastOf "list"}.{Bind.lastOf "list.append"}"} ⟨[.ref a,v],[]⟩=Pure.pure ():=by first|kernel_rfl|rfl
theorem C2{Q:Unit->Shared->Prop}{v:Value}{n:Nat}(B:s.heap.get? a=some {cls:=.type "list",dict:=none,data:=.seq xs n,slots:= #[]})(Y:Q () s):wpAny M A (checkBoundCall "list.append" ⟨[.ref a,v],[]⟩) Q E s:=by obtain⟨h,g,d,t,os⟩:=s;have y:(⟨h,g,d,t,os⟩:Shared).TypeIs (.ref a) "list":=⟨_,B,rfl⟩;have p:=up;unfold checkBoundCall;rw[C1,A2];dsimp only;refine fe (by decide) ?_;refine U (ka y p ?_);rw[vH];refine fe (by decide) ?_;have hb:=G4 a v;refine U ?_;repeat (any_goals (first|assumption|wp_step))
theorem rn(I:List Value)(y:Value)(n:Nat):Obj.mapSeq (·.push y) (aG "list" I n)=aG "list" (I++[y]) (n+1):=by unfold aG;rw[mapSeq_push];simp
theorem Jr:(Value.type "builtin_function_or_method"==Value.type "method"||Value.type "builtin_function_or_method"==Value.type "builtin_function_or_method"||Value.type "builtin_function_or_method"==Value.type "method-wrapper")=true:=by decide
theorem Py:(Value.type "builtin_function_or_method" !=Value.type "method")=true:=by decide
theorem vI:gf g k (λv vs σ Q=>aA (Jq σ.mem v) λself=>gE (self::vs) σ Q):=by
 refine⟨λF d wd σ s v u vs Q R hv J=>ah J λself h1 _=>d3 (A1 R hv h1) λx su e B _=>?_,λF d A af v u vs us hr hv D s wd σ Q Z R J=>ah J λself h1 J=>d3 (A1 R (VR.mono Z hv) h1) λx su e B M=>?_⟩
 ·rw[e];exact vG B
 ·have J:kM vs (λv σ Q=>aA (dC σ.mem self) λp=>gd (bw p.2.length) (Q .none {σ with mem:=σ.mem.set p.1 (.list (p.2++[v]))})) σ Q:=J;refine q_ D J λf y e1 Uu J=>ah J λp e2 J=>xA (aL J) λh2 J=>R.lv M e2 λI n N dP ho dL=>?_;rw[e,e1];rw[N] at B;refine fi (o9 ?_);refine(?_ :wpAny _ A.in1 (load x>>=_) _ _ s);refine U (kr B ?_);refine jh Jr ?_;refine jh Py ?_;refine U (C2 ho ?_);refine U (aj (aj ?_));refine⟨gX PySem.F.slot_list_append.plain _,fg PySem.F.entry_list_append ?_⟩;refine(?_ :wpAny _ _ (updateSeq (wd.ρ p.1) (·.push y)>>=λ_=>ret .none) _ _ s);have hz:=dp h2;rw[dL.len] at hz;refine U (o8 ho rfl (aj ?_) (by rw[aZ];exact hz) (by rw[pd,aZ];exact jz hz));exact az wd .none _ (.refl _) (R.setM dP (er ..) (o':=.list (p.2++[f])) ((ef _ ho (by rw[rn];rfl)).trans (ag some (rn I y n))) ⟨I++[y],n+1,rfl,dL.append (.cons (VR.mono Z Uu) .nil)⟩) rfl J
theorem A3(x:Str)(t:Tok)(v:Value):checkBoundCall "str.join" ⟨[.str x t,v],[]⟩=Pure.pure ():=by first|kernel_rfl|rfl
theorem G5{Nh:Str}{t:Tok}(ha:g.hb.get? a=some {cls:=.type "builtin_function_or_method",data:=.fields #[.builtin "str.join",.str Nh t]}):cz g k (.ref a) (λvs=>Jg (.str Nh::vs)):=by intro F d A af vs us hr D s wd σ Q Z R J;have J:kM vs (λb σ Q=>aA (dC σ.mem b) λp=>aA (kN p.2) λts=>gd (JoinOk Nh ts) (Q (.str (Txt.join Nh ts)) σ)) σ Q:=J;refine q_ D J λb v e hb J=>ah J λp e2 J=>ah J λts e3 J=>xA (aL J) λh1 J=>R.lv (VR.mono Z hb) e2 λI n N dP ho dL=>bx (ri dL e3) λll e4 E=>?_;rw[e,N];rw[e4] at ho;rw[<-E] at h1 J;refine fi (o9 ?_);refine(?_ :wpAny _ A.in1 (load a>>=_) _ _ s);refine U (kr (R.hb _ _ ha) ?_);refine jh Jr ?_;refine jh Py ?_;refine U (wpAny_of_eq (A3 _ _ _) ?_);refine U (aj (aj ?_));refine⟨gX PySem.F.slot_str_join.plain _,fg PySem.F.entry_str_join ?_⟩;have ME:=h1;unfold JoinOk at ME;rw[gS] at ME;rw[iq PySem.F.slot_str_join.plain _];exact meets_str_join_list Nh t (wd.ρ p.1) ll ME g.prog g.w A (I2 g F d wd Q) s ⟨b9 ho,post_join ll ⟨joinFit_length ME,λC tk=>az wd (.str _) σ (.refl _) R.toks ⟨_,rfl⟩ J⟩⟩
def t6(a:V):ad V:=λσ Q=>aA (dC σ.mem a) λ_=>jU (.bP .tN [.fb (.builtin "list.append"),a]) σ Q
theorem A4{n:Str}{W:ad V}(h:be g F k o W)(hn:n="append")(he:∀bc,eval (.Attribute o n pos) bc=(do
  let o' <-eval o bc
  standAt pos.atName
  let r <-holding [o'] (getAttr o' n true)
  letTemporaryGo o o' r
  Pure.pure r)):be g F k (.Attribute o n pos) (λσ Q=>W σ λa a9=>t6 a a9 Q):=by
 subst hn;intro d A af hr;rw[he];refine bb.bind (h d A af hr) λwd u a Z D=>bb.standAt ?_;intro s bg σ Q j R J;have ha:=VR.mono j D;refine ah J λp e T=>R.lv ha e λI n N dP ho dL=>?_;rw[N] at ha ⊢;refine U (bq (AZ ho ?_));refine U (sF (aj ?_));exact az _ (.loc σ.mem.length) _ (Wd.aT _ _) ((R.cE (o:=.bP .tN [.fb (.builtin "list.append"),a]) ⟨[.builtin "list.append",.ref (bg.ρ p.1)],rfl,.cons rfl (.cons (VR.mono (Wd.aT _ _) ha) .nil)⟩).toks) R.pushed T
structure Nm(K:Frag)(C:Addr)(n:Str)(f:Addr):Prop where
 find:findIn K (.ref C) n=some (some (.ref f))
 ty:typeIn K (.ref f)=some (.type "function")
 get:specialIn K (.ref f) "__get__"=some (some (.builtin "function.__get__"))
 takes:takesIn K (.ref f)=some false
 fn:fnIn K f=true
 keep:keepIn K (.ref f)=true
 copied:copiedNames.contains n=false
def Js(C:Addr)(n:Str)(f:Addr)(a:V):ad V:=λσ Q=>aA (d5 C σ.mem a) λp=>gd (eO n p.2).isNone (jU (.bP .meth [.fb (.ref f),a]) σ Q)
theorem Nn{f:Addr}{n n':Str}{W:ad V}(h:be g F k o W)(hn:n=n')(HC:sU g.K C)(HD:Nm g.K C n' f)(he:∀bc,eval (.Attribute o n pos) bc=(do
  let o' <-eval o bc
  standAt pos.atName
  let r <-holding [o'] (getAttr o' n true)
  letTemporaryGo o o' r
  Pure.pure r)):be g F k (.Attribute o n pos) (λσ Q=>W σ λa a9=>Js C n' f a a9 Q):=by
 subst hn;intro d A af hr;rw[he];refine bb.bind (h d A af hr) λwd u a Z D=>bb.standAt ?_;intro s bg σ Q j R J;have ha:=VR.mono j D;refine ah J λp h1 T=>xA (aL T) λh2 C3=>f_ (nR R ha h1) λx ds m qi I H _=>?_;rw[qi] at ha ⊢;have nX:=(uK H).2 (by simpa using h2);refine U (bq (get_bind (g.X.keeps R.hb) I HC.ga (findObj_fn HC.hd HD.find HD.get HD.takes HD.copied (by rw[lookIn_dict,nX])) HC.gt
  (fi (fn_get (g.X.keeps R.hb) HD.ty (handed_on rfl (U (sF (aj ?_))))))))
 exact az _ (.loc σ.mem.length) _ (Wd.aT _ _) ((R.cE (o:=.bP .meth [.fb (.ref f),a]) ⟨[.ref f,.ref x],rfl,.cons rfl (.cons (VR.mono (Wd.aT _ _) ha) .nil)⟩).toks) R.pushed C3
theorem yx{K:Frag}{ox od:Obj}{name:Str}{f:Addr}{v:Value}(X:K.In s.heap) (I:PySem.W.InstAt s.heap x ox C (some od)) (hga:findIn K (.ref C) "__getattribute__"=some (some (.builtin "object.__getattribute__"))) (hk:findIn K (.ref C) "__getattr__"=some none)(S:findIn K (.ref C) name=some (some (.ref f))) (ht:typeIn K (.ref f)=some (.type "function")) (M:lookIn name od=some (some v))(h:wpAny (model prog w) A (getAttr (.ref x) name) (λv=>Q (v,[])) E s):wpAny (model prog w) A (getMethod (.ref x) name pl) Q E s:=by
 have ZE:=PySem.F.canon_object_ga;have u:=U (a_ h (λ_ _ z=>aj z) λ_ _ z=>z);unfold getMethod specialOf;refine U (U (I.type.here ((looks_findIn X hga).here ?_)));dsimp only;rw[ZE,aH (by decide)];refine U (U (I.type.here ((looks_findIn X hk).here ?_)));refine U (U (I.type.here ((looks_findIn X S).here (U ((looks_typeIn X ht).here ?_)))));rw[aH (by decide+kernel)];refine U (pe I.at_ ?_);have hd:=I.dict;cases e:ox.dict with
 |none=>rw[e] at hd;exact hd.elim
 |some dx=>rw[e] at hd;refine U (U (pe hd ?_));rw[nsLook_of M];refine aj ?_;dsimp only[Option.isSome];exact jh rfl u
structure xB(K:Frag)(C:Addr)(n:Str):Prop extends NameK K C n where
 fn:∀f,findIn K (.ref C) n=some (some f)->typeIn K f=some (.type "function")
theorem vJ{n:Str}(HC:sU g.K C)(q:xB g.K C n){a:V}(R:bU g F d wd σ s)(ha:VR wd a u){P:V->St->Prop}(J:AF C n a σ P) (h:∀v r s',VR wd v r->bU g F d wd σ s'->P v σ->Q (r,[]) s'):wpAny (model g.prog g.w) A (getMethod u n pl) Q E s:=by
 refine ah J λp h1 J=>ah J λv h2 J=>xA (aL J) λh3 J=>f_ (nR R ha h1) λx ds m qi I H _=>bx ((uK H).1 v h2) λw hw hv=>?_;rw[qi];have Pz:lookIn n (dictOf ds m)=some (some w):=by rw[lookIn_dict];exact hw
 have Vt:wpAny (model g.prog g.w) A (getAttr (.ref x) n) (λv=>Q (v,[])) E s:=
  get_value (g.X.keeps R.hb) I HC.ga (q.toNameK.find HC.hd Pz) (AE hv h3) (h v w _ hv R.toks J)
 refine bx (q.there) λb Uv hb2=>?_;cases b with
 |none=>exact method_usual (g.X.keeps R.hb) I HC.ga HC.gt Uv rfl Vt
 |some f=>refine dB (hb2 f rfl) λy get jM _=>?_;rw[jM] at Uv;exact yx (g.X.keeps R.hb) I HC.ga HC.gt Uv (q.fn _ Uv) Pz Vt
theorem pX(hc:gf g k W)(ha:sR g F k args wa)(i:∀bc pos,((backTo pos (starEach args bc)).any (·.1))=false){f:Value}(hr:cK A k) (hv:VR af v f):bb g F d A af qg (callWith pos f [] (backTo pos (starEach args (aK F d))) []) (λσ Q=>wa σ λvs a9=>W v vs a9 Q):=jY ha i hr (λwd σ s vs Q Z R J=>hc.1 F d wd σ s v f vs Q R (VR.mono Z hv) J) λwd vs us Z D=>hc.2 F d A wd v f vs us hr (VR.mono Z hv) D
theorem G6{x:Str}{wf:ad V}(S:be g F k (.Name x p) wf)(ha:sR g F k args wa)(hc:gf g k W)(i:∀bc pos,((backTo pos (starEach args bc)).any (·.1))=false):be g F k (.Call (.Name x p) args [] pos) (λσ Q=>wf σ λv G=>wa G λvs E=>W v vs E Q):=by intro d A af hr;refine(?_ :bb g F d A af qg (do callWith pos (<-eval (.Name x p) (aK F d)) [] (backTo pos (starEach args (aK F d))) []) _);exact bb.bind (S d A af hr) λwd u v Z D=>pX hc ha i hr D
theorem G7{n n':Str}{ap:Pos}(ho:be g F k o Wo)(ha:sR g F k args wa)(hn:n=n')(HC:sU g.K C)(q:xB g.K C n')(hc:gf g k W)(l:fR o n ap args pos) (i:∀bc pos,((backTo pos (starEach args bc)).any (·.1))=false):be g F k (.Call (.Attribute o n ap) args [] pos) (λσ Q=>Wo σ λb G=>AF C n' b G λt E=>wa E λvs H=>W t vs H Q):=by subst hn;intro d A af hr;refine xE (l (aK F d)) λpl he=>?_;rw[he];refine bb.bind (ho d A af hr) λwd u b Z D=>bb.standAt ?_;intro s bg σ Q j R J;refine U (bq (vJ HC q R (VR.mono j D) J λv r s' hv R' UX=>?_));exact pX hc ha i hr hv s' bg σ Q (.refl _) R' UX
end
set_option maxHeartbeats 200000
section
theorem ZF{x y:PySem.Expr}{Wx Wy:ad V}(B:be g F k x Wx)(hy:be g F k y Wy):be g F k (.BoolOp .Or [x,y] pos) (λσ Q=>Wx σ λv G=>nL v G λb E=>br b (Q v E) (Wy E Q)):=by
 intro d A af hr s wd σ Q Z R J;refine wpAny_Or2 (bb.go (B d A af hr) Z R J λu dG D v G x1 x2 x3 x4=>?_);refine bb.go (xp x3) (.refl _) x2 x4 λb mM P b' E y1 O y3 y4=>?_;rw[show b=b' from y3];cases b' with
 |true=>exact az P v E (x1.trans y1) O (VR.mono y1 x3) y4
 |false=>exact bb.go (hy d A af hr) ((Z.trans x1).trans y1) O y4 λr c X r' H L z2 z3 z4=>az X r' H ((x1.trans y1).trans L) z2 z3 z4
def E1(g:G)(F:df)(k:Nat)(ts:List PySem.Expr)(W:V->ad Unit):Prop:=∀d A af v u,cK A k->VR af v u->bb g F d A af um (assignAll u ((assignEach ts (aK F d)).map (·.2))) (W v)
theorem RB{W:V->ad Unit}(h:q9 g F k t W)(he:∀bc,(assignEach [t] bc).map (·.2)=[assign t bc]):E1 g F k [t] W:=by intro d A af v u hr hv;rw[he];exact h d A af v u hr hv
theorem RD{C:PySem.Expr}{W W':V->ad Unit}(h:q9 g F k t W)(h':q9 g F k C W')(he:∀bc,(assignEach [t,C] bc).map (·.2)=[assign t bc,assign C bc]):E1 g F k [t,C] (λv σ Q=>W v σ λ_ G=>W' v G Q):=by intro d A af v u hr hv;rw[he];show bb g F d A af um (do holding [u] (assign t (aK F d) u);assignAll u [assign C (aK F d)]) _;refine bb.bind (bb.holding (h d A af v u hr hv)) λwd _ _ Z _=>?_;exact h' d A wd v u hr (VR.mono Z hv)
theorem C4{W:V->ad Unit}(he:be g F k e We)(ht:E1 g F k ts W)(M:∀d,swapsWithSole ts e pos.line (aK F d)=Pure.pure false) (hw:∀d,swappedStores ts e (aK F d)=Pure.pure none):iW g F k (.Assign ts e pos) (λσ Q=>We σ λv G=>W v G λ_ E=>Q .next E):=by intro d A af hr s wd σ Q Z R J;refine wpAny_Assign_stores (bb.go (he d A af hr) Z R J λu dG D v G x1 x2 x3 x4=>?_) (M d) (hw d);refine bb.go (ht d A D v u hr x3) (.refl _) x2 x4 λ_ mM P _ E y1 O _ y4=>?_;exact az P .next E (x1.trans y1) O rfl y4
theorem RE(i j:Nat){a b:Str}{n:Nat}{f m tp:Pos}(he:be g F k e We)(hi:F.names[i]?=some a)(hj:F.names[j]?=some b)(nD:F.names.Nodup)(hk:F.scope.kind= .function)(ha:∀d,(aK F d).kindOf a=some .local) (hb:∀d,(aK F d).kindOf b=some .local)(hw:∀d,swappedStores [.Tuple [.Name a f,.Name b m] n tp] e (aK F d)=Pure.pure (some [a,b]))(M:∀d,swapsWithSole [.Tuple [.Name a f,.Name b m] n tp] e pos.line (aK F d)=Pure.pure false):iW g F k (.Assign [.Tuple [.Name a f,.Name b m] n tp] e pos) (λσ Q=>We σ λv G=>aA (vk G.mem v) λxs=>aA (l2 xs) λp=>Q .next ((G.nE j p.2).nE i p.1)):=by intro d A af hr s wd σ Q Z R J;rw[arm_exec_Assign];refine U (dh ?_);rw[M];refine U (aj ?_);rw[aH (by decide)];refine U (bb.go (he d A af hr) Z R J λu dG D v G x1 x2 x3 x4=>?_);rw[hw];refine U (aj ?_);refine ah x4 λxs e1 J=>ah J λp ep J=>d3 (ER x2 x3 e1) λx I jM dL B=>?_;rw[CF ep] at dL;refine CQ dL λu1 u2 e2 h1 h2=>?_;rw[e2] at B;rw[jM];unfold assignStores;dsimp only;refine U (eQ (U (jL hr.handled x2 B rfl λmM R₂=>U ?_)));refine(?_ :wpAny _ A (assignInOrder [bindName (aK F d) b,bindName (aK F d) a] [u2,u1]) _ _ mM);refine assignInOrder_cons (wpAny_bindName (bb.go (kG h2 hj nD hk (hb d)) (K:=(λ_ a9=>Q .next (a9.nE i p.1))) (.refl _) R₂ J λ_ c X _ H y1 O _ y4=>?_));refine assignInOrder_cons (wpAny_bindName (bb.go (kG (VR.mono y1 h1) hi nD hk (ha d)) (K:=(λ_ a9=>Q .next a9)) (.refl _) O y4 λ_ CL vh _ h L z2 _ z4=>?_));exact assignInOrder_nil (aj (az vh .next h ((x1.trans y1).trans L) z2 rfl z4))
theorem No{l sl:Addr}{n:Nat}{Q:Unit->Shared->Prop}(ho:s.heap.get? l=some (aG "list" I n))(M:s.heap.IsSliceOf sl .none .none .none)(hz:I.length<=sizeLine) (h:∀h' n',Heap.SameBut l s.heap h'->h'.get? l=some (aG "list" [] n')->Q () {s with heap:=h'}):wpAny (model prog w) A (delItem (.ref l) (.ref sl)) Q E s:=by
 have Z:=b9 ho;refine Am (id M) λos Yy hcs G=>?_;have hTs:s.TypeIs (.ref sl) "slice":=⟨os,Yy,hcs⟩;refine wpAny_delItem_slot Z.typeIs (by decide) PySem.F.slot_list_delitem (i8 PySem.F.slot_list_delitem Z.typeIs PySem.F.entry_list_delitem ?_ (PySem.F.args_list_delitem_2 _ _));refine(?_ :wpAny _ _ (Builtin.List.listSubscript? (.ref sl)>>=_) _ _ s);refine U ?_;unfold Builtin.List.listSubscript?;refine U (wpAny_specialOf hTs slice_no_index ?_);simp only[Option.isNone_none,if_true];refine aj ?_;refine(?_ :wpAny _ _ (typeOf (.ref sl)>>=_) _ _ s);refine U (wpAny_typeOf hTs ?_);rw[aH (by decide)];rw[listSliceParts_eq];refine U (U (gB Yy G rfl (U (wpAny_listPart .none ?_))));rw[aH (by decide)];refine U (gB Yy G rfl (U (wpAny_listPart .none ?_)));refine U (gB Yy G rfl (U (wpAny_listPart .none (aj ?_))));refine U ?_;unfold Builtin.List.listItems;refine U (wpAny_seqItems ho rfl (aj ?_));refine U (wpAny_of_eq (sliceIndices_raw none none none I.toArray.size (by simp)) ?_);refine U (eQ ?_);have z:∀(f:Array Value->Array Value),f I.toArray= #[]->∃n',(s.heap.update l (Obj.mapSeq f)).get? l=some (aG "list" [] n'):=by
  intro f S;have e4:Obj.mapSeq f (aG "list" I n)=aG "list" [] (if (#[]:Array Value).size==I.toArray.size then n else n+1):=by unfold Obj.mapSeq aG;dsimp only;rw[S]
  exact⟨_,by rw[ef _ ho (by rw[e4];rfl),e4]⟩
 have e1:∀(f:Array Value->Array Value),f I.toArray= #[]->wpAny (model prog w) A.in1 (Builtin.List.listUpdate (.ref l) f) (λ_ s'=>∃h' n',s'={s with heap:=h'}/\Heap.SameBut l s.heap h'/\h'.get? l=some (aG "list" [] n')) E s:=by intro f S;refine xE (z f S) λn' k=>?_;exact jb ho rfl ⟨_,n',rfl,er ..,k⟩ (by rw[aZ];exact hz) (by rw[S];exact aW _)
 refine U (a_ (e1 _ ?_) (λ_ s' x=>?_) λ_ _ x=>x)
 ·have e2:∀(f:Value×Nat->Option Value),(∀x∈I.zipIdx,f x=none)->(List.filterMap f I.toArray.toList.zipIdx).toArray= #[]:=by intro f S;have:List.filterMap f I.toArray.toList.zipIdx=[]:=List.filterMap_eq_nil_iff.mpr (by simpa using S);rw[this]
  refine e2 _ λx B=>a6 ?_;have hk:x.2<I.length:=by have:=(List.mem_zipIdx B).2.1;rwa[eB] at this
  refine(?_ :(if (1:Int)>0 then(decide ((0:Int)<=(x.2:Int))&&decide ((x.2:Int)<(I.toArray.size:Int))&&(((x.2:Int)-0) % 1==0)) else _)=true);rw[a6 (by decide),aZ];simp only[aM,decide_eq_true_eq,beq_iff_eq];exact⟨⟨gl _,Int.ofNat_lt.mpr hk⟩,Int.emod_one _⟩
 ·refine d3 x λh' n' jM h1 h2=>?_;rw[jM];exact U (wpAny_letGo (aj ⟨_,rfl,h h' n' h1 h2⟩))
theorem Np{RF:Pos}(ho:be g F k o Wo):iW g F k (.Delete [.Subscript o (.Slice none none none p) pos] RF) (λσ Q=>Wo σ λa G=>aA (dC G.mem a) λq=>gd (bw q.2.length) (Q .next {G with mem:=G.mem.set q.1 (.list [])})):=by intro d A af hr s wd σ Q Z R J;refine wpAny_Delete (wpAny_deleteEach_cons (wpAny_delete_Subscript (bb.go (ho d A af hr) Z R J λu dG D a G x1 x2 x3 x4=>?_)));refine ah x4 λp e J=>xA (aL J) λh1 J=>?_;refine wpAny_Slice (aj (aj (aj ?_)));have R1:bU g F d D G {dG with heap:=dG.heap.push {cls:=.type "slice",data:=.fields #[.none,.none,.none]}}:=x2.keeps λb o e=>bf _ e;refine R1.lv x3 e λI n N dP lj dL=>?_;rw[N];refine No lj ⟨_,cu _ rfl,rfl,rfl⟩ (by rw[<-dL.len];exact dp h1) λh' n' M K=>?_;refine wpAny_deleteEach_nil ?_;exact az D .next _ x1 (R1.setM dP M K (o':=.list []) ⟨[],n',rfl,.nil⟩) rfl J
noncomputable def lu(y z x:Str):Str:=cond (xc y x) (Txt.replace x y z) x
theorem G8{i:Nat}(e:σ.loc[i]?=some (some v)):σ.nE i v=σ:=by
 unfold St.nE;rw[show σ.loc.set i (some v)=σ.loc from List.ext_getElem? λj=>by
  by_cases q:j=i
  ·subst q;rw[fG (List.getElem?_eq_some_iff.mp e).1,e]
  ·rw[c7 (bM q)]]
set_option maxHeartbeats 2000000 in
theorem Nq(i:Nat){x:Str}{y z:Str}{RG C5 C6:Nat}{RH RJ C7 C8 C9 C_ Da Jt Ju RK:Pos}{nm:Str}(ZG:(y==z)=false)(B:F.names[i]?=some x)(hnm:nm="replace")(nD:F.names.Nodup)(hk:F.scope.kind= .function)(Z:∀d,(aK F d).kindOf x=some .local) (hd:(x==("__debug__":Str))=false)(l:fR (.Name x C7) nm C8 [.Constant (.str y) C5 C9,.Constant (.str z) C6 C_] Da)(M:∀d,swapsWith (.Call (.Attribute (.Name x C7) nm C8) [.Constant (.str y) C5 C9,.Constant (.str z) C6 C_] [] Da) (some (.Name x Jt)) Ju.line (aK F d)=Pure.pure false):iW g F k (.If (.Compare (.Constant (.str y) RG RH) [.In] [.Name x RJ] RK) [.Assign [.Name x Jt] (.Call (.Attribute (.Name x C7) nm C8) [.Constant (.str y) C5 C9,.Constant (.str z) C6 C_] [] Da) Ju] [] pos) (λσ Q=>dY i σ λv G=>uo v λt=>gd (Nat.ble (t.length+(t.length+1)*z.length) 16777216) (Q .next (G.nE i (.str (lu y z t))))):=by
 subst hnm;intro d A af hr s wd σ Q j R J;refine qW J λv e J=>ah J λt I J=>xA (aL J) λh1 T=>bx (R.loc) λm hn hm=>bx (hm i x _ B e) λu N hv=>xE (VR.str I hv) λtk qi=>?_;have h1:=aU h1;rw[V.qe I] at e;rw[qi] at N;have name:∀{s':Shared}{px:Pos}{Q':Value->Shared->Prop},s'.heap=s.heap->Q' (.str t tk) s'->wpAny (model g.prog g.w) A (eval (.Name x px) (aK F d)) Q' (λ_ _=>False) s':=
  λhh Y=>kt (lV hk (Z d) (by rw[hh];exact hn) N Y) hd
 rw[exec_If];refine U (dh (U ?_));rw[isTrue_Compare1,sy (by with_unfolding_all rfl)];refine U (oY (U (bq (name rfl (U (dh (U (wpAny_operateT (PySem.P.in_str (bq (oZ ?_)))))))))));refine(?_ :wpAny _ A (if xc y t=true then _ else _) _ _ _);unfold lu at T;cases hb:xc y t with
 |false=>rw[aH i6];rw[hb] at T;exact hX (az wd .next _ (.refl _) (by rw[show(cond false (Txt.replace t y z) t)=t from rfl,G8 e];exact R.toks) rfl T)
 |true=>rw[a6 rfl];rw[hb] at T;refine wpAny_execs_cons (wpAny_Assign_Name ?_ (M d));refine xE (l (aK F d)) λpl he=>?_;rw[he];refine U (name rfl ?_);refine U (dh ?_);refine U (bq ?_);refine getMethod_builtin (typeIs_str _ _ _) kD PySem.F.slot_str_replace PySem.F.type_str_replace (λ_ e=>nomatch e) ?_;dsimp only;refine mh (P:=λ_=>True) rfl (λh _=>aX) (jX rfl ?_);refine wpAny_items_cons (oY (wpAny_items_cons (oY (wpAny_items_nil ⟨d7,?_⟩)) rfl)) rfl;refine SC.replace (l8 _) (l8 _) (bL (eA _)) ZG h1 λC RL=>?_;refine bb.go (kG (v:=.str (Txt.replace t y z)) ⟨C,rfl⟩ B nD hk (Z d)) (K:=λ_ a9=>Q .next a9) (.refl _) (R.toks) T λ_ c X _ H y1 O _ y4=>?_;exact hX (az X .next H y1 O rfl y4)
end
structure PA(g:G){ι β:Type}(RI:Wd->β->Value->Prop)(ok:V->St->Option ι)(cL:ι->St->Nat->Option (Option β))(S:ι->Addr->Wd->Nat->Heap->Prop):Prop where
 mono:∀wd bg b u,Wd.Le wd bg->RI wd b u->RI bg b u
 start:∀(F:df)(d:hJ)(A:Around)(wd:Wd)(σ:St)(s:Shared)(v:V)(u:Value)(i:ι)(Q:Value->Shared->Prop)(E:Value->Shared->Prop),bU g F d wd σ s->VR wd v u->ok v σ=some i->
  (∀it s',bU g F d wd σ s'->jE g d wd [it]->S i it wd 0 s'.heap->Q (.ref it) s')->wpAny (model g.prog g.w) A (pyIter u) Q E s
 self:∀(A:Around)(i:ι)(it:Addr)(wd:Wd)(j:Nat)(s:Shared)(Q:Value->Shared->Prop)(E:Value->Shared->Prop),S i it wd j s.heap->Q (.ref it) s->wpAny (model g.prog g.w) A (pyIter (.ref it)) Q E s
 iter:∀(A:Around)(it:Addr)(i:ι),A.handled=none->GK g A it [it] RI (S i it) (cL i)
noncomputable def kO(v:V)(σ:St):Option Nat:=v.lo.bind λl=>(tV σ.mem[l]?).bind λ_=>some l
theorem A5(R:bU g F d wd σ s):jE g d wd [s.heap.objs.size]:=jE.fresh R qo
theorem mR:PA g VR kO bj (λl it wd i h=>l<wd.n/\h.IsListIter it (wd.ρ l) i) where
 mono:=nZ
 start F d A wd σ s v u l Q E R hv hi C:=aI hi λl' e hi=>aI hi λxs r hi=>by rw[<-aq hi] at C;refine R.lst r λI n _ ho dL=>?_;rw[(VR.ref e hv).2];refine wpAny_pyIter_list (b9 ho) ?_;exact C _ _ (R.keeps λb o e=>bf _ e) (A5 R) ⟨(VR.ref e hv).1,_,cu _ rfl,rfl,rfl⟩
 self A i it wd j s Q E G C:=wpAny_pyIter_listiter G.2 C
 iter:=λA it i hh=>GL hh
noncomputable def Jv(v:V)(σ:St):Option (Int×Int×Int):=v.lo.bind λl=>(AO σ.mem[l]?).bind λp=>cond (Builtin.Range.small p.1 p.2.1 p.2.2) (some p) none
theorem ZH{p:Int×Int×Int}(x:IsRangeIter h it p.1 (Builtin.Range.rangeSize p.1 p.2.1 p.2.2) p.2.2):IsRangeIter h it (p.1+((0:Nat):Int)*p.2.2) (Builtin.Range.rangeSize p.1 p.2.1 p.2.2-((0:Nat):Int)) p.2.2:=by rw[show p.1+((0:Nat):Int)*p.2.2=p.1 by simp,show Builtin.Range.rangeSize p.1 p.2.1 p.2.2-((0:Nat):Int)=Builtin.Range.rangeSize p.1 p.2.1 p.2.2 from Int.sub_zero _];exact x
theorem RM:PA g VR Jv (λp=>gD p.1 p.2.1 p.2.2) (λp it wd i h=>IsRangeIter h it (p.1+(i:Int)*p.2.2) (Builtin.Range.rangeSize p.1 p.2.1 p.2.2-i) p.2.2) where
 mono:=nZ
 start F d A wd σ s v u p Q E R hv hi C:=aI hi λl e hi=>aI hi λq y hi=>kL hi λr hi=>by rw[<-hi] at C;refine ye (R.get (e_ O.CB y)) λ_ ob Y t u' f P=>?_;rw[P] at Y;rw[(VR.ref e hv).2];refine wpAny_pyIter_range Y r ?_;exact C _ _ (R.keeps λb o e=>bf _ e) (A5 R) (ZH (cu _ rfl))
 self A i it wd j s Q E G C:=wpAny_pyIter_rangeiter G C
 iter:=λA it i hh=>vm hh
section
noncomputable def pG(ifs:List PySem.Expr)(bc:Env):Sem Bool:=forIn ifs true λc r=>if r=true then do let ok <-isTrue c bc (eval c bc);Pure.pure (ForInStep.yield ok) else Pure.pure (ForInStep.yield r)
def lJ(g:G)(F:df)(k:Nat)(ifs:List PySem.Expr)(W:ad Bool):Prop:=∀d A af,cK A k->bb g F d A af Yt (pG ifs (aK F d)) W
theorem Jw:lJ g F k [] (λσ Q=>Q true σ):=λd A af hr s wd σ Q Z R J=>aj (az wd true σ (.refl _) R rfl J)
theorem Vu{c:PySem.Expr}{W:ad Bool}(h:qV g F k c W):lJ g F k [c] W:=by intro d A af hr s wd σ Q Z R J;exact wpAny_tests_one (h d A af hr s wd σ Q Z R J)
noncomputable def n5(p:Pos)(target:PySem.Expr)(ifs:List PySem.Expr)(it:Value)(bc:Env)(s5:Sem Unit)(next:Code):Sem PySem.Fin:=do
 standAt p
 match <-pyNext it with
 |none=>Pure.pure (.done .next)
 |some v=>do
  letOwnedTupleGo target it v
  assign target bc v
  let ok <-pG ifs bc
  if ok then s5
  again next
def goK(go:St->Prop)(_:α)(σ:St):Prop:=go σ
def PB(We:ad Unit)(go:St->Prop)(ok:Bool)(σ:St):Prop:=br ok (We σ (goK go)) (go σ)
noncomputable def gx(cL:St->Nat->Option (Option β))(As:β->ad Unit)(Wt:ad Bool)(We:ad Unit):Nat->Nat->St->(Unit->St->Prop)->Prop
 |0,_,_,_=>False
 |n+1,i,σ,Q=>aA (cL σ i) λo=>match o with
  |none=>Q () σ
  |some b=>As b σ (tS Wt (PB We (λE=>gx cL As Wt We n (i+1) E Q)))
structure iE(prog:Program)(w:World)(e:PySem.Expr)(depth:Nat)(it bV:Value)(bc:Env)(p:Pos)(target:PySem.Expr)(ifs:List PySem.Expr)(s5:Sem Unit):Prop where
 quiet:(Code.compLoop e depth it bV bc).quiet=true
 under:∀A:Around,A.under (.compLoop e depth it bV bc)=A
 den:(model prog w).den (.compLoop e depth it bV bc)=(compTurn e depth it bV bc).onRaise (λx=>do noteFrame x bc;theTreesLotGoes x)
 turn:compTurn e depth it bV bc=n5 p target ifs it bc s5 (.compLoop e depth it bV bc)
def PC(g:G)(F:df)(d:hJ)(S:Wd->Nat->Heap->Prop)(d8:List Addr)(cL:St->Nat->Option (Option β))(As:β->ad Unit)(Wt:ad Bool)(We:ad Unit)(wd:Wd)(Q:Unit->St->Prop)(n:Nat)(s:Shared):Prop:=∃bg σ i,Wd.Le wd bg/\bU g F d bg σ s/\jE g d bg d8/\S bg i s.heap/\gx cL As Wt We n i σ Q
def PD(g:G)(F:df)(d:hJ)(wd:Wd)(Q:Unit->St->Prop):Result->Shared->Prop:=λr s'=>match r with| .ok _=>∃bg a9,Wd.Le wd bg/\bU g F d bg a9 s'/\Q () a9| .error _=>False
theorem ro{d8:List Addr}{RI:Wd->β->Value->Prop}{S:Wd->Nat->Heap->Prop}{cL:St->Nat->Option (Option β)}(I:GK g A it d8 RI S cL)(Vd:∀wd bg b u,Wd.Le wd bg->RI wd b u->RI bg b u) {depth:Nat} {bV:Value} {target:PySem.Expr} {ifs:List PySem.Expr} {s5:Sem Unit} (C:iE g.prog g.w e depth (.ref it) bV (aK F d) p target ifs s5) {As:β->ad Unit} {Wt:ad Bool} {We:ad Unit} (hr:cK A k)
 (ha:∀af b u,RI af b u->bb g F d A af um (assign target (aK F d) u) (As b)) (hi:lJ g F k ifs Wt) (he:bb g F d A af um s5 We) {Q:Unit->St->Prop} (gI:Wd.Le af wd) (R:bU g F d wd σ s) (H:jE g d wd d8) {CN:Nat} (G:S wd CN s.heap)
 (J:∃n,gx cL As Wt We n CN σ Q):
 codeAny (model g.prog g.w) A (.compLoop e depth (.ref it) bV (aK F d)) (PD g F d wd Q) s:=by
 refine xE J λn J=>?_;refine codeAny_loop C.quiet (PC g F d S d8 cL As Wt We wd Q) (λn s hI=>?_) n ⟨wd,σ,CN,.refl _,R,H,G,J⟩;rw[C.under,C.den,C.turn];refine wpAny_noted ?_;refine gY hI λD σ i h1 R H G J=>?_;cases n with
 |zero=>exact J.elim
 |succ n=>
  refine ah J λo ho J=>?_;refine U (dh (U ?_));cases o with
  |none=>exact I.stop F d D σ i s _ _ R H G ho λs' R'=>aj ⟨D,σ,h1,R',J⟩
  |some b=>
   refine I.step F d D σ i s b _ _ R H G ho λu s' P N q R₂ H₂ a=>?_;refine U (I.owned F d P σ (i+1) s' target u _ _ R₂ H₂ a λc I5 vj=>U ?_);have nY:=I.live _ _ _ vj;have mS:=H₂.le c.heap;have R₄:=I5.jD H₂ λx B=>bx (nY x B) λo ho _=>⟨o,ho⟩;refine bb.go (ha (P.jD d8 c.heap) b u (Vd _ _ _ _ mS N)) (.refl _) R₄ J λ_ GI q6 _ nh x1 x2 _ x4=>U ?_;refine bb.go (hi d A (P.jD d8 c.heap) hr) x1 x2 x4 λok AL lq ok' t y1 O y3 y4=>?_;have fin:∀(G9:Shared)(vK:Wd)(xC:St),Wd.Le q6 vK->bU g F d vK xC G9->gx cL As Wt We n (i+1) xC Q->∃m,m<n+1/\PC g F d S d8 cL As Wt We wd Q m G9:=λG9 vK xC L z2 z4=>
    u6 (I5.d6 H₂ nY z2 (x1.trans L)) λt1 t2 t3=>have tU:=H₂.le' (x1.trans L)
     ⟨n,eA _,vK.d6 d8,xC,i+1,(h1.trans q).trans tU,t1,t2,I.stay _ (vK.d6 d8) _ _ G9.heap vj tU t3,z4⟩
   rw[show ok=ok' from y3];cases ok' with
   |true=>exact U (bb.go he ((((gI.trans h1).trans q).trans mS).trans (x1.trans y1)) O y4 λ_ G9 vK _ xC L z2 _ z4=>aj ⟨rfl,fin G9 vK xC (y1.trans L) z2 z4⟩)
   |false=>exact U (aj (aj ⟨rfl,fin AL lq t y1 O y4⟩))
end
end
section
variable {P a c f it:Addr}{params:Arguments}{A:Around}{b:Bool}{gn:Comprehension}{d:hJ}{bc:Env}{s5:Env->Value->Sem Unit}{F F' Fc:df}{g:G}{h:Heap}{ps:List (PySem.Expr×PySem.Expr)}{es:List (Str×V)}{kvs r:List (Str×Value)}{gs aD:List Comprehension}{ds:List DictEntry}{ls fY:List Nat}{ifs:List PySem.Expr}{body:List Stmt}{M:Model}{xD k l t:Nat}{We:Nat->ad Unit}{qr:O}{ob:Obj}{o:Option O}{p pos:Pos}{prog:Program}{e pH i2 iter kx t2 target vx:PySem.Expr}{scope:Scope}{s6:Sem Value}{W:ad (List (Str×V))}{Wt:ad Bool}{Wb:ad Fl}{Wi Wk Wv:ad V}{s:Shared}{σ:St}{name x y:Str}{q:Str×Value}{kd:Str->Option NameKind}{α β ι:Type}{v:V}{bV u:Value}{E Q:Value->Shared->Prop}{wd af:Wd}{w:World}{ok:V->St->Option ι}{RI:Wd->β->Value->Prop}{As:β->ad Unit}{S:ι->Addr->Wd->Nat->Heap->Prop}{cL:ι->St->Nat->Option (Option β)}
noncomputable def Db(iA:List Nat):List Nat->Option (List Nat)
 | []=>some []
 |i::r=>(iA[i]?).bind λl=>(Db iA r).bind λls=>some (l::ls)
theorem vL{iA:List Nat}(e:Db iA fY=some ls)(j l:Nat)(h:ls[j]?=some l):∃i:Nat,fY[j]?=some i/\iA[i]?=some l:=by
 induction fY generalizing ls j with
 |nil=>rw[<-aq e] at h;exact nS h
 |cons i r T=>
  refine aI e λl' e1 e=>aI e λls' e2 e=>?_;rw[<-aq e] at h;cases j with
  |zero=>exact⟨i,rfl,e1.trans h⟩
  |succ j=>exact T e2 j h
theorem A6{iA:List Nat}(e:Db iA fY=some ls):ls.length=fY.length:=by
 induction fY generalizing ls with
 |nil=>rw[<-aq e]
 |cons i r T=>exact aI e λl' e1 e=>aI e λls' e2 e=>by rw[<-aq e];exact ag Nat.succ (T e2)
noncomputable def c9(scope:Scope):List Str:=(scope.names.filter λx=>x.2== .free).map (·.1)
theorem G_(bc:Env)(f:Str->Addr)(names:List (Str×NameKind))(cs:List (Str×Addr))(h:∀x∈names,x.2= .free->bc.cells.lookup x.1=some (f x.1)):(forIn names cs λ(x:Str×NameKind)(r:List (Str×Addr))=>if (x.2== .free)=true then(do let a <-cellOf bc x.1;Pure.pure (ForInStep.yield ((x.1,a)::r)):Sem (ForInStep (List (Str×Addr)))) else Pure.pure (ForInStep.yield r))= Pure.pure ((((names.filter λx=>x.2== .free).map (·.1)).map λx=>(x,f x)).reverse++cs):=by
 induction names generalizing cs with
 |nil=>exact rfl
 |cons x r T=>
  rw[mc];by_cases hk:(x.2==NameKind.free)=true
  ·have e:cellOf bc x.1=Pure.pure (f x.1):=by unfold cellOf;rw[h x (.head _) (ib hk)]
   rw[a6 hk,e];simp only[pure_bind];rw[T ((x.1,f x.1)::cs) λx B=>h x (.tail _ B),List.filter_cons_of_pos (by simpa using hk)];simp
  ·rw[aH hk];simp only[pure_bind];rw[T cs λx B=>h x (.tail _ B),List.filter_cons_of_neg (by simpa using hk)]
theorem pY(scope:Scope)(bc:Env)(f:Str->Addr)(h:∀x∈scope.names,x.2= .free->bc.cells.lookup x.1=some (f x.1)):closureFor scope bc=Pure.pure ((c9 scope).map λx=>(x,f x)).reverse:=by have e:=G_ bc f scope.names [] h;rw[aS] at e;unfold c9;rw[<-e];unfold closureFor;simp only[bind_pure]
theorem vM(f:Str->Addr):∀{xs:List Str},xs.Nodup->∀x∈xs,((xs.map λx=>(x,f x)).reverse).lookup x=some (f x):=by
 intro xs hn x B;refine mN ?_ ?_
 ·rw[gU,ia];have:((λx=>x.fst)∘λx=>(x,f x))=(id:Str->Str):=rfl;rw[this,List.map_id];exact(o3 xs).nodup_iff.mpr hn
 ·rw[kc];exact List.mem_map.mpr ⟨x,B,rfl⟩
section
theorem jE.push{d8:List Addr}(H:jE g d wd d8)(ha:a∉d8):jE g d (wd.push a) d8:=⟨H.fz,λx B l Z e=>Wd.eE Z (λh1 e1=>H.own x B l h1 (e1.symm.trans e)) λ_ e1=>ha ((e1.symm.trans e)▸B),H.L,H.hb⟩
theorem bU.enterX{c:hJ}(R:bU g F d wd σ s){o:Obj}(ho:s.heap.get? d.L=some o){iC:Heap}{tk:Nat}{f:Str->Option Value}{loc:List (Option V)}{iA:List Nat}(S:s.heap.get? c.L=none) (y:iC.Ns c.L f) (hk:∀b ob,s.heap.get? b=some ob->iC.get? b=some ob) (hm:Ay F' (wd.jr d.L o) loc f) (hc:w9 F' (wd.jr d.L o) iA c.cl):bU g F' c (wd.jr d.L o) {loc:=loc,iA:=iA,mem:=σ.mem} {s with heap:=iC,toks:=tk}:=by
 have M:=(R.mem.jr ho R.qf R.kZ);refine⟨M.keeps hk,⟨f,y,hm⟩,hc,?_,λl Z e=>?_,R.gens,R.os⟩
 ·cases q:(wd.jr d.L o).fz c.L with
  |none=>rfl
  |some ob=>have:=M.sQ _ _ q;rw[S] at this;exact nS this
 ·obtain⟨ob,h1,_⟩:=M.own l (σ.mem[l]'(by rw[<-M.len];exact Z)) (bC _);have h1:=h1;have e:=e;rw[e,S] at h1;exact nS h1
structure mT(F Fc:df)(scope:Scope)(fY:List Nat):Prop where
 Nr:∀d,relabel scope (aK F d)=Fc.scope
 qual:Fc.qual=F.qual
 ZI:Fc.cd=F.cd
 free:c9 scope=Fc.cells
 nodup:Fc.cells.Nodup
 E2:∀(j:Nat)(x:Str),Fc.cells[j]?=some x->∃i:Nat,fY[j]?=some i/\F.cells[i]?=some x
 A7:fY.length=Fc.cells.length
 kind:scope.kind= .function
 names:∀x∈scope.names,x.2= .local->scope.names.lookup x.1=some .local
 RN:∀x∈scope.names,x.2≠ .cell
theorem E3(C:mT F Fc scope fY){iA iF:List Nat}(hc:w9 F wd iA d.cl)(M:Db iA fY=some iF):∃cl,closureFor scope (aK F d)=Pure.pure cl/\w9 Fc wd iF cl:=by
 have ZJ:∀x∈Fc.cells,∃a,d.cl.lookup x=some a:=by intro x B;refine xE (List.mem_iff_getElem?.mp B) λj hj=>bx (C.E2 j _ hj) λi h1 h2=>?_;have Z:=bC (by rw[A6 M,C.A7];exact(List.getElem?_eq_some_iff.mp hj).1);exact bx (vL M j _ Z) λi' h3 h4=>⟨_,(hc i _ _ h2 (aq (h1.symm.trans h3)▸h4)).2⟩
 have S:∃f:Str->Addr,∀x∈Fc.cells,d.cl.lookup x=some (f x):=⟨λx=>(d.cl.lookup x).getD 0,λx B=>xE (ZJ x B) λa e=>by show _=some ((d.cl.lookup x).getD 0);rw[e];rfl⟩;refine xE S λf S=>?_;refine⟨_,pY scope (aK F d) f λx B hk=>S _ ?_,?_⟩
 ·rw[<-C.free];exact List.mem_map.mpr ⟨x,List.mem_filter.mpr ⟨B,by rw[hk];rfl⟩,rfl⟩
 ·rw[C.free];intro j x l hj Z;refine bx (vL M j l Z) λi h3 h4=>?_;refine bx (C.E2 j x hj) λi' h1 h2=>?_;refine xA (hc i x l (aq (h1.symm.trans h3)▸h2) h4) λq1 q2=>?_;have B:=eg hj;refine⟨q1,?_⟩;rw[vM f C.nodup x B,<-S x B,q2]
def hU(prog:Program)(w:World)(e:PySem.Expr)(depth:Nat)(bV:Value)(bc:Env):Prop:=∀(A:Around)(it:Value)(R:Result->Shared->Prop)(s:Shared),(∀e s,¬ R (.error e) s)->codeAny (model prog w) A (.compLoop e depth it bV bc) R s->
  wpAny (model prog w) A (pyIter it) (λZK s'=>codeAny (model prog w) A (.compLoop e depth ZK bV bc) R s') (λ_ _=>False) s->codeAny (model prog w) A (.compStart e depth it bV bc) R s
theorem vN(X:PA g RI ok cL S) (C:mT F Fc scope fY)
 (A8:∀(M:Model)(A:Around)(E:Value->Shared->Prop)(s:Shared)(Q:Value->Shared->Prop),Q (.ref s.heap.objs.size) {s with heap:=s.heap.push ob}->wpAny M A s6 Q E s) (Y:∀wd,OR g wd qr ob)
 (n6:∀it bV d,iE g.prog g.w e 0 it bV (aK Fc d) p target ifs (s5 (aK Fc d) bV)) (qs:∀bV d,hU g.prog g.w e 0 bV (aK Fc d)) (hr:cK A k)
 (ha:∀d A af b u,cK A k->RI af b u->bb g Fc d A af um (assign target (aK Fc d) u) (As b)) (hi:lJ g Fc k ifs Wt)
 (he:∀d A af l u,cK A k->VR af (.loc l) u->bb g Fc d A af um (s5 (aK Fc d) u) (We l)) {i:ι} (R:bU g F d wd σ s) (H:jE g d wd [it]) (G:S i it wd 0 s.heap) {cl:List (Str×Addr)} {iF:List Nat} (ZL:w9 Fc wd iF cl) {P:List O->Prop} {nl:Nat}
 (J:∃n,gx (cL i) As Wt (We σ.mem.length) n 0 ⟨List.replicate nl none,iF,σ.mem++[qr]⟩ (λ_ a9=>P a9.mem)) {RR:Value->Addr->Result->Shared->Prop}
 (hRR:∀bV C f s' bg A9,Wd.Le wd bg->VR bg (.loc σ.mem.length) bV->bU g F d bg ⟨σ.loc,σ.iA,A9⟩ s'->jE g d bg [C]->(∃m,s'.heap.Ns C m)->P A9->RR bV C (.ok f) s') (hRE:∀bV C e s,¬ RR bV C (.error e) s):
 wpAny (model g.prog g.w) A s6 (λbV c=>wpAny (model g.prog g.w) A (newFunctionEnv scope (aK F d).globals cl [] (aK F d).qual none .none (some (aK F d)))
  (λNt CL=>codeAny (model g.prog g.w) A (.compStart e 0 (.ref it) bV {Nt with scope:=relabel scope (aK F d)}) (RR bV Nt.locals) CL) (λ_ _=>False) c) (λ_ _=>False) s:=by
 refine A8 _ _ _ _ _ ?_;have I:=X.iter A it i hr.handled;refine bx (I.live _ _ _ G it (.head _)) λoit Vv _=>?_;have qO:s.heap.objs.size≠it:=λq=>by have:=bT Vv;rw[<-q] at this;exact jd _ this
 have R₁:=R.cE (Y _);have H₁:=H.push (by simpa using qO);have A_:S i it (wd.push s.heap.objs.size) 0 (s.heap.push ob):=I.stay _ _ _ _ _ G (Wd.aT _ _) λx B o ho=>bf _ ho;have Ba:VR (wd.push s.heap.objs.size) (.loc σ.mem.length) (.ref s.heap.objs.size):=R.pushed;generalize PE:({s with heap:=s.heap.push ob}:Shared)=c at R₁ A_ ⊢;replace A_:S i it (wd.push s.heap.objs.size) 0 c.heap:=by rw[<-PE];exact A_
 have E4:c.heap.get? it=some oit:=by rw[<-PE];exact bf _ Vv
 refine sE C.RN (by intro x B;cases B) (λiC y z=>?_) C.kind;refine xE (R₁.there) λU W=>?_;have lI:c.heap.get? c.heap.objs.size=none:=c6 _;have N:∀b o,c.heap.get? b=some o->iC.get? b=some o:=λb o e=>(z.2 b (λq=>by rw[q,lI] at e;exact nS e)).trans (bf _ e);have hLC:d.L≠c.heap.objs.size:=λq=>by rw[q,lI] at W;exact nS W
 have ee:({newEnv scope c.heap.objs.size (aK F d).globals cl (aK F d).qual none .none (some (aK F d)) builtinsNs with scope:=relabel scope (aK F d)}:Env)=aK Fc ⟨c.heap.objs.size,none,d.fr,cl⟩:=by rw[C.Nr];unfold aK;rw[C.qual,C.ZI];rfl
 have Jx:∀tk,codeAny (model g.prog g.w) A (.compLoop e 0 (.ref it) (.ref s.heap.objs.size) (aK Fc ⟨c.heap.objs.size,none,d.fr,cl⟩)) (RR (.ref s.heap.objs.size) c.heap.objs.size) {c with heap:=iC,toks:=tk}:=by
  intro tk;have mS:Wd.Le (wd.push s.heap.objs.size) ((wd.push s.heap.objs.size).jr d.L U):=Wd.nP R₁.qf;have Ri:bU g Fc ⟨c.heap.objs.size,none,d.fr,cl⟩ ((wd.push s.heap.objs.size).jr d.L U) ⟨List.replicate nl none,iF,σ.mem++[qr]⟩ {c with heap:=iC,toks:=tk}:=by refine R₁.enterX W lI y N (λj x v e1 e2=>?_) (ZL.mono ((Wd.aT _ _).trans mS));have:=eg e2;rw[List.mem_replicate] at this;cases this.2
  have Hi:jE g ⟨c.heap.objs.size,none,d.fr,cl⟩ ((wd.push s.heap.objs.size).jr d.L U) [it]:=by
   refine⟨λx B=>?_,H₁.own,λB=>?_,H₁.hb⟩
   ·refine(?_ :(if x=d.L then some U else(wd.push s.heap.objs.size).fz x)=none);rw[aH (λq:x=d.L=>H₁.L (q▸B))];exact H₁.fz x B
   ·obtain q:=List.mem_singleton.mp B;rw[<-q] at E4;have hz:=E4;rw[lI] at hz;exact nS hz
  have Vw:=I.stay _ _ _ _ _ A_ mS λx B o ho=>N _ _ ho;refine fM (ro I X.mono (n6 _ _ _) hr (λaf b u h=>ha _ A af b u hr h) hi (he _ A _ σ.mem.length _ hr (VR.mono mS Ba)) (.refl _) Ri Hi Vw J) λr s' x=>?_;cases r with
  |error e=>exact x.elim
  |ok f=>
   refine d3 x λbg a9 x1 x2 x3=>?_;have hLe:=Wd.pD R₁.qf x1;have Rl:=R₁.leave W x2 x1;refine hRR _ _ f s' (bg.jV d.L) a9.mem ((Wd.aT _ _).trans hLe) (VR.mono hLe Ba) Rl ⟨λx B=>?_,λx B l Z e=>?_,λB=>?_,λx B=>?_⟩ (bx x2.loc λm hm _=>⟨m,hm⟩) x3
   ·rw[List.mem_singleton.mp B];refine(?_ :(if _=d.L then none else bg.fz _)=none);rw[x2.qf];exact ite_self _
   ·exact x2.kZ l Z (e.trans (List.mem_singleton.mp B))
   ·exact hLC (List.mem_singleton.mp B)
   ·rw[List.mem_singleton.mp B];cases q:g.hb.get? c.heap.objs.size with
    |none=>rfl
    |some o=>have:=x2.mem.base _ _ q;rw[x2.qf] at this;exact nS this
 refine(?_ :codeAny (model g.prog g.w) A (.compStart e 0 (.ref it) (.ref s.heap.objs.size) _) _ _);rw[ee];refine qs _ _ A (.ref it) _ _ (λe s=>hRE _ _ e s) (Jx _) (X.self A i it _ 0 _ _ _ (I.stay _ _ _ _ _ A_ (.refl _) λx B o ho=>N _ _ ho) (Jx _))
end
section
noncomputable def kP(pH:PySem.Expr)(bc:Env)(bV:Value):Sem Unit:=do let _ <-call (.builtin "list.append") [bV,<-eval pH bc]
theorem vO{it:Value}:iE prog w (.ListComp pH [⟨target,iter,ifs,0⟩] scope pos) 0 it bV bc iter.pos target ifs (kP pH bc bV) where
 quiet:=rfl
 under:=λ_=>rfl
 den:=rfl
 turn:=by rw[compTurn_list];unfold n5 kP pG;rfl
theorem mU:hU prog w (.ListComp pH (⟨target,iter,ifs,0⟩::aD) scope pos) 0 bV bc:=λA it R s hE h0 h=>codeAny_compStart_list h0 (a_ h (λ_ _ x=>x) λ_ _ x=>x.elim)
theorem mV{We:ad V}(he:be g Fc k pH We)(hr:cK A k)(N:VR af (.loc l) u):bb g Fc d A af um (kP pH (aK Fc d) u) (λσ Q=>We σ λv a9=>gE [.loc l,v] a9 λ_ m=>Q () m):=by unfold kP;refine bb.bind (he d A af hr) λwd x v Z B=>?_;intro s bg σ Q j R J;refine U (bb.go (bB Fc d A wd [.loc l,v] [u,x] hr (.cons (VR.mono Z N) (.cons B .nil))) j R J λ_ s' o _ m y1 O _ y4=>?_);exact aj ⟨o,(),m,y1,O,d7,y4⟩
def Vx(G:St)(Q:V->St->Prop)(_:Unit)(a9:St):Prop:=Q (.loc G.mem.length) ⟨G.loc,G.iA,a9.mem⟩
def PF(ok:V->St->Option ι)(cL:ι->St->Nat->Option (Option β))(nl:Nat)(qr:O)(As:β->ad Unit)(Wt:ad Bool)(We:Nat->ad Unit)(iF:List Nat)(Q:V->St->Prop)(v:V)(G:St):Prop:=aA (ok v G) λi=>∃n,gx (cL i) As Wt (We G.mem.length) n 0 ⟨List.replicate nl none,iF,G.mem++[qr]⟩ (Vx G Q)
def n7(fY:List Nat)(ok:V->St->Option ι)(cL:ι->St->Nat->Option (Option β))(nl:Nat)(qr:O)(Wi:ad V)(As:β->ad Unit)(Wt:ad Bool)(We:Nat->ad Unit):ad V:=λσ Q=>aA (Db σ.iA fY) λiF=>Wi σ (PF ok cL nl qr As Wt We iF Q)
def Jy(g:G)(A:Around)(use:Option (Value->Sem Unit))(P:Value->Shared->Prop)(bV:Value)(C:Addr):Result->Shared->Prop:=λr s'=>match r with| .ok f=>compPost (model g.prog g.w) A Ac use P bV C (.ok f) s'| .error _=>False
section
theorem Bb(X:PA g RI ok cL S)(C:mT F Fc scope fY){I:Pos}(L:clausesOf e=gn::gs) (z:∀bc x,foldedSetIterable gn.iter bc x=Pure.pure x)(A8:∀(M:Model)(A:Around)(E:Value->Shared->Prop)(s:Shared)(Q:Value->Shared->Prop),Q (.ref s.heap.objs.size) {s with heap:=s.heap.push ob}->wpAny M A s6 Q E s) (Y:∀wd,OR g wd qr ob)(n6:∀it bV d,iE g.prog g.w e 0 it bV (aK Fc d) p gn.target gn.ifs (s5 (aK Fc d) bV)) (qs:∀bV d,hU g.prog g.w e 0 bV (aK Fc d))(hi:be g F k gn.iter Wi) (ha:∀d A af b u,cK A k->RI af b u->bb g Fc d A af um (assign gn.target (aK Fc d) u) (As b)) (yy:lJ g Fc k gn.ifs Wt)(he:∀d A af l u,cK A k->VR af (.loc l) u->bb g Fc d A af um (s5 (aK Fc d) u) (We l)) (nl:Nat) (hr:cK A k):bb g F d A af qg (comprehension e scope (aK F d) I s6 false (eval gn.iter (aK F d)) none) (n7 fY ok cL nl qr Wi As Wt We):=by
 intro s wd σ Q Z R J;refine ah J λiF RO Uw=>?_;clear J;refine bx (E3 C R.iA RO) λcl Jz JA=>?_;refine wpAny_comprehension_free L (z _) Jz C.kind C.names (bb.go (hi d A af hr) Z R Uw λu dG D v G x1 x2 x3 x4=>?_);refine ah x4 λi ME T=>?_;refine X.start F d A D G dG v u i _ _ x2 x3 ME λit mM R₂ H₂ a=>?_;refine a_ (vN X C A8 Y n6 qs hr ha yy he R₂ H₂ a (JA.mono x1) (P:=λA9=>Q (.loc G.mem.length) ⟨G.loc,G.iA,A9⟩) T
  (RR:=Jy g A none (iB g F d qg wd Q)) ?_ (λ_ _ _ _ h=>h)) (λbV c RP=>?_) λ_ _ x=>x
 ·intro bV C f s' bg A9 gI Ba R' H' y j;refine xE y λm hm=>?_;try clear y
  refine⟨m,hm,λh' N=>?_⟩;exact⟨bg,.loc G.mem.length,_,x1.trans gI,R'.other H' λb o hb e=>(N.2 b (λq=>hb (by rw[q];exact .head _))).trans e,Ba,j⟩
 ·refine a_ RP (λNt CL RQ=>fM RQ λr s' x=>?_) λ_ _ x=>x;cases r with
  |ok f=>exact x
  |error e=>exact x.elim
theorem t7(X:PA g RI ok cL S)(C:mT F Fc scope fY){I:Pos}(L:clausesOf e=gn::gs) (z:∀bc x,foldedSetIterable gn.iter bc x=Pure.pure x)(A8:∀(M:Model)(A:Around)(E:Value->Shared->Prop)(s:Shared)(Q:Value->Shared->Prop),Q (.ref s.heap.objs.size) {s with heap:=s.heap.push ob}->wpAny M A s6 Q E s) (Y:∀wd,OR g wd qr ob)(n6:∀it bV d,iE g.prog g.w e 0 it bV (aK Fc d) p gn.target gn.ifs (s5 (aK Fc d) bV)) (qs:∀bV d,hU g.prog g.w e 0 bV (aK Fc d)) {t:PySem.Expr} {Wa:V->ad Unit}(hi:be g F k gn.iter Wi) (ha:∀d A af b u,cK A k->RI af b u->bb g Fc d A af um (assign gn.target (aK Fc d) u) (As b)) (yy:lJ g Fc k gn.ifs Wt)(he:∀d A af l u,cK A k->VR af (.loc l) u->bb g Fc d A af um (s5 (aK Fc d) u) (We l)) (ht:q9 g F k t Wa) (nl:Nat) (hr:cK A k):bb g F d A af (λ_ (_:Unit)(_:Value)=>True) (comprehension e scope (aK F d) I s6 false (eval gn.iter (aK F d)) (some (assign t (aK F d)))) (λσ Q=>n7 fY ok cL nl qr Wi As Wt We σ λv a9=>Wa v a9 Q):=by
 intro s wd σ Q Z R J;refine ah J λiF RO Uw=>?_;clear J;refine bx (E3 C R.iA RO) λcl Jz JA=>?_;refine wpAny_comprehension_free L (z _) Jz C.kind C.names (bb.go (hi d A af hr) Z R Uw λu dG D v G x1 x2 x3 x4=>?_);refine ah x4 λi ME T=>?_;refine X.start F d A D G dG v u i _ _ x2 x3 ME λit mM R₂ H₂ a=>?_;refine a_ (vN X C A8 Y n6 qs hr ha yy he R₂ H₂ a (JA.mono x1) (P:=λA9=>Wa (.loc G.mem.length) ⟨G.loc,G.iA,A9⟩ Q) T
  (RR:=Jy g A (some (assign t (aK F d))) (iB g F d (λ_ (_:Unit)(_:Value)=>True) wd Q)) ?_ (λ_ _ _ _ h=>h)) (λbV c RP=>?_) λ_ _ x=>x
 ·intro bV C f s' bg A9 gI Ba R' H' y j;refine xE y λm hm=>?_;try clear y
  refine nf hm λoC es ep Yz PG=>?_;try clear hm
  have hnt:=AH ⟨oC,es,ep,Yz,PG⟩ Yz;have B:∀x∈[C],∃o,s'.heap.get? x=some o/\¬ Perm o:=λx B=>by rw[List.mem_singleton.mp B];exact⟨oC,Yz,hnt⟩
  have Ri:=R'.jD H' λx q=>bx (B x q) λo ho _=>⟨o,ho⟩;have hi:=H'.le s'.heap;refine(?_ :wpAny _ A (assign t (aK F d) bV) _ _ s');refine bb.go (ht d A _ (.loc G.mem.length) bV hr (VR.mono hi Ba)) (.refl _) Ri j λ_ GI q6 _ nh y1 O _ y4=>?_;refine u6 (R'.d6 H' B O y1) λt1 t2 t3=>?_;refine⟨m,⟨oC,es,ep,t3 C (.head _) oC Yz,PG⟩,λh' N=>?_⟩;exact⟨q6.d6 [C],(),nh,(x1.trans gI).trans (H'.le' y1),t1.other t2 λb o hb e=>(N.2 b (λq=>hb (by rw[q];exact .head _))).trans e,d7,y4⟩
 ·refine a_ RP (λNt CL RQ=>fM RQ λr s' x=>?_) λ_ _ x=>x;cases r with
  |ok f=>exact x
  |error e=>exact x.elim
theorem vP(M:Model)(A:Around)(E:Value->Shared->Prop)(s:Shared)(Q:Value->Shared->Prop)(h:Q (.ref s.heap.objs.size) {s with heap:=s.heap.push (aG "list" [] 0)}):wpAny M A (newList []) Q E s:=gP h (aW _)
theorem JB(M:Model)(A:Around)(E:Value->Shared->Prop)(s:Shared)(Q:Value->Shared->Prop)(h:Q (.ref s.heap.objs.size) {s with heap:=s.heap.push (dictOf [] 0)}):wpAny M A (newDict) Q E s:=by unfold newDict newObj;exact U (wpAny_alloc (aj h))
theorem Hb(X:PA g RI ok cL S){We:ad V}(nl:Nat)(C:mT F Fc scope fY) (hi:be g F k iter Wi) (ha:∀d A af b u,cK A k->RI af b u->bb g Fc d A af um (assign target (aK Fc d) u) (As b)) (yy:lJ g Fc k ifs Wt) (he:be g Fc k pH We)(z:∀bc x,foldedSetIterable iter bc x=Pure.pure x):be g F k (.ListComp pH [⟨target,iter,ifs,0⟩] scope pos) (n7 fY ok cL nl (.list []) Wi As Wt (λl σ Q=>We σ λv a9=>gE [.loc l,v] a9 λ_ m=>Q () m)):=by intro d A af hr;rw[eval_ListComp];exact Bb X C (gn:=⟨target,iter,ifs,0⟩) (qr:=.list []) rfl z vP (λwd=>⟨[],0,rfl,.nil⟩) (λit bV d=>vO) (λbV d=>mU) hi ha yy (λd A af l u hr N=>mV he hr N) nl hr
theorem np(X:PA g RI ok cL S){uq:Pos}{We:ad V}(nl i:Nat)(C:mT F Fc scope fY) (hi:be g F k iter Wi) (ha:∀d A af b u,cK A k->RI af b u->bb g Fc d A af um (assign target (aK Fc d) u) (As b)) (yy:lJ g Fc k ifs Wt) (he:be g Fc k pH We)(z:∀bc x,foldedSetIterable iter bc x=Pure.pure x) (c:∀d,swapsWith (.ListComp pH [⟨target,iter,ifs,0⟩] scope pos) (some (.Name y p)) uq.line (aK F d)=Pure.pure true)(B:F.names[i]?=some y) (nD:F.names.Nodup) (hk:F.scope.kind= .function) (Z:∀d,(aK F d).kindOf y=some .local):iW g F k (.Assign [.Name y p] (.ListComp pH [⟨target,iter,ifs,0⟩] scope pos) uq) (λσ Q=>n7 fY ok cL nl (.list []) Wi As Wt (λl σ Q=>We σ λv a9=>gE [.loc l,v] a9 λ_ m=>Q () m) σ λv a9=>Q .next (a9.nE i v)):=by
 intro d A af hr s wd σ Q gI R J;rw[exec_Assign_Name_used _ _ _ _ (c d)];refine U (dh (U ?_));refine(?_ :wpAny _ A (do let _ <-comprehension (.ListComp pH [⟨target,iter,ifs,0⟩] scope pos) scope (aK F d) _ (newList []) false (eval iter (aK F d)) (some (assign (.Name y p) (aK F d)))) _ _ s);refine U (a_ (t7 X C (gn:=⟨target,iter,ifs,0⟩) (qr:=.list []) rfl z vP (λwd=>⟨[],0,rfl,.nil⟩) (λit bV d=>vO) (λbV d=>mU) hi ha yy
  (λd A af l u hr N=>mV he hr N) (CM i B nD hk Z) nl hr s wd σ (λ_ a9=>Q .next a9) gI R J) (λ_ s' x=>?_) λ_ _ x=>x)
 refine iB.elim x λbg _ a9 x1 x2 _ x4=>?_;clear x;exact aj (aj ⟨bg,.next,a9,x1,x2,rfl,x4⟩)
end
end
section
def KR(wd:Wd)(p:Str×V)(q:Str×Value):Prop:=q.1=p.1/\VR wd p.2 q.2
theorem Vy(h:aE (mo g wd) es ds):aE (KR wd) es (jR es ds):=by
 induction h with
 |nil=>exact .nil
 |cons e _ T=>exact dB e λt u e h=>.cons ⟨rfl,by rw[e];exact h⟩ T
theorem Hc(h:x∉kvs.map (·.1)):kvs.map (λkv=>if kv.1=x then(kv.1,u) else kv)=kvs:=by
 induction kvs with
 |nil=>rfl
 |cons q r T=>rw[cy,pv] at h;rw[cy,aH (λe=>h (.inl e.symm)),T (λB=>h (.inr B))]
theorem vQ(h:¬ q.1=x):stored (q::r) x u=q::stored r x u:=by
 unfold stored;rw[kn,dR h,Bool.false_or];split
 ·rw[cy,aH h]
 ·rfl
theorem vR(h:q.1=x)(hn:x∉r.map (·.1)):stored (q::r) x u=(q.1,u)::r:=by unfold stored;rw[kn,dI h,Bool.true_or,a6 rfl,cy,a6 h,Hc hn]
theorem Bc(h:aE (KR wd) es kvs):kvs.map (·.1)=es.map (·.1):=by
 induction h with
 |nil=>rfl
 |cons h _ T=>rw[cy,cy,h.1,T]
theorem Dd(hv:VR wd v u)(h:aE (KR wd) es kvs)(hn:mt es=true):aE (KR wd) (cQ x v es) (stored kvs x u):=by
 induction h with
 |nil=>exact .cons ⟨rfl,hv⟩ .nil
 | @cons p q es kvs h y T=>
  have k:=qp hn;rw[cy,l_] at k;show aE (KR wd) (cond (d4 p.1 x) ((p.1,v)::es) (p::cQ x v es)) _;cases he:d4 p.1 x with
  |true=>have B:=(cq _ _).mp he;rw[vR (h.1.trans B) (by rw[Bc y,<-B];exact k.1)];exact .cons ⟨h.1,hv⟩ y
  |false=>rw[vQ λe:q.1=x=>by rw[h.1] at e;rw[(cq _ _).mpr e] at he;exact Ab he];exact .cons h (T ((aM _ _).mp hn).2)
theorem Nu(h:aE (KR wd) es kvs)(hp:Pairs (strKind g.prog g.w) ds kvs)(hk:∀e∈ds,∃k,(strKind g.prog g.w).is k e.key=true/\e.hash=(strKind g.prog g.w).hash k):aE (mo g wd) es ds:=by
 induction h generalizing ds with
 |nil=>cases hp;exact .nil
 | @cons p q _ _ h _ T=>
  cases hp with
  | @cons e kv uL adL h1 h2 h3=>refine bx (hk e (.head _)) λj RS ZM=>xE (lZ h1) λt I=>?_;refine .cons ⟨t,e.val,?_,by rw[h2];exact h.2⟩ (T h3 λe he=>hk e (.tail _ he));show(⟨e.hash,e.key,e.val⟩:DictEntry)=_;rw[show e.key=Value.str q.1 t from I,ZM,<-(strKind g.prog g.w).inj _ _ _ h1 RS,h.1];rfl
theorem xF(hd:h.DictOf (strKind g.prog g.w) a kvs)(hk:aE (KR wd) es kvs):∃ds n,h.get? a=some (dictOf ds n)/\aE (mo g wd) es ds:=by refine sL hd λo ea ep ho i ZN Vz hp hn=>⟨ea.toList,ep,ho.trans ?_,Nu hk hp λe he=>Vz e (by simpa using he)⟩;show some (⟨o.cls,o.dict,o.data,o.slots⟩:Obj)=_;exact u6 i λh1 h2 h3=>by rw[h1,h2,h3,ZN]
def uM(l:Nat)(x:Str)(v:V):ad Unit:=λσ Q=>aA (qZ σ.mem[l]?) λes=>gd (mt es&&Nat.ble es.length 100) (Q () {σ with mem:=σ.mem.set l (.dict (cQ x v es))})
theorem Bd{t:Tok}(ha:VR af (.loc l) (.ref a))(hv:VR af v u):bb g F d A af um (dictSet a (.str x t) u) (uM l x v):=by
 intro s wd σ Q Z R J;refine ah J λes e T=>xA (aL T) λh1 C3=>xA ((aM _ _).mp h1) λh1 h2=>mH (R.get (qq e)) λdP ob ho ds n j H=>?_;have h2:=aU h2;rw[j] at ho;rw[jc (VR.mono Z ha).2];have cn:(jR es ds).length=es.length:=by have:=ag List.length (pF H);simpa using this
 refine wpAny_dictSet_pairs (eV _ _ x t) (gw ho H h1) (λh' hm' N=>?_) (by rw[cn,dj];exact am h2 (by decide));refine dB (xF hm' (Dd (VR.mono Z hv) (Vy H) h1)) λYx n' K RT=>?_;refine az wd () _ (.refl _) (R.setM dP N K (o':=.dict (cQ x v es)) ⟨Yx,n',rfl,RT⟩) d7 C3
noncomputable def rp(kx vx:PySem.Expr)(bc:Env)(bV:Value):Sem Unit:=do
 let kv <-eval kx bc;let vv <-holding [kv] (eval vx bc)
 match bV with
 | .ref d=>do
  standAt {kx.pos with endLine:=vx.pos.endLine,endCol:=vx.pos.endCol}
  holding [kv,vv] (dictSet d kv vv)
 |_=>unsupported "internal:dictcomp"
theorem De{it:Value}:iE prog w (.DictComp kx vx [⟨target,iter,ifs,0⟩] scope pos) 0 it bV bc iter.pos target ifs (rp kx vx bc bV) where
 quiet:=rfl
 under:=λ_=>rfl
 den:=rfl
 turn:=by unfold n5 rp pG;rfl
theorem yz:hU prog w (.DictComp kx vx (⟨target,iter,ifs,0⟩::aD) scope pos) 0 bV bc:=λA it R s hE h0 h=>codeAny_compStart_dict h0 (a_ h (λ_ _ x=>x) λ_ _ x=>x.elim)
theorem yA(hk:be g Fc k kx Wk)(hv:be g Fc k vx Wv)(hr:cK A k)(N:VR af (.loc l) u):bb g Fc d A af um (rp kx vx (aK Fc d) u) (λσ Q=>Wk σ λa G=>Wv G λv E=>uo a λx=>uM l x v E Q):=by unfold rp;refine bb.bind (hk d A af hr) λwd x a Z B=>?_;refine bb.bind (bb.holding (hv d A wd hr)) λP y v q hy=>?_;have hu2:=N;rw[N.2] at hu2 ⊢;refine bb.standAt (bb.holding ?_);intro s bg σ Q j R J;refine ah J λz ez J=>xE (VR.str ez B) λt e=>?_;rw[e];exact Bd (VR.mono (Z.trans q) hu2) hy s bg σ Q j R J
section
theorem ur(X:PA g RI ok cL S){uq:Pos}(nl i:Nat)(C:mT F Fc scope fY) (hi:be g F k iter Wi) (ha:∀d A af b u,cK A k->RI af b u->bb g Fc d A af um (assign target (aK Fc d) u) (As b)) (yy:lJ g Fc k ifs Wt) (hke:be g Fc k kx Wk) (hve:be g Fc k vx Wv)(z:∀bc x,foldedSetIterable iter bc x=Pure.pure x) (c:∀d,swapsWith (.DictComp kx vx [⟨target,iter,ifs,0⟩] scope pos) (some (.Name y p)) uq.line (aK F d)=Pure.pure true)(B:F.names[i]?=some y) (nD:F.names.Nodup) (hk:F.scope.kind= .function) (Z:∀d,(aK F d).kindOf y=some .local):iW g F k (.Assign [.Name y p] (.DictComp kx vx [⟨target,iter,ifs,0⟩] scope pos) uq) (λσ Q=>n7 fY ok cL nl (.dict []) Wi As Wt (λl σ Q=>Wk σ λa G=>Wv G λv E=>uo a λx=>uM l x v E Q) σ λv a9=>Q .next (a9.nE i v)):=by
 intro d A af hr s wd σ Q gI R J;rw[exec_Assign_Name_used _ _ _ _ (c d)];refine U (dh (U ?_));refine(?_ :wpAny _ A (do let _ <-comprehension (.DictComp kx vx [⟨target,iter,ifs,0⟩] scope pos) scope (aK F d) _ newDict false (eval iter (aK F d)) (some (assign (.Name y p) (aK F d)))) _ _ s);refine U (a_ (t7 X C (gn:=⟨target,iter,ifs,0⟩) (qr:=.dict []) rfl z JB (λwd=>⟨[],0,rfl,.nil⟩) (λit bV d=>De) (λbV d=>yz) hi ha yy
  (λd A af l u hr N=>yA hke hve hr N) (CM i B nD hk Z) nl hr s wd σ (λ_ a9=>Q .next a9) gI R J) (λ_ s' x=>?_) λ_ _ x=>x)
 refine iB.elim x λbg _ a9 x1 x2 _ x4=>?_;clear x;exact aj (aj (az bg .next a9 x1 x2 rfl x4))
end
theorem yB{bV:List (Str×Value)}(h:x∉bV.map (·.1)):stored bV x u=bV++[(x,u)]:=by unfold stored;rw[aH];intro e;refine bx (List.any_eq_true.mp e) λq h1 h2=>?_;exact h (List.mem_map.mpr ⟨q,h1,iu h2⟩)
theorem yC(kvs bV:List (Str×Value))(h:((bV++kvs).map (·.1)).Nodup):merged bV kvs=bV++kvs:=by
 induction kvs generalizing bV with
 |nil=>exact(aS _).symm
 |cons q r T=>
  refine(?_ :merged (stored bV q.1 q.2) r=_);have Y:q.1∉bV.map (·.1):=by rw[fh,List.nodup_append] at h;exact λhm=>h.2.2 _ hm _ (.head _) rfl
  rw[yB Y,T (bV++[(q.1,q.2)]) (by rw[au];exact h),au];rfl
def Be(g:G)(F:df)(k:Nat)(pos:Pos)(ps:List (PySem.Expr×PySem.Expr))(W:ad (List (Str×V))):Prop:=∀d A af,cK A k->bb g F d A af (λwd es vs=>∃kvs,Carries (strKind g.prog g.w) vs kvs/\aE (KR wd) es kvs) (evalPairs (ps.map λp=>(eval p.1 (aK F d),do let x <-eval p.2 (aK F d);standAt pos;Pure.pure x))) W
theorem RU:Be g F k pos [] (λσ Q=>Q [] σ):=λd A af hr s wd σ Q Z R J=>evalPairs_nil (az wd [] σ (.refl _) R ⟨[],d7,.nil⟩ J)
theorem Nv(hk:be g F k kx Wk)(hv:be g F k vx Wv)(h:Be g F k pos ps W):Be g F k pos ((kx,vx)::ps) (λσ Q=>Wk σ λa G=>Wv G λv E=>uo a λx=>W E λes H=>Q ((x,v)::es) H):=by intro d A af hr s wd σ Q Z R J;refine evalPairs_cons (bb.go (hk d A af hr) Z R J λu dG D a G x1 x2 x3 x4=>?_);refine U (a_ (hv d A af hr dG D G _ (Z.trans x1) x2 x4) (λr mM y=>U (dh (aj ?_))) λ_ _ x=>x);refine iB.elim y λP v E y1 O y3 y4=>?_;clear y;refine ah y4 λz ez y4=>xE (VR.str ez x3) λt e=>?_;rw[e];refine bb.go (h d A af hr) ((Z.trans x1).trans y1) O y4 λvs c X es H L z2 ZO z4=>?_;exact bx ZO λkvs z3 z3'=>az X ((z,v)::es) H ((x1.trans y1).trans L) z2 ⟨(z,r)::kvs,⟨eV _ _ z t,rfl,z3⟩,.cons ⟨rfl,VR.mono L y3⟩ z3'⟩ z4
noncomputable def JC(o:Option (List α)):Bool:=o.any List.isEmpty
theorem PH{VA:List (Option PySem.Expr)}{JD:List PySem.Expr}(h:Be g F k pos ps W)(h0:ps≠[])(cn:ps.length<=15)(Df:∀bc,(evalEachOpt VA bc).zip ((evalEach JD bc).map λv=>do let x <-v;standAt pos;Pure.pure x)=(ps.map λp=>(eval p.1 bc,do let x <-eval p.2 bc;standAt pos;Pure.pure x)).map λp=>(some p.1,p.2)):be g F k (.Dict VA JD pos) (λσ Q=>W {σ with mem:=σ.mem++[.dict []]} λes a9=>gd (JC (qZ a9.mem[σ.mem.length]?)&&mt es) (Q (.loc σ.mem.length) {a9 with mem:=a9.mem.set σ.mem.length (.dict es)})):=by intro d A af hr s wd σ Q Z R J;have R₁:=R.cE (o:=.dict []) ⟨[],0,rfl,.nil⟩;have hp:=R.pushed (a:=s.heap.objs.size);refine wpAny_Dict_pairs (knd:=strKind g.prog g.w) (Df _) (by simpa using h0) (by simpa using cn) ?_;refine bb.go (h d A af hr) (Z.trans (Wd.aT _ _)) R₁ J λvs dG D es G x1 x2 ZO x4=>?_;refine bx ZO λkvs hc hk=>xA (aL x4) λh1 C=>xA ((aM _ _).mp h1) λh1 h2=>bx (fj h1) λzs hz L=>mH (x2.get (qq hz)) λdP ob ho ds n j H=>?_;rw[List.isEmpty_iff.mp L] at H;have i:=(jc (VR.mono x1 hp).2).symm;rw[i,j] at ho;refine⟨kvs,hc,by have:=gw ho H rfl;cases H;exact this,λh' hd N=>?_⟩;rw[yC kvs [] (by rw[kh,Bc hk];exact qp h2),kh] at hd;refine dB (xF hd hk) λYx n' K RT=>?_;rw[<-i] at N K;have R₂:=x2.setM (s':={dG with heap:=h',toks:=dG.toks+vs.length}) dP N K (o':=.dict es) ⟨Yx,n',rfl,RT⟩;exact az D (.loc σ.mem.length) _ ((Wd.aT _ _).trans x1) R₂ (VR.mono x1 hp) C
theorem yD:hU prog w (.ListComp pH [⟨target,iter,ifs,0⟩,⟨t2,i2,[],0⟩] scope pos) 1 bV bc:=by
 intro A it R s hE h0 h;refine o9 ?_;show wpAny _ A ((compStart (.ListComp pH [⟨target,iter,ifs,0⟩,⟨t2,i2,[],0⟩] scope pos) 1 it bV bc).onRaise (λx=>do noteFrame x bc;standAt theWindowsPlace)) _ _ s;refine wpAny_notedAt ?_;unfold compStart;refine(?_ :wpAny _ A (ask>>=_) _ _ s);refine U (iy (wpAny_ite ?_));have h':=a_ (E':=notedBy (model prog w) A bc λx s'=>R (.error x) s') h (λ_ _ x=>x) λ_ _ x=>x.elim;split
 ·first
   |exact U (aj (aj (And.intro rfl h0)))
   |exact aj (And.intro rfl h0)
 ·first
   |exact U (eQ (U (dh (U (a_ h' (λZK s' h'=>aj (And.intro rfl h')) λ_ _ x=>x)))))
   |(refine U (eQ ?_);show wpAny _ _ (standAt i2.pos>>=_) _ _ s;exact U (dh (U (a_ h' (λZK s' h'=>aj (And.intro rfl h')) λ_ _ x=>x))))
theorem Dg{it:Value}:iE prog w (.ListComp pH [⟨target,iter,ifs,0⟩,⟨t2,i2,[],0⟩] scope pos) 1 it bV bc i2.pos t2 [] (kP pH bc bV) where
 quiet:=rfl
 under:=λ_=>rfl
 den:=rfl
 turn:=by unfold n5 kP pG;rfl
noncomputable def rq(e i2:PySem.Expr)(bc:Env)(bV:Value):Sem Unit:=do
 let x <-eval i2 bc
 standAt i2.pos
 let x <-foldedSetIterable i2 bc x;let _ <-runOwn (.compStart e 1 (<-holding [x] (pyIter x)) bV bc) bc
theorem Dh{it:Value}:iE prog w (.ListComp pH [⟨target,iter,ifs,0⟩,⟨t2,i2,[],0⟩] scope pos) 0 it bV bc iter.pos target ifs (rq (.ListComp pH [⟨target,iter,ifs,0⟩,⟨t2,i2,[],0⟩] scope pos) i2 bc bV) where
 quiet:=rfl
 under:=λ_=>rfl
 den:=rfl
 turn:=by unfold n5 rq pG;simp only[bind_assoc,pure_bind];rfl
theorem yE{p We:ad V}{As:V->ad Unit}(hi:be g Fc k i2 p)(z:∀bc x,foldedSetIterable i2 bc x=Pure.pure x)(n6:∀it bV d,iE g.prog g.w e 1 it bV (aK Fc d) i2.pos t2 [] (kP pH (aK Fc d) bV)) (qs:∀bV d,hU g.prog g.w e 1 bV (aK Fc d)) (ha:q9 g Fc k t2 As) (he:be g Fc k pH We) (hr:cK A k) (N:VR af (.loc l) u):bb g Fc d A af um (rq e i2 (aK Fc d) u) (λσ Q=>p σ λv G=>aA (kO v G) λi=>∃n,gx (bj i) As (λσ Q=>Q true σ) (λσ Q=>We σ λv a9=>gE [.loc l,v] a9 λ_ m=>Q () m) n 0 G Q):=by
 unfold rq;refine bb.bind (hi d A af hr) λwd x v Z B=>bb.standAt ?_;rw[z];intro s bg σ Q j R J;refine U (aj ?_);refine ah J λi ME T=>?_;refine U (bq (mR.start Fc d A bg σ s v x i _ _ R (VR.mono j B) ME λit mM R₂ H₂ a=>U (wpAny_runOwn ?_)));refine(?_ :codeAny (model g.prog g.w) A _ _ mM);have I:=(mR (g:=g)).iter A it i hr.handled;have Jx:codeAny (model g.prog g.w) A (.compLoop e 1 (.ref it) u (aK Fc d)) (PD g Fc d bg Q) mM:=
  ro I nZ (n6 _ _ _) hr (λaf b u h=>ha d A af b u hr h) Jw (mV he hr (VR.mono (Z.trans j) N)) (.refl _) R₂ H₂ a T
 refine fM (qs u d A (.ref it) _ mM (λ_ _ h=>h) Jx (mR.self A i it _ 0 _ _ _ a Jx)) λr s' x=>?_;cases r with
 |error e=>exact x.elim
 |ok f=>
  refine d3 x λP a9 x1 x2 x3=>?_;try clear x
  exact aj (az P () a9 x1 x2 d7 x3)
theorem Di{p We:ad V}{As Nw:V->ad Unit}(nl:Nat)(C:mT F Fc scope fY) (hi:be g F k iter Wi) (ha:q9 g Fc k target As) (Ux:be g Fc k i2 p) (ZP:q9 g Fc k t2 Nw) (he:be g Fc k pH We)(z:∀bc x,foldedSetIterable iter bc x=Pure.pure x) (yF:∀bc x,foldedSetIterable i2 bc x=Pure.pure x):be g F k (.ListComp pH [⟨target,iter,[],0⟩,⟨t2,i2,[],0⟩] scope pos) (n7 fY kO bj nl (.list []) Wi As (λσ Q=>Q true σ)
  (λl σ Q=>p σ λv G=>aA (kO v G) λi=>∃n,gx (bj i) Nw (λσ Q=>Q true σ) (λσ Q=>We σ λv a9=>gE [.loc l,v] a9 λ_ m=>Q () m) n 0 G Q)):=by
 intro d A af hr;rw[eval_ListComp];exact Bb mR C (gn:=⟨target,iter,[],0⟩) (qr:=.list []) rfl z vP (λwd=>⟨[],0,rfl,.nil⟩)
  (λit bV d=>Dh) (λbV d=>mU) hi (λd A af b u hr h=>ha d A af b u hr h) Jw (λd A af l u hr N=>yE Ux yF (λit bV d=>Dg) (λbV d=>yD) ZP he hr N) nl hr
end
theorem jN:Slot "callable_iterator" "__next__" "callable_iterator.__next__":=.of (owner:="callable_iterator") (n:="__next__") (by rw[hY,jx];kernel_rfl) (by decide+kernel) (by decide+kernel) (by decide+kernel)
  (by first|exact .inl (by decide+kernel)|exact .inr (by decide+kernel)) (by rw[ki];kernel_rfl)
theorem nq:Slot "callable_iterator" "__iter__" "callable_iterator.__iter__":=.of (owner:="callable_iterator") (n:="__iter__") (by rw[hY,jx];kernel_rfl) (by decide+kernel) (by decide+kernel) (by decide+kernel)
  (by first|exact .inl (by decide+kernel)|exact .inr (by decide+kernel)) (by rw[ki];kernel_rfl)
theorem s7:entryFor table "callable_iterator.__next__"=some Builtin.«callable_iterator.__next__» :=o5 (by kernel_rfl)
theorem s8:entryFor table "callable_iterator.__iter__"=some Builtin.«dict_keyiterator.__iter__» :=entryFor_alias (id':="dict_keyiterator.__iter__") (by kernel_rfl) rfl (by decide+kernel) (by kernel_rfl)
theorem ut(a:Value):argsOk "callable_iterator.__next__" ⟨[a],[]⟩:=by unfold argsOk;kernel_rfl
theorem uu(a:Value):argsOk "callable_iterator.__iter__" ⟨[a],[]⟩:=by unfold argsOk;kernel_rfl
noncomputable def fU(f x e:Value):Obj:={cls:=.type "callable_iterator",data:=.fields #[f,x,e]}
section
theorem yG{f x e:Value}(ho:s.heap.get? it=some (fU f x e))(h:Q (.ref it) s):wpAny (model prog w) A (pyIter (.ref it)) Q E s:=by have y:s.TypeIs (.ref it) "callable_iterator":=⟨_,ho,rfl⟩;refine wpAny_pyIter_slot y nq (i8 nq y s8 ?_ (uu _));refine(?_ :wpAny _ _ (ret (.ref it)) _ _ s);exact aj ⟨_,rfl,"callable_iterator",_,y,jN.lookup,h⟩
theorem qt{f:Value}{pos:List Value}(hc:codeAny M A (.call f ⟨pos,[]⟩) (λr s'=>match r with| .ok (.ret v)=>Q v s'| .ok _=>False| .error e=>E e s') s):wpAny M A (callBorrowed f pos) Q E s:=λΓ p hΓ=>by
  have:=hc _ p rfl (hΓ.enter (.call f ⟨pos,[]⟩) none p (by intro x;exact nS x));unfold callBorrowed;rw[Sem.wp];refine wpCode_mono (λr s' h=>?_) this;rcases r with e|(v|_|_|_)
  ·exact h
  ·exact h.elim
  ·exact h.elim
  ·exact h.elim
  ·exact h
def Nx(s:Shared)(e:Value)(s':Shared):Prop:=∃a h',e= .ref a/\s'={s with heap:=h'}/\(∃o,h'.get? a=some o/\o.cls= .type "StopIteration")/\∀b o,s.heap.get? b=some o->h'.get? b=some o
theorem t8(hh:A.handled=none){Q:α->Shared->Prop}:wpAny (model prog w) A (Builtin.SmallTypes.stopIteration:Sem α) Q (Nx s) s:=by unfold Builtin.SmallTypes.stopIteration;refine(?_ :wpAny _ _ (newExc (.type "StopIteration") []>>=_) _ _ _);refine U ?_;simp only[newExc,newTuple];refine U (gP ?_ (by size_fits));refine U (wpAny_of_eq (by first|rfl|(simp only[firstArgMember];rfl)) ?_);refine gP ?_ (by size_fits);unfold raiseNew;refine U (wpAny_handled ?_);rw[hh];refine U (aj (wpAny_throw ?_));exact⟨_,_,rfl,rfl,⟨_,cu _ rfl,rfl⟩,λb o e=>bf _ (bf _ e)⟩
end
theorem cK.in1(h:cK A (k+1)):cK A.in1 k:=⟨by have:=h.depth;show A.depth+2*k<_;exact aQ [_,_,_] (.c 1 (.a (.a (.v 0) (.m 2 (.a (.v 1) (.n 1)))) (.n 1)) (.v 2) .nil) 0 (.a (.a (.v 0) (.m 2 (.v 1))) (.n 1)) (.v 2) tt this,by have:=h.units;show A.units+1+16*k+80<_;exact aQ [_,_,_] (.c 1 (.a (.a (.a (.v 0) (.m 16 (.a (.v 1) (.n 1)))) (.n 80)) (.n 1)) (.v 2) .nil) 0 (.a (.a (.a (.a (.v 0) (.n 1)) (.m 16 (.v 1))) (.n 80)) (.n 1)) (.v 2) tt this,h.handled⟩
section
noncomputable def s9(x:Str):Bool:=d4 x ⟨#[]⟩
noncomputable def Ny(o:Option O):Option (V×V×V):=(o.bind O.fl).bind λp=>cond p.1.ci (l3 p.2) none
noncomputable def RV(b:Bool)(v:V):Bool:=v.bo.any (· ==b)
theorem Bf(h:RV b v=true):v= .bool b:=bx (fj h) λc e h=>by rw[V.QL e,ib h]
noncomputable def vS(f:Addr)(mem:List O)(l:Nat):Option V:=(Ny mem[l]?).bind λq=>cond (RV false q.2.2) (q.1.lo.bind λa=>q.2.1.sv.bind λx=>cond (s9 x) (xy f mem[a]?) none) none
noncomputable def n8(mem:List O)(l:Nat):Bool:=(Ny mem[l]?).any λq=>RV true q.2.2&&(q.1.no&&q.2.1.no)
theorem yH(R:bU g F d wd σ s){q:V×V×V}{P:Prop}(h:Ny σ.mem[l]?=some q)(k:∀a b c,l<wd.n->s.heap.get? (wd.ρ l)=some (fU a b c)->VR wd q.1 a->VR wd q.2.1 b->VR wd q.2.2 c->P):P:=aI h λp e h=>lg h λhc h=>u7 (R.get (e_ O.CE e)) λZ ob ho I e4 dL=>by rw[QK h] at dL;exact Rc dL λa b c E ha hb f=>k a b c Z (ho.trans (by rw[e4,E,FK.QI hc];rfl)) ha hb f
theorem xG(R:bU g F d wd σ s){self:V}(h:vS f σ.mem l=some self):∃q su t,s.heap.get? (wd.ρ l)=some (fU (.ref q) (.str ⟨#[]⟩ t) (.bool false))/\s.heap.get? q=some (methodObj (.ref f) su)/\VR wd self su/\l<wd.n:=aI h λp ep h=>lg h λS h=>aI h λq y h=>aI h λx ex h=>lg h λB h=>yH R ep λa b c dP ho ha hb hc=>xE (VR.str ex hb) λt I=>by rw[V.lH y] at ha;rw[Bf S] at hc;rw[ha.2,I,(cq _ _).mp B,show c= .bool false from hc] at ho;exact d3 (rm (v:=.loc q) R ⟨ha.1,rfl⟩ h) λx' su e1 hm M=>⟨_,su,t,ho,by rw[jc e1];exact hm,M,dP⟩
theorem Bg(R:bU g F d wd σ s)(h:n8 σ.mem l=true):s.heap.get? (wd.ρ l)=some (fU .none .none (.bool true))/\l<wd.n:=bx (fj h) λq ep h=>xA ((aM _ _).mp h) λh1 h=>xA ((aM _ _).mp h) λh2 h3=>yH R ep λa b c dP ho ha hb hc=>by rw[V.IF h2] at ha;rw[V.IF h3] at hb;rw[Bf h1] at hc;rw[show a= .none from ha,show b= .none from hb,show c= .bool true from hc] at ho;exact⟨ho,dP⟩
def ncK(f:Addr)(l:Nat)(Q:Option V->St->Prop)(r:V)(G:St):Prop:=gd (vS f G.mem l).isSome (uo r λx=>br (s9 x) (Q none {G with mem:=G.mem.set l (.bP .ng [.none,.none,.bool true])}) (Q (some (.str x)) G))
def iG(f:Addr)(W:List V->ad V)(l:Nat):ad (Option V):=λσ Q=>br (n8 σ.mem l) (Q none σ) (aA (vS f σ.mem l) λself=>W [self] σ (ncK f l Q))
def ONr(wd:Wd)(v:Option V)(u:Option Value):Prop:=match v with
 |none=>u=none
 |some v=>∃r,u=some r/\VR wd v r
def ZQ(Q:Option Value->Shared->Prop)(r:PySem.Fin)(s:Shared):Prop:=∃v,r= .done (.ret v)/\Q (some v) s
def Uy(Q:Option Value->Shared->Prop)(e:Value)(s:Shared):Prop:=∃a,e= .ref a/\(∃o,s.heap.get? a=some o/\o.cls= .type "StopIteration")/\Q none s
theorem xH{f x e:Value}{Q:Option Value->Shared->Prop}(ho:s.heap.get? it=some (fU f x e))(hb:wpAny (model prog w) A.in1 (Builtin.«callable_iterator.__next__» ⟨[.ref it],[]⟩) (ZQ Q) (Uy Q) s):wpAny (model prog w) A (pyNext (.ref it)) Q E s:=by
 have y:s.TypeIs (.ref it) "callable_iterator":=⟨_,ho,rfl⟩;unfold pyNext;refine U (pu (wpAny_callSpecial?_slot y jN (i8 jN y s7 (a_ hb (λfin s' z=>?_) λe s' z=>?_) (ut _))))
 ·exact bx z λv e hv=>by rw[e];exact⟨v,rfl,aj hv⟩
 ·refine Am z λa e ho Y=>bx ho λo lj hc=>?_;rw[e];exact U (ka ⟨o,lj,hc⟩ isSubtype_stop (aj Y))
theorem ZR{f x e:Value}(ho:h.get? it=some (fU f x e)):(h.update it (Obj.mapFields (·.setIfInBounds 0 .none))).get? it=some (fU .none x e):=by rw[ef _ ho rfl];rfl
theorem fe2{f x e:Value}(ho:h.get? it=some (fU f x e)):(h.update it (Obj.mapFields (·.setIfInBounds 1 .none))).get? it=some (fU f .none e):=by rw[ef _ ho rfl];rfl
theorem fe3{f x e:Value}(ho:h.get? it=some (fU f x e)):(h.update it (Obj.mapFields (·.setIfInBounds 2 (.bool true)))).get? it=some (fU f x (.bool true)):=by rw[ef _ ho rfl];rfl
theorem Nz{K:Frag}(h:fnIn K f=true):∃o fd,K.lookup f=some o/\o.data= .func fd:=by
 unfold fnIn at h;cases hk:K.lookup f with
 |none=>rw[hk] at h;exact nB h
 |some o=>
  rw[hk] at h;cases o with
  |mk c d dt sl=>cases dt with
   |func fd=>exact⟨_,fd,rfl,rfl⟩
   |_=>exact nB h
theorem rt{q:Addr}{su:Value}{o:Obj}{fd:FuncData}{Q:Bool->Shared->Prop}(Y:s.heap.get? q=some (methodObj (.ref f) su))(ho:s.heap.get? f=some o)(YA:o.data= .func fd)(h:Q true s):wpAny M A (borrowsExactly (.ref q)) Q E s:=by unfold borrowsExactly;refine U (kr Y ?_);dsimp only;refine jh (by decide) ?_;refine(?_ :wpAny _ _ (load f>>=_) _ _ s);refine U (kr ho ?_);rw[YA];exact aj h
theorem Dj(z:Str):(decide ((⟨#[]⟩:Str)=z))=s9 z:=by
 unfold s9;cases Y:d4 z ⟨#[]⟩ with
 |true=>exact dI ((cq _ _).mp Y).symm
 |false=>exact dR λq=>by rw[(cq _ _).mpr q.symm] at Y;exact Ab Y
theorem E6(hh:A.handled=none){D:Wd}{Q:Option V->St->Prop}{Q':α->Shared->Prop}(Z:Wd.Le wd D)(R:bU g F d D σ s)(C:Q none σ):wpAny (model g.prog g.w) A.in1 (Builtin.SmallTypes.stopIteration:Sem α) Q' (Uy (iB g F d ONr wd Q)) s:=a_ (t8 (A:=A.in1) hh) (λ_ _ h=>h) λe s' h=>u8 h λa h' e1 e2 ho hk=>by rw[e2];exact⟨a,e1,ho,D,none,σ,Z,R.keeps hk,rfl,C⟩
theorem Hd{W:List V->ad V}(Rz:fnIn g.K f=true)(hc:cO g k (.ref f) W)(hr:cK A (k+1))(N:VR af (.loc l) u):bb g F d A af ONr (pyNext u) (iG f W l):=by
 intro s wd σ Q Z R J;have N:=VR.mono Z N;rw[N.2];unfold iG at J;cases he:n8 σ.mem l with
 |true=>rw[he] at J;refine xA (Bg R he) λho _=>xH ho ?_;refine(?_ :wpAny _ _ (field (.ref (wd.ρ l)) 2>>=_) _ _ s);refine U (gB ho rfl rfl ?_);refine jh rfl ?_;exact U (eQ (U (E6 (σ:=σ) hr.handled (.refl _) R J)))
 |false=>
  rw[he] at J;refine ah J λself e1 T=>f_ (xG R e1) λq su t ho Y M _=>xH ho ?_;refine(?_ :wpAny _ _ (field (.ref (wd.ρ l)) 2>>=_) _ _ s);refine U (gB ho rfl rfl ?_);refine fe rfl ?_;refine U (gB ho rfl rfl ?_);refine U (pu ?_);refine dB (Nz Rz) λof fd hof YA=>?_;refine(?_ :wpAny _ _ (borrowsExactly (.ref q)>>=_) _ _ s);refine U (rt Y (g.X.keeps R.hb _ _ hof) YA ?_);refine jh rfl ?_;refine qt (method_call Y (fM (hc F d A.in1 wd [self] [su] hr.in1 (.cons M .nil) s wd σ _ (.refl _) R T) λr s' x=>?_));rcases r with e|(_|_|_|v)
  ·exact x.elim
  ·exact x.elim
  ·exact x.elim
  ·exact x.elim
  ·refine f_ x λD rv G x1 x2 x3 x4=>xA (aL x4) λh5 x6=>qU h5 λacr E=>f_ (xG x2 E) λq' su' C lj hq' _ ZS=>ah x6 λz ez x6=>xE (VR.str ez x3) λtz etz=>?_;have i:=x1.ρ l N.1;rw[i] at lj;rw[etz];refine U (gB lj rfl rfl ?_);refine fe rfl ?_;refine U (gB lj rfl rfl ?_);refine U (bq (wpAny_eqBool_str ?_));rw[Dj z];cases hb:s9 z with
   |false=>rw[hb] at x6;refine jh rfl ?_;exact aj ⟨_,rfl,D,some (.str z),G,x1,x2,⟨_,rfl,tz,rfl⟩,x6⟩
   |true=>rw[hb] at x6;refine fe rfl ?_;refine U (eQ (U ?_));refine U (gB lj rfl rfl ?_);refine U ?_;refine(?_ :wpAny _ _ (borrowsExactly (.ref q')>>=_) _ _ s');refine U (rt hq' (g.X.keeps x2.hb _ _ hof) YA ?_);refine jh rfl ?_;refine aj ?_;refine U (wpAny_setField lj rfl (by simp) ?_);refine U (wpAny_setField (ZR lj) rfl (by simp) ?_);refine wpAny_setField (fe2 (ZR lj)) rfl (by simp) ?_;refine E6 hr.handled x1 ?_ x6;exact x2.setM ZS (i.symm▸((er ..).trans (er ..)).trans (er ..)) (i.symm▸fe3 (fe2 (ZR lj))) ⟨[.none,.none,.bool true],rfl,.cons rfl (.cons rfl (.cons rfl .nil))⟩
theorem He:builtinKind "iter"=none:=by decide+kernel
theorem Dk:plainId "iter"=true:=by decide+kernel
theorem Dl:entryFor table "iter"=some Builtin.«iter»:=o5 (by kernel_rfl)
theorem Dm(a b:Value):argsOk "iter" ⟨[a,b],[]⟩:=by unfold argsOk;kernel_rfl
theorem vT:∃i,typeLookup (.type "method") "__call__"=Pure.pure (some (.builtin i)):=⟨"method.__call__",by rw[hY,jx];kernel_rfl⟩
def RW(f:Addr)(vs:List V):ad V:=pV vs λa b σ Q=>aA (A0 f σ.mem a) λ_=>aA b.sv λx=>jU (.bP .ng [a,.str x,.bool false]) σ Q
theorem Hf:cz g k (.builtin "iter") (RW f):=by intro F d A af vs us hr D s wd σ Q Z R J;refine yq D J λa b u v e ha hb J=>ah J λself e1 J=>ah J λx ex J=>xE (VR.str ex hb) λt I=>d3 (rm R (VR.mono Z ha) e1) λq su y Y _=>xE vT λi hi=>?_;have z:=VR.mono Z ha;rw[y] at z;rw[e,y,I];refine call_function_entry He Dk Dl (Dm _ _) ?_;refine(?_ :wpAny _ _ (specialOf (.ref q) "__call__" >>=_) _ _ s);refine U (wpAny_specialOf ⟨_,Y,rfl⟩ hi ?_);refine fe rfl ?_;refine U (eQ (U ?_));unfold newFields;refine gP (aj ?_);exact⟨_,rfl,wd.push s.heap.objs.size,.loc σ.mem.length,_,Wd.aT _ _,R.cE (o:=.bP .ng [a,.str x,.bool false]) ⟨[.ref q,.str x t,.bool false],rfl,.cons (VR.mono (Wd.aT _ _) z) (.cons ⟨t,rfl⟩ (.cons rfl .nil))⟩,R.pushed,J⟩
noncomputable def mW(mem:List O)(l:Nat):Bool:=(Ny mem[l]?).isSome
theorem vU(R:bU g F d wd σ s)(h:mW σ.mem l=true):∃f x e,s.heap.get? (wd.ρ l)=some (fU f x e)/\l<wd.n:=qU h λq e=>yH R e λa b c dP ho _ _ _=>⟨a,b,c,ho,dP⟩
def ciK(l:Nat)(As:V->ad Unit)(Q:Fl->St->Prop)(K:Unit->St->Prop)(o:Option V)(G:St):Prop:=match o with
 |none=>Q .next G
 |some v=>gd (mW G.mem l) (As v G K)
noncomputable def vV(Wn:ad (Option V))(l:Nat)(As:V->ad Unit)(Wb:ad Fl):Nat->St->(Fl->St->Prop)->Prop
 |0,_,_=>False
 |n+1,σ,Q=>Wn σ (ciK l As Q (tS Wb (QY (λH=>vV Wn l As Wb n H Q) Q)))
def VB(g:G)(F:df)(d:hJ)(Wn:ad (Option V))(l:Nat)(As:V->ad Unit)(Wb:ad Fl)(wd:Wd)(Q:Fl->St->Prop)(n:Nat)(s:Shared):Prop:=∃D σ,Wd.Le wd D/\bU g F d D σ s/\vV Wn l As Wb n σ Q
theorem JE{W:List V->ad V}(Rz:fnIn g.K f=true)(hc:cO g k (.ref f) W){As:V->ad Unit}(hi:be g F (k+1) iter Wi)(ha:q9 g F (k+1) target As)(hb:k0 g F (k+1) body Wb)(z:∀bc v,foldedSetIterable iter bc v=Pure.pure v):iW g F (k+1) (.For target iter body [] pos) (λσ Q=>Wi σ λv G=>aA (pO v) λl=>gd (mW G.mem l) (∃n,vV (iG f W l) l As Wb n G Q)):=by
 refine yp hi z λd A bg σ s l Q hr R dP J=>?_;refine Ur (aL J) λh1 n T=>nf (vU R h1) λcf cx ce ho _=>?_;refine yG ho ?_;refine wpAny_runOwn ?_;refine(?_ :codeAny (model g.prog g.w) A _ _ _);refine fM (sH (R:=Yv g F d bg Q) (VB g F d (iG f W l) l As Wb bg Q) ?_ n ⟨bg,_,.refl _,R,T⟩) λr s' x=>by cases r<;>first|exact x|exact x.elim
 intro n s hI;refine d3 hI λD σ h1 R J=>?_;cases n with
 |zero=>exact J.elim
 |succ n=>
  refine bb.go (Hd Rz hc hr ⟨dP,rfl⟩) h1 R J λo mM P o' E x1 x2 x3 x4=>?_;cases o' with
  |none=>rw[show o=none from x3];exact hX (az P .next E (h1.trans x1) x2 rfl x4)
  |some b=>
   refine bx x3 λu eu x3=>xA (aL x4) λh5 x5=>nf (vU x2 h5) λcf cx ce ho _=>?_;rw[eu];rw[(h1.trans x1).ρ l dP] at ho;refine qm ho rfl (by decide) ?_;refine bb.go (ha d A P b u hr x3) (.refl _) x2 x5 λ_ GI q6 _ nh y1 O _ y4=>?_;refine bb.go (hb d A P hr) y1 O y4 λf AL lq j t L z2 z3 z4=>?_;have S:=((h1.trans x1).trans y1).trans L;cases j with
   |next=>rw[z3];exact⟨n,eA _,lq,t,S,z2,z4⟩
   |cont=>rw[z3];exact⟨n,eA _,lq,t,S,z2,z4⟩
   |brk=>rw[z3];exact az lq .next t S z2 rfl z4
   |ret v=>exact bx z3 λu' e hv=>e.symm▸az lq (.ret v) t S z2 ⟨u',rfl,hv⟩ z4
end
theorem hM.own1{mem:List O}(R:hM g wd mem h){o:O}(ha:h.get? a=some ob)(ho:OR g (wd.push a) o ob)(S:wd.fz a=none)(hn:∀l,l<wd.n->wd.ρ l≠a)(M:a≠sysModules):hM g (wd.push a) (mem++[o]) h:=R.UZ R.sQ (λ_ _ _ e=>e) S hn ha ho M
noncomputable def Wd.pushes(wd:Wd):List Addr->Wd
 | []=>wd
 |a::r=>(wd.push a).pushes r
theorem Wd.xI(as:List Addr)(wd:Wd):Wd.Le wd (wd.pushes as):=by
 induction as generalizing wd with
 |nil=>exact .refl _
 |cons a r T=>exact(Wd.aT wd a).trans (T (wd.push a))
theorem Wd.Bh(as:List Addr)(wd:Wd):(wd.pushes as).n=wd.n+as.length:=by
 induction as generalizing wd with
 |nil=>rfl
 |cons a r T=>exact(T (wd.push a)).trans ((cS wd.n 1 r.length).trans (ag (wd.n+ ·) (gA 1 _)))
theorem Wd.xJ(as:List Addr)(wd:Wd)(i:Nat)(a:Addr)(h:as[i]?=some a):(wd.pushes as).ρ (wd.n+i)=a:=by
 induction as generalizing wd i with
 |nil=>exact nS h
 |cons b r T=>
  cases i with
  |zero=>rw[<-aq h];exact((Wd.xI r (wd.push b)).ρ (wd.n+0) (eA _)).trans (Wd.mj wd b)
  |succ i=>have:=T (wd.push b) i h;rw[show(wd.push b).n+i=wd.n+(i+1) from Nat.succ_add wd.n i] at this;exact this
theorem Wd.Hg(as:List Addr)(wd:Wd):(wd.pushes as).fz=wd.fz:=by
 induction as generalizing wd with
 |nil=>rfl
 |cons a r T=>exact T (wd.push a)
theorem hM.adds(as:List (Addr×O)){mem:List O}(R:hM g wd mem h)(H:∀p∈as,wd.fz p.1=none/\(∀l,l<wd.n->wd.ρ l≠p.1)/\p.1≠sysModules/\∃ob,h.get? p.1=some ob/\∀bg,Wd.Le wd bg->OR g bg p.2 ob) (hn:(as.map (·.1)).Nodup):hM g (wd.pushes (as.map (·.1))) (mem++as.map (·.2)) h:=by
 induction as generalizing wd mem with
 |nil=>rw[List.map_nil,List.map_nil,aS];exact R
 |cons p r T=>
  refine Ct (H p (.head _)) λh1 h2 h3 ob h4 h5=>?_;rw[cy,l_] at hn;refine(?_ :hM g ((wd.push p.1).pushes (r.map (·.1))) (mem++(p.2::r.map (·.2))) h);rw[List.append_cons];exact T (R.own1 h4 (h5 _ (Wd.aT _ _)) h1 h2 h3) (λq Y=>Ct (H q (.tail _ Y)) λq1 q2 q3 oq q4 q5=>
   ⟨q1,λl Z e=>Wd.eE Z (λh1 e1=>q2 l h1 (e1.symm.trans e)) λ_ e1=>hn.1 (by rw[e1.symm.trans e];exact sJ Y),q3,oq,q4,λbg Z=>q5 bg ((Wd.aT _ _).trans Z)⟩) hn.2
theorem Bi(bs:List (Str×Value))(m:Str->Option Value)(y:Str)(h:y∉bs.map (·.1)):bindL kd bs m y=m y:=by
 induction bs generalizing m with
 |nil=>rfl
 |cons b r T=>
  rw[cy,pv] at h;refine(T _ λq=>h (.inr q)).trans ?_;split
  ·exact aH (λe=>h (.inl e))
  ·rfl
theorem JF(bs:List (Str×Value))(m:Str->Option Value)(y:Str)(u:Value)(hn:(bs.map (·.1)).Nodup)(hm:(y,u)∈bs)(hk:kd y=some .local):bindL kd bs m y=some u:=by
 induction bs generalizing m with
 |nil=>exact nomatch hm
 |cons b r T=>rw[cy,l_] at hn;refine(List.mem_cons.mp hm).elim (λe=>?_) λe=>T _ hn.2 e;rw[<-e] at hn ⊢;refine(Bi r _ _ hn.1).trans ?_;rw[a6 hk];exact a6 rfl
theorem t9(bs:List (Str×Value))(m:Str->Option Value)(y:Str)(h:y∉bs.map (·.1)):bindC kd bs m y=m y:=by
 induction bs generalizing m with
 |nil=>rfl
 |cons b r T=>
  rw[cy,pv] at h;refine(T _ λq=>h (.inr q)).trans ?_;split
  ·rfl
  ·exact aH (λe=>h (.inl e))
theorem JG(bs:List (Str×Value))(m:Str->Option Value)(y:Str)(u:Value)(hn:(bs.map (·.1)).Nodup)(hm:(y,u)∈bs)(hk:kd y≠some .local):bindC kd bs m y=some u:=by
 induction bs generalizing m with
 |nil=>exact nomatch hm
 |cons b r T=>rw[cy,l_] at hn;refine(List.mem_cons.mp hm).elim (λe=>?_) λe=>T _ hn.2 e;rw[<-e] at hn ⊢;refine(t9 r _ _ hn.1).trans ?_;rw[aH hk];exact a6 rfl
noncomputable def ZT(vs:List V):Option Nat->Option V
 |some j=>vs[j]?
 |none=>none
noncomputable def vW(vs:List V):Option Nat->O
 |some j=>match vs[j]? with
  |some v=>.cell v
  |none=>.de
 |none=>.de
structure Dn(F':df)(ps:List Str)(lm cm:List (Option Nat)):Prop where
 adW:lm.length=F'.names.length
 VC:cm.length=F'.cells.length
 atL:∀(i:Nat)(x:Str)(j:Nat),F'.names[i]?=some x->lm[i]?=some (some j)->ps[j]?=some x
 atC:∀(i:Nat)(x:Str)(j:Nat),F'.cells[i]?=some x->cm[i]?=some (some j)->ps[j]?=some x
 noC:∀(i:Nat)(x:Str),F'.cells[i]?=some x->cm[i]?=some none->x∉ps
 kdL:∀x∈F'.names,F'.scope.names.lookup x=some .local
 kdC:∀x∈F'.cells,F'.scope.names.lookup x=some .cell
 psn:ps.Nodup
 psk:∀x∈ps,F'.scope.names.lookup x=some .local\/x∈F'.cells
 cells:∀n:Nat,cellsFrom n F'.scope.names []=((F'.cells.zip ((List.range F'.cells.length).map (n+ ·)))).reverse
 nodup:F'.cells.Nodup
theorem ru{ps:List Str}{lm cm:List (Option Nat)}(C:Dn F' ps lm cm)(n i:Nat)(x:Str)(h:F'.cells[i]?=some x):(cellsFrom n F'.scope.names []).lookup x=some (n+i):=by
 rw[C.cells];have hi:=(List.getElem?_eq_some_iff.mp h).1;refine mN ?_ ?_
 ·rw[gU];exact(o3 _).nodup_iff.mpr (((nU _ _).nodup C.nodup))
 ·rw[kc];exact q7 h (by rw[bi,j7 hi];rfl)
section
theorem yI{qn:Str}(hb:k0 g F' k body Wb){ps:List Str}{lm cm:List (Option Nat)}(C:Dn F' ps lm cm){dV kV fx pm ct oc:Value}{an od:Option Addr}{Aw:Array (Option Value)}(ho:g.K.lookup f=some ⟨oc,od,.func (fnOf name qn params body F'.scope dV kV fx pm an F'.cd ct),Aw⟩) (Q8:codeIn g.K F'.cd qn=true) (Y:F'.qual=qn++".<locals>.") (n:Nat) (dflt:List V) (RX:ps.length=n+dflt.length)(m:∀(s:Shared)(us:List Value),g.K.In s.heap->us.length=n->∃ds,(∀wd,aE (VR wd) dflt ds)/\BindsTo s (fnOf name qn params body F'.scope dV kV fx pm an F'.cd ct) ⟨us,[]⟩ (ps.zip (us++ds)))(E:F'.scope.isCoroutine=false) (H:F'.scope.isGenerator=false) (hk:F'.scope.kind= .function):cO g (k+1) (.ref f) (λvs σ Q=>gd (Nat.beq vs.length n) (Wb ⟨lm.map (ZT (vs++dflt)),(List.range F'.cells.length).map (σ.mem.length+ ·),σ.mem++cm.map (vW (vs++dflt))⟩ λfl a9=>Q (nV fl) {σ with mem:=a9.mem})):=by
 intro F d A af vs us hr D s wd σ Q Z R J;refine xA (aL J) λh1 J=>?_;have hn:=bK h1;have cn:=D.len;refine bx (m s us (g.X.keeps R.hb) (fC [_,_,_] (.e 1 (.v 0) (.v 1) (.f 1 (.v 0) (.v 2) .nil)) 0 (.v 2) (.v 1) tt tt hn cn)) λds G Q9=>?_;refine xE (R.there) λU W=>?_;have S:=(G wd).len;have JH:=(D.mono λ_ _ h=>VR.mono Z h).append (G _);have Bj:(us++ds).length=ps.length:=by rw[ak];exact fC [_,_,_,_,_,_] (.f 1 (.v 0) (.a (.v 1) (.v 2)) (.e 1 (.v 3) (.v 1) (.f 1 (.v 3) (.v 4) (.f 1 (.v 2) (.v 5) .nil)))) 0 (.a (.v 4) (.v 5)) (.v 0) tt tt RX hn cn S
 have JI:(ps.zip (us++ds)).map (·.1)=ps:=by rw[List.map_fst_zip];exact aQ [_,_] (.f 1 (.v 0) (.v 1) .nil) 0 (.v 1) (.v 0) tt Bj
 have nD:((ps.zip (us++ds)).map (·.1)).Nodup:=by rw[JI];exact C.psn
 refine codeAny_call_function hr.yn ((g.X.keeps R.hb) _ _ ho) rfl E H rfl (codeRec_of (g.X.keeps R.hb) Q8) (Q9 _ _ _ _ ?_);refine wpAny_newFunctionEnv_cells hk (λx B=>?_) λad2 he s' x=>?_
 ·have ZU:x.1∈ps:=by rw[<-JI];exact sJ B
  rcases C.psk x.1 ZU with h|h
  ·exact .inl h
  ·obtain⟨i,hi,e⟩:=List.getElem_of_mem h;exact .inr ⟨C.kdC _ h,by rw[ru C _ i x.1 (by rw[bC hi,e])];rfl⟩
 subst he;refine⟨(g.T.nolimit.keeps R.hb).keeps x.toInCall.keep,codeAny_func ?_⟩;refine dB (x.done) λiC tk jM _=>?_;obtain rfl:=jM;have vi:=x.toInCall.keep;have ee:newEnv F'.scope s.heap.objs.size mainGlobals (cellsFrom (s.heap.objs.size+1) F'.scope.names []) (qn++".<locals>.") (some f) F'.cd none builtinsNs=aK F' ⟨s.heap.objs.size,some f,some s.heap.objs.size,cellsFrom (s.heap.objs.size+1) F'.scope.names []⟩:=by unfold aK;rw[Y];rfl
 have lI:s.heap.get? s.heap.objs.size=none:=c6 _;have mS:Wd.Le wd (wd.jr d.L U):=Wd.nP R.qf;have JK:∀i x,F'.cells[i]?=some x->(cellsFrom (s.heap.objs.size+1) F'.scope.names []).lookup x=some (s.heap.objs.size+1+i):=λi x e=>ru C _ i x e;have M0:=(R.mem.jr W R.qf R.kZ).keeps vi;have nX:∀i:Nat,s.heap.get? (s.heap.objs.size+1+i)=none:=λi=>gO (aQ [_,_] .nil 0 (.v 0) (.a (.a (.v 0) (.n 1)) (.v 1)) tt);let as:List (Addr×O):=((List.range F'.cells.length).map (s.heap.objs.size+1+ ·)).zip (cm.map (vW (vs++dflt)));have Do:as.map (·.1)=(List.range F'.cells.length).map (s.heap.objs.size+1+ ·):=by refine(?_ :(List.zip _ _).map _=_);rw[List.map_fst_zip];simp[C.VC]
 have VD:as.map (·.2)=cm.map (vW (vs++dflt)):=by refine(?_ :(List.zip _ _).map _=_);rw[List.map_snd_zip];simp[C.VC]
 have M1:hM g ((wd.jr d.L U).pushes (as.map (·.1))) (σ.mem++as.map (·.2)) iC:=by
  refine M0.adds as (λp hp=>?_) ?_
  ·obtain⟨i,hi,e⟩:=List.getElem_of_mem hp;have Hh:i<F'.cells.length:=by
    have:as.length=F'.cells.length:=by have:=ag List.length Do;simpa using this
    exact aQ [_,_,_] (.c 1 (.a (.v 0) (.n 1)) (.v 1) (.e 1 (.v 1) (.v 2) .nil)) 0 (.a (.v 0) (.n 1)) (.v 2) tt hi this
   have hp1:p.1=s.heap.objs.size+1+i:=by
    have h2:(as.map (·.1))[i]?=some p.1:=by rw[bi,bC hi,e];rfl
    rw[Do,bi,j7 Hh] at h2;exact(aq h2).symm
   have ZV:∃oj,cm[i]?=some oj/\p.2=vW (vs++dflt) oj:=by
    have h2:(as.map (·.2))[i]?=some p.2:=by rw[bi,bC hi,e];rfl
    rw[VD,bi] at h2;refine bx (Option.map_eq_some_iff.mp h2) λoj q1 q2=>?_;exact⟨oj,q1,q2.symm⟩
   refine bx ZV λoj hoj ZV=>?_;have B:=bC Hh;refine bx (x.cell _ _ (JK i _ B)) λoc' RY NC=>?_;rw[hp1];have Hj:=nX i;refine⟨?_,λl dP e=>?_,?_,oc',RY,λbg gI=>?_⟩
   ·cases q:(wd.jr d.L U).fz (s.heap.objs.size+1+i) with
    |none=>rfl
    |some o'=>have:=(R.mem.jr W R.qf R.kZ).sQ _ _ q;rw[Hj] at this;exact nS this
   ·refine bx (R.mem.own l (σ.mem[l]'(by rw[<-R.mem.len];exact dP)) (bC _)) λob q1 _=>?_;rw[show wd.ρ l=s.heap.objs.size+1+i from e,Hj] at q1;exact nS q1
   ·refine dB (g.sm) λz o h1 h2=>?_;have h3:=bT (R.hb z o h2);have h4:z<s.heap.objs.size+1+i:=dA h3 (am (eC _) (gT _ _));exact dJ (fN h1 h4)
   ·rw[ZV];cases oj with
    |none=>have YB:=C.noC i _ B hoj;rw[t9 _ _ _ (by rw[JI];exact YB)] at NC;exact NC
    |some j=>
     have YC:=C.atC i _ j B hoj;have hj:=(List.getElem?_eq_some_iff.mp YC).1;obtain⟨v,hv⟩:∃v,(vs++dflt)[j]?=some v:=⟨_,bC (by rw[JH.len];exact aQ [_,_,_] (.f 1 (.v 0) (.v 1) (.c 1 (.a (.v 2) (.n 1)) (.v 1) .nil)) 0 (.a (.v 2) (.n 1)) (.v 0) tt Bj hj)⟩;refine bx (JH.get hv) λu N M4=>?_;have hb:=JG (kd:=(newEnv F'.scope s.heap.objs.size mainGlobals (cellsFrom (s.heap.objs.size+1) F'.scope.names []) (qn++".<locals>.") (some f) F'.cd none builtinsNs).kindOf) (ps.zip (us++ds)) (λ_=>none) F'.cells[i] u nD (q7 YC N) (by
      refine(?_ :¬ F'.scope.names.lookup _=_);rw[C.kdC _ (o7 Hh)];intro e;cases e)
     rw[hb] at NC;rw[show vW (vs++dflt) (some j)= .cell v from by
      refine(?_ :(match (vs++dflt)[j]? with|some v=>O.cell v|none=>O.de)=_);rw[hv]]
     exact⟨u,NC,VR.mono (mS.trans gI) M4⟩
  ·rw[Do];exact List.pairwise_map.mpr ((List.nodup_range (n:=F'.cells.length)).imp λ{a b} h e=>h (Nat.add_left_cancel e))
 have ND:Wd.Le (wd.jr d.L U) ((wd.jr d.L U).pushes (as.map (·.1))):=Wd.xI _ _;have R1:bU g F' ⟨s.heap.objs.size,some f,some s.heap.objs.size,cellsFrom (s.heap.objs.size+1) F'.scope.names []⟩ ((wd.jr d.L U).pushes (as.map (·.1)))
  ⟨lm.map (ZT (vs++dflt)),(List.range F'.cells.length).map (σ.mem.length+ ·),σ.mem++cm.map (vW (vs++dflt))⟩ {s with heap:=iC,toks:=tk}:=by
  refine⟨VD▸M1,⟨_,x.toInCall.ns,λi y v e1 e2=>?_⟩,λi y l e1 e2=>?_,?_,λl dP e=>?_,R.gens,R.os⟩
  ·dsimp only at e2;rw[bi] at e2;refine bx (Option.map_eq_some_iff.mp e2) λoj q1 q2=>?_;cases oj with
   |none=>exact nS q2
   |some j=>have q2:=q2;have YC:=C.atL i y j e1 q1;refine bx (JH.get q2) λu N M4=>?_;exact⟨u,JF (ps.zip (us++ds)) _ y u nD (q7 YC N) (C.kdL y (eg e1)),VR.mono (mS.trans ND) M4⟩
  ·dsimp only at e2;have hi:=(List.getElem?_eq_some_iff.mp e1).1;rw[bi,j7 hi] at e2;have r:=(aq e2).symm;subst r;have YD:=R.mem.len.symm;refine⟨?_,?_⟩
   ·rw[Wd.Bh,Do];refine(?_ :σ.mem.length+i<wd.n+_);simp;exact aQ [_,_,_,_] (.c 1 (.a (.v 0) (.n 1)) (.v 1) (.e 1 (.v 2) (.v 3) .nil)) 0 (.a (.a (.v 2) (.v 0)) (.n 1)) (.a (.v 3) (.v 1)) tt hi YD
   ·rw[JK i y e1,YD];have:=Wd.xJ (as.map (·.1)) (wd.jr d.L U) i (s.heap.objs.size+1+i) (by rw[Do,bi,j7 hi];rfl);rw[show(wd.jr d.L U).n=wd.n from rfl] at this;rw[this]
  ·rw[Wd.Hg];cases q:(wd.jr d.L U).fz s.heap.objs.size with
   |none=>rfl
   |some ob=>have:=(R.mem.jr W R.qf R.kZ).sQ _ _ q;rw[lI] at this;exact nS this
  ·refine(Nat.lt_or_ge l wd.n).elim (λh2=>?_) λh2=>?_
   ·rw[ND.ρ l h2] at e;refine bx (R.mem.own l (σ.mem[l]'(by rw[<-R.mem.len];exact h2)) (bC _)) λob q1 _=>?_;rw[show wd.ρ l=s.heap.objs.size from e,lI] at q1;exact nS q1
   ·rw[Wd.Bh,Do] at dP;have dP:=dP;simp at dP;refine xE (Nat.le.dest h2) λi YE=>?_;rw[<-YE] at dP e;have hi:=Nat.lt_of_add_lt_add_left dP;have:=Wd.xJ (as.map (·.1)) (wd.jr d.L U) i (s.heap.objs.size+1+i) (by rw[Do,bi,j7 hi];rfl);rw[show(wd.jr d.L U).n=wd.n from rfl] at this;rw[this] at e;have e:=e;exact Av [_,_] (.e 1 (.a (.a (.v 0) (.n 1)) (.v 1)) (.v 0) .nil) 0 tt e
 refine(?_ :wpAny (model g.prog g.w) (A.deeper (newEnv F'.scope s.heap.objs.size mainGlobals (cellsFrom (s.heap.objs.size+1) F'.scope.names []) (qn++".<locals>.") (some f) F'.cd none builtinsNs)) (execs body (newEnv F'.scope s.heap.objs.size mainGlobals (cellsFrom (s.heap.objs.size+1) F'.scope.names []) (qn++".<locals>.") (some f) F'.cd none builtinsNs)) _ _ _);rw[ee];refine bb.go (hb _ _ ((wd.jr d.L U).pushes (as.map (·.1))) hr.deeper) (.refl _) R1 J λfl s' bg M5 a9 x1 x2 x3 x4=>?_;refine az (bg.jV d.L) (nV M5) _ (Wd.pD R.qf (ND.trans x1)) (R.leave W x2 (ND.trans x1)) ?_ x4;cases M5 with
 |ret v=>exact bx x3 λu e hv=>by rw[e];exact VR.jV hv
 |next=>rw[x3];rfl
 |brk=>rw[x3];rfl
 |cont=>rw[x3];rfl
end
structure n9(g:G)(F:df)(t:Nat)(c P:Addr):Prop where
 cd:F.cd= .ref c
 hd:CodeHd g.hb c P
 tab:g.tabs[t]?=some P
noncomputable def VE(t:Nat)(o:Option O):Option Bool:=(o.bind O.tb).bind λp=>cond (Nat.beq p.1 t) (some p.2) none
theorem E7(h:VE t o=some b):o=some (.tab t b):=aI h λp e h=>kL h λh1 h2=>(e_ O.QC e).trans (by rw[bK h1,h2])
def xK(t:Nat)(fY:List Nat):ad V:=λσ Q=>aA (VE t σ.mem[t]?) λ_=>aA (Db σ.iA fY) λls=>Q (.loc σ.mem.length) {σ with mem:=σ.mem.set t (.tab t true)++[.fn t ls]}
structure s_(F:df)(scope:Scope)(fY:List Nat):Prop where
 nodup:(c9 scope).Nodup
 E2:∀(j:Nat)(x:Str),(c9 scope)[j]?=some x->∃i:Nat,fY[j]?=some i/\F.cells[i]?=some x
 A7:fY.length=(c9 scope).length
section
theorem Dq(f:α->β)(xs:List α)(I:List β)(Z:xs.length=I.length)(h:∀(i:Nat)(x:α),xs[i]?=some x->I[i]?=some (f x)):xs.map (λx=>(x,f x))=xs.zip I:=by
 induction xs generalizing I with
 |nil=>rfl
 |cons x xs T=>
  cases I with
  |nil=>exact nomatch Z
  |cons y I=>rw[cy,List.zip_cons_cons,T I (fV Z) λi z e=>h (i+1) z e,aq (h 0 x rfl)]
theorem E8(C:s_ F scope fY){iA:List Nat}(hc:w9 F wd iA d.cl)(M:Db iA fY=some ls):closureFor scope (aK F d)=Pure.pure (((c9 scope).zip (ls.map wd.ρ)).reverse)/\∀l∈ls,l<wd.n:=by
 have cn:=A6 M;have at':∀(j:Nat)(x:Str)(l:Nat),(c9 scope)[j]?=some x->ls[j]?=some l->l<wd.n/\d.cl.lookup x=some (wd.ρ l):=by intro j x l hj Z;refine bx (C.E2 j x hj) λi h1 h2=>?_;refine bx (vL M j l Z) λi' h3 h4=>?_;exact hc i x l h2 (aq (h1.symm.trans h3)▸h4)
 have S:∃f:Str->Addr,∀(j:Nat)(x:Str),(c9 scope)[j]?=some x->d.cl.lookup x=some (f x)/\(ls.map wd.ρ)[j]?=some (f x):=by
  refine⟨λx=>(d.cl.lookup x).getD 0,λj x hj=>?_⟩;have hjl:j<ls.length:=by rw[cn,C.A7];exact(List.getElem?_eq_some_iff.mp hj).1
  refine xA (at' j x ls[j] hj (bC hjl)) λh1 h2=>?_;dsimp only;rw[h2,bi,bC hjl];exact⟨rfl,rfl⟩
 refine xE S λf S=>⟨?_,λl Z=>?_⟩
 ·rw[pY scope (aK F d) f λx B hk=>?_,Dq f (c9 scope) (ls.map wd.ρ) (by rw[ax,cn,C.A7]) λi x e=>(S i x e).2];have hm:x.1∈c9 scope:=List.mem_map.mpr ⟨x,List.mem_filter.mpr ⟨B,by rw[hk];rfl⟩,rfl⟩;exact xE (List.mem_iff_getElem?.mp hm) λj hj=>(S j x.1 hj).1
 ·exact xE (List.mem_iff_getElem?.mp Z) λj hj=>(at' j _ _ (bC (by rw[<-C.A7,<-cn];exact(List.getElem?_eq_some_iff.mp hj).1)) hj).1
theorem bU.grown{s':Shared}(R:bU g F d wd σ s){c':Addr}{oc:Obj}(ht:σ.mem[t]?=some (.tab t b))(j:wd.ρ t=P)(B:Heap.ExtBut P s.heap s'.heap) (k:s.heap.objs.size<=c') (RZ:s'.heap.get? c'=some oc) (E:tO oc (g.tq t)) (VF:s'.heap.get? P=some (tabObj #[rawInt (g.tp t).line,rawInt (g.tp t).col,.ref c']))(h1:s'.gens=s.gens:=by rfl) (h2:s'.os=s.os:=by rfl):bU g F d (wd.jr c' oc) {σ with mem:=σ.mem.set t (.tab t true)} s':=by
 refine jB (R.get ht) λUz ot f _=>?_;have ZW:=gO k;have NF:wd.fz c'=none:=by
  cases q:wd.fz c' with
  |none=>rfl
  |some o=>have:=R.mem.sQ _ _ q;rw[ZW] at this;exact nS this
 have RY:∀l,l<wd.n->wd.ρ l≠c':=λl Z e=>bx (R.mem.own l (σ.mem[l]'(by rw[<-R.mem.len];exact Z)) (bC _)) λob q1 _=>by rw[e,ZW] at q1;exact nS q1
 have Z:=Wd.nP (o:=oc) NF;refine bx (R.loc) λm hn hm=>?_;refine⟨⟨by rw[dS];exact R.mem.len,λa o e=>?_,λa o e=>Z.fz a o (R.mem.base a o e),λl o e=>?_,R.mem.low,R.mem.inj,λl dP=>?_,R.mem.tabs.mono Z⟩,⟨m,hn.extBut B ?_,hm.mono Z⟩,R.iA.mono Z,?_,R.kZ,h1.trans R.gens,h2.trans R.os⟩
 ·by_cases q:a=c'
  ·subst q;have:(wd.jr a oc).fz a=some oc:=a6 rfl;rw[this] at e;obtain rfl:=aq e;exact RZ
  ·have e:wd.fz a=some o:=by have:(wd.jr c' oc).fz a=wd.fz a:=aH q;rw[this] at e;exact e
   refine B a o (λq=>?_) (R.mem.sQ a o e);have:=R.mem.new t Uz;rw[j,<-q,e] at this;exact MB this
 ·by_cases q:l=t
  ·subst q;rw[fG (by rw[<-R.mem.len];exact Uz)] at e;obtain rfl:=aq e;exact⟨_,(by show s'.heap.get? (wd.ρ l)=_;rw[j];exact VF),c',oc,rfl,a6 rfl,E⟩
  ·rw[c7 (bM q)] at e;refine jB (R.get e) λdP ob q1 q2=>?_;exact⟨ob,B _ _ (λe1=>q (R.mem.inj _ _ dP Uz (e1.trans j.symm))) q1,q2.mono Z⟩
 ·refine(?_ :(if wd.ρ l=c' then some oc else wd.fz (wd.ρ l))=none);rw[aH (RY l dP)];exact R.mem.new l dP
 ·exact λq=>R.kZ t Uz (by rw[j,q])
 ·refine(?_ :(if d.L=c' then some oc else wd.fz d.L)=none);rw[aH λq=>?_]
  ·exact R.qf
  ·refine xE (R.there) λo ho=>?_;rw[q,ZW] at ho;exact nS ho
theorem mX{s:Shared}(k:∀a o,g.hb.get? a=some o->h.get? a=some o){ps:Array Value}(j:h.get? P=some (tabObj ps)):h.BuiltinsAt g.mg P/\mainGlobals≠P:=by
 have R5:=g.T.g.keeps k;refine Ao (g.T.bmain) λbm ob u b2 b3 b4 b5 b6=>?_;have R6:mainGlobals≠P:=λq=>by refine jf R5 λo es ep e hd _=>?_;rw[q,j] at e;rw[<-aq e] at hd;exact nomatch hd
 have hbP:bm≠P:=λq=>by have e:=k _ _ b3;rw[q,j] at e;rw[<-aq e] at b4;exact nomatch b4
 have hbG:bm≠mainGlobals:=λq=>by refine jf (g.T.g) λo es ep e hd _=>?_;rw[q,e] at b3;rw[<-aq b3,hd] at b6;exact nomatch b6
 exact⟨⟨bm,ob,u,b2,hbG,hbP,k _ _ b3,b4,b5,b6⟩,R6⟩
theorem bU.made{D:Wd}{G:St}{dG:Shared}(R:bU g F d D G dG){oc:Obj}{c':Addr}{io fx:Value}{Q:V->St->Prop}(gI:Wd.Le wd D)(p:∀l∈ls,l<D.n)(ho:ob=g.fo t (((g.ff t).zip (ls.map D.ρ)).reverse) fx c' io) (YF:ob.isFreed=false) (NF:D.fz c'=some oc) (E:tO oc (g.tq t)) (C:Q (.loc G.mem.length) {G with mem:=G.mem++[.fn t ls]}):iB g F d qg wd Q (.ref dG.heap.objs.size) {dG with heap:=dG.heap.push ob}:=az _ (.loc G.mem.length) _ (gI.trans (Wd.aT _ _)) (R.cE (o:=.fn t ls)
  ⟨c',oc,io,fx,ho.trans (by rw[ir λl Z=>((Wd.aT D dG.heap.objs.size).ρ l (p l Z)).symm]),NF,E,λl Z=>fJ (p l Z),YF⟩) R.pushed C
theorem yJ{mem:List O}{o:O}(ht:mem[t]?=some o):mem.set t o=mem:=by have h4:=(List.getElem?_eq_some_iff.mp ht).2;rw[<-h4,List.set_getElem_self]
theorem Bk(N:n9 g F t c P){qual:Str}(C:s_ F scope fY)(a:g.fo t=λfA fx c' io=>fnMade name qual params body scope fA fx ((g.mg "__name__").getD .none) c' io) (e:g.tp t=pos) (w:g.tq t=qual) (l:g.ff t=c9 scope) :bb g F d A af qg (makeFunction name qual params (.stmts body) scope (aK F d) [] [] [] pos xD) (xK t fY):=by
 intro s wd σ Q Z R J;refine ah J λb h1 J=>?_;refine ah J λls h2 J=>?_;have ht:=E7 h1;refine jB (R.get ht) λUz ot f PJ=>?_;have j:=(R.mem.tabs t P N.tab).2;refine xA (E8 C R.iA h2) λL p=>?_;have R5:=g.T.g.keeps R.hb;rw[j] at f;cases b with
 |false=>
  rw[show ot=tabObj #[] from PJ] at f;refine xA (mX (g:=g) (s:=s) R.hb f) λhb R6=>?_;refine makeFunction_K (mg:=g.mg) L rfl R5 N.cd (N.hd.keeps R.hb) f d7 rfl R6 hb λc' io fx h' tk B k dP R7 VF=>?_;refine gZ R7 λZX oc vs tq e2 RZ hd hv=>?_;rw[<-jc e2] at RZ;have E:tO oc (g.tq t):=⟨vs,tq,hd,by rw[w];exact hv⟩;have R1:bU g F d (wd.jr c' oc) {σ with mem:=σ.mem.set t (.tab t true)} {s with heap:=h',toks:=tk}:=R.grown (P:=P) ht j B k RZ E (by rw[e];exact VF);have gI:Wd.Le wd (wd.jr c' oc):=Wd.nP (by
   cases q:wd.fz c' with
   |none=>rfl
   |some o=>have:=R.mem.sQ _ _ q;rw[gO k] at this;exact nS this)
  exact R1.made gI p (by rw[a,l];rfl) rfl (a6 rfl) E (by show Q (.loc (σ.mem.set t _).length) _;rw[dS];exact J)
 |true=>refine d3 PJ λc' oc jM NF E=>?_;rw[jM] at f;refine xA (mX (s:=s) R.hb f) λhb R6=>?_;refine makeFunction_hit (cv:=.ref c') L rfl R5 N.cd (N.hd.keeps R.hb) f (by simp[TriplesOk,rawInt]) (by simp[codeAmong,rawInt,e]) hb λio fx h' tk hk D=>?_;have R1:bU g F d wd σ {s with heap:=h'}:=R.keeps hk;rw[yJ ht] at J;exact R1.toks.made (.refl _) p (by rw[a,l]) rfl NF E J
theorem JL(i:Nat)(N:n9 g F t c P){qual:Str}(C:s_ F scope fY)(a:g.fo t=λfA fx c' io=>fnMade name qual params body scope fA fx ((g.mg "__name__").getD .none) c' io) (e:g.tp t=pos) (w:g.tq t=qual) (l:g.ff t=c9 scope)(R8:∀d,qualnameIn (aK F d) name name=qual) (hd0:params.defaults=[]) (UA:params.kw_defaults=[]) (NG:∀d,annTrees params none (aK F d)=[])(B:F.names[i]?=some name) (nD:F.names.Nodup) (hk:F.scope.kind= .function) (Z:∀d,(aK F d).kindOf name=some .local):iW g F k (.FunctionDef name params body [] none [] scope none name pos) (λσ Q=>xK t fY σ λv a9=>Q .next (a9.nE i v)):=by intro d A af hr s wd σ Q gI R J;refine nestDef_K hd0 UA (NG d) ?_;rw[R8 d];refine bb.go (Bk N C a e w l) gI R J λv s' bg b a9 h1 h2 h3 h4=>?_;refine bb.go (kG h3 B nD hk (Z d)) (K:=(λ_ m=>Q .next m)) (.refl _) h2 h4 λ_ w_ o _ m g1 p _ g4=>?_;exact az o .next m (h1.trans g1) p rfl g4
noncomputable def ZY(t:Nat)(o:Option O):Option (List Nat):=(o.bind O.fd).bind λp=>cond (Nat.beq p.1 t) (some p.2) none
theorem R9(h:ZY t o=some ls):o=some (.fn t ls):=aI h λp e h=>kL h λh1 h2=>(e_ O.QD e).trans (by rw[bK h1,h2])
noncomputable def VG(t:Nat)(mem:List O)(v:V):Option (List Nat):=v.lo.bind λl=>ZY t mem[l]?
theorem yL(R:bU g F d wd σ s)(hv:VR wd v u)(h:VG t σ.mem v=some ls):∃x c oc io fx,u= .ref x/\s.heap.get? x=some (g.fo t (((g.ff t).zip (ls.map wd.ρ)).reverse) fx c io)/\s.heap.get? c=some oc/\tO oc (g.tq t)/\∀l∈ls,l<wd.n:=aI h λl e h=>yf (R.get (R9 h)) λ_ ob ho c oc io fx R_ NF E p _=>⟨_,c,oc,io,fx,(VR.ref e hv).2,ho.trans (ag some R_),R.mem.sQ _ _ NF,E,p⟩
theorem JM(hn:F'.cells.Nodup)(p:∀l∈ls,l<wd.n):w9 F' wd ls (((F'.cells).zip (ls.map wd.ρ)).reverse):=by
 intro i x l e1 e2;refine⟨p l (eg e2),mN ?_ ?_⟩
 ·rw[gU];exact(o3 _).nodup_iff.mpr ((nU _ _).nodup hn)
 ·rw[kc];exact q7 e1 (by rw[bi,e2];rfl)
theorem Sa{F':Value->df}{qual:Str}(hb:∀c,k0 g (F' (.ref c)) k body Wb)(a:g.fo t=λfA fx c' io=>fnMade name qual params body scope fA fx ((g.mg "__name__").getD .none) c' io) (w:g.tq t=qual){names cells:List Str} (hF:F'=λcd=>⟨qual++".<locals>.",cd,scope,names,cells⟩) (l:g.ff t=cells) (n:Nat)(m:∀(s:Shared)(us:List Value)(fA:List (Str×Addr))(fx pm cd io:Value),us.length=n->BindsTo s (fnX name qual params body scope fA .none .none fx pm none cd io) ⟨us,[]⟩ ((names.take n).zip us))(nD:names.Nodup) (ZZ:cells.Nodup) (yo:∀x∈names,scope.names.lookup x=some .local) (q8:∀x∈scope.names,x.2≠ .cell)(E:scope.isCoroutine=false) (H:scope.isGenerator=false) (hk:scope.kind= .function):gf g (k+1) (λv vs σ Q=>aA (VG t σ.mem v) λls=>gd (Nat.beq vs.length n) (Wb ⟨iD names.length vs,ls,σ.mem⟩ λfl a9=>Q (nV fl) {σ with mem:=a9.mem})):=by
 subst hF l w;refine⟨λF d wd σ s v u vs Q R hv J=>?_,λF d A af v u vs us hr hv D s wd σ Q Z R J=>?_⟩
 ·refine ah J λls h1 _=>?_;refine Ap (yL R hv h1) λx c oc io fx j B _=>?_;rw[a] at B;rw[j];exact keeps_F s.heap ⟨_,_,_,_,B⟩
 ·refine ah J λls h1 J=>?_;refine xA (aL J) λh2 J=>?_;have hn:=bK h2;have cn:=D.len;refine u9 (yL R (VR.mono Z hv) h1) λf c oc io fx j S hc n6 p=>?_;rw[a] at S;rw[j];refine xE (R.there) λU W=>?_;refine dB n6 λK tq hd1 VH=>?_;refine fi (codeAny_call_function hr.yn S rfl E H rfl ⟨c,oc,K,tq,rfl,hc,hd1,VH⟩ (m _ us _ _ _ _ _ (fC [_,_,_] (.e 1 (.v 0) (.v 1) (.f 1 (.v 0) (.v 2) .nil)) 0 (.v 2) (.v 1) tt tt hn cn) _ _ _ _ ?_));refine sE q8 (λx B=>yo _ (oW (List.of_mem_zip B).1)) (λiC y z=>?_) hk;have vi:∀b o,s.heap.get? b=some o->iC.get? b=some o:=λb o e=>z.extBut b o (bL (bT e)) (bf _ e);refine⟨((g.T.nolimit).keeps R.hb).fresh _ z,codeAny_func ?_⟩;have mS:Wd.Le wd (wd.jr d.L U):=Wd.nP R.qf;have R1:bU g ⟨g.tq t++".<locals>.",.ref c,scope,names,g.ff t⟩ ⟨s.heap.objs.size,some f,some s.heap.objs.size,((g.ff t).zip (ls.map wd.ρ)).reverse⟩ (wd.jr d.L U) ⟨iD names.length vs,ls,σ.mem⟩
   {s with heap:=iC,toks:=s.toks+((names.take n).zip us).length}:=by
   refine R.enterX W (c6 _) y vi (λi x v e1 e2=>?_) (JM ZZ p);exact jB (sV (D.mono λ_ _ h=>VR.mono (Z.trans mS) h) e2) λhi u N M4=>⟨u,qj nD e1 N (hn▸hi),M4⟩
  refine bb.go (hb c ⟨s.heap.objs.size,some f,some s.heap.objs.size,((g.ff t).zip (ls.map wd.ρ)).reverse⟩ _ (wd.jr d.L U) hr.deeper) (.refl _) R1 J λfl s' bg M5 a9 x1 x2 x3 x4=>?_;refine az (bg.jV d.L) (nV M5) _ (Wd.pD R.qf x1) (R.leave W x2 x1) ?_ x4;cases M5 with
  |ret v=>exact bx x3 λu e hv=>by rw[e];exact VR.jV hv
  |next=>rw[x3];rfl
  |brk=>rw[x3];rfl
  |cont=>rw[x3];rfl
end
section
theorem Bn(N:n9 g F t c P){qual:Str}{body:PySem.Expr}(C:s_ F scope fY)(a:g.fo t=λfA fx c' io=>kla_obj name qual params body scope fA ((g.mg "__name__").getD .none) c' io) (e:g.tp t=pos) (w:g.tq t=qual) (l:g.ff t=c9 scope) :bb g F d A af qg (makeFunction name qual params (.expr body) scope (aK F d) [] [] [] pos xD) (xK t fY):=by
 intro s wd σ Q Z R J;refine ah J λb h1 J=>?_;refine ah J λls h2 J=>?_;have ht:=E7 h1;refine jB (R.get ht) λUz ot f PJ=>?_;have j:=(R.mem.tabs t P N.tab).2;refine xA (E8 C R.iA h2) λL p=>?_;have R5:=g.T.g.keeps R.hb;rw[j] at f;cases b with
 |false=>
  rw[show ot=tabObj #[] from PJ] at f;refine xA (mX (g:=g) (s:=s) R.hb f) λhb R6=>?_;refine kla_makeFunction (mg:=g.mg) L rfl R5 N.cd (N.hd.keeps R.hb) f d7 rfl R6 hb λc' io h' tk B k dP R7 VF=>?_;refine gZ R7 λZX oc vs tq e2 RZ hd hv=>?_;rw[<-jc e2] at RZ;have E:tO oc (g.tq t):=⟨vs,tq,hd,by rw[w];exact hv⟩;have R1:bU g F d (wd.jr c' oc) {σ with mem:=σ.mem.set t (.tab t true)} {s with heap:=h',toks:=tk}:=R.grown (P:=P) ht j B k RZ E (by rw[e];exact VF);have gI:Wd.Le wd (wd.jr c' oc):=Wd.nP (by
   cases q:wd.fz c' with
   |none=>rfl
   |some o=>have:=R.mem.sQ _ _ q;rw[gO k] at this;exact nS this)
  exact R1.made (fx:=.none) (io:=io) gI p (by rw[a,l];rfl) rfl (a6 rfl) E (by show Q (.loc (σ.mem.set t _).length) _;rw[dS];exact J)
 |true=>refine d3 PJ λc' oc jM NF E=>?_;rw[jM] at f;refine xA (mX (g:=g) (s:=s) R.hb f) λhb R6=>?_;refine kla_makeFunctionHit (cv:=.ref c') L rfl R5 N.cd (N.hd.keeps R.hb) f (by simp[TriplesOk,rawInt]) (by simp[codeAmong,rawInt,e]) hb λio h' tk hk D=>?_;have R1:bU g F d wd σ {s with heap:=h'}:=R.keeps hk;rw[yJ ht] at J;exact R1.toks.made (fx:=.none) (.refl _) p (by rw[a,l]) rfl NF E J
theorem NH(N:n9 g F t c P){qual:Str}{body:PySem.Expr}(C:s_ F scope fY)(a:g.fo t=λfA fx c' io=>kla_obj "<lambda>" qual params body scope fA ((g.mg "__name__").getD .none) c' io) (e:g.tp t=pos) (w:g.tq t=qual) (l:g.ff t=c9 scope)(R8:F.qual++"<lambda>"=qual) (hd0:∀d,defaultsOf params (aK F d)=([],[])):be g F k (.Lambda params body scope pos) (xK t fY):=by subst R8;intro d A af hr s wd σ Q gI R J;exact kla_eval (hd0 d) (Bn N C a e w l s wd σ Q gI R J)
theorem VI{F':Value->df}{qual:Str}{body:PySem.Expr}{We:ad V}(hb:∀c,be g (F' (.ref c)) k body We)(a:g.fo t=λfA fx c' io=>kla_obj name qual params body scope fA ((g.mg "__name__").getD .none) c' io) (w:g.tq t=qual){names cells:List Str} (hF:F'=λcd=>⟨qual++".<locals>.",cd,scope,names,cells⟩) (l:g.ff t=cells) (n:Nat)(m:∀(us:List Value)(fA:List (Str×Addr))(pm cd io:Value),us.length=n->bindArgs (kla_fn name qual params body scope fA pm cd io) ⟨us,[]⟩=Pure.pure ((names.take n).zip us))(nD:names.Nodup) (ZZ:cells.Nodup) (yo:∀x∈names,scope.names.lookup x=some .local) (q8:∀x∈scope.names,x.2≠ .cell)(E:scope.isCoroutine=false) (H:scope.isGenerator=false) (hk:scope.kind= .function):gf g (k+1) (λv vs σ Q=>aA (VG t σ.mem v) λls=>gd (Nat.beq vs.length n) (We ⟨iD names.length vs,ls,σ.mem⟩ λr a9=>Q r {σ with mem:=a9.mem})):=by
 subst hF l w;refine⟨λF d wd σ s v u vs Q R hv J=>?_,λF d A af v u vs us hr hv D s wd σ Q Z R J=>?_⟩
 ·refine ah J λls h1 _=>?_;refine Ap (yL R hv h1) λx c oc io fx j B _=>?_;rw[a] at B;rw[j];exact keeps_F s.heap ⟨_,_,_,_,B⟩
 ·refine ah J λls h1 J=>?_;refine xA (aL J) λh2 J=>?_;have hn:=bK h2;have cn:=D.len;refine u9 (yL R (VR.mono Z hv) h1) λf c oc io fx j S hc n6 p=>?_;rw[a] at S;rw[j];refine xE (R.there) λU W=>?_;refine dB n6 λK tq hd1 VH=>?_;refine fi (kla_callFunE hr.yn S rfl E H rfl ⟨c,oc,K,tq,rfl,hc,hd1,VH⟩ ?_);rw[m us _ _ _ _ (fC [_,_,_] (.e 1 (.v 0) (.v 1) (.f 1 (.v 0) (.v 2) .nil)) 0 (.v 2) (.v 1) tt tt hn cn)];refine aj (sE q8 (λx B=>yo _ (oW (List.of_mem_zip B).1)) (λiC y z=>?_) hk);have vi:∀b o,s.heap.get? b=some o->iC.get? b=some o:=λb o e=>z.extBut b o (bL (bT e)) (bf _ e);refine⟨((g.T.nolimit).keeps R.hb).fresh _ z,kla_codeExpr ?_⟩;have mS:Wd.Le wd (wd.jr d.L U):=Wd.nP R.qf;have R1:bU g ⟨g.tq t++".<locals>.",.ref c,scope,names,g.ff t⟩ ⟨s.heap.objs.size,some f,some s.heap.objs.size,((g.ff t).zip (ls.map wd.ρ)).reverse⟩ (wd.jr d.L U) ⟨iD names.length vs,ls,σ.mem⟩
   {s with heap:=iC,toks:=s.toks+((names.take n).zip us).length}:=by
   refine R.enterX W (c6 _) y vi (λi x v e1 e2=>?_) (JM ZZ p);exact jB (sV (D.mono λ_ _ h=>VR.mono (Z.trans mS) h) e2) λhi u N M4=>⟨u,qj nD e1 N (hn▸hi),M4⟩
  refine bb.go (hb c ⟨s.heap.objs.size,some f,some s.heap.objs.size,((g.ff t).zip (ls.map wd.ρ)).reverse⟩ _ (wd.jr d.L U) hr.deeper) (.refl _) R1 J λr s' bg r' a9 x1 x2 x3 x4=>?_;exact az (bg.jV d.L) r' _ (Wd.pD R.qf x1) (R.leave W x2 x1) (VR.jV x3) x4
end
set_option maxHeartbeats 1000000
section
open PySem.AutoSeq1 (wpAny_loadPart')
def ta(xs:Array Value):Prop:=∀(i:Nat)(v:Value),xs[i]?=some v->∃x t,v= .str x t
theorem NI{prog:Program}{w:World}(l b:Addr)(xs I:Array Value)(n n2:Nat)(B:ta xs)(hy:ta I)(k:Nat):∀(i:Nat)(A:Around)(R:Result->Shared->Prop)(s:Shared),xs.size-i=k->s.heap.get? l=some {cls:=.type "list",dict:=none,data:=.seq xs n,slots:= #[]}->s.heap.get? b=some {cls:=.type "list",dict:=none,data:=.seq I n2,slots:= #[]}-> (∀c,R (.ok (.ret (.bool c))) s)->codeAny (model prog w) A (.builtin "list.__eq__.loop" ⟨[.ref l,.ref b,rawInt i,rawInt 0],[]⟩) R s:=by
 induction k with
 |zero=>
  intro i A R s hk Z hb h;obtain⟨hp,g,d,tk,os⟩:=s;refine fg MeetsSeq3.entry_eq_loop ?_;wp_walk using fK Z,fK hb;have VJ:xs[((i:Nat):Int).toNat]?=none:=by simp;exact lG (λq1 q2=>aQ [_,_,_] (.e 1 (.v 0) (.n 0) (.f 1 (.a (.v 0) (.v 1)) (.v 2) .nil)) 0 (.v 2) (.v 1) tt hk q2) (λq1 q2=>aQ [_,_] (.c 1 (.a (.v 0) (.n 1)) (.v 1) .nil) 0 (.v 0) (.v 1) tt q1)
  rw[VJ];wp_walk using fK Z,fK hb;exact h _
 |succ k T=>
  intro i A R s hk Z hb h;obtain⟨hp,g,d,tk,os⟩:=s;refine fg MeetsSeq3.entry_eq_loop ?_;wp_walk using fK Z,fK hb;have dP:i<xs.size:=Nat.lt_of_sub_pos (by rw[hk];exact mf k);have VJ:xs[((i:Nat):Int).toNat]?=some xs[i]:=by simp[dP]
  rw[VJ];cases Ux:I[((i:Nat):Int).toNat]? with
  |none=>wp_walk using fK Z,fK hb;exact h _
  |some y=>
   refine yc (B i xs[i] (by simp[dP])) λa t ha=>?_;refine yc (hy _ y Ux) λc u hc=>?_;subst hc;rw[ha] at VJ ⊢;refine U (wpAny_eqBool_str ?_);split
   ·refine U (aj (aj ?_));have e:((i:Nat):Int)+1=((i+1:Nat):Int):=by push_cast;rfl
    rw[e];exact⟨gX MeetsSeq3.plain_eq_loop _,T (i+1) _ R _ (by rw[Nat.sub_add_eq,hk];rfl) Z hb h⟩
   ·wp_walk using fK Z,fK hb;rw[VJ,Ux];refine U (PySem.P.lt_str ?_);exact aj (h _)
theorem Bo{l b:Addr}{xs I:Array Value}{n n2:Nat}{Q:Bool->Shared->Prop}(N:A.units<cLine)(Z:s.heap.get? l=some {cls:=.type "list",dict:=none,data:=.seq xs n,slots:= #[]}) (hb:s.heap.get? b=some {cls:=.type "list",dict:=none,data:=.seq I n2,slots:= #[]}) (B:ta xs) (hy:ta I)(h:∀c,Q c s):wpAny (model prog w) A (keyLt' oneType' (.ref l) (.ref b)) Q E s:=by rw[keyLt'_oneType,oneLt'_eq];simp only[if_true];refine U (wpAny_cRoomFor N ?_);have y:s.TypeIs (.ref l) "list":=⟨_,Z,rfl⟩;have hT2:s.TypeIs (.ref b) "list":=⟨_,hb,rfl⟩;refine U (wpAny_callSpecialIfBound?_slot y PySem.F.slot_list_lt (fi (oU PySem.F.slot_list_lt.plain PySem.F.entry_list_lt (PySem.F.slot_list_lt.check _ _ _ _ _ _ _ _ y (PySem.F.args_list_lt_2 _ _) ?_))));have f3:=AutoSeq1.sub_list_list;obtain⟨hp,g,d,tk,os⟩:=s;wp_walk using fK Z,fK hb;exact⟨gX MeetsSeq3.plain_eq_loop _,NI l b xs I n n2 B hy _ 0 _ _ _ rfl Z hb λc=>oZ (h c)⟩
end
end
section
variable {C D S a fI:Addr}{A:Around}{es:Array (Int×Value)}{Q:Bool->Shared->Prop}{d:hJ}{F:df}{h:Heap}{kvs:List (Str×Value)}{ds:List DictEntry}{ts:List PySem.Expr}{body:List Stmt}{xs:List Str}{W:List V->ad V}{ks us:List Value}{e ep i it k ln:Nat}{p pos tp:Pos}{prog:Program}{Wb:ad Fl}{t:SetTable}{s:Shared}{σ:St}{kw x:Str}{tk:Tok}{f fu u:Value}{E:Value->Shared->Prop}{wd af:Wd}{w:World}
noncomputable def yM(P:Array Nat->Bool):KasT (Array Nat)->Bool
 | .ret a=>P a
 | .ask i j k=>Nat.blt i 2&&Nat.blt j 2&&yM P (k true)&&yM P (k false)
theorem NK{κ:SortKind}{P:Array Nat->Bool}{G:Array Nat->Shared->Prop}(Z0:∀(i j:Nat)(C:Bool->Shared->Prop),i<2->j<2->(∀b,C b s)->kas_ask prog w A κ ks i j C s)(f:∀p,P p=true->G p s) (t:KasT (Array Nat)) (h:yM P t=true):t.kasWp (kas_ask prog w A κ ks) G s:=by
 induction t with
 |ret a=>exact f a h
 |ask i j k T=>
  refine xA ((aM _ _).mp h) λh h4=>xA ((aM _ _).mp h) λh h3=>xA ((aM _ _).mp h) λh1 h2=>?_;refine Z0 i j _ (aU h1) (aU h2) λb=>?_;cases b
  ·exact T false h4
  ·exact T true h3
noncomputable def E9(p:Array Nat):Bool:=QT p.toList [0,1]||QT p.toList [1,0]
theorem Hn:yM E9 (kas_sort 2)=true:=by kernel_rfl
section
variable {g:G}
noncomputable def vX(W:V->List V->ad V)(t:V):List V->List V->St->(List V->St->Prop)->Prop
 | [],ks,σ,K=>K ks σ
 |x::r,ks,σ,K=>W t [x] σ λkv a9=>vX W t r (ks++[kv]) a9 K
noncomputable def Bp(mem:List O)(v:V):Bool:=(v.lo.bind λl=>(tV mem[l]?).bind kN).isSome
theorem NM(R:bU g F d wd σ s){v:V}(hv:VR wd v u)(h:Bp σ.mem v=true):∃a xs n,u= .ref a/\s.heap.get? a=some {cls:=.type "list",dict:=none,data:=.seq xs n,slots:= #[]}/\ta xs:=qU h λts h=>aI h λl e h=>aI h λxs r h=>R.lst r λI n _ ho dL=>bx (ri dL h) λll e1 e3=>⟨_,_,n,(VR.ref e hv).2,ho,λi v hv=>by
  rw[j5,e1] at hv;exact bx (Option.map_eq_some_iff.mp ((bi ..).symm.trans hv)) λp _ e=>⟨_,_,e.symm⟩⟩
def KF(g:G)(F:df)(d:hJ)(wd:Wd)(l a:Addr)(oa:Obj)(n:Nat)(K:List V->St->Prop)(s':Shared):Prop:=∃bg a9 UB VK e',Wd.Le wd bg/\bU g F d bg a9 s'/\jE g d bg [l,a]/\s'.heap.get? a=some oa/\s'.heap.get? l=some (aG "list" VK e')/\aE (VR bg) UB VK/\VK.length=n/\K UB a9
theorem vY:¬ Perm (aG "list" ks e):=λp=>p.elim (λp=>yc p λzs n q=>absurd (kj (ag Obj.cls q)) (by decide)) λp=>xE p λq p=>dB p λvs t e1 _=>nomatch e1
theorem JN{W:V->List V->ad V}(hc:gf g k W)(hr:cK A k){t:V}(S:VR af t fu){l:Addr}{oa:Obj}(Sb:l≠a)(hna:¬ Perm oa){K:List V->St->Prop} {body:Value->PUnit->Sem (ForInStep PUnit)}
 (hb:∀x (s:Shared)(P:Shared->Prop),wpAny (model g.prog g.w) A (call fu [x]) (λkv dG=>∃(ks:List Value)(e:Nat),dG.heap.get? l=some (aG "list" ks e)/\ks.length<64/\
  ∀h' c,Heap.SameBut l dG.heap h'->h'.get? l=some (aG "list" (ks++[kv]) c)->P {dG with heap:=h'}) (λ_ _=>False) s->
  wpAny (model g.prog g.w) A (body x ⟨⟩) (λr s'=>r= .yield ⟨⟩/\P s') E s)
 {xs:List V} (UC:aE (VR af) xs us):∀(kv:List V)(ks:List Value)(wd:Wd)(σ:St)(s:Shared)(e:Nat),Wd.Le af wd->bU g F d wd σ s->jE g d wd [l,a]->s.heap.get? a=some oa->s.heap.get? l=some (aG "list" ks e)->
  aE (VR wd) kv ks->ks.length+us.length<64->vX W t xs kv σ K->
  wpAny (model g.prog g.w) A (forIn us PUnit.unit body) (λ_=>KF g F d wd l a oa (ks.length+us.length) K) E s:=by
 induction UC with
 |nil=>intro kv ks wd σ s e Z R H ha hk PK cn J;rw[pj];exact aj ⟨wd,σ,kv,ks,e,.refl _,R,H,ha,hk,PK,rfl,J⟩
 | @cons x u xs us B UC T=>
  intro kv ks wd σ s e Z R H ha hk PK cn J;rw[mc];have nY:∀y∈[l,a],∃o,s.heap.get? y=some o/\¬ Perm o:=λy hy=>(List.mem_cons.mp hy).elim (λq=>q▸⟨_,hk,vY⟩) λhy=>List.mem_singleton.mp hy▸⟨_,ha,hna⟩;have R₁:=R.jD H λy hy=>bx (nY y hy) λo ho _=>⟨o,ho⟩;have mS:=H.le s.heap;have VL:=hc.2 F d A (wd.jD [l,a] s.heap) t fu [x] [u] hr (VR.mono (Z.trans mS) S) (.cons (VR.mono (Z.trans mS) B) .nil) s _ σ _ (.refl _) R₁ J;have VM:=cn;refine U (a_ (hb u s (KF g F d wd l a oa (ks.length+1) (λUB a9=>vX W t xs UB a9 K)) (a_ VL (λv dG x=>?_) λ_ _ x=>x.elim)) (λq s' Y=>?_) λ_ _ x=>x)
  ·refine f_ x λD b G x1 x2 x3 x4=>u6 (R.d6 H nY x2 x1) λt1 t2 t3=>?_;have gI:=H.le' x1;refine⟨ks,e,t3 l (.head _) _ hk,by exact aQ [_,_] (.c 1 (.a (.a (.v 0) (.v 1)) (.n 1)) (.n 64) .nil) 0 (.a (.v 0) (.n 1)) (.n 64) tt cn,λh' c M f=>?_⟩;exact⟨D.d6 [l,a],G,kv++[b],ks++[v],c,gI,t1.other t2 λy o hy ho=>(M.2 y λq=>hy (by rw[q];exact .head _)).trans ho,t2,(M.2 a (bM Sb)).trans (t3 a (.tail _ (.head _)) _ ha),f,(PK.mono λ_ _=>VR.mono gI).append (.cons (VR.d6 x3) .nil),by simp,x4⟩
  ·refine u_ Y λDs D G VN PL i y1 O y3 y4 y5 y6 y7 y8=>?_;rw[Ds];have e7:PL.length+us.length=ks.length+(us.length+1):=by rw[y7,cS,gA 1]
   refine a_ (T VN PL D G s' i (Z.trans y1) O y3 y4 y5 y6 (by rw[e7];exact VM) y8) (λ_ w_ z=>?_) λ_ _ x=>x;exact lF z λbg a9 UB VK e' L z2 z3 z4 z5 z6 z7 z8=>⟨bg,a9,UB,VK,e',y1.trans L,z2,z3,z4,z5,z6,z7.trans e7,z8⟩
end
theorem Dt{α:Type}{us:List α}(h:us.length=2):∃u1 u2,us=[u1,u2]:=by
 cases us with
 |nil=>exact nomatch h
 |cons u1 us=>cases us with
  |nil=>exact nomatch h
  |cons u2 us=>exact⟨u1,u2,by rw[List.length_eq_zero_iff.mp (fV (fV h))]⟩
theorem JO{p:Array Nat}(h:E9 p=true):p.toList=[0,1]\/p.toList=[1,0]:=((Bool.or_eq_true _ _).mp h).imp (mK _ _).mp (mK _ _).mp
theorem Bq(h:i<ks.length):ks.getD i .none∈ks:=by
 have e:ks.getD i .none=ks[i]:=by simp[List.getD,bC h]
 rw[e];exact o7 h
section
variable {g:G}
theorem yN{l:Addr}{e1:Nat}{st:SortSt}{m:List Value}{P:PySem.Fin->Shared->Prop}(Sb:l≠a)(Z1:(arrOf st).map (·.2)=m.toArray) (S:failedOf st=none) (hz:m.length<64) (hkz:ks.length<64) (ha:s.heap.get? a=some (aG "list" [] e1)) (hk:s.heap.get? l=some (aG "list" ks e))(h:∀h' n c,(∀b,b≠a->b≠l->h'.get? b=s.heap.get? b)->h'.get? a=some (aG "list" m n)->h'.get? l=some (aG "list" [] c)->P (.done (.ret .none)) {s with heap:=h'}):wpAny (model prog w) A (ksk_tail a false e1 (.ref l) st) P E s:=by
 have s1:=er s.heap l (Obj.mapSeq λ_=>(#[]:Array Value));have hck:=get?_update_seq hk λ_=>#[];have VO:=(s1.2 a (bM Sb)).trans ha;have s2:=er (s.heap.update l (Obj.mapSeq λ_=>(#[]:Array Value))) a (Obj.mapSeq λ_=>m.toArray);have Sc:=get?_update_seq VO λ_=>m.toArray;unfold ksk_tail;try dsimp only
 rw[Z1];simp only[jy,gC];refine U (jb hk rfl ?_ (by rw[aZ,dj];exact aQ [_] (.c 1 (.a (.v 0) (.n 1)) (.n 64) .nil) 0 (.v 0) (.n 16777216) tt hkz) (aW _));refine U (wpAny_letGo ?_);refine U (seqEpoch_at VO rfl ?_);refine U (jb VO rfl ?_ (aW _) (by rw[aZ,dj];exact aQ [_] (.c 1 (.a (.v 0) (.n 1)) (.n 64) .nil) 0 (.v 0) (.a (.n 16777216) (.n 1)) tt hz));rw[S];simp only[bne_self_eq_false,jy,gC];refine aj (h _ _ _ (λb h1 h2=>(s2.2 b h1).trans (s1.2 b h2)) Sc ((s2.2 l Sb).trans hck))
def ksR(g:G)(F:df)(d:hJ)(wd:Wd)(a:Addr)(us:List Value)(K:List V->St->Prop):PySem.Fin->Shared->Prop:=λfin s'=>fin= .done (.ret .none)/\∃bg a9 kv f n',Wd.Le wd bg/\bU g F d bg a9 s'/\jE g d bg [a]/\s'.heap.get? a=some (aG "list" f n')/\(f=us\/f=us.reverse)/\K kv a9
theorem NO{W:V->List V->ad V}(hc:gf g k W)(hr:cK A k){t:V}(S:VR af t fu){xs:List V}{n:Nat}{K:List V->St->Prop} (UC:aE (VR af) xs us) (Z:Wd.Le af wd) (R:bU g F d wd σ s) (H:jE g d wd [a]) (ha:s.heap.get? a=some (aG "list" us n)) (h2:us.length<=2)
 (J:vX W t xs [] σ λkv a9=>gd (kv.all (Bp a9.mem)) (K kv a9)):
 wpAny (model g.prog g.w) A (ksk_tree a fu false) (ksR g F d wd a us K) E s:=by
 have s1:=er s.heap a (Obj.mapSeq λ_=>(#[]:Array Value));obtain⟨e1,VP⟩:∃e1,(s.heap.update a (Obj.mapSeq λ_=>(#[]:Array Value))).get? a=some (aG "list" [] e1):=⟨_,get?_update_seq ha λ_=>#[]⟩;have hkS:((s.heap.update a (Obj.mapSeq λ_=>(#[]:Array Value))).push (aG "tuple" us 0)).objs.size=s.heap.objs.size+1:=by rw[size_push',Heap.size_update]
 have dP:=bT ha;unfold ksk_tree;refine U (listItems_at ha rfl ?_);refine U (jb ha rfl ?_ (by rw[aZ,dj];exact aQ [_] (.c 1 (.v 0) (.n 2) .nil) 0 (.v 0) (.n 16777216) tt h2) (aW _));refine U (seqEpoch_at VP rfl ?_);refine U (wpAny_newTuple ?_ (by show us.length<=_;rw[dj];exact aQ [_] (.c 1 (.v 0) (.n 2) .nil) 0 (.v 0) (.n 16777216) tt h2));refine U (pt ?_ (aW _));refine bq ?_;show wpAny (model g.prog g.w) A (ksk_rest a fu false us.toArray e1 (.ref ((s.heap.update a (Obj.mapSeq λ_=>(#[]:Array Value))).push (aG "tuple" us 0)).objs.size)) _ E
  {s with heap:=((s.heap.update a (Obj.mapSeq λ_=>(#[]:Array Value))).push (aG "tuple" us 0)).push (aG "list" [] 0)}
 have YG:∃hp,hp=((s.heap.update a (Obj.mapSeq λ_=>(#[]:Array Value))).push (aG "tuple" us 0)).push (aG "list" [] 0):=⟨_,rfl⟩;refine xE YG λhp YH=>?_;try clear YG
 have UD:∃l,l=((s.heap.update a (Obj.mapSeq λ_=>(#[]:Array Value))).push (aG "tuple" us 0)).objs.size:=⟨_,rfl⟩;refine xE UD λl YI=>?_;try clear UD
 have hk:hp.get? l=some (aG "list" [] 0):=by rw[YH,YI];exact cu _ rfl
 have keep:∀b o,b≠a->s.heap.get? b=some o->hp.get? b=some o:=λb o hb q=>by rw[YH];exact bf _ (bf _ ((s1.2 b hb).trans q))
 have hap:hp.get? a=some (aG "list" [] e1):=by rw[YH];exact bf _ (bf _ VP)
 have Sb:l≠a:=dJ (by rw[YI,hkS];exact fJ dP);rw[<-YI,<-YH];have R0:bU g F d wd σ {s with heap:=hp}:=R.other H λb o hb e=>keep b o (λq=>hb (by rw[q];exact .head _)) e;have nX:s.heap.get? l=none:=gO (by rw[YI,hkS];exact aQ [_] .nil 0 (.v 0) (.a (.v 0) (.n 1)) tt);have Hk:=jE.fresh R λx B=>by rw[List.mem_singleton.mp B];exact nX
 have H2:jE g d wd [l,a]:=⟨λx B=>(List.mem_cons.mp B).elim (λq=>Hk.fz x (by rw[q];exact .head _)) (H.fz x),λx B=>(List.mem_cons.mp B).elim (λq=>Hk.own x (by rw[q];exact .head _)) (H.own x),
  λq=>(List.mem_cons.mp q).elim (λq=>Hk.L (by rw[q];exact .head _)) H.L,λx B=>(List.mem_cons.mp B).elim (λq=>Hk.hb x (by rw[q];exact .head _)) (H.hb x)⟩
 unfold ksk_rest;refine U (eQ ?_);first
  |rw[List.forIn_toArray]
  |(rw[<-Array.forIn_toList];simp only[List.toList_toArray])
  |rw[<-Array.forIn_toList]
 refine U (a_ (JN (F:=F) (E:=E) (K:=λkv a9=>gd (kv.all (Bp a9.mem)) (K kv a9)) hc hr S Sb vY (λx s' P B=>?_) UC [] [] wd σ _ 0 Z R0 H2 hap hk .nil (by show 0+us.length<64;exact aQ [_] (.c 1 (.v 0) (.n 2) .nil) 0 (.a (.a (.n 0) (.v 0)) (.n 1)) (.n 64) tt h2) J) (λ_ s' hd=>?_) λ_ _ x=>x)
 ·refine U (pu (a_ B (λkv w_ hk=>?_) λ_ _ hF=>hF.elim));refine d3 hk λks e h1 h2 h3=>?_;have s1:=er w_.heap l (Obj.mapSeq (·.push kv));have ea:(List.toArray ks).push kv=List.toArray (ks++[kv]):=by simp
  obtain⟨c2,Sc⟩:∃c2,(w_.heap.update l (Obj.mapSeq (·.push kv))).get? l=some (aG "list" (ks++[kv]) c2):=by unfold aG;rw[<-ea];exact⟨_,get?_update_seq h1 (·.push kv)⟩
  try dsimp only
  refine U (jb h1 rfl ?_ (by rw[aZ,dj];exact aQ [_] (.c 1 (.a (.v 0) (.n 1)) (.n 64) .nil) 0 (.v 0) (.n 16777216) tt h2) (am (fO (pd ..)) (by rw[aZ,dj];exact aQ [_] (.c 1 (.a (.v 0) (.n 1)) (.n 64) .nil) 0 (.a (.v 0) (.n 1)) (.a (.n 16777216) (.n 1)) tt h2)));exact aj ⟨rfl,h3 _ c2 s1 Sc⟩
 ·refine lF hd λbg a9 kv ks e y1 O y3 y4 y5 y6 y7 y8=>xA (aL y8) λZ2 hK=>?_;have M:ks.length=us.length:=by rw[y7];simp
  try dsimp only
  refine U (listItems_at y5 rfl ?_);have fin:∀(st:SortSt)(m:List Value),(arrOf st).map (·.2)=m.toArray->failedOf st=none->(m=us\/m=us.reverse)->
   wpAny (model g.prog g.w) A (ksk_tail a false e1 (.ref l) st) (ksR g F d wd a us K) E s':=by
   intro st m ho PM PJ;have YJ:m.length=us.length:=PJ.elim (ag _) λe=>by rw[e,dH]
   refine yN Sb ho PM (aQ [_,_] (.c 1 (.v 0) (.n 2) (.e 1 (.v 1) (.v 0) .nil)) 0 (.a (.v 1) (.n 1)) (.n 64) tt h2 YJ) (aQ [_,_] (.c 1 (.v 0) (.n 2) (.e 1 (.v 1) (.v 0) .nil)) 0 (.a (.v 1) (.n 1)) (.n 64) tt h2 M) y4 y5 λh' n' c hb z UE=>⟨rfl,bg,a9,kv,m,n',y1,?_,?_,z,PJ,hK⟩
   ·exact O.other y3 λb o D e=>(hb b (λq=>D (by rw[q];exact .tail _ (.head _))) (λq=>D (by rw[q];exact .head _))).trans e
   ·exact⟨λx B=>y3.fz x (.tail _ B),λx B=>y3.own x (.tail _ B),λq=>y3.L (.tail _ q),λx B=>y3.hb x (.tail _ B)⟩
  unfold ksk_end;try dsimp only
  simp only[jy,gC];by_cases cn:us.length=2
  ·have VQ:¬ us.toArray.size<2:=by rw[aZ];exact(λq=>Av [_] (.f 1 (.v 0) (.n 2) (.c 1 (.a (.v 0) (.n 1)) (.n 2) .nil)) 0 tt cn q)
   rw[aH VQ,aH VQ];have JP:∀u∈ks,∃b I n,u= .ref b/\s'.heap.get? b=some {cls:=.type "list",dict:=none,data:=.seq I n,slots:= #[]}/\ta I:=λu N=>by
    refine xE (List.mem_iff_getElem?.mp N) λi hi=>?_;have Hh:i<kv.length:=by rw[y6.len];exact(List.getElem?_eq_some_iff.mp hi).1
    exact bx (y6.get (bC Hh)) λu' Re hv=>NM O (aq (Re.symm.trans hi)▸hv) (List.all_eq_true.mp Z2 _ (o7 Hh))
   have hkd:wpAny (model g.prog g.w) A (keyKind' ks.toArray) (λκ w_=>κ=oneType'/\w_=s') (λ_ _=>False) s':=by refine kas_kind (T:=.type "list") (aQ [_,_] (.f 1 (.v 0) (.v 1) (.f 1 (.v 1) (.n 2) .nil)) 0 (.n 2) (.v 0) tt M cn) (λv hv=>?_) (by decide) (by decide) ⟨rfl,rfl⟩;exact jf (JP v hv) λb I n qi hb _=>qi.symm▸(Looks.ld hb).andThen .now
   refine U (a_ hkd (λκ w_ q=>?_) λ_ _ x=>x.elim);refine xA q λDs Y=>?_;rw[Ds,Y];refine U (a_ (kat_run (E:=E) (κ:=oneType') (ks:=ks) (vs:=us) (Q:=λZ3 sz=>∃p:Array Nat,E9 p=true/\arrOf Z3=p.map (kas_item (ks.toArray.zip us.toArray))/\failedOf Z3=none/\sz=s') (G:=λp sz=>E9 p=true/\sz=s')
    M (aQ [_] (.f 1 (.v 0) (.n 2) .nil) 0 (.n 2) (.v 0) tt cn) (aQ [_] (.e 1 (.v 0) (.n 2) .nil) 0 (.a (.v 0) (.n 1)) (.n 64) tt cn) (λp Z3 s' X a2 a3 a4=>⟨p,a4.1,a2,a3,a4.2⟩) ?_) ?_ λ_ _ x=>x)
   ·rw[cn];refine NK (λi j C hi hj hC=>?_) (λp hp=>⟨hp,rfl⟩) _ Hn;refine jf (JP (ks.getD i .none) (Bq (aQ [_,_,_] (.f 1 (.v 0) (.v 1) (.f 1 (.v 1) (.n 2) (.c 1 (.a (.v 2) (.n 1)) (.n 2) .nil))) 0 (.a (.v 2) (.n 1)) (.v 0) tt M cn hi))) λb I n e1 hb dL=>?_;refine jf (JP (ks.getD j .none) (Bq (aQ [_,_,_] (.f 1 (.v 0) (.v 1) (.f 1 (.v 1) (.n 2) (.c 1 (.a (.v 2) (.n 1)) (.n 2) .nil))) 0 (.a (.v 2) (.n 1)) (.v 0) tt M cn hj))) λb' h n' e1' D CS=>?_;unfold kas_ask;rw[e1,e1'];exact Bo hr.Q7 hb D dL CS hC
   ·intro r s3 hr3;refine An hr3 λp hp har PM es=>?_;rw[es];refine fin r.2 _ (kat_snds M har) PM ?_;refine yc (Dt cn) λu1 u2 jM=>?_;rw[jM];exact(JO hp).elim (λe=>by rw[e];exact .inl rfl) λe=>by rw[e];exact .inr rfl
  ·have VQ:us.toArray.size<2:=by rw[aZ];exact(Nat.lt_or_gt_of_ne cn).elim (λq=>aQ [_] (.c 1 (.a (.v 0) (.n 1)) (.n 2) .nil) 0 (.a (.v 0) (.n 1)) (.n 2) tt q) (λq=>aQ [_] (.c 2 (.v 0) (.n 2) (.c 1 (.a (.n 2) (.n 1)) (.v 0) .nil)) 0 (.a (.v 0) (.n 1)) (.n 2) tt h2 q)
   rw[a6 VQ,a6 VQ];refine U (aj ?_);refine U (aj ?_);try dsimp only
   refine fin _ us ?_ rfl (.inl rfl);refine(?_ :((ks.toArray.zip us.toArray).map (·.2))=us.toArray);apply Array.toList_inj.mp;rw[Array.toList_map,ksk_zip];refine(?_ :(ks.zip us).map (·.2)=us);rw[List.map_snd_zip];exact aQ [_,_] (.f 1 (.v 0) (.v 1) .nil) 0 (.v 1) (.v 0) tt M
end
structure ji(led:Bool)(t:SetTable)(n:Nat):Prop where
 YK:t.dummies= #[]
 mask:7<=t.mask
 led:t.led=led
 fits:t.fits n=true
theorem ji.fresh(led:Bool):ji led (.fresh 0 0 led) 0:=⟨rfl,aF _,rfl,by decide+revert⟩
theorem ji.standIn{led:Bool}{n m:Nat}(h:ji led t n)(hm:1<=m):ji led (t.standIn m) m:=⟨rfl,by show 7<=4*m+4;exact aQ [_] (.c 3 (.n 1) (.v 0) .nil) 0 (.n 7) (.a (.m 4 (.v 0)) (.n 4)) tt hm,h.led,SetTable.standIn_fits t m⟩
theorem ji.lay{led:Bool}(H:ji led t es.size)(h:Int)(x:Value):ji led (layNew t es h x).2.1 (layNew t es h x).1.size:=by
 have S:=layNew_fits t es h x;revert S;unfold layNew;split
 ·rename_i nW wd _;dsimp only;intro S;have hd:(t.put nW).1.dummies= #[]:=by
   unfold SetTable.put;dsimp only;rw[H.YK];split
   ·rename_i q;exact absurd q (by unfold SetTable.has;simp)
   ·rfl
  unfold SetTable.orStandIn at S ⊢;split
  ·rename_i q;exact⟨hd,H.mask,H.led,q⟩
  ·refine⟨rfl,?_,H.led,SetTable.standIn_fits _ _⟩;refine(?_ :7<=4*(SetTable.insertAt es (t.put nW).2 (h,x)).size+4);have:1<=(SetTable.insertAt es (t.put nW).2 (h,x)).size:=by unfold SetTable.insertAt;simp;exact aQ [_,_] .nil 0 (.n 1) (.a (.a (.v 0) (.n 1)) (.v 1)) tt
   exact aQ [_] (.c 3 (.n 1) (.v 0) .nil) 0 (.n 7) (.a (.m 4 (.v 0)) (.n 4)) tt this
 ·dsimp only;intro _;have e:(es.push (h,x)).size=es.size+1:=pd ..;rw[e];exact H.standIn (aQ [_] .nil 0 (.n 1) (.a (.v 0) (.n 1)) tt)
noncomputable def iH(es:Array (Int×Value))(ep:Nat)(t:SetTable):Obj:={cls:=.type "set",dict:=none,data:=.set es ep t,slots:= #[]}
section
theorem Ho{led:Bool}{v:Value}(NQ:(PySem.strKind prog w).is x v=true)(hsc:v.scannable=true)(ho:s.heap.get? a=some (iH es ep t))(Iu:ElemsOf (PySem.strKind prog w) es.toList)(H:ji led t es.size) (D:es.size<=2) (A8:∀e∈es.toList,(PySem.strKind prog w).is x e.2=false)(h:∀h' uL C,Heap.SameBut a s.heap h'->h'.get? a=some (iH uL (ep+1) C)->uL.toList.Perm (es.toList++[((PySem.strKind prog w).hash x,v)])->ji led C uL.size->C.plain=false->Q true {s with heap:=h'}):wpAny (model prog w) A (setAddHashed a v ((PySem.strKind prog w).hash x)) Q E s:=by
 have hd:(iH es ep t).data= .set es ep t:=rfl;have hb:es.size<scanBound:=by have:scanBound=4096:=rfl;exact aQ [_,_] (.c 1 (.v 0) (.n 2) (.f 1 (.v 1) (.n 4096) .nil)) 0 (.a (.v 0) (.n 1)) (.v 1) tt D this
 unfold setAddHashed setAddHashedIn;refine bq (U (i7 ho hd H.fits ?_));dsimp only;rw[byScan_of hsc hb Iu];simp only[↓reduceIte];unfold setAddByScan;refine U ?_;refine U (eQ ?_);refine U (wpAny_setScan_of NQ ho hd H.fits Iu ?_);rw[List.findIdx?_eq_none_iff.mpr λe he=>A8 e he];dsimp only;have hgw:∀(b:Bool){dG:Shared}{Q':Unit->Shared->Prop},Q' () dG->wpAny (model prog w) A (match b with|true=>rule "set.scan.the-table-gave-way" |false=>pure ()) Q' E dG:=
  λb dG Q' Y=>by cases b<;>first|exact aj Y|exact eQ Y
 have YL:plainKind v=false:=xE (lZ NQ) λtk e=>by rw[e];rfl
 have vZ:=layNew_perm t es ((PySem.strKind prog w).hash x) v;have r:=H.lay ((PySem.strKind prog w).hash x) v;generalize S:layNew t es ((PySem.strKind prog w).hash x) v=L at vZ r ⊢;obtain⟨d,t1,JQ,aef⟩:=L;dsimp only at vZ r ⊢;rw[Array.toList_push] at vZ;have VS:d.size=es.size+1:=by rw[<-gj,vZ.length_eq,ak,gj];rfl
 refine U (hgw _ ?_);have tail:∀t2:SetTable,ji led t2 d.size->t2.plain=false->wpAny (model prog w) A (do
  storeSet a d t2
  if (!JQ&&t2.tooFull)=true then do
   (match (relayAll t2 d (SetTable.grown d.size)).2.2 with|true=>rule "set.scan.the-table-gave-way" |false=>pure ())
   storeSet a (relayAll t2 d (SetTable.grown d.size)).1 (relayAll t2 d (SetTable.grown d.size)).2.1
   pure (some true)
   else pure (some true)) (λo s'=>o=some true/\Q true s') E s:=by
  intro t2 h2 Z4;have VT:t2.tooFull=false:=by
   unfold SetTable.tooFull SetTable.fill;have h3:=h2.fits;unfold SetTable.fits SetTable.fill at h3;rw[aM] at h3;have h4:t2.place.size=d.size:=by simpa using h3.1
   have h5:=h2.mask;rw[h2.YK,h4,VS];have h6:¬ (es.size+1+0)*5≥t2.mask*3:=λq=>by rw[Nat.mul_comm _ 5,Nat.mul_comm _ 3] at q;exact Av [_,_] (.c 1 (.m 3 (.v 1)) (.m 5 (.a (.a (.v 0) (.n 1)) (.n 0))) (.c 5 (.v 0) (.n 2) (.c 3 (.n 7) (.v 1) .nil))) 0 tt q D h5
   simpa using h6
  refine U (wpAny_storeSet_of ho hd ?_ (by rw[VS,dj];exact aQ [_] (.c 1 (.v 0) (.n 2) .nil) 0 (.a (.v 0) (.n 1)) (.n 16777216) tt D));rw[VT,pq];simp only[jy,gC];have K:(s.heap.update a (Obj.putSet d t2)).get? a=some (iH d (ep+1) t2):=by have:=ef (Obj.putSet d t2) ho (by rw[putSet_of d t2 hd];rfl);rw[putSet_of d t2 hd] at this;exact this
  exact aj ⟨rfl,h _ d t2 (er ..) K vZ h2 Z4⟩
 split
 ·refine U ?_;rw[hashByValue_scannable 8 hsc];refine aj ?_;refine a_ (tail (if plainKind v=true then t1 else {t1 with plain:=false}) ?_ (by rw[YL];rfl)) (λo s' q=>?_) λ_ _ x=>x
  ·split
   ·exact r
   ·exact⟨r.YK,r.mask,r.led,SetTable.fits_plain_off r.fits⟩
  ·rw[q.1];exact aj q.2
 ·rename_i Zy;refine U (aj ?_);simp only[↓reduceIte];refine a_ (tail t1 r (by simpa using Zy)) (λo s' q=>?_) λ_ _ x=>x;rw[q.1];exact aj q.2
end
def VU(w:World)(x:Str)(e:Int×Value):Prop:=e.1=hashStr w x/\∃tk,e.2= .str x tk
def Ah(w:World)(led:Bool)(h:Heap)(S:Addr)(xs:List Str):Prop:=∃es ep t,h.get? S=some (iH es ep t)/\ji led t es.size/\(es.size=0\/t.plain=false)/\∃I:List Str,I.Perm xs/\aE (VU w) I es.toList
theorem aE.perm{α β:Type}{R:α->β->Prop}{m f:List β}(p:f.Perm m):∀{l:List α},aE R l m->∃l',l'.Perm l/\aE R l' f:=by
 induction p with
 |nil=>intro l h;exact⟨l,.refl _,h⟩
 |cons x p T=>
  intro l h;cases h with
  |cons a b=>exact bx (T b) λl' h1 h2=>⟨_,h1.cons _,.cons a h2⟩
 |swap x y r=>
  intro l h;cases h with
  |cons a b=>cases b with
   |cons c d=>exact⟨_,List.Perm.swap ..,.cons c (.cons a d)⟩
 |trans p q Z5 Z6=>intro l h;exact bx (Z6 h) λl1 h1 h2=>bx (Z5 h2) λl2 h3 h4=>⟨l2,h3.trans h1,h4⟩
theorem Hp(prog:Program)(w:World)(k x:Str)(t:Tok):(PySem.strKind prog w).is k (.str x t)=d4 x k:=by refine(?_ :Value.isStrOf k (.str x t)=_);unfold Value.isStrOf;exact jW x k
theorem VU.elems{I:List Str}{es:List (Int×Value)}(h:aE (VU w) I es):ElemsOf (PySem.strKind prog w) es:=by
 induction h with
 |nil=>exact λ_ h=>nomatch h
 | @cons y _ _ _ h _ T=>exact λe he=>(List.mem_cons.mp he).elim (λq=>Ur h λh1 tk h2=>q▸⟨⟨y,by rw[h2];exact eV _ _ _ _,h1⟩,by rw[h2];rfl⟩) (T e)
section
variable {led:Bool}
theorem Ah.fresh(h:Heap):Ah w led (h.push (iH #[] 0 (.fresh 0 0 led))) h.objs.size []:=⟨#[],0,_,cu _ rfl,ji.fresh led,.inl rfl,[],.refl _,.nil⟩
theorem Ah.keeps{h':Heap}(x:Ah w led h S xs)(k:∀o,h.get? S=some o->h'.get? S=some o):Ah w led h' S xs:=nf x λes ep t h1 r=>⟨es,ep,t,k _ h1,r⟩
theorem Fa(H:Ah w led s.heap S xs)(cn:xs.length<=2)(B:x∉xs)(h:∀h',Heap.SameBut S s.heap h'->Ah w led h' S (xs++[x])->Q true {s with heap:=h'}):wpAny (model prog w) A (setAddHashed S (.str x tk) (hashStr w x)) Q E s:=by
 refine sM H λes ep t ho M _ I hp dL=>?_;try clear H
 have Iu:es.size=I.length:=by rw[dL.len,gj]
 refine Ho (eV _ _ _ _) rfl ho (VU.elems dL) M (by rw[Iu,hp.length_eq];exact cn) (λe he=>?_) λh' uL C z lj f N Sd=>?_
 ·refine xE (List.mem_iff_getElem?.mp he) λi hi=>?_;have Hh:i<I.length:=by rw[dL.len];exact(List.getElem?_eq_some_iff.mp hi).1
  refine Iy (dL.get (bC Hh)) λe' D _ RL h2=>?_;rw[<-aq (D.symm.trans hi),h2,Hp];cases q:d4 I[i] x with
  |false=>rfl
  |true=>exact absurd (hp.mem_iff.mp (by rw[<-(cq _ _).mp q];exact o7 Hh)) B
 ·refine bx (aE.perm f (dL.append (.cons (show VU w x (hashStr w x,.str x tk) from⟨rfl,tk,rfl⟩) .nil))) λl' p1 p2=>?_;exact h h' z ⟨uL,ep+1,C,lj,N,.inr Sd,l',p1.trans (hp.append_right _),p2⟩
theorem Br(H:Ah w led s.heap S xs)(cn:xs.length<=2)(B:x∉xs)(h:∀h' RL,Heap.SameBut S s.heap h'->Ah w led h' S (xs++[x])->Q true {s with heap:=h',toks:=RL}):wpAny (model prog w) A (setAdd S (.str x tk)) Q E s:=by unfold setAdd;refine bq (U ((PySem.strKind prog w).pyHash (eV _ _ _ _) ?_));exact Fa H cn B λh' h1 h2=>h h' _ h1 h2
theorem JS(H:Ah w led s.heap S xs){m:Nat}(cn:xs.length+m<=3){Q:Unit->Shared->Prop}(h:Q () s):wpAny (model prog w) A (setRoomFor S m) Q E s:=by
 refine sM H λes ep t ho M _ I hp dL=>?_;try clear H
 have Iu:es.size=I.length:=by rw[dL.len,gj]
 have P:es.size=xs.length:=by rw[Iu,hp.length_eq]
 unfold setRoomFor;refine U (i7 ho rfl M.fits ?_);have hn:t.roomFor m=none:=by
  unfold SetTable.roomFor SetTable.fill;have h3:=M.fits;unfold SetTable.fits SetTable.fill at h3;rw[aM] at h3;have h4:t.place.size=es.size:=by simpa using h3.1
  have h5:=M.mask;have h6:(#[]:Array Nat).size=0:=rfl;rw[aH];rw[M.YK,h4,P,h6];intro q;rw[Nat.mul_comm _ 5,Nat.mul_comm _ 3] at q;exact Av [_,_,_] (.c 1 (.m 3 (.v 2)) (.m 5 (.a (.a (.v 0) (.n 0)) (.v 1))) (.c 5 (.a (.v 0) (.v 1)) (.n 3) (.c 3 (.n 7) (.v 2) .nil))) 0 tt q cn h5
 dsimp only;rw[hn];exact aj h
end
section
variable {led:Bool}
theorem Z7(h:kvs.length<=1):(kvs.map (·.1)=[]/\kvs=[])\/∃k v,kvs.map (·.1)=[k]/\kvs=[(k,v)]:=by
 cases kvs with
 |nil=>exact .inl ⟨rfl,rfl⟩
 |cons p r=>rw[List.length_eq_zero_iff.mp (Nat.le_zero.mp (oP h))];exact .inr ⟨p.1,p.2,rfl,rfl⟩
theorem NR{n:Nat}{Q:Unit->Shared->Prop}{ks:List Str}(H:Ah w led s.heap S xs)(hd:s.heap.get? D=some (dictOf ds n))(YM:S≠D)(hk:aE (λ(k:Str)(e:DictEntry)=>∃t,e.hash=hashStr w k/\e.key= .str k t) ks ds) (cn:xs.length<=2) (RS:ks.length<=1) (B:∀k∈ks,k∉xs)(h:∀h' tk,(∀b o,b≠S->s.heap.get? b=some o->h'.get? b=some o)->Ah w led h' S (xs++ks)->Q () {s with heap:=h',toks:=tk}):wpAny (model prog w) A (do
  let VV <-dictEpoch D;let es <-dictEntries D
  setRoomFor S es.size
  forIn [:es.size] PUnit.unit λi _=>do
   let es <-dictEntries D
   match es[i]? with
    |some e=>do
     holding [e.key] do
      let _ <-setAddHashed S e.key e.hash
      pure ()
     let ep <-dictEpoch D
     if (ep !=VV)=true then do
      unsupported "dict.changed-during-merge"
      pure (ForInStep.yield PUnit.unit)
      else pure (ForInStep.yield PUnit.unit)
    |x=>do
     unsupported "dict.changed-during-merge"
     pure (ForInStep.yield PUnit.unit)
  pure ()) Q E s:=by
 have G:=hk.len;refine U (wpAny_dictEpoch hd rfl ?_);refine U (wpAny_dictEntries hd rfl ?_);refine U (JS H (by rw[aZ];exact aQ [_,_,_] (.c 1 (.v 0) (.n 2) (.c 1 (.v 1) (.n 1) (.f 1 (.v 1) (.v 2) .nil))) 0 (.a (.v 0) (.v 2)) (.n 3) tt cn RS G) ?_);cases hk with
 |nil=>refine U ?_;simp only[aZ,fL,xm,Std.Legacy.Range.size];refine aj (aj ?_);exact h s.heap s.toks (λ_ _ _ e=>e) (by simpa using H)
 | @cons k e lk ld hx1 hx2=>
  cases hx2 with
  |cons _ _=>simp at RS
  |nil=>
  refine bx hx1 λt e1 e2=>?_;try clear hx1
  refine U ?_;simp only[aZ,aJ,fL,xm,Std.Legacy.Range.size];refine(?_ :wpAny (model prog w) A (forIn [0] PUnit.unit _) _ E s);rw[mc];refine U (U (wpAny_dictEntries hd rfl ?_));show wpAny (model prog w) A (do
   holding [e.key] do
    let _ <-setAddHashed S e.key e.hash
    pure ()
   let ep <-dictEpoch D
   if (ep !=n)=true then do
    unsupported "dict.changed-during-merge"
    pure (ForInStep.yield PUnit.unit)
    else pure (ForInStep.yield PUnit.unit)) _ E s
  rw[e1,e2];refine U (bq (U (Fa H cn (B k (.head _)) λh' z H'=>aj ?_)));have MC:=(z.2 D (bM YM)).trans hd;refine U (wpAny_dictEpoch MC rfl ?_);simp only[bne_self_eq_false,jy,gC];refine aj ?_;dsimp only;rw[pj];exact aj (aj (h h' s.toks (λb o hb eb=>(z.2 b hb).trans eb) H'))
theorem Fb{it:Addr}{R:Result->Shared->Prop}(r:S≠it)(hh:A.handled=none)(K:s.heap.IsKeyIter it D i kvs.length ep)(O:s.heap.DictAt (PySem.strKind prog w) D kvs ep)(hn:kvs[i]?=none)(H:Ah w led s.heap S xs)(hR:∀h',(∀b o,b≠it->s.heap.get? b=some o->h'.get? b=some o)->Ah w led h' S xs->R (.ok (.ret .none)) {s with heap:=h'}):codeAny (model prog w) A (.builtin "set.update.loop" ⟨[.ref S,.ref it],[]⟩) R s:=by refine fg qR ?_;rw[iq lR _];refine(?_ :wpAny _ A.in1 (pyNext (.ref it)>>=_) _ _ s);exact U (wpAny_pyNext_dict_end hh K O hn λh' B=>aj (hR h' (λb o hb e=>B b o hb e) (H.keeps λo e=>B _ o r e)))
theorem Hq{n:Nat}{Q:Unit->Shared->Prop}{ks:List Str}(hh:A.handled=none)(H:Ah w led s.heap S xs)(hd:s.heap.get? D=some (dictOf ds n))(hm:D≠sysModules)(YM:S≠D)(hk:aE (λ(k:Str)(e:DictEntry)=>∃t,e.hash=hashStr w k/\e.key= .str k t) ks ds) (cn:xs.length<=2) (RS:ks.length<=1) (B:∀k∈ks,k∉xs) (O:s.heap.DictAt (PySem.strKind prog w) D kvs ep) (PK:kvs.map (·.1)=ks)(h:∀h' tk,(∀b o,b≠S->s.heap.get? b=some o->h'.get? b=some o)->Ah w led h' S (xs++ks)->Q () {s with heap:=h',toks:=tk}):wpAny (model prog w) A (setDisplayStar S (.ref D)) Q E s:=by
 have y:s.TypeIs (.ref D) "dict":=⟨_,hd,rfl⟩;unfold setDisplayStar;dsimp only;refine U (ka y PySem.F.sub_dict_set ?_);rw[aH (by decide)];refine U (ka y PySem.F.sub_dict_frozenset ?_);refine U (iy ?_);cases hbt:(model prog w).w.params.followText "set-display-star-reads-storage" with
 |false=>simp only[jy,gC];refine U (wpAny_typeOf y ?_);rw[a6 (by decide)];refine U (eQ ?_);rw[aH (by simpa using hm)];exact NR H hd YM hk cn RS B h
 |true=>
  simp only[if_true];have M:kvs.length=ks.length:=by rw[<-PK,ax]
  have two:=PK▸Z7 (by rw[M];exact RS);refine U (wpAny_pyIter_dict (beq_eq_false_iff_ne.mpr hm) O ?_);have Z8:=bT hd;have r:=nf H λ_ _ _ ho _=>bT ho;have N:∀b o,s.heap.get? b=some o->(s.heap.push {cls:=.type "dict_keyiterator",data:=.fields #[.ref D,.int 0 0,.int kvs.length 0,.int ep 0]}).get? b=some o:=λb o e=>bf _ e;have VW:(s.heap.push {cls:=.type "dict_keyiterator",data:=.fields #[.ref D,.int 0 0,.int kvs.length 0,.int ep 0]}).IsKeyIter s.heap.objs.size D 0 kvs.length ep:=⟨_,cu _ rfl,rfl,rfl⟩;refine U (wpAny_runValue ?_);rcases two with ⟨rfl,rfl⟩|⟨j,v,rfl,rfl⟩
  ·refine Fb (bL r) hh VW (O.push _) rfl (H.keeps λo e=>N _ o e) λh' UE H'=>?_;refine aj (h h' s.toks (λb o hb e=>UE b o (bL (bT e)) (N b o e)) (by simpa using H'))
  ·refine fg qR ?_;rw[iq lR _];refine(?_ :wpAny _ A.in1 (pyNext (.ref s.heap.objs.size)>>=_) _ _ _);refine U (wpAny_pyNext_dict_item VW (O.push _) rfl λkey h' NQ Se z=>?_);refine xE (lZ NQ) λtk Y=>?_;obtain rfl:=Y;have H1:=H.keeps λo e=>(z.2 S (bL r)).trans (N _ o e);refine(?_ :wpAny _ A.in1 (holding [Value.str j tk] (setAdd S (.str j tk))>>=_) _ _ _);refine U (bq (Br H1 cn (B j (.head _)) λl VX Sf H2=>?_));refine aj ⟨gX lR _,?_⟩;have Z9:=((O.push _).extBut z.extBut (bL Z8)).extBut Sf.extBut (bM YM);refine Fb (bL r) hh (Se.extBut Sf.extBut (dJ r)) Z9 rfl H2 λh3 hk3 H3=>?_;refine aj (h h3 VX (λb o hb e=>hk3 b o (bL (bT e)) ((Sf.2 b hb).trans ((z.2 b (bL (bT e))).trans (N b o e)))) H3)
end
theorem Du{Q:Value->Shared->Prop}(h:Q (.ref s.heap.objs.size) {s with heap:=s.heap.push (iH #[] 0 (.fresh 0 0 (!(w.params.followText "set-order"))))}):wpAny (model prog w) A (newSet (.type "set")) Q E s:=by unfold newSet setsByText;refine U (U (iy (aj ?_)));dsimp only;exact gP h
section
variable {g:G}
noncomputable def v3(es:List (Str×V)):List Str:=es.map (·.1)
def Bs(i j:Nat):ad V:=λσ Q=>dY i σ λa σ=>aA a.sv λx=>dY j σ λv σ=>aA (tZ σ.mem v) λp=>gd (mt p.2&&Nat.ble p.2.length 1&& !(dN x (v3 p.2))) (Q (.loc σ.mem.length) {σ with mem:=σ.mem++[.sset (x::v3 p.2)]})
theorem v4(h:dN x xs=false):x∉xs:=λq=>by rw[(fT x xs).mpr q] at h;exact Ab h
theorem Hr{es:List (Str×V)}(h:aE (mo g wd) es ds):aE (λ(k:Str)(e:DictEntry)=>∃t,e.hash=hashStr g.w k/\e.key= .str k t) (v3 es) ds:=by
 induction h with
 |nil=>exact .nil
 |cons e _ T=>exact dB e λt u e _=>.cons ⟨t,by rw[e];exact⟨rfl,rfl⟩⟩ T
theorem JT(i j:Nat){y:Str}{q r:Pos}{W:Nat}(hc:kdsCode g.K F.cd=true)(B:F.names[i]?=some x)(hy:F.names[j]?=some y)(hk:F.scope.kind= .function)(Z:∀d,(aK F d).kindOf x=some .local) (P:∀d,(aK F d).kindOf y=some .local) (hd:(x==("__debug__":Str))=false) (VH:(y==("__debug__":Str))=false)(UD:W=0):be g F k (.Set [.Name x p,.Starred (.Name y q) r] W pos) (Bs i j):=by
 subst UD;intro d A af hr s wd σ Q gI R J;refine qW J λa e1 J=>ah J λxv ea J=>qW J λv e2 J=>ah J λpp e J=>xA (aL J) λh1 C3=>xA ((aM _ _).mp h1) λh1 h1c=>xA ((aM _ _).mp h1) λh1a h1b=>?_;refine bx (R.loc) λm hn hm=>bx (hm i x _ B e1) λux hux hva=>xE (VR.str ea hva) λtk qi=>bx (hm j y v hy e2) λuy huy hvy=>R.dv hvy e λds n Z_ dP ho H=>?_;rw[qi] at hux;rw[Z_] at huy;rw[arm_eval_Set];refine U (dh ?_);refine U (kds_main (g.X.keeps R.hb) hc λb=>?_);show wpAny _ _ (setDisplay .oneByOne b [(false,do let v <-eval (.Name x p) (aK F d);standAt pos;Pure.pure v),(true,do let v <-eval (.Name y q) (aK F d);standAt pos;Pure.pure v)]) _ _ _;unfold setDisplay;rw[aH (by decide)];refine U (Du ?_);show wpAny (model g.prog g.w) A (do
  holding [Value.ref s.heap.objs.size] (do
   let first <-evalAll [(do let v <-eval (Expr.Name x p) (aK F d);standAt pos;Pure.pure v)]
   holding first (do
    forIn first PUnit.unit λx _=>do
     let _ <-setAdd s.heap.objs.size x
     Pure.pure (ForInStep.yield PUnit.unit)
    Pure.pure ())
   forIn [(true,(do let v <-eval (Expr.Name y q) (aK F d);standAt pos;Pure.pure v:Sem Value))] PUnit.unit λ(x:Bool×Sem Value) _=>
    match x with
    |(aaa,x)=>do
     let v <-x
     if aaa=true then do
      holding [v] (setDisplayStar s.heap.objs.size v)
      Pure.pure (ForInStep.yield PUnit.unit)
      else do
       let _ <-holding [v] (setAdd s.heap.objs.size v)
       Pure.pure (ForInStep.yield PUnit.unit)
   Pure.pure ())
  Pure.pure (Value.ref s.heap.objs.size)) _ _ _
 have H0:Ah g.w (!(g.w.params.followText "set-order")) (s.heap.push (iH #[] 0 (.fresh 0 0 (!(g.w.params.followText "set-order"))))) s.heap.objs.size []:=Ah.fresh _;generalize YG:s.heap.push (iH #[] 0 (.fresh 0 0 (!(g.w.params.followText "set-order"))))=hp at H0 ⊢;have keep:∀b o,s.heap.get? b=some o->hp.get? b=some o:=λb o e=>by rw[<-YG];exact bf _ e
 refine U (bq ?_);refine U (U (U (kt (lV hk (Z d) (hn.keeps keep) hux (U (dh (aj ?_)))) hd)));refine U (bq (aj (aj ?_)));refine U (bq (U ?_));rw[mc];refine U (U (Br H0 (by simp) (by simp) λh' RL z H1=>aj ?_));dsimp only;rw[pj];refine aj (aj ?_);rw[mc];have nX:∀b o,s.heap.get? b=some o->b≠s.heap.objs.size:=λb o e=>bL (bT e);have Fd:∀b o,s.heap.get? b=some o->h'.get? b=some o:=λb o e=>(z.2 b (nX b o e)).trans (keep b o e);refine U (U (U ?_));show wpAny (model g.prog g.w) A (do let v <-eval (Expr.Name y q) (aK F d);standAt pos;Pure.pure v) _ _ _;refine U (kt (lV hk (P d) (hn.keeps Fd) huy (U (dh (aj ?_)))) VH);rw[a6 rfl];refine xE ((gw (Fd _ _ ho) H h1a).dictAt) λep O=>?_;refine U (bq (Hq hr.handled H1 (Fd _ _ ho) (R.mem.low pp.1 dP) (bM (nX _ _ ho)) (Hr H) (by simp) (by unfold v3;rw[ax];exact aU h1b)
  (λk UE Y=>?_) O (pF H) λl VX aab H2=>aj ?_))
 ·refine(List.mem_append.mp Y).elim (λY=>nomatch Y) λY=>?_
  ·rw[List.mem_singleton] at Y;exact v4 (by simpa using h1c) (Y▸UE)
 ·dsimp only;rw[pj];refine aj (aj (aj ?_));have VY:∀b o,s.heap.get? b=some o->l.get? b=some o:=λb o e=>aab b o (nX b o e) (Fd b o e);refine sM H2 λuL ep' C lj N Sd I f dL=>?_;try clear H2
  refine az _ (.loc σ.mem.length) _ (Wd.aT wd s.heap.objs.size) (R.alloc (o:=.sset (xv::v3 pp.2)) VY (c6 _) lj ⟨uL,ep',C,rfl,⟨I,f,dL⟩,N.led,N.fits,Sd⟩ R.g7) R.pushed C3
end
section
variable {g:G}
theorem aac{Sg:ExceptHandler}{M:List ExceptHandler}{W:ad Fl}(h:k0 g F k body W):iW g F k (.Try body (Sg::M) [] [] pos) W:=by
 intro d A af hr s wd σ Q Z R J;refine wpAny_Try_except (bb.go (h d A af hr) Z R J λf s' bg j a9 x1 x2 x3 x4=>?_);cases j with
 |next=>rw[x3];exact hX (az bg .next a9 x1 x2 rfl x4)
 |brk=>rw[x3];exact az bg .brk a9 x1 x2 rfl x4
 |cont=>rw[x3];exact az bg .cont a9 x1 x2 rfl x4
 |ret v=>exact bx x3 λu e hv=>e.symm▸az bg (.ret v) a9 x1 x2 ⟨u,rfl,hv⟩ x4
noncomputable def eY(ln:Nat)(σ:St)(i:Nat):Option (Option (List V)):=(bj ln σ i).bind λo=>some (o.map λv=>[.int i,v])
theorem rx{l:Nat}{o:Option (List V)}{P:Prop}(h:eY l σ i=some o)(k:∀xs,(σ.mem[l]?).bind O.ls=some xs->o=(xs[i]?).map (λv=>[V.int i,v])->P):P:=aI h λo' e h=>mO e λxs e1 e2=>k xs e1 (by rw[e2];exact(aq h).symm)
def NU(e it ln:Nat)(wd:Wd)(i:Nat)(h:Heap):Prop:=ln<wd.n/\h.IsListIter it (wd.ρ ln) i/\∃z,IsEnum h e it i z
theorem NU.live(x:NU e it ln wd i h):∀y∈[e,it],∃o,h.get? y=some o/\¬ Perm o:=ML x λh1 K z h5=>Am K λo h2 h3 h4=>λy hy=>(List.mem_cons.mp hy).elim (λq=>q▸⟨_,h5,λp=>p.elim (λp=>yc p λzs n q=>absurd (kj (ag Obj.cls q)) (by decide)) λp=>xE p λq p=>dB p λvs t e1 e2=>by rw[<-o_ e1] at e2;exact nomatch e2⟩)
  λhy=>List.mem_singleton.mp hy▸⟨o,h2,λp=>p.elim (λp=>yc p λzs n q=>absurd (kj (h3.symm.trans (ag Obj.cls q))) (by decide)) λp=>xE p λq p=>dB p λvs t e1 e2=>by rw[<-o_ (h4.symm.trans e1)] at e2;exact nomatch e2⟩
theorem NU.stay{bg:Wd}{h':Heap}(x:NU e it ln wd i h)(Z:Wd.Le wd bg)(k:∀y∈[e,it],∀o,h.get? y=some o->h'.get? y=some o):NU e it ln bg i h':=ML x λh1 K z h5=>bx K λo h2 h3=>⟨dA h1 Z.n,⟨o,k it (.tail _ (.head _)) o h2,by rw[Z.ρ ln h1];exact h3⟩,z,k e (.head _) _ h5⟩
theorem Bt(hei:e≠it){n:Nat}{W:List V->ad Unit}(hr:cK A k)(ha:tW g F k ts W) (M:∀bc,(assignEach ts bc).findIdx? (·.1)=none) (cn:∀bc,(assignEach ts bc).length=ts.length) (hb:k0 g F k body Wb) {Q:Fl->St->Prop} (gI:Wd.Le af wd) (R:bU g F d wd σ s) (H:jE g d wd [e,it]) (G:NU e it ln wd 0 s.heap)(J:∃n,gu (eY ln) (λr σ Q=>gd (Nat.beq r.length ts.length) (W r σ Q)) Wb n 0 σ Q):wpAny (model g.prog g.w) A (runOwn (.forLoop (.Tuple ts n tp) (.ref e) body [] (aK F d)) (aK F d)) (iB g F d Us wd Q) Ac s:=by
 refine xE J λn J=>?_;refine wpAny_runOwn ?_;refine(?_ :codeAny (model g.prog g.w) A _ _ s);refine fM (sH (R:=Yv g F d wd Q) (M8 g F d (NU e it ln) [e,it] (eY ln) (λr σ Q=>gd (Nat.beq r.length ts.length) (W r σ Q)) Wb wd Q) ?_ n ⟨wd,σ,0,.refl _,R,H,G,J⟩) λr s' x=>by cases r<;>first|exact x|exact x.elim
 clear J G R H;intro n s hI;refine gY hI λD σ i h1 R H G J=>?_;cases n with
 |zero=>exact J.elim
 |succ n=>
  refine ah J λo ho J=>ML G λYN K z hen=>rx ho λxs e1 e2=>R.lst e1 λI m Z Y dL=>?_;cases e3:xs[i]? with
  |some v=>
   rw[e3] at e2;rw[e2] at J;refine bx (dL.get e3) λy hy hv=>?_;have he:=hen;have aae:=bT he;refine bx (id K) λoi VZ aeo=>?_;have aaf:=bT VZ;refine wpAny_pyNext_enum_item hen K (b9 Y) (by simpa using hy) hei λh' X a2 a3 a4 a5=>?_;have Ha:=jE.fresh R qo;have R1:bU g F d D σ {s with heap:=h',toks:=s.toks+1}:=R.other H λb o hb e=>a5 b o (λq=>hb (by rw[q];exact .head _)) (λq=>hb (by rw[q];exact .tail _ (.head _))) e;have T:=R1.jD Ha λx B=>List.mem_singleton.mp B▸⟨_,a3⟩;have P:=Ha.le h';have ne:∀x∈[e,it],x∉[s.heap.objs.size]:=λx B q=>(List.mem_cons.mp B).elim (λq'=>jd _ (q'▸List.mem_singleton.mp q▸aae)) λq'=>jd _ (List.mem_singleton.mp q'▸List.mem_singleton.mp q▸aaf);have H2:jE g d (D.jD [s.heap.objs.size] h') [e,it]:=⟨λx B=>(aH (ne x B)).trans (H.fz x B),H.own,H.L,H.hb⟩;refine wpAny_letOwnedTupleGo_enum X λl u b2=>?_;have R3:bU g F d (D.jD [s.heap.objs.size] h') σ {s with heap:=l,toks:=s.toks+1}:=T.other H2 λb o hb x=>(b2.2 b (λq=>hb (by rw[q];exact .head _))).trans x;have YO:NU e it ln (D.jD [s.heap.objs.size] h') (i+1) l:=bx a2 λo N c2=>⟨YN,⟨o,(b2.2 it (bM hei)).trans N,c2⟩,y,u⟩;have aag:CO (D.jD [s.heap.objs.size] h') [.int i,v] (.ref s.heap.objs.size):=
    ⟨_,[.int i s.toks,y],0,rfl,(a6 (.head _)).trans a3,.cons ⟨_,rfl⟩ (.cons (VR.jD hv) .nil)⟩
   have nY:=YO.live;have mS:=H2.le l;have R4:=R3.jD H2 λx B=>bx (nY x B) λo ho _=>⟨o,ho⟩;refine bb.go (Na ha M cn hr (CO.mono _ _ _ _ mS aag)) (.refl _) R4 J λ_ GI q6 _ nh x1 x2 _ x4=>?_;have hw0:=(((gI.trans h1).trans P).trans mS).trans x1;refine bb.go (hb d A af hr) hw0 x2 x4 λf AL lq j t y1 O y3 y4=>?_;refine u6 (R3.d6 H2 nY O (x1.trans y1)) λt1 t2 t3=>?_;have tU:=H2.le' (x1.trans y1);have hl7:=(h1.trans P).trans tU;have go:gu (eY ln) (λr σ Q=>gd (Nat.beq r.length ts.length) (W r σ Q)) Wb n (i+1) t Q->M8 g F d (NU e it ln) [e,it] (eY ln) (λr σ Q=>gd (Nat.beq r.length ts.length) (W r σ Q)) Wb wd Q n AL:=λh=>⟨_,t,i+1,hl7,t1,t2,YO.stay tU t3,h⟩;cases j with
   |next=>rw[y3];exact⟨n,eA _,go y4⟩
   |cont=>rw[y3];exact⟨n,eA _,go y4⟩
   |brk=>rw[y3];exact az _ .next t hl7 t1 rfl y4
   |ret v=>exact bx y3 λu' e hv=>e.symm▸az _ (.ret v) t hl7 t1 ⟨u',rfl,VR.d6 hv⟩ y4
  |none=>rw[e3] at e2;rw[e2] at J;refine wpAny_pyNext_enum_end hr.handled hen K (b9 Y) (by rw[j5,kC,<-dL.len];exact List.getElem?_eq_none_iff.mp e3) λh' B=>?_;exact hX (az D .next σ h1 (R.other H λb o hb x=>B b o (λq=>hb (by rw[q];exact .tail _ (.head _))) x) rfl J)
theorem JU{a:Pos}{arg:PySem.Expr}{n:Nat}{wa:ad V}{W:List V->ad Unit}(S:be g F k (.Name x p) (eK (.fb (.type "enumerate"))))(he:be g F k arg wa)(ha:tW g F k ts W) (hb:k0 g F k body Wb)(z:∀bc v,foldedSetIterable (.Call (.Name x p) [arg] [] a) bc v=Pure.pure v) (M:∀bc,(assignEach ts bc).findIdx? (·.1)=none) (cn:∀bc,(assignEach ts bc).length=ts.length)(T:∀bc,starEach [arg] bc=(false,eval arg bc)::starEach [] bc) (i:∀bc pos,((backTo pos (starEach [arg] bc)).any (·.1))=false):iW g F k (.For (.Tuple ts n tp) (.Call (.Name x p) [arg] [] a) body [] pos) (λσ Q=>wa σ λv G=>aA (pO v) λl=>∃n,gu (eY l) (λr σ Q=>gd (Nat.beq r.length ts.length) (W r σ Q)) Wb n 0 G Q):=by
 intro d A af hr s wd σ Q Z R J;rw[arm_exec_For];refine U (dh ?_);refine U ?_;refine(?_ :wpAny _ A (do callWith a (<-eval (.Name x p) (aK F d)) [] (backTo a (starEach [arg] (aK F d))) []) _ _ s);refine U (a_ (S d A af hr s wd σ (λb a9=>b= .fb (.type "enumerate")/\a9=σ) Z R ⟨rfl,rfl⟩) (λu s1 y=>?_) λ_ _ y=>y.elim);refine gY y λwd1 b σ1 y1 O y3 P R_=>?_;rw[P] at y3;rw[R_] at O;rw[show u=_ from y3];refine mh (by rw[i];rfl) (λh x=>x) (jX (i _ _) ?_);refine bb.go ((CI he IT T) d A af a hr) (K:=(λvs a9=>aA (l1 vs) λv=>aA (pO v) λl=>∃n,gu (eY l) (λr σ Q=>gd (Nat.beq r.length ts.length) (W r σ Q)) Wb n 0 a9 Q)) (Z.trans y1) O J λus s2 V0 vs V1 L z2 z3 z4=>?_;refine⟨fX,?_⟩;refine ah z4 λv C z4=>ah z4 λl e z5=>xE z5 λn' z5=>?_;rw[yj C] at z3;refine vn z3 λu eu hv=>?_;have hv:=VR.ref e hv;rw[eu,hv.2];cases n' with
 |zero=>exact z5.elim
 |succ n'=>refine ah z5 λo ho _=>rx ho λxs e1 e2=>z2.lst e1 λI m _ Y dL=>?_;refine call_enumerate_list (b9 Y) λh' N c2 c3 c4=>?_;rw[z];refine U (aj (U (dh ?_)));have aak:=N;refine U (bq (wpAny_pyIter_enum aak ?_));have H:=jE.fresh z2 λx B=>gO ((List.mem_cons.mp B).elim (λq=>q▸eC _) λq=>List.mem_singleton.mp q▸aF _);refine a_ (Bt (Nat.succ_ne_self _) hr ha M cn hb (Z.trans (y1.trans L)) (z2.keeps c4) H ⟨hv.1,c2,.none,N⟩ ⟨n'+1,z5⟩) (λf s3 x=>?_) λ_ _ x=>x;exact f_ x λwd3 j σ3 x1 x2 x3 x4=>az wd3 j σ3 ((y1.trans L).trans x1) x2 x3 x4
end
section
variable {g:G}
noncomputable def qv(kw:Option Str)(us:List Value)(u:Value):Args:=match kw with
 |some n=>⟨us,[(n,u)]⟩
 |none=>⟨us++[u],[]⟩
theorem Bu(kw:Option Str)(x:Value)(us:List Value)(u:Value):(⟨x::(qv kw us u).pos,(qv kw us u).kw⟩:Args)=qv kw (x::us) u:=by cases kw<;>rfl
def qw(g:G)(k:Nat)(f:Value)(kw:Option Str)(W:List V->ad V):Prop:=∀(F:df)(d:hJ)(A:Around)(af:Wd)(vs:List V)(us:List Value)(v:V)(u:Value),cK A k->aE (VR af) (vs++[v]) (us++[u])->∀(s:Shared)(wd:Wd)(σ:St)(Q:V->St->Prop),Wd.Le af wd->bU g F d wd σ s->W (vs++[v]) σ Q->
  codeAny (model g.prog g.w) A (.call f (qv kw us u)) (I2 g F d wd Q) s
theorem cO.ck(h:cO g k f W):qw g k f none W:=λF d A af vs us v u hr D s wd σ Q Z R J=>h F d A af (vs++[v]) (us++[u]) hr D s wd σ Q Z R J
theorem Ht{F':df}{qn:Str}(hb:k0 g F' k body Wb){f:Addr}{name:Str}{params:Arguments}{dV kV fx pm ct oc:Value}{an od:Option Addr}{Aw:Array (Option Value)}(ho:g.K.lookup f=some ⟨oc,od,.func (fnOf name qn params body F'.scope dV kV fx pm an F'.cd ct),Aw⟩) (Q8:codeIn g.K F'.cd qn=true) (Y:F'.qual=qn++".<locals>.") (n:Nat) (dflt:List V)(m:∀(s:Shared)(us:List Value)(u:Value),g.K.In s.heap->us.length=n->∃ds,(∀wd,aE (VR wd) dflt ds)/\BindsTo s (fnOf name qn params body F'.scope dV kV fx pm an F'.cd ct) ⟨us,[(kw,u)]⟩ ((F'.names.take (n+dflt.length+1)).zip (us++ds++[u])))(nD:F'.names.Nodup) (yo:∀x∈F'.names,F'.scope.names.lookup x=some .local) (q8:∀x∈F'.scope.names,x.2≠ .cell)(E:F'.scope.isCoroutine=false) (H:F'.scope.isGenerator=false) (hk:F'.scope.kind= .function):qw g (k+1) (.ref f) (some kw) (λvs σ Q=>aA (AP vs) λp=>gd (Nat.beq p.1.length n) (Wb ⟨iD F'.names.length (p.1++dflt++[p.2]),[],σ.mem⟩ λfl a9=>Q (nV fl) {σ with mem:=a9.mem})):=by intro F d A af vs us v u hr D s wd σ Q Z R J;rw[tX] at J;refine xA (aL J) λh1 J=>d3 (D.snoc) λq z e1 hq1 hz=>xA (List.append_inj' e1 rfl) λDs e2=>?_;have hn:=bK h1;rw[<-Ds] at hq1;rw[<-(hZ e2).1] at hz;have cn:=hq1.len;refine bx (m s us u (g.X.keeps R.hb) (fC [_,_,_] (.e 1 (.v 0) (.v 1) (.f 1 (.v 0) (.v 2) .nil)) 0 (.v 2) (.v 1) tt tt hn cn)) λds G Q9=>?_;exact AJ hb ho Q8 Y nD yo q8 E H hk hr (((hq1.mono λ_ _ h=>VR.mono Z h).append (G wd)).append (.cons (VR.mono Z hz) .nil)) (by simp;exact aQ [_,_,_] (.e 1 (.v 0) (.v 1) .nil) 0 (.a (.v 0) (.a (.v 2) (.n 1))) (.a (.a (.v 1) (.v 2)) (.n 1)) tt hn) Q9 R J
theorem nr(args:Args):(Code.builtin "type.__call__" args).frames=0:=by kernel_rfl
theorem uw(args:Args):(Code.builtin "type.__call__" args).weight<=1:=by
 have K:(Code.builtin "type.__call__" args).isGuard=false:=by show guardIds.contains "type.__call__"=false;decide+kernel
 have hk:(Code.builtin "type.__call__" args).isCaller=false:=by kernel_rfl
 unfold Code.weight;rw[nr,K,hk];split<;>simp
theorem cK.made(h:cK A (k+1))(args:Args):cK (A.under (.builtin "type.__call__" args)) k:=by
 have hw:=uw args;have N:(Code.builtin "type.__call__" args).cUnits=1:=by show 1+3*(Code.builtin "type.__call__" args).frames=1;rw[nr]
 refine⟨?_,?_,h.handled⟩
 ·have:=h.depth;show A.depth+(Code.builtin "type.__call__" args).weight+2*k<_;exact aQ [_,_,_,_] (.c 1 (.v 0) (.n 1) (.c 1 (.a (.a (.v 1) (.m 2 (.a (.v 2) (.n 1)))) (.n 1)) (.v 3) .nil)) 0 (.a (.a (.a (.v 1) (.v 0)) (.m 2 (.v 2))) (.n 1)) (.v 3) tt hw this
 ·have:=h.units;show A.units+(Code.builtin "type.__call__" args).cUnits+16*k+80<_;exact aQ [_,_,_,_] (.e 1 (.v 0) (.n 1) (.c 1 (.a (.a (.a (.v 1) (.m 16 (.a (.v 2) (.n 1)))) (.n 80)) (.n 1)) (.v 3) .nil)) 0 (.a (.a (.a (.a (.v 1) (.v 0)) (.m 16 (.v 2))) (.n 80)) (.n 1)) (.v 3) tt N this
def Dv(C:Addr)(W:List V->ad V)(vs:List V):ad V:=λσ Q=>
 W (.loc (σ.mem.length+1)::vs) {σ with mem:=σ.mem++[.dict [],.inst C σ.mem.length]} λr a9=>aA (uJ r) λb=>gd b (Q (.loc (σ.mem.length+1)) a9)
theorem Bv{kw:Option Str}(hm:makesIn g.K C=true)(hi:findIn g.K (.ref C) "__init__"=some (some (.ref fI)))(S:typeIn g.K (.ref fI)=some (.type "function"))(hc:qw g k (.ref fI) kw W) {vs:List V} {v:V} (hr:cK A (k+1)) (D:aE (VR af) (vs++[v]) (us++[u])) {Q:V->St->Prop} (Z:Wd.Le af wd) (R:bU g F d wd σ s)
 (J:Dv C W (vs++[v]) σ Q):
 codeAny (model g.prog g.w) A (.call (.ref C) (qv kw us u)) (I2 g F d wd Q) s:=by
 obtain⟨hh,gg,dd,tt,os⟩:=s;have i:∃aD kwl,qv kw us u=⟨aD,kwl⟩:=⟨_,_,rfl⟩;refine yc i λaD kwl e=>?_;rw[e];refine make_core (makes_of (g.X.keeps R.hb) hm) (looks_findIn (g.X.keeps R.hb) hi) (λself=>bind_fn (g.X.keeps R.hb) self S) (.inl rfl) ?_;have R1:=R.cE (o:=.dict []) ⟨[],0,rfl,.nil⟩;have hn:=R.mem.len;have T:bU g F d ((wd.push hh.objs.size).push (hh.push emptyDict).objs.size) {σ with mem:=(σ.mem++[.dict []])++[.inst C σ.mem.length]} ⟨(hh.push emptyDict).push (instObj C hh.objs.size),gg,dd,tt,os⟩:=
  R1.cE ⟨by
   rw[(Wd.aT (wd.push hh.objs.size) _).ρ _ (by show _<wd.n+1;omega),<-hn,Wd.mj],by show _<wd.n+1+1;omega⟩
 rw[kl] at T;have e2:(σ.mem++[O.dict []])++[O.inst C σ.mem.length]=σ.mem++[.dict [],.inst C σ.mem.length]:=by simp
 rw[e2] at T;have hv:VR ((wd.push hh.objs.size).push (hh.objs.size+1)) (.loc (σ.mem.length+1)) (.ref (hh.objs.size+1)):=by
  refine⟨by show _<wd.n+1+1;omega,?_⟩;have:σ.mem.length+1=(wd.push hh.objs.size).n:=by show _=wd.n+1;omega
  rw[this,Wd.mj]
 have gI:Wd.Le wd ((wd.push hh.objs.size).push (hh.objs.size+1)):=(Wd.aT _ _).trans (Wd.aT _ _);have Zv:aE (VR ((wd.push hh.objs.size).push (hh.objs.size+1))) ((.loc (σ.mem.length+1)::vs)++[v]) ((.ref (hh.objs.size+1)::us)++[u]):=.cons hv (D.mono λ_ _ h=>VR.mono (Z.trans gI) h);have e':(⟨.ref (hh.objs.size+1)::aD,kwl⟩:Args)=qv kw (.ref (hh.objs.size+1)::us) u:=by rw[<-Bu,e]
 rw[e'];refine fM (hc F d _ _ (.loc (σ.mem.length+1)::vs) (.ref (hh.objs.size+1)::us) v u (hr.made _) Zv _ _ _
  (λr a9=>aA (uJ r) λb=>gd b (Q (.loc (σ.mem.length+1)) a9)) (.refl _) T J) λr s' x=>?_
 cases r with
 |error e=>exact x
 |ok f=>
  cases f with
  |ret r=>refine f_ x λbg b a9 x1 x2 x3 x4=>ah x4 λb' e x4=>xA (aL x4) λeb x5=>?_;have hn:=vd x3 e;rw[show r= .none by simpa [eb] using hn];exact⟨rfl,bg,.loc (σ.mem.length+1),a9,gI.trans x1,x2,VR.mono x1 hv,x5⟩
  |_=>exact x
theorem Hu(hm:makesIn g.K C=true)(hi:findIn g.K (.ref C) "__init__"=some (some (.ref fI)))(S:typeIn g.K (.ref fI)=some (.type "function"))(hc:qw g k (.ref fI) none W):cz g (k+1) (.ref C) (λvs=>kM vs λv=>Dv C W [v]):=by intro F d A af vs us hr D s wd σ Q Z R J;refine q_ D J λv u e hv UX=>?_;rw[e];exact fi (Bv (vs:=[]) (us:=[]) hm hi S hc hr (.cons hv .nil) Z R UX)
def v5(g:G)(k:Nat)(f:Value)(kw:Str)(W:V->V->ad V):Prop:=∀(F:df)(d:hJ)(A:Around)(af:Wd)(a b:V)(u v:Value),cK A k->VR af a u->VR af b v->bb g F d A af qg (call f [u] [(kw,v)]) (W a b)
theorem NV{kp:Pos}{i c:PySem.Expr}{wa wb:ad V}{W:V->V->ad V}(S:be g F k (.Name x p) (eK (.fb f)))(ha:be g F k i wa)(hb:be g F k c wb)(N:∀M h,g.K.In h->jK M h f) (hc:v5 g k f kw W) (T:∀bc,starEach [i] bc=(false,eval i bc)::starEach [] bc):be g F k (.Call (.Name x p) [i] [⟨some kw,c,kp⟩] pos) (λσ Q=>wa σ λa G=>wb G λb E=>W a b E Q):=by
 intro d A af hr s wd σ Q Z R J;refine(?_ :wpAny _ A (do callWith pos (<-eval (.Name x p) (aK F d)) [] (backTo pos (starEach [i] (aK F d))) (backToKw pos (keywordEach [⟨some kw,c,kp⟩] (aK F d)))) _ _ s);refine U (a_ (S d A af hr s wd σ (λb a9=>b= .fb f/\a9=σ) Z R ⟨rfl,rfl⟩) (λu s1 y=>?_) λ_ _ y=>y.elim);refine gY y λwd1 b σ1 y1 O y3 P R_=>?_;rw[P] at y3;rw[R_] at O;rw[show u=f from y3];have z:backTo pos (starEach [i] (aK F d))=(false,eval i (aK F d))::[]:=by rw[T];rfl
 rw[z];refine mh rfl (λh x=>x) (evalArgs_kw rfl ?_);rw[<-z];refine bb.go ((CI ha IT T) d A af pos hr) (K:=(λvs a9=>aA (l1 vs) λa=>wb a9 λb E=>W a b E Q)) (Z.trans y1) O J λus s2 V0 vs V1 L z2 z3 z4=>?_;refine ah z4 λa ea z4=>?_
 ·rw[yj ea] at z3;refine vn z3 λu Y hv=>?_;rw[Y];show wpAny _ A (evalAll [do let v <-eval c (aK F d);standAt pos;Pure.pure v]) _ _ s2;refine wpAny_evalAll_cons (U (bb.go (hb d A af hr) ((Z.trans y1).trans L) z2 z4 λv s3 wd3 b σ3 t1 t2 t3 t4=>?_));refine U (dh (aj (wpAny_evalAll_nil ⟨N _ _ (g.X.keeps t2.hb),?_⟩)));refine bb.go (hc F d A wd3 a b u v hr (VR.mono t1 hv) t3) (.refl _) t2 t4 λr s4 wd4 r' σ4 q1 q2 q3 q4=>?_;exact az wd4 r' σ4 (((y1.trans L).trans t1).trans q1) q2 q3 q4
theorem Dw(hm:makesIn g.K C=true)(hi:findIn g.K (.ref C) "__init__"=some (some (.ref fI)))(S:typeIn g.K (.ref fI)=some (.type "function"))(hc:qw g k (.ref fI) (some kw) W):v5 g (k+1) (.ref C) kw (λa b=>Dv C W [a,b]):=by intro F d A af a b u v hr ha hb s wd σ Q Z R J;exact fi (Bv (vs:=[a]) hm hi S hc hr (.cons ha (.cons hb .nil)) Z R J)
end
end
section
variable {S a it:Addr}{A:Around}{es:Array (Int×Value)}{d:hJ}{F:df}{g:G}{h:Heap}{ts:List Str}{us I zs:List Value}{M:Model}{ep k:Nat}{f:Nat->V}{Q:Option Value->Shared->Prop}{prog:Program}{R:Result->Shared->Prop}{t:SetTable}{s:Shared}{α:Type}{E:Value->Shared->Prop}{wd:Wd}{w:World}{Q':α->Shared->Prop}
set_option maxHeartbeats 3200000
noncomputable def gJ(xs:List Str):List Str->List Str
 | []=>xs
 |t::r=>gJ (jF t xs) r
theorem yO(x:Str)(xs:List Str):(jF x xs).length<=xs.length+1:=by
 rw[vC];split
 ·exact eC _
 ·exact aF _
def Dx(t:Str)(u:Value):Prop:=∃tk,u= .str t tk
section
theorem JV{l:Addr}(Vw:S≠it)(hSl:S≠l)(hil:l≠it)(YP:aE Dx ts I)(hh:A.handled=none):∀(aD:List Str)(i:Nat)(s:Shared)(xs:List Str),ts.drop i=aD->xs.length+aD.length<=20->s.heap.IsListIter it l i->s.heap.IsList l I.toArray->s.heap.SetOf (PySem.strKind prog w) S (λk=>decide (k∈xs)) xs.length-> (∀h' tk,(∀b o,b≠S->b≠it->s.heap.get? b=some o->h'.get? b=some o)->h'.SetOf (PySem.strKind prog w) S (λk=>decide (k∈gJ xs aD)) (gJ xs aD).length->R (.ok (.ret .none)) {s with heap:=h',toks:=tk})-> codeAny (model prog w) A (.builtin "set.update.loop" ⟨[.ref S,.ref it],[]⟩) R s:=by
 intro aD;induction aD with
 |nil=>
  intro i s xs hd hz K Z G hR;refine fg qR ?_;rw[iq lR _];refine(?_ :wpAny _ A.in1 (pyNext (.ref it)>>=_) _ _ s);have cn:=YP.len;have hn:ts.length<=i:=by rwa[j6] at hd
  refine U (wpAny_pyNext_list_end hh K Z (by rw[j5,kC];exact aQ [_,_,_] (.f 1 (.v 0) (.v 1) (.c 1 (.v 0) (.v 2) .nil)) 0 (.v 1) (.v 2) tt cn hn) λh' M=>?_);refine aj (hR h' s.toks (λb o _ hb e=>M b o hb e) ?_);exact Cu G λo es ep t ho r=>⟨o,es,ep,t,M _ _ Vw ho,r⟩
 |cons t aD T=>
  intro i s xs hd hz K Z G hR;have hi:ts[i]?=some t:=by have:=ag (·[0]?) hd;simpa using this
  have MC:ts.drop (i+1)=aD:=by have:=ag List.tail hd;rwa[pg,pi] at this
  refine Ze (YP.get hi) λy hy tk qi=>?_;rw[qi] at hy;refine fg qR ?_;rw[iq lR _];refine(?_ :wpAny _ A.in1 (pyNext (.ref it)>>=_) _ _ s);refine U (wpAny_pyNext_list_item K Z (by simpa using hy) λh1 Se hs1=>?_);have NW:h1.IsList l I.toArray:=bx Z λo a b=>⟨o,(hs1.2 l hil).trans a,b⟩;have hS1:h1.SetOf (PySem.strKind prog w) S (λk=>decide (k∈xs)) xs.length:=Cu G λo es ep t ho r=>⟨o,es,ep,t,(hs1.2 S Vw).trans ho,r⟩;refine(?_ :wpAny _ A.in1 (holding [Value.str t tk] (setAdd S (.str t tk))>>=_) _ _ _);refine U (bq ?_);unfold setAdd;refine bq ?_;refine U ((PySem.strKind prog w).pyHash (eV _ _ t tk) ?_);rw[aJ] at hz;refine wpAny_setAddHashed_of (eV _ _ t tk) rfl hS1 (mQ (aQ [_,_] (.c 1 (.a (.v 0) (.a (.v 1) (.n 1))) (.n 20) .nil) 0 (.a (.v 0) (.n 1)) (.n 30) tt hz)) λh2 hs2 hS2=>?_;have e1:(λj=>decide (j∈xs)||decide (j=t))=λk=>decide (k∈jF t xs):=funext λk=>(vD t k xs).symm;have YO:h2.SetOf (PySem.strKind prog w) S (λk=>decide (k∈jF t xs)) (jF t xs).length:=by rw[vC,<-e1];exact hS2
  have aaq:h2.IsListIter it l (i+1):=bx Se λo a b=>⟨o,(hs2.2 it (bM Vw)).trans a,b⟩;have P:h2.IsList l I.toArray:=bx NW λo a b=>⟨o,(hs2.2 l (bM hSl)).trans a,b⟩;have gI:=yO t xs;refine aj ⟨gX lR _,T (i+1) _ (jF t xs) MC (aQ [_,_,_] (.c 1 (.a (.v 0) (.a (.v 1) (.n 1))) (.n 20) (.c 1 (.v 2) (.a (.v 0) (.n 1)) .nil)) 0 (.a (.v 2) (.v 1)) (.n 20) tt hz gI) aaq P YO λh' RL k q=>?_⟩;exact hR h' RL (λb o h1 h2 e=>k b o h1 h2 ((hs2.2 b h1).trans ((hs1.2 b h2).trans e))) q
def V2(s:Shared)(obj:Value)(dG:Shared):Prop:=∃led:Bool,obj= .ref s.heap.objs.size/\dG={s with heap:=s.heap.push {cls:=.type "set",dict:=none,data:=.set #[] 0 (.fresh 0 0 led)}}
def V3(prog:Program)(w:World)(s:Shared)(ts:List Str)(r:Value)(mM:Shared):Prop:=r= .none/\∃h' tk,mM={s with heap:=h',toks:=tk}/\h'.SetOf (PySem.strKind prog w) s.heap.objs.size (λk=>decide (k∈gJ [] ts)) (gJ [] ts).length/\(∀b o,s.heap.get? b=some o->h'.get? b=some o)
theorem xd{l:Addr}{Q:Value->Shared->Prop}(hh:A.handled=none)(Z:s.heap.IsList l I.toArray)(YP:aE Dx ts I)(hz:ts.length<=20)(h:∀(h':Heap)(tk:Nat),h'.SetOf (PySem.strKind prog w) s.heap.objs.size (λk=>decide (k∈gJ [] ts)) (gJ [] ts).length->
  (∀b o,s.heap.get? b=some o->h'.get? b=some o)->Q (.ref s.heap.objs.size) {s with heap:=h',toks:=tk}):
 wpAny (model prog w) A (call (.type "set") [.ref l]) Q E s:=by
 refine yc (F.called_set.mro) λc tl aew=>?_;have acE:=F.called_set.made;have aex:=F.called_set.sub;refine fi (o9 ?_);refine(?_ :wpAny _ _ (callAny (.type "set") _) _ _ _);refine aj ⟨Code.quiet_builtin _ (by decide+kernel),fg F.entry_type_call ?_⟩;rw[Around.under_plain (weight_type_call_type "set" [.ref l] []) rfl];have h1:=F.called_set.notType;have h2:=F.called_set.canCreate;have hct:=F.typeCall_set_1 (.ref l);repeat (any_goals (first|assumption|wp_step))
 refine fM (code_set_new_1 (.ref l) (E:=E) (Q₁:=V2 s) λled=>⟨led,rfl,rfl⟩) λr dG hr=>?_;cases r with
 |error e=>exact hr
 |ok fl=>
  cases fl with
  |ret obj=>
   refine bx hr λled Y jM=>Iy (id Z) λol YJ L nl S=>?_;rw[Y,jM];have hlS:=bT YJ;have G:(s.heap.push {cls:=.type "set",dict:=none,data:=.set #[] 0 (.fresh 0 0 led)}).get? s.heap.objs.size=some {cls:=.type "set",dict:=none,data:=.set #[] 0 (.fresh 0 0 led)}:=cu _ rfl;have y:Shared.TypeIs {s with heap:=s.heap.push {cls:=.type "set",dict:=none,data:=.set #[] 0 (.fresh 0 0 led)}} (.ref s.heap.objs.size) "set":=⟨_,G,rfl⟩;have Sh:=F.called_set.init.lookup;have hbi:=F.called_set.init.bind (.ref s.heap.objs.size);repeat (any_goals (first|assumption|wp_step))
   refine fM (oU (R:=wants (V3 prog w s ts) E) F.called_set.init.plain F.entry_set_init (check_set_init_1 y ?_)) λaar mM JW=>?_
   ·have aas:(s.heap.push {cls:=.type "set",dict:=none,data:=.set #[] 0 (.fresh 0 0 led)}).get? l=some {cls:=.type "list",dict:=ol.dict,data:=.seq I.toArray nl,slots:=ol.slots}:=(bf _ YJ).trans (by rw[<-L,<-S]);have aey:=F.sub_list_set;have aez:=F.sub_list_frozenset;have qO:(Value.type "list"==Value.type "dict")=false:=by decide
    have NW:(s.heap.push {cls:=.type "set",dict:=none,data:=.set #[] 0 (.fresh 0 0 led)}).IsList l I.toArray:=⟨_,aas,rfl,nl,rfl⟩;unfold Builtin.«set.__init__» noKeywords Builtin.Frozenset.updateFrom;generalize hPI:pyIter=PI;wp_walk;subst hPI;refine wpAny_pyIter_list NW ?_;refine U (wpAny_runValue ?_);refine JV (by rw[kl];exact bL (eA _)) (dJ hlS) (by rw[kl];exact bL (fJ hlS)) YP (by simp[hh]) ts 0 _ [] rfl (by simpa using hz)
     ⟨_,cu _ rfl,rfl,rfl⟩ (NW.push _) ?_ ?_
    ·exact PyProof.Rows.SetOf_congr ((PyProof.Rows.setObjOf_fresh led).setOf (bf _ G) (by unfold scanBound;exact aQ [] .nil 0 (.a (.n 0) (.n 1)) (.n 4096) tt)) (λk=>by simp) rfl
    ·intro h' tk hk q;refine aj ?_;refine(?_ :wpAny _ _ (ret Value.none) _ _ _);refine aj ⟨rfl,h',tk,rfl,q,λb o e=>?_⟩;have hb:=bT e;exact hk b o (bL hb) (by rw[kl];exact bL (fJ hb)) (bf _ (bf _ e))
   ·cases aar with
    |error e=>exact JW
    |ok V4=>
     cases V4 with
     |ret r=>
      refine Qx JW λDs h' tk qi q UE=>?_;rw[Ds,qi];repeat (any_goals (first|assumption|wp_step))
      exact h _ _ q UE
     |_=>exact JW.elim
  |_=>exact hr.elim
end
section
theorem NX{xs:List V}(h:aE (VR wd) xs us)(e:kN xs=some ts):aE Dx ts us:=by
 induction h generalizing ts with
 |nil=>rw[<-aq e];exact .nil
 |cons h1 _ T=>exact aI e λx e1 e=>aI e λt e2 e=>by rw[<-aq e];exact .cons (VR.str e1 h1) (T e2)
def Si(vs:List V):ad V:=kM vs λa σ Q=>aA (dC σ.mem a) λp=>aA (kN p.2) λts=>gd (Nat.ble ts.length 20) (jU (.set (gJ [] ts)) σ Q)
theorem Hv:cz g k (.type "set") Si:=by
 intro F d A af vs us hr D s wd σ Q Z R J;refine q_ D J λa u e ha J=>ah J λp e1 J=>ah J λts e2 J=>xA (aL J) λh1 J=>R.lv (VR.mono Z ha) e1 λI n N dP ho dL=>?_;rw[e,N];refine xd hr.handled (b9 ho) (NX dL e2) (aU h1) λh' tk G hk=>?_;refine bx (G.objOf) λso lj hso=>?_;have i:=hso.1;have R':bU g F d (wd.push s.heap.objs.size) {σ with mem:=σ.mem++[.set (gJ [] ts)]} {s with heap:=h',toks:=tk}:=
  R.alloc hk (c6 _) lj ⟨hso,i.1,i.2.1⟩ R.g7
 exact az _ (.loc σ.mem.length) _ (Wd.aT _ _) R' R.pushed J
end
set_option maxHeartbeats 1000000
theorem yP{src:Source}{n:Nat}{Q:Nat->Shared->Prop}(hn:n≠0)(h:∀i d,i<n->Q i {s with drawn:=d}):wpAny M A (choose src n) Q E s:=λΓ p _=>by unfold choose;rw[Sem.wp_choose];exact⟨hn,h _ _ (eD _ (Nat.pos_of_ne_zero hn))⟩
theorem pZ(l:List α)(i:Nat)(h:i<l.length):(l[i]::l.eraseIdx i).Perm l:=by
 induction l generalizing i with
 |nil=>exact absurd h (Nat.not_lt_zero _)
 |cons x r T=>
  cases i with
  |zero=>exact .refl _
  |succ i=>exact(List.Perm.swap ..).trans ((T i (Nat.lt_of_succ_lt_succ h)).cons x)
theorem uz{M:Model}{A:Around}{E:Value->Shared->Prop}(n:Nat):∀(xs:List α)(s:Shared)(Q:List α->Shared->Prop),xs.length=n->(∀I d,I.Perm xs->Q I {s with drawn:=d})->wpAny M A (drawOrder n xs) Q E s:=by
 induction n with
 |zero=>exact λxs s Q Z h=>aj (h [] s.drawn (List.length_eq_zero_iff.mp Z▸ .refl _))
 |succ n T=>
  intro xs s Q Z h;cases xs with
  |nil=>exact nomatch Z
  |cons x r=>refine(?_ :wpAny M A (choose .order (x::r).length>>=_) Q E s);refine U (yP (l8 _) λi d hi=>?_);rw[bC hi];refine U (T ((x::r).eraseIdx i) _ _ (by rw[List.length_eraseIdx_of_lt hi,Z];rfl) λI c hp=>aj ?_);exact h _ c ((hp.cons _).trans (pZ _ _ hi))
theorem Bw(next:Nat->Nat):∀(n k:Nat)(left:List α)(m:Array α),left.length=n->(pickOrder.go next n k left m).toList.Perm (m.toList++left):=by
 intro n;induction n with
 |zero=>intro k left m Z;have:=List.length_eq_zero_iff.mp Z;subst this;simp[pickOrder.go]
 |succ n T=>intro k left m Z;have hi:next k % left.length<left.length:=eD _ (aQ [_,_] (.f 1 (.v 0) (.a (.v 1) (.n 1)) .nil) 0 (.a (.n 0) (.n 1)) (.v 0) tt Z);unfold pickOrder.go;rw[bC hi];refine(T (k+1) _ _ (by rw[List.length_eraseIdx_of_lt hi,Z];rfl)).trans ?_;rw[Array.toList_push,au];exact List.Perm.append_left _ (pZ _ _ hi)
theorem v6(next:Nat->Nat)(xs:Array α):(pickOrder next xs).toList.Perm xs.toList:=by unfold pickOrder;simpa using Bw next xs.size 0 xs.toList #[] (by simp)
theorem iI:Slot "set_iterator" "__next__" "set_iterator.__next__":=.of (owner:="set_iterator") (n:="__next__") (by rw[hY,jx];kernel_rfl) (by decide+kernel) (by decide+kernel) (by decide+kernel)
  (by first|exact .inl (by decide+kernel)|exact .inr (by decide+kernel)) (by rw[ki];kernel_rfl)
theorem qx:entryFor table "set_iterator.__next__"=some Builtin.«set_iterator.__next__» :=o5 (by kernel_rfl)
theorem ry(a:Value):argsOk "set_iterator.__next__" ⟨[a],[]⟩:=by unfold argsOk;kernel_rfl
theorem v7:entryFor table "set.__iter__"=some Builtin.«frozenset.__iter__» :=entryFor_alias (id':="frozenset.__iter__") (by kernel_rfl) rfl (by decide+kernel) (by kernel_rfl)
noncomputable def fk(first:Value)(i:Nat)(S:Value)(n ep:Nat):Obj:={cls:=.type "set_iterator",dict:=none,data:=.fields #[first,rawInt i,S,rawInt n,rawInt ep],slots:= #[]}
structure NY(w:World)(h:Heap)(it S:Addr)(es:Array (Int×Value))(ep:Nat)(t:SetTable)(zs:List Value):Prop where
 ne:it≠S
 set:h.get? S=some (iH es ep t)
 fits:t.fits es.size=true
 led:t.led= !(w.params.followText "set-order")
 at':(∃(T:Addr)(p:List Nat)(i n:Nat),h.get? it=some (fk (.ref T) i (.ref S) es.size ep)/\h.get? T=some (aG "tuple" (p.map λ(j:Nat)=>rawInt ((j:Nat):Int)) n)/\T≠it/\aE (λ(j:Nat)(z:Value)=>∃e,es[j]?=some e/\e.2=z) (p.drop i) zs)\/
  (w.params.followText "set-order"=true/\∃i:Nat,h.get? it=some (fk (rawInt 0) i (.ref S) es.size ep)/\zs=((pickOrder (w.params.setOrder S ep) es).toList.drop i).map (·.2))\/
  (w.params.followText "set-order"=false/\es.size<=1/\∃i nW:Nat,h.get? it=some (fk (rawInt nW) i (.ref S) es.size ep)/\zs=(es.toList.drop (SetTable.below t.place nW)).map (·.2))
section
theorem JX{T id:String}{b:Builtin}(y:s.TypeIs (.ref it) T)(sl:Slot T "__next__" id)(en:entryFor table id=some b)(ar:argsOk id ⟨[.ref it],[]⟩)(hb:wpAny (model prog w) A.in1 (b ⟨[.ref it],[]⟩) (ZQ Q) (Uy Q) s):wpAny (model prog w) A (pyNext (.ref it)) Q E s:=by
 unfold pyNext;refine U (pu (wpAny_callSpecial?_slot y sl (i8 sl y en (a_ hb (λfin s' z=>?_) λe s' z=>?_) ar)))
 ·exact bx z λv e hv=>by rw[e];exact⟨v,rfl,aj hv⟩
 ·refine Am z λa e ho Y=>bx ho λo lj hc=>?_;rw[e];exact U (ka ⟨o,lj,hc⟩ isSubtype_stop (aj Y))
theorem JY(hh:A.handled=none)(k:∀h',(∀b o,s.heap.get? b=some o->h'.get? b=some o)->Q none {s with heap:=h'}):wpAny (model prog w) A (Builtin.SmallTypes.stopIteration:Sem α) Q' (Uy Q) s:=a_ (t8 hh) (λ_ _ x=>x) λe s' x=>u8 x λa l jM qi ho hk=>by rw[qi];exact⟨a,jM,ho,k l hk⟩
theorem JZ{f S':Value}{i n:Nat}(hh:A.handled=none)(h1:s.heap.get? it=some {cls:=.type "set_iterator",dict:=none,data:=.fields #[f,rawInt i,S',rawInt n,rawInt ep],slots:= #[]})(k:∀h',(∀b o,b≠it->s.heap.get? b=some o->h'.get? b=some o)->Q none {s with heap:=h'}):wpAny (model prog w) A (setField (.ref it) 2 .none>>=λ_=>(Builtin.SmallTypes.stopIteration:Sem α)) Q' (Uy Q) s:=U (j9 h1 (by simp) λh' X a2=>JY (s:={s with heap:=h'}) hh λl hk=>k l λb o hb e=>hk b o ((a2.2 b hb).trans e))
theorem J0{f:Value}{i n next:Nat}{x:Value}(h1:s.heap.get? it=some (fk f i (.ref S) n ep))(k:∀h',Heap.SameBut it s.heap h'->h'.get? it=some (fk (rawInt (next:Int)) (i+1) (.ref S) n ep)->Q (some x) {s with heap:=h'}):wpAny (model prog w) A (setField (.ref it) 0 (rawInt (next:Int))>>=λ_=>setField (.ref it) 1 (rawInt ((i:Int)+1))>>=λ_=>ret x) (ZQ Q) (Uy Q) s:=U (j9 h1 (by simp) λh' X a2=>U (j9 X (by simp) λl u b2=>aj ⟨_,rfl,k l (a2.trans b2) (by rw[u];rfl)⟩))
theorem Bx(hh:A.handled=none)(I:NY w s.heap it S es ep t zs)(cL:∀z r h',zs=z::r->Heap.SameBut it s.heap h'->NY w h' it S es ep t r->Q (some z) {s with heap:=h'})(stop:zs=[]->∀h',(∀b o,b≠it->s.heap.get? b=some o->h'.get? b=some o)->Q none {s with heap:=h'}):wpAny (model prog w) A (pyNext (.ref it)) Q E s:=by
 have qO:=I.ne;have g:=I.set;have B:=I.fits;have H:=I.led;have y:s.TypeIs (.ref it) "set_iterator":=I.at'.elim (λh=>gZ h λ_ _ _ _ h1 _ _ _=>⟨_,h1,rfl⟩) λh=>h.elim (λh=>jB h λ_ _ h1 _=>⟨_,h1,rfl⟩) λh=>yd h λ_ _ _ _ h1 _=>⟨_,h1,rfl⟩;have J1:∀h',Heap.SameBut it s.heap h'->h'.get? S=some (iH es ep t):=λh' M=>(M.2 S (bM qO)).trans g;refine JX y iI qx (ry _) ?_;unfold Builtin.«set_iterator.__next__»;refine(?_ :wpAny _ _ (fieldsOf (.ref it)>>=_) _ _ s);have Sj:∀n:Nat,((n:Int) !=(n:Int))=false:=λn=>by simp
 refine I.at'.elim (λh=>gZ h λT p i n h1 h2 hTi h4=>?_) λh=>h.elim (λh=>jB h λm i h1 h2=>?_) λh=>yd h λm hz i nW h1 h2=>?_
 ·refine U (wpAny_fieldsOf h1 rfl ?_);refine(?_ :wpAny _ _ (setEntries S>>=_) _ _ s);refine U (oX g rfl B ?_);refine fe (Sj _) ?_;refine(?_ :wpAny _ _ (seqItems? (.ref T)>>=_) _ _ s);refine U (wpAny_seqItems h2 rfl ?_);cases MF:p.drop i with
  |nil=>
   rw[MF] at h4;cases h4;have:((p.map λ(j:Nat)=>rawInt ((j:Nat):Int)).toArray)[(i:Int).toNat]?=none:=by rw[j5,kC,ax];rw[j6] at MF;simpa using MF
   dsimp only;rw[this];refine U (j9 h1 (by simp) λh' X a2=>?_);refine U (j9 X (by simp) λl u b2=>?_);exact JY (s:={s with heap:=l}) (A:=A.in1) hh λh3 hk=>stop rfl h3 λb o hb e=>hk b o ((b2.2 b hb).trans ((a2.2 b hb).trans e))
  |cons j p'=>
   rw[MF] at h4;cases h4 with
   | @cons _ z _ r hz hr=>
   refine bx hz λe he jM=>?_;rw[<-jM] at cL;have hj:p[i]?=some j:=by have:=ag (·[0]?) MF;simpa using this
   have:((p.map λ(j:Nat)=>rawInt ((j:Nat):Int)).toArray)[(i:Int).toNat]?=some (rawInt (j:Int)):=by rw[j5,bi];simp[hj]
   dsimp only;rw[this];refine(?_ :wpAny _ _ (setNextDrawn S (j:Int).toNat (ep:Int).toNat>>=_) _ _ s);refine U ?_;unfold setNextDrawn;refine U (i7 g rfl B ?_);dsimp only;refine fe (by simp) ?_;have:es[(j:Int).toNat]?=some e:=by simpa using he
   rw[this];refine aj ?_;refine U (j9 h1 (by simp) λh' X a2=>?_);refine aj ⟨_,rfl,cL _ r h' rfl a2 ⟨qO,J1 _ a2,B,H,.inl ⟨T,p,i+1,n,?_,(a2.2 T hTi).trans h2,hTi,?_⟩⟩⟩
   ·rw[X];rfl
   ·have:p.drop (i+1)=p':=by have:=ag List.tail MF;rwa[pg,pi] at this
    rw[this];exact hr
 ·refine U (wpAny_fieldsOf h1 rfl ?_);refine(?_ :wpAny _ _ (setEntries S>>=_) _ _ s);refine U (oX g rfl B ?_);refine fe (Sj _) ?_;refine(?_ :wpAny _ _ (setNext S (0:Int).toNat (i:Int).toNat (ep:Int).toNat>>=_) _ _ s);refine U ?_;unfold setNext setsByText;refine U (i7 g rfl B ?_);dsimp only;refine U (U (iy (aj ?_)));refine(?_ :wpAny _ _ (if w.params.followText "set-order"=true then _ else _) _ _ s);refine jh m ?_;refine fe (by simp) ?_;refine U ?_;unfold setWalk setsByText;refine U (i7 g rfl B ?_);dsimp only;refine U (U (iy (aj ?_)));refine(?_ :wpAny _ _ (if w.params.followText "set-order"=true then _ else _) _ _ s);refine jh m ?_;refine U (iy (aj (aj ?_)));show wpAny _ _ (match Option.map (λe:Int×Value=>(e.2,(0:Int).toNat)) (pickOrder (w.params.setOrder S ep) es)[(i:Int).toNat]? with|some (x,next)=>(do setField (.ref it) 0 (rawInt (next:Int));setField (.ref it) 1 (rawInt ((i:Int)+1));ret x)|none=>(do setField (.ref it) 2 .none;raiseNew (<-newExc (.type "StopIteration") []))) _ _ s;generalize hw:pickOrder (w.params.setOrder S ep) es=pk at h2 ⊢;have YL:pk[(i:Int).toNat]?=pk.toList[i]?:=by simp
  cases d:pk.toList.drop i with
  |nil=>
   rw[d] at h2;have hn:pk[(i:Int).toNat]?=none:=by rw[YL,kC];rwa[j6] at d
   first|rw[hw,hn]|rw[hn]
   exact JZ (A:=A.in1) hh h1 λh3 hk=>stop h2 h3 hk
  |cons e r=>
   rw[d] at h2;have hn:pk[(i:Int).toNat]?=some e:=by have:=ag (·[0]?) d;rw[YL];simpa using this
   have hr:pk.toList.drop (i+1)=r:=by have:=ag List.tail d;rwa[pg,pi] at this
   first|rw[hw,hn]|rw[hn]
   exact J0 h1 λl M ha=>cL e.2 (r.map (·.2)) l (by rw[h2];rfl) M ⟨qO,J1 _ M,B,H,.inr (.inl ⟨m,i+1,ha,by rw[hw,hr]⟩)⟩
 ·refine U (wpAny_fieldsOf h1 rfl ?_);refine(?_ :wpAny _ _ (setEntries S>>=_) _ _ s);refine U (oX g rfl B ?_);refine fe (Sj _) ?_;refine(?_ :wpAny _ _ (setNext S (nW:Int).toNat (i:Int).toNat (ep:Int).toNat>>=_) _ _ s);refine U ?_;unfold setNext setsByText;refine U (i7 g rfl B ?_);dsimp only;refine U (U (iy (aj ?_)));refine(?_ :wpAny _ _ (if w.params.followText "set-order"=true then _ else _) _ _ s);refine fe m ?_;refine(?_ :wpAny _ _ (if (!t.plain&&decide (es.size>1))=true then _ else _) _ _ s);refine fe (by rw[dR (by exact(λq=>Av [_] (.c 1 (.v 0) (.n 1) (.c 1 (.a (.n 1) (.n 1)) (.v 0) .nil)) 0 tt hz q)),pq]) ?_;refine U ?_;refine(?_ :wpAny _ _ (if (!t.led&& !es.isEmpty)=true then _ else _) _ _ s);refine fe (by rw[H,m];rfl) ?_;refine aj ?_;have RX:t.place.size=es.size:=by unfold SetTable.fits at B;rw[aM] at B;simpa using B.1
  refine aj ?_;show wpAny _ _ (match (match es[SetTable.below t.place nW]?,t.place[SetTable.below t.place nW]? with|some (_,x),some j=>some (x,j+1)|_,_=>none) with|some (x,next)=>(do setField (.ref it) 0 (rawInt (next:Int));setField (.ref it) 1 (rawInt ((i:Int)+1));ret x)|none=>(do setField (.ref it) 2 .none;raiseNew (<-newExc (.type "StopIteration") []))) _ _ s;generalize SetTable.below t.place nW=k at h2 ⊢;cases d:es.toList.drop k with
  |nil=>
   rw[d] at h2;have hn:es[k]?=none:=by rw[<-sD,kC];rwa[j6] at d
   rw[hn];exact JZ (A:=A.in1) hh h1 λh3 hk=>stop h2 h3 hk
  |cons e r=>
   rw[d] at h2;have dP:k<es.toList.length:=by apply Nat.lt_of_not_le;intro q;rw[oR q] at d;cases d
   rw[gj] at dP;have UA:k=0:=by exact fC [_,_] (.c 1 (.v 0) (.n 1) (.c 1 (.a (.v 1) (.n 1)) (.v 0) .nil)) 0 (.v 1) (.n 0) tt tt hz dP
   subst UA;have D:es.size=1:=by exact Nat.le_antisymm (aQ [_] (.c 1 (.v 0) (.n 1) .nil) 0 (.v 0) (.n 1) tt hz) (aQ [_] (.c 1 (.a (.n 0) (.n 1)) (.v 0) .nil) 0 (.n 1) (.v 0) tt dP)
   have hn:es[0]?=some e:=by have:=ag (·[0]?) d;rw[<-sD];simpa using this
   have hr:r=[]:=by have:=ag List.length d;simp only[gW,gj,aJ,D] at this;exact List.length_eq_zero_iff.mp (fC [_] (.f 1 (.n 1) (.a (.v 0) (.n 1)) .nil) 0 (.v 0) (.n 0) tt tt this)
   subst hr;have hjj:∃j,t.place= #[j]:=xE (List.length_eq_one_iff.mp (by rw[gj,RX,D]:t.place.toList.length=1)) λj Y=>⟨j,by rw[<-Array.toList_inj,Y]⟩;refine xE hjj λj hj=>?_;have hp0:t.place[0]?=some j:=by rw[hj];rfl
   rw[hn,hp0];refine J0 h1 λl M ha=>cL e.2 [] l (by rw[h2];rfl) M ⟨qO,J1 _ M,B,H,.inr (.inr ⟨m,hz,i+1,j+1,ha,?_⟩)⟩
   ·have hb:SetTable.below t.place (j+1)=1:=by rw[hj];simp[SetTable.below,SetTable.below.go]
    rw[hb,oR (by rw[gj];exact aQ [_] (.c 1 (.v 0) (.n 1) .nil) 0 (.v 0) (.n 1) tt hz)];rfl
end
section
theorem Dy(es:Array (Int×Value))(p:List Nat)(h:∀j∈p,j<es.size):∃zs,aE (λ(j:Nat)(z:Value)=>∃e,es[j]?=some e/\e.2=z) p zs/\zs=p.map λj=>(es.getD j (0,.none)).2:=by
 induction p with
 |nil=>exact⟨[],.nil,rfl⟩
 |cons j r T=>have hj:=h j (.head _);exact bx (T λi hi=>h i (.tail _ hi)) λzs h1 h2=>⟨es[j].2::zs,.cons ⟨es[j],Array.getElem?_eq_getElem hj,rfl⟩ h1,by rw[cy,h2];simp[Array.getD,hj]⟩
theorem Hx(es:Array (Int×Value)):(List.range es.size).map (λj=>(es.getD j (0,.none)).2)=es.toList.map (·.2):=by
 apply List.ext_getElem
 ·simp
 ·intro i h1 h2;simp at h1;simp[Array.getD,h1]
theorem Sk(p:Array Nat):SetTable.below p 0=0:=by
 have:∀n lo hi,lo<=hi->SetTable.below.go p 0 n lo hi=lo:=by
  intro n;induction n with
  |zero=>intro lo hi _;rfl
  |succ n T=>
   intro lo hi gI;unfold SetTable.below.go;split
   ·dsimp only;rw[aH (Nat.not_lt_zero _)];exact T _ _ (by omega)
   ·rfl
 exact this _ _ _ (aW _)
theorem J2{Q:Value->Shared->Prop}(g:s.heap.get? S=some (iH es ep t))(B:t.fits es.size=true)(H:t.led= !(w.params.followText "set-order"))(i:es.size=0\/t.plain=false)(hz:es.size<=100)(h:∀it h' d zs,NY w h' it S es ep t zs->zs.Perm (es.toList.map (·.2))->(∀b o,s.heap.get? b=some o->h'.get? b=some o)->s.heap.get? it=none->s.heap.objs.size<=it->Q (.ref it) {s with heap:=h',drawn:=d}):wpAny (model prog w) A (pyIter (.ref S)) Q E s:=by
 have y:s.TypeIs (.ref S) "set":=⟨_,g,rfl⟩;have r:=bT g;refine wpAny_pyIter_slot y PySem.F.slot_set_iter (i8 PySem.F.slot_set_iter y v7 ?_ (PySem.F.args_set_iter_1 _));unfold Builtin.«frozenset.__iter__»;refine(?_ :wpAny _ A.in1 (Builtin.Frozenset.sizeOf S>>=_) _ _ s);refine U ?_;unfold Builtin.Frozenset.sizeOf;refine U (oX g rfl B (aj ?_));refine U ?_;unfold setDrawn setsByText;refine U (i7 g rfl B ?_);dsimp only;refine U (U (iy (aj (aj ?_))));refine(?_ :wpAny _ _ (if (!(w.params.followText "set-order")&&(!t.plain&&decide (es.size>1)))=true then _ else _) _ _ _);cases hd:(!(w.params.followText "set-order")&&(!t.plain&&decide (es.size>1))) with
 |true=>
  refine jh rfl ?_;refine U (uz es.size (List.range es.size) s _ (j_) λp d hp=>?_);have aat:∀j∈p,j<es.size:=λj hj=>List.mem_range.mp (hp.mem_iff.mp hj);have i:p.length=es.size:=by rw[hp.length_eq,j_]
  refine bx (Dy es p aat) λzs h1 h2=>?_;have vZ:zs.Perm (es.toList.map (·.2)):=by rw[h2,<-Hx];exact hp.map _
  refine U (wpAny_newTuple ?_ (by rw[ax,i,dj];exact aQ [_] (.c 1 (.v 0) (.n 100) .nil) 0 (.v 0) (.n 16777216) tt hz));refine U (wpAny_setEpoch_of (bf _ g) rfl B ?_);refine U (gP ?_);have hk:∀b o,s.heap.get? b=some o->((s.heap.push (aG "tuple" (p.map λ(j:Nat)=>rawInt ((j:Nat):Int)) 0)).push (fk (.ref s.heap.objs.size) 0 (.ref S) es.size ep)).get? b=some o:=λb o e=>bf _ (bf _ e);have D:(s.heap.push (aG "tuple" (p.map λ(j:Nat)=>rawInt ((j:Nat):Int)) 0)).objs.size=s.heap.objs.size+1:=kl ..;have K:((s.heap.push (aG "tuple" (p.map λ(j:Nat)=>rawInt ((j:Nat):Int)) 0)).push (fk (.ref s.heap.objs.size) 0 (.ref S) es.size ep)).get? (s.heap.objs.size+1)=some (fk (.ref s.heap.objs.size) 0 (.ref S) es.size ep):=by rw[<-D];exact cu _ rfl
  refine aj ⟨_,rfl,"set_iterator",_,⟨_,cu _ rfl,rfl⟩,iI.lookup,?_⟩;refine(?_ :Q (.ref (s.heap.push (aG "tuple" (p.map λ(j:Nat)=>rawInt ((j:Nat):Int)) 0)).objs.size) {s with heap:=((s.heap.push (aG "tuple" (p.map λ(j:Nat)=>rawInt ((j:Nat):Int)) 0)).push (fk (.ref s.heap.objs.size) 0 (.ref S) es.size ep)),drawn:=d});rw[D];refine h _ _ d zs ⟨dJ (fJ r),hk _ _ g,B,H,.inl ⟨s.heap.objs.size,p,0,0,K,bf _ (cu _ rfl),bL (eA _),h1⟩⟩ vZ hk (gO (eC _)) (eC _)
 |false=>
  refine fe rfl ?_;refine U (aj ?_);refine U (wpAny_setEpoch_of g rfl B ?_);refine U (gP ?_);have hk:∀b o,s.heap.get? b=some o->(s.heap.push (fk (rawInt 0) 0 (.ref S) es.size ep)).get? b=some o:=λb o e=>bf _ e;have K:(s.heap.push (fk (rawInt 0) 0 (.ref S) es.size ep)).get? s.heap.objs.size=some (fk (rawInt 0) 0 (.ref S) es.size ep):=cu _ rfl;refine aj ⟨_,rfl,"set_iterator",_,⟨_,cu _ rfl,rfl⟩,iI.lookup,?_⟩;refine(?_ :Q (.ref s.heap.objs.size) {s with heap:=s.heap.push (fk (rawInt 0) 0 (.ref S) es.size ep)});cases m:w.params.followText "set-order" with
  |true=>exact h _ _ s.drawn ((pickOrder (w.params.setOrder S ep) es).toList.map (·.2)) ⟨dJ r,hk _ _ g,B,H,.inr (.inl ⟨m,0,K,rfl⟩)⟩ ((v6 _ _).map _) hk (c6 _) (aF _)
  |false=>
   rw[m] at hd;have hz1:es.size<=1:=by refine i.elim (λh0=>by rw[h0];exact aW 1) λh0=>?_;rw[h0] at hd;simpa using hd
   exact h _ _ s.drawn (es.toList.map (·.2)) ⟨dJ r,hk _ _ g,B,H,.inr (.inr ⟨m,hz1,0,0,K,by rw[Sk];rfl⟩)⟩ (.refl _) hk (c6 _) (aF _)
theorem Dz{b:Addr}{o o':Obj}{T T':String}(e:h.get? a=some o)(e':h.get? b=some o')(c:o.cls= .type T)(c':o'.cls= .type T')(ne:T≠T'):a≠b:=λq=>
 ne (kj (c.symm.trans ((ag Obj.cls (aq (e.symm.trans ((ag h.get? q).trans e')))).trans c')))
theorem NY.upd{h':Heap}{L0:Addr}{c:Nat}(I:NY w h it S es ep t zs)(Z:h.get? L0=some (aG "list" us c))(k:∀b o,b≠L0->h.get? b=some o->h'.get? b=some o):NY w h' it S es ep t zs:=have W:∀{b o T},h.get? b=some o->o.cls= .type T->T≠"list"->h'.get? b=some o:=λe c ne=>k _ _ (Dz e Z c rfl ne) e
 ⟨I.ne,W I.set rfl (by decide),I.fits,I.led,I.at'.imp (λx=>gZ x λT p i n h1 h2 h3 h4=>⟨T,p,i,n,W h1 rfl (by decide),W h2 rfl (by decide),h3,h4⟩) λx=>x.imp (λx=>jB x λm i h1 h2=>⟨m,i,W h1 rfl (by decide),h2⟩) λx=>yd x λm hz i nW h1 h2=>⟨m,hz,i,nW,W h1 rfl (by decide),h2⟩⟩
theorem NY.isIt(I:NY w h it S es ep t zs):∃o,h.get? it=some o/\o.cls= .type "set_iterator":=I.at'.elim (λh=>gZ h λ_ _ _ _ h1 _ _ _=>⟨_,h1,rfl⟩) λh=>h.elim (λh=>jB h λ_ _ h1 _=>⟨_,h1,rfl⟩) λh=>yd h λ_ _ _ _ h1 _=>⟨_,h1,rfl⟩
theorem DA{L0:Addr}{res:Value}(hh:A.handled=none):∀(zs:List Value)(s:Shared)(bV:List Value)(c:Nat),NY w s.heap it S es ep t zs->s.heap.get? L0=some (aG "list" bV c)->bV.length+zs.length<=1000-> (∀h' c',(∀b o,b≠L0->b≠it->s.heap.get? b=some o->h'.get? b=some o)->h'.get? L0=some (aG "list" (bV++zs) c')->R (.ok (.ret res)) {s with heap:=h'})-> codeAny (model prog w) A (.builtin "list.extend.loop" ⟨[.ref L0,.ref it,res],[]⟩) R s:=by
 intro zs;induction zs with
 |nil=>intro s bV c I Z hz hR;refine bx (I.isIt) λoi VZ hci=>?_;refine fg PySem.F.entry_extend_loop ?_;rw[iq lS _];refine(?_ :wpAny _ A.in1 (pyNext (.ref it)>>=_) _ _ _);refine U (Bx hh I (λz r h' e=>nomatch e) λ_ h' hk=>?_);refine aj (hR h' c (λb o _ hb e=>hk b o hb e) ?_);rw[aS];exact hk _ _ (bM (Dz VZ Z hci rfl (by decide))) Z
 |cons z r T=>
  intro s bV c I Z hz hR;refine bx (I.isIt) λoi VZ hci=>?_;have hLi:=bM (Dz VZ Z hci rfl (by decide));refine fg PySem.F.entry_extend_loop ?_;rw[iq lS _];refine(?_ :wpAny _ A.in1 (pyNext (.ref it)>>=_) _ _ _);rw[aJ] at hz;refine U (Bx hh I (λg r' h' e M I'=>?_) λe=>nomatch e);rw[<-(hZ e).1];rw[<-(hZ e).2] at I';have j:=(M.2 L0 hLi).trans Z;refine(?_ :wpAny _ A.in1 (updateSeq L0 (·.push z)>>=_) _ _ _);refine U ?_;have Sc:=(ef (Obj.mapSeq (·.push z)) j (by rw[rn];rfl)).trans (ag some (rn bV z c));have hup:∀b o,b≠L0->h'.get? b=some o->(h'.update L0 (Obj.mapSeq (·.push z))).get? b=some o:=λb o hb e=>(lT _ _ (bM hb)).trans e;refine o8 j rfl (aj ⟨gX lS _,T {s with heap:=h'.update L0 (Obj.mapSeq (·.push z))} (bV++[z]) (c+1) (I'.upd j hup) Sc (by simp;exact aQ [_,_] (.c 1 (.a (.v 0) (.a (.v 1) (.n 1))) (.n 1000) .nil) 0 (.a (.a (.v 0) (.n 1)) (.v 1)) (.n 1000) tt hz) λl c' hk QM=>?_⟩)
   (by rw[aZ,dj];exact aQ [_,_] (.c 1 (.a (.v 0) (.a (.v 1) (.n 1))) (.n 1000) .nil) 0 (.v 0) (.n 16777216) tt hz) (by rw[pd,aZ,dj];exact aQ [_,_] (.c 1 (.a (.v 0) (.a (.v 1) (.n 1))) (.n 1000) .nil) 0 (.a (.v 0) (.n 1)) (.a (.n 16777216) (.n 1)) tt hz)
  refine hR l c' (λb o h1 h2 e=>hk b o h1 h2 (hup b o h1 ((M.2 b h2).trans e))) ?_;rw[QM,au];rfl
theorem NZ:typeLookup (.type "set") "__len__"=Pure.pure (some (.builtin "set.__len__")):=PySem.F.slot_set_len.lookup
theorem J3(y:s.TypeIs (.ref S) "set"){Q:Bool->Shared->Prop}(h:Q false s):wpAny (model prog w) A (Builtin.List.listLengthHint (.ref S)) Q E s:=by
 unfold Builtin.List.listLengthHint;refine U (wpAny_specialOf y NZ ?_);generalize d8:("set.__len__":String)=id0
 wp_delta
 rw[show splitId id0=some ("set","__len__") from by subst d8;decide+kernel];subst d8;refine U (ka (b:=true) y (by rw[ki];kernel_rfl) ?_);refine wpAny_ite_split (λhab=>absurd hab (by decide)) (λ_=>?_);refine wpAny_ite_split (λ_=>?_) (λhab=>absurd (by decide+kernel) hab);refine U (wpAny_typeOf y ?_);exact aj h
def aaw(prog:Program)(w:World)(A:Around)(Q:List Value->Shared->Prop)(E:Value->Shared->Prop):Result->Shared->Prop:=λr s'=>match r with
 | .ok (.ret v)=>wpAny (model prog w) A (match v with| .ref a=>(do match (<-load a).data with| .seq xs _=>Pure.pure xs.toList|_=>unsupported "internal:collect")|_=>unsupported "internal:collect") Q E s'
 | .ok _=>False
 | .error e=>E e s'
theorem By{Q:List Value->Shared->Prop}(hh:A.handled=none)(g:s.heap.get? S=some (iH es ep t))(B:t.fits es.size=true)(H:t.led= !(w.params.followText "set-order"))(i:es.size=0\/t.plain=false)(hz:es.size<=100)(h:∀h' d zs,zs.Perm (es.toList.map (·.2))->(∀b o,s.heap.get? b=some o->h'.get? b=some o)->Q zs {s with heap:=h',drawn:=d}):wpAny (model prog w) A (collect (.ref S)) Q E s:=by
 have r:=bT g;unfold collect;refine U (wpAny_runValue (fg entry_proto_collect' ?_));rw[iq PySem.F.plain_proto_collect _];refine(?_ :wpAny _ A.in1 (newList []>>=λl=>again (.builtin "list.__iadd__" ⟨[l,.ref S],[]⟩)) _ _ s);refine U (gP ?_);refine aj ⟨gX PySem.F.plain_list_iadd _,fg entry_list_iadd' ?_⟩;rw[iq PySem.F.plain_list_iadd _];have YQ:(s.heap.push (aG "list" [] 0)).get? s.heap.objs.size=some (aG "list" [] 0):=cu _ rfl;have Fe:(s.heap.push (aG "list" [] 0)).get? S=some (iH es ep t):=bf _ g;refine(?_ :wpAny _ A.in1 (Builtin.List.listExtendWith (.ref s.heap.objs.size) (.ref S) (.ref s.heap.objs.size)) _ _ {s with heap:=s.heap.push (aG "list" [] 0)});unfold Builtin.List.listExtendWith;refine U (wpAny_typeOf ⟨_,Fe,rfl⟩ ?_);have h1:Builtin.List.listSameRef (.ref s.heap.objs.size) (.ref S)=false:=by simp[Builtin.List.listSameRef];exact dJ r
 have h2:(Value.type "set"==Value.type "list")=false:=by decide
 have h3:(Value.type "set"==Value.type "tuple")=false:=by decide
 simp only[h1,h2,h3,Bool.or_false,jy,gC];refine U (J2 Fe B H i hz λit h' d zs I hp hk A8 k=>?_);have acK:=Fe;refine U (bq (J3 ⟨_,hk _ _ Fe,rfl⟩ ?_));have fin:∀(h1:Heap)(c:Nat),(∀b o,b≠s.heap.objs.size->h'.get? b=some o->h1.get? b=some o)->h1.get? s.heap.objs.size=some (aG "list" [] c)->
  codeAny (model prog w) A (.builtin "list.extend.loop" ⟨[.ref s.heap.objs.size,.ref it,.ref s.heap.objs.size],[]⟩) (aaw prog w A Q E) {s with heap:=h1,drawn:=d}:=by
  intro h1 c f hc;refine DA hh zs {s with heap:=h1,drawn:=d} [] c (I.upd (hk _ _ YQ) f) hc (by rw[hp.length_eq];simp;exact aQ [_] (.c 1 (.v 0) (.n 100) .nil) 0 (.v 0) (.n 1000) tt hz) λh2 c2 j Sc=>?_;dsimp only;refine U (kr Sc (aj ?_));refine(?_ :Q (([]++zs).toArray.toList) {s with heap:=h2,drawn:=d});refine h h2 d zs hp λb o e=>?_;have hb:=bT e;have hbi:b≠it:=λq=>by rw[<-q] at k;rw[kl] at k;exact absurd (dA (fJ hb) k) (jd _)
  exact j b o (bL hb) hbi (f b o (bL hb) (hk b o (bf _ e)))
 refine wpAny_ite_split (λ_=>?_) (λ_=>aj ⟨gX lS _,fin h' 0 (λb o _ e=>e) (hk _ _ YQ)⟩);refine U (eQ ?_);refine U ?_;refine(?_ :wpAny _ _ (updateSeq s.heap.objs.size (·.push .none)>>=λ_=>updateSeq s.heap.objs.size (·.pop)) _ _ _);refine U (o8 (hk _ _ YQ) rfl ?_);have a:=ef (Obj.mapSeq (·.push Value.none)) (hk _ _ YQ) rfl;refine o8 a rfl ?_;have vj:=ef (Obj.mapSeq (·.pop)) a rfl;refine aj ⟨gX lS _,fin _ _ (λb o hb e=>?_) vj⟩;exact(lT _ _ (bM hb)).trans ((lT _ _ (bM hb)).trans e)
end
section
theorem cK.in2(h:cK A (k+1)):cK A.in1.in1 k:=⟨by have:=h.depth;show A.depth+2*k<_;exact aQ [_,_,_] (.c 1 (.a (.a (.v 0) (.m 2 (.a (.v 1) (.n 1)))) (.n 1)) (.v 2) .nil) 0 (.a (.a (.v 0) (.m 2 (.v 1))) (.n 1)) (.v 2) tt this,by have:=h.units;show A.units+1+1+16*k+80<_;exact aQ [_,_,_] (.c 1 (.a (.a (.a (.v 0) (.m 16 (.a (.v 1) (.n 1)))) (.n 80)) (.n 1)) (.v 2) .nil) 0 (.a (.a (.a (.a (.a (.v 0) (.n 1)) (.n 1)) (.m 16 (.v 1))) (.n 80)) (.n 1)) (.v 2) tt this,h.handled⟩
theorem bU.own1{σ:St}(R:bU g F d wd σ s){o:O}{ob:Obj}(H:jE g d wd [a])(ha:s.heap.get? a=some ob)(ho:OR g (wd.push a) o ob)(M:a≠sysModules):bU g F d (wd.push a) {σ with mem:=σ.mem++[o]} s:=by have hw:=Wd.aT wd a;exact bx (R.loc) λm hn hm=>⟨R.mem.own1 ha ho (H.fz a (.head _)) (λl Z=>H.own a (.head _) l Z) M,⟨m,hn,hm.mono hw⟩,R.iA.mono hw,R.qf,λl Z=>Wd.eE Z (λh1 e1=>e1▸R.kZ l h1) λ_ e1 q=>H.L (by rw[<-q,e1];exact .head _),R.gens,R.os⟩
theorem Hy{es:List (Int×Value)}{xs:List Str}(h:∃I:List Str,I.Perm xs/\aE (λ(x:Str)(e:Int×Value)=>e.1=hashStr w x/\∃tk,e.2= .str x tk) I es)(hz:zs.Perm (es.map (·.2))):∃I:List Str,I.Perm xs/\aE Dx I zs:=by
 refine bx h λI h1 h2=>?_;have h3:aE Dx I (es.map (·.2)):=by
  clear h h1 hz;induction h2 with
  |nil=>exact .nil
  |cons a b T=>exact .cons a.2 T
 refine bx (aE.perm hz h3) λl' h4 h5=>?_;exact⟨l',h4.trans h1,h5⟩
theorem Ff{I:List Str}(h:aE Dx I zs):aE (VR wd) (I.map .str) zs:=by
 induction h with
 |nil=>exact .nil
 |cons h _ T=>exact .cons h T
noncomputable def PN(o:Option O):Option (List Str):=o.bind O.ss
noncomputable def J4(mem:List O)(v:V):Option (List Str):=v.lo.bind λl=>PN mem[l]?
def DB(W:V->List V->ad V)(a t:V):ad V:=λσ Q=>aA (J4 σ.mem a) λxs=>aA (pO t) λ_=>gd (Nat.ble xs.length 2) (∀I:List Str,I.Perm xs->vX W t (I.map .str) [] σ λkv a9=>gd (kv.all (Bp a9.mem))
 (∀zs:List Str,zs.Perm xs->Q (.loc a9.mem.length) {a9 with mem:=a9.mem++[.list (zs.map .str)]}))
theorem xe{W:V->List V->ad V}(hc:gf g k W):v5 g (k+1) (.builtin "sorted") "key" (DB W):=by
 intro F d A af a b u v hr ha hb s wd σ Q Z R J;refine ah J λxs e1 J=>ah J λlf e2 J=>xA (aL J) λh2 C3=>aI e1 λl r e1=>Aq (R.get (e_ O.QE e1)) λdP ob ho es ep t P dL H B i=>?_;have h2:=aU h2;rw[P] at ho;have hbv:=VR.mono Z hb;have C:=(VR.ref e2 hbv).2;rw[C] at hbv ⊢;rw[(VR.ref r (VR.mono Z ha)).2];have D:es.size=xs.length:=by refine bx dL λI h3 h4=>?_;rw[<-h3.length_eq,h4.len,gj]
 refine call_function_entry_kw kind_sorted plain_sorted entry_sorted (ksk_s1 _ _) ?_;unfold Builtin.«sorted»;refine U (m:=checkCount "sorted" 1 1 _) (aj ?_);refine U (By hr.handled ho B H i (aQ [_,_] (.c 1 (.v 0) (.n 2) (.e 1 (.v 1) (.v 0) .nil)) 0 (.v 1) (.n 100) tt h2 D) λh1 M zs hp hk=>?_);refine bx (Hy dL hp) λI p1 p2=>?_;have Bj:zs.length=xs.length:=by rw[hp.length_eq,ax,gj,D]
 refine U (pt ?_ (by rw[dj];exact aQ [_,_] (.c 1 (.v 0) (.n 2) (.e 1 (.v 1) (.v 0) .nil)) 0 (.v 1) (.n 16777216) tt h2 Bj));have R1:bU g F d wd σ {s with heap:=h1,drawn:=M}:=R.keeps hk;have G:(h1.push (aG "list" zs 0)).get? h1.objs.size=some (aG "list" zs 0):=cu _ rfl;have H1:=jE.fresh R1 qo;have T:=R1.keeps (s':={s with heap:=h1.push (aG "list" zs 0),drawn:=M}) λ_ _ e=>bf _ e;have p:=R1.g7;refine U (bq (wpAny_call_entry_kw slot_list_sort ⟨_,G,rfl⟩ entry_list_sort ?_ (ksk_l1 _ _)));refine(?_ :wpAny (model g.prog g.w) A.in1.in1 (Builtin.«list.sort» ⟨[.ref h1.objs.size],[(Str.ofString "key",.ref (wd.ρ lf))]⟩) _ _ _);rw[ksk_t1];refine a_ (NO hc hr.in2 hbv (Ff p2) (.refl _) T H1 G (aQ [_,_] (.c 1 (.v 0) (.n 2) (.e 1 (.v 1) (.v 0) .nil)) 0 (.v 1) (.n 2) tt h2 Bj) (C3 I p1)) (λfin s2 x=>?_) λ_ _ x=>x;refine yg x λDs V0 V1 kv f n' x1 x2 x3 x4 x5 x6=>?_;rw[Ds];refine⟨_,rfl,aj ⟨_,rfl,?_⟩⟩;have:∃h,h.Perm xs/\aE Dx h f:=x5.elim (λq=>q▸⟨I,p1,p2⟩) λq=>q▸⟨I.reverse,(o3 I).trans p1,p2.reverse⟩;refine bx this λh q1 q2=>?_;have R3:bU g F d (V0.push h1.objs.size) {V1 with mem:=V1.mem++[.list (h.map .str)]} s2:=x2.own1 x3 x4 ⟨f,n',rfl,Ff q2⟩ p;exact az _ (.loc V1.mem.length) _ (x1.trans (Wd.aT _ _)) R3 x2.pushed (x6 h q1)
end
section
theorem bU.aay{σ:St}{s':Shared}(R:bU g F d wd σ s){l:Nat}{o':O}{IE:Obj}(Z:l<wd.n)(hk:∀b o,b≠wd.ρ l->s.heap.get? b=some o->s'.heap.get? b=some o)(K:s'.heap.get? (wd.ρ l)=some IE)(ho:OR g wd o' IE)(h1:s'.gens=s.gens:=by rfl) (h2:s'.os=s.os:=by rfl):bU g F d wd {σ with mem:=σ.mem.set l o'} s':=by
 refine bx (R.loc) λm hn hm=>?_;refine⟨⟨by rw[dS];exact R.mem.len,λa o e=>hk a o (λq=>?_) (R.mem.sQ a o e),R.mem.base,λIH o e=>?_,R.mem.low,R.mem.inj,R.mem.new,R.mem.tabs⟩,⟨m,?_,hm⟩,R.iA,R.qf,R.kZ,h1.trans R.gens,h2.trans R.os⟩
 ·rw[q,R.mem.new l Z] at e;exact nS e
 ·by_cases Y:IH=l
  ·rw[Y,fG (by rw[<-R.mem.len];exact Z)] at e;rw[Y,<-aq e];exact⟨IE,K,ho⟩
  ·rw[c7 (bM Y)] at e;refine jB (R.get e) λh1 ob h3 h4=>?_;exact⟨ob,hk _ _ (λq=>Y (R.mem.inj _ _ h1 Z q)) h3,h4⟩
 ·refine jf hn λo es ep h1 h2 h3=>?_;exact⟨o,es,ep,hk _ _ (bM (R.kZ l Z)) h1,h2,h3⟩
def N0(vs:List V):ad V:=I8 vs λa b c σ Q=>aA a.iv λa=>aA b.iv λb=>aA c.iv λc=>gd (!(c==0)&& !(Builtin.divisionGoesByPylong (b-a) c)) (jU (.rng a b c) σ Q)
theorem DC:cz g k (.type "range") N0:=by intro F d A af vs us hr D s wd σ Q Z R J;refine Vf D J λa b c x y z e ha hb hc J=>ah J λi ea J=>ah J λb' eb J=>ah J λc' ec J=>xA (aL J) λh1 J=>xA ((aM _ _).mp h1) λh1 h2=>xE (VR.int ea ha) λt ex=>xE (VR.int eb hb) λu ey=>xE (VR.int ec hc) λv ez=>?_;rw[e,ex,ey,ez];refine call_range_3 (by simpa using h1) ?_ (.inl (by simpa using h2));exact az _ (.loc σ.mem.length) _ (Wd.aT _ _) (R.cE (o:=.rng _ _ _) ⟨t,u,v,rfl⟩) R.pushed J
noncomputable def mY(a c:Int)(n:Nat):List V:=(List.range n).map λ(i:Nat)=>.int (a+((i:Nat):Int)*c)
def J5(vs:List V):ad V:=kM vs λv σ Q=>aA (pO v) λl=>aA (AO σ.mem[l]?) λp=>
 gd (Builtin.Range.small p.1 p.2.1 p.2.2&&decide (0<=Builtin.Range.rangeSize p.1 p.2.1 p.2.2)&&decide (Builtin.Range.rangeSize p.1 p.2.1 p.2.2<=1000)) (jU (.list (mY p.1 p.2.2 (Builtin.Range.rangeSize p.1 p.2.1 p.2.2).toNat)) σ Q)
theorem J6{w:Wd}(n:Nat):∀(us:List Value)(j:Nat),us.length=n->(∀(i:Nat)(v:Value),us[i]?=some v->VR w (f (j+i)) v)->aE (VR w) ((List.range n).map λi=>f (j+i)) us:=by
 induction n with
 |zero=>intro us j Z _;rw[List.length_eq_zero_iff.mp Z];exact .nil
 |succ n T=>
  intro us j Z h;cases us with
  |nil=>exact nomatch Z
  |cons u r=>rw[List.range_succ_eq_map,cy,ia];have:=T r (j+1) (fV Z) λi v e=>sx j i▸h (i+1) v e;refine .cons (h 0 u rfl) ((ir λi _=>?_)▸this);exact ag f (sx j i)
theorem xM{w:Wd}{n:Nat}(Z:us.length=n)(h:∀(i:Nat)(v:Value),us[i]?=some v->VR w (f i) v):aE (VR w) ((List.range n).map f) us:=by have:=J6 n us 0 Z λi v e=>(eB i).symm▸h i v e;rwa[ir λi _=>ag f (eB i)] at this
theorem Bz:cz g k (.type "list") J5:=by
 intro F d A af vs us hr D s wd σ Q Z R J;refine q_ D J λv u e hv J=>ah J λl r J=>ah J λp ep J=>xA (aL J) λh1 J=>xA ((aM _ _).mp h1) λh1 h3=>xA ((aM _ _).mp h1) λh1 h2=>ye (R.get (e_ O.CB ep)) λ_ ob Y t u' f P=>?_;have h2:=iu h2;have h3:=iu h3;rw[P] at Y;rw[e,(VR.ref r (VR.mono Z hv)).2];refine call_list_range hr.handled Y h1 (Int.toNat_of_nonneg h2).symm (by omega) λh' tk V5 c' hk G hI=>?_;have hvs:aE (VR (wd.push s.heap.objs.size)) (mY p.1 p.2.2 (Builtin.Range.rangeSize p.1 p.2.1 p.2.2).toNat) V5.toList:=
  xM ((gj).trans hI.1) λi v e=>hI.2 i v (by rw[<-sD];exact e)
 have R':=R.alloc (o:=.list (mY p.1 p.2.2 (Builtin.Range.rangeSize p.1 p.2.1 p.2.2).toNat)) (s':={s with heap:=h',toks:=tk}) hk (c6 _) G ⟨V5.toList,c',by simp[aG],hvs⟩ R.g7;exact az _ (.loc σ.mem.length) _ (Wd.aT _ _) R' R.pushed J
theorem v8{n:Nat}{P:PySem.Fin->Shared->Prop}(ho:s.heap.get? a=some (aG "list" us n))(h2:us.length<2)(h:∀h' n',(∀b o,b≠a->s.heap.get? b=some o->h'.get? b=some o)->h'.get? a=some (aG "list" us n')->P (.done (.ret .none)) {s with heap:=h'}):wpAny (model prog w) A (Builtin.«list.sort» ⟨[.ref a],[]⟩) P E s:=by
 rw[list_sort_plain];have ha:=bT ho;have hz:us.toArray.size<=sizeLine:=by rw[aZ,dj];exact aQ [_] (.c 1 (.a (.v 0) (.n 1)) (.n 2) .nil) 0 (.v 0) (.n 16777216) tt h2
 refine U (listItems_at ho rfl ?_);refine U (jb ho rfl ?_ hz (aW _));have VP:=get?_update_seq ho (λ_=>#[]);refine U (seqEpoch_at VP rfl ?_);refine U (wpAny_newTuple ?_ (by rw[dj];show us.toArray.toList.length<=_;rw[List.toList_toArray];exact aQ [_] (.c 1 (.a (.v 0) (.n 1)) (.n 2) .nil) 0 (.v 0) (.n 16777216) tt h2));refine U (pt ?_ (aW _));refine bq ?_;have hk:∀b o,b≠a->s.heap.get? b=some o->(((s.heap.update a (Obj.mapSeq λ_=>#[])).push (aG "tuple" us 0)).push (aG "list" [] 0)).get? b=some o:=λb o hb e=>
  bf _ (bf _ ((lT _ _ (bM hb)).trans e))
 have YR:(((s.heap.update a (Obj.mapSeq λ_=>#[])).push (aG "tuple" us 0)).push (aG "list" [] 0)).get? a=some (aG "list" [] _):=bf _ (bf _ VP);have H:∃h6,h6=((s.heap.update a (Obj.mapSeq λ_=>#[])).push (aG "tuple" us 0)).push (aG "list" [] 0):=⟨_,rfl⟩;refine xE H λh6 L=>?_;rw[<-L] at hk YR;refine(?_ :wpAny (model prog w) A _ P E {s with heap:=((s.heap.update a (Obj.mapSeq λ_=>#[])).push (aG "tuple" us 0)).push (aG "list" [] 0)});rw[<-L];dsimp only;have D:us.toArray.size<2:=by rw[aZ];exact h2
 rw[a6 D,a6 D];refine U (aj ?_);rw[StateT.run_pure];refine U (aj ?_);dsimp only;refine U (seqEpoch_at YR rfl ?_);have hm:(arrOf (SortSt.mk' general' (us.toArray.zip us.toArray) #[] 7 none)).map (·.2)=us.toArray:=by refine(?_ :(us.toArray.zip us.toArray).map (·.2)=us.toArray);apply Array.toList_inj.mp;rw[Array.toList_map,Array.toList_zip,List.map_snd_zip];simp
 rw[hm];refine U (jb YR rfl ?_ (aW _) (iw hz));simp only[bne_self_eq_false,jy,gC];refine aj (h _ _ (λb o hb e=>(lT _ _ (bM hb)).trans (hk b o hb e)) (get?_update_seq YR (λ_=>us.toArray)))
def Sl(vs:List V):ad V:=kM vs λa σ Q=>aA (dC σ.mem a) λp=>gd (Nat.blt p.2.length 2) (Q .none σ)
theorem Hz:cz g k (.builtin "list.sort") Sl:=by intro F d A af vs us hr D s wd σ Q Z R J;refine q_ D J λa u e ha J=>ah J λp e1 J=>xA (aL J) λh1 C3=>aI e1 λl r e1=>aI e1 λxs ex e1=>R.lst ex λI n dP ho dL=>?_;rw[<-aq e1] at h1;rw[e,(VR.ref r (VR.mono Z ha)).2];refine i8 slot_list_sort ⟨_,ho,rfl⟩ entry_list_sort (v8 ho (by rw[<-dL.len];exact aU h1) λh' n' hk lj=>?_) (by unfold argsOk;kernel_rfl);have R':bU g F d wd {σ with mem:=σ.mem.set l (.list xs)} {s with heap:=h'}:=R.aay dP hk lj ⟨I,n',rfl,dL⟩;rw[yJ (e_ O.va ex)] at R';exact⟨_,rfl,wd,.none,σ,.refl _,R',rfl,C3⟩
end
end
section
variable {C a f:Addr}{d:hJ}{F:df}{g:G}{ds:List DictEntry}{fY:List Nat}{args es ifs ts:List PySem.Expr}{b:List Stmt}{cells gs names ns xs:List Str}{ck:NameKind}{k nn:Nat}{op:Operator}{P:Params}{ap p uq:Pos}{e pH iter l o r t target sO value:PySem.Expr}{wa:ad (List V)}{Wt:ad Bool}{Wb:ad Fl}{W We Wi Wo Wv wb:ad V}{s:Shared}{x y:Str}{i:String}{As:V->ad Unit}{v:Value}
noncomputable def bR(K:Frag)(f:Addr):FuncData:=match K.lookup f with
 |some ⟨_,_,.func fd,_⟩=>fd
 |_=>default
noncomputable def bh(K:Frag)(f:Addr):List Stmt:=match (bR K f).body with
 | .stmts b=>b
 |_=>[]
noncomputable def fc(K:Frag)(f:Addr)(names cells:List Str):df:={qual:=(bR K f).qualname++".<locals>.",cd:=(bR K f).code,scope:=(bR K f).scope,names:=names,cells:=cells}
noncomputable def mZ:List Str->Bool
 | []=>true
 |x::r=>!(dN x r)&&mZ r
theorem mw(h:mZ xs=true):xs.Nodup:=by
 induction xs with
 |nil=>exact List.nodup_nil
 |cons x r T=>exact xA ((aM _ _).mp h) λh1 h2=>List.nodup_cons.mpr ⟨v4 (by simpa using h1),T h2⟩
noncomputable def v9(F:df)(gs:List Str)(ck:NameKind):Bool:=decide (F.scope.kind= .function)&&mZ F.names&&mZ F.cells&&
 F.names.all (λx=>decide (F.scope.names.lookup x=some .local)&& !(d4 x "__debug__"))&&
 gs.all (λx=>decide (F.scope.names.lookup x=some .globalImplicit)&& !(d4 x "__debug__"))&&
 F.cells.all (λx=>decide (F.scope.names.lookup x=some ck)&& !(d4 x "__debug__")&& !(d4 x "__classdict__"))
structure cc(F:df)(gs:List Str)(ck:NameKind):Prop where
 kind:F.scope.kind= .function
 nd:F.names.Nodup
 ndc:F.cells.Nodup
 loc:∀{x},x∈F.names->F.scope.names.lookup x=some .local/\(x==("__debug__":Str))=false
 glob:∀{x},x∈gs->F.scope.names.lookup x=some .globalImplicit/\(x==("__debug__":Str))=false
 cell:∀{x},x∈F.cells->F.scope.names.lookup x=some ck/\(x==("__debug__":Str))=false/\(x==("__classdict__":Str))=false
theorem ip(h:v9 F gs ck=true):cc F gs ck:=by
 unfold v9 at h;simp only[aM,decide_eq_true_eq,i_,gS] at h;refine xA h λh h6=>xA h λh h5=>xA h λh h4=>xA h λh h3=>xA h λh1 h2=>⟨h1,mw h2,mw h3,λB=>?_,λB=>?_,λB=>?_⟩
 ·rw[jW];exact h4 _ B
 ·rw[jW];exact h5 _ B
 ·rw[jW,jW];exact⟨(h6 _ B).1.1,(h6 _ B).1.2,(h6 _ B).2⟩
noncomputable def V6(i:String)(v:Value):Bool:=match v with
 | .builtin a=>a==i
 |_=>false
theorem J7(h:V6 i v=true):v= .builtin i:=by cases v<;>first|exact nB h|exact ag _ (ib h)
noncomputable def isF(x:Option (Option Value))(i:String):Bool:=x.any λo=>o.any (V6 i)
noncomputable def Sm(x:Option (Option Value)):Bool:=x.any Option.isNone
theorem Fg{x:Option (Option Value)}(h:isF x i=true):x=some (some (.builtin i)):=bx (fj h) λo e h=>bx (fj h) λv e2 h=>by rw[e,e2,J7 h]
theorem BA{x:Option (Option Value)}(h:Sm x=true):x=some none:=bx (fj h) λo e h=>by rw[e,Option.isNone_iff_eq_none.mp h]
noncomputable def J8(K:Frag)(C:Addr)(ns:List Str):Bool:=isF (findIn K (.ref C) "__getattribute__") "object.__getattribute__"&&Sm (findIn K (.ref C) "__getattr__")&&isF (findIn K (.ref C) "__setattr__") "object.__setattr__"&&plainOver K C&&hasDictIn K C&&ns.all λn=>Sm (findIn K (.ref C) n)
structure v_(K:Frag)(C:Addr)(ns:List Str):Prop where
 cls:sU K C
 name:∀{n},n∈ns->NameK K C n
theorem PO{K:Frag}(h:J8 K C ns=true):v_ K C ns:=by unfold J8 at h;simp only[aM,i_] at h;exact xA h λh h6=>xA h λh h5=>xA h λh h4=>xA h λh h3=>xA h λh1 h2=>⟨⟨Fg h1,BA h2,Fg h3,h4,h5⟩,λhn=>⟨none,BA (h6 _ hn),λf e=>nS e⟩⟩
structure NE(g:G)(F:df)(k:Nat)(e:PySem.Expr)(W:ad V):Prop where
 run:be g F k e W
structure NT(g:G)(F:df)(k:Nat)(e:PySem.Expr)(W:ad Bool):Prop where
 run:qV g F k e W
structure NS(g:G)(F:df)(k:Nat)(st:Stmt)(W:ad Fl):Prop where
 run:iW g F k st W
structure NB(g:G)(F:df)(k:Nat)(b:List Stmt)(W:ad Fl):Prop where
 run:k0 g F k b W
structure NL(g:G)(F:df)(k:Nat)(es:List PySem.Expr)(W:ad (List V)):Prop where
 run:sR g F k es W
structure NA(g:G)(F:df)(k:Nat)(t:PySem.Expr)(W:V->ad Unit):Prop where
 run:q9 g F k t W
structure V7(g:G)(F:df)(k:Nat)(ts:List PySem.Expr)(W:List V->ad Unit):Prop where
 run:tW g F k ts W
structure NP(g:G)(F:df)(k:Nat)(e:Option PySem.Expr)(W:ad V):Prop where
 run:Ja g F k e W
structure NJ(g:G)(F:df)(k:Nat)(es:List PySem.Expr)(W:Str->ad Str):Prop where
 run:Jo g F k es W
structure DE(g:G)(F:df)(k:Nat)(op:BoolOp)(es:List PySem.Expr)(W:ad Bool):Prop where
 run:nN g F k op es W
structure HA(g:G)(F:df)(k:Nat)(es:List PySem.Expr)(W:ad Bool):Prop where
 run:lJ g F k es W
structure NAA(g:G)(F:df)(k:Nat)(ts:List PySem.Expr)(W:V->ad Unit):Prop where
 run:E1 g F k ts W
structure V8(g:G)(F:df)(k:Nat)(pos:Pos)(ps:List (PySem.Expr×PySem.Expr))(W:ad (List (Str×V))):Prop where
 run:Be g F k pos ps W
section
variable {α β γ:Type}
def PQ(f:α->ad β)(Q:β->St->Prop)(a:α)(σ:St):Prop:=f a σ Q
def ao(W:ad α)(f:α->ad β):ad β:=λσ Q=>W σ (PQ f Q)
def c8(b:β):ad β:=λσ Q=>Q b σ
def Sn(W W':ad β)(b:Bool):ad β:=λσ Q=>br b (W σ Q) (W' σ Q)
def YS(c:St->Bool)(W:ad β):ad β:=λσ Q=>gd (c σ) (W σ Q)
def V9(b:Bool):ad V:=λσ Q=>Q (.bool b) σ
def aaC(b:Bool):ad Bool:=λσ Q=>Q (!b) σ
def lz(_:α):ad Fl:=λσ Q=>Q .next σ
def wc(v:V):ad Fl:=λσ Q=>Q (.ret v) σ
def iY(v:V)(vs:List V):ad (List V):=λσ Q=>Q (v::vs) σ
def xN(W:List V->ad V)(v:V)(vs:List V):ad V:=λσ Q=>W (v::vs) σ Q
def t_(i:Nat)(v:V):ad Fl:=λσ Q=>Q .next (σ.nE i v)
def du(i:Nat)(v:V):ad Unit:=λσ Q=>Q () (σ.nE i v)
def p4(_:α):ad Unit:=λσ Q=>Q () σ
def w3(W:V->ad Unit)(W':List V->ad Unit)(vs:List V):ad Unit:=λσ Q=>AN vs λv r=>W v σ (tS (W' r) Q)
def we(n:Nat)(W:List V->ad Unit)(v:V):ad Unit:=λσ Q=>aA (vk σ.mem v) λxs=>gd (Nat.beq xs.length n) (W xs σ Q)
def V_(C:Addr)(n:Str)(b:V)(W:ad β):ad β:=λσ Q=>aA (d5 C σ.mem b) λp=>gd (eO n p.2).isNone (W σ Q)
def So(v:V):ad V:=λσ Q=>uo v λx=>gd (bw x.length) (Q (.str x) σ)
def UF(W':Str->ad Str)(bV:Str)(v:V):ad Str:=λσ Q=>uo v λy=>gd (bw (bV.length+y.length)) (W' (bV++y) σ Q)
def Wc(x:Str):ad V:=λσ Q=>gd (bw x.length) (Q (.str x) σ)
def J9(Wt:ad Bool)(Wb:ad Fl):ad Fl:=λσ Q=>∃n,mL Wt Wb n σ Q
def N1(a:V):ad Fl:=λσ Q=>aA (dC σ.mem a) λq=>gd (bw q.2.length) (Q .next {σ with mem:=σ.mem.set q.1 (.list [])})
def aaD(As:V->ad Unit)(Wb:ad Fl)(v:V):ad Fl:=λσ Q=>aA (pO v) λl=>∃n,gu (bj l) As Wb n 0 σ Q
def J_(As:V->ad Unit)(Wb:ad Fl)(v:V):ad Fl:=λσ Q=>aA (pO v) λl=>aA (AO σ.mem[l]?) λp=>gd (Builtin.Range.small p.1 p.2.1 p.2.2) (∃n,gu (gD p.1 p.2.1 p.2.2) As Wb n 0 σ Q)
def Wf(f:Addr)(W:List V->ad V)(As:V->ad Unit)(Wb:ad Fl)(v:V):ad Fl:=λσ Q=>aA (pO v) λl=>gd (mW σ.mem l) (∃n,vV (iG f W l) l As Wb n σ Q)
def Ka(n:Nat)(W:List V->ad Unit)(r:List V):ad Unit:=λσ Q=>gd (Nat.beq r.length n) (W r σ Q)
def Wg(As:List V->ad Unit)(Wb:ad Fl)(v:V):ad Fl:=λσ Q=>aA (pO v) λl=>∃n,gu (eY l) As Wb n 0 σ Q
end
section
theorem cV{i:Nat}(h:xs[i]?=some x):x∈xs:=eg h
theorem NB.at{K:Frag}{W:ad Fl}{s:Stmt}{r:List Stmt}(e:bh K f=s::r)(h:NB g F k (s::r) W):NB g F k (bh K f) W:=e▸h
theorem NB.conv{W W':ad Fl}(h:NB g F k b W)(J:∀σ Q,W' σ Q->W σ Q):k0 g F k b W':=λd A af hr=>bb.conv (h.run d A af hr) J
theorem ai(H:cc F gs ck)(i:Nat){pos:Pos}(B:F.names[i]?=some x):NE g F k (.Name x pos) (dY i):=⟨Zk i B H.kind (λ_=>(H.loc (cV B)).1) (H.loc (cV B)).2⟩
theorem Wj(H:cc F gs ck)(i:Nat){pos:Pos}(B:gs[i]?=some x)(e:g.mg x=some v):NE g F k (.Name x pos) (eK (.fb v)):=⟨U2 e H.kind (λ_=>(H.glob (cV B)).1) (H.glob (cV B)).2⟩
theorem Kc(H:cc F gs ck)(i:Nat){n:Int}{t:Tok}{pos:Pos}(B:gs[i]?=some x)(e:g.mg x=some (.int n t)):NE g F k (.Name x pos) (eK (.int n)):=⟨IJ e H.kind (λ_=>(H.glob (cV B)).1) (H.glob (cV B)).2⟩
theorem Sp(H:cc F gs ck)(i:Nat){pos:Pos}(B:gs[i]?=some x)(e:g.mg x=none)(hv:bootBuiltins x=some v)(hn:x≠"__name__"):NE g F k (.Name x pos) (eK (.fb v)):=⟨QN e hv hn H.kind (λ_=>(H.glob (cV B)).1) (H.glob (cV B)).2⟩
theorem dw(H:cc F gs .cell)(i:Nat){pos:Pos}(B:F.cells[i]?=some x):NE g F k (.Name x pos) (vb i):=⟨IK i B H.kind (λ_=>(H.cell (cV B)).1) (H.cell (cV B)).2.1⟩
theorem yR(H:cc F gs .free)(i:Nat){pos:Pos}(B:F.cells[i]?=some x):NE g F k (.Name x pos) (vb i):=⟨Gz i B H.kind (λ_=>(H.cell (cV B)).1) (H.cell (cV B)).2.1 (H.cell (cV B)).2.2⟩
theorem bv{i:Int}{n:Nat}{pos:Pos}:NE g F k (.Constant (.int i) n pos) (eK (.int i)):=⟨Zl⟩
theorem bz{n:Nat}{pos:Pos}:NE g F k (.Constant (.str x) n pos) (eK (.str x)):=⟨Zm⟩
theorem ik{n:Nat}{pos:Pos}:NE g F k (.Constant .none n pos) (eK .none):=⟨U0⟩
theorem Fh{b:Bool}{n:Nat}{pos:Pos}:NE g F k (.Constant (.bool b) n pos) (eK (.bool b)):=⟨U1⟩
theorem HB{i:Int}{n:Nat}{q:Pos}:NE g F k (.UnaryOp .USub (.Constant (.int i) n p) q) (eK (.int (-i))):=⟨Zp⟩
theorem td:NE g F k e vg:=⟨Q0⟩
theorem fm:NB g F k b vg:=⟨Q2⟩
theorem te:NT g F k e vg:=⟨Q1⟩
theorem cZ{pos:Pos}{wa:ad V}{W:V->V->ad V}(ho:yk g op W)(ha:NE g F k l wa)(hb:NE g F k r wb):NE g F k (.BinOp l op r pos) (ao wa λa=>ao wb (W a)):=⟨Zn ho ha.run hb.run⟩
theorem Wm{op:CmpOp}{pos:Pos}{wa:ad V}{W:V->V->ad Bool}(ho:kI g op W)(ha:NE g F k l wa)(hb:NE g F k r wb)(hm:behindInMarks op r=false):NE g F k (.Compare l [op] [r] pos) (ao wa λa=>ao wb λb=>ao (W a b) V9):=⟨Zq ho ha.run hb.run hm⟩
theorem iJ{body c:PySem.Expr}{pos:Pos}{W':ad V}(ht:NT g F k sO Wt)(h:NE g F k body W)(h':NE g F k c W'):NE g F k (.IfExp sO body c pos) (ao Wt (Sn W W')):=⟨QS ht.run h.run h'.run⟩
theorem N2{x y:PySem.Expr}{pos:Pos}{Wx Wy:ad V}(B:NE g F k x Wx)(hy:NE g F k y Wy):NE g F k (.BoolOp .Or [x,y] pos) (ao Wx λv=>ao (nL v) (Sn (c8 v) Wy)):=⟨ZF B.run hy.run⟩
theorem ay:NL g F k [] (c8 []):=⟨IT⟩
theorem ae{W':ad (List V)}(h:NE g F k e W)(h':NL g F k es W')(he:∀bc,starEach (e::es) bc=(false,eval e bc)::starEach es bc:=by intro _;rfl):NL g F k (e::es) (ao W λv=>ao W' (iY v)):=⟨CI h.run h'.run he⟩
theorem eG{pos:Pos}{W:ad (List V)}(h:NL g F k es W):NE g F k (.List es pos) (ao W ve):=⟨U6 h.run⟩
theorem nF{n:Nat}{pos:Pos}{W:ad (List V)}(h:NL g F k es W):NE g F k (.Tuple es n pos) (ao W pC):=⟨Zr h.run⟩
theorem DF{pos:Pos}:NE g F k (.Dict [] [] pos) (jU (.dict [])):=⟨Rt⟩
theorem eP{b:PySem.Expr}{pos:Pos}{wa h:ad V}(ha:NE g F k value wa)(hi:NE g F k b h)(hp:nO b=true:=by rfl):NE g F k (.Subscript value b pos) (ao wa λa=>ao h (tP a)):=⟨Zs ha.run hi.run hp⟩
theorem N3{b:PySem.Expr}{pos:Pos}{wa h:ad V}(ha:NE g F k value wa)(hi:NE g F k b h)(hp:nO b=true:=by rfl):NE g F k (.Subscript value b pos) (ao wa λa=>ao h (Vp a)):=⟨ZC ha.run hi.run hp⟩
theorem iK:NP g F k none (eK .none):=⟨Rh⟩
theorem gK(h:NE g F k e W):NP g F k (some e) W:=⟨Rj h.run⟩
theorem iL{lower tY:Option PySem.Expr}{pos:Pos}{wa wl wu:ad V}(ha:NE g F k value wa)(m:NP g F k lower wl)(Vi:NP g F k tY wu):NE g F k (.Subscript value (.Slice lower tY none p) pos) (ao wa λa=>ao wl λlo=>ao wu (Jb a lo)):=⟨Rk ha.run m.run Vi.run⟩
theorem HE{st:PySem.Expr}{pos:Pos}{wa:ad V}(ha:NE g F k value wa)(T:NE g F k st (eK (.int (-1)))):NE g F k (.Subscript value (.Slice none none (some st) p) pos) (ao wa Rm):=⟨GR ha.run T.run⟩
theorem dy(OC:v_ g.K C ns)(i:Nat){n:Str}{pos:Pos}(hn:ns[i]?=some n)(h:NE g F k o W)(he:∀bc,eval (.Attribute o n pos) bc=(do
  let o' <-eval o bc
  standAt pos.atName
  let r <-holding [o'] (getAttr o' n true)
  letTemporaryGo o o' r
  Pure.pure r):=by intro _;with_unfolding_all rfl):NE g F k (.Attribute o n pos) (ao W (AF C n)):=⟨U_ h.run rfl OC.cls (OC.name (cV hn)) he⟩
theorem cj(OC:v_ g.K C ns)(i:Nat){n:Str}{pos:Pos}(hn:ns[i]?=some n)(hv:NE g F k e Wv)(ho:NE g F k o Wo)(M:∀d,swapsWith e (some (.Attribute o n p)) pos.line (aK F d)=Pure.pure false:=by intro _;rfl):NS g F k (.Assign [.Attribute o n p] e pos) (ao Wv λv=>ao Wo λa=>ao (GH C n a v) lz):=⟨AG hv.run ho.run rfl OC.cls (OC.name (cV hn)) M⟩
theorem wg(OC:v_ g.K C ns)(i:Nat){n:Str}{pos:Pos}{W:V->V->ad V}(MD:tR g op W)(hn:ns[i]?=some n)(ho:NE g F k o Wo)(he:NE g F k e We):NS g F k (.AugAssign (.Attribute o n p) op e pos) (ao Wo λa=>ao (AF C n a) λz=>ao We λv=>ao (W z v) λr=>ao (GH C n a r) lz):=⟨I1 MD ho.run he.run rfl OC.cls (OC.name (cV hn))⟩
theorem b7{pos:Pos}{f:Value}{W:List V->ad V}(N:∀M h,g.K.In h->jK M h f)(hc:cz g k f W)(S:NE g F k (.Name x p) (eK (.fb f)))(ha:NL g F k args wa)(i:∀bc pos,((backTo pos (starEach args bc)).any (·.1))=false:=by intro _ _;rfl):NE g F k (.Call (.Name x p) args [] pos) (ao wa W):=⟨Va S.run ha.run N hc i⟩
theorem Fi{kw:Str}{pos kp:Pos}{i c:PySem.Expr}{f:Value}{wa:ad V}{W:V->V->ad V}(N:∀M h,g.K.In h->jK M h f)(hc:v5 g k f kw W)(S:NE g F k (.Name x p) (eK (.fb f)))(ha:NE g F k i wa)(hb:NE g F k c wb)(T:∀bc,starEach [i] bc=(false,eval i bc)::starEach [] bc):NE g F k (.Call (.Name x p) [i] [⟨some kw,c,kp⟩] pos) (ao wa λa=>ao wb (W a)):=⟨NV S.run ha.run hb.run N hc T⟩
theorem bZ{n:Str}{pos:Pos}{W:List V->ad V}(T:Ty){id:String}(f:PlainAttrs T.name)(nW:Slot T.name n id)(Zw:typeOf (.builtin id)=Pure.pure (.type "method_descriptor"))(hc:cz g k (.builtin id) W)(ho:NE g F k o Wo) (ha:NL g F k args wa) (l:fR o n ap args pos:=by intro _;exact⟨_,rfl⟩) (i:∀bc pos,((backTo pos (starEach args bc)).any (·.1))=false:=by intro _ _;rfl):NE g F k (.Call (.Attribute o n ap) args [] pos) (ao Wo λb=>YS (λσ=>xb σ.mem b T) (ao wa (xN W b))):=⟨Q_ T ho.run ha.run f nW Zw hc l i⟩
theorem Sq{n:Str}{pos:Pos}{W:List V->ad V}(HC:sU g.K C)(S:findIn g.K (.ref C) n=some (some (.ref f)))(Vb:typeIn g.K (.ref f)=some (.type "function"))(Vc:keepIn g.K (.ref f)=true)(hc:cz g k (.ref f) W)(ho:NE g F k o Wo) (ha:NL g F k args wa) (l:fR o n ap args pos) (i:∀bc pos,((backTo pos (starEach args bc)).any (·.1))=false):NE g F k (.Call (.Attribute o n ap) args [] pos) (ao Wo λb=>V_ C n b (ao wa (xN W b))):=⟨Ra C ho.run ha.run rfl HC S Vb Vc hc l i⟩
theorem my{pos:Pos}{wf:ad V}{W:V->List V->ad V}(hc:gf g k W)(S:NE g F k (.Name x p) wf)(ha:NL g F k args wa)(i:∀bc pos,((backTo pos (starEach args bc)).any (·.1))=false:=by intro _ _;rfl):NE g F k (.Call (.Name x p) args [] pos) (ao wf λv=>ao wa (W v)):=⟨G6 S.run ha.run hc i⟩
theorem mz{n:Str}{pos:Pos}{W:V->List V->ad V}(HC:sU g.K C)(q:xB g.K C n)(hc:gf g k W)(ho:NE g F k o Wo)(ha:NL g F k args wa)(l:fR o n ap args pos:=by intro _;exact⟨_,rfl⟩) (i:∀bc pos,((backTo pos (starEach args bc)).any (·.1))=false:=by intro _ _;rfl):NE g F k (.Call (.Attribute o n ap) args [] pos) (ao Wo λb=>ao (AF C n b) λt=>ao wa (W t)):=⟨G7 ho.run ha.run rfl HC q hc l i⟩
theorem DG{pos:Pos}(h:NE g F k e W):NE g F k (.FormattedValue e (-1) none pos) (ao W So):=⟨ZD h.run⟩
theorem Fj:NJ g F k [] c8:=⟨Vr⟩
theorem iM{W':Str->ad Str}(h:NE g F k e W)(h':NJ g F k es W')(he:∀bc,evalEach (e::es) bc=eval e bc::evalEach es bc:=by intro _;rfl):NJ g F k (e::es) (λbV=>ao W (UF W' bV)):=⟨Rx h.run h'.run he⟩
theorem uO{i c:PySem.Expr}{pos:Pos}{W:Str->ad Str}(h:NJ g F k (i::c::es) W):NE g F k (.JoinedStr (i::c::es) pos) (ao (W Str.empty) Wc):=⟨Nl h.run⟩
theorem a7(h:NE g F k e W)(hv:∀bc b,PySem.isTrue e bc b=(do let v <-b;standAt e.pos;holding [v] (truthy v)):=by intro _ _;rfl):NT g F k e (ao W nL):=⟨IO h.run hv⟩
theorem HF(h:NE g F k e W)(hv:∀bc b,PySem.isTrue e bc b=(do let v <-b;standAt e.pos;holding [v] (truthy v))):NT g F k e (ao W EZ):=⟨GX h.run hv⟩
theorem n_{pos:Pos}{W:ad Bool}(h:NT g F k e W):NT g F k (.UnaryOp .Not e pos) (ao W aaC):=⟨IP h.run⟩
theorem aN{op:CmpOp}{pos:Pos}{wa:ad V}{W:V->V->ad Bool}(ho:kI g op W)(ha:NE g F k l wa)(hb:NE g F k r wb)(hm:behindInMarks op r=false:=by with_unfolding_all rfl):NT g F k (.Compare l [op] [r] pos) (ao wa λa=>ao wb (W a)):=⟨IR ho ha.run hb.run hm⟩
theorem gF:DE g F k .And [] (c8 true):=⟨MU⟩
theorem tf:DE g F k .Or [] (c8 false):=⟨QR⟩
theorem bN{W W':ad Bool}(h:NT g F k e W)(h':DE g F k .And es W'):DE g F k .And (e::es) (ao W (Sn W' (c8 false))):=⟨IQ h.run h'.run⟩
theorem g_{W W':ad Bool}(h:NT g F k e W)(h':DE g F k .Or es W'):DE g F k .Or (e::es) (ao W (Sn (c8 true) W')):=⟨MV h.run h'.run⟩
theorem cG{op:BoolOp}{pos:Pos}{W:ad Bool}(h:DE g F k op es W):NT g F k (.BoolOp op es pos) W:=⟨GE h.run⟩
theorem aC:NB g F k [] (c8 .next):=⟨U7⟩
theorem ab{st:Stmt}{aD:List Stmt}{W W':ad Fl}(h:NS g F k st W)(h':NB g F k aD W'):NB g F k (st::aD) (aV W W'):=⟨QZ h.run h'.run⟩
theorem aP(H:cc F gs ck)(i:Nat){pos:Pos}(B:F.names[i]?=some x)(h:NE g F k e W)(M:∀d,swapsWith e (some (.Name x p)) pos.line (aK F d)=Pure.pure false:=by intro _;rfl):NS g F k (.Assign [.Name x p] e pos) (ao W (t_ i)):=⟨MX i h.run B H.nd H.kind (λ_=>(H.loc (cV B)).1) M⟩
theorem BB(H:cc F gs ck)(i:Nat){pos:Pos}{Wo:V->V->ad V}(ho:tR g op Wo)(B:F.names[i]?=some x)(h:NE g F k e W):NS g F k (.AugAssign (.Name x p) op e pos) (ao (dY i) λa=>ao W λb=>ao (Wo a b) (t_ i)):=⟨Zt i ho h.run B H.nd H.kind (λ_=>(H.loc (cV B)).1)⟩
theorem c5{pos:Pos}(h:NE g F k e W)(hi:∀d,interactive (aK F d)=false:=by intro _;rfl)(M:∀d,swapsWith e none pos.line (aK F d)=Pure.pure false:=by intro _;rfl):NS g F k (.Expr e pos) (ao W lz):=⟨U8 h.run hi M⟩
theorem cP{pos:Pos}(h:NE g F k e W):NS g F k (.Return (some e) pos) (ao W wc):=⟨MY h.run⟩
theorem BC{pos:Pos}:NS g F k (.Return none pos) (c8 (.ret .none)):=⟨IY⟩
theorem il{body c:List Stmt}{pos:Pos}{W W':ad Fl}(ht:NT g F k sO Wt)(h:NB g F k body W)(h':NB g F k c W'):NS g F k (.If sO body c pos) (ao Wt (Sn W W')):=⟨rIf ht.run h.run h'.run⟩
theorem Wp{pos:Pos}:NS g F k (.Continue pos) (c8 .cont):=⟨U9⟩
theorem yS{body:List Stmt}{pos:Pos}(ht:NT g F k sO Wt)(hb:NB g F k body Wb):NS g F k (.While sO body [] pos) (J9 Wt Wb):=⟨Q5 ht.run hb.run⟩
theorem Wq{body:List Stmt}{Sg:ExceptHandler}{M:List ExceptHandler}{pos:Pos}{W:ad Fl}(h:NB g F k body W):NS g F k (.Try body (Sg::M) [] [] pos) W:=⟨aac h.run⟩
theorem Kd{i:PySem.Expr}{pos:Pos}(he:NE g F k e We)(ho:NE g F k o Wo)(hi:NE g F k i Wi)(M:∀d,swapsWith e (some (.Subscript o i p)) pos.line (aK F d)=Pure.pure false):NS g F k (.Assign [.Subscript o i p] e pos) (ao We λv=>ao Wo λa=>ao Wi λj=>ao (mu a j v) lz):=⟨Jm he.run ho.run hi.run M⟩
theorem wh{i:PySem.Expr}{pos:Pos}{W:V->V->ad V}(MD:tR g op W)(ho:NE g F k o Wo)(hi:NE g F k i Wi)(he:NE g F k e We)(ha:∀b iv new,augStore i b iv new=(do holding [new,b,iv] (setItem b iv new);release [new,b,iv] [];pure .next)):NS g F k (.AugAssign (.Subscript o i p) op e pos) (ao Wo λa=>ao Wi λj=>ao (tP a j) λz=>ao We λv=>ao (W z v) λr=>ao (mu a j r) lz):=⟨Jn MD ho.run hi.run he.run ha⟩
theorem N4{pos RF:Pos}(ho:NE g F k o Wo):NS g F k (.Delete [.Subscript o (.Slice none none none p) pos] RF) (ao Wo N1):=⟨Np ho.run⟩
theorem b8(H:cc F gs ck)(i:Nat)(B:F.names[i]?=some x):NA g F k (.Name x p) (du i):=⟨CM i B H.nd H.kind λ_=>(H.loc (cV B)).1⟩
theorem lL:V7 g F k [] p4:=⟨Rb⟩
theorem dz{W:V->ad Unit}{W':List V->ad Unit}(h:NA g F k t W)(h':V7 g F k ts W')(he:∀bc,assignEach (t::ts) bc=(false,assign t bc)::assignEach ts bc:=by intro _;rfl):V7 g F k (t::ts) (w3 W W'):=⟨M_ h.run h'.run he⟩
theorem rz{n:Nat}{pos:Pos}{W:List V->ad Unit}(h:V7 g F k ts W)(M:∀bc,(assignEach ts bc).findIdx? (·.1)=none:=by intro _;rfl)(cn:∀bc,(assignEach ts bc).length=ts.length:=by intro _;rfl):NA g F k (.Tuple ts n pos) (we ts.length W):=⟨Ve h.run M cn⟩
theorem mA{body:List Stmt}{pos:Pos}(hi:NE g F k iter Wi)(ha:NA g F k target As)(hb:NB g F k body Wb)(z:∀bc v,foldedSetIterable iter bc v=Pure.pure v:=by intro _ _;rfl):NS g F k (.For target iter body [] pos) (ao Wi (aaD As Wb)):=⟨I7 hi.run ha.run hb.run z⟩
theorem tg{body:List Stmt}{pos:Pos}(hi:NE g F k iter Wi)(ha:NA g F k target As)(hb:NB g F k body Wb)(z:∀bc v,foldedSetIterable iter bc v=Pure.pure v):NS g F k (.For target iter body [] pos) (ao Wi (J_ As Wb)):=⟨GM hi.run ha.run hb.run z⟩
theorem wj{W:List V->ad V}(Rz:fnIn g.K f=true)(hc:cO g k (.ref f) W){body:List Stmt}{pos:Pos}(hi:NE g F (k+1) iter Wi)(ha:NA g F (k+1) target As)(hb:NB g F (k+1) body Wb)(z:∀bc v,foldedSetIterable iter bc v=Pure.pure v):NS g F (k+1) (.For target iter body [] pos) (ao Wi (Wf f W As Wb)):=⟨JE Rz hc hi.run ha.run hb.run z⟩
theorem Ke{a:Pos}{arg:PySem.Expr}{n:Nat}{tp:Pos}{body:List Stmt}{pos:Pos}{wa:ad V}{W:List V->ad Unit}(S:NE g F k (.Name x p) (eK (.fb (.type "enumerate"))))(he:NE g F k arg wa)(ha:V7 g F k ts W)(hb:NB g F k body Wb)(z:∀bc v,foldedSetIterable (.Call (.Name x p) [arg] [] a) bc v=Pure.pure v) (M:∀bc,(assignEach ts bc).findIdx? (·.1)=none) (cn:∀bc,(assignEach ts bc).length=ts.length)(T:∀bc,starEach [arg] bc=(false,eval arg bc)::starEach [] bc) (i:∀bc pos,((backTo pos (starEach [arg] bc)).any (·.1))=false):NS g F k (.For (.Tuple ts n tp) (.Call (.Name x p) [arg] [] a) body [] pos) (ao wa (Wg (Ka ts.length W) Wb)):=⟨JU S.run he.run ha.run hb.run z M cn T i⟩
end
section
noncomputable def yT(o:Option O):Option V:=(o.bind O.fl).bind λp=>cond p.1.it (l1 p.2) none
theorem xO{o:Option O}{x:V}(h:yT o=some x):o=some (.bP .bI [x]):=aI h λp e h=>lg h λh1 h2=>(e_ O.CE e).trans (by rw[FK.QJ h1,yj h2])
def yU(vs:List V):ad V:=kM vs λa σ Q=>aA (pO a) λl=>aA (yT σ.mem[l]?) λx=>aA (tZ σ.mem x) λp=>gd (mt p.2&&Nat.ble p.2.length 1) (match p.2 with
 | []=>jU (.list []) σ Q
 |e::_=>Q (.loc (σ.mem.length+1)) {σ with mem:=(σ.mem++[.tup [.str e.1,e.2]])++[.list [.loc σ.mem.length]]})
theorem uB(x:Value):argsOk "list.sort" ⟨[x],[]⟩:=by unfold argsOk;kernel_rfl
theorem uC:cz g k (.builtin "sorted") yU:=by
 intro F d A af vs us hr D s wd σ Q Z R J;refine q_ D J λa u eu ha J=>ah J λl e1 J=>ah J λx e2 J=>ah J λp e3 J=>xA (aL J) λh1 hW5=>xA ((aM _ _).mp h1) λh1 h2=>u7 (R.get (xO e2)) λdP ob ho I DH dL=>vn dL λy ey hy=>R.dv hy e3 λds n hyd hld hod H=>xE ((gw (g:=g) hod H h1).dictAt) λep O=>?_;have h2:=aU h2;rw[DH,ey,hyd] at ho;rw[eu,(VR.ref e1 (VR.mono Z ha)).2];generalize p.2=es at *;have M:(jR es ds).length=es.length:=by unfold jR;rw[List.length_zip,ax,ax,H.len];exact Nat.min_self _
 refine call_function_entry kind_sorted plain_sorted entry_sorted (args_sorted1 _) ?_;unfold Builtin.«sorted»;refine U (m:=checkCount "sorted" 1 1 _) (aj ?_);refine U (kdx_collect (A:=A.in1) (knd:=strKind g.prog g.w) (kvs:=jR es ds) (ep:=ep) hr.handled ⟨_,ho,rfl,rfl⟩ O (by rw[M,dj];exact aQ [_] (.c 1 (.v 0) (.n 1) .nil) 0 (.v 0) (.n 16777216) tt h2) λh' tk as hk P f=>?_);refine U (pt ?_ (by rw[ax,P,M,dj];exact aQ [_] (.c 1 (.v 0) (.n 1) .nil) 0 (.v 0) (.n 16777216) tt h2));have R1:bU g F d wd σ {s with heap:=h',toks:=tk}:=R.keeps hk;have G:(h'.push (aG "list" (as.map Value.ref) 0)).get? h'.objs.size=some (aG "list" (as.map Value.ref) 0):=cu _ rfl;refine U (bq (i8 slot_list_sort ⟨_,G,rfl⟩ entry_list_sort (v8 (A:=A.in1.in1) G (by rw[ax,P,M];exact aQ [_] (.c 1 (.v 0) (.n 1) .nil) 0 (.a (.v 0) (.n 1)) (.n 2) tt h2) λh2 n' ZM YT=>?_) (uB _)));have keep:∀b o,h'.get? b=some o->h2.get? b=some o:=λb o e=>ZM b o (bL (bT e)) (bf _ e);refine⟨_,rfl,aj ⟨_,rfl,?_⟩⟩;have T:=R1.keeps (s':={s with heap:=h2,toks:=tk}) keep;have HD:=jE.fresh R1 qo;cases es with
 |nil=>cases H;rw[show as=[] from List.length_eq_zero_iff.mp P] at YT;exact az _ (.loc σ.mem.length) _ (Wd.aT _ _) (T.own1 (o:=.list []) HD YT ⟨[],n',rfl,.nil⟩ R1.g7) T.pushed hW5
 |cons e r=>
  cases r with
  |cons _ _=>exact absurd (oP h2) (Nat.not_succ_le_zero _)
  |nil=>
  cases H with
  | @cons _ dd _ dr hd hdr=>
  cases hdr;refine dB hd λt u jM N=>xE (List.length_eq_one_iff.mp (P.trans M)) λa ea=>?_;rw[ea] at f YT;refine jf (f.pairs 0 a rfl) λkey W x E L e7=>?_;have e5':=mi (aq E);have Ws:=e5'.2;rw[jM] at Ws;rw[<-e5'.1] at L;refine xE (lZ (show Value.isStrOf e.1 key=true from L)) λYU ek=>?_;rw[ek,<-Ws] at e7;have Wu:=f.above a (.head _);have haD:=bT e7;have Ha:=jE.fresh R λx B=>by rw[List.mem_singleton.mp B];exact gO (eU Wu)
  have Ww:=dB (g.sm) λz o h1 h2=>dJ (fN h1 (fN (bT (R.hb z o h2)) Wu));have R3:=T.own1 (o:=.tup [.str e.1,e.2]) Ha (keep _ _ e7) ⟨[.str e.1 YU,u],0,rfl,.cons ⟨YU,rfl⟩ (.cons (VR.mono (Wd.aT _ _) N) .nil)⟩ Ww;have HD':=HD.push (by simp;exact bL haD);have hp:VR (wd.push a) (.loc σ.mem.length) (.ref a):=T.pushed;have R4:=R3.own1 (o:=.list [.loc σ.mem.length]) HD' YT ⟨[.ref a],n',rfl,.cons (VR.mono (Wd.aT _ _) hp) .nil⟩ R1.g7;refine az _ (.loc (σ.mem.length+1)) _ ((Wd.aT _ _).trans (Wd.aT _ _)) R4 ?_ hW5;have h9:=R3.pushed (a:=h'.objs.size);rw[ak] at h9;exact h9
theorem HG{es:List (Str×V)}(ho:g.K.lookup a=some (dictOf ds nn))(H:∀wd,aE (mo g wd) es ds)(hn:mt es=true)(p:(a==sysModules)=false){n:Str}{pos:Pos}(h:be g F k o (eK (.fb (.ref a))))(BD:n="items")(l:fR o n ap [] pos):be g F k (.Call (.Attribute o n ap) [] [] pos) (jU (.bP .bI [.fb (.ref a)])):=by subst BD;intro d A af hr s wd σ Q Z R J;refine xE (l (aK F d)) λpl he=>?_;rw[he];refine U (a_ (h d A af hr s wd σ (λb a9=>b= .fb (.ref a)/\a9=σ) Z R ⟨rfl,rfl⟩) (λu s1 y=>?_) λ_ _ y=>y.elim);refine gY y λwd1 b σ1 y1 O y3 P R_=>?_;rw[P] at y3;rw[<-R_] at J;rw[show u=_ from y3];have hK:=(g.X.keeps O.hb) _ _ ho;refine U (dh (U (bq (getMethod_builtin ⟨_,hK,rfl⟩ sA oO (by show builtinType _=_;rw[builtinType_eq_fast];kernel_rfl) (λx e=>⟨_,jc e▸hK,rfl⟩) ?_))));refine mh rfl (λh x=>x) (jX rfl ?_);refine wpAny_items_nil ⟨aX,?_⟩;refine call_meetsIn oO ⟨_,hK,rfl⟩ PySem.F.entry_dict_items (PySem.F.args_dict_items_1 _) (meets_dict_items (strKind g.prog g.w) _ p) ⟨⟨_,gw hK (H wd1) hn⟩,?_⟩;exact az _ (.loc σ1.mem.length) _ (y1.trans (Wd.aT _ _)) (O.cE (o:=.bP .bI [.fb (.ref a)]) ⟨_,rfl,.cons rfl .nil⟩) O.pushed J
noncomputable def iN(es:List (Str×V)):List O:=es.map λp=>.tup [.str p.1,p.2]
noncomputable def Sr(a:Addr)(o:Option O):Bool:=(yT o).any (vF a)
def BE(a:Addr)(es:List (Str×V))(vs:List V):ad V:=kM vs λv σ Q=>aA (pO v) λl=>gd (Sr a σ.mem[l]?)
 (Q (.loc (σ.mem.length+es.length)) {σ with mem:=(σ.mem++iN es)++[.list ((List.range es.length).map λi=>.loc (σ.mem.length+i))]})
theorem Kf(es:List (Str×V)):∀(as:List Addr){wd:Wd}{σ:St},bU g F d wd σ s->as.length=es.length->(∀a∈as,jE g d wd [a])->as.Nodup->(∀a∈as,a≠sysModules)-> (∀(j:Nat)(a:Addr)(e:Str×V),as[j]?=some a->es[j]?=some e->∃tk u,s.heap.get? a=some (aG "tuple" [.str e.1 tk,u] 0)/\VR wd e.2 u)-> ∃bg,Wd.Le wd bg/\bU g F d bg {σ with mem:=σ.mem++iN es} s/\(∀(j:Nat)(a:Addr),as[j]?=some a->VR bg (.loc (σ.mem.length+j)) (.ref a))/\(∀b,b∉as->jE g d wd [b]->jE g d bg [b]):=by
 induction es with
 |nil=>intro as wd σ R Z _ _ _ _;rw[List.length_eq_zero_iff.mp Z];refine⟨wd,.refl _,?_,λj a e=>nS e,λb _ h=>h⟩;refine(?_ :bU g F d wd {σ with mem:=σ.mem++[]} s);rw[aS];exact R
 |cons e es T=>
  intro as wd σ R Z hH hn M hp;cases as with
  |nil=>exact nomatch Z
  |cons a as=>
   refine dB (hp 0 a e rfl rfl) λtk u h1 h2=>?_;have hw:=Wd.aT wd a;have k:=List.nodup_cons.mp hn;have R1:=R.own1 (o:=.tup [.str e.1,e.2]) (hH a (.head _)) h1 ⟨_,0,rfl,.cons ⟨tk,rfl⟩ (.cons (VR.mono hw h2) .nil)⟩ (M a (.head _));have push:∀b,b≠a->jE g d wd [b]->jE g d (wd.push a) [b]:=λb hb h=>h.push (by simpa using bM hb);refine An (T as R1 (fV Z) (λb hb=>push b (λq=>k.1 (by rw[<-q];exact hb)) (hH b (.tail _ hb))) k.2 (λb hb=>M b (.tail _ hb))
    λj b e' h3 h4=>dB (hp (j+1) b e' h3 h4) λtk u h5 h6=>⟨tk,u,h5,VR.mono hw h6⟩) λbg x1 x2 x3 x4=>⟨bg,hw.trans x1,?_,λj b h=>?_,λb hb h=>x4 b (λq=>hb (.tail _ q)) (push b (λq=>hb (by rw[q];exact .head _)) h)⟩
   ·rw[show σ.mem++iN (e::es)=(σ.mem++[O.tup [.str e.1,e.2]])++iN es by rw[au];rfl];exact x2
   ·cases j with
    |zero=>rw[<-aq h];exact VR.mono x1 R.pushed
    |succ j=>have h5:=x3 j b h;rw[ak] at h5;exact(sx σ.mem.length j:σ.mem.length+1+j=_)▸h5
theorem BF{es:List (Str×V)}(ho:g.K.lookup a=some (dictOf ds nn))(H:∀wd,aE (mo g wd) es ds)(hn:mt es=true)(hz:es.length<=100):cz g k (.type "list") (BE a es):=by
 intro F d A af vs us hr D s wd σ Q Z R J;refine q_ D J λv u eu hv J=>ah J λl e1 J=>xA (aL J) λh1 C3=>bx (fj h1) λx ex B=>u7 (R.get (xO ex)) λdP ob Y I DH dL=>vn dL λy ey hy=>?_;rw[n4 B] at hy;rw[DH,ey,show y= .ref a from hy] at Y;rw[eu,(VR.ref e1 (VR.mono Z hv)).2];have hK:=(g.X.keeps R.hb) _ _ ho;refine xE ((gw hK (H wd) hn).dictAt) λep O=>?_;have Iu:=(H wd).len;have M:(jR es ds).length=es.length:=by unfold jR;rw[List.length_zip,ax,ax,Iu];exact Nat.min_self _
 refine kdx_call hr.handled ⟨_,Y,rfl,rfl⟩ O (by rw[M,dj];exact am hz (by decide)) λh' tk bV c as hk w P f Ba=>?_;have R1:bU g F d wd σ {s with heap:=h',toks:=tk}:=R.keeps hk;have hgt:=f.above;have p:∀x,s.heap.objs.size<=x->x≠sysModules:=λx B=>dB (g.sm) λz o h1 h2=>dJ (fN h1 (dA (bT (R.hb z o h2)) B));have YF:∀x,s.heap.objs.size<=x->jE g d wd [x]:=λx B=>jE.fresh R λy hy=>by rw[List.mem_singleton.mp hy];exact gO B
 have nD:=f.rise.imp λh=>bL h;refine An (Kf es as R1 (by rw[P,M]) (λx B=>YF x (eU (hgt x B))) nD (λx B=>p x (eU (hgt x B))) λj x e h5 h6=>?_) λV0 x1 x2 x3 x4=>?_
 ·refine jf (f.pairs j x h5) λkey W y E L e7=>IA ((H wd).get h6) λdd hd1 t u DH N=>?_;have PK:(jR es ds)[j]?=some (e.1,dd.val):=by unfold jR;rw[List.getElem?_zip_eq_some];exact⟨by rw[bi,h6];rfl,by rw[bi,hd1];rfl⟩
  have e8:=mi (aq (PK.symm.trans E));rw[<-e8.1] at L;refine xE (lZ (show Value.isStrOf e.1 key=true from L)) λYU ek=>?_;rw[ek,<-e8.2,DH] at e7;exact⟨YU,_,e7,N⟩
 ·have hBn:s.heap.objs.size∉as:=λq=>jd _ (hgt _ q);have JH:aE (VR (V0.push s.heap.objs.size)) ((List.range es.length).map λi=>V.loc (σ.mem.length+i)) bV.toList:=by rw[Ba];refine xM (by rw[ax,P,M]) λi v e=>?_;rw[bi] at e;exact bx (Option.map_eq_some_iff.mp e) λx ex C=>C▸VR.mono (Wd.aT _ _) (x3 i x ex)
  have R3:=x2.own1 (o:=.list ((List.range es.length).map λi=>.loc (σ.mem.length+i))) (x4 _ hBn (YF _ (aF _))) w ⟨bV.toList,c,by simp[aG],JH⟩ (p _ (aF _));refine az _ (.loc (σ.mem.length+es.length)) _ (x1.trans (Wd.aT _ _)) R3 ?_ C3;have h9:=x2.pushed (a:=s.heap.objs.size);rw[show({σ with mem:=σ.mem++iN es}:St).mem.length=σ.mem.length+es.length from(ak ..).trans (ag _ (ax ..))] at h9;exact h9
end
noncomputable abbrev dg (F:df) (scope:Scope) (names cells:List Str):df:={qual:=F.qual,cd:=F.cd,scope:=relabel scope (aK F ⟨0,none,none,[]⟩),names:=names,cells:=cells}
noncomputable def nG(xs I:List Str):Bool:=decide (xs=I)
theorem jZ{I:List Str}(h:nG xs I=true):xs=I:=iu h
noncomputable def th(cs fs:List Str):List Nat->Bool:=λfY=>nG fs (fY.filterMap λi=>cs[i]?)&&fY.all λi=>decide (i<cs.length)
theorem pI{cs fs:List Str}(h:th cs fs fY=true):(∀(j:Nat)(x:Str),fs[j]?=some x->∃i:Nat,fY[j]?=some i/\cs[i]?=some x)/\fY.length=fs.length:=by
 unfold th at h;rw[aM,i_] at h;have h1:=jZ h.1;have h2:=h.2;clear h;subst h1;induction fY with
 |nil=>exact⟨λj x e=>nS e,rfl⟩
 |cons i r T=>
  refine xA (T λj hj=>h2 j (.tail _ hj)) λZ5 Z6=>?_;have hi:=iu (h2 i (.head _));rw[List.filterMap_cons_some (bC hi)];refine⟨λj x e=>?_,ag Nat.succ Z6⟩;cases j with
  |zero=>exact⟨i,rfl,(bC hi).trans e⟩
  |succ j=>exact Z5 j x e
noncomputable def m0(F:df)(scope:Scope)(cells:List Str)(fY:List Nat):Bool:=nG (c9 scope) cells&&mZ cells&&th F.cells cells fY&&decide (scope.kind= .function)&&
 scope.names.all λx=>!(x.2== .cell)&&(!(x.2== .local)||decide (scope.names.lookup x.1=some .local))
theorem wk{scope:Scope}(h:m0 F scope cells fY=true):mT F (dg F scope names cells) scope fY:=by
 unfold m0 at h;simp only[aM,decide_eq_true_eq,i_] at h;refine⟨λd=>rfl,rfl,rfl,jZ h.1.1.1.1,mw h.1.1.1.2,(pI h.1.1.2).1,(pI h.1.1.2).2,h.1.2,λx B e=>?_,λx B e=>?_⟩
 ·have:=(h.2 x B).2;rw[e] at this;exact iu this
 ·have:=(h.2 x B).1;rw[e] at this;exact nB this
section
variable {rA:List Str}
theorem Kg:HA g F k [] (c8 true):=⟨Jw⟩
theorem Kh{c:PySem.Expr}{W:ad Bool}(h:NT g F k c W):HA g F k [c] W:=⟨Vu h.run⟩
def aaF(l:Nat)(v:V):ad V:=gE [.loc l,v]
def ua(We:ad V)(l:Nat):ad Unit:=ao We λv=>ao (aaF l v) p4
def aaG(l:Nat)(a v:V):ad Unit:=λσ Q=>uo a λx=>uM l x v σ Q
def PR(Wk Wv:ad V)(l:Nat):ad Unit:=ao Wk λa=>ao Wv (aaG l a)
noncomputable def aaH(p:Int×Int×Int):St->Nat->Option (Option V):=gD p.1 p.2.1 p.2.2
def aaI(Nw:V->ad Unit)(We:ad V)(l:Nat)(v:V):ad Unit:=λσ Q=>aA (kO v σ) λi=>∃n,gx (bj i) Nw (c8 true) (ua We l) n 0 σ Q
def PS(p:ad V)(Nw:V->ad Unit)(We:ad V)(l:Nat):ad Unit:=ao p (aaI Nw We l)
theorem HH{scope:Scope}{pos:Pos}(names cells:List Str)(fY:List Nat)(hc:m0 F scope cells fY=true)(hn:v9 (dg F scope names cells) rA .cell=true)(hi:NE g F k iter Wi) (ha:cc (dg F scope names cells) rA .cell->NA g (dg F scope names cells) k target As) (S:cc (dg F scope names cells) rA .cell->HA g (dg F scope names cells) k ifs Wt) (he:cc (dg F scope names cells) rA .cell->NE g (dg F scope names cells) k pH We)(z:∀bc x,foldedSetIterable iter bc x=Pure.pure x):NE g F k (.ListComp pH [⟨target,iter,ifs,0⟩] scope pos) (n7 fY kO bj names.length (.list []) Wi As Wt (ua We)):=have H:=ip hn
 ⟨Hb mR names.length (wk hc) hi.run (ha H).run (S H).run (he H).run z⟩
theorem DI{scope:Scope}{pos:Pos}(names cells:List Str)(fY:List Nat)(hc:m0 F scope cells fY=true)(hn:v9 (dg F scope names cells) rA .cell=true)(H0:cc F gs ck) (i:Nat) (B:F.names[i]?=some y)(hi:NE g F k iter Wi) (ha:cc (dg F scope names cells) rA .cell->NA g (dg F scope names cells) k target As) (S:cc (dg F scope names cells) rA .cell->HA g (dg F scope names cells) k ifs Wt) (he:cc (dg F scope names cells) rA .cell->NE g (dg F scope names cells) k pH We)(z:∀bc x,foldedSetIterable iter bc x=Pure.pure x) (c:∀d,swapsWith (.ListComp pH [⟨target,iter,ifs,0⟩] scope pos) (some (.Name y p)) uq.line (aK F d)=Pure.pure true):NS g F k (.Assign [.Name y p] (.ListComp pH [⟨target,iter,ifs,0⟩] scope pos) uq) (ao (n7 fY Jv aaH names.length (.list []) Wi As Wt (ua We)) (t_ i)):=have H:=ip hn
 ⟨np RM names.length i (wk hc) hi.run (ha H).run (S H).run (he H).run z c B H0.nd H0.kind (λ_=>(H0.loc (cV B)).1)⟩
theorem qy{scope:Scope}{pos:Pos}(names cells:List Str)(fY:List Nat)(hc:m0 F scope cells fY=true)(hn:v9 (dg F scope names cells) rA .cell=true)(H0:cc F gs ck) (i:Nat) (B:F.names[i]?=some y)(hi:NE g F k iter Wi) (ha:cc (dg F scope names cells) rA .cell->NA g (dg F scope names cells) k target As) (S:cc (dg F scope names cells) rA .cell->HA g (dg F scope names cells) k ifs Wt) (he:cc (dg F scope names cells) rA .cell->NE g (dg F scope names cells) k pH We)(z:∀bc x,foldedSetIterable iter bc x=Pure.pure x) (c:∀d,swapsWith (.ListComp pH [⟨target,iter,ifs,0⟩] scope pos) (some (.Name y p)) uq.line (aK F d)=Pure.pure true):NS g F k (.Assign [.Name y p] (.ListComp pH [⟨target,iter,ifs,0⟩] scope pos) uq) (ao (n7 fY kO bj names.length (.list []) Wi As Wt (ua We)) (t_ i)):=have H:=ip hn
 ⟨np mR names.length i (wk hc) hi.run (ha H).run (S H).run (he H).run z c B H0.nd H0.kind (λ_=>(H0.loc (cV B)).1)⟩
theorem DJ{scope:Scope}{kx vx:PySem.Expr}{pos:Pos}{Wk:ad V}(names cells:List Str)(fY:List Nat)(hc:m0 F scope cells fY=true)(hn:v9 (dg F scope names cells) rA .cell=true)(H0:cc F gs ck) (i:Nat) (B:F.names[i]?=some y)(hi:NE g F k iter Wi) (ha:cc (dg F scope names cells) rA .cell->NA g (dg F scope names cells) k target As) (S:cc (dg F scope names cells) rA .cell->HA g (dg F scope names cells) k ifs Wt) (hk:cc (dg F scope names cells) rA .cell->NE g (dg F scope names cells) k kx Wk) (hv:cc (dg F scope names cells) rA .cell->NE g (dg F scope names cells) k vx Wv)(z:∀bc x,foldedSetIterable iter bc x=Pure.pure x) (c:∀d,swapsWith (.DictComp kx vx [⟨target,iter,ifs,0⟩] scope pos) (some (.Name y p)) uq.line (aK F d)=Pure.pure true):NS g F k (.Assign [.Name y p] (.DictComp kx vx [⟨target,iter,ifs,0⟩] scope pos) uq) (ao (n7 fY kO bj names.length (.dict []) Wi As Wt (PR Wk Wv)) (t_ i)):=have H:=ip hn
 ⟨ur mR names.length i (wk hc) hi.run (ha H).run (S H).run (hk H).run (hv H).run z c B H0.nd H0.kind (λ_=>(H0.loc (cV B)).1)⟩
theorem DK{scope:Scope}{t2 i2:PySem.Expr}{pos:Pos}{p:ad V}{Nw:V->ad Unit}(names cells:List Str)(fY:List Nat)(hc:m0 F scope cells fY=true)(hn:v9 (dg F scope names cells) rA .cell=true)(hi:NE g F k iter Wi) (ha:cc (dg F scope names cells) rA .cell->NA g (dg F scope names cells) k target As) (Ux:cc (dg F scope names cells) rA .cell->NE g (dg F scope names cells) k i2 p) (ZP:cc (dg F scope names cells) rA .cell->NA g (dg F scope names cells) k t2 Nw) (he:cc (dg F scope names cells) rA .cell->NE g (dg F scope names cells) k pH We)(z:∀bc x,foldedSetIterable iter bc x=Pure.pure x) (yF:∀bc x,foldedSetIterable i2 bc x=Pure.pure x):NE g F k (.ListComp pH [⟨target,iter,[],0⟩,⟨t2,i2,[],0⟩] scope pos) (n7 fY kO bj names.length (.list []) Wi As (c8 true) (PS p Nw We)):=have H:=ip hn
 ⟨Di names.length (wk hc) hi.run (ha H).run (Ux H).run (ZP H).run (he H).run z yF⟩
theorem Ki{scope:Scope}(h:(mZ (c9 scope)&&th F.cells (c9 scope) fY)=true):s_ F scope fY:=by rw[aM] at h;exact⟨mw h.1,(pI h.2).1,(pI h.2).2⟩
theorem Kj(H:cc F gs ck)(i:Nat){t:Nat}{c P:Addr}(N:n9 g F t c P){name qual:Str}{params:Arguments}{body:List Stmt}{scope:Scope}{pos:Pos}(fY:List Nat)(C:(mZ (c9 scope)&&th F.cells (c9 scope) fY)=true)(B:F.names[i]?=some name) (a:g.fo t=λfA fx c' io=>fnMade name qual params body scope fA fx ((g.mg "__name__").getD .none) c' io) (e:g.tp t=pos) (w:g.tq t=qual) (l:g.ff t=c9 scope)(R8:∀d,qualnameIn (aK F d) name name=qual) (hd0:params.defaults=[]) (UA:params.kw_defaults=[]) (NG:∀d,annTrees params none (aK F d)=[]):NS g F k (.FunctionDef name params body [] none [] scope none name pos) (ao (xK t fY) (t_ i)):=⟨JL i N (Ki C) a e w l R8 hd0 UA NG B H.nd H.kind (λ_=>(H.loc (cV B)).1)⟩
theorem N5{t:Nat}{c P:Addr}(N:n9 g F t c P){qual:Str}{params:Arguments}{body:PySem.Expr}{scope:Scope}{pos:Pos}(fY:List Nat)(C:(mZ (c9 scope)&&th F.cells (c9 scope) fY)=true)(a:g.fo t=λfA fx c' io=>kla_obj "<lambda>" qual params body scope fA ((g.mg "__name__").getD .none) c' io) (e:g.tp t=pos) (w:g.tq t=qual) (l:g.ff t=c9 scope)(R8:F.qual++"<lambda>"=qual) (hd0:∀d,defaultsOf params (aK F d)=([],[])):NE g F k (.Lambda params body scope pos) (xK t fY):=⟨NH N (Ki C) a e w l R8 hd0⟩
theorem Kk(H:cc F gs ck)(i j:Nat){q r pos:Pos}{W:Nat}(hc:kdsCode g.K F.cd=true)(B:F.names[i]?=some x)(hy:F.names[j]?=some y)(UD:W=0):NE g F k (.Set [.Name x p,.Starred (.Name y q) r] W pos) (Bs i j):=⟨JT i j hc B hy H.kind (λ_=>(H.loc (cV B)).1) (λ_=>(H.loc (cV hy)).1) (H.loc (cV B)).2 (H.loc (cV hy)).2 UD⟩
theorem BG{n:Str}{pos:Pos}(hn:n="append")(h:NE g F k o W)(he:∀bc,eval (.Attribute o n pos) bc=(do
  let o' <-eval o bc
  standAt pos.atName
  let r <-holding [o'] (getAttr o' n true)
  letTemporaryGo o o' r
  Pure.pure r)):NE g F k (.Attribute o n pos) (ao W t6):=⟨A4 h.run hn he⟩
theorem Fk{n:Str}{pos:Pos}(HC:sU g.K C)(HD:Nm g.K C n f)(h:NE g F k o W)(he:∀bc,eval (.Attribute o n pos) bc=(do
  let o' <-eval o bc
  standAt pos.atName
  let r <-holding [o'] (getAttr o' n true)
  letTemporaryGo o o' r
  Pure.pure r)):NE g F k (.Attribute o n pos) (ao W (Js C n f)):=⟨Nn h.run rfl HC HD he⟩
def Wz(i j:Nat)(v:V):ad Fl:=λG Q=>aA (vk G.mem v) λxs=>aA (l2 xs) λp=>Q .next ((G.nE j p.2).nE i p.1)
theorem Ss(H:cc F gs ck)(i j:Nat){a b:Str}{n:Nat}{f m tp pos:Pos}(hi:F.names[i]?=some a)(hj:F.names[j]?=some b)(he:NE g F k e We)(hw:∀d,swappedStores [.Tuple [.Name a f,.Name b m] n tp] e (aK F d)=Pure.pure (some [a,b])) (M:∀d,swapsWithSole [.Tuple [.Name a f,.Name b m] n tp] e pos.line (aK F d)=Pure.pure false):NS g F k (.Assign [.Tuple [.Name a f,.Name b m] n tp] e pos) (ao We (Wz i j)):=⟨RE i j he.run hi hj H.nd H.kind (λ_=>(H.loc (cV hi)).1) (λ_=>(H.loc (cV hj)).1) hw M⟩
theorem Kl{W:V->ad Unit}(h:NA g F k t W)(he:∀bc,(assignEach [t] bc).map (·.2)=[assign t bc]):NAA g F k [t] W:=⟨RB h.run he⟩
theorem Su{C:PySem.Expr}{W W':V->ad Unit}(h:NA g F k t W)(h':NA g F k C W')(he:∀bc,(assignEach [t,C] bc).map (·.2)=[assign t bc,assign C bc]):NAA g F k [t,C] (λv=>ao (W v) λ_=>W' v):=⟨RD h.run h'.run he⟩
theorem qz{pos:Pos}{W:V->ad Unit}(he:NE g F k e We)(ht:NAA g F k ts W)(M:∀d,swapsWithSole ts e pos.line (aK F d)=Pure.pure false) (hw:∀d,swappedStores ts e (aK F d)=Pure.pure none):NS g F k (.Assign ts e pos) (ao We λv=>ao (W v) lz):=⟨C4 he.run ht.run M hw⟩
theorem Km{pos:Pos}:V8 g F k pos [] (c8 []):=⟨RU⟩
def Sv(x:Str)(v:V)(es:List (Str×V)):ad (List (Str×V)):=λσ Q=>Q ((x,v)::es) σ
def wPs(W:ad (List (Str×V)))(a v:V):ad (List (Str×V)):=λσ Q=>uo a λx=>ao W (Sv x v) σ Q
theorem yV{pos:Pos}{kx vx:PySem.Expr}{ps:List (PySem.Expr×PySem.Expr)}{Wk:ad V}{W:ad (List (Str×V))}(hk:NE g F k kx Wk)(hv:NE g F k vx Wv)(h:V8 g F k pos ps W):V8 g F k pos ((kx,vx)::ps) (ao Wk λa=>ao Wv λv=>wPs W a v):=⟨Nv hk.run hv.run h.run⟩
def WA(σ:St)(Q:V->St->Prop)(es:List (Str×V))(a9:St):Prop:=gd (JC (qZ a9.mem[σ.mem.length]?)&&mt es) (Q (.loc σ.mem.length) {a9 with mem:=a9.mem.set σ.mem.length (.dict es)})
def PT(W:ad (List (Str×V))):ad V:=λσ Q=>W {σ with mem:=σ.mem++[.dict []]} (WA σ Q)
theorem Sw{f v1:PySem.Expr}{pos:Pos}{W:ad (List (Str×V))}(h:V8 g F k pos [(f,v1)] W):NE g F k (.Dict [some f] [v1] pos) (PT W):=⟨PH h.run (h0:=by simp) (cn:=by simp) (Df:=by intro _;rfl)⟩
theorem Sx{f v1 j v2:PySem.Expr}{pos:Pos}{W:ad (List (Str×V))}(h:V8 g F k pos [(f,v1),(j,v2)] W):NE g F k (.Dict [some f,some j] [v1,v2] pos) (PT W):=⟨PH h.run (h0:=by simp) (cn:=by simp) (Df:=by intro _;rfl)⟩
def WB(i:Nat)(y z:Str)(v:V):ad Fl:=λG Q=>uo v λt=>gd (Nat.ble (t.length+(t.length+1)*z.length) 16777216) (Q .next (G.nE i (.str (lu y z t))))
theorem ju(H:cc F gs ck)(i:Nat){z:Str}{RG C5 C6:Nat}{RH RJ C7 C8 C9 C_ Da Jt Ju RK pos:Pos}(ZG:(y==z)=false)(B:F.names[i]?=some x)(l:fR (.Name x C7) "replace" C8 [.Constant (.str y) C5 C9,.Constant (.str z) C6 C_] Da:=by intro _;exact⟨_,rfl⟩)(M:∀d,swapsWith (.Call (.Attribute (.Name x C7) "replace" C8) [.Constant (.str y) C5 C9,.Constant (.str z) C6 C_] [] Da) (some (.Name x Jt)) Ju.line (aK F d)=Pure.pure false:=by intro _;rfl):NS g F k (.If (.Compare (.Constant (.str y) RG RH) [.In] [.Name x RJ] RK) [.Assign [.Name x Jt] (.Call (.Attribute (.Name x C7) "replace" C8) [.Constant (.str y) C5 C9,.Constant (.str z) C6 C_] [] Da) Ju] [] pos) (ao (dY i) (WB i y z)):=⟨Nq i ZG B rfl H.nd H.kind (λ_=>(H.loc (cV B)).1) (H.loc (cV B)).2 l M⟩
theorem HI{es:List (Str×V)}(ho:g.K.lookup a=some (dictOf ds nn))(H:∀wd,aE (mo g wd) es ds)(hn:mt es=true)(p:(a==sysModules)=false){n:Str}{pos:Pos}(BD:n="items")(h:NE g F k o (eK (.fb (.ref a))))(l:fR o n ap [] pos):NE g F k (.Call (.Attribute o n ap) [] [] pos) (jU (.bP .bI [.fb (.ref a)])):=⟨HG ho H hn p h.run BD l⟩
noncomputable def pJ(o:Option O):Bool:=o.elim false λo=>@O.casesOn (λ_=>Bool) o (λ_=>false) (λ_=>false) (λ_=>false) (λ_ _=>false) (λ_=>true) true (λ_ _=>false) (λ_=>false) (λ_=>false) (λ_ _=>false) (λ_ _ _=>false) (λ_ _=>false) λ_=>false
theorem bU.WC{wd:Wd}{σ:St}{l:Nat}(R:bU g F d wd σ s)(h:pJ σ.mem[l]?=true):∃ob v,s.heap.get? (wd.ρ l)=some ob/\ob.data= .cell v/\ob.isFreed=false:=by
 cases eo:σ.mem[l]? with
 |none=>rw[eo] at h;exact nB h
 |some o=>
  rw[eo] at h;refine jB (R.get eo) λ_ ob h5 h6=>?_;cases o with
  |cell w=>exact bx h6 λv a _=>⟨ob,some v,h5,a,h6.live⟩
  |de=>exact⟨ob,none,h5,h6,OR.live h6⟩
  |_=>exact nB h
def BH(i:Nat)(v:V):ad Unit:=λσ Q=>aA σ.iA[i]? λl=>gd (pJ σ.mem[l]?) (Q () {σ with mem:=σ.mem.set l (.cell v)})
theorem oe(H:cc F gs .cell)(i:Nat){pos:Pos}(B:F.cells[i]?=some x)(h:NE g F k e W)(M:∀d,swapsWith e (some (.Name x p)) pos.line (aK F d)=Pure.pure false:=by intro _;rfl):NS g F k (.Assign [.Name x p] e pos) (ao W λv=>ao (BH i v) lz):=by refine⟨λd A af hr s wd σ Q Z R J=>wpAny_Assign_Name (bb.go (h.run d A af hr) Z R J λu s' bg v a9 h1 R' h3 h4=>ah h4 λl e T=>xA (aL T) λhc C3=>?_) (M d)⟩;have YV:=R'.iA i _ l B e;refine d3 (R'.WC hc) λob aeQ h5 h6 _=>?_;refine wpAny_storeName_cell H.kind (H.cell (cV B)).1 YV.2 ⟨ob,h5,h6⟩ λh' hv z=>?_;refine bx hv λIE m r=>?_;exact az bg .next _ h1 (R'.setM (o':=.cell v) YV.1 z m ⟨u,r,h3⟩) rfl C3
end
noncomputable def yW:List (Str×Nat):=[("_law_cells",231),("_law_names",238),("_law_events",245),("_law_walk",250),("_law_page",257),("_law_words",264),("_law_rule",271),("_levenshtein_distance",224),("_substitution_cost",217),
 ("_escape_cdata_c14n",161),("_escape_attrib_c14n",168),("C14NWriterTarget",150),("_netrclex",206),("_namespace_map",44)]
noncomputable def wm:List Str:=["enumerate","range","len","set","sorted","iter","min","list","isinstance","bool"]
noncomputable def DL:List (Str×Int):=[("_MAX_STRING_SIZE",40),("_MOVE_COST",2),("_CASE_COST",1)]
structure HJ where
 name:Str
 params:Arguments
 body:List Stmt
 val:Option PySem.Expr
 scope:Scope
 pos:Pos
noncomputable def YW:HJ:=⟨"",⟨[],[],none,[],[],none,[]⟩,[],none,⟨.function,[],false,false,[]⟩,⟨0,0,0,0⟩⟩
noncomputable def dcG(e:PySem.Expr):List Comprehension:=by
 cases e with
 |DictComp _ _ g=>exact g
 |_=>exact[]
noncomputable def aaJ(e:PySem.Expr):List Keyword:=by
 cases e with
 |Call _ _ k=>exact k
 |_=>exact[]
noncomputable def aaK(e:PySem.Expr):HJ:=by
 cases e with
 |Lambda params body scope pos=>exact⟨"<lambda>",params,[],some body,scope,pos⟩
 |_=>exact YW
noncomputable def aaL(s:Stmt):HJ:=by
 cases s with
 |FunctionDef name params body _ _ _ scope _ _ pos=>exact⟨name,params,body,none,scope,pos⟩
 |Assign _ v=>exact((dcG v).head?.bind λc=>(aaJ c.iter).head?).elim YW λk=>aaK k.value
 |_=>exact YW
noncomputable def WD(P:Params)(f:Addr)(i:Nat):HJ:=((bh (KK P) f)[i]?.map aaL).getD YW
noncomputable def dU(P:Params):HJ:=WD P 264 2
noncomputable def qA(P:Params):HJ:=WD P 126 6
noncomputable def N6(P:Params):PySem.Expr:=(qA P).val.getD (.Constant .none 0 ⟨0,0,0,0⟩)
noncomputable def rB:Str:="_law_words.<locals>.read"
noncomputable def HK:Str:="C14NWriterTarget._start.<locals>.<lambda>"
structure cD(P:Params)(g:G):Prop where
 wp:g.w.params=P
 K:g.K=KK P
 mg:∀(i:Nat){x:Str}{a:Nat},yW[i]?=some (x,a)->g.mg x=some (.ref a)
 mgn:∀(i:Nat){x:Str},wm[i]?=some x->g.mg x=none
 mgi:∀(i:Nat){x:Str}{n:Int},DL[i]?=some (x,n)->∃t,g.mg x=some (.int n t)
 tabs:g.tabs=[259,123]
 hd0:CodeHd g.hb 263 259
 hd1:CodeHd g.hb 125 123
 fo0:g.fo 0=λfA fx c' io=>fnMade (dU P).name rB (dU P).params (dU P).body (dU P).scope fA fx ((g.mg "__name__").getD .none) c' io
 tp0:g.tp 0=(dU P).pos
 tq0:g.tq 0=rB
 ff0:g.ff 0=c9 (dU P).scope
 fo1:g.fo 1=λfA fx c' io=>kla_obj "<lambda>" HK (qA P).params (N6 P) (qA P).scope fA ((g.mg "__name__").getD .none) c' io
 tp1:g.tp 1=(qA P).pos
 tq1:g.tq 1=HK
 ff1:g.ff 1=c9 (qA P).scope
section
theorem cO.conv{f:Value}{W W':List V->ad V}(h:cO g k f W)(J:∀vs σ Q,W' vs σ Q->W vs σ Q):cO g k f W':=λF d A af vs us hr D s wd σ Q Z R h'=>h F d A af vs us hr D s wd σ Q Z R (J vs σ Q h')
theorem bG(U:cD P g)(H:cc F gs ck)(i j:Nat){pos:Pos}(B:gs[i]?=some x)(hj:wm[j]?=some x)(hv:bootBuiltins x=some v)(hn:x≠"__name__":=by decide+kernel):NE g F k (.Name x pos) (eK (.fb v)):=Sp H i B (U.mgn j hj) hv hn
theorem k5(U:cD P g)(H:cc F gs ck)(i j:Nat){a:Nat}{pos:Pos}(B:gs[i]?=some x)(hj:yW[j]?=some (x,a)):NE g F k (.Name x pos) (eK (.fb (.ref a))):=Wj H i B (U.mg j hj)
theorem og(U:cD P g)(H:cc F gs ck)(i j:Nat){n:Int}{pos:Pos}(B:gs[i]?=some x)(hj:DL[j]?=some (x,n)):NE g F k (.Name x pos) (eK (.int n)):=let ⟨_,e⟩:=U.mgi j hj
 Kc H i B e
theorem wn(U:cD P g){W:ad Fl}{W':List V->ad V}(H:cc (fc (KK P) f names []) gs ck)(hb:NB g (fc (KK P) f names []) k (bh (KK P) f) W)(n:Nat)(dflt:List V){name qn:Str} {params:Arguments} {dV kV fx pm ct oc:Value} {an od:Option Addr} {Aw:Array (Option Value)}(ho:(KK P).lookup f=some ⟨oc,od,.func (fnOf name qn params (bh (KK P) f) (bR (KK P) f).scope dV kV fx pm an (bR (KK P) f).code ct),Aw⟩)(hc:(codeIn (KK P) (bR (KK P) f).code qn&&d4 (bR (KK P) f).qualname qn&& !(bR (KK P) f).scope.isCoroutine&& !(bR (KK P) f).scope.isGenerator&&(bR (KK P) f).scope.names.all λx=>!(x.2== .cell))=true)(m:∀(s:Shared)(us:List Value),(KK P).In s.heap->us.length=n->∃ds,(∀wd,aE (VR wd) dflt ds)/\BindsTo s (fnOf name qn params (bh (KK P) f) (bR (KK P) f).scope dV kV fx pm an (bR (KK P) f).code ct) ⟨us,[]⟩ ((names.take (n+dflt.length)).zip (us++ds)))(J:∀vs σ Q,W' vs σ Q->vs.length=n/\W ⟨iD names.length (vs++dflt),[],σ.mem⟩ λfl a9=>Q (nV fl) {σ with mem:=a9.mem}):cO g (k+1) (.ref f) W':=by
 simp only[aM,gS,i_] at hc;have Y:=(cq _ _).mp hc.1.1.1.2;refine cO.conv (M6 hb.run (by rw[U.K];exact ho) (by rw[U.K];exact hc.1.1.1.1) (ag (λq:Str=>q++(".<locals>.":Str)) Y) n dflt (by rw[U.K];exact m) H.nd (λx B=>(H.loc B).1) (λx B e=>?_) hc.1.1.2 hc.1.2 H.kind) λvs σ Q h=>xA (J vs σ Q h) λe h'=>CH.mpr ⟨by rw[e];exact h_ _,h'⟩
 have:=hc.2 x B;rw[e] at this;exact nB this.symm
noncomputable def Kn:List Str:=["_write","_data","_with_comments","_strip_text","_exclude_attrs","_exclude_tags","_rewrite_prefixes","_qname_aware_tags","_find_qname_aware_attrs","_declared_ns_stack","_ns_stack","_prefix_map","_preserve_space","_pending_start","_root_seen","_root_done","_ignored_depth"]
noncomputable def Ko:List Str:=["lineno","instream","whitespace","pushback","read"]
theorem cA(U:cD P g):v_ g.K 150 Kn:=by rw[U.K];exact PO (by kernel_rfl)
theorem m3(U:cD P g):v_ g.K 206 Ko:=by rw[U.K];exact PO (by kernel_rfl)
theorem d90(U:cD P g):Nm g.K 150 "_qname" 90:=by rw[U.K];exact⟨by kernel_rfl,by kernel_rfl,by kernel_rfl,by kernel_rfl,by kernel_rfl,by kernel_rfl,by decide+kernel⟩
theorem aaM(U:cD P g):Nm g.K 206 "_read_char" 189:=by rw[U.K];exact⟨by kernel_rfl,by kernel_rfl,by kernel_rfl,by kernel_rfl,by kernel_rfl,by kernel_rfl,by decide+kernel⟩
theorem N7(U:cD P g):xB g.K 206 "read":=⟨(m3 U).name (.tail _ (.tail _ (.tail _ (.tail _ (.head _))))),λf e=>by
 have:findIn (KK P) (.ref 206) "read"=some none:=by kernel_rfl
 rw[U.K,this] at e;cases e⟩
theorem xP(U:cD P g):xB g.K 150 "_write":=⟨(cA U).name (.head _),λf e=>by
 have:findIn (KK P) (.ref 150) "_write"=some none:=by kernel_rfl
 rw[U.K,this] at e;cases e⟩
theorem gL(U:cD P g):xB g.K 150 "_iter_namespaces":=by
 rw[U.K];have h1:findIn (KK P) (.ref 150) "_iter_namespaces"=some (some (.ref 75)):=by kernel_rfl
 exact⟨⟨_,h1,λf e=>by obtain rfl:=aq e;exact⟨75,some (.builtin "function.__get__"),rfl,by kernel_rfl,by kernel_rfl⟩⟩,λf e=>by rw[h1] at e;cases e;kernel_rfl⟩
theorem g8(U:cD P g)(h:keepIn (KK P) (.ref f)=true):∀M h,g.K.In h->jK M h (.ref f):=λ_ _ X=>I3 (by rw[U.K];exact h) X
theorem iO(U:cD P g){n:Str}{pos:Pos}{W:List V->ad V}(OC:v_ g.K C ns)(S:findIn (KK P) (.ref C) n=some (some (.ref f)))(Vb:typeIn (KK P) (.ref f)=some (.type "function"))(Vc:keepIn (KK P) (.ref f)=true)(hc:cz g k (.ref f) W)(ho:NE g F k o Wo) (ha:NL g F k args wa) (l:fR o n ap args pos:=by intro _;exact⟨_,rfl⟩) (i:∀bc pos,((backTo pos (starEach args bc)).any (·.1))=false:=by intro _ _;rfl):NE g F k (.Call (.Attribute o n ap) args [] pos) (ao Wo λb=>V_ C n b (ao wa (xN W b))):=Sq OC.cls (by rw[U.K];exact S) (by rw[U.K];exact Vb) (by rw[U.K];exact Vc) hc ho ha l i
theorem HL(U:cD P g){n:Str}{pos:Pos}(hv:NE g F k e Wv)(ho:NE g F k o Wo)(hn:n="_iter_namespaces")(M:∀d,swapsWith e (some (.Attribute o n p)) pos.line (aK F d)=Pure.pure false):NS g F k (.Assign [.Attribute o n p] e pos) (ao Wv λv=>ao Wo λa=>ao (GH 150 n a v) lz):=by subst hn;exact⟨AG hv.run ho.run rfl (cA U).cls (gL U).toNameK M⟩
theorem aaN(U:cD P g):n9 g (fc (KK P) 264 names cells) 0 263 259:=⟨by rfl,U.hd0,by rw[U.tabs];rfl⟩
theorem aaO(U:cD P g):n9 g (fc (KK P) 126 names cells) 1 125 123:=⟨by rfl,U.hd1,by rw[U.tabs];rfl⟩
noncomputable def nu:List (Str×V):=[("http://www.w3.org/XML/1998/namespace",.str "xml"),("http://www.w3.org/1999/xhtml",.str "html"),("http://www.w3.org/1999/02/22-rdf-syntax-ns#",.str "rdf"),("http://schemas.xmlsoap.org/wsdl/",.str "wsdl"),("http://www.w3.org/2001/XMLSchema",.str "xs"),("http://www.w3.org/2001/XMLSchema-instance",.str "xsi"),("http://purl.org/dc/elements/1.1/",.str "dc")]
theorem WE(U:cD P g):∀wd,aE (mo g wd) nu (QB P):=by obtain rfl:=U.wp;intro wd;exact .cons ⟨_,_,rfl,_,rfl⟩ (.cons ⟨_,_,rfl,_,rfl⟩ (.cons ⟨_,_,rfl,_,rfl⟩ (.cons ⟨_,_,rfl,_,rfl⟩ (.cons ⟨_,_,rfl,_,rfl⟩ (.cons ⟨_,_,rfl,_,rfl⟩ (.cons ⟨_,_,rfl,_,rfl⟩ .nil))))))
theorem nsK:∃n,(KK P).lookup 44=some (dictOf (QB P) n):=⟨7,by rfl⟩
theorem nsN:mt nu=true:=by kernel_rfl
theorem N8(U:cD P g){n:Str}{pos:Pos}(BD:n="items")(h:NE g F k o (eK (.fb (.ref 44))))(l:fR o n ap [] pos):NE g F k (.Call (.Attribute o n ap) [] [] pos) (jU (.bP .bI [.fb (.ref 44)])):=HI (by rw[U.K];exact nsK.choose_spec) (WE U) nsN (by decide) BD h l
theorem N9(U:cD P g):cz g k (.type "list") (BE 44 nu):=BF (by rw[U.K];exact nsK.choose_spec) (WE U) nsN (by decide)
end
end
section
variable {params:Arguments}{Aw:Array (Option Value)}{F:df}{g:G}{l0:List (Option Bool)}{X ce iF z:List Nat}{base me aD t:List O}{gs names ts:List Str}{xs:List V}{W':List V->ad V}{us:List Value}{ck:NameKind}{i j l m:Nat}{o:O}{an od:Option Addr}{P:Params}{W:ad Fl}{σ:St}{name qn lA x y:Str}{B C α β:Type}{v:V}{Q:V->St->Prop}{ct dV fx kV oc pm:Value}
noncomputable def L2{A:Type}(R:(A->B->Prop)->Prop)(a:A)(b:B):Prop:=∀M:A->B->Prop,R M->M a b
noncomputable def L3{A:Type}(R:(A->B->C->Prop)->Prop)(a:A)(b:B)(c:C):Prop:=∀M:A->B->C->Prop,R M->M a b c
noncomputable def L4{A D:Type}(R:(A->B->C->D->Prop)->Prop)(a:A)(b:B)(c:C)(d:D):Prop:=∀M:A->B->C->D->Prop,R M->M a b c d
theorem qB{A:Type}{R:(A->B->Prop)->Prop}{M:A->B->Prop}(h:R M):∀a b,L2 R a b->M a b:=λ_ _ d=>d M h
theorem k6{A:Type}{R:(A->B->C->Prop)->Prop}{M:A->B->C->Prop}(h:R M):∀a b c,L3 R a b c->M a b c:=λ_ _ _ d=>d M h
theorem Sy{A D:Type}{R:(A->B->C->D->Prop)->Prop}{M:A->B->C->D->Prop}(h:R M):∀a b c d,L4 R a b c d->M a b c d:=λ_ _ _ _ d=>d M h
theorem b_{b:Bool}{P:Prop}(h:b=true)(hp:P):gd b P:=CH.mpr ⟨h,hp⟩
theorem av{o:Option α}{v:α}{K:α->Prop}(e:o=some v)(h:K v):aA o K:=gq e h
def pP(Q:V->St->Prop)(lo:List (Option V))(ce:List Nat):Fl->St->Prop:=λfl a9=>Q (nV fl) ⟨lo,ce,a9.mem⟩
theorem pQ{l1 lo:List (Option V)}{N:List Nat}(h:W ⟨l1,N,me⟩ (pP Q lo ce)):W ⟨l1,N,St.mem ⟨lo,ce,me⟩⟩ (pP Q (St.loc ⟨lo,ce,me⟩) (St.iA ⟨lo,ce,me⟩)):=h
theorem w5{b:Bool}{P Q:Prop}(h:b=true)(q:P):br b P Q:=by rw[h];exact q
theorem xQ{b:Bool}{P Q:Prop}(h:b=false)(q:Q):br b P Q:=by rw[h];exact q
theorem rC{b:Bool}{P Q P' Q':Prop}(h:br b P Q)(h1:P->P')(h2:Q->Q'):br b P' Q':=by
 cases b
 ·exact h2 h
 ·exact h1 h
theorem oh{b b':Bool}{P Q P' Q':Prop}(e:b'=b)(h:br b P Q)(h1:P->P')(h2:Q->Q'):br b' P' Q':=by subst e;exact rC h h1 h2
section
variable {k:Nat}
theorem N_(U:cD P g){f:Addr}(H:cc (fc (KK P) f names []) gs ck)(hb:NB g (fc (KK P) f names []) k (bh (KK P) f) W)(ho:(KK P).lookup f=some ⟨oc,od,.func (fnOf name qn params (bh (KK P) f) (bR (KK P) f).scope dV kV fx pm an (bR (KK P) f).code ct),Aw⟩)(hc:(codeIn (KK P) (bR (KK P) f).code qn&&d4 (bR (KK P) f).qualname qn&& !(bR (KK P) f).scope.isCoroutine&& !(bR (KK P) f).scope.isGenerator&&(bR (KK P) f).scope.names.all λx=>!(x.2== .cell))=true)(m:∀S,peek (KK P) S (bindArgs (fnOf name qn params (bh (KK P) f) (bR (KK P) f).scope dV kV fx pm an (bR (KK P) f).code ct) ⟨[],[]⟩)=some [])(J:∀vs σ Q,W' vs σ Q->vs=[]/\W ⟨iD names.length [],[],σ.mem⟩ (pP Q σ.loc σ.iA)):cO g (k+1) (.ref f) W':=wn U H hb 0 [] ho hc (λs us X Z=>by obtain rfl:=List.length_eq_zero_iff.mp Z;exact⟨[],λ_=>.nil,ic X m⟩) λvs σ Q h=>by refine xA (J vs σ Q h) λDs h1=>?_;obtain rfl:=Ds;exact⟨rfl,h1⟩
theorem lB(U:cD P g){f:Addr}(H:cc (fc (KK P) f names []) gs ck)(hb:NB g (fc (KK P) f names []) k (bh (KK P) f) W)(dflt:List V)(ds:List Value)(hd:∀wd,aE (VR wd) dflt ds)(ho:(KK P).lookup f=some ⟨oc,od,.func (fnOf name qn params (bh (KK P) f) (bR (KK P) f).scope dV kV fx pm an (bR (KK P) f).code ct),Aw⟩)(hc:(codeIn (KK P) (bR (KK P) f).code qn&&d4 (bR (KK P) f).qualname qn&& !(bR (KK P) f).scope.isCoroutine&& !(bR (KK P) f).scope.isGenerator&&(bR (KK P) f).scope.names.all λx=>!(x.2== .cell))=true)(m:∀a S,peek (KK P) S (bindArgs (fnOf name qn params (bh (KK P) f) (bR (KK P) f).scope dV kV fx pm an (bR (KK P) f).code ct) ⟨[a],[]⟩)=some ((names.take (1+dflt.length)).zip (a::ds)))(J:∀vs σ Q,W' vs σ Q->∃a,vs=[a]/\W ⟨iD names.length (a::dflt),[],σ.mem⟩ (pP Q σ.loc σ.iA)):cO g (k+1) (.ref f) W':=wn U H hb 1 dflt ho hc (λs us X Z=>by obtain⟨a,rfl⟩:=List.length_eq_one_iff.mp Z;exact⟨ds,hd,ic X (m a)⟩) λvs σ Q h=>by refine bx (J vs σ Q h) λa Y h1=>?_;obtain rfl:=Y;exact⟨rfl,h1⟩
theorem rD(U:cD P g){f:Addr}(H:cc (fc (KK P) f names []) gs ck)(hb:NB g (fc (KK P) f names []) k (bh (KK P) f) W)(dflt:List V)(ds:List Value)(hd:∀wd,aE (VR wd) dflt ds)(ho:(KK P).lookup f=some ⟨oc,od,.func (fnOf name qn params (bh (KK P) f) (bR (KK P) f).scope dV kV fx pm an (bR (KK P) f).code ct),Aw⟩)(hc:(codeIn (KK P) (bR (KK P) f).code qn&&d4 (bR (KK P) f).qualname qn&& !(bR (KK P) f).scope.isCoroutine&& !(bR (KK P) f).scope.isGenerator&&(bR (KK P) f).scope.names.all λx=>!(x.2== .cell))=true)(m:∀a b S,peek (KK P) S (bindArgs (fnOf name qn params (bh (KK P) f) (bR (KK P) f).scope dV kV fx pm an (bR (KK P) f).code ct) ⟨[a,b],[]⟩)=some ((names.take (2+dflt.length)).zip (a::b::ds)))(J:∀vs σ Q,W' vs σ Q->∃a b,vs=[a,b]/\W ⟨iD names.length (a::b::dflt),[],σ.mem⟩ (pP Q σ.loc σ.iA)):cO g (k+1) (.ref f) W':=wn U H hb 2 dflt ho hc (λs us X Z=>by obtain⟨a,b,rfl⟩:=Dt Z;exact⟨ds,hd,ic X (m a b)⟩) λvs σ Q h=>by refine dB (J vs σ Q h) λa b jM h1=>?_;obtain rfl:=jM;exact⟨rfl,h1⟩
theorem us3(h:us.length=3):∃a b c,us=[a,b,c]:=by refine yc (xn h) λa r jM=>?_;obtain rfl:=jM;refine yc (Dt (by simpa using h)) λb c jM=>?_;obtain rfl:=jM;exact⟨a,b,c,rfl⟩
theorem us4(h:us.length=4):∃a b c d,us=[a,b,c,d]:=by refine yc (xn h) λa r jM=>?_;obtain rfl:=jM;refine Gw (us3 (by simpa using h)) λb c d qi=>?_;obtain rfl:=qi;exact⟨a,b,c,d,rfl⟩
theorem yX(U:cD P g){f:Addr}(H:cc (fc (KK P) f names []) gs ck)(hb:NB g (fc (KK P) f names []) k (bh (KK P) f) W)(ho:(KK P).lookup f=some ⟨oc,od,.func (fnOf name qn params (bh (KK P) f) (bR (KK P) f).scope dV kV fx pm an (bR (KK P) f).code ct),Aw⟩)(hc:(codeIn (KK P) (bR (KK P) f).code qn&&d4 (bR (KK P) f).qualname qn&& !(bR (KK P) f).scope.isCoroutine&& !(bR (KK P) f).scope.isGenerator&&(bR (KK P) f).scope.names.all λx=>!(x.2== .cell))=true)(m:∀a b c S,peek (KK P) S (bindArgs (fnOf name qn params (bh (KK P) f) (bR (KK P) f).scope dV kV fx pm an (bR (KK P) f).code ct) ⟨[a,b,c],[]⟩)=some ((names.take 3).zip [a,b,c]))(J:∀vs σ Q,W' vs σ Q->∃a b c,vs=[a,b,c]/\W ⟨iD names.length [a,b,c],[],σ.mem⟩ (pP Q σ.loc σ.iA)):cO g (k+1) (.ref f) W':=wn U H hb 3 [] ho hc (λs us X Z=>by obtain⟨a,b,c,rfl⟩:=us3 Z;exact⟨[],λ_=>.nil,ic X (m a b c)⟩) λvs σ Q h=>by refine nf (J vs σ Q h) λa b c qi h1=>?_;obtain rfl:=qi;exact⟨rfl,h1⟩
theorem Fn(U:cD P g){f:Addr}(H:cc (fc (KK P) f names []) gs ck)(hb:NB g (fc (KK P) f names []) k (bh (KK P) f) W)(ho:(KK P).lookup f=some ⟨oc,od,.func (fnOf name qn params (bh (KK P) f) (bR (KK P) f).scope dV kV fx pm an (bR (KK P) f).code ct),Aw⟩)(hc:(codeIn (KK P) (bR (KK P) f).code qn&&d4 (bR (KK P) f).qualname qn&& !(bR (KK P) f).scope.isCoroutine&& !(bR (KK P) f).scope.isGenerator&&(bR (KK P) f).scope.names.all λx=>!(x.2== .cell))=true)(m:∀a b c d S,peek (KK P) S (bindArgs (fnOf name qn params (bh (KK P) f) (bR (KK P) f).scope dV kV fx pm an (bR (KK P) f).code ct) ⟨[a,b,c,d],[]⟩)=some ((names.take 4).zip [a,b,c,d]))(J:∀vs σ Q,W' vs σ Q->∃a b c d,vs=[a,b,c,d]/\W ⟨iD names.length [a,b,c,d],[],σ.mem⟩ (pP Q σ.loc σ.iA)):cO g (k+1) (.ref f) W':=wn U H hb 4 [] ho hc (λs us X Z=>by obtain⟨a,b,c,d,rfl⟩:=us4 Z;exact⟨[],λ_=>.nil,ic X (m a b c d)⟩) λvs σ Q h=>by refine Cu (J vs σ Q h) λa b c d DH h1=>?_;obtain rfl:=DH;exact⟨rfl,h1⟩
noncomputable abbrev aaP (P:Params):df:=fc (KK P) 238 [] []
theorem aaQ(P:Params):cc (aaP P) [] .cell:=ip (by kernel_rfl)
noncomputable def om:List V:=[.str "a",.str "b",.str "{u}a",.str "{u}b",.str "{v}a",.str "{v}b"]
noncomputable def WF:List V->ad V:=L3 λM=>∀{lo ce me Q},Q (.loc me.length) ⟨lo,ce,me++[.list om]⟩->M [] ⟨lo,ce,me⟩ Q
theorem Fo(U:cD P g):cO g (k+1) (.ref 238) WF:=by have H:=aaQ P;refine N_ U H (NB.at rfl (by exact(ab (cP (eG (ae bz (ae bz (ae bz (ae bz (ae bz (ae bz ay)))))))) aC))) rfl (by kernel_rfl) (λS=>rfl) ?_;refine k6 (@λ_ _ _ _ h=>?_);exact⟨rfl,h⟩
noncomputable abbrev aaR (P:Params):df:=fc (KK P) 217 ["ch_a","ch_b"] []
theorem aaS(P:Params):cc (aaR P) ["_CASE_COST","_MOVE_COST"] .cell:=ip (by kernel_rfl)
noncomputable def bn(x y:Str):Int:=bif d4 x y then 0 else bif d4 (Txt.lower x) (Txt.lower y) then 1 else 2
noncomputable def aaT:List V->ad V:=L3 λM=>∀{x y:Str}{σ Q},Nat.ble x.length 5592405=true->Nat.ble y.length 5592405=true->Q (.int (bn x y)) σ->M [.str x,.str y] σ Q
theorem Oa(U:cD P g):cO g (k+1) (.ref 217) aaT:=by
 have H:=aaS P;refine rD U H (NB.at rfl (by exact(ab (il (aN gr (ai H 0 rfl) (ai H 1 rfl)) (ab (cP bv) aC) aC) (ab (il (aN gr (bZ .str kD PySem.F.slot_str_lower PySem.F.type_str_lower xr (ai H 0 rfl) ay) (bZ .str kD PySem.F.slot_str_lower PySem.F.type_str_lower xr (ai H 1 rfl) ay)) (ab (cP (og U H 0 2 rfl rfl)) aC) aC) (ab (cP (og U H 1 1 rfl rfl)) aC))))) [] [] (λ_=>.nil) rfl (by kernel_rfl) (λa b S=>rfl) ?_;refine k6 (@λx y σ Q B hy h=>?_);refine⟨_,_,rfl,?_⟩;refine pQ ?_;unfold bn at h;refine bu (λe=>?_) (λe=>?_)
 ·rw[e] at h;exact h
 ·rw[e] at h;refine b_ B (b_ hy ?_);refine bu (λe=>?_) (λe=>?_)
  ·rw[e] at h;exact h
  ·rw[e] at h;exact h
end
section
variable {cL:St->Nat->Option (Option β)}{As:β->ad Unit}{Wt:ad Bool}{We:ad Unit}{Wb:ad Fl}{n:Nat}
theorem jj{b:β}{Q:Unit->St->Prop}(e:cL σ i=some (some b))(h:As b σ (tS Wt (PB We (λE=>gx cL As Wt We n (i+1) E Q)))):gx cL As Wt We (n+1) i σ Q:=gq e h
theorem jk{Q:Unit->St->Prop}(e:cL σ i=some none)(h:Q () σ):gx cL As Wt We (n+1) i σ Q:=gq e h
theorem fq{b:β}{Q:Fl->St->Prop}(e:cL σ i=some (some b))(h:As b σ (tS Wb (QY (λE=>gu cL As Wb n (i+1) E Q) Q))):gu cL As Wb (n+1) i σ Q:=gq e h
theorem iP{Q:Fl->St->Prop}(e:cL σ i=some none)(h:Q .next σ):gu cL As Wb (n+1) i σ Q:=gq e h
end
theorem ba{o:Option V}(h:σ.mem[l]?=some (.list xs))(e:xs[i]?=o):bj l σ i=some o:=by unfold bj;rw[h];exact ag some e
theorem ac{b:List O}(h:b[l]?=some o):(b++t)[l]?=some o:=by rw[sr (List.getElem?_eq_some_iff.mp h).1];exact h
theorem aR{b:List O}{x:O}:(b++x::t)[b.length]?=some x:=by simp
theorem gy{b:List O}{x y:O}:(b++x::y::t)[b.length+1]?=some y:=by simp
theorem kQ{b:List O}{x y:O}:(b++x::t).set b.length y=b++y::t:=by simp[lU]
theorem wo{b:List O}{x y z:O}:(b++x::y::t).set (b.length+1) z=b++x::z::t:=by simp[lU]
theorem fD{xs r:List α}{x:α}(h:xs.drop i=x::r):xs[i]?=some x/\xs.drop (i+1)=r:=by refine⟨by have:=ag (·[0]?) h;simpa using this,?_⟩;have:=ag List.tail h;rwa[pg,pi] at this
theorem drop_nil{xs:List α}(h:xs.drop i=[]):xs[i]?=none:=by rw[kC];rwa[j6] at h
theorem Kp{o:Option O}(h:o=some (.list xs)):((tV o).bind λxs=>some (l,xs))=some (l,xs):=bE (bE h)
theorem cW{mem:List O}(h:mem[l]?=some (.list xs)):dC mem (.loc l)=some (l,xs):=Kp h
theorem cM{n:Nat}(h:n<=10000):bw n=true:=cU (am h (by decide))
theorem DM(h:σ.mem[l]?=some (.list xs))(hz:xs.length<=10000)(q:Q .none {σ with mem:=σ.mem.set l (.list (xs++[v]))}):gE [.loc l,v] σ Q:=av (cW h) (b_ (cM hz) q)
theorem jm{mem:List O}{loc:List (Option V)}(h:mem[l]?=some (.list xs)):kO (.loc l) ⟨loc,ce,mem⟩=some l:=bE (o:=tV mem[l]?) (bE h)
section
variable {k:Nat}
noncomputable abbrev aaU (P:Params):df:=fc (KK P) 250 ["levels"] []
theorem aaV(P:Params):cc (aaU P) [] .cell:=ip (by kernel_rfl)
theorem DN{li:Nat}{rv:O}(Sh:base[li]?=some (.list xs)){Q:Unit->St->Prop}:∀(r:List V)(i:Nat)(bV:List V)(loc:List (Option V)),loc.length=2->xs.drop i=r->bV.length+r.length<=10000->(∀loc,loc.length=2->Q () ⟨loc,iF,base++[rv,.list (bV++r)]⟩)-> gx (bj li) (du 1) (c8 true) (ua (dY 1) (base.length+1)) (r.length+1) i ⟨loc,iF,base++[rv,.list bV]⟩ Q:=λr=>by
 induction r with
 |nil=>exact λi bV loc Z hd hz h=>jk (ba (ac Sh) (drop_nil hd)) (by rw[aS] at h;exact h loc Z)
 |cons v r T=>intro i bV loc Z hd hz h;refine xA (fD hd) λh1 h2=>?_;rw[aJ] at hz;refine yc (Dt Z) λx y jM=>?_;obtain rfl:=jM;refine jj (ba (ac Sh) h1) ?_;refine av (cW gy) (b_ (cM (aQ [_,_] (.c 1 (.a (.v 0) (.a (.v 1) (.n 1))) (.n 10000) .nil) 0 (.v 0) (.n 10000) tt hz)) ?_);refine(?_ :gx _ _ _ _ _ _ ⟨[x,some v],iF,(base++[rv,.list bV]).set (base.length+1) (.list (bV++[v]))⟩ Q);rw[wo];exact T (i+1) (bV++[v]) _ rfl h2 (by rw[ak];simp;exact aQ [_,_] (.c 1 (.a (.v 0) (.a (.v 1) (.n 1))) (.n 10000) .nil) 0 (.a (.a (.v 0) (.n 1)) (.v 1)) (.n 10000) tt hz) λloc Z=>by rw[au];exact h loc Z
theorem DO{o:List Nat}{Q:Unit->St->Prop}{r:List Nat}{rs:List (List V)}(ha:aE (λl xs=>base[l]?=some (.list xs)) r rs):∀(i:Nat)(bV:List V)(loc:List (Option V)),loc.length=2->o.drop i=r->bV.length+rs.flatten.length<=10000-> (∀loc,loc.length=2->Q () ⟨loc,iF,base++[.list (o.map .loc),.list (bV++rs.flatten)]⟩)-> gx (bj base.length) (du 0) (c8 true) (PS (dY 0) (du 1) (dY 1) (base.length+1)) (r.length+1) i ⟨loc,iF,base++[.list (o.map .loc),.list bV]⟩ Q:=by
 induction ha with
 |nil=>exact λi bV loc Z hd hz h=>jk (ba aR (by rw[bi,drop_nil hd];rfl)) (by simpa using h loc Z)
 | @cons l xs r rs h1 ha T=>intro i bV loc Z hd hz h;refine xA (fD hd) λh2 h3=>?_;rw[List.flatten_cons,ak] at hz;refine yc (Dt Z) λx y jM=>?_;obtain rfl:=jM;refine jj (ba aR (by rw[bi,h2];rfl)) ?_;refine av (jm (ac h1)) ?_;refine⟨xs.length+1,DN h1 xs 0 bV _ rfl rfl (aQ [_,_,_] (.c 1 (.a (.v 0) (.a (.v 1) (.v 2))) (.n 10000) .nil) 0 (.a (.v 0) (.v 1)) (.n 10000) tt hz) λloc Z=>?_⟩;exact T (i+1) (bV++xs) loc Z h3 (by rw[ak];exact aQ [_,_,_] (.c 1 (.a (.v 0) (.a (.v 1) (.v 2))) (.n 10000) .nil) 0 (.a (.a (.v 0) (.v 1)) (.v 2)) (.n 10000) tt hz) λloc Z=>by have:=h loc Z;rwa[List.flatten_cons,<-au] at this
noncomputable def WG:List V->ad V:=L3 λM=>∀{l:Nat}{ls:List Nat}{rs:List (List V)}{lo ce me Q},me[l]?=some (.list (ls.map .loc))->aE (λl xs=>me[l]?=some (.list xs)) ls.reverse rs->ls.length<=1000->rs.flatten.length<=10000->
 Q (.loc (me.length+1)) ⟨lo,ce,me++[.list (ls.reverse.map .loc),.list rs.flatten]⟩->M [.loc l] ⟨lo,ce,me⟩ Q
theorem Ob(U:cD P g):cO g (k+1) (.ref 250) WG:=by
 have H:=aaV P;refine lB U H (NB.at rfl (by exact(ab (cP (DK (rA:=[]) ["level","pair"] [] [] (by kernel_rfl) (by kernel_rfl) (HE (ai H 0 rfl) HB) (λH1=>(b8 H1 0 rfl)) (λH1=>(ai H1 0 rfl)) (λH1=>(b8 H1 1 rfl)) (λH1=>(ai H1 1 rfl)) (z:=by intro _ _;rfl) (yF:=by intro _ _;rfl))) aC))) [] [] (λ_=>.nil) rfl (by kernel_rfl) (λa S=>rfl) ?_;refine k6 (@λl ls rs lo ce me Q h1 h2 h3 h4 h=>?_);refine⟨_,rfl,?_⟩;refine pQ ?_;refine av (cW h1) (b_ (cM (by rw[ax];exact aQ [_] (.c 1 (.v 0) (.n 1000) .nil) 0 (.v 0) (.n 10000) tt h3)) ?_);rw[<-gU];refine av (jm aR) ⟨ls.reverse.length+1,?_⟩;have:=DO (o:=ls.reverse) (iF:=[]) (Q:=λ_ a9=>Q (.loc (me.length+1)) ⟨lo,ce,a9.mem⟩) h2 0 [] [none,none] rfl rfl (by simpa using h4) λloc _=>h;have e3:(me++[O.list (ls.reverse.map V.loc)])++[O.list []]=me++[.list (ls.reverse.map V.loc),.list []]:=by simp
 have e2:(me++[O.list (ls.reverse.map V.loc)]).length=me.length+1:=by simp
 refine Eq.mpr ?_ this;rw[<-e3,<-e2];rfl
end
noncomputable abbrev ch (x:Str):List Nat:=x.cps.toList
theorem Fp(h:ch x=ch y):x=y:=by cases x;cases y;exact ag Str.mk (Array.toList_inj.mp h)
theorem mB(x y:Str):ch (x++y)=ch x++ch y:=by show(x.cps++y.cps).toList=_;rw[Array.toList_append]
theorem qC(x:Str):x.length=(ch x).length:=Array.length_toList.symm
theorem Fq(x:Str)(c:Nat):xc ⟨#[c]⟩ x=decide (c∈ch x):=StrLaws.found_one x c
noncomputable def yY(c:Nat)(z:List Nat)(k:Nat):List Nat:=bif Nat.beq k c then z else[k]
theorem rE{c:Nat}:∀{l:List Nat},c∉l->l.flatMap (yY c z)=l
 | [],_=>rfl
 |k::r,h=>by have h1:Nat.beq k c=false:=Bool.eq_false_iff.mpr λe=>h (by rw[bK e];exact .head _);rw[gQ,rE λm=>h (.tail _ m)];unfold yY;rw[h1];rfl
theorem BI{c:Nat}(z:Str):∀Kq:List Str,(∀p∈Kq,c∉ch p)->(ch (Str.join ⟨#[c]⟩ Kq)).flatMap (yY c (ch z))=ch (Str.join z Kq)
 | [],_=>rfl
 | [p],h=>rE (h p (.head _))
 |p::q::r,h=>by
  have T:=BI z (q::r) λa ha=>h a (.tail _ ha);show(ch (p++⟨#[c]⟩++Str.join ⟨#[c]⟩ (q::r))).flatMap _=ch (p++z++Str.join z (q::r));simp only[mB,j8];rw[T,rE (h p (.head _))];have:([c]:List Nat).flatMap (yY c (ch z))=ch z:=by rw[gQ,ke,aS];unfold yY;rw[h_];rfl
  show _++([c]:List Nat).flatMap _++_=_;rw[this]
theorem yZ(c:Nat)(z x:Str):ch (lu ⟨#[c]⟩ z x)=(ch x).flatMap (yY c (ch z)):=by
 unfold lu;rw[Fq];cases h:decide (c∈ch x) with
 |false=>exact(rE (of_decide_eq_false h)).symm
 |true=>show ch (Txt.replace x ⟨#[c]⟩ z)=_;rw[StrLaws.replace_one,<-BI z _ (StrLaws.split_free x c),StrLaws.join_split]
theorem Fs{c:Nat}(hm:z.length<=m)(h1:1<=m):∀l:List Nat,(l.flatMap (yY c z)).length<=m*l.length
 | []=>by simp
 |k::r=>by
  rw[gQ,ak,aJ,Nat.mul_add];have:=Fs (c:=c) hm h1 r;have h2:(yY c z k).length<=m:=by
   unfold yY;cases Nat.beq k c
   ·exact h1
   ·exact hm
  omega
theorem Kr{c:Nat}{z:Str}(hy:y=⟨#[c]⟩)(hm:z.length<=m)(h1:1<=m):(lu y z x).length<=m*x.length:=by subst hy;rw[qC,qC,yZ];exact Fs (by rw[<-qC];exact hm) h1 _
noncomputable def HM(x:Str):Str:=lu "&" "&amp;" x
noncomputable def MG(x:Str):Str:=lu "<" "&lt;" x
noncomputable def YX(x:Str):Str:=lu ">" "&gt;" x
noncomputable def YY(x:Str):Str:=lu "\r" "&#xD;" x
noncomputable def YZ(x:Str):Str:=lu "\"" "&quot;" x
noncomputable def r9(x:Str):Str:=lu "\t" "&#x9;" x
noncomputable def PU(x:Str):Str:=lu "\n" "&#xA;" x
noncomputable def m4(x:Str):Str:=YY (YX (MG (HM x)))
noncomputable def Sz(x:Str):Str:=YY (PU (r9 (YZ (MG (HM x)))))
section
variable {k:Nat}
theorem rg{n q:Nat}(h:n<=m)(Y:m+(m+1)*q<=16777216):Nat.ble (n+(n+1)*q) 16777216=true:=by refine Nat.ble_eq.mpr (am ?_ Y);exact gm h (lW _ (jz h))
noncomputable abbrev aaW (P:Params):df:=fc (KK P) 161 ["text"] []
theorem aaX(P:Params):cc (aaW P) [] .cell:=ip (by kernel_rfl)
noncomputable abbrev aaY (P:Params):df:=fc (KK P) 168 ["text"] []
theorem aaZ(P:Params):cc (aaY P) [] .cell:=ip (by kernel_rfl)
noncomputable def aa0:List V->ad V:=L3 λM=>∀{x:Str}{σ Q},x.length<=10000->Q (.str (m4 x)) σ->M [.str x] σ Q
theorem rl{c n:Nat}{z:Str}(h:x.length<=n)(hy:y=⟨#[c]⟩)(hm:z.length<=m)(h1:1<=m):(lu y z x).length<=m*n:=am (Kr hy hm h1) (sI m h)
theorem Oc(U:cD P g):cO g (k+1) (.ref 161) aa0:=by have H:=aaX P;refine lB U H (NB.at rfl (by exact(ab (Wq (ab (ju H 0 (by decide+kernel) rfl) (ab (ju H 0 (by decide+kernel) rfl) (ab (ju H 0 (by decide+kernel) rfl) (ab (ju H 0 (by decide+kernel) rfl) (ab (cP (ai H 0 rfl)) aC)))))) aC))) [] [] (λ_=>.nil) rfl (by kernel_rfl) (λa S=>rfl) ?_;refine k6 (@λx σ Q hz h=>?_);have h1:(HM x).length<=5*10000:=rl (c:=38) hz (by decide+kernel) (by decide+kernel) (by decide);have h2:(MG (HM x)).length<=4*(5*10000):=rl (c:=60) h1 (by decide+kernel) (by decide+kernel) (by decide);have h3:(YX (MG (HM x))).length<=4*(4*(5*10000)):=rl (c:=62) h2 (by decide+kernel) (by decide+kernel) (by decide);exact⟨_,rfl,b_ (rg hz (by decide+kernel)) (b_ (rg h1 (by decide+kernel)) (b_ (rg h2 (by decide+kernel)) (b_ (rg h3 (by decide+kernel)) h)))⟩
noncomputable def WH:List V->ad V:=L3 λM=>∀{x:Str}{σ Q},x.length<=10->Q (.str (Sz x)) σ->M [.str x] σ Q
theorem Od(U:cD P g):cO g (k+1) (.ref 168) WH:=by have H:=aaZ P;refine lB U H (NB.at rfl (by exact(ab (Wq (ab (ju (y:="&") (z:="&amp;") H 0 (by decide+kernel) rfl) (ab (ju (y:="<") (z:="&lt;") H 0 (by decide+kernel) rfl) (ab (ju (y:="\"") (z:="&quot;") H 0 (by decide+kernel) rfl) (ab (ju (y:="\t") (z:="&#x9;") H 0 (by decide+kernel) rfl) (ab (ju (y:="\n") (z:="&#xA;") H 0 (by decide+kernel) rfl) (ab (ju (y:="\r") H 0 (by decide+kernel) rfl) (ab (cP (ai H 0 rfl)) aC)))))))) aC))) [] [] (λ_=>.nil) rfl (by kernel_rfl) (λa S=>rfl) ?_;refine k6 (@λx σ Q hz h=>?_);have h1:(HM x).length<=5*10:=rl (c:=38) hz (by decide+kernel) (by decide+kernel) (by decide);have h2:(MG (HM x)).length<=4*(5*10):=rl (c:=60) h1 (by decide+kernel) (by decide+kernel) (by decide);have h3:(YZ (MG (HM x))).length<=6*(4*(5*10)):=rl (c:=34) h2 (by decide+kernel) (by decide+kernel) (by decide);have h4:(r9 (YZ (MG (HM x)))).length<=5*(6*(4*(5*10))):=rl (c:=9) h3 (by decide+kernel) (by decide+kernel) (by decide);have h5:(PU (r9 (YZ (MG (HM x))))).length<=5*(5*(6*(4*(5*10)))):=rl (c:=10) h4 (by decide+kernel) (by decide+kernel) (by decide);exact⟨_,rfl,b_ (rg hz (by decide+kernel)) (b_ (rg h1 (by decide+kernel)) (b_ (rg h2 (by decide+kernel)) (b_ (rg h3 (by decide+kernel)) (b_ (rg h4 (by decide+kernel)) (b_ (rg h5 (by decide+kernel)) h)))))⟩
end
structure Wr where
 pc:List Str
 da:List Str
 dc:List Nat
 nz:List Nat
 pr:Nat
 seen:Bool
 done:Bool
 dD:Int
structure cR where
 ex:Option (List Str)
 one:Str
 two:Str
noncomputable def WI:Option (List Str)->List O
 |none=>[]
 |some xs=>[.set xs]
noncomputable def exN:Option (List Str)->Nat
 |none=>0
 |some _=>1
noncomputable def PV(b:Nat):Option (List Str)->V
 |none=>.none
 |some _=>.loc (b+5)
noncomputable def cR.A(D:cR)(b i:Nat):Nat:=b+(5+exN D.ex+i)
noncomputable def cR.L(D:cR)(b i:Nat):V:=.loc (D.A b i)
noncomputable def cR.N(D:cR)(b:Nat):Nat:=D.A b 18
noncomputable def mC(D:cR)(b:Nat)(c:Wr):List (Str×V):=[("_write",.loc (b+1)),("_data",.loc (b+4)),("_with_comments",.bool false),("_strip_text",.bool false),("_exclude_attrs",.none),("_exclude_tags",PV b D.ex),("_rewrite_prefixes",.bool false),("_qname_aware_tags",.none),("_find_qname_aware_attrs",.none),
  ("_declared_ns_stack",D.L b 2),("_ns_stack",D.L b 3),("_prefix_map",D.L b 14),("_preserve_space",D.L b 15),("_pending_start",.none),("_root_seen",.bool c.seen),("_root_done",.bool c.done),("_ignored_depth",.int c.dD),("_iter_namespaces",.fb (.ref 250))]
noncomputable def ti(D:cR)(b:Nat)(dc:List Nat):List V:=D.L b 1::dc.map λj=>.loc (D.N b+j)
noncomputable def wq(D:cR)(b:Nat)(nz:List Nat):List V:=D.L b 12::D.L b 13::nz.map λj=>.loc (D.N b+j)
noncomputable def ub(D:cR)(b:Nat)(c:Wr):List O:=[.tup [.str "http://www.w3.org/XML/1998/namespace",.str "xml"],.list [D.L b 0],.list (ti D b c.dc),.list (wq D b c.nz),.bP .bI [.fb (.ref 44)]]++iN nu++
 [.list ((List.range 7).map λi=>D.L b (5+i)),.list [D.L b 16,D.L b 17],.dict [],.list (List.replicate (c.pr+1) (.bool false)),.tup [.str "u",.str D.one],.tup [.str "v",.str D.two]]
noncomputable def p5(D:cR)(b:Nat)(c:Wr):List O:=[.list (c.pc.map .str),.bP .tN [.fb (.builtin "list.append"),.loc b],.dict (mC D b c),.inst 150 (b+2),.list (c.da.map .str)]
noncomputable def BJ(D:cR)(b:Nat)(c:Wr):List O:=p5 D b c++(WI D.ex++ub D b c)
noncomputable def mm(D:cR)(base:List O)(c:Wr)(aD:List O):List O:=base++(BJ D base.length c++aD)
noncomputable def bW(base:List O):V:=.loc (base.length+3)
section
variable {D:cR}{c c':Wr}{b:Nat}
theorem rF:(WI D.ex).length=exN D.ex:=by cases D.ex<;>rfl
theorem wt:(BJ D b c).length=5+exN D.ex+18:=by unfold BJ;rw[ak,ak,rF];exact(cS 5 _ _).symm
theorem bX{xs I:List O}:(xs++I)[xs.length+i]?=I[i]?:=by rw[sq (gT _ _),Nat.add_sub_cancel_left]
theorem dO{xs I:List O}:(xs++I).set (xs.length+i) o=xs++I.set i o:=by rw[lU _ _ (gT _ _),Nat.add_sub_cancel_left]
theorem BK(i:Nat)(h:(p5 D base.length c)[i]?=some o):(mm D base c aD)[base.length+i]?=some o:=by unfold mm;rw[bX];exact ac (ac h)
theorem DP(i:Nat)(h:(ub D base.length c)[i]?=some o):(mm D base c aD)[D.A base.length i]?=some o:=by unfold mm cR.A BJ;rw[bX];refine ac ?_;rw[cS,<-rF,show 5=(p5 D base.length c).length from rfl,bX,bX];exact h
theorem WJ{xs:List Str}(h:D.ex=some xs):(mm D base c aD)[base.length+5]?=some (.set xs):=by unfold mm BJ;rw[bX,h];rfl
theorem aY(h:aD[j]?=some o):(mm D base c aD)[D.N base.length+j]?=some o:=by unfold mm cR.N cR.A;rw[cS,bX,<-wt,bX];exact h
theorem wv(h:base[j]?=some o):(mm D base c aD)[j]?=some o:=ac h
theorem DQ(i:Nat)(hi:i<5)(h:(p5 D base.length c).set i o=p5 D base.length c')(h2:ub D base.length c=ub D base.length c'):(mm D base c aD).set (base.length+i) o=mm D base c' aD:=by unfold mm BJ;rw[dO,au,au,oV _ _ hi,h,h2,au,au]
theorem y_(i:Nat)(hi:i<18)(h:(ub D base.length c).set i o=ub D base.length c')(h2:p5 D base.length c=p5 D base.length c'):(mm D base c aD).set (D.A base.length i) o=mm D base c' aD:=by unfold mm cR.A BJ;rw[dO,au,au,cS,<-rF,show 5=(p5 D base.length c).length from rfl,dO,au,dO,oV _ _ hi,h,h2];simp only[au]
theorem rG:(mm D base c aD).set (D.N base.length+j) o=mm D base c (aD.set j o):=by unfold mm cR.N cR.A;rw[cS,dO,<-wt,dO]
theorem c_{xs:List O}:mm D base c aD++xs=mm D base c (aD++xs):=by unfold mm;rw[au,au]
theorem ft:(mm D base c aD).length=D.N base.length+aD.length:=by unfold mm cR.N cR.A;rw[ak,ak,wt,cS base.length]
theorem mD{C:Addr}{d:Nat}{es:List (Str×V)}(h1:me[i]?=some (.inst C d))(h2:me[d]?=some (.dict es)):d5 C me (.loc i)=some (d,es):=(bE (o:=I0 C me[i]?) (by rw[h1];exact ag (λb=>cond b (some d) none) (h_ C))).trans (bE (bE h2))
theorem zc:d5 150 (mm D base c aD) (bW base)=some (base.length+2,mC D base.length c):=mD (BK 3 rfl) (BK 2 rfl)
theorem ca(D:cR)(base:List O)(c:Wr)(aD:List O){n:Str}(v:V){K:V->Prop}(e:eO n (mC D base.length c)=some v)(hv:nQ v=true)(q:K v):aA (d5 150 (mm D base c aD) (bW base)) λp=>aA (eO n p.2) λv=>gd (nQ v) (K v):=av zc (av e (b_ hv q))
theorem Ft(D:cR)(base:List O)(c:Wr)(aD xs:List O){n:Str}(v:V){K:V->Prop}(e:eO n (mC D base.length c)=some v)(hv:nQ v=true)(q:K v):aA (d5 150 (mm D base c aD++xs) (bW base)) λp=>aA (eO n p.2) λv=>gd (nQ v) (K v):=by rw[c_];exact ca D base c _ v e hv q
theorem tj(D:cR)(base:List O)(c c':Wr)(aD:List O){n:Str}{lo:List (Option V)}{Q:Unit->St->Prop}(e:cQ n v (mC D base.length c)=mC D base.length c')(h1:(p5 D base.length c).set 2 (.dict (mC D base.length c'))=p5 D base.length c')(h2:ub D base.length c=ub D base.length c')(q:Q () ⟨lo,ce,mm D base c' aD⟩):aA (d5 150 (mm D base c aD) (bW base)) λp=>gd (Nat.ble p.2.length 800) (Q () ⟨lo,ce,(mm D base c aD).set p.1 (.dict (cQ n v p.2))⟩):=av zc (by rw[e,DQ 2 (by decide) h1 h2];exact q)
theorem on(D:cR)(base:List O)(c:Wr)(aD:List O){n:Str}{K:Prop}(e:eO n (mC D base.length c)=none)(q:K):aA (d5 150 (mm D base c aD) (bW base)) λp=>gd (eO n p.2).isNone K:=av zc (by rw[e];exact q)
theorem PW:(mm D base c aD)[base.length]?=some (.list (c.pc.map .str)):=BK 0 rfl
theorem ou(D:cR)(base:List O)(c:Wr)(aD:List O){lo:List (Option V)}(hz:c.pc.length<=10000)(q:Q .none ⟨lo,ce,mm D base {c with pc:=c.pc++[x]} aD⟩):aA (Jq (mm D base c aD) (.loc (base.length+1))) λself=>gE [self,.str x] ⟨lo,ce,mm D base c aD⟩ Q:=by
 refine av ?_ (DM PW (by rw[ax];exact hz) ?_)
 ·refine(?_ :Px (mm D base c aD)[base.length+1]?=_);rw[BK 1 rfl];rfl
 ·have:(mm D base c aD).set (base.length+0) (.list (c.pc.map V.str++[.str x]))=mm D base {c with pc:=c.pc++[x]} aD:=by rw[show(c.pc.map V.str++[.str x])=(c.pc++[x]).map V.str by simp];exact DQ 0 (by decide) rfl rfl
  rw[Nat.add_zero] at this;refine(?_ :Q .none ⟨lo,ce,(mm D base c aD).set base.length _⟩);rw[this];exact q
end
noncomputable def pf(D:cR):Bool->Str
 |false=>D.one
 |true=>D.two
noncomputable def nJ:Bool->Str
 |false=>"u"
 |true=>"v"
def HO(D:cR)(N:Nat)(aD:List O)(j:Nat):Option Bool->Prop
 |none=>aD[j]?=some (.list [])
 |some s=>∃t,aD[j]?=some (.list [.loc (N+t)])/\aD[t]?=some (.tup [.str (nJ s),.str (pf D s)])
structure RR(D:cR)(N:Nat)(c:Wr)(lv:List (Option Bool))(aD:List O):Prop where
 dl:aE (HO D N aD) c.dc lv
 nl:∀j∈c.nz,aD[j]?=some (.list [])
 nd:(c.dc++c.nz).Nodup
def tm(X:List Nat)(r r':List O):Prop:=∀(j:Nat)(o:O),r[j]?=some o->j∉X->r'[j]?=some o
theorem tm.refl{r:List O}:tm X r r:=λ_ _ h _=>h
theorem tm.app{r:List O}:tm X r (r++t):=λ_ _ h _=>ac h
theorem tm.trans{a b d:List O}(h:tm X a b)(h':tm X b d):tm X a d:=λj o e n=>h' j o (h j o e n) n
noncomputable def cB(b:List Stmt)(i:Nat):Stmt:=b.getD i (.Pass ⟨0,0,0,0⟩)
abbrev NN(F:Params->df)(gs:List Str)(f i j:Nat):={W:ad Fl //∀{P:Params}{g:G}{k:Nat}(_:cD P g)(_:cc (F P) gs .cell),NS g (F P) (k+j) (cB (bh (KK P) f) i) W}
noncomputable def sd(s:Stmt):List Stmt:=by
 cases s with
 |For _ _ b=>exact b
 |While _ b=>exact b
 |If _ b=>exact b
 |_=>exact[]
noncomputable def qD(s:Stmt):List Stmt:=by
 cases s with
 |If _ _ b=>exact b
 |_=>exact[]
theorem NB.at'{k:Nat}{b:List Stmt}{s:Stmt}{r:List Stmt}(e:b=s::r)(h:NB g F k (s::r) W):NB g F k b W:=e▸h
theorem NB.c{k:Nat}{W':ad Fl}{b:List Stmt}(h:NB g F k b W)(J:∀σ Q,W' σ Q->W σ Q):NB g F k b W':=⟨NB.conv h J⟩
theorem NS.c{k:Nat}{W':ad Fl}{b:Stmt}(h:NS g F k b W)(J:∀σ Q,W' σ Q->W σ Q):NS g F k b W':=⟨λd A af hr=>bb.conv (h.run d A af hr) J⟩
section
variable {k:Nat}
theorem PY(U:cD P g):gf g (k+1) (λv vs σ Q=>gd (vF 250 v) (WG vs σ Q)):=Pv 250 (λM h X=>g8 U (by kernel_rfl) M h (g.X.keeps X)) (Ob U).ok
noncomputable abbrev WK (P:Params):df:=fc (KK P) 90 ["self","qname","uri","tag","prefixes_seen","u","prefix"] []
noncomputable def G90:List Str:=["set"]
abbrev Ks(i:Nat):=NN WK G90 90 i 1
theorem Y0(P:Params):cc (WK P) G90 .cell:=ip (by kernel_rfl)
set_option genCtorIdx true in
inductive Lc where
 |a|b|k
noncomputable def Lc.s:Lc->Str
 | .a=>"a"
 | .b=>"b"
 | .k=>"k"
noncomputable def eR:Option Bool->Lc->Str
 |none,l=>l.s
 |some false,.a=>"{u}a"
 |some false,.b=>"{u}b"
 |some false,.k=>"{u}k"
 |some true,.a=>"{v}a"
 |some true,.b=>"{v}b"
 |some true,.k=>"{v}k"
noncomputable def DR:Option Bool->Str
 |none=>""
 |some s=>nJ s
noncomputable def nw(p t:Str):Str:=Str.empty++p++":"++t
def jn(x:Str):Prop:=1<=x.length/\x.length<=100
theorem bH(x y:Str):(x++y).length=x.length+y.length:=Array.size_append
theorem BL(h:1<=x.length):(!(Nat.beq x.length 0))=true:=by
 cases e:x.length with
 |zero=>omega
 |succ n=>rfl
theorem tv(p t:Str):(nw p t).length=p.length+1+t.length:=by unfold nw;rw[bH,bH,bH];show 0+_+1+_=_;exact fC [_,_] .nil 0 (.a (.a (.a (.n 0) (.v 0)) (.n 1)) (.v 1)) (.a (.a (.v 0) (.n 1)) (.v 1)) tt tt
structure aa2(p pK:Str):Prop where
 a:bw p.length=true
 b:(!(Nat.beq p.length 0))=true
 c:bw (Str.empty.length+p.length)=true
 d:bw ((Str.empty++p).length+(":":Str).length)=true
 e:bw pK.length=true
 f:bw ((Str.empty++p++":").length+pK.length)=true
 h:bw (nw p pK).length=true
theorem BM{p pK:Str}(h3:jn p)(h4:jn pK):aa2 p pK:=by
 have l1:∀n,n<=300->bw n=true:=λn hn=>cU (am hn (by decide));have l2:=tv p pK;refine xA h3 λh5 h6=>?_;try clear h3
 refine xA h4 λm r=>?_;try clear h4
 have e1:(Str.empty++p).length=p.length:=by rw[bH];exact eB _
 have e2:(Str.empty++p++":").length=p.length+1:=by rw[bH,e1];rfl
 refine⟨l1 _ (aQ [_] (.c 1 (.v 0) (.n 100) .nil) 0 (.v 0) (.n 300) tt h6),BL h5,l1 _ ?_,l1 _ ?_,l1 _ (aQ [_] (.c 1 (.v 0) (.n 100) .nil) 0 (.v 0) (.n 300) tt r),l1 _ ?_,l1 _ (aQ [_,_,_] (.e 1 (.v 0) (.a (.a (.v 1) (.n 1)) (.v 2)) (.c 1 (.v 1) (.n 100) (.c 1 (.v 2) (.n 100) .nil))) 0 (.v 0) (.n 300) tt l2 h6 r)⟩
 ·show 0+_<=_;exact aQ [_] (.c 1 (.v 0) (.n 100) .nil) 0 (.a (.n 0) (.v 0)) (.n 300) tt h6
 ·rw[e1];show _+1<=_;exact aQ [_] (.c 1 (.v 0) (.n 100) .nil) 0 (.a (.v 0) (.n 1)) (.n 300) tt h6
 ·rw[e2];exact aQ [_,_] (.c 1 (.v 0) (.n 100) (.c 1 (.v 1) (.n 100) .nil)) 0 (.a (.a (.v 0) (.n 1)) (.v 1)) (.n 300) tt h6 r
theorem DS{o:Option O}{xs:List Str}{K:Bool->Prop}(h:o=some (.set xs))(hz:xs.length<=30)(q:K (dN y xs)):Vn o y K:=by rw[h];exact b_ (d_ hz) q
theorem Oe{mem:List O}{xs:List Str}(h:mem[l]?=some (.set xs)):Rv mem (.loc l)=some (l,xs):=bE (o:=Ru mem[l]?) (bE h)
theorem Kt{mem:List O}{xs:List Str}(h:mem[l]?=some (.set xs)):xb mem (.loc l) .set=true:=ag Option.isSome (bE h)
theorem bk{mem:List O}(h:mem[l]?=some (.list xs)):xb mem (.loc l) .list=true:=ag Option.isSome (bE h)
theorem Fu{lo:List (Option V)}{xs:List Str}(h:me[l]?=some (.set xs))(hz:xs.length<=20)(q:Q .none ⟨lo,ce,me.set l (.set (jF x xs))⟩):gd (xb me (.loc l) .set) (aA (Rv me (.loc l)) λp=>gd (Nat.ble p.2.length 20) (Q .none ⟨lo,ce,me.set p.1 (.set (jF x p.2))⟩)):=b_ (Kt h) (av (Oe h) (b_ (d_ hz) q))
theorem iQ{lo:List (Option V)}(h:me[l]?=some (.list xs))(hz:xs.length<=10000)(q:Q .none ⟨lo,ce,me.set l (.list (xs++[v]))⟩):aA (dC me (.loc l)) λp=>gd (bw p.2.length) (Q .none ⟨lo,ce,me.set p.1 (.list (p.2++[v]))⟩):=av (cW h) (b_ (cM hz) q)
noncomputable def Ku:ad Fl:=L2 λM=>∀{s q:V}{lA pK u p:Str}{ls:Nat}{seen:List Str}{r:List (Option V)}{ce me Q},me[ls]?=some (.set seen)->seen.length<=20->jn p->jn pK->
 br (d4 u lA&& !(dN p seen)) (Q (.ret (.loc me.length)) ⟨some s::some q::some (.str lA)::some (.str pK)::some (.loc ls)::some (.str u)::some (.str p)::r,ce,me++[.tup [.str (nw p pK),.str pK,.str lA]]⟩)
 (Q .next ⟨some s::some q::some (.str lA)::some (.str pK)::some (.loc ls)::some (.str u)::some (.str p)::r,ce,me.set ls (.set (jF p seen))⟩)->
 M ⟨some s::some q::some (.str lA)::some (.str pK)::some (.loc ls)::some (.str u)::some (.str p)::r,ce,me⟩ Q
theorem WL(U:cD P g):NB g (WK P) (k+1) (sd (cB (bh (KK P) 90) 2)) Ku:=by
 have H:=Y0 P;refine NB.c (NB.at' rfl (by exact(ab (il (cG (bN (aN gr (ai H 5 rfl) (ai H 2 rfl)) (bN (aN vz (ai H 6 rfl) (ai H 4 rfl)) gF))) (ab (cP (nF (ae (iJ (a7 (ai H 6 rfl)) (uO (iM (DG (ai H 6 rfl)) (iM bz (iM (DG (ai H 3 rfl)) Fj)))) td) (ae (ai H 3 rfl) (ae (ai H 2 rfl) ay))))) aC) aC) (ab (c5 (bZ .set PySem.F.plainAttrs_set PySem.F.slot_set_add PySem.F.type_set_add CY (ai H 4 rfl) (ae (ai H 6 rfl) ay))) aC)))) ?_;refine qB (@λs q lA pK u p ls seen r ce me Q h1 h2 h3 h4 h=>?_);cases e:d4 u lA with
 |true=>rw[e] at h;refine w5 e (DS (K:=λb=>br (!b) _ _) h1 (aQ [_] (.c 1 (.v 0) (.n 20) .nil) 0 (.v 0) (.n 30) tt h2) ?_);have G:=BM h3 h4;exact rC h (λh=>b_ G.a (w5 G.b (b_ G.a (b_ G.c (b_ G.d (b_ G.e (b_ G.f (b_ G.h h)))))))) λh=>Fu h1 h2 h
 |false=>rw[e] at h;exact xQ e (Fu h1 h2 h)
theorem ow{xs:List α}{v:α}(hz:xs.length<=1000):vf (xs++[v]) (-1)=some v:=by
 refine(?_ :vf.Ut (Nat.ble 1 (xs++[v]).length&&bw (xs++[v]).length) (xs++[v])[(xs++[v]).length-1]?=_);have h1:(xs++[v]).length=xs.length+1:=by simp
 rw[h1,cM (by exact aQ [_] (.c 1 (.v 0) (.n 1000) .nil) 0 (.a (.v 0) (.n 1)) (.n 10000) tt hz),d_ (by exact aQ [_] .nil 0 (.n 1) (.a (.v 0) (.n 1)) tt)];refine(?_ :(xs++[v])[xs.length]?=_);simp
theorem bJ{o:Option O}{i:Int}{K:V->Prop}(h:o=some (.list xs))(e:vf xs i=some v)(q:K v):QW o (.int i) K:=by rw[h];exact(av e q:aA (vf xs i) K)
theorem Kv{D:cR}{b:Nat}{d0:List Nat}:ti D b (d0++[j])=(D.L b 1::d0.map λj=>.loc (D.N b+j))++[.loc (D.N b+j)]:=by unfold ti;simp
noncomputable def PZ:ad Fl:=L2 λM=>∀{D:cR}{base aD:List O}{c:Wr}{d0:List Nat}{j:Nat}{q:V}{lA pK u p:Str}{ls:V}{r:List (Option V)}{ce Q},c.dc=d0++[j]->d0.length<=100->aD[j]?=some (.list [])->jn p->jn pK->
 br (d4 u lA) (Q (.ret (.loc (D.N base.length+(aD.length+1)))) ⟨some (bW base)::some q::some (.str lA)::some (.str pK)::some ls::some (.str u)::some (.str p)::r,ce,mm D base c ((aD++[O.tup [.str lA,.str p]]).set j (.list [.loc (D.N base.length+aD.length)])++[.tup [.str (nw p pK),.str pK,.str lA]])⟩)
 (Q .next ⟨some (bW base)::some q::some (.str lA)::some (.str pK)::some ls::some (.str u)::some (.str p)::r,ce,mm D base c aD⟩)->
 M ⟨some (bW base)::some q::some (.str lA)::some (.str pK)::some ls::some (.str u)::some (.str p)::r,ce,mm D base c aD⟩ Q
theorem WM(U:cD P g):NB g (WK P) (k+1) (sd (cB (bh (KK P) 90) 5)) PZ:=by have H:=Y0 P;refine NB.c (NB.at' rfl (by exact(ab (il (aN gr (ai H 5 rfl) (ai H 2 rfl)) (ab (c5 (bZ .list bD cJ b0 bB (eP (dy (cA U) 9 rfl (ai H 0 rfl)) HB) (ae (nF (ae (ai H 2 rfl) (ae (ai H 6 rfl) ay))) ay))) (ab (cP (nF (ae (iJ (a7 (ai H 6 rfl)) (uO (iM (DG (ai H 6 rfl)) (iM bz (iM (DG (ai H 3 rfl)) Fj)))) td) (ae (ai H 3 rfl) (ae (ai H 2 rfl) ay))))) aC)) aC) aC))) ?_;refine qB (@λD base aD c d0 j q lA pK u p ls r ce Q h2 h3 h4 h5 h6 h=>?_);refine rC h (λh=>?_) id;refine ca D base c aD (D.L base.length 2) (by kernel_rfl) rfl ?_;refine bJ (DP 2 rfl) (by rw[h2,Kv];exact ow (by simp;exact aQ [_] (.c 1 (.v 0) (.n 100) .nil) 0 (.v 0) (.n 999) tt h3)) ?_;refine b_ (bk (aY h4)) ?_;refine iQ (by rw[c_];exact aY (ac h4)) (by decide) ?_;rw[c_,rG,ft];have G:=BM h5 h6;refine b_ G.a (w5 G.b (b_ G.a (b_ G.c (b_ G.d (b_ G.e (b_ G.f (b_ G.h ?_)))))));refine(?_ :Q (.ret (.loc (mm D base c _).length)) ⟨_,ce,mm D base c _++[_]⟩);rw[ft,c_,dS,ak];exact h
end
def P0(mem:List O)(v:V)(p:Str×Str):Prop:=∃t,v= .loc t/\mem[t]?=some (.tup [.str p.1,.str p.2])
noncomputable def p_(lA:Str):List (Str×Str)->List Str->Option Str×List Str
 | [],seen=>(none,seen)
 |e::r,seen=>bif d4 e.1 lA&& !(dN e.2 seen) then(some e.2,seen) else p_ lA r (jF e.2 seen)
noncomputable def UG(D:cR):Option Bool->List (Str×Str)
 |none=>[]
 |some s=>[(nJ s,pf D s)]
noncomputable def jS(D:cR)(lv:List (Option Bool)):List (Str×Str):=lv.reverse.flatMap (UG D)++[(("http://www.w3.org/XML/1998/namespace":Str),("xml":Str))]
theorem Of{D:cR}{xs:List O}{c:Wr}{t:Nat}(h:(mm D base c aD)[t]?=some o):(mm D base c (aD++xs))[t]?=some o:=by rw[<-c_];exact ac h
theorem gz{mem:List O}{t:Nat}(h:mem[t]?=some (.tup xs)):vk mem (.loc t)=some xs:=by exact bE h
abbrev Og(i j:Nat):V->ad Unit:=we 2 (w3 (du i) (w3 (du j) p4))
noncomputable def qL(s q:V)(lA pK:Str)(ls:Nat)(x5 x6:Option V)(r:List (Option V)):List (Option V):=some s::some q::some (.str lA)::some (.str pK)::some (.loc ls)::x5::x6::r
section
variable {D:cR}{c:Wr}{rl:O}{fl:List V}{pK:Str}{s q:V}{PU:List (Option V)}
theorem WN{Q:Fl->St->Prop}(ht:jn pK){r:List V}{es:List (Str×Str)}(ha:aE (P0 (mm D base c aD)) r es):∀(i:Nat)(seen:List Str)(x5 x6:Option V),fl.drop i=r->(∀e∈es,jn e.2)->seen.length+es.length<=20-> (∀p w x5 x6,p_ lA es seen=(some p,w)->Q (.ret (.loc (D.N base.length+(aD.length+3)))) ⟨qL s q lA pK (D.N base.length+aD.length) x5 x6 PU,ce,mm D base c (aD++[.set w,rl,.list fl,.tup [.str (nw p pK),.str pK,.str lA]])⟩)-> (∀w x5 x6,p_ lA es seen=(none,w)->Q .next ⟨qL s q lA pK (D.N base.length+aD.length) x5 x6 PU,ce,mm D base c (aD++[.set w,rl,.list fl])⟩)-> gu (bj (D.N base.length+(aD.length+2))) (Og 5 6) Ku (r.length+1) i ⟨qL s q lA pK (D.N base.length+aD.length) x5 x6 PU,ce,mm D base c (aD++[.set seen,rl,.list fl])⟩ Q:=by
 induction ha with
 |nil=>exact λi seen x5 x6 hd M hz h h'=>iP (ba (aY (by simp)) (drop_nil hd)) (h' _ x5 x6 rfl)
 | @cons v e r es he ha T=>
  intro i seen x5 x6 hd M hz h h';refine xA (fD hd) λh1 h2=>?_;refine bx he λt Y h3=>?_;try clear he
  obtain rfl:=Y;rw[aJ] at hz;refine fq (ba (aY (by simp)) h1) ?_;refine av (gz (Of h3)) ?_;refine λ_ E=>E (aY (by simp)) (aQ [_,_] (.c 1 (.a (.v 0) (.a (.v 1) (.n 1))) (.n 20) .nil) 0 (.v 0) (.n 20) tt hz) (M e (.head _)) ht ?_;unfold p_ at h h';refine bu (λhb=>?_) (λhb=>?_)
  ·rw[hb] at h;have h4:=h _ _ (some (.str e.1)) (some (.str e.2)) rfl;refine(?_ :Q (.ret (.loc (mm D base c _).length)) ⟨qL s q lA pK (D.N base.length+aD.length) _ _ PU,ce,mm D base c _++[_]⟩);rw[ft,c_];simpa using h4
  ·rw[hb] at h h';refine(?_ :gu _ _ _ (r.length+1) (i+1) ⟨qL s q lA pK (D.N base.length+aD.length) (some (.str e.1)) (some (.str e.2)) PU,ce,(mm D base c _).set _ _⟩ Q);rw[rG,kQ];exact T (i+1) (jF e.2 seen) _ _ h2 (λe he=>M e (.tail _ he)) (by have:=yO e.2 seen;exact aQ [_,_,_] (.c 1 (.a (.v 0) (.a (.v 1) (.n 1))) (.n 20) (.c 1 (.v 2) (.a (.v 0) (.n 1)) .nil)) 0 (.a (.v 2) (.v 1)) (.n 20) tt hz this) h h'
end
theorem HP{D:cR}{c:Wr}{dc:List Nat}{lv:List (Option Bool)}(h:aE (HO D (D.N base.length) aD) dc lv):∃MH:List (List V),aE (λl xs=>(mm D base c aD)[l]?=some (.list xs)) (dc.map λj=>D.N base.length+j) MH/\aE (λxs o=>aE (P0 (mm D base c aD)) xs (UG D o)) MH lv:=by
 induction h with
 |nil=>exact⟨[],.nil,.nil⟩
 | @cons j o _ _ h hr T=>
  refine bx T λMH h1 h2=>?_;try clear T
  cases o with
  |none=>exact⟨[]::MH,.cons (aY h) h1,.cons .nil h2⟩
  |some s=>
   refine bx h λt h3 h4=>?_;try clear h
   exact⟨[.loc (D.N base.length+t)]::MH,.cons (aY h3) h1,.cons (.cons ⟨_,rfl,aY h4⟩ .nil) h2⟩
theorem Kw{D:cR}{mem:List O}{MH:List (List V)}{lv:List (Option Bool)}(h:aE (λxs o=>aE (P0 mem) xs (UG D o)) MH lv):aE (P0 mem) MH.flatten (lv.flatMap (UG D)):=by
 induction h with
 |nil=>exact .nil
 |cons h hr T=>rw[List.flatten_cons,gQ];exact h.append T
theorem Oh{D:cR}(lv:List (Option Bool)):(lv.flatMap (UG D)).length<=lv.length:=by
 induction lv with
 |nil=>exact aF _
 |cons o r T=>
  rw[gQ,ak,aJ,gA];refine gm T ?_;cases o with
  |none=>exact aW _
  |some s=>exact aF _
section
variable {k:Nat}
theorem Kx(o:Option Bool)(l:Lc):(eR o l).length<=4:=by rcases o with _|_|_<;>cases l<;>decide+kernel
theorem Ky(o:Option Bool)(l:Lc):d4 ⟨(fS (eR o l).cps.toList none (some 1)).toArray⟩ "{"=o.isSome:=by rcases o with _|_|_<;>cases l<;>kernel_rfl
theorem Kz(s:Bool)(l:Lc):Txt.rsplitMax ⟨(fS (eR (some s) l).cps.toList (some 1) none).toArray⟩ "}" 1=[nJ s,l.s]:=by cases s<;>cases l<;>decide+kernel
theorem aa3(s:Bool)(l:Lc):(bw ((⟨(fS (eR (some s) l).cps.toList (some 1) none).toArray⟩:Str).length+2)&&Nat.ble 1 ("}":Str).length&&Nat.ble (1:Int).natAbs 1000000)=true:=by cases s<;>cases l<;>decide+kernel
theorem HQ{mem:List O}{t:Nat}(h:mem[t]?=some (.list xs)):vk mem (.loc t)=some xs:=by exact bE h
noncomputable def aa4:ad Fl:=L2 λM=>∀{D:cR}{base aD:List O}{c:Wr}{o:Option Bool}{l:Lc}{x:Option V}{r:List (Option V)}{ce Q},(∀X,Q .next ⟨some (bW base)::some (.str (eR o l))::some (.str (DR o))::some (.str l.s)::r,ce,mm D base c (aD++[X])⟩)->
 M ⟨some (bW base)::some (.str (eR o l))::some .none::x::r,ce,mm D base c aD⟩ Q
theorem WO(U:cD P g):NS g (WK P) (k+1) (cB (bh (KK P) 90) 0) aa4:=by
 have H:=Y0 P;refine NS.c (by exact(il (aN U5 (ai H 2 rfl) ik) (ab (qz (iJ (aN gr (iL (ai H 1 rfl) iK (gK bv)) bz) (bZ .str kD PySem.F.slot_str_rsplit PySem.F.type_str_rsplit CU (iL (ai H 1 rfl) (gK bv) iK) (ae bz (ae bv ay))) (nF (ae bz (ae (ai H 1 rfl) ay)))) (Kl (rz (dz (b8 H 2 rfl) (dz (b8 H 3 rfl) lL))) (he:=by intro _;rfl)) (M:=by intro _;rfl) (hw:=by intro _;rfl)) aC) fm)) ?_;refine qB (@λD base aD c o l x r ce Q h=>?_);have hz:=cM (am (Kx o l) (by decide));refine b_ hz ?_;have hb:=Ky o l;cases o with
 |none=>refine xQ hb ?_;have:=h (.tup [.str "",.str l.s]);rw[<-c_] at this;refine av (gz aR) ?_;exact this
 |some s=>refine w5 hb ?_;refine b_ hz ?_;refine b_ (aa3 s l) ?_;have:=h (.list [.str (nJ s),.str l.s]);rw[<-c_] at this;have e:=Kz s l;revert e;generalize Txt.rsplitMax ⟨(fS (eR (some s) l).cps.toList (some 1) none).toArray⟩ "}" 1=sp;rintro rfl;refine av (HQ aR) ?_;exact this
end
structure uD(D:cR):Prop where
 h1:jn D.one
 h2:jn D.two
 h3:D.one≠D.two
 h4:D.one≠"xml"
 h5:D.two≠"xml"
theorem xR:∀{es:List (Str×Str)}{seen:List Str},(∀e∈es,d4 e.1 lA=false)->p_ lA es seen=(none,gJ seen (es.map (·.2)))
 | [],_,_=>rfl
 |e::es,seen,h=>by show(bif d4 e.1 lA&&_ then _ else p_ lA es (jF e.2 seen))=_;rw[h e (.head _)];exact xR λe he=>h e (.tail _ he)
theorem xS{xs:List Str}(h:dN y (jF x xs)=true):dN y xs=true\/y=x:=by
 rw[fT] at h ⊢;unfold jF at h;cases e:dN x xs with
 |true=>rw[e] at h;exact .inl h
 |false=>rw[e] at h;simpa using h
theorem qE:∀{ts xs:List Str},dN y (gJ xs ts)=true->dN y xs=true\/y∈ts
 | [],_,h=>.inl h
 |t::r,xs,h=>by
  rcases qE (ts:=r) h with h|h
  ·exact(xS h).imp id λe=>by rw[e];exact .head _
  ·exact .inr (.tail _ h)
theorem xT{p:Str}:∀{es:List (Str×Str)}{seen:List Str},(∀e∈es,e.1=lA↔e.2=p)->(∃e∈es,e.1=lA)->dN p seen=false->∃w,p_ lA es seen=(some p,w)
 | [],_,_,⟨_,h,_⟩,_=>by cases h
 |e::es,seen,h1,h2,h3=>by
  show ∃w,(bif d4 e.1 lA&&_ then _ else p_ lA es (jF e.2 seen))=_;cases hb:d4 e.1 lA with
  |true=>have:=(h1 e (.head _)).mp ((cq _ _).mp hb);rw[this,h3];exact⟨_,rfl⟩
  |false=>
   have hn:e.1≠lA:=λx=>by rw[(cq _ _).mpr x] at hb;exact Ab hb
   refine xT (λe he=>h1 e (.tail _ he)) ?_ ?_
   ·refine bx h2 λe' h4 h5=>?_;try clear h2
    cases h4 with
    |head=>exact absurd h5 hn
    |tail _ h4=>exact⟨e',h4,h5⟩
   ·cases h6:dN p (jF e.2 seen) with
    |false=>rfl
    |true=>
     rcases xS h6 with m|m
     ·rw[h3] at m;exact nB m
     ·exact absurd ((h1 e (.head _)).mpr m.symm) hn
theorem wx{D:cR}{lv:List (Option Bool)}{e:Str×Str}(h:e∈jS D lv):(∃s,some s∈lv/\e=(nJ s,pf D s))\/e=(("http://www.w3.org/XML/1998/namespace":Str),("xml":Str)):=by
 unfold jS at h;rw[ma,List.mem_flatMap] at h;rcases h with ⟨o,h1,h2⟩|h
 ·rw[kc] at h1;cases o with
  |none=>cases h2
  |some s=>exact .inl ⟨s,h1,by simpa [UG] using h2⟩
 ·exact .inr (by simpa using h)
theorem Oi{D:cR}{lv:List (Option Bool)}{s:Bool}(h:some s∈lv):(nJ s,pf D s)∈jS D lv:=by unfold jS;rw[ma,List.mem_flatMap];exact .inl ⟨some s,List.mem_reverse.mpr h,.head _⟩
theorem uD.short{D:cR}(H:uD D){lv:List (Option Bool)}:∀e∈jS D lv,jn e.2:=λe he=>by
 rcases wx he with ⟨s,_,rfl⟩|rfl
 ·cases s
  ·exact H.h1
  ·exact H.h2
 ·exact⟨by decide+kernel,by decide+kernel⟩
theorem KA(s:Bool):nJ s≠"http://www.w3.org/XML/1998/namespace"/\nJ s≠"":=by cases s<;>decide+kernel
theorem KB{s t:Bool}(h:nJ s=nJ t):s=t:=by cases s<;>cases t<;>first|rfl|(exact absurd h (by decide+kernel))
theorem uD.Fv{D:cR}(H:uD D){lv:List (Option Bool)}{s:Bool}(h:some s∈lv):∃w,p_ (nJ s) (jS D lv) []=(some (pf D s),w):=by
 refine xT (λe he=>?_) ⟨_,Oi h,rfl⟩ rfl;rcases wx he with ⟨t,_,rfl⟩|rfl
 ·refine⟨λe=>by rw[KB e],λe=>?_⟩;cases s<;>cases t<;>first|rfl|(exact absurd e H.h3)|(exact absurd e.symm H.h3)
 ·refine⟨λe=>absurd e.symm (KA s).1,λe=>?_⟩;cases s
  ·exact absurd e.symm H.h4
  ·exact absurd e.symm H.h5
theorem BN{D:cR}{lv:List (Option Bool)}{o:Option Bool}(h:∀s,o=some s->o∉lv):p_ (DR o) (jS D lv) []=(none,gJ [] ((jS D lv).map (·.2))):=by
 refine xR λe he=>?_;cases hb:d4 e.1 (DR o) with
 |false=>rfl
 |true=>
  have hb:=(cq _ _).mp hb;exfalso;rcases wx he with ⟨t,h1,rfl⟩|rfl
  ·cases o with
   |none=>exact(KA t).2 hb
   |some s=>exact h s rfl (KB hb▸h1)
  ·cases o with
   |none=>exact absurd hb (by decide+kernel)
   |some s=>exact(KA s).1 hb.symm
theorem uD.Oj{D:cR}(H:uD D){lv:List (Option Bool)}:dN "" (gJ [] ((jS D lv).map (·.2)))=false:=by
 cases h:dN "" (gJ [] ((jS D lv).map (·.2))) with
 |false=>rfl
 |true=>
  rcases qE h with h|h
  ·exact nB h
  ·refine bx (List.mem_map.mp h) λe h1 h2=>?_;have:=(H.short e h1).1;rw[h2] at this;exact absurd this (by decide)
theorem tA:∀{ts xs:List Str},(gJ xs ts).length<=xs.length+ts.length
 | [],_=>aF _
 |t::r,xs=>by have h1:=tA (ts:=r) (xs:=jF t xs);have h2:=yO t xs;show(gJ (jF t xs) r).length<=xs.length+(r.length+1);exact aQ [_,_,_,_] (.c 1 (.v 0) (.a (.v 1) (.v 2)) (.c 1 (.v 1) (.a (.v 3) (.n 1)) .nil)) 0 (.v 0) (.a (.v 3) (.a (.v 2) (.n 1))) tt h1 h2
theorem KC{D:cR}{lv:List (Option Bool)}:(jS D lv).length<=lv.length+1:=by unfold jS;rw[ak];have:=Oh (D:=D) lv.reverse;rw[dH] at this;show _+1<=_;exact aQ [_,_] (.c 1 (.v 0) (.v 1) .nil) 0 (.a (.v 0) (.n 1)) (.a (.v 1) (.n 1)) tt this
noncomputable def bY(D:cR):Option Bool->Lc->Str
 |none,l=>l.s
 |some s,l=>nw (pf D s) l.s
noncomputable def rH(lv:List (Option Bool)):Option Bool->List (Option Bool)
 |none=>lv
 |some s=>bif lv.contains (some s) then lv else lv.dropLast++[some s]
section
variable {k:Nat}
structure xf(D:cR)(N:Nat)(c:Wr)(lv:List (Option Bool))(aD:List O):Prop where
 ok:uD D
 R:RR D N c lv aD
 lv:lv.length<=10
 nz:c.nz.length<=100
structure nH(D:cR)(N:Nat)(c c':Wr)(lv:List (Option Bool))(aD qa:List O):Prop where
 R:RR D N c' lv qa
 keep:tm c.dc aD qa
 le:aD.length<=qa.length
noncomputable def W90:List V->ad V:=L3 λM=>∀{D:cR}{base aD:List O}{c:Wr}{lv:List (Option Bool)}{d0:List Nat}{j:Nat}{o:Option Bool}{l:Lc}{lo ce Q},xf D (D.N base.length) c lv aD->c.dc=d0++[j]->(∀s,o=some s->o∈lv\/∃l0,lv=l0++[none])->
 (∀qa l',nH D (D.N base.length) c c (rH lv o) aD qa->qa[l']?=some (.tup [.str (bY D o l),.str l.s,.str (DR o)])->Q (.loc (D.N base.length+l')) ⟨lo,ce,mm D base c qa⟩)->
 M [bW base,.str (eR o l)] ⟨lo,ce,mm D base c aD⟩ Q
theorem iR(l:Lc):jn l.s:=by cases l<;>exact⟨by decide+kernel,by decide+kernel⟩
theorem HO.more{D:cR}{N:Nat}{xs:List O}{o:Option Bool}(h:HO D N aD j o):HO D N (aD++xs) j o:=by
 cases o with
 |none=>exact ac h
 |some s=>
  refine bx h λt h1 h2=>?_;try clear h
  exact⟨t,ac h1,ac h2⟩
theorem RR.more{D:cR}{N:Nat}{c:Wr}{lv:List (Option Bool)}{xs:List O}(h:RR D N c lv aD):RR D N c lv (aD++xs):=⟨h.dl.mono λ_ _ h=>h.more,λj hj=>ac (h.nl j hj),h.nd⟩
theorem nH.start{D:cR}{N:Nat}{c:Wr}{lv:List (Option Bool)}(h:RR D N c lv aD):nH D N c c lv aD aD:=⟨h,tm.refl,aF _⟩
theorem nH.more{D:cR}{N:Nat}{c c':Wr}{lv:List (Option Bool)}{qa:List O}(h:nH D N c c' lv aD qa)(xs:List O):nH D N c c' lv aD (qa++xs):=⟨h.R.more,h.keep.trans tm.app,am h.le (by rw[ak];exact gT _ _)⟩
theorem aE.snoc_inv{R:α->β->Prop}{l:List α}{m:List β}{a:α}{b:β}(h:aE R (l++[a]) (m++[b])):aE R l m/\R a b:=by
 have Z:l.length=m.length:=by have:=h.len;simpa using this
 have h1:=h.take l.length;have h2:=h.drop l.length;rw[List.take_left,Z,List.take_left] at h1;rw[pn,Z,pn] at h2;cases h2 with
 |cons h3 _=>exact⟨h1,h3⟩
theorem aE.BO{R S:α->β->Prop}{l:List α}{m:List β}(h:aE R l m):(∀a b,a∈l->R a b->S a b)->aE S l m:=by
 induction h with
 |nil=>exact λ_=>.nil
 |cons x y T=>exact λh=>.cons (h _ _ (.head _) x) (T λa b ha=>h a b (.tail _ ha))
theorem RR.put{D:cR}{N:Nat}{c:Wr}{R:List O}{d0:List Nat}(s:Bool)(h:RR D N c (l0++[none]) R)(hd:c.dc=d0++[j]):R[j]?=some (.list [])/\RR D N c (l0++[some s]) ((R++[O.tup [.str (nJ s),.str (pf D s)]]).set j (.list [.loc (N+R.length)]))/\tm c.dc R ((R++[O.tup [.str (nJ s),.str (pf D s)]]).set j (.list [.loc (N+R.length)])):=by
 obtain⟨h1,hnl,nD⟩:=h;rw[hd] at h1 nD ⊢;refine xA (aE.snoc_inv h1) λh2 h3=>?_;clear h1;replace h3:R[j]?=some (.list []):=h3;have hj:=(List.getElem?_eq_some_iff.mp h3).1;have qO:∀{i:Nat}{o:O},i≠j->R[i]?=some o->((R++[O.tup [.str (nJ s),.str (pf D s)]]).set j (.list [.loc (N+R.length)]))[i]?=some o:=λhi e=>by rw[c7 (bM hi)];exact ac e
 have WP:=nD;rw[au] at WP;have WQ:=List.nodup_append.mp WP;have WR:HO D N ((R++[O.tup [.str (nJ s),.str (pf D s)]]).set j (.list [.loc (N+R.length)])) j (some s):=by
  refine⟨R.length,?_,?_⟩
  ·rw[fG (by rw[ak];exact Nat.lt_add_right _ hj)]
  ·rw[c7 (bL hj)];exact aR
 have JI:aE (HO D N ((R++[O.tup [.str (nJ s),.str (pf D s)]]).set j (.list [.loc (N+R.length)]))) d0 l0:=h2.BO λi o hi S=>by
  have WS:=WQ.2.2 i hi j (.head _);cases o with
  |none=>exact qO WS S
  |some u=>
   refine bx S λt h4 h5=>?_;try clear S
   exact⟨t,qO WS h4,qO (λx=>by rw[x,h3] at h5;cases h5) h5⟩
 refine⟨h3,⟨by rw[hd];exact JI.append (.cons WR .nil),λi hi=>qO (λx=>?_) (hnl i hi),by rw[hd];exact nD⟩,λi o e hi=>qO (λx=>hi (by rw[x];simp)) e⟩;subst x;exact(List.nodup_cons.mp WQ.2.1).1 hi
theorem oz{lv:List (Option Bool)}{s:Bool}(h:some s∈lv):rH lv (some s)=lv:=by refine(?_ :(bif lv.contains (some s) then lv else _)=_);rw[List.contains_iff_mem.mpr h];rfl
theorem wy{s:Bool}(h:some s∉l0++[none]):rH (l0++[none]) (some s)=l0++[some s]:=by refine(?_ :(bif (l0++[none]).contains (some s) then _ else(l0++[none]).dropLast++[some s])=_);have:=Bool.eq_false_iff.mpr λe=>h (List.contains_iff_mem.mp e);rw[this,lY];rfl
theorem KD{b:List O}{x y z w:O}:(b++[x,y,z,w])[b.length+3]?=some w:=by simp
theorem KE{A:List α}{x:α}{n:Nat}(h:A.length=n):(A++[x])[n]?=some x:=by subst h;simp
noncomputable def WT:Ks 1:=⟨_,λU H=>by exact(aP H 4 rfl (b7 (λ_ _ _=>fX) Jl (bG U H 0 3 rfl rfl (by kernel_rfl)) ay))⟩
noncomputable def WU:Ks 2:=⟨_,λU H=>by exact(mA (mz (cA U).cls (gL U) (PY U) (ai H 0 rfl) (ae (dy (cA U) 9 rfl (ai H 0 rfl)) ay)) (rz (dz (b8 H 5 rfl) (dz (b8 H 6 rfl) lL))) (WL U))⟩
noncomputable def WV:Ks 3:=⟨_,λU H=>by exact(il (a7 (dy (cA U) 6 rfl (ai H 0 rfl))) fm aC)⟩
noncomputable def WW:Ks 4:=⟨_,λU H=>by exact(il (cG (bN (n_ (a7 (ai H 2 rfl))) (bN (aN vz bz (ai H 4 rfl)) gF))) (ab (cP (nF (ae (ai H 3 rfl) (ae (ai H 3 rfl) (ae (ai H 2 rfl) ay))))) aC) aC)⟩
noncomputable def WX:Ks 5:=⟨_,λU H=>by exact(mA (mz (cA U).cls (gL U) (PY U) (ai H 0 rfl) (ae (dy (cA U) 10 rfl (ai H 0 rfl)) ay)) (rz (dz (b8 H 5 rfl) (dz (b8 H 6 rfl) lL))) (WM U))⟩
theorem KG{D:cR}{c:Wr}(h:∀j∈c.nz,aD[j]?=some (.list [])):∃(ls:List Nat)(rs:List (List V)),wq D base.length c.nz=ls.map .loc/\ls.length=c.nz.length+2/\aE (λl xs=>(mm D base c aD)[l]?=some (.list xs)) ls.reverse rs/\rs.flatten=D.L base.length 16::D.L base.length 17::((List.range 7).map λi=>D.L base.length (5+i)):=by
 have hnl:∀(js:List Nat),(∀j∈js,j∈c.nz)->aE (λl xs=>(mm D base c aD)[l]?=some (.list xs)) (js.map λj=>D.N base.length+j) (List.replicate js.length []):=λjs=>by
  induction js with
  |nil=>exact λ_=>.nil
  |cons j js T=>exact λhh=>.cons (aY (h j (hh j (.head _)))) (T λj hj=>hh j (.tail _ hj))
 refine⟨D.A base.length 12::D.A base.length 13::c.nz.map λj=>D.N base.length+j,List.replicate c.nz.length []++[[D.L base.length 16,D.L base.length 17],(List.range 7).map λi=>D.L base.length (5+i)],?_,?_,?_,?_⟩
 ·unfold wq cR.L;simp
 ·simp
 ·rw[eT,eT,au];have h9:=hnl c.nz.reverse λj hj=>List.mem_reverse.mp hj;rw[dH,gU] at h9;exact h9.append (.cons (DP 13 rfl) (.cons (DP 12 rfl) .nil))
 ·rw[List.flatten_append,List.flatten_replicate_nil];rfl
theorem KH{D:cR}{c:Wr}{lv:List (Option Bool)}(h:aE (HO D (D.N base.length) aD) c.dc lv):∃(ls:List Nat)(rs:List (List V)),ti D base.length c.dc=ls.map .loc/\ls.length=lv.length+1/\aE (λl xs=>(mm D base c aD)[l]?=some (.list xs)) ls.reverse rs/\aE (P0 (mm D base c aD)) rs.flatten (jS D lv):=by
 refine bx (HP (c:=c) h) λMH p q=>?_;refine⟨D.A base.length 1::c.dc.map λj=>D.N base.length+j,MH.reverse++[[D.L base.length 0]],?_,?_,?_,?_⟩
 ·unfold ti cR.L;simp
 ·rw[aJ,ax,h.len]
 ·rw[eT];exact p.reverse.append (.cons (DP 1 rfl) .nil)
 ·rw[List.flatten_append];exact(Kw q.reverse).append (.cons ⟨_,rfl,DP 0 rfl⟩ .nil)
theorem KI(U:cD P g):cO g (k+2) (.ref 90) W90:=by
 have H:=Y0 P;refine rD U H (NB.at rfl (by exact(ab (WO U) (ab (WT.2 U H) (ab (WU.2 U H) (ab (WV.2 U H) (ab (WW.2 U H) (ab (WX.2 U H) fm)))))))) [.none] [.none] (λ_=>.cons rfl .nil) rfl (by kernel_rfl) (λa b S=>rfl) ?_;refine k6 (@λD base aD c lv d0 j o l lo ce Q hq9 h2 h5 h=>?_);obtain⟨G,hR,h3,h4⟩:=hq9;refine⟨_,_,rfl,λ_ E=>E λX=>?_⟩;have T1:=(nH.start hR).more [X];revert T1;generalize aD++[X]=u;intro T1;refine u8 (KH (base:=base) T1.R.dl) λls rs e1 e2 e3 hE=>?_;have m:=KC (D:=D) (lv:=lv);have r:=hE.len;refine Ft D base c u [.set []] (n:="_iter_namespaces") (.fb (.ref 250)) (by kernel_rfl) rfl ?_;refine Ft D base c u [.set []] (n:="_declared_ns_stack") (D.L base.length 2) (by kernel_rfl) rfl ?_;refine λ_ E=>E (ls:=ls) (rs:=rs) ?_ (e3.mono λl xs h=>ac h) (aQ [_,_] (.c 1 (.v 0) (.n 10) (.e 1 (.v 1) (.a (.v 0) (.n 1)) .nil)) 0 (.v 1) (.n 1000) tt h3 e2) (aQ [_,_,_] (.c 1 (.v 0) (.n 10) (.c 1 (.v 1) (.a (.v 0) (.n 1)) (.e 1 (.v 2) (.v 1) .nil))) 0 (.v 2) (.n 10000) tt h3 m r) ?_
 ·rw[c_,<-e1];exact DP 2 rfl
 refine⟨rs.flatten.length+1,?_⟩;clear e3;generalize rs.flatten=fl at hE r;refine(?_ :gu (bj ((mm D base c u++[O.set []]).length+1)) (Og 5 6) Ku (fl.length+1) 0 ⟨qL (bW base) (.str (eR o l)) (DR o) l.s (mm D base c u).length none none [none,none,none],[],(mm D base c u++[O.set []])++[O.list _,O.list fl]⟩ _);rw[c_,c_,ft,ft,au,ak];generalize List.map V.loc ls.reverse=rv;refine WN (iR l) hE 0 [] none none rfl G.short (by rw[fL];exact aQ [_,_] (.c 1 (.v 0) (.n 10) (.c 1 (.v 1) (.a (.v 0) (.n 1)) .nil)) 0 (.a (.n 0) (.v 1)) (.n 20) tt h3 m) (λp w x5 x6 e=>?_) (λw x5 x6 e=>?_)
 ·by_cases q:∃s,o=some s/\o∈lv
  ·refine bx q ?_;try clear q
   intro s Y q;obtain rfl:=Y;refine xE (G.Fv q) λWY e'=>?_;cases e'.symm.trans e;exact h _ (u.length+3) (by rw[oz q];exact T1.more _) KD
  ·have e':=BN (D:=D) (lv:=lv) (o:=o) λs e h=>q ⟨s,e,h⟩;cases (mi (e'.symm.trans e)).1
 ·by_cases q:∃s,o=some s/\o∈lv
  ·refine bx q ?_;try clear q
   intro s Y q;obtain rfl:=Y;refine xE (G.Fv q) λWY e'=>?_;cases (mi (e'.symm.trans e)).1
  have e':=BN (D:=D) (lv:=lv) (o:=o) λs e h=>q ⟨s,e,h⟩;obtain rfl:=(mi (e'.symm.trans e)).2;clear e e' hE;have hz:(gJ [] ((jS D lv).map (·.2))).length<=30:=by have:=tA (ts:=(jS D lv).map (·.2)) (xs:=[]);rw[ax,fL] at this;exact aQ [_,_,_] (.c 1 (.v 0) (.n 10) (.c 1 (.v 1) (.a (.v 0) (.n 1)) (.c 1 (.v 2) (.a (.n 0) (.v 1)) .nil))) 0 (.v 2) (.n 30) tt h3 m this
  have hE2:=G.Oj (lv:=lv);revert hz hE2;generalize gJ [] ((jS D lv).map (·.2))=sn;intro hz hE2;refine ca D base c _ (n:="_rewrite_prefixes") (.bool false) (by kernel_rfl) rfl ?_;cases o with
  |none=>refine DS (K:=λb=>br (!b) _ _) (aY aR) hz (w5 (by rw[hE2];rfl) ?_);refine(?_ :Q (.loc (mm D base c _).length) ⟨lo,ce,mm D base c _++[.tup [.str l.s,.str l.s,.str (DR none)]]⟩);rw[ft,c_];exact h _ _ ((T1.more _).more _) aR
  |some s=>
   have hn:some s∉lv:=λx=>q ⟨s,rfl,x⟩;refine xE ((h5 s rfl).resolve_left hn) λl0 Y=>?_;obtain rfl:=Y;refine b_ (by cases s<;>decide+kernel) (xQ (by cases s<;>decide+kernel) ?_);have T2:=T1.more [O.set sn,.list rv,.list fl];clear q h5;revert T2;generalize u++[O.set sn,.list rv,.list fl]=d;intro T2;refine u8 (KG (D:=D) (base:=base) T2.R.nl) λls rs e1 e2 e3 e4=>?_;refine ca D base c d (.fb (.ref 250)) (by kernel_rfl) rfl ?_;refine ca D base c d (D.L base.length 3) (by kernel_rfl) rfl ?_;refine λ_ E=>E (by rw[<-e1];exact DP 3 rfl) e3 (aQ [_,_] (.c 1 (.v 0) (.n 100) (.e 1 (.v 1) (.a (.v 0) (.n 2)) .nil)) 0 (.v 1) (.n 1000) tt h4 e2) (by rw[e4];exact(by decide:(9:Nat)<=10000)) ⟨3,?_⟩;rw[e4];generalize ((List.range 7).map λi=>D.L base.length (5+i))=f7;generalize List.map V.loc ls.reverse=Y1;clear e1 e2 e3 e4;refine(?_ :gu (bj ((mm D base c d).length+1)) (Og 5 6) PZ 3 0 ⟨qL (bW base) (.str (eR (some s) l)) (nJ s) l.s (D.N base.length+u.length) x5 x6 [none,none,none],[],mm D base c d++[O.list Y1,O.list (D.L base.length 16::D.L base.length 17::f7)]⟩ _);rw[c_,ft,cS];have PM:(d++[O.list Y1,O.list (D.L base.length 16::D.L base.length 17::f7)])[d.length+1]?=some (O.list (D.L base.length 16::D.L base.length 17::f7)):=gy;have T3:=T2.more [O.list Y1,O.list (D.L base.length 16::D.L base.length 17::f7)];revert PM T3;generalize d++[O.list Y1,O.list (D.L base.length 16::D.L base.length 17::f7)]=f;intro PM T3;refine u6 (T3.R.put s h2) λp1 p2 p3=>?_;have hd0:d0.length<=100:=by have h6:=hR.dl.len;rw[h2,ak] at h6;exact aQ [_,_,_] (.c 1 (.v 0) (.n 10) (.e 1 (.a (.v 1) (.v 2)) (.v 0) .nil)) 0 (.v 1) (.n 100) tt h3 h6
   have fin:=h ((f++[O.tup [.str (nJ s),.str (pf D s)]]).set j (.list [.loc (D.N base.length+f.length)])++[.tup [.str (nw (pf D s) l.s),.str l.s,.str (nJ s)]]) (f.length+1) (by
    rw[wy hn];have Z:((f++[O.tup [.str (nJ s),.str (pf D s)]]).set j (.list [.loc (D.N base.length+f.length)])).length=f.length+1:=by rw[dS,ak];rfl
    exact(nH.mk p2 (T3.keep.trans p3) (by rw[Z];exact iw T3.le)).more _) (KE (by rw[dS,ak];rfl))
   refine fq (ba (aY PM) rfl) ?_;refine av (gz (DP 16 rfl)) ?_;refine λ_ E=>E h2 hd0 p1 G.h1 (iR l) ?_;cases s with
   |false=>exact w5 (by kernel_rfl) fin
   |true=>refine xQ (by kernel_rfl) ?_;refine fq (ba (aY PM) rfl) ?_;refine av (gz (DP 17 rfl)) ?_;refine λ_ E=>E h2 hd0 p1 G.h2 (iR l) ?_;exact w5 (by kernel_rfl) fin
end
noncomputable def dE(ts:List Str):Str:=Txt.join "" ts
noncomputable def k7(ts:List Str):Nat:=(ts.map (·.length)).sum
theorem HR(h:k7 ts<=100000):JoinOk "" ts=true:=by unfold JoinOk;rw[StrLaws.joinTotal,gS];refine(?_ :decide (k7 ts+ts.length*0>2 ^ 24)=false);rw[Nat.mul_zero];exact dR (Nat.not_lt.mpr (am h (by decide)))
theorem fE(ts:List Str):ch (dE ts)=ts.flatMap ch:=by
 unfold dE Txt.join;rw[StrLaws.glued_eq_join];induction ts with
 |nil=>rfl
 |cons x r T=>
  cases r with
  |nil=>simp[Str.join]
  |cons y r=>refine(?_ :ch (x++""++Str.join "" (y::r))=_);rw[mB,mB,T];simp only[gQ];exact ag (· ++_) (aS _)
theorem rI(ts:List Str):(dE ts).length=k7 ts:=by rw[qC,fE,List.length_flatMap];unfold k7;congr 1
section
variable {k:Nat}
theorem Fx{lo:List (Option V)}(h:me[l]?=some (.list (ts.map .str)))(hz:k7 ts<=100000)(q:Q (.str (dE ts)) ⟨lo,ce,me⟩):aA (dC me (.loc l)) λp=>aA (kN p.2) λts=>gd (JoinOk "" ts) (Q (.str (Txt.join "" ts)) ⟨lo,ce,me⟩):=av (cW h) (av (ms ts) (b_ (HR hz) q))
theorem WZ(U:cD P g):gf g k (λv vs σ Q=>gd (vF 98 v) (Jg (.str ""::vs) σ Q)):=by
 have ha:∃t,(KK P).lookup 98=some {cls:=.type "builtin_function_or_method",data:=.fields #[.builtin "str.join",.str "" t]}:=⟨_,by rfl⟩;refine xE ha ?_;try clear ha
 intro t ha;have hb:=g.X _ _ (by rw[U.K];exact ha);exact Pv 98 (λM h X=>vG (X _ _ hb)) (G5 hb)
noncomputable abbrev F97 (P:Params):df:=fc (KK P) 97 ["self","data"] []
theorem K97(P:Params):cc (F97 P) [] .cell:=ip (by kernel_rfl)
noncomputable def W97:List V->ad V:=L3 λM=>∀{D:cR}{base aD:List O}{c:Wr}{x:Str}{lo ce Q},c.da.length<=1000->br (c.dD==0) (Q .none ⟨lo,ce,mm D base {c with da:=c.da++[x]} aD⟩) (Q .none ⟨lo,ce,mm D base c aD⟩)->
 M [bW base,.str x] ⟨lo,ce,mm D base c aD⟩ Q
theorem BP{D:cR}{c:Wr}:(mm D base c aD)[base.length+4]?=some (.list (c.da.map .str)):=BK 4 rfl
theorem KJ{D:cR}{c:Wr}(xs:List Str):(mm D base c aD).set (base.length+4) (.list (xs.map .str))=mm D base {c with da:=xs} aD:=DQ 4 (by decide) rfl rfl
theorem SA{D:cR}{c:Wr}{lo:List (Option V)}(hz:c.da.length<=10000)(q:Q .none ⟨lo,ce,mm D base {c with da:=c.da++[x]} aD⟩):aA (dC (mm D base c aD) (.loc (base.length+4))) λp=>gd (bw p.2.length) (Q .none ⟨lo,ce,(mm D base c aD).set p.1 (.list (p.2++[.str x]))⟩):=iQ BP (by rw[ax];exact hz) (by rw[show(c.da.map V.str++[.str x])=(c.da++[x]).map V.str by simp,KJ];exact q)
theorem SB{D:cR}{c:Wr}{lo:List (Option V)}{Q:Fl->St->Prop}(hz:c.da.length<=10000)(q:Q .next ⟨lo,ce,mm D base {c with da:=[]} aD⟩):aA (dC (mm D base c aD) (.loc (base.length+4))) λp=>gd (bw p.2.length) (Q .next ⟨lo,ce,(mm D base c aD).set p.1 (.list [])⟩):=av (cW BP) (b_ (cM (by rw[ax];exact hz)) (by rw[show(O.list [])= .list (([]:List Str).map V.str) from rfl,KJ];exact q))
theorem SD(U:cD P g):cO g (k+1) (.ref 97) W97:=by have H:=K97 P;refine rD U H (NB.at rfl (by exact(ab (il (n_ (a7 (dy (cA U) 16 rfl (ai H 0 rfl)))) (ab (c5 (bZ .list bD cJ b0 bB (dy (cA U) 1 rfl (ai H 0 rfl)) (ae (ai H 1 rfl) ay))) aC) aC) aC))) [] [] (λ_=>.nil) rfl (by kernel_rfl) (λa b S=>rfl) ?_;refine k6 (@λD base aD c x lo ce Q hz h=>?_);refine⟨_,_,rfl,?_⟩;refine pQ ?_;refine ca D base c aD (.int c.dD) (by kernel_rfl) rfl ?_;refine oh (Bool.not_not _) h (λh=>?_) id;refine ca D base c aD (.loc (base.length+4)) (by kernel_rfl) rfl ?_;refine b_ (bk BP) ?_;exact SA (am hz (by decide)) h
noncomputable def bp(c:Wr):Wr:={c with da:=[],pc:=bif !(Nat.beq (dE c.da).length 0)&&c.seen then c.pc++[m4 (dE c.da)] else c.pc}
theorem BQ{c:Wr}(e:(!(Nat.beq (dE c.da).length 0))=true)(e':c.seen=true):bp c={c with da:=[],pc:=c.pc++[m4 (dE c.da)]}:=by unfold bp;rw[e,e'];rfl
theorem wA{c:Wr}(e:(!(Nat.beq (dE c.da).length 0)&&c.seen)=false):bp c={c with da:=[]}:=by unfold bp;rw[e];rfl
noncomputable abbrev aa7 (P:Params):df:=fc (KK P) 106 ["self","_join_text","data","args","qname_text"] []
theorem aa8(P:Params):cc (aa7 P) ["_escape_cdata_c14n"] .cell:=ip (by kernel_rfl)
noncomputable def aa9:List V->ad V:=L3 λM=>∀{D:cR}{base aD:List O}{c:Wr}{lo ce Q},c.da.length<=1000->k7 c.da<=10000->c.pc.length<=10000->Q .none ⟨lo,ce,mm D base (bp c) aD⟩->M [bW base] ⟨lo,ce,mm D base c aD⟩ Q
theorem Fy(U:cD P g):cO g (k+2) (.ref 106) aa9:=by
 have H:=aa8 P;refine lB U H (NB.at rfl (by exact(ab (aP H 2 rfl (my (WZ U) (ai H 1 rfl) (ae (dy (cA U) 1 rfl (ai H 0 rfl)) ay))) (ab (N4 (dy (cA U) 1 rfl (ai H 0 rfl))) (ab (il (cG (bN (a7 (dy (cA U) 3 rfl (ai H 0 rfl))) (bN te gF))) fm aC) (ab (il (aN jC (dy (cA U) 13 rfl (ai H 0 rfl)) ik) fm aC) (ab (il (cG (bN (a7 (ai H 2 rfl)) (bN (a7 (dy (cA U) 14 rfl (ai H 0 rfl))) gF))) (ab (c5 (mz (cA U).cls (xP U) vI (ai H 0 rfl) (ae (b7 (g8 U (by kernel_rfl)) (Oc U).ok (k5 U H 0 9 rfl rfl) (ae (ai H 2 rfl) ay)) ay))) aC) aC) aC))))))) [.fb (.ref 98)] [.ref 98] (λ_=>.cons rfl .nil) rfl (by kernel_rfl) (λa S=>rfl) ?_;refine k6 (@λD base aD c lo ce Q h1 h2 h3 h=>?_);refine⟨_,rfl,?_⟩;refine pQ ?_;refine ca D base c aD (.loc (base.length+4)) (by kernel_rfl) rfl ?_;refine Fx BP (am h2 (by decide)) ?_;refine ca D base c aD (.loc (base.length+4)) (by kernel_rfl) rfl ?_;refine SB (am h1 (by decide)) ?_;refine ca D base {c with da:=[]} aD (.bool false) (by kernel_rfl) rfl ?_;refine ca D base {c with da:=[]} aD .none (by kernel_rfl) rfl ?_;refine b_ (cM (by rw[rI];exact h2)) ?_;refine bu (λe=>?_) (λe=>?_)
 ·refine ca D base {c with da:=[]} aD (.bool c.seen) (by kernel_rfl) rfl ?_;refine bu (λe'=>?_) (λe'=>?_)
  ·rw[BQ e e'] at h;refine ca D base {c with da:=[]} aD (.loc (base.length+1)) (by kernel_rfl) rfl ?_;refine λ_ E=>E (by rw[rI];exact h2) ?_;exact ou D base {c with da:=[]} aD h3 h
  ·rw[wA (by rw[e,e'];rfl)] at h;exact h
 ·rw[wA (by rw[e];rfl)] at h;exact h
end
noncomputable def eqO(o:Option Str)(x:Str):Bool:=match o with
 |some y=>d4 y x
 |none=>false
theorem KL{o:Option Str}(h:eqO o x=true):o=some x:=by
 cases o with
 |none=>exact nB h
 |some y=>exact ag some ((cq _ _).mp h)
noncomputable def P1(ps:List Str)(p:Str×Option Nat):Bool:=match p.2 with
 |some j=>eqO ps[j]? p.1
 |none=>true
noncomputable def P2(ps:List Str)(p:Str×Option Nat):Bool:=match p.2 with
 |some _=>true
 |none=>!(dN p.1 ps)
noncomputable def zd(F:df)(ps:List Str)(lm cm:List (Option Nat)):Bool:=Nat.beq lm.length F.names.length&&Nat.beq cm.length F.cells.length&&(F.names.zip lm).all (P1 ps)&&(F.cells.zip cm).all (P1 ps)&&(F.cells.zip cm).all (P2 ps)&&mZ ps&&
 ps.all λx=>decide (F.scope.names.lookup x=some .local)||dN x F.cells
theorem DT{xs:List Str}{m:List (Option Nat)}{o:Option Nat}(h1:xs[i]?=some x)(h2:m[i]?=some o):(x,o)∈xs.zip m:=eg (List.getElem?_zip_eq_some.mpr ⟨h1,h2⟩)
theorem SE{ps:List Str}{lm cm:List (Option Nat)}(H:cc F gs .cell)(h:zd F ps lm cm=true)(hc:∀n:Nat,cellsFrom n F.scope.names []=((F.cells.zip ((List.range F.cells.length).map (n+ ·)))).reverse):Dn F ps lm cm:=by
 unfold zd at h;simp only[aM,i_] at h;obtain⟨⟨⟨⟨⟨⟨h1,h2⟩,h3⟩,h4⟩,h5⟩,h6⟩,m⟩:=h;have e2:=bK h2;refine⟨bK h1,e2,λi x j e1 e2=>KL (h3 _ (DT e1 e2)),λi x j e1 e2=>KL (h4 _ (DT e1 e2)),λi x e1 e2 B=>?_,λx B=>(H.loc B).1,λx B=>(H.cell B).1,mw h6,λx B=>?_,hc,H.ndc⟩
 ·have:=h5 _ (DT e1 e2);rw[show P2 ps (x,none)= !(dN x ps) from rfl,(fT _ _).mpr B] at this;exact nB this
 ·have:=m x B;rw[Bool.or_eq_true] at this;exact this.imp iu λh=>(fT _ _).mp h
section
variable {k:Nat}
theorem Fz(U:cD P g){f:Addr}{cells:List Str}(H:cc (fc (KK P) f names cells) gs .cell)(hb:NB g (fc (KK P) f names cells) k (bh (KK P) f) W)(n:Nat)(dflt:List V)(ps:List Str)(lm cm:List (Option Nat))(C:zd (fc (KK P) f names cells) ps lm cm=true) (L:∀n:Nat,cellsFrom n (bR (KK P) f).scope.names []=((cells.zip ((List.range cells.length).map (n+ ·)))).reverse)(ho:(KK P).lookup f=some ⟨oc,od,.func (fnOf name qn params (bh (KK P) f) (bR (KK P) f).scope dV kV fx pm an (bR (KK P) f).code ct),Aw⟩)(hc:(codeIn (KK P) (bR (KK P) f).code qn&&d4 (bR (KK P) f).qualname qn&& !(bR (KK P) f).scope.isCoroutine&& !(bR (KK P) f).scope.isGenerator)=true) (RX:ps.length=n+dflt.length)(m:∀(s:Shared)(us:List Value),(KK P).In s.heap->us.length=n->∃ds,(∀wd,aE (VR wd) dflt ds)/\BindsTo s (fnOf name qn params (bh (KK P) f) (bR (KK P) f).scope dV kV fx pm an (bR (KK P) f).code ct) ⟨us,[]⟩ (ps.zip (us++ds)))(J:∀vs σ Q,W' vs σ Q->vs.length=n/\W ⟨lm.map (ZT (vs++dflt)),(List.range cells.length).map (σ.mem.length+ ·),σ.mem++cm.map (vW (vs++dflt))⟩ (pP Q σ.loc σ.iA)):cO g (k+1) (.ref f) W':=by
 simp only[aM,gS] at hc;obtain⟨⟨⟨h1,h2⟩,h3⟩,h4⟩:=hc;have Y:=(cq _ _).mp h2;refine cO.conv (yI hb.run (SE H C L) (by rw[U.K];exact ho) (by rw[U.K];exact h1) (by show(bR (KK P) f).qualname++_=_;rw[Y]) n dflt RX (by rw[U.K];exact m) h3 h4 H.kind) λvs σ Q h=>?_
 refine xA (J vs σ Q h) λe h'=>?_;exact b_ (by rw[e];exact h_ _) h'
theorem gf.conv{W W':V->List V->ad V}(h:gf g k W)(J:∀v vs σ Q,W' v vs σ Q->W v vs σ Q):gf g k W':=⟨λF d wd σ s v u vs Q R hv h'=>h.1 F d wd σ s v u vs Q R hv (J v vs σ Q h'),λF d A af v u vs us hr hv D=>bb.conv (h.2 F d A af v u vs us hr hv D) (J v vs)⟩
theorem KM{mem:List O}{t:Nat}{ls:List Nat}(h:mem[l]?=some (.fn t ls)):VG t mem (.loc l)=some ls:=by refine(?_ :ZY t mem[l]?=_);rw[h];refine(?_ :cond (Nat.beq t t) (some ls) none=_);rw[h_];rfl
noncomputable def SF:V->List V->ad V:=L4 λM=>∀{l:Nat}{x:Str}{lo ce me Q},me[l]?=some (.fn 1 [])->x.length<=10000->(∀ps:List Str,Q (.loc me.length) ⟨lo,ce,me++[.list (ps.map .str)]⟩)->M (.loc l) [.str x] ⟨lo,ce,me⟩ Q
theorem NE.at{W0 f:PySem.Expr}{a:List PySem.Expr}{kw:List Keyword}{pos:Pos}{W:ad V}(e:W0= .Call f a kw pos)(h:NE g F k (.Call f a kw pos) W):NE g F k W0 W:=e▸h
noncomputable def W3(P:Params)(c:Value):df:=⟨HK++".<locals>.",c,(qA P).scope,["n"],[]⟩
theorem aa_(U:cD P g):gf g (k+1) SF:=by
 have H:∀c,cc (W3 P c) [] .cell:=λc=>ip (by kernel_rfl);have hb:∀c,NE g (W3 P (.ref c)) k (N6 P) _:=λc=>NE.at rfl (bZ .str kD PySem.F.slot_str_split PySem.F.type_str_split GT (ai (H (.ref c)) 0 rfl) (ae bz (ae bv ay)));refine gf.conv (VI (λc=>(hb c).run) U.fo1 U.tq1 rfl (U.ff1.trans (by kernel_rfl)) 1 (λus fA pm cd io Z=>by obtain⟨a,rfl⟩:=List.length_eq_one_iff.mp Z;rfl)
  (H .none).nd (H .none).ndc (λx B=>((H .none).loc B).1) (λx B e=>nB ((ag (λq=>!(q==NameKind.cell)) e).symm.trans (List.all_eq_true.mp (show((qA P).scope.names.all λx=>!(x.2== .cell))=true by kernel_rfl) x B))) (by kernel_rfl) (by kernel_rfl) (by kernel_rfl)) ?_
 refine Sy (@λl x lo ce me Q h1 h2 h=>?_);refine av (KM h1) ?_;refine b_ (b:=bw (x.length+2)&&Nat.ble 1 ("}":Str).length&&Nat.ble (1:Int).natAbs 1000000) ?_ (h _);rw[aM,aM];exact⟨⟨cU (aQ [_] (.c 1 (.v 0) (.n 10000) .nil) 0 (.a (.v 0) (.n 2)) (.n 16777216) tt h2),rfl⟩,rfl⟩
def pqW(v:V)(vs:List V):ad V:=λσ Q=>aA (A0 90 σ.mem v) λself=>W90 (self::vs) σ Q
theorem SG(U:cD P g):gf g (k+2) pqW:=Ry 90 (by rw[U.K];kernel_rfl) (KI U)
theorem Ok{ps:List Str}(ts:List O):Bp ((me++[.list (ps.map .str)])++ts) (.loc me.length)=true:=by refine(?_ :((tV ((me++[.list (ps.map .str)])++ts)[me.length]?).bind kN).isSome=true);rw[ac aR];refine(?_ :(kN (ps.map .str)).isSome=true);rw[ms];rfl
theorem Ol{lo:List (Option V)}{lf:Nat}{K:List V->St->Prop}:∀(I:List Str)(ks:List V)(me:List O),me[lf]?=some (.fn 1 [])->(∀y∈I,y.length<=10000)->(∀ts,ks.all (Bp (me++ts))=true)-> (∀ts kv,kv.all (Bp (me++ts))=true->K kv ⟨lo,ce,me++ts⟩)->vX SF (.loc lf) (I.map .str) ks ⟨lo,ce,me⟩ K:=λI=>by
 induction I with
 |nil=>intro ks me h1 h2 h3 h;have:=h [] ks (h3 []);rw[aS] at this;exact this
 |cons y r T=>
  intro ks me h1 h2 h3 h;refine λ_ E=>E h1 (h2 y (.head _)) λps=>T _ _ (ac h1) (λy hy=>h2 y (.tail _ hy)) (λts=>?_) λts kv hk=>?_
  ·rw[List.all_append,aM];refine⟨?_,?_⟩
   ·rw[au];exact h3 _
   ·rw[List.all_cons,Ok];rfl
  ·have:=h ([.list (ps.map .str)]++ts) kv;rw[<-au] at this;exact this hk
theorem KN{xs:List Str}(h:me[l]?=some (.sset xs)):J4 me (.loc l)=some xs:=by refine(?_ :PN me[l]?=_);rw[h];rfl
theorem HS{lo:List (Option V)}{lf:Nat}{xs:List Str}(h1:me[l]?=some (.sset xs))(h2:me[lf]?=some (.fn 1 []))(hz:xs.length<=2)(M:∀x∈xs,x.length<=10000)(h:∀(ts:List O)(zs:List Str),zs.Perm xs->Q (.loc (me++ts).length) ⟨lo,ce,(me++ts)++[.list (zs.map .str)]⟩):aA (J4 me (.loc l)) λxs=>aA (pO (.loc lf)) λ_=>gd (Nat.ble xs.length 2) (∀I:List Str,I.Perm xs->vX SF (.loc lf) (I.map .str) [] ⟨lo,ce,me⟩ λkv a9=>gd (kv.all (Bp a9.mem))
  (∀zs:List Str,zs.Perm xs->Q (.loc a9.mem.length) {a9 with mem:=a9.mem++[.list (zs.map .str)]})):=
 av (KN h1) (av rfl (b_ (d_ hz) λI hy=>Ol I [] me h2 (λy hm=>M y (hy.mem_iff.mp hm)) (λts=>rfl) λts kv hk=>b_ hk λzs hz=>h ts zs hz))
end
end
section
variable {C:Addr}{b:Bool}{D:cR}{Q:Fl->St->Prop}{g:G}{l0:List (Option Bool)}{es:List (Str×V)}{ce:List Nat}{b2 base me r oA:List O}{zs:List Str}{vs xs:List V}{N al d i j ja l m nd pm:Nat}{t0:O}{o:Option Bool}{a at':Option Str}{P:Params}{scope:Scope}{x y:Str}{α:Type}{c c':Wr}
theorem bS{lo:List (Option V)}{v:V}{Q:V->St->Prop}(h1:ce[i]?=some l)(h2:me[l]?=some (.cell v))(q:Q v ⟨lo,ce,me⟩):vb i ⟨lo,ce,me⟩ Q:=gq h1 (gq (bE h2) q)
theorem eH{lo:List (Option V)}{v:V}{Q:V->St->Prop}(h:lo[i]?=some (some v))(q:Q v ⟨lo,ce,me⟩):dY i ⟨lo,ce,me⟩ Q:=MT h q
theorem KO{v:V}(h:me[l]?=some (.bP .meth [.fb (.ref 90),v])):A0 90 me (.loc l)=some v:=by refine(?_ :xy 90 me[l]?=_);unfold xy;rw[h];rfl
theorem Om{v:V}{lo:List (Option V)}{Q:Unit->St->Prop}(h:me[l]?=some (.dict es))(hn:mt es=true)(hz:es.length<=100)(q:Q () ⟨lo,ce,me.set l (.dict (cQ x v es))⟩):aA (qZ me[l]?) λes=>gd (mt es&&Nat.ble es.length 100) (Q () ⟨lo,ce,me.set l (.dict (cQ x v es))⟩):=by rw[h];refine av rfl (b_ ?_ q);rw[hn,d_ hz];rfl
section
variable {r':List O}{c'':Wr}{lv ku ae0:List (Option Bool)}
theorem HO.list(h:HO D N r j o):∃xs,r[j]?=some (.list xs):=by
 cases o with
 |none=>exact⟨_,h⟩
 |some s=>exact⟨_,h.choose_spec.1⟩
theorem aE.mem{β:Type}{R:α->β->Prop}{l:List α}{m:List β}(h:aE R l m){a:α}(ha:a∈l):∃b,R a b:=by
 induction h with
 |nil=>cases ha
 |cons x _ T=>
  cases ha with
  |head=>exact⟨_,x⟩
  |tail _ ha=>exact T ha
theorem RR.isl(R:RR D N c lv r)(h:i∈c.dc++c.nz):∃xs,r[i]?=some (.list xs):=by
 rcases List.mem_append.mp h with h|h
 ·exact(R.dl.mem h).choose_spec.list
 ·exact⟨_,R.nl i h⟩
theorem RR.UH(R:RR D N c lv r){o:O}(e:r[i]?=some o)(h:∀xs,o≠ .list xs):i∉c.dc++c.nz:=λhi=>by refine xE (R.isl hi) λxs e'=>?_;rw[e] at e';exact h xs (aq e')
theorem RR.new(R:RR D N c lv r)(h:r.length<=i):i∉c.dc++c.nz:=λhi=>by refine xE (R.isl hi) λxs e'=>?_;rw[List.getElem?_eq_none h] at e';exact nS e'
theorem RR.aba(R:RR D N c lv r){o o':O}(nd:i∉c.dc++c.nz)(e:r[i]?=some o)(h':∀xs,o≠ .tup xs):RR D N c lv (r.set i o'):=by
 rw[ma] at nd;refine⟨R.dl.BO λj x hj S=>?_,λj hj=>?_,R.nd⟩
 ·have WS:i≠j:=λq=>nd (.inl (by rw[q];exact hj));cases x with
  |none=>rw[HO,c7 WS];exact S
  |some s=>
   refine bx S λt h1 h2=>?_;try clear S
   exact⟨t,by rw[c7 WS];exact h1,by rw[c7 (λq=>h' _ (aq (e.symm.trans (by rw[q];exact h2))))];exact h2⟩
 ·rw[c7 (λq=>nd (.inr (by rw[q];exact hj)))];exact R.nl j hj
theorem xU{x y z:O}(e:r[j]?=some x)(e':r[i]?=some y)(h:x≠y):(r.set i z)[j]?=some x:=by rw[c7 (λq=>h (aq (e.symm.trans (by rw[<-q];exact e'))))];exact e
theorem nH.trans(a:nH D N c c' lv oA r)(b:nH D N c' c'' ku r r')(e:c'.dc=c.dc):nH D N c c'' ku oA r':=⟨b.R,a.keep.trans (e▸b.keep),am a.le b.le⟩
theorem nH.put(T:nH D N c c' lv oA r){o o':O}(hi:oA.length<=i)(nd:i∉c'.dc++c'.nz)(e:r[i]?=some o)(h':∀xs,o≠ .tup xs):nH D N c c' lv oA (r.set i o'):=⟨T.R.aba nd e h',λj x ej hj=>by
  rw[c7 λq=>?_]
  ·exact T.keep j x ej hj
  ·have:=(List.getElem?_eq_some_iff.mp ej).1;exact Av [_,_,_] (.c 1 (.v 0) (.v 1) (.e 1 (.v 1) (.v 2) (.c 1 (.a (.v 2) (.n 1)) (.v 0) .nil))) 0 tt hi q this,by rw[dS];exact T.le⟩
theorem xf.more(W:xf D N c lv r)(xs:List O):xf D N c lv (r++xs):=⟨W.ok,W.R.more,W.lv,W.nz⟩
end
section
variable {k:Nat}
theorem abb(U:cD P g){params:Arguments}{body:PySem.Expr}(h1:(qA P).params=params)(h2:N6 P=body)(h3:(qA P).scope=scope):g.fo 1=λfA fx c' io=>kla_obj "<lambda>" HK params body scope fA ((g.mg "__name__").getD .none) c' io:=by subst h1 h2 h3;exact U.fo1
theorem abc(U:cD P g){pos:Pos}(h:(qA P).pos=pos):g.tp 1=pos:=U.tp1.trans h
theorem abd(U:cD P g)(h:(qA P).scope=scope):g.ff 1=c9 scope:=by subst h;exact U.ff1
noncomputable abbrev W4 (P:Params):df:=fc (KK P) 126 ["tag","attrs","new_namespaces","qname_text","qnames","resolved_names","qname","qattrs","attr_name","value","parsed_qnames","attr_list","k","v","attr_qname","uri","space_behaviour","write"] ["self","parse_qname"]
noncomputable def W5:List Str:=["sorted"]
abbrev iZ(i:Nat):=NN W4 W5 126 i 2
theorem abe(P:Params):cc (W4 P) W5 .cell:=ip (by kernel_rfl)
noncomputable def KP:iZ 0:=⟨_,λU H=>by exact(il (cG (bN (aN jC (dy (cA U) 4 rfl (dw H 0 rfl)) ik) (bN te gF))) fm aC)⟩
noncomputable def SH:iZ 1:=⟨_,λU H=>by exact(aP H 4 rfl (Kk H 0 1 (by rw[U.K];kernel_rfl) rfl rfl rfl))⟩
noncomputable def SI:iZ 2:=⟨_,λU H=>by exact(aP H 5 rfl DF)⟩
noncomputable def SJ:iZ 3:=⟨_,λU H=>by exact(il (aN jC (ai H 3 rfl) ik) fm aC)⟩
noncomputable def SK:iZ 4:=⟨_,λU H=>by exact(il (cG (bN (aN jC (dy (cA U) 8 rfl (dw H 0 rfl)) ik) (bN te gF))) fm (ab (aP H 7 rfl ik) aC))⟩
noncomputable def SL:iZ 5:=⟨_,λU H=>by exact(oe H 1 rfl (Fk (cA U).cls (d90 U) (dw H 0 rfl) (he:=by intro _;with_unfolding_all rfl)))⟩
noncomputable def DU:iZ 6:=⟨_,λU H=>by exact(DJ (rA:=[]) ["n"] ["parse_qname"] [1] (by kernel_rfl) (by kernel_rfl) H 10 rfl (Fi (λ_ _ _=>aX) (xe (aa_ U)) (bG U H 0 4 rfl rfl (by kernel_rfl)) (ai H 4 rfl) (N5 (aaO U) [] (by kernel_rfl) (abb U (by kernel_rfl) (by kernel_rfl) (by kernel_rfl)) (abc U (by kernel_rfl)) U.tq1 (abd U (by kernel_rfl)) (by kernel_rfl) (hd0:=by intro _;rfl)) (T:=by intro _;rfl)) (λH4=>(b8 H4 0 rfl)) (λH4=>Kg) (λH4=>(ai H4 0 rfl)) (λH4=>(my (SG U) (dw H4 0 rfl) (ae (ai H4 0 rfl) ay))) (z:=by intro _ _;rfl) (c:=by intro _;rfl))⟩
noncomputable def DV:iZ 7:=⟨_,λU H=>by exact(il (a7 (ai H 2 rfl)) (ab (qy (rA:=[]) ["uri","prefix"] [] [] (by kernel_rfl) (by kernel_rfl) H 11 rfl (ai H 2 rfl) (λH4=>(rz (dz (b8 H4 0 rfl) (dz (b8 H4 1 rfl) lL)))) (λH4=>Kg) (λH4=>(nF (ae (iJ (a7 (ai H4 1 rfl)) (cZ gb bz (ai H4 1 rfl)) td) (ae (ai H4 0 rfl) ay)))) (z:=by intro _ _;rfl) (c:=by intro _;rfl)) (ab (c5 (bZ .list bD PySem.F.slot_list_sort PySem.F.type_list_sort Hz (ai H 11 rfl) ay)) aC)) (ab (aP H 11 rfl (eG ay)) aC))⟩
noncomputable def DW:iZ 8:=⟨_,λU H=>by exact(il (HF (ai H 1 rfl) (hv:=by intro _ _;rfl)) (ab (mA (b7 (λ_ _ _=>aX) uC (bG U H 0 4 rfl rfl (by kernel_rfl)) (ae (bZ .dict sA oO PySem.F.type_dict_items GY (ai H 1 rfl) ay) ay)) (rz (dz (b8 H 12 rfl) (dz (b8 H 13 rfl) lL))) (ab (il (cG (bN (aN jC (ai H 7 rfl) ik) (bN te (bN te gF)))) fm aC) (ab (qz (N3 (ai H 10 rfl) (ai H 12 rfl)) (Kl (rz (dz (b8 H 14 rfl) (dz (b8 H 8 rfl) (dz (b8 H 15 rfl) lL)))) (he:=by intro _;rfl)) (M:=by intro _;rfl) (hw:=by intro _;rfl)) (ab (c5 (bZ .list bD cJ b0 bB (ai H 11 rfl) (ae (nF (ae (iJ (a7 (ai H 15 rfl)) td (ai H 8 rfl)) (ae (ai H 13 rfl) ay))) ay))) aC)))) aC) aC)⟩
noncomputable def DX:iZ 9:=⟨_,λU H=>by exact(aP H 16 rfl (bZ .dict sA PySem.F.slot_dict_get PySem.F.type_dict_get AV (ai H 1 rfl) (ae bz ay)))⟩
noncomputable def uP:iZ 10:=⟨_,λU H=>by exact(c5 (bZ .list bD cJ b0 bB (dy (cA U) 12 rfl (dw H 0 rfl)) (ae (iJ (a7 (ai H 16 rfl)) td (eP (dy (cA U) 12 rfl (dw H 0 rfl)) HB)) ay)))⟩
noncomputable def ze:iZ 11:=⟨_,λU H=>by exact(aP H 17 rfl (dy (cA U) 0 rfl (dw H 0 rfl)))⟩
noncomputable def uQ:iZ 12:=⟨_,λU H=>by exact(c5 (my vI (ai H 17 rfl) (ae (cZ gb bz (eP (N3 (ai H 10 rfl) (ai H 0 rfl)) bv)) ay)))⟩
noncomputable def uR:iZ 13:=⟨_,λU H=>by exact(il (a7 (ai H 11 rfl)) (ab (c5 (my vI (ai H 17 rfl) (ae (bZ .str kD PySem.F.slot_str_join PySem.F.type_str_join AS bz (ae (HH (rA:=["_escape_attrib_c14n"]) ["k","v"] [] [] (by kernel_rfl) (by kernel_rfl) (ai H 11 rfl) (λH4=>(rz (dz (b8 H4 0 rfl) (dz (b8 H4 1 rfl) lL)))) (λH4=>Kg) (λH4=>(uO (iM bz (iM (DG (ai H4 0 rfl)) (iM bz (iM (DG (b7 (g8 U (by kernel_rfl)) (Od U).ok (k5 U H4 0 10 rfl rfl) (ae (ai H4 1 rfl) ay))) (iM bz Fj))))))) (z:=by intro _ _;rfl)) ay)) ay))) aC) aC)⟩
noncomputable def zf:iZ 14:=⟨_,λU H=>by exact(c5 (my vI (ai H 17 rfl) (ae bz ay)))⟩
noncomputable def zg:iZ 15:=⟨_,λU H=>by exact(il (aN jC (ai H 3 rfl) ik) fm aC)⟩
noncomputable def zh:iZ 16:=⟨_,λU H=>by exact(cj (cA U) 14 rfl Fh (dw H 0 rfl))⟩
noncomputable def uS:iZ 17:=⟨_,λU H=>by exact(c5 (bZ .list bD cJ b0 bB (dy (cA U) 10 rfl (dw H 0 rfl)) (ae (eG ay) ay)))⟩
def KQ(l:Nat):ad Unit:=PR (dY 0) (ao (vb 0) λv=>ao (ao (dY 0) λv=>ao (c8 []) (iY v)) (pqW v)) l
noncomputable abbrev W6 (D:cR) (o:Option Bool) (l:Lc):O:=.tup [.str (bY D o l),.str l.s,.str (DR o)]
theorem qF{lv:List (Option Bool)}{d0:List Nat}{l:Lc}{pc nl:Nat}{x:Option V}{Q:Unit->St->Prop}(T:nH D (D.N base.length) c c lv oA r) (W:xf D (D.N base.length) c lv r) (hd:c.dc=d0++[j]) (hp:∀s,o=some s->o∈lv\/∃l0,lv=l0++[none])(h1:r[pc]?=some (.cell (.loc (D.N base.length+pm)))) (h2:r[pm]?=some (.bP .meth [.fb (.ref 90),bW base])) (h3:r[nl]?=some (.list (zs.map .str))) (hz:zs[i]?=some (eR o l)) (h4:r[nd]?=some (.dict es)) (hn:mt es=true) (he:es.length<=100) (hi:oA.length<=nd)(h:∀r' t,nH D (D.N base.length) c c (rH lv o) oA r'->(∀i x,r[i]?=some x->i∉c.dc->i≠nd->r'[i]?=some x)->r'[nd]?=some (.dict (cQ (eR o l) (.loc (D.N base.length+t)) es))->r'[t]?=some (W6 D o l)->
  gx (bj (D.N base.length+nl)) (du 0) (c8 true) (KQ (D.N base.length+nd)) m (i+1) ⟨[some (.str (eR o l))],[D.N base.length+pc],mm D base c r'⟩ Q):
 gx (bj (D.N base.length+nl)) (du 0) (c8 true) (KQ (D.N base.length+nd)) (m+1) i ⟨[x],[D.N base.length+pc],mm D base c r⟩ Q:=by
 refine jj (ba (aY h3) (by rw[bi,hz];rfl)) ?_;refine bS (i:=0) (ce:=[D.N base.length+pc]) rfl (aY h1) ?_;refine av (KO (aY h2)) ?_;refine λ_ E=>E W hd hp λr' t T' ht=>?_;have kd:=W.R.UH h4 λxs e=>by cases e
 rw[ma] at kd;have h5:=T'.keep nd _ h4 λq=>kd (.inl q);refine Om (aY h5) hn he ?_;rw[rG];have Z:=(List.getElem?_eq_some_iff.mp h5).1;refine h _ t ((T.trans T' rfl).put hi (T'.R.UH h5 λxs e=>by cases e) h5 (λxs e=>by cases e)) (λi x e B hi=>by rw[c7 (bM hi)];exact T'.keep i x e B) (by rw[fG Z]) ?_;rw[c7 λq=>?_]
 ·exact ht
 ·subst q;rw[h5] at ht;cases ht
end
noncomputable abbrev bs (t0:O) (b:Bool) (b2:List O):List O:=t0:: .tab 1 b::b2
inductive Pq(D:cR)(N:Nat)(r:List O)(nd:Nat)(o:Option Bool)(l:Lc):Prop
 |mk {es:List (Str×V)} {t:Nat}:r[nd]?=some (.dict es)->eO (eR o l) es=some (.loc (N+t))->r[t]?=some (W6 D o l)->Pq D N r nd o l
theorem rJ(x:Str):d4 x x=true:=(cq _ _).mpr rfl
theorem zi{v:V}:eO x ((x,v)::es)=some v:=by refine(?_ :(match d4 x x with|true=>some v|false=>eO x es)=_);rw[rJ]
theorem FA{v:V}(h:d4 y x=false):eO x ((y,v)::es)=eO x es:=by refine(?_ :(match d4 y x with|true=>some v|false=>eO x es)=_);rw[h]
theorem On{v u:V}(h:d4 y x=false):cQ x u ((y,v)::es)=(y,v)::cQ x u es:=by refine(?_ :(match d4 y x with|true=>(y,u)::es|false=>(y,v)::cQ x u es)=_);rw[h]
section
variable {lv:List (Option Bool)}{d0:List Nat}{o':Option Bool}{l l':Lc}{pc nl:Nat}{x:Option V}{Q:Unit->St->Prop}
theorem SM(T:nH D (D.N base.length) c c lv oA r)(W:xf D (D.N base.length) c lv r)(hd:c.dc=d0++[j])(hp:∀s,o=some s->o∈lv\/∃l0,lv=l0++[none])(h1:r[pc]?=some (.cell (.loc (D.N base.length+pm)))) (h2:r[pm]?=some (.bP .meth [.fb (.ref 90),bW base])) (h3:r[nl]?=some (.list ([eR o l].map .str))) (h4:r[nd]?=some (.dict [])) (hi:oA.length<=nd) (Z:nl∉c.dc) (hn:nl≠nd)(h:∀r' lo,nH D (D.N base.length) c c (rH lv o) oA r'->Pq D (D.N base.length) r' nd o l->Q () ⟨lo,[D.N base.length+pc],mm D base c r'⟩):∃n,gx (bj (D.N base.length+nl)) (du 0) (c8 true) (KQ (D.N base.length+nd)) n 0 ⟨[x],[D.N base.length+pc],mm D base c r⟩ Q:=⟨2,qF T W hd hp h1 h2 h3 rfl h4 rfl (by decide) hi λr' t T' K' g1 p=>jk (ba (aY (K' nl _ h3 Z hn)) rfl) (h _ _ T' (.mk g1 zi p))⟩
theorem KS(T:nH D (D.N base.length) c c lv oA r)(W:xf D (D.N base.length) c lv r)(hd:c.dc=d0++[j])(hp:∀s,o=some s->o∈lv\/∃l0,lv=l0++[none])(f:∀s,o'=some s->o'∈rH lv o\/∃l0,rH lv o=l0++[none])(d:(rH lv o).length<=10) (qO:d4 (eR o l) (eR o' l')=false)(h1:r[pc]?=some (.cell (.loc (D.N base.length+pm)))) (h2:r[pm]?=some (.bP .meth [.fb (.ref 90),bW base])) (h3:r[nl]?=some (.list ([eR o l,eR o' l'].map .str))) (h4:r[nd]?=some (.dict [])) (hi:oA.length<=nd) (Z:nl∉c.dc) (hn:nl≠nd)(h:∀r' lo,nH D (D.N base.length) c c (rH (rH lv o) o') oA r'->Pq D (D.N base.length) r' nd o l->Pq D (D.N base.length) r' nd o' l'->Q () ⟨lo,[D.N base.length+pc],mm D base c r'⟩):∃n,gx (bj (D.N base.length+nl)) (du 0) (c8 true) (KQ (D.N base.length+nd)) n 0 ⟨[x],[D.N base.length+pc],mm D base c r⟩ Q:=by
 refine⟨3,qF T W hd hp h1 h2 h3 rfl h4 rfl (by decide) hi λr' t T' K' g1 p=>?_⟩;have nd3:∀{i:Nat}{x:O},r[i]?=some x->(∀xs,x≠ .list xs)->x≠ .dict []->r'[i]?=some x:=λ{i x} e B ZU=>K' i x e (λq=>W.R.UH e B (fH _ q)) λq=>by subst q;rw[h4] at e;obtain rfl:=aq e;exact ZU rfl
 refine qF T' ⟨W.ok,T'.R,d,W.nz⟩ hd f (nd3 h1 (λ_ e=>by cases e) λe=>by cases e) (nd3 h2 (λ_ e=>by cases e) λe=>by cases e) (K' nl _ h3 Z hn) rfl g1 rfl (aU rfl) hi λr'' C T'' K'' g3 g4=>?_;have g5:=K'' t _ p (λq=>T'.R.UH p (λ_ e=>by cases e) (fH _ q)) λq=>by subst q;rw[g1] at p;cases p
 refine jk (ba (aY (K'' nl _ (K' nl _ h3 Z hn) Z hn)) rfl) ?_;rw[show cQ (eR o' l') (.loc (D.N base.length+C)) (cQ (eR o l) (.loc (D.N base.length+t)) [])=[(eR o l,.loc (D.N base.length+t)),(eR o' l',.loc (D.N base.length+C))] from On qO] at g3;exact h _ _ T'' (.mk g3 zi g5) (.mk g3 ((FA qO).trans zi) g4)
end
theorem W7(h:zs.Perm [x]):zs=[x]:=List.perm_singleton.mp h
theorem SN(h:zs.Perm [x,y]):zs=[x,y]\/zs=[y,x]:=by
 match zs,h.length_eq with
 | [a,b],_=>
  have ha:=h.mem_iff.mp (.head _:a∈[a,b]);rcases List.mem_cons.mp ha with rfl|ha
  ·have:=List.perm_singleton.mp (List.perm_cons a|>.mp h);exact .inl (by rw[this])
  ·obtain rfl:=List.mem_singleton.mp ha;have:=List.perm_singleton.mp (List.perm_cons a|>.mp (h.trans (List.Perm.swap a x [])));exact .inr (by rw[this])
noncomputable def gG(o:Option Bool)(l:Lc)(a:Bool):List Str:=eR o l::bif a then[eR none .k] else[]
theorem HT(o:Option Bool)(l:Lc)(a:Bool):(gG o l a).length<=2:=by cases a<;>exact aU rfl
theorem P3(o:Option Bool){l:Lc}(Z:l≠ .k):d4 (eR o l) (eR none .k)=false/\d4 (eR none .k) (eR o l)=false:=by rcases o with _|_|_<;>cases l<;>first|exact absurd rfl Z|decide+kernel
section
variable {k:Nat}
theorem HU{lv:List (Option Bool)}(h:∀s,o=some s->o∈lv\/∃l0,lv=l0++[none]):(rH lv o).length=lv.length:=by
 cases o with
 |none=>rfl
 |some s=>
  rcases h s rfl with h|⟨l0,rfl⟩
  ·rw[oz h]
  ·by_cases M:some s∈l0++[none]
   ·rw[oz M]
   ·rw[wy M];simp
theorem p6(U:cD P g){lv:List (Option Bool)}{d0:List Nat}{l:Lc}{a:Bool}{ls pc f:Nat}{lo:List (Option V)}(W:xf D (D.N (bs t0 b b2).length) c lv r)(hd:c.dc=d0++[j])(hp:∀s,o=some s->o∈lv\/∃l0,lv=l0++[none])(YV:l≠ .k) (h1:r[pc]?=some (.cell (.loc (D.N (bs t0 b b2).length+pm)))) (h2:r[pm]?=some (.bP .meth [.fb (.ref 90),bW (bs t0 b b2)])) (h3:r[ls]?=some (.sset (gG o l a))) (h4:lo[4]?=some (some (.loc (D.N (bs t0 b b2).length+ls))))(h:∀r' nd,nH D (D.N (bs t0 b b2).length) c c (rH lv o) r r'->Pq D (D.N (bs t0 b b2).length) r' nd o l->(a=true->Pq D (D.N (bs t0 b b2).length) r' nd none .k)->Q .next ⟨lo.set 10 (some (.loc (D.N (bs t0 b b2).length+nd))),[f,D.N (bs t0 b b2).length+pc],mm D (bs t0 true b2) c r'⟩):DU.1 ⟨lo,[f,D.N (bs t0 b b2).length+pc],mm D (bs t0 b b2) c r⟩ Q:=by
 refine eH (i:=4) (lo:=lo) h4 ?_;have NW:(mm D (bs t0 b b2) c r).length=D.N (bs t0 b b2).length+r.length:=ft;have M:∀x∈gG o l a,x.length<=10000:=λx B=>by
  rcases List.mem_cons.mp B with rfl|B
  ·exact am (Kx _ _) (by decide)
  ·cases a with
   |false=>cases B
   |true=>obtain rfl:=List.mem_singleton.mp B;decide
 refine HS (me:=mm D (bs t0 true b2) c r++[.fn 1 []]) (ac (aY h3)) aR (HT o l a) M λts zs hz=>?_;rw[au,c_];have T1:=(nH.start W.R).more ([O.fn 1 []]++ts);revert T1;generalize r++([O.fn 1 []]++ts)=u;intro T1;have T2:=(T1.more [.list (zs.map .str)]).more [.dict []];have z:∀{i:Nat}{x:O},r[i]?=some x->(∀xs,x≠ .list xs)->((u++[O.list (zs.map .str)])++[O.dict []])[i]?=some x:=λe B=>T2.keep _ _ e λq=>W.R.UH e B (fH _ q);have p:xf D (D.N (bs t0 true b2).length) c lv ((u++[O.list (zs.map .str)])++[O.dict []]):=⟨W.ok,T2.R,W.lv,W.nz⟩;have h3':((u++[O.list (zs.map .str)])++[O.dict []])[u.length]?=some (.list (zs.map V.str)):=ac aR;have MF:((u++[O.list (zs.map .str)])++[O.dict []])[u.length+1]?=some (.dict []):=by rw[au];exact gy
 have Z:u.length∉c.dc:=λq=>W.R.new T1.le (fH _ q);refine av (jm aR) ?_;refine(?_ :∃n,gx (bj (mm D (bs t0 true b2) c u).length) (du 0) (c8 true) (KQ (mm D (bs t0 true b2) c u++[O.list (zs.map .str)]).length) n 0 ⟨[none],[D.N (bs t0 true b2).length+pc],(mm D (bs t0 true b2) c u++[O.list (zs.map .str)])++[O.dict []]⟩ λ_ a9=>Q .next ⟨lo.set 10 (some (.loc (mm D (bs t0 true b2) c u++[O.list (zs.map .str)]).length)),[f,D.N (bs t0 true b2).length+pc],a9.mem⟩);rw[c_,c_,ft,ft,ak];have i1:=iw T1.le;have n1:u.length≠u.length+1:=bL (eA _);have hk:=P3 o YV;cases a with
 |false=>obtain rfl:=W7 hz;exact SM T2 p hd hp (z h1 λ_ e=>by cases e) (z h2 λ_ e=>by cases e) h3' MF i1 Z n1 λr' _ T' q=>h r' _ T' q λe=>by exact nB e
 |true=>
  rcases SN hz with rfl|rfl
  ·exact KS T2 p hd hp (λs e=>by exact nS e) (by rw[HU hp];exact W.lv) hk.1 (z h1 λ_ e=>by cases e) (z h2 λ_ e=>by cases e) h3' MF i1 Z n1 λr' _ T' q q'=>h r' _ T' q λ_=>q'
  ·exact KS (o:=none) T2 p hd (λs e=>by exact nS e) hp W.lv hk.2 (z h1 λ_ e=>by cases e) (z h2 λ_ e=>by cases e) h3' MF i1 Z n1 λr' _ T' q q'=>h r' _ T' q' λ_=>q
end
noncomputable def MI(D:cR)(N n:Nat):Option Bool->List O
 |none=>[.list []]
 |some s=>[.list [.loc (N+(n+1))],.tup [.str ("xmlns:"++pf D s),.str (nJ s)]]
theorem jG(h:uD D)(s:Bool):jn (pf D s):=by
 cases s
 ·exact h.h1
 ·exact h.h2
theorem rK{o:Option O}{K:Bool->Prop}(h:o=some (.list xs))(hz:xs.length<=10000)(q:K (!(Nat.beq xs.length 0))):IM o K:=by rw[h];exact b_ (cM hz) q
theorem jv{o:Option O}{A B:Prop}(h:o=some (.list xs))(hz:xs.length<=10000)(q:br (!(Nat.beq xs.length 0)) A B):IM o λb=>br b A B:=rK h hz q
theorem tB{x y:O}:(r++[x])++[y]=r++[x,y]:=by rw[au];rfl
section
variable {k:Nat}
theorem p7(U:cD P g){x:Option Bool}{lo:List (Option V)}(S:HO D (D.N base.length) r j x)(G:uD D)(h2:lo[2]?=some (some (.loc (D.N base.length+j))))(m:lo.length=18)(h:Q .next ⟨lo.set 11 (some (.loc (D.N base.length+r.length))),ce,mm D base c (r++MI D (D.N base.length) r.length x)⟩):DV.1 ⟨lo,ce,mm D base c r⟩ Q:=by
 refine eH h2 ?_;cases x with
 |none=>refine jv (aY S) (aW _) ?_;rw[<-c_,<-ft] at h;exact h
 |some s=>
  refine bx S ?_;try clear S
  intro t S ht;refine jv (aY S) (aU rfl) ?_;refine eH h2 ?_;refine av (jm (aY S)) ⟨2,?_⟩;have Z:(mm D base c r).length=D.N base.length+r.length:=ft;have M:=jG G s;refine jj (ba (ac (aY S)) rfl) ?_;refine av (gz (ac (aY ht))) ?_;refine b_ (b:=bw (pf D s).length) (cM (am M.2 (by decide))) ?_;refine w5 (BL M.1) ?_;refine b_ (cU (am (l4 M.2 _) (by decide))) ?_;refine iQ (me:=(mm D base c r++[O.list []])++[O.tup [.str ("xmlns:"++pf D s),.str (nJ s)]]) (by rw[tB];exact aR) (aW _) ?_;rw[tB,kQ];refine jk (ba (ac (aY S)) rfl) ?_;have e:mm D base c (r++MI D (D.N base.length) r.length (some s))=mm D base c r++[O.list ([]++[.loc ((mm D base c r++[O.list []]).length)]),O.tup [.str ("xmlns:"++pf D s),.str (nJ s)]]:=by rw[<-c_,ak,Z];rfl
  rw[e,<-Z] at h;refine eH (by rw[fG (by rw[m];decide)]) ?_;refine b_ (bk aR) ?_;refine av (cW aR) ?_;exact h
end
noncomputable def HV:Option Str->List (Str×V)
 |none=>[]
 |some v=>[("k",.str v)]
theorem iS(h:me[l]?=some (.dict es)):tZ me (.loc l)=some (l,es):=bE (o:=qZ me[l]?) (bE h)
theorem xV(h:me[l]?=some (.dict es)):xb me (.loc l) .dict=true:=ag Option.isSome (bE h)
theorem qb{xs:List α}{v:α}(h:i<xs.length):(xs.set i v)[i]?=some v:=by rw[fG h]
theorem bF{xs:List α}{v:α}{o:Option α}(h:i≠j)(e:xs[j]?=o):(xs.set i v)[j]?=o:=by rw[c7 h];exact e
section
variable {k:Nat}
theorem p8(U:cD P g){lo:List (Option V)}(h1:r[ja]?=some (.dict (HV at')))(h2:r[al]?=some (.list xs))(h3:at'.isSome=true->Pq D (D.N base.length) r nd none .k)(hz:xs.length<=100)(l1:lo[1]?=some (some (.loc (D.N base.length+ja)))) (l7:lo[7]?=some (some .none)) (W8:lo[10]?=some (some (.loc (D.N base.length+nd)))) (UI:lo[11]?=some (some (.loc (D.N base.length+al)))) (m:lo.length=18)(q0:at'=none->Q .next ⟨lo,ce,mm D base c r⟩)(q1:∀v a b d e f,at'=some v->Q .next ⟨((((lo.set 12 a).set 13 b).set 14 d).set 8 e).set 15 f,ce,mm D base c ((r++[O.bP .bI [.loc (D.N base.length+ja)],.tup [.str "k",.str v],.list [.loc (D.N base.length+(r.length+1))],.tup [.str "k",.str v]]).set al (.list (xs++[.loc (D.N base.length+(r.length+3))])))⟩):DW.1 ⟨lo,ce,mm D base c r⟩ Q:=by
 refine eH (i:=1) (lo:=lo) l1 ?_;refine av (iS (aY h1)) ?_;cases at' with
 |none=>exact q0 rfl
 |some v=>
  replace h1:r[ja]?=some (.dict [("k",.str v)]):=h1;refine eH (i:=1) (lo:=lo) l1 ?_;refine b_ (xV (aY h1)) ?_;refine av (iS (aY h1)) ?_;refine av (o:=yT (mm D base c r++[O.bP .bI [.loc (D.N base.length+ja)]])[(mm D base c r).length]?) (v:=.loc (D.N base.length+ja)) (by rw[aR];rfl) ?_;refine av (iS (ac (aY h1))) ?_;have Z:(mm D base c r).length=D.N base.length+r.length:=ft;have e1:((mm D base c r++[O.bP .bI [.loc (D.N base.length+ja)]])++[.tup [.str "k",.str v]])++[O.list [.loc (mm D base c r++[O.bP .bI [.loc (D.N base.length+ja)]]).length]]=mm D base c (r++[O.bP .bI [.loc (D.N base.length+ja)],.tup [.str "k",.str v],.list [.loc (D.N base.length+(r.length+1))]]):=by rw[ak,Z,<-c_];simp only[au];rfl
  refine(?_ :∃n,gu (bj ((mm D base c r++[O.bP .bI [.loc (D.N base.length+ja)]]).length+1)) _ _ n 0 ⟨lo,ce,((mm D base c r++[O.bP .bI [.loc (D.N base.length+ja)]])++[.tup [.str "k",.str v]])++[O.list [.loc (mm D base c r++[O.bP .bI [.loc (D.N base.length+ja)]]).length]]⟩ _);rw[e1,ak,Z,cS,cS];have hal:=(List.getElem?_eq_some_iff.mp h2).1;obtain⟨h4,h5,h6⟩:=h3 rfl;rename_i es t
  specialize q1 v (some (.str "k")) (some (.str v)) (some (.str "k")) (some (.str "k")) (some (.str "")) rfl
  rw[show r++[O.bP .bI [.loc (D.N base.length+ja)],.tup [.str "k",.str v],.list [.loc (D.N base.length+(r.length+1))],.tup [.str "k",.str v]]=(r++[O.bP .bI [.loc (D.N base.length+ja)],.tup [.str "k",.str v],.list [.loc (D.N base.length+(r.length+1))]])++[.tup [.str "k",.str v]] by simp] at q1;have p:(r++[O.bP .bI [.loc (D.N base.length+ja)],.tup [.str "k",.str v],.list [.loc (D.N base.length+(r.length+1))]])[r.length+2]?=some (.list [.loc (D.N base.length+(r.length+1))]):=by simp
  have g1:(r++[O.bP .bI [.loc (D.N base.length+ja)],.tup [.str "k",.str v],.list [.loc (D.N base.length+(r.length+1))]])[r.length+1]?=some (.tup [.str "k",.str v]):=gy;replace h2:(r++[O.bP .bI [.loc (D.N base.length+ja)],.tup [.str "k",.str v],.list [.loc (D.N base.length+(r.length+1))]])[al]?=_:=ac h2;replace h4:(r++[O.bP .bI [.loc (D.N base.length+ja)],.tup [.str "k",.str v],.list [.loc (D.N base.length+(r.length+1))]])[nd]?=_:=ac h4;replace h6:(r++[O.bP .bI [.loc (D.N base.length+ja)],.tup [.str "k",.str v],.list [.loc (D.N base.length+(r.length+1))]])[t]?=_:=ac h6;have NW:(r++[O.bP .bI [.loc (D.N base.length+ja)],.tup [.str "k",.str v],.list [.loc (D.N base.length+(r.length+1))]]).length=r.length+3:=by rw[ak];rfl
  clear e1;revert g1 p h2 h4 h6 NW q1;generalize r++[O.bP .bI [.loc (D.N base.length+ja)],.tup [.str "k",.str v],.list [.loc (D.N base.length+(r.length+1))]]=u;intro q1 p g1 h2 h4 h6 NW;refine⟨2,fq (b:=.loc (D.N base.length+(r.length+1))) (ba (aY p) rfl) ?_⟩;refine av (o:=vk (mm D base c u) (.loc (D.N base.length+(r.length+1)))) (gz (aY g1)) ?_;refine eH (i:=7) (lo:=(lo.set 12 (some (.str "k"))).set 13 (some (.str v))) (bF (by decide) (bF (by decide) l7)) ?_;refine eH (i:=10) (lo:=(lo.set 12 (some (.str "k"))).set 13 (some (.str v))) (bF (by decide) (bF (by decide) W8)) ?_;refine eH (i:=12) (lo:=(lo.set 12 (some (.str "k"))).set 13 (some (.str v))) (bF (by decide) (qb (by rw[m];decide))) ?_;refine av (iS (aY h4)) ?_;refine av (o:=eO "k" es) h5 ?_;refine av (o:=vk (mm D base c u) (.loc (D.N base.length+t))) (gz (aY h6)) ?_;refine eH (i:=11) (lo:=((((lo.set 12 (some (.str "k"))).set 13 (some (.str v))).set 14 (some (.str "k"))).set 8 (some (.str "k"))).set 15 (some (.str ""))) (bF (by decide) (bF (by decide) (bF (by decide) (bF (by decide) (bF (by decide) UI))))) ?_;refine b_ (bk (aY h2)) ?_;refine eH (qb (by simp[m])) ?_;refine eH (bF (by decide) (qb (by simp[m]))) ?_;refine eH (bF (by decide) (bF (by decide) (bF (by decide) (qb (by simp[m]))))) ?_;refine iQ (me:=mm D base c u++[O.tup [.str "k",.str v]]) (v:=.loc (mm D base c u).length) (by rw[c_];exact aY (ac h2)) (am hz (by decide)) ?_;rw[c_,rG,ft,NW];refine iP (ba (aY (bF ?_ (ac p))) rfl) q1;exact bL (Nat.lt_add_right 2 hal)
end
noncomputable def i0(e:Str×Str):Str:=Str.empty++" "++e.1++"=\""++Sz e.2++"\""
theorem BR(h:x.length<=10):(Sz x).length<=750000:=by have h1:(HM x).length<=5*10:=rl (c:=38) h (by decide+kernel) (by decide+kernel) (by decide);have h2:=rl (c:=60) (y:="<") (z:="&lt;") (m:=4) h1 (by decide+kernel) (by decide+kernel) (by decide);have h3:=rl (c:=34) (y:="\"") (z:="&quot;") (m:=6) h2 (by decide+kernel) (by decide+kernel) (by decide);have h4:=rl (c:=9) (y:="\t") (z:="&#x9;") (m:=5) h3 (by decide+kernel) (by decide+kernel) (by decide);have h5:=rl (c:=10) (y:="\n") (z:="&#xA;") (m:=5) h4 (by decide+kernel) (by decide+kernel) (by decide);exact am (rl (c:=13) (m:=5) h5 (by decide+kernel) (by decide+kernel) (by decide)) (by decide)
structure HW(e:Str×Str):Prop where
 k:e.1.length<=1000
 v:e.2.length<=10
theorem uE{n:Nat}(h:n<=m)(hm:Nat.ble m 16777216=true):bw n=true:=cU (am h (aU hm))
theorem kR{n:Nat}(h:x.length<=m)(h':y.length<=n):(x++y).length<=m+n:=by rw[bH];exact gm h h'
section
variable {Q:Unit->St->Prop}
def abg(l:Nat):ad Unit:=ua (ao (ao (eK (.str " ")) (UF (λbV=>ao (ao (dY 0) So) (UF (λbV=>ao (eK (.str "=\"")) (UF (λbV=>ao (ao (ao (ao (dY 1) λv=>ao (c8 []) (iY v)) WH) So) (UF (λbV=>ao (eK (.str "\"")) (UF c8 bV)) bV)) bV)) bV)) Str.empty)) Wc) l
theorem KT{ll:List V}(Z:me[l]?=some (.list ll)){es:List (Str×Str)}(ha:aE (P0 me) vs es):∀(i:Nat)(bV:List Str)(lo:List (Option V)),lo.length=2->ll.drop i=vs->(∀e∈es,HW e)->bV.length+es.length<=100-> (∀lo,Q () ⟨lo,ce,me++[.list ((bV++es.map i0).map .str)]⟩)-> gx (bj l) (Og 0 1) (c8 true) (abg me.length) (vs.length+1) i ⟨lo,ce,me++[.list (bV.map .str)]⟩ Q:=by
 induction ha with
 |nil=>exact λi bV lo m hd K hz h=>jk (ba (ac Z) (drop_nil hd)) (by rw[List.map_nil,aS] at h;exact h lo)
 | @cons v e vs es he ha T=>
  intro i bV lo m hd K hz h;refine xA (fD hd) λh1 h2=>?_;refine bx he λt Y ht=>?_;try clear he
  obtain rfl:=Y;refine yc (Dt m) λx y jM=>?_;obtain rfl:=jM;rw[aJ] at hz;obtain⟨gk,gv⟩:=K e (.head _);have ge:=BR gv;have X:(Str.empty++" "++e.1).length<=1+1000:=kR (aU rfl) gk;have a2:=kR (y:="=\"") X (aF 2);have a3:=kR a2 ge;have a4:=kR (y:="\"") a3 (aF 1);refine jj (ba (ac Z) h1) ?_;refine av (gz (ac ht)) ?_;refine b_ (b:=bw e.1.length) (uE gk rfl) ?_;refine b_ (by rw[<-bH];exact uE X rfl) ?_;refine b_ (by rw[<-bH];exact uE a2 rfl) ?_;refine λ_ E=>E gv ?_;refine b_ (uE ge rfl) ?_;refine b_ (by rw[<-bH];exact uE a3 rfl) ?_;refine b_ (by rw[<-bH];exact uE a4 rfl) ?_;refine b_ (uE a4 rfl) ?_;refine iQ (me:=me++[.list (bV.map .str)]) (v:=.str (i0 e)) aR (by rw[ax];exact aQ [_,_] (.c 1 (.a (.v 0) (.a (.v 1) (.n 1))) (.n 100) .nil) 0 (.v 0) (.n 10000) tt hz) ?_;rw[kQ,show bV.map V.str++[.str (i0 e)]=(bV++[i0 e]).map V.str by simp];exact T (i+1) (bV++[i0 e]) _ rfl h2 (λe he=>K e (.tail _ he)) (by rw[ak];simp;exact aQ [_,_] (.c 1 (.a (.v 0) (.a (.v 1) (.n 1))) (.n 100) .nil) 0 (.a (.a (.v 0) (.n 1)) (.v 1)) (.n 100) tt hz) λlo=>by rw[au];exact h lo
end
noncomputable def BS(es:List (Str×Str)):List Str:=bif es.isEmpty then[] else[dE (es.map i0)]
noncomputable def cF(c:Wr)(b:Str)(es:List (Str×Str))(i:Nat):Wr:={c with pc:=((c.pc++[("<":Str)++b])++BS es)++[(">":Str)],pr:=c.pr+1,seen:=true,nz:=c.nz++[i]}
theorem dK{o:Option O}{i:Int}{v:V}{K:V->Prop}(h:o=some (.tup xs))(e:vf xs i=some v)(q:K v):QW o (.int i) K:=by rw[h];exact(av e q:aA (vf xs i) K)
theorem Oo{lo:List (Option V)}{Q:V->St->Prop}(h:me[l]?=some (.dict es))(hn:eO x es=none)(q:Q .none ⟨lo,ce,me⟩):AU [.loc l,.str x] ⟨lo,ce,me⟩ Q:=by refine av (iS h) (av rfl ?_);rw[hn];exact q
theorem DY(a:Option Str):eO "{http://www.w3.org/XML/1998/namespace}space" (HV a)=none:=by
 cases a with
 |none=>rfl
 |some v=>exact(FA (by decide+kernel)).trans rfl
section
theorem FB:(mm D base c r)[D.A base.length 15]?=some (.list (List.replicate (c.pr+1) (.bool false))):=DP 15 rfl
theorem KU{n:Nat}:(mm D base c r).set (D.A base.length 15) (.list (List.replicate (n+1) (.bool false)))=mm D base {c with pr:=n} r:=y_ 15 (by decide) rfl rfl
theorem KV{xs:List Nat}:(mm D base c r).set (D.A base.length 3) (.list (wq D base.length xs))=mm D base {c with nz:=xs} r:=y_ 3 (by decide) rfl rfl
theorem FC{b:Nat}{xs:List Nat}:wq D b xs++[.loc (D.N b+i)]=wq D b (xs++[i]):=by unfold wq;simp
theorem KW{es:List (Str×Str)}(h:∀e∈es,HW e)(hz:es.length<=2):k7 (es.map i0)<=2000000:=by
 have key:∀es:List (Str×Str),(∀e∈es,HW e)->k7 (es.map i0)<=es.length*800000:=λes=>by
  induction es with
  |nil=>exact λ_=>aF _
  |cons e r T=>intro h;have h1:=T λe he=>h e (.tail _ he);have ge:=BR (h e (.head _)).v;have a4:(i0 e).length<=1+1000+2+750000+1:=kR (kR (kR (kR (aU rfl) (h e (.head _)).k) (aF 2)) ge) (aF 1);refine(?_ :(i0 e).length+k7 (r.map i0)<=(r.length+1)*800000);rw[Nat.succ_mul,gA];exact gm h1 (am a4 (by decide))
 exact am (key es h) (am (lW _ hz) (by decide))
theorem KX{lo:List (Option V)}{ts:List Str}{Q:V->St->Prop}(h:me[l]?=some (.list (ts.map .str)))(hz:k7 ts<=2000000)(q:Q (.str (dE ts)) ⟨lo,ce,me⟩):aA (dC me (.loc l)) λp=>aA (kN p.2) λts=>gd (JoinOk "" ts) (Q (.str (Txt.join "" ts)) ⟨lo,ce,me⟩):=by refine av (cW h) (av (ms ts) (b_ ?_ q));unfold JoinOk;rw[StrLaws.joinTotal,gS];refine(?_ :decide (k7 ts+ts.length*0>2 ^ 24)=false);rw[Nat.mul_zero];exact dR (Nat.not_lt.mpr (am hz (by decide)))
end
section
variable {k:Nat}
theorem p13(U:cD P g){es:List (Str×Str)}{lo:List (Option V)}(h1:r[al]?=some (.list vs))(h2:aE (P0 (mm D base c r)) vs es)(K:∀e∈es,HW e)(hz:es.length<=2)(hp:c.pc.length<=10000)(UI:lo[11]?=some (some (.loc (D.N base.length+al)))) (l17:lo[17]?=some (some (.loc (base.length+1))))(h:∀r',(r'=r\/∃x,r'=r++[x])->Q .next ⟨lo,ce,mm D base {c with pc:=c.pc++BS es} r'⟩):uR.1 ⟨lo,ce,mm D base c r⟩ Q:=by
 have Z:=h2.len;refine eH UI ?_;refine jv (aY h1) (aQ [_,_] (.c 1 (.v 0) (.n 2) (.e 1 (.v 1) (.v 0) .nil)) 0 (.v 1) (.n 10000) tt hz Z) ?_;cases es with
 |nil=>cases h2;have:=h r (.inl rfl);rw[show c.pc++BS []=c.pc from aS _] at this;exact this
 |cons e es=>refine w5 (by rw[Z];rfl) ?_;refine eH l17 ?_;refine eH UI ?_;refine av (jm (aY h1)) ⟨vs.length+1,?_⟩;refine KT (aY h1) h2 0 [] [none,none] rfl rfl K (by rw[fL];exact aQ [_] (.c 1 (.v 0) (.n 2) .nil) 0 (.a (.n 0) (.v 0)) (.n 100) tt hz) λA=>?_;refine KX aR (KW K hz) ?_;rw[c_];exact ou D base c (r++[_]) hp (h _ (.inr ⟨_,rfl⟩))
end
section
variable {k:Nat}
theorem tC(n:Nat)(v:V):List.replicate (n+1) v=List.replicate n v++[v]:=List.replicate_succ'
theorem p10(U:cD P g){n:Nat}{lo:List (Option V)}(hc:r[n]?=some (.cell (bW base)))(l16:lo[16]?=some (some .none))(hz:c.pr<=100)(h:Q .next ⟨lo,(D.N base.length+n)::ce,mm D base {c with pr:=c.pr+1} r⟩):uP.1 ⟨lo,(D.N base.length+n)::ce,mm D base c r⟩ Q:=by refine bS (i:=0) (ce:=(D.N base.length+n)::ce) rfl (aY hc) ?_;refine ca D base c r (D.L base.length 15) (by kernel_rfl) rfl ?_;refine b_ (bk FB) ?_;refine eH l16 ?_;refine bS (i:=0) (ce:=(D.N base.length+n)::ce) rfl (aY hc) ?_;refine ca D base c r (D.L base.length 15) (by kernel_rfl) rfl ?_;refine bJ FB (by rw[tC];exact ow (by rw[oT];exact aQ [_] (.c 1 (.v 0) (.n 100) .nil) 0 (.v 0) (.n 1000) tt hz)) ?_;refine iQ FB (by rw[oT];exact aQ [_] (.c 1 (.v 0) (.n 100) .nil) 0 (.a (.v 0) (.n 1)) (.n 10000) tt hz) ?_;rw[<-tC,KU];exact h
theorem p12(U:cD P g){l:Lc}{lo:List (Option V)}(G:uD D)(Y:Pq D (D.N base.length) r nd o l)(hp:c.pc.length<=10000)(l0:lo[0]?=some (some (.str (eR o l)))) (W8:lo[10]?=some (some (.loc (D.N base.length+nd)))) (l17:lo[17]?=some (some (.loc (base.length+1))))(h:Q .next ⟨lo,ce,mm D base {c with pc:=c.pc++[("<":Str)++bY D o l]} r⟩):uQ.1 ⟨lo,ce,mm D base c r⟩ Q:=by
 obtain⟨h1,h2,h3⟩:=Y;rename_i es t;refine eH l17 ?_;refine eH W8 ?_;refine eH l0 ?_;refine av (iS (aY h1)) ?_;refine av (o:=eO (eR o l) es) h2 ?_;refine dK (aY h3) rfl ?_;have M:(bY D o l).length<=1000:=by
  cases o with
  |none=>exact am (iR l).2 (by decide)
  |some s=>refine(?_ :(nw (pf D s) l.s).length<=1000);rw[tv];have:=(iR l).2;have:=(jG G s).2;omega
 refine b_ (uE (l4 M _) rfl) ?_;exact ou D base c r hp h
theorem p17(U:cD P g){n:Nat}{lo:List (Option V)}(hc:r[n]?=some (.cell (bW base)))(hz:c.nz.length<=100)(h:Q .next ⟨lo,(D.N base.length+n)::ce,mm D base {c with nz:=c.nz++[r.length]} (r++[.list []])⟩):uS.1 ⟨lo,(D.N base.length+n)::ce,mm D base c r⟩ Q:=by
 refine bS (i:=0) (ce:=(D.N base.length+n)::ce) rfl (aY hc) ?_;refine ca D base c r (D.L base.length 3) (by kernel_rfl) rfl ?_;have e:(mm D base c r)[D.A base.length 3]?=some (.list (wq D base.length c.nz)):=DP 3 rfl;refine b_ (bk e) ?_;refine iQ (ac e) ?_ ?_
 ·unfold wq;rw[aJ,aJ,ax];exact aQ [_] (.c 1 (.v 0) (.n 100) .nil) 0 (.a (.a (.v 0) (.n 1)) (.n 1)) (.n 10000) tt hz
 ·rw[ft,FC,c_,KV];exact h
end
def xg(N:Nat)(r:List O)(v:V)(p:Str×Str):Prop:=∃t,v= .loc (N+t)/\r[t]?=some (.tup [.str p.1,.str p.2])
theorem xg.ent{es:List (Str×Str)}(h:aE (xg (D.N base.length) r) vs es):aE (P0 (mm D base c r)) vs es:=h.mono λ_ _ ⟨t,e,h⟩=>⟨_,e,aY h⟩
theorem xg.to{r':List O}{es:List (Str×Str)}(h:aE (xg N r) vs es)(k:∀(t:Nat)(xs:List V),r[t]?=some (.tup xs)->r'[t]?=some (.tup xs)):aE (xg N r') vs es:=h.mono λ_ _ ⟨t,e,h⟩=>⟨t,e,k t _ h⟩
theorem Pq.more{l:Lc}(h:Pq D N r nd o l)(xs:List O):Pq D N (r++xs) nd o l:=by obtain⟨h1,h2,h3⟩:=h;exact .mk (ac h1) h2 (ac h3)
theorem RR.wr{lv:List (Option Bool)}(h:RR D N c lv r)(e1:c'.dc=c.dc)(e2:c'.nz=c.nz):RR D N c' lv r:=⟨by rw[e1];exact h.dl,by rw[e2];exact h.nl,by rw[e1,e2];exact h.nd⟩
theorem RR.nzs{lv:List (Option Bool)}(h:RR D N c lv r)(e1:c'.dc=c.dc)(e2:c'.nz=c.nz++[r.length]):RR D N c' lv (r++[.list []]):=by have hn:=h.new (aF _);refine⟨by rw[e1];exact h.more.dl,by rw[e2];intro j hj;rcases List.mem_append.mp hj with hj|hj;exact ac (h.nl j hj);rw[List.mem_singleton.mp hj];exact aR,?_⟩;rw[e1,e2,<-au];exact List.nodup_append.mpr ⟨h.nd,(List.nodup_cons.mpr ⟨by simp,List.nodup_nil⟩),λa ha b hb=>by rw[List.mem_singleton.mp hb];exact λq=>hn (q▸ha)⟩
section
variable {k:Nat}
theorem p9(U:cD P g){lv ku:List (Option Bool)}{n:Nat}{l:Lc}{es:List (Str×Str)}{lo:List (Option V)}(G:uD D)(T:nH D (D.N base.length) c c ku oA r)(hn:c.nz.length<=100)(hc:r[n]?=some (.cell (bW base))) (Y:Pq D (D.N base.length) r nd o l) (h1:r[al]?=some (.list vs)) (h2:aE (xg (D.N base.length) r) vs es) (K:∀e∈es,HW e) (hz:es.length<=2) (hp:c.pc.length<=9000) (hr:c.pr<=100) (hd:r[ja]?=some (.dict (HV at')))(l0:lo[0]?=some (some (.str (eR o l)))) (l1:lo[1]?=some (some (.loc (D.N base.length+ja)))) (l3:lo[3]?=some (some .none)) (W8:lo[10]?=some (some (.loc (D.N base.length+nd)))) (UI:lo[11]?=some (some (.loc (D.N base.length+al)))) (m:lo.length=18)(h:∀r' A i,nH D (D.N base.length) c (cF c (bY D o l) es i) ku oA r'->Q .next ⟨A,(D.N base.length+n)::ce,mm D base (cF c (bY D o l) es i) r'⟩):aV DX.1 (aV uP.1 (aV ze.1 (aV uQ.1 (aV uR.1 (aV zf.1 (aV zg.1 (aV zh.1 (aV uS.1 (c8 .next))))))))) ⟨lo,(D.N base.length+n)::ce,mm D base c r⟩ Q:=by
 refine eH l1 ?_;refine b_ (xV (aY hd)) ?_;refine Oo (aY hd) (DY at') ?_;refine p10 U hc (by rw[qb];rw[m];decide) hr ?_;refine bS (i:=0) (ce:=(D.N base.length+n)::ce) rfl (aY hc) ?_;refine ca D base _ r (.loc (base.length+1)) (by kernel_rfl) rfl ?_;have x17:((lo.set 16 (some V.none)).set 17 (some (V.loc (base.length+1))))[17]?=some (some (.loc (base.length+1))):=qb (by simp[m]);refine p12 U G Y (am hp (by decide)) (bF (by decide) (bF (by decide) l0)) (bF (by decide) (bF (by decide) W8)) x17 ?_;refine p13 U h1 (xg.ent h2) K hz (by refine(?_ :(c.pc++[("<":Str)++bY D o l]).length<=10000);rw[ak];exact am (dQ hp 1) (by decide)) (bF (by decide) (bF (by decide) UI)) x17 λd hr2=>?_;have T2:nH D (D.N base.length) c c ku oA d/\d[n]?=some (.cell (bW base)):=by
  rcases hr2 with rfl|⟨x,rfl⟩
  ·exact⟨T,hc⟩
  ·exact⟨T.more _,ac hc⟩
 refine eH x17 ?_;have hpz:((c.pc++[("<":Str)++bY D o l])++BS es).length<=10000:=by
  rw[ak,ak];have:(BS es).length<=1:=by unfold BS;cases es.isEmpty<;>exact aU rfl
  simp;exact aQ [_,_] (.c 1 (.v 0) (.n 9000) (.c 1 (.v 1) (.n 1) .nil)) 0 (.a (.a (.v 0) (.n 1)) (.v 1)) (.n 10000) tt hp this
 refine ou D base _ d hpz ?_;refine eH (bF (by decide) (bF (by decide) l3)) ?_;refine bS (i:=0) (ce:=(D.N base.length+n)::ce) rfl (aY T2.2) ?_;refine tj D base _ {c with pc:=((c.pc++[("<":Str)++bY D o l])++BS es)++[(">":Str)],pr:=c.pr+1,seen:=true} d rfl rfl rfl ?_;refine p17 U T2.2 hn ?_;exact h (d++[.list []]) _ d.length ⟨RR.nzs (c':=cF c (bY D o l) es d.length) T2.1.R rfl rfl,T2.1.keep.trans tm.app,am T2.1.le (by rw[ak];exact gT _ _)⟩
end
noncomputable def lM(l0:List (Option Bool)):Option Bool->Option Bool
 |none=>none
 |some s=>bif l0.contains (some s) then none else some s
theorem HY(l0:List (Option Bool))(o:Option Bool):rH (l0++[none]) o=l0++[lM l0 o]:=by
 cases o with
 |none=>rfl
 |some s=>
  by_cases h:some s∈l0
  ·rw[oz (fH _ h)];refine ag (l0++[·]) ?_;refine(?_ :none=bif l0.contains (some s) then none else some s);rw[List.contains_iff_mem.mpr h];rfl
  ·rw[wy (by simp[h])];refine ag (l0++[·]) ?_;refine(?_ :some s=bif l0.contains (some s) then none else some s);rw[Bool.eq_false_iff.mpr λe=>h (List.contains_iff_mem.mp e)];rfl
noncomputable def W9(D:cR):Option Bool->List (Str×Str)
 |none=>[]
 |some s=>[("xmlns:"++pf D s,nJ s)]
noncomputable def Y2:Option Str->List (Str×Str)
 |none=>[]
 |some v=>[("k",v)]
noncomputable def kT(D:cR)(l0:List (Option Bool))(o:Option Bool)(a:Option Str):List (Str×Str):=W9 D (lM l0 o)++Y2 a
theorem zj(D:cR)(x:Option Bool):(W9 D x).length<=1:=by cases x<;>exact aU rfl
theorem FD(a:Option Str):(Y2 a).length<=1:=by cases a<;>exact aU rfl
theorem wB(s:Bool):(nJ s).length<=10:=by cases s<;>decide+kernel
theorem Op(G:uD D)(ha:∀v,a=some v->v.length<=10):(kT D l0 o a).length<=2/\∀e∈kT D l0 o a,HW e:=by
 unfold kT;constructor
 ·rw[ak];exact gm (zj _ _) (FD a)
 ·intro e he;rcases List.mem_append.mp he with he|he
  ·cases B:lM l0 o with
   |none=>rw[B] at he;cases he
   |some s=>rw[B] at he;obtain rfl:=List.mem_singleton.mp he;exact⟨kR (n:=994) (aF _) (am (jG G s).2 (by decide)),wB s⟩
  ·cases a with
   |none=>cases he
   |some v=>obtain rfl:=List.mem_singleton.mp he;exact⟨aU rfl,ha v rfl⟩
noncomputable def nsL(N n:Nat):Option Bool->List V
 |none=>[]
 |some _=>[.loc (N+(n+1))]
theorem SO(x:Option Bool):(r++MI D N r.length x)[r.length]?=some (.list (nsL N r.length x))/\aE (xg N (r++MI D N r.length x)) (nsL N r.length x) (W9 D x):=by
 cases x with
 |none=>exact⟨aR,.nil⟩
 |some s=>exact⟨aR,.cons ⟨_,rfl,gy⟩ .nil⟩
noncomputable def abk:List V->ad V:=L3 λM=>∀{D:cR}{t0:O}{b:Bool}{b2 r:List O}{c:Wr}{l0:List (Option Bool)}{d0:List Nat}{j ja:Nat}{o:Option Bool}{l:Lc}{a:Option Str}{lo ce Q},xf D (D.N (bs t0 b b2).length) c (l0++[none]) r->c.dc=d0++[j]->l≠ .k->r[ja]?=some (.dict (HV a))->(∀v,a=some v->v.length<=10)->c.pc.length<=9000->c.pr<=100->
 (∀r' i,nH D (D.N (bs t0 b b2).length) c (cF c (bY D o l) (kT D l0 o a) i) (l0++[lM l0 o]) r r'->Q .none ⟨lo,ce,mm D (bs t0 true b2) (cF c (bY D o l) (kT D l0 o a) i) r'⟩)->
 M [bW (bs t0 b b2),.str (eR o l),.loc (D.N (bs t0 b b2).length+ja),.loc (D.N (bs t0 b b2).length+j)] ⟨lo,ce,mm D (bs t0 b b2) c r⟩ Q
theorem SP{l:Lc}(Z:l≠ .k)(a:Option Str):(mt (HV a)&&Nat.ble (HV a).length 1&& !(dN (eR o l) (v3 (HV a))))=true:=by
 cases a with
 |none=>rfl
 |some v=>refine(?_ :(!(match d4 "k" (eR o l) with|true=>true|false=>false))=true);rw[show d4 "k" (eR o l)=false from(P3 o Z).2];rfl
theorem SQ{l:Lc}(a:Option Str):eR o l::v3 (HV a)=gG o l a.isSome:=by cases a<;>rfl
section
variable {k:Nat}
theorem FE{v:V}{lo:List (Option V)}{Q:Unit->St->Prop}(h:me[l]?=some .de)(q:Q () ⟨lo,ce,me.set l (.cell v)⟩):gd (pJ me[l]?) (Q () ⟨lo,ce,me.set l (.cell v)⟩):=b_ (by rw[h];rfl) q
theorem abl(U:cD P g){d0:List Nat}{n pc ls:Nat}{l:Lc}{lo:List (Option V)}(W:xf D (D.N (bs t0 b b2).length) c (l0++[none]) r)(hd:c.dc=d0++[j])(Z:l≠ .k)(h1:r[pc]?=some (.cell (.loc (D.N (bs t0 b b2).length+pm)))) (h2:r[pm]?=some (.bP .meth [.fb (.ref 90),bW (bs t0 b b2)])) (h3:r[ls]?=some (.sset (gG o l a.isSome))) (hc:r[n]?=some (.cell (bW (bs t0 b b2)))) (Oq:r[ja]?=some (.dict (HV a))) (ha:∀v,a=some v->v.length<=10) (hp:c.pc.length<=9000) (hr:c.pr<=100)(x0:lo[0]?=some (some (.str (eR o l)))) (x1:lo[1]?=some (some (.loc (D.N (bs t0 b b2).length+ja)))) (x2:lo[2]?=some (some (.loc (D.N (bs t0 b b2).length+j)))) (x3:lo[3]?=some (some .none)) (x4:lo[4]?=some (some (.loc (D.N (bs t0 b b2).length+ls)))) (x7:lo[7]?=some (some .none)) (m:lo.length=18)(h:∀r' A i,nH D (D.N (bs t0 b b2).length) c (cF c (bY D o l) (kT D l0 o a) i) (l0++[lM l0 o]) r r'->Q .next ⟨A,[D.N (bs t0 b b2).length+n,D.N (bs t0 b b2).length+pc],mm D (bs t0 true b2) (cF c (bY D o l) (kT D l0 o a) i) r'⟩):aV DU.1 (aV DV.1 (aV DW.1 (aV DX.1 (aV uP.1 (aV ze.1 (aV uQ.1 (aV uR.1 (aV zf.1 (aV zg.1 (aV zh.1 (aV uS.1 (c8 .next)))))))))))) ⟨lo,[D.N (bs t0 b b2).length+n,D.N (bs t0 b b2).length+pc],mm D (bs t0 b b2) c r⟩ Q:=by
 refine p6 U W hd (λs e=>.inr ⟨l0,rfl⟩) Z h1 h2 h3 x4 λr' nd T q q'=>?_;rw[HY] at T;have S:HO D (D.N (bs t0 true b2).length) r' j (lM l0 o):=by have:=T.R.dl;rw[hd] at this;exact this.snoc_inv.2
 have z:∀{i:Nat}{x:O},r[i]?=some x->(∀xs,x≠ .list xs)->r'[i]?=some x:=λe B=>T.keep _ _ e λq=>W.R.UH e B (fH _ q);have f:=z hc λ_ e=>by cases e
 have C:=z Oq λ_ e=>by cases e
 refine xA (SO (D:=D) (N:=D.N (bs t0 true b2).length) (r:=r') (lM l0 o)) λg1 p=>?_;have T':=T.more (MI D (D.N (bs t0 true b2).length) r'.length (lM l0 o));have hn:=T.R.new (aF _);have hrl:=T.le;refine p7 U S W.ok (bF (by decide) x2) (by rw[dS];exact m) ?_;replace q:=q.more (MI D (D.N (bs t0 true b2).length) r'.length (lM l0 o));have qk:a.isSome=true->Pq D (D.N (bs t0 true b2).length) (r'++MI D (D.N (bs t0 true b2).length) r'.length (lM l0 o)) nd none .k:=λe=>(q' e).more _;replace f:=ac (t:=MI D (D.N (bs t0 true b2).length) r'.length (lM l0 o)) f;replace C:=ac (t:=MI D (D.N (bs t0 true b2).length) r'.length (lM l0 o)) C;clear z S q' T;revert g1 p T' q qk f C;generalize r'++MI D (D.N (bs t0 true b2).length) r'.length (lM l0 o)=u;intro g1 p T' q qk f C;have w:((lo.set 10 (some (V.loc (D.N (bs t0 b b2).length+nd)))).set 11 (some (V.loc (D.N (bs t0 true b2).length+r'.length))))[11]?=some (some (.loc (D.N (bs t0 true b2).length+r'.length))):=qb (by rw[dS,m];decide);have y:((lo.set 10 (some (V.loc (D.N (bs t0 b b2).length+nd)))).set 11 (some (V.loc (D.N (bs t0 true b2).length+r'.length))))[10]?=some (some (.loc (D.N (bs t0 true b2).length+nd))):=bF (by decide) (qb (by rw[m];decide));have W_:((lo.set 10 (some (V.loc (D.N (bs t0 b b2).length+nd)))).set 11 (some (V.loc (D.N (bs t0 true b2).length+r'.length)))).length=18:=by rw[dS,dS,m]
 have y0:=bF (j:=0) (v:=some (V.loc (D.N (bs t0 true b2).length+r'.length))) (by decide:11≠0) (bF (v:=some (V.loc (D.N (bs t0 b b2).length+nd))) (by decide:10≠0) x0);have y1:=bF (j:=1) (v:=some (V.loc (D.N (bs t0 true b2).length+r'.length))) (by decide:11≠1) (bF (v:=some (V.loc (D.N (bs t0 b b2).length+nd))) (by decide:10≠1) x1);have y3:=bF (j:=3) (v:=some (V.loc (D.N (bs t0 true b2).length+r'.length))) (by decide:11≠3) (bF (v:=some (V.loc (D.N (bs t0 b b2).length+nd))) (by decide:10≠3) x3);have y7:=bF (j:=7) (v:=some (V.loc (D.N (bs t0 true b2).length+r'.length))) (by decide:11≠7) (bF (v:=some (V.loc (D.N (bs t0 b b2).length+nd))) (by decide:10≠7) x7);revert y0 y1 y3 y7 y w W_;generalize (lo.set 10 (some (V.loc (D.N (bs t0 b b2).length+nd)))).set 11 (some (V.loc (D.N (bs t0 true b2).length+r'.length)))=A;intro w y W_ y0 y1 y3 y7;refine xA (Op W.ok (l0:=l0) (o:=o) (a:=a) ha) λhz K=>?_;have UC:=p.len;have hxl:=zj D (lM l0 o);refine p8 U (base:=bs t0 true b2) C g1 qk (aQ [_,_] (.e 1 (.v 0) (.v 1) (.c 1 (.v 1) (.n 1) .nil)) 0 (.v 0) (.n 100) tt UC hxl) y1 y7 y w W_ (λe=>?_) λv X a2 a3 a4 a5 e=>?_
 ·subst e;refine p9 U (base:=bs t0 true b2) (lv:=l0) (es:=kT D l0 o none) W.ok T' W.nz f q g1 ?_ K hz hp hr C y0 y1 y3 y w W_ h;unfold kT;rw[show Y2 none=[] from rfl,aS];exact p
 ·subst e;have g3:(u++[O.bP .bI [.loc (D.N (bs t0 true b2).length+ja)],.tup [.str "k",.str v],.list [.loc (D.N (bs t0 true b2).length+(u.length+1))],.tup [.str "k",.str v]])[u.length+3]?=some (.tup [.str "k",.str v]):=KD;replace T':=T'.more [O.bP .bI [.loc (D.N (bs t0 true b2).length+ja)],.tup [.str "k",.str v],.list [.loc (D.N (bs t0 true b2).length+(u.length+1))],.tup [.str "k",.str v]];replace q:=q.more [O.bP .bI [.loc (D.N (bs t0 true b2).length+ja)],.tup [.str "k",.str v],.list [.loc (D.N (bs t0 true b2).length+(u.length+1))],.tup [.str "k",.str v]];replace f:=ac (t:=[O.bP .bI [.loc (D.N (bs t0 true b2).length+ja)],.tup [.str "k",.str v],.list [.loc (D.N (bs t0 true b2).length+(u.length+1))],.tup [.str "k",.str v]]) f;replace C:=ac (t:=[O.bP .bI [.loc (D.N (bs t0 true b2).length+ja)],.tup [.str "k",.str v],.list [.loc (D.N (bs t0 true b2).length+(u.length+1))],.tup [.str "k",.str v]]) C;replace g1:=ac (t:=[O.bP .bI [.loc (D.N (bs t0 true b2).length+ja)],.tup [.str "k",.str v],.list [.loc (D.N (bs t0 true b2).length+(u.length+1))],.tup [.str "k",.str v]]) g1;replace p:=xg.to p (r':=u++[O.bP .bI [.loc (D.N (bs t0 true b2).length+ja)],.tup [.str "k",.str v],.list [.loc (D.N (bs t0 true b2).length+(u.length+1))],.tup [.str "k",.str v]]) λt xs=>ac;clear qk;revert g3 T' q f C g1 p;generalize u++[O.bP .bI [.loc (D.N (bs t0 true b2).length+ja)],.tup [.str "k",.str v],.list [.loc (D.N (bs t0 true b2).length+(u.length+1))],.tup [.str "k",.str v]]=d;intro g3 T' q f C g1 p;obtain⟨q1,q2,q3⟩:=q;have tn:∀{I zs:List V},O.tup I≠ .list zs:=λe=>by cases e
  refine p9 U (lv:=l0) W.ok (T'.put hrl hn g1 λ_ e=>by cases e) W.nz (xU f g1 λe=>by cases e) (.mk (xU q1 g1 λe=>by cases e) q2 (xU q3 g1 λe=>by cases e)) (qb (List.getElem?_eq_some_iff.mp g1).1) ?_ K hz hp hr (xU C g1 λe=>by cases e)
   (bF (by decide) (bF (by decide) (bF (by decide) (bF (by decide) (bF (by decide) y0))))) (bF (by decide) (bF (by decide) (bF (by decide) (bF (by decide) (bF (by decide) y1))))) (bF (by decide) (bF (by decide) (bF (by decide) (bF (by decide) (bF (by decide) y3)))))
   (bF (by decide) (bF (by decide) (bF (by decide) (bF (by decide) (bF (by decide) y))))) (bF (by decide) (bF (by decide) (bF (by decide) (bF (by decide) (bF (by decide) w))))) (by simp only[dS];exact W_) h
  exact(xg.to p λt xs e=>xU e g1 tn).append (.cons ⟨_,rfl,xU g3 g1 tn⟩ .nil)
theorem Os(U:cD P g):cO g (k+3) (.ref 126) abk:=by
 have H:=abe P;refine Fz U H (NB.at rfl (by exact(ab (KP.2 U H) (ab (SH.2 U H) (ab (SI.2 U H) (ab (SJ.2 U H) (ab (SK.2 U H) (ab (SL.2 U H) (ab (DU.2 U H) (ab (DV.2 U H) (ab (DW.2 U H) (ab (DX.2 U H) (ab (uP.2 U H) (ab (ze.2 U H) (ab (uQ.2 U H) (ab (uR.2 U H) (ab (zf.2 U H) (ab (zg.2 U H) (ab (zh.2 U H) (ab (uS.2 U H) aC)))))))))))))))))))) 4 [.none] ["self","tag","attrs","new_namespaces","qname_text"] ([some 1,some 2,some 3,some 4]++List.replicate 14 none) [some 0,none] (by kernel_rfl) (λn=>rfl) rfl (by kernel_rfl) rfl (λs us X Z=>by
  refine US (us4 Z) λa b c d DH=>?_;obtain rfl:=DH;exact⟨[.none],λ_=>.cons rfl .nil,ic X λS=>rfl⟩) ?_
 refine k6 (@λD t0 b b2 r c l0 d0 j ja o l a lo ce Q W hd Z Oq ha hp hr h=>?_);refine⟨rfl,?_⟩;refine(?_ :aV KP.1 _ ⟨[some (.str (eR o l)),some (.loc (D.N (bs t0 b b2).length+ja)),some (.loc (D.N (bs t0 b b2).length+j)),some .none,none,none,none,none,none,none,none,none,none,none,none,none,none,none],[(mm D (bs t0 b b2) c r).length,(mm D (bs t0 b b2) c r).length+1],mm D (bs t0 b b2) c r++[.cell (bW (bs t0 b b2)),.de]⟩ _);rw[c_,ft,cS (D.N (bs t0 b b2).length)];refine bS (i:=0) (ce:=[D.N (bs t0 b b2).length+r.length,D.N (bs t0 b b2).length+(r.length+1)]) rfl (aY aR) ?_;refine ca D (bs t0 b b2) c _ (n:="_exclude_attrs") .none (by kernel_rfl) rfl ?_;refine av (iS (aY (ac Oq))) ?_;refine b_ (SP Z a) ?_;rw[SQ];have T1:=(((nH.start W.R).more [.cell (bW (bs t0 b b2)),.de]).more [.sset (gG o l a.isSome)]).more [.dict []];refine bS (i:=0) (ce:=[D.N (bs t0 b b2).length+r.length,D.N (bs t0 b b2).length+(r.length+1)]) (me:=(mm D (bs t0 b b2) c _++[O.sset (gG o l a.isSome)])++[O.dict []]) rfl (ac (ac (aY aR))) ?_;rw[c_,c_];refine ca D (bs t0 b b2) c _ .none (by kernel_rfl) rfl ?_;refine bS (i:=0) (ce:=[D.N (bs t0 b b2).length+r.length,D.N (bs t0 b b2).length+(r.length+1)]) rfl (aY (ac (ac aR))) ?_;refine on D (bs t0 b b2) c _ (by kernel_rfl) ?_;have e4:(((r++[O.cell (bW (bs t0 b b2)),O.de])++[O.sset (gG o l a.isSome)])++[O.dict []])=r++[O.cell (bW (bs t0 b b2)),O.de,O.sset (gG o l a.isSome),O.dict []]:=by simp
 refine FE (by rw[c_];exact aY (ac (ac (ac gy)))) ?_;rw[c_,rG,ft,ft,e4];rw[e4] at T1;replace T1:=(T1.more [O.bP .meth [.fb (.ref 90),bW (bs t0 b b2)]]).put (o':=O.cell (.loc (D.N (bs t0 b b2).length+(r++[O.cell (bW (bs t0 b b2)),O.de,O.sset (gG o l a.isSome),O.dict []]).length))) (eC _) (λq=>W.R.new (eC _) q) (ac gy) (λ_ e=>by cases e);have p:((r++[O.cell (bW (bs t0 b b2)),O.de,O.sset (gG o l a.isSome),O.dict []])++[O.bP .meth [.fb (.ref 90),bW (bs t0 b b2)]]).set (r.length+1) (O.cell (.loc (D.N (bs t0 b b2).length+(r++[O.cell (bW (bs t0 b b2)),O.de,O.sset (gG o l a.isSome),O.dict []]).length)))=
  r++[O.cell (bW (bs t0 b b2)),O.cell (.loc (D.N (bs t0 b b2).length+(r.length+4))),O.sset (gG o l a.isSome),O.dict [],O.bP .meth [.fb (.ref 90),bW (bs t0 b b2)]]:=by
  rw[ak,au];exact wo
 rw[p] at T1 ⊢;refine abl U (ls:=r.length+2) ⟨W.ok,T1.R,W.lv,W.nz⟩ hd Z gy (by simp) (by simp) aR (ac Oq) ha hp hr rfl rfl rfl rfl (ag (λn=>some (some (V.loc n))) (by rw[ak];rfl)) rfl rfl λr' A i T=>h r' i (T1.trans T rfl)
end
noncomputable def SR(D:cR)(c:Wr)(x:Str):Bool:=match D.ex with
 |none=>false
 |some xs=>!(c.dD==0)||dN x xs
noncomputable def m5(c:Wr)(n:Nat):Wr:={bp c with dc:=c.dc++[n]}
theorem uc(h:c.da=[]):bp c=c:=by obtain⟨pc,da,dc,nz,pr,seen,done,dD⟩:=c;obtain rfl:=h;rfl
theorem KY(b:Nat)(e:Option (List Str)):nQ (PV b e)=true:=by cases e<;>rfl
structure Xa(c:Wr):Prop where
 da:c.da.length<=1000
 tot:k7 c.da<=10000
 pc:c.pc.length<=8000
 pr:c.pr<=100
theorem wD(c:Wr):(bp c).pc.length<=c.pc.length+1:=by
 unfold bp;dsimp only;cases !(Nat.beq (dE c.da).length 0)&&c.seen with
 |true=>rw[cT,ak];exact aF _
 |false=>exact eC _
noncomputable def Xb:List V->ad V:=L3 λM=>∀{D:cR}{t0:O}{b:Bool}{b2 r:List O}{c:Wr}{lv:List (Option Bool)}{ja:Nat}{o:Option Bool}{l:Lc}{a:Option Str}{lo ce Q},xf D (D.N (bs t0 b b2).length) c lv r->lv.length<=9->Xa c->l≠ .k->r[ja]?=some (.dict (HV a))->(∀v,a=some v->v.length<=10)->(∀xs,D.ex=some xs->xs.length<=30)->
 br (SR D c (eR o l)) (Q .none ⟨lo,ce,mm D (bs t0 b b2) {c with dD:=c.dD+1} r⟩)
 (∀r' i,nH D (D.N (bs t0 b b2).length) c (cF (m5 c r.length) (bY D o l) (kT D lv o a) i) (lv++[lM lv o]) r r'->Q .none ⟨lo,ce,mm D (bs t0 true b2) (cF (m5 c r.length) (bY D o l) (kT D lv o a) i) r'⟩)->
 M [bW (bs t0 b b2),.str (eR o l),.loc (D.N (bs t0 b b2).length+ja)] ⟨lo,ce,mm D (bs t0 b b2) c r⟩ Q
section
variable {k:Nat}
noncomputable abbrev Xc (P:Params):df:=fc (KK P) 120 ["self","tag","attrs","new_namespaces"] []
abbrev xW(i:Nat):=NN Xc [] 120 i 3
theorem abm(P:Params):cc (Xc P) [] .cell:=ip (by kernel_rfl)
theorem BT{A B:Prop}(hz:c.da.length<=1000)(h1:c.da=[]->B)(h2:A):IM (mm D base c r)[base.length+4]? λb=>br b A B:=by
 refine rK BP (by rw[ax];exact aQ [_] (.c 1 (.v 0) (.n 1000) .nil) 0 (.v 0) (.n 10000) tt hz) ?_;rw[ax];cases e:c.da with
 |nil=>exact h1 e
 |cons x xs=>exact h2
theorem KZ(xs:List Nat):(mm D base c r).set (D.A base.length 2) (.list (ti D base.length xs))=mm D base {c with dc:=xs} r:=y_ 2 (by decide) rfl rfl
theorem FF{b:Nat}{xs:List Nat}:ti D b xs++[.loc (D.N b+i)]=ti D b (xs++[i]):=by unfold ti;simp
theorem RR.open{lv:List (Option Bool)}(h:RR D N c lv r)(e1:c'.dc=c.dc++[r.length])(e2:c'.nz=c.nz):RR D N c' (lv++[none]) (r++[.list []]):=by
 have hn:=h.new (aF _);refine⟨by rw[e1];exact h.more.dl.append (.cons aR .nil),by rw[e2];exact h.more.nl,?_⟩;rw[e1,e2];have hd:=h.nd;rw[au];refine List.nodup_append.mpr ⟨(List.nodup_append.mp hd).1,List.nodup_cons.mpr ⟨λq=>hn (oS _ q),(List.nodup_append.mp hd).2.1⟩,λa ha b hb=>?_⟩;rcases List.mem_cons.mp hb with rfl|hb
 ·exact λq=>hn (fH _ (q▸ha))
 ·exact(List.nodup_append.mp hd).2.2 a ha b hb
noncomputable def SS:xW 0:=⟨_,λU H=>by exact(il (cG (bN (aN jC (dy (cA U) 5 rfl (ai H 0 rfl)) ik) (bN (cG (g_ (a7 (dy (cA U) 16 rfl (ai H 0 rfl))) (g_ (aN xu (ai H 1 rfl) (dy (cA U) 5 rfl (ai H 0 rfl))) tf))) gF))) (ab (wg (cA U) 16 kK rfl (ai H 0 rfl) bv) (ab BC aC)) aC)⟩
noncomputable def K0:xW 1:=⟨_,λU H=>by exact(il (a7 (dy (cA U) 1 rfl (ai H 0 rfl))) (ab (c5 (iO U (cA U) (by kernel_rfl) (by kernel_rfl) (by kernel_rfl) (Fy U).ok (ai H 0 rfl) ay)) aC) aC)⟩
noncomputable def DZ:xW 2:=⟨_,λU H=>by exact(aP H 3 rfl (eG ay))⟩
noncomputable def zk:xW 3:=⟨_,λU H=>by exact(c5 (bZ .list bD cJ b0 bB (dy (cA U) 9 rfl (ai H 0 rfl)) (ae (ai H 3 rfl) ay)))⟩
noncomputable def D2:xW 4:=⟨_,λU H=>by exact(il (cG (bN (aN jC (dy (cA U) 7 rfl (ai H 0 rfl)) ik) (bN te gF))) fm aC)⟩
noncomputable def D3:xW 5:=⟨_,λU H=>by exact(c5 (iO U (cA U) (by kernel_rfl) (by kernel_rfl) (by kernel_rfl) (Os U).ok (ai H 0 rfl) (ae (ai H 1 rfl) (ae (ai H 2 rfl) (ae (ai H 3 rfl) ay)))))⟩
theorem wE(U:cD P g){lv:List (Option Bool)}{l:Lc}{lo:List (Option V)}{Q:V->St->Prop}(W:xf D (D.N (bs t0 b b2).length) c lv r)(d:lv.length<=9)(hI:Xa c)(Z:l≠ .k)(Oq:r[ja]?=some (.dict (HV a)))(ha:∀v,a=some v->v.length<=10)(h:∀r' i,nH D (D.N (bs t0 b b2).length) c (cF (m5 c r.length) (bY D o l) (kT D lv o a) i) (lv++[lM lv o]) r r'->Q .none ⟨lo,ce,mm D (bs t0 true b2) (cF (m5 c r.length) (bY D o l) (kT D lv o a) i) r'⟩):aV K0.1 (aV DZ.1 (aV zk.1 (aV D2.1 (aV D3.1 (c8 .next))))) ⟨some (bW (bs t0 b b2))::some (.str (eR o l))::some (.loc (D.N (bs t0 b b2).length+ja))::List.replicate 4 none,[],mm D (bs t0 b b2) c r⟩ (pP Q lo ce):=by
 have aD:aV DZ.1 (aV zk.1 (aV D2.1 (aV D3.1 (c8 .next)))) ⟨some (bW (bs t0 b b2))::some (.str (eR o l))::some (.loc (D.N (bs t0 b b2).length+ja))::List.replicate 4 none,[],mm D (bs t0 b b2) (bp c) r⟩ (pP Q lo ce):=by
  have e2:(mm D (bs t0 b b2) (bp c) (r++[.list []]))[D.A (bs t0 b b2).length 2]?=some (.list (ti D (bs t0 b b2).length c.dc)):=DP 2 rfl;refine(?_ :aV zk.1 _ ⟨some (bW (bs t0 b b2))::some (.str (eR o l))::some (.loc (D.N (bs t0 b b2).length+ja))::some (.loc (mm D (bs t0 b b2) (bp c) r).length)::List.replicate 3 none,[],mm D (bs t0 b b2) (bp c) r++[.list []]⟩ _);rw[c_,ft];refine ca D (bs t0 b b2) (bp c) _ (D.L (bs t0 b b2).length 2) (by kernel_rfl) rfl ?_;refine b_ (bk e2) ?_;have S:=W.R.dl.len;refine iQ e2 (by unfold ti;rw[aJ,ax];exact aQ [_,_] (.c 1 (.v 0) (.n 9) (.e 1 (.v 1) (.v 0) .nil)) 0 (.a (.v 1) (.n 1)) (.n 10000) tt d S) ?_;rw[FF,KZ];refine ca D (bs t0 b b2) (m5 c r.length) _ .none (by kernel_rfl) rfl ?_;refine on D (bs t0 b b2) (m5 c r.length) _ (by kernel_rfl) ?_;have R':RR D (D.N (bs t0 b b2).length) (m5 c r.length) (lv++[none]) (r++[.list []]):=W.R.open rfl rfl;refine λ_ E=>E ⟨W.ok,R',by rw[ak];exact dQ d 1,W.nz⟩ rfl Z (ac Oq) ha (am (wD c) (am (dQ hI.pc 1) (by decide))) hI.pr λr' i T=>?_;refine h r' i ⟨T.R,λm x e hm=>T.keep m x (ac e) λq=>?_,am (by rw[ak];exact gT _ _) T.le⟩;rcases List.mem_append.mp q with q|q
  ·exact hm q
  ·have:=(List.getElem?_eq_some_iff.mp e).1;rw[List.mem_singleton.mp q] at this;exact jd _ this
 refine ca D (bs t0 b b2) c r (.loc ((bs t0 b b2).length+4)) (by kernel_rfl) rfl ?_;refine BT hI.da (λe=>?_) ?_
 ·rw[uc e] at aD;exact aD
 ·refine on D (bs t0 b b2) c r (by kernel_rfl) ?_;exact λ_ E=>E hI.da hI.tot (am hI.pc (by decide)) aD
theorem Ot(U:cD P g):cO g (k+4) (.ref 120) Xb:=by
 have H:=abm P;refine yX U H (NB.at rfl (by exact(ab (SS.2 U H) (ab (K0.2 U H) (ab (DZ.2 U H) (ab (zk.2 U H) (ab (D2.2 U H) (ab (D3.2 U H) aC)))))))) rfl (by kernel_rfl) (λa b c S=>rfl) ?_;refine k6 (@λD t0 b b2 r c lv ja o l a lo ce Q W d hI Z Oq ha B h=>?_);refine⟨_,_,_,rfl,?_⟩;refine pQ ?_;refine ca D (bs t0 b b2) c r (PV (bs t0 b b2).length D.ex) (by kernel_rfl) (KY _ _) ?_;cases i:D.ex with
 |none=>rw[show SR D c (eR o l)=false by unfold SR;rw[i]] at h;refine wE U W d hI Z Oq ha ?_;exact h
 |some xs=>
  have M:SR D c (eR o l)=(!(c.dD==0)||dN (eR o l) xs):=by unfold SR;rw[i]
  refine ca D (bs t0 b b2) c r (.int c.dD) (by kernel_rfl) rfl ?_;refine bu (λe=>?_) (λe=>?_)
  ·rw[e] at M;rw[M] at h;refine ca D (bs t0 b b2) c r (.int c.dD) (by kernel_rfl) rfl ?_;exact tj D (bs t0 b b2) c {c with dD:=c.dD+1} r rfl rfl rfl h
  ·rw[e] at M;refine ca D (bs t0 b b2) c r (PV (bs t0 b b2).length D.ex) (by kernel_rfl) (KY _ _) ?_;rw[i];refine DS (K:=λb=>br b _ _) (WJ i) (B xs i) ?_;refine bu (λe'=>?_) (λe'=>?_)
   ·rw[M,e'] at h;refine ca D (bs t0 b b2) c r (.int c.dD) (by kernel_rfl) rfl ?_;exact tj D (bs t0 b b2) c {c with dD:=c.dD+1} r rfl rfl rfl h
   ·rw[M,e'] at h;refine wE U W d hI Z Oq ha ?_;exact h
end
noncomputable def mE(b:Str):Str:=Str.empty++"</"++b++">"
noncomputable def tD(c:Wr)(b:Str)(d0 z0:List Nat)(n:Nat)(dn:Bool):Wr:={bp c with pc:=(bp c).pc++[mE b],dc:=d0,nz:=z0,pr:=n,done:=dn}
inductive H6:List V->St->(V->St->Prop)->Prop
 |mk {D:cR} {base r:List O} {c:Wr} {l1:List (Option Bool)} {x:Option Bool} {d0 z0:List Nat} {j i n:Nat} {o:Option Bool} {l:Lc} {lo H7 UJ}:xf D (D.N base.length) c (l1++[x]) r->c.dc=d0++[j]->c.nz=z0++[i]->c.pr=n+1->(∀s,o=some s->o∈l1++[x])->Xa c->
  br (!(c.dD==0)) (UJ .none ⟨lo,H7,mm D base {c with dD:=c.dD-1} r⟩)
   (∀r' dn,RR D (D.N base.length) (tD c (bY D o l) d0 z0 n dn) l1 r'->UJ .none ⟨lo,H7,mm D base (tD c (bY D o l) d0 z0 n dn) r'⟩)->
  H6 [bW base,.str (eR o l)] ⟨lo,H7,mm D base c r⟩ UJ
 |skip {D:cR} {base r:List O} {c:Wr} {v:V} {lo H7 UJ}:(c.dD==0)=false->UJ .none ⟨lo,H7,mm D base {c with dD:=c.dD-1} r⟩->H6 [bW base,v] ⟨lo,H7,mm D base c r⟩ UJ
theorem rL{lo:List (Option V)}{v:V}{Q:V->St->Prop}(h:me[l]?=some (.list (xs++[v])))(hz:xs.length<=1000)(q:Q v ⟨lo,ce,me.set l (.list xs)⟩):aA (dC me (.loc l)) λp=>gd (bw p.2.length) (aA (AP p.2) λq=>Q q.2 ⟨lo,ce,me.set p.1 (.list q.1)⟩):=av (cW h) (b_ (cM (by rw[ak];exact am (dQ hz 1) (by decide))) (av (tX xs v) q))
section
variable {k:Nat}
noncomputable abbrev Xd (P:Params):df:=fc (KK P) 133 ["self","tag"] []
noncomputable def Xe:List Str:=["len"]
abbrev wF(i:Nat):=NN Xd Xe 133 i 2
theorem abn(P:Params):cc (Xd P) Xe .cell:=ip (by kernel_rfl)
noncomputable def ST:wF 0:=⟨_,λU H=>by exact(il (a7 (dy (cA U) 16 rfl (ai H 0 rfl))) (ab (wg (cA U) 16 CK rfl (ai H 0 rfl) bv) (ab BC aC)) aC)⟩
noncomputable def K1:wF 1:=⟨_,λU H=>by exact(il (a7 (dy (cA U) 1 rfl (ai H 0 rfl))) (ab (c5 (iO U (cA U) (by kernel_rfl) (by kernel_rfl) (by kernel_rfl) (Fy U).ok (ai H 0 rfl) ay)) aC) aC)⟩
noncomputable def zm:wF 2:=⟨_,λU H=>by exact(c5 (mz (cA U).cls (xP U) vI (ai H 0 rfl) (ae (uO (iM bz (iM (DG (eP (iO U (cA U) (by kernel_rfl) (by kernel_rfl) (by kernel_rfl) (KI U).ok (ai H 0 rfl) (ae (ai H 1 rfl) ay)) bv)) (iM bz Fj)))) ay)))⟩
noncomputable def D4:wF 3:=⟨_,λU H=>by exact(c5 (bZ .list bD kE j4 pE (dy (cA U) 12 rfl (ai H 0 rfl)) ay))⟩
noncomputable def D5:wF 4:=⟨_,λU H=>by exact(cj (cA U) 15 rfl (Wm gr (b7 (λ_ _ _=>aX) eX (bG U H 0 2 rfl rfl (by kernel_rfl)) (ae (dy (cA U) 12 rfl (ai H 0 rfl)) ay)) bv (hm:=by with_unfolding_all rfl)) (ai H 0 rfl))⟩
noncomputable def D6:wF 5:=⟨_,λU H=>by exact(c5 (bZ .list bD kE j4 pE (dy (cA U) 9 rfl (ai H 0 rfl)) ay))⟩
noncomputable def D7:wF 6:=⟨_,λU H=>by exact(c5 (bZ .list bD kE j4 pE (dy (cA U) 10 rfl (ai H 0 rfl)) ay))⟩
theorem FG(h:me[l]?=some (.list xs)):Ro me (.loc l)=some xs.length:=bE (bE h)
theorem eJ{K:Nat->Prop}(h:me[l]?=some (.list xs))(hz:xs.length<=10000)(q:K xs.length):aA (Ro me (.loc l)) λn=>gd (bw n) (K n):=av (FG h) (b_ (cM hz) q)
theorem H8(G:uD D)(o:Option Bool)(l:Lc):(bY D o l).length<=1000:=by
 cases o with
 |none=>exact am (iR l).2 (by decide)
 |some s=>refine(?_ :(nw (pf D s) l.s).length<=1000);rw[tv];have:=(iR l).2;have:=(jG G s).2;omega
theorem Xf(U:cD P g){lv:List (Option Bool)}{d0:List Nat}{l:Lc}{lo:List (Option V)}(W:xf D (D.N base.length) c lv r)(hd:c.dc=d0++[j])(ho:∀s,o=some s->o∈lv)(hp:c.pc.length<=10000)(h:∀r',nH D (D.N base.length) c c lv r r'->Q .next ⟨some (bW base)::some (.str (eR o l))::lo,ce,mm D base {c with pc:=c.pc++[mE (bY D o l)]} r'⟩):zm.1 ⟨some (bW base)::some (.str (eR o l))::lo,ce,mm D base c r⟩ Q:=by refine ca D base c r (.loc (base.length+1)) (by kernel_rfl) rfl ?_;refine on D base c r (by kernel_rfl) ?_;refine λ_ E=>E W hd (λs e=>.inl (ho s e)) λr' t T ht=>?_;rw[show rH lv o=lv by cases o with|none=>rfl|some s=>exact oz (ho s rfl)] at T;refine dK (aY ht) rfl ?_;have M:=H8 W.ok o l;have X:(Str.empty++"</"++bY D o l).length<=2+1000:=kR (aU rfl) M;have a2:=kR (y:=">") X (aF 1);refine b_ (uE M rfl) ?_;refine b_ (by rw[<-bH];exact uE X rfl) ?_;refine b_ (by rw[<-bH];exact uE a2 rfl) ?_;refine b_ (uE a2 rfl) ?_;exact ou D base c r' hp (h r' T)
theorem RR.close{l1:List (Option Bool)}{x:Option Bool}{d0 z0:List Nat}(h:RR D N c (l1++[x]) r)(hd:c.dc=d0++[j])(hn:c.nz=z0++[i])(e1:c'.dc=d0)(e2:c'.nz=z0):RR D N c' l1 r:=by obtain⟨h1,h2,h3⟩:=h;rw[hd] at h1 h3;rw[hn] at h2 h3;refine⟨by rw[e1];exact h1.snoc_inv.1,by rw[e2];exact λj hj=>h2 j (fH _ hj),?_⟩;rw[e1,e2];exact h3.sublist ((List.sublist_append_left _ _).append (List.sublist_append_left _ _))
theorem K2(U:cD P g){l1:List (Option Bool)}{x:Option Bool}{d0 z0:List Nat}{n:Nat}{l:Lc}{lo:List (Option V)}{Q:V->St->Prop}(W:xf D (D.N base.length) c (l1++[x]) r)(hd:c.dc=d0++[j])(hn:c.nz=z0++[i])(hr:c.pr=n+1)(ho:∀s,o=some s->o∈l1++[x])(hI:Xa c)(h:∀r' dn,RR D (D.N base.length) (tD c (bY D o l) d0 z0 n dn) l1 r'->Q .none ⟨lo,ce,mm D base (tD c (bY D o l) d0 z0 n dn) r'⟩):aV K1.1 (aV zm.1 (aV D4.1 (aV D5.1 (aV D6.1 (aV D7.1 (c8 .next)))))) ⟨some (bW base)::some (.str (eR o l))::List.replicate 2 none,[],mm D base c r⟩ (pP Q lo ce):=by
 have aD:aV zm.1 (aV D4.1 (aV D5.1 (aV D6.1 (aV D7.1 (c8 .next))))) ⟨some (bW base)::some (.str (eR o l))::List.replicate 2 none,[],mm D base (bp c) r⟩ (pP Q lo ce):=by
  have W':xf D (D.N base.length) (bp c) (l1++[x]) r:=⟨W.ok,W.R.wr rfl rfl,W.lv,W.nz⟩;refine Xf U W' hd ho (am (wD c) (am (dQ hI.pc 1) (by decide))) λr' T=>?_;have hr':n<=100:=by have:=hI.pr;exact aQ [_,_] (.f 1 (.v 0) (.a (.v 1) (.n 1)) (.c 1 (.v 0) (.n 100) .nil)) 0 (.v 1) (.n 100) tt hr this
  have S:=W.R.dl.len;have J:=W.lv;have hNz:=W.nz;rw[hd,ak,ak] at S;rw[ak] at J;rw[hn,ak] at hNz;refine ca D base {bp c with pc:=(bp c).pc++[mE (bY D o l)]} r' (D.L base.length 15) (by kernel_rfl) rfl ?_;have e15:(mm D base {bp c with pc:=(bp c).pc++[mE (bY D o l)]} r')[D.A base.length 15]?=some (.list (List.replicate (n+1) (.bool false)++[.bool false])):=by rw[<-tC,<-hr];exact DP 15 rfl
  refine b_ (bk e15) ?_;refine rL e15 (by rw[oT];exact aQ [_] (.c 1 (.v 0) (.n 100) .nil) 0 (.a (.v 0) (.n 1)) (.n 1000) tt hr') ?_;rw[KU];refine ca D base {bp c with pc:=(bp c).pc++[mE (bY D o l)],pr:=n} r' (D.L base.length 15) (by kernel_rfl) rfl ?_;refine av (FG FB) ?_;rw[oT];refine b_ (cM (aQ [_] (.c 1 (.v 0) (.n 100) .nil) 0 (.a (.v 0) (.n 1)) (.n 10000) tt hr')) ?_;refine tj D base {bp c with pc:=(bp c).pc++[mE (bY D o l)],pr:=n} {bp c with pc:=(bp c).pc++[mE (bY D o l)],pr:=n,done:=(((n+1:Nat):Int)==1)} r' rfl rfl rfl ?_;refine ca D base {bp c with pc:=(bp c).pc++[mE (bY D o l)],pr:=n,done:=(((n+1:Nat):Int)==1)} r' (D.L base.length 2) (by kernel_rfl) rfl ?_;have e2:(mm D base {bp c with pc:=(bp c).pc++[mE (bY D o l)],pr:=n,done:=(((n+1:Nat):Int)==1)} r')[D.A base.length 2]?=some (.list (ti D base.length d0++[.loc (D.N base.length+j)])):=by rw[FF,<-hd];exact DP 2 rfl
  refine b_ (bk e2) ?_;refine rL e2 (by unfold ti;rw[aJ,ax];exact aQ [_,_,_,_] (.e 1 (.a (.v 0) (.v 1)) (.a (.v 2) (.v 3)) (.c 1 (.a (.v 2) (.v 3)) (.n 10) .nil)) 0 (.a (.v 0) (.n 1)) (.n 1000) tt S J) ?_;rw[KZ];refine ca D base {bp c with pc:=(bp c).pc++[mE (bY D o l)],pr:=n,done:=(((n+1:Nat):Int)==1),dc:=d0} r' (D.L base.length 3) (by kernel_rfl) rfl ?_;have e3:(mm D base {bp c with pc:=(bp c).pc++[mE (bY D o l)],pr:=n,done:=(((n+1:Nat):Int)==1),dc:=d0} r')[D.A base.length 3]?=some (.list (wq D base.length z0++[.loc (D.N base.length+i)])):=by rw[FC,<-hn];exact DP 3 rfl
  refine b_ (bk e3) ?_;refine rL e3 (by unfold wq;rw[aJ,aJ,ax];exact aQ [_,_] (.c 1 (.a (.v 0) (.v 1)) (.n 100) .nil) 0 (.a (.a (.v 0) (.n 1)) (.n 1)) (.n 1000) tt hNz) ?_;rw[KV];exact h r' _ (RR.close T.R hd hn rfl rfl)
 refine ca D base c r (.loc (base.length+4)) (by kernel_rfl) rfl ?_;refine BT hI.da (λe=>?_) ?_
 ·rw[uc e] at aD;exact aD
 ·refine on D base c r (by kernel_rfl) ?_;exact λ_ E=>E hI.da hI.tot (am hI.pc (by decide)) aD
theorem Ou(U:cD P g):cO g (k+3) (.ref 133) H6:=by
 have H:=abn P;refine rD U H (NB.at rfl (by exact(ab (ST.2 U H) (ab (K1.2 U H) (ab (zm.2 U H) (ab (D4.2 U H) (ab (D5.2 U H) (ab (D6.2 U H) (ab (D7.2 U H) aC))))))))) [] [] (λ_=>.nil) rfl (by kernel_rfl) (λa b S=>rfl) ?_;refine λ_ _ _ hW9=>H6.rec (@λD base r c l1 x d0 z0 j i n o l lo ce Q W hd hn hr ho hI h=>?_) (@λD base r c v lo ce Q e h=>?_) hW9
 rotate_left
 ·refine⟨_,_,rfl,?_⟩;refine pQ ?_;refine ca D base c r (.int c.dD) (by kernel_rfl) rfl ?_;refine w5 (by rw[e];rfl) ?_;refine ca D base c r (.int c.dD) (by kernel_rfl) rfl ?_;exact tj D base c {c with dD:=c.dD-1} r rfl rfl rfl h
 refine⟨_,_,rfl,?_⟩;refine pQ ?_;refine ca D base c r (.int c.dD) (by kernel_rfl) rfl ?_;refine bu (λe=>?_) (λe=>?_)
 ·rw[e] at h;refine ca D base c r (.int c.dD) (by kernel_rfl) rfl ?_;exact tj D base c {c with dD:=c.dD-1} r rfl rfl rfl h
 ·rw[e] at h;refine K2 U W hd hn hr ho hI ?_;exact h
end
theorem iT{a:V}{n:Str}{v:V}{K:V->Prop}(hi:d5 C me a=some (d,es))(e:eO n es=some v)(hv:nQ v=true)(q:K v):aA (d5 C me a) λp=>aA (eO n p.2) λv=>gd (nQ v) (K v):=av hi (av e (b_ hv q))
theorem zn{a:V}{n:Str}{v:V}{lo:List (Option V)}{Q:Unit->St->Prop}(hi:d5 C me a=some (d,es))(hz:Nat.ble es.length 800=true)(q:Q () ⟨lo,ce,me.set d (.dict (cQ n v es))⟩):aA (d5 C me a) λp=>gd (Nat.ble p.2.length 800) (Q () ⟨lo,ce,me.set p.1 (.dict (cQ n v p.2))⟩):=av hi (b_ hz q)
noncomputable def Xg:List V->ad V:=L3 λM=>∀{s:V}{d ld ln lx:Nat}{es:List (Str×V)}{xs I:List V}{zo lA:Str}{lo ce Q}{me:List O},d5 150 me s=some (d,es)->eO "_ignored_depth" es=some (.int 0)->eO "_data" es=some (.loc ld)->me[ld]?=some (.list [])->eO "_ns_stack" es=some (.loc ln)->me[ln]?=some (.list (xs++[.loc lx]))->xs.length<=100->me[lx]?=some (.list I)->I.length<=100->
 Q .none ⟨lo,ce,(me++[O.tup [.str lA,.str zo]]).set lx (O.list (I++[V.loc me.length]))⟩->M [s,.str zo,.str lA] ⟨lo,ce,me⟩ Q
noncomputable def im(B:List O)(b:Nat)(es:List (Str×V))(Z:List O):List O:=B++(.dict es:: .inst 150 (b+2)::Z)
noncomputable abbrev k8 (D:cR) (B:List O) (b:Nat) (es:List (Str×V)) (Y:List O):List O:=im B b es (.list []::(WI D.ex++Y))
section
variable {B Y Z:List O}{b:Nat}{uL:List (Str×V)}
theorem rM(w:B.length=b+2):d5 150 (im B b es Z) (.loc (b+3))=some (b+2,es):=by
 have e1:(im B b es Z)[b+3]?=some (.inst 150 (b+2)):=by unfold im;rw[show b+3=B.length+1 by rw[w]];exact gy
 have e2:(im B b es Z)[b+2]?=some (.dict es):=by unfold im;rw[<-w];exact aR
 exact mD e1 e2
theorem SU(w:B.length=b+2):(im B b es Z).set (b+2) (.dict uL)=im B b uL Z:=by unfold im;rw[<-w];exact kQ
theorem K3{xs:List O}:im B b es Z++xs=im B b es (Z++xs):=by unfold im;rw[au];rfl
theorem gH{xs:List O}:k8 D B b es Y++xs=k8 D B b es (Y++xs):=by rw[K3,iz,au]
theorem K4(w:B.length=b+2):(im B b es Z).length=b+(4+Z.length):=by unfold im;rw[ak,w,aJ,aJ];exact fC [_,_] .nil 0 (.a (.a (.v 0) (.n 2)) (.a (.a (.v 1) (.n 1)) (.n 1))) (.a (.v 0) (.a (.n 4) (.v 1))) tt tt
theorem m6(w:B.length=b+2):(k8 D B b es Y).length=D.A b Y.length:=by rw[K4 w,aJ,ak,rF];unfold cR.A;exact fC [_,_,_] .nil 0 (.a (.v 0) (.a (.n 4) (.a (.a (.v 1) (.v 2)) (.n 1)))) (.a (.v 0) (.a (.a (.n 5) (.v 1)) (.v 2))) tt tt
theorem K5(w:B.length=b+2)(i:Nat):D.A b i=(B++(.dict es:: .inst 150 (b+2):: .list []::WI D.ex)).length+i:=by rw[ak,w,aJ,aJ,aJ,rF];unfold cR.A;exact fC [_,_,_] .nil 0 (.a (.v 0) (.a (.a (.n 5) (.v 1)) (.v 2))) (.a (.a (.a (.v 0) (.n 2)) (.a (.a (.a (.v 1) (.n 1)) (.n 1)) (.n 1))) (.v 2)) tt tt
theorem D8:k8 D B b es Y=(B++(.dict es:: .inst 150 (b+2):: .list []::WI D.ex))++Y:=by unfold k8 im;rw[au];rfl
theorem tE(w:B.length=b+2)(i:Nat){o:O}(h:Y[i]?=some o):(k8 D B b es Y)[D.A b i]?=some o:=by rw[D8,K5 w,bX];exact h
theorem zp(w:B.length=b+2)(i:Nat){o:O}:(k8 D B b es Y).set (D.A b i) o=k8 D B b es (Y.set i o):=by rw[D8,D8,K5 w,dO]
theorem pR(w:B.length=b+2){n:Str}{v:V}{lo:List (Option V)}{Q:Unit->St->Prop}(hz:Nat.ble es.length 800=true)(q:Q () ⟨lo,ce,im B b (cQ n v es) Z⟩):aA (d5 150 (im B b es Z) (.loc (b+3))) λp=>gd (Nat.ble p.2.length 800) (Q () ⟨lo,ce,(im B b es Z).set p.1 (.dict (cQ n v p.2))⟩):=zn (rM w) hz (by rw[SU w];exact q)
theorem Xh(w:B.length=b+2){n:Str}{v:V}{K:V->Prop}(e:eO n es=some v)(hv:nQ v=true)(q:K v):aA (d5 150 (im B b es Z) (.loc (b+3))) λp=>aA (eO n p.2) λv=>gd (nQ v) (K v):=iT (rM w) e hv q
end
noncomputable def cN:List Str->Option (List Str)
 | []=>none
 |x::r=>some (gJ [] (x::r))
noncomputable def Yn(D:cR)(b n:Nat):List O:=[.tup [.str "http://www.w3.org/XML/1998/namespace",.str "xml"],.list [D.L b 0],.list [D.L b 1],.list [D.L b 12,D.L b 13],.bP .bI [.fb (.ref 44)]]++iN nu++
 [.list ((List.range 7).map λi=>D.L b (5+i)),.list ([D.L b 16,D.L b 17].take n),.dict [],.list [.bool false]]++[.tup [.str "u",.str D.one],.tup [.str "v",.str D.two]].take n
noncomputable def P4:Wr:=⟨[],[],[],[],0,false,false,0⟩
noncomputable def wG(D:cR)(b:Nat):List (Str×V):=(mC D b P4).take 17
noncomputable def W67:List V->ad V:=L3 λM=>∀{D:cR}{B:List O}{b ll:Nat}{xs:List Str}{lo ce Q},B.length=b+2->B[ll]?=some (.list (xs.map .str))->xs.length<=20->D.ex=cN xs->Q .none ⟨lo,ce,k8 D B b (wG D b) (Yn D b 0)⟩->
 M [.loc (b+3),.loc (b+1),.loc ll] ⟨lo,ce,im B b [] []⟩ Q
section
variable {k:Nat}
noncomputable abbrev abo (P:Params):df:=fc (KK P) 113 ["self","prefix","uri"] []
theorem abp(P:Params):cc (abo P) [] .cell:=ip (by kernel_rfl)
theorem FH(U:cD P g):cO g (k+3) (.ref 113) Xg:=by have H:=abp P;refine yX U H (NB.at rfl (by exact(ab (il (a7 (dy (cA U) 16 rfl (ai H 0 rfl))) fm aC) (ab (il (a7 (dy (cA U) 1 rfl (ai H 0 rfl))) fm aC) (ab (c5 (bZ .list bD cJ b0 bB (eP (dy (cA U) 10 rfl (ai H 0 rfl)) HB) (ae (nF (ae (ai H 2 rfl) (ae (ai H 1 rfl) ay))) ay))) aC))))) rfl (by kernel_rfl) (λa b c S=>rfl) ?_;refine k6 (@λs d ld ln lx es xs I zo lA lo ce Q me h1 h2 h3 h4 h5 h6 m r h9 h=>?_);refine⟨_,_,_,rfl,?_⟩;refine pQ ?_;refine iT h1 h2 rfl ?_;refine iT h1 h3 rfl ?_;refine jv h4 (aW _) ?_;refine iT h1 h5 rfl ?_;refine bJ h6 (ow (am m (by decide))) ?_;refine b_ (bk r) ?_;exact iQ (ac r) (am h9 (by decide)) h
noncomputable abbrev F67 (P:Params):df:=fc (KK P) 67 ["self","write","with_comments","strip_text","rewrite_prefixes","qname_aware_tags","qname_aware_attrs","exclude_attrs","exclude_tags"] []
noncomputable def G67:List Str:=["set","list","_namespace_map"]
abbrev m7(i:Nat):=NN F67 G67 67 i 0
theorem K67(P:Params):cc (F67 P) G67 .cell:=ip (by kernel_rfl)
end
end
section
variable {C:Addr}{params:Arguments}{D:cR}{Q:Fl->St->Prop}{g:G}{ln:Int}{es:List (Str×V)}{ns:List Int}{ce l:List Nat}{B Z base me D9 r:List O}{ws xs:List V}{N b c i k ll m:Nat}{o:O}{P:Params}{scope:Scope}{W Wb:ad Fl}{σ:St}{name aw:Str}{α:Type}{v:V}{As:V->ad Unit}
set_option maxHeartbeats 400000
section
variable {Y:List O}{uL:List (Str×V)}{n:Str}{lo:List (Option V)}{Q:Unit->St->Prop}
theorem P5(w:B.length=b+2)(hz:Nat.ble es.length 800=true)(q:Q () ⟨lo,ce,im B b (cQ n (.loc (b+(4+Z.length))) es) (Z++[o])⟩):aA (d5 150 (im B b es Z++[o]) (.loc (b+3))) λp=>gd (Nat.ble p.2.length 800) (Q () ⟨lo,ce,(im B b es Z++[o]).set p.1 (.dict (cQ n (.loc (im B b es Z).length) p.2))⟩):=by rw[K3,K4 w];exact pR w hz q
theorem K6(w:B.length=b+2)(hz:Nat.ble es.length 800=true)(q:Q () ⟨lo,ce,k8 D B b (cQ n (D.L b Y.length) es) (Y++[o])⟩):aA (d5 150 (k8 D B b es Y++[o]) (.loc (b+3))) λp=>gd (Nat.ble p.2.length 800) (Q () ⟨lo,ce,(k8 D B b es Y++[o]).set p.1 (.dict (cQ n (.loc (k8 D B b es Y).length) p.2))⟩):=by rw[gH,m6 w];exact pR w hz q
theorem Xi(w:B.length=b+2)(hz:Nat.ble es.length 800=true)(q:Q () ⟨lo,ce,k8 D B b (cQ n (D.L b 2) es) [o,.list [D.L b 0],.list [D.L b 1]]⟩):aA (d5 150 (((k8 D B b es []++[o])++[O.list [.loc (k8 D B b es []).length]])++[O.list [.loc (k8 D B b es []++[o]).length]]) (.loc (b+3))) λp=>gd (Nat.ble p.2.length 800) (Q () ⟨lo,ce,(((k8 D B b es []++[o])++[O.list [.loc (k8 D B b es []).length]])++[O.list [.loc (k8 D B b es []++[o]).length]]).set p.1 (.dict (cQ n (.loc ((k8 D B b es []++[o])++[O.list [.loc (k8 D B b es []).length]]).length) p.2))⟩):=by rw[gH,gH,gH,m6 w,m6 w,m6 w];exact pR w hz q
end
noncomputable def UK(b:Nat):List (Str×V):=cQ "_exclude_attrs" .none (cQ "_strip_text" (.bool false) (cQ "_with_comments" (.bool false) (cQ "_data" (.loc (b+4)) (cQ "_write" (.loc (b+1)) []))))
section
noncomputable def P6:m7 0:=⟨_,λU H=>by exact(cj (cA U) 0 rfl (ai H 1 rfl) (ai H 0 rfl))⟩
noncomputable def P7:m7 1:=⟨_,λU H=>by exact(cj (cA U) 1 rfl (eG ay) (ai H 0 rfl))⟩
noncomputable def P8:m7 2:=⟨_,λU H=>by exact(cj (cA U) 2 rfl (ai H 2 rfl) (ai H 0 rfl))⟩
noncomputable def P9:m7 3:=⟨_,λU H=>by exact(cj (cA U) 3 rfl (ai H 3 rfl) (ai H 0 rfl))⟩
noncomputable def P_:m7 4:=⟨_,λU H=>by exact(cj (cA U) 4 rfl (iJ (a7 (ai H 7 rfl)) td ik) (ai H 0 rfl))⟩
noncomputable def Qa:m7 5:=⟨_,λU H=>by exact(cj (cA U) 5 rfl (iJ (a7 (ai H 8 rfl)) (b7 (λ_ _ _=>fX) Hv (bG U H 0 3 rfl rfl (by kernel_rfl)) (ae (ai H 8 rfl) ay)) ik) (ai H 0 rfl))⟩
noncomputable def K7:m7 6:=⟨_,λU H=>by exact(cj (cA U) 6 rfl (ai H 4 rfl) (ai H 0 rfl))⟩
noncomputable def K8:m7 7:=⟨_,λU H=>by exact(il (a7 (ai H 5 rfl)) fm (ab (cj (cA U) 7 rfl ik (ai H 0 rfl)) aC))⟩
noncomputable def K9:m7 8:=⟨_,λU H=>by exact(il (a7 (ai H 6 rfl)) fm (ab (cj (cA U) 8 rfl ik (ai H 0 rfl)) aC))⟩
noncomputable def K_:m7 9:=⟨_,λU H=>by exact(cj (cA U) 9 rfl (eG (ae (eG (ae (nF (ae bz (ae bz ay))) ay)) ay)) (ai H 0 rfl))⟩
noncomputable def zq:m7 10:=⟨_,λU H=>by exact(cj (cA U) 10 rfl (eG ay) (ai H 0 rfl))⟩
noncomputable def zt:m7 11:=⟨_,λU H=>by exact(il (n_ (a7 (ai H 4 rfl))) (ab (c5 (bZ .list bD cJ b0 bB (dy (cA U) 10 rfl (ai H 0 rfl)) (ae (b7 (λ_ _ _=>fX) (N9 U) (bG U H 1 7 rfl rfl (by kernel_rfl)) (ae (N8 U rfl (k5 U H 2 13 rfl rfl) (l:=by intro _;exact⟨_,rfl⟩)) ay)) ay))) aC) aC)⟩
noncomputable def zu:m7 12:=⟨_,λU H=>by exact(c5 (bZ .list bD cJ b0 bB (dy (cA U) 10 rfl (ai H 0 rfl)) (ae (eG ay) ay)))⟩
noncomputable def tF:m7 13:=⟨_,λU H=>by exact(cj (cA U) 11 rfl DF (ai H 0 rfl))⟩
noncomputable def zv:m7 14:=⟨_,λU H=>by exact(cj (cA U) 12 rfl (eG (ae Fh ay)) (ai H 0 rfl))⟩
noncomputable def zz:m7 15:=⟨_,λU H=>by exact(cj (cA U) 13 rfl ik (ai H 0 rfl))⟩
noncomputable def zA:m7 16:=⟨_,λU H=>by exact(cj (cA U) 14 rfl Fh (ai H 0 rfl))⟩
noncomputable def zB:m7 17:=⟨_,λU H=>by exact(cj (cA U) 15 rfl Fh (ai H 0 rfl))⟩
noncomputable def zC:m7 18:=⟨_,λU H=>by exact(cj (cA U) 16 rfl bv (ai H 0 rfl))⟩
noncomputable def Xj(b ll:Nat):List (Option V):=iD 9 [.loc (b+3),.loc (b+1),.bool false,.bool false,.bool false,.none,.none,.none,.loc ll]
noncomputable def La(D:cR)(b:Nat):List (Str×V):=cQ "_declared_ns_stack" (D.L b 2) (cQ "_find_qname_aware_attrs" .none (cQ "_qname_aware_tags" .none (cQ "_rewrite_prefixes" (.bool false) (cQ "_exclude_tags" (PV b D.ex) (UK b)))))
theorem esI(D:cR)(b:Nat):cQ "_ignored_depth" (.int 0) (cQ "_root_done" (.bool false) (cQ "_root_seen" (.bool false) (cQ "_pending_start" .none (cQ "_preserve_space" (D.L b 15) (cQ "_prefix_map" (D.L b 14) (cQ "_ns_stack" (D.L b 3) (La D b)))))))=wG D b:=by kernel_rfl
noncomputable def Y4(D:cR)(b:Nat)(l:List V):List O:=[.tup [.str "http://www.w3.org/XML/1998/namespace",.str "xml"],.list [D.L b 0],.list [D.L b 1],.list l]
theorem abq(D:cR)(b:Nat):((List.range 7).map λi=>V.loc (D.A b 5+i))=(List.range 7).map λi=>D.L b (5+i):=by refine ir λi _=>?_;unfold cR.L cR.A;rw[cS,cS,cS]
theorem lC{lo:List (Option V)}{l:Nat}{Q:V->St->Prop}(h:me[l]?=some (.list xs))(hz:xs.length<=10000)(e:me.set l (.list (xs++[v]))=D9)(q:Q .none ⟨lo,ce,D9⟩):aA (dC me (.loc l)) λp=>gd (bw p.2.length) (Q .none ⟨lo,ce,me.set p.1 (.list (p.2++[v]))⟩):=iQ h hz (by rw[e];exact q)
theorem Qb{K:Fl->St->Prop}{a:α}(h:W σ K):PQ lz (sS W K) a σ:=h
theorem SV(U:cD P g){lo:List (Option V)}{Q:V->St->Prop}(w:B.length=b+2)(h:Q .none ⟨lo,ce,k8 D B b (wG D b) (Yn D b 0)⟩):aV zq.1 (aV zt.1 (aV zu.1 (aV tF.1 (aV zv.1 (aV zz.1 (aV zA.1 (aV zB.1 (aV zC.1 (c8 .next))))))))) ⟨Xj b ll,[],k8 D B b (La D b) [.tup [.str "http://www.w3.org/XML/1998/namespace",.str "xml"],.list [D.L b 0],.list [D.L b 1]]⟩ (pP Q lo ce):=by
 refine K6 w (by kernel_rfl) ?_;have g1:eO "_ns_stack" (cQ "_ns_stack" (D.L b 3) (La D b))=some (D.L b 3):=by kernel_rfl
 refine Xh w g1 rfl ?_;refine b_ (bk (tE w 3 rfl)) ?_;refine b_ (by rw[aR];rfl) ?_;refine lC (me:=((k8 D B b (cQ "_ns_stack" (D.L b 3) (La D b)) (Y4 D b [])++[O.bP .bI [.fb (.ref 44)]])++iN nu)++[O.list ((List.range 7).map λi=>.loc ((k8 D B b (cQ "_ns_stack" (D.L b 3) (La D b)) (Y4 D b [])++[O.bP .bI [.fb (.ref 44)]]).length+i))]) (v:=.loc ((k8 D B b (cQ "_ns_stack" (D.L b 3) (La D b)) (Y4 D b [])++[O.bP .bI [.fb (.ref 44)]]).length+7)) (D9:=k8 D B b (cQ "_ns_stack" (D.L b 3) (La D b)) (Y4 D b [D.L b 12]++[.bP .bI [.fb (.ref 44)]]++iN nu++[.list ((List.range 7).map λi=>D.L b (5+i))])) (by rw[gH,gH,gH];exact tE w 3 rfl) (aW _) ?_ ?_
 ·rw[gH,gH,gH,m6 w,zp w];refine(?_ :k8 D B b _ (Y4 D b [.loc (D.A b 5+7)]++[.bP .bI [.fb (.ref 44)]]++iN nu++[.list ((List.range 7).map λi=>.loc (D.A b 5+i))])=_);rw[abq,show V.loc (D.A b 5+7)=D.L b 12 by unfold cR.L cR.A;rw[cS,cS]]
 refine Xh w g1 rfl ?_;refine b_ (bk (tE w 3 rfl)) ?_;refine(?_ :aA (dC (k8 D B b (cQ "_ns_stack" (D.L b 3) (La D b)) (Y4 D b [D.L b 12]++[.bP .bI [.fb (.ref 44)]]++iN nu++[.list ((List.range 7).map λi=>D.L b (5+i))])++[O.list []]) (D.L b 3)) λp=>gd (bw p.2.length) _);refine av (cW (by rw[gH];exact tE w 3 rfl)) (b_ rfl ?_);refine(?_ :aV tF.1 _ ⟨Xj b ll,[],(k8 D B b (cQ "_ns_stack" (D.L b 3) (La D b)) (Y4 D b [D.L b 12]++[.bP .bI [.fb (.ref 44)]]++iN nu++[.list ((List.range 7).map λi=>D.L b (5+i))])++[O.list []]).set (D.A b 3) (.list [D.L b 12,.loc (k8 D B b (cQ "_ns_stack" (D.L b 3) (La D b)) (Y4 D b [D.L b 12]++[.bP .bI [.fb (.ref 44)]]++iN nu++[.list ((List.range 7).map λi=>D.L b (5+i))])).length])⟩ _);rw[gH,m6 w,zp w];refine(?_ :aV tF.1 _ ⟨Xj b ll,[],k8 D B b (cQ "_ns_stack" (D.L b 3) (La D b)) (Y4 D b [D.L b 12,D.L b 13]++[.bP .bI [.fb (.ref 44)]]++iN nu++[.list ((List.range 7).map λi=>D.L b (5+i)),.list []])⟩ _);refine K6 w (by kernel_rfl) ?_;refine K6 w (by kernel_rfl) ?_;refine pR w (by kernel_rfl) ?_;refine pR w (by kernel_rfl) ?_;refine pR w (by kernel_rfl) ?_;refine pR w (by kernel_rfl) ?_;rw[<-esI] at h;exact h
theorem SW(U:cD P g){lo:List (Option V)}{Q:V->St->Prop}(w:B.length=b+2)(h:Q .none ⟨lo,ce,k8 D B b (wG D b) (Yn D b 0)⟩):aV K7.1 (aV K8.1 (aV K9.1 (aV K_.1 (aV zq.1 (aV zt.1 (aV zu.1 (aV tF.1 (aV zv.1 (aV zz.1 (aV zA.1 (aV zB.1 (aV zC.1 (c8 .next))))))))))))) ⟨Xj b ll,[],k8 D B b (cQ "_exclude_tags" (PV b D.ex) (UK b)) []⟩ (pP Q lo ce):=by refine pR w (by kernel_rfl) ?_;refine pR w (by kernel_rfl) ?_;refine pR w (by kernel_rfl) ?_;refine Xi w (by kernel_rfl) ?_;exact SV U w h
theorem SX(U:cD P g){xs:List Str}{lo:List (Option V)}{Q:V->St->Prop}(w:B.length=b+2)(Z:B[ll]?=some (.list (xs.map .str)))(hz:xs.length<=20)(he:D.ex=cN xs)(h:Q .none ⟨lo,ce,k8 D B b (wG D b) (Yn D b 0)⟩):aV P6.1 (aV P7.1 (aV P8.1 (aV P9.1 (aV P_.1 (aV Qa.1 (aV K7.1 (aV K8.1 (aV K9.1 (aV K_.1 (aV zq.1 (aV zt.1 (aV zu.1 (aV tF.1 (aV zv.1 (aV zz.1 (aV zA.1 (aV zB.1 (aV zC.1 (c8 .next))))))))))))))))))) ⟨Xj b ll,[],im B b [] []⟩ (pP Q lo ce):=by
 refine pR w (by kernel_rfl) ?_;refine P5 w (by kernel_rfl) ?_;refine pR w (by kernel_rfl) ?_;refine pR w (by kernel_rfl) ?_;refine pR w (by kernel_rfl) ?_;refine jv (ac Z) (by rw[ax];exact aQ [_] (.c 1 (.v 0) (.n 20) .nil) 0 (.v 0) (.n 10000) tt hz) ?_;have aD:=SW (ll:=ll) U w h;cases xs with
 |nil=>
  rw[he] at aD;refine pR w (by kernel_rfl) ?_;refine Qb ?_;have e:k8 D B b (cQ "_exclude_tags" (PV b (cN [])) (UK b)) []=im B b (cQ "_exclude_tags" .none (UK b)) [.list []]:=by unfold k8;rw[he];rfl
  rw[e] at aD;exact aD
 |cons x xs=>
  refine av (cW (ac Z)) ?_;refine av (ms (x::xs)) ?_;refine b_ (d_ hz) ?_;refine P5 w (by kernel_rfl) ?_;refine Qb ?_;have e:k8 D B b (cQ "_exclude_tags" (PV b D.ex) (UK b)) []=im B b (cQ "_exclude_tags" (.loc (b+5)) (UK b)) ([.list []]++[.set (gJ [] (x::xs))]):=by unfold k8;rw[he];rfl
  rw[e] at aD;exact aD
end
set_option maxHeartbeats 1000000
noncomputable def WMK:V->V->ad V:=L4 λM=>∀{D:cR}{B:List O}{b ll:Nat}{xs:List Str}{lo ce Q},B.length=b+2->B[ll]?=some (.list (xs.map .str))->xs.length<=20->D.ex=cN xs->Q (.loc (b+3)) ⟨lo,ce,k8 D B b (wG D b) (Yn D b 0)⟩->M (.loc (b+1)) (.loc ll) ⟨lo,ce,B⟩ Q
section
noncomputable def SY:List Str:=["self","write","with_comments","strip_text","rewrite_prefixes","qname_aware_tags","qname_aware_attrs","exclude_attrs","exclude_tags"]
theorem SZ(U:cD P g){gs:List Str}(H:cc (fc (KK P) 67 SY []) gs .cell)(hb:NB g (fc (KK P) 67 SY []) k (bh (KK P) 67) W){dV kV fx pm ct oc:Value}{an od:Option Addr}{Aw:Array (Option Value)}(ho:(KK P).lookup 67=some ⟨oc,od,.func (fnOf name (bR (KK P) 67).qualname params (bh (KK P) 67) (bR (KK P) 67).scope dV kV fx pm an (bR (KK P) 67).code ct),Aw⟩)(hc:(codeIn (KK P) (bR (KK P) 67).code (bR (KK P) 67).qualname&& !(bR (KK P) 67).scope.isCoroutine&& !(bR (KK P) 67).scope.isGenerator&&(bR (KK P) 67).scope.names.all λx=>!(x.2== .cell))=true)(m:∀a b u S,peek (KK P) S (bindArgs (fnOf name (bR (KK P) 67).qualname params (bh (KK P) 67) (bR (KK P) 67).scope dV kV fx pm an (bR (KK P) 67).code ct) ⟨[a,b],[("exclude_tags",u)]⟩)=some (SY.zip [a,b,.bool false,.bool false,.bool false,.none,.none,.none,u])):qw g (k+1) (.ref 67) (some "exclude_tags") (λvs σ Q=>aA (AP vs) λp=>gd (Nat.beq p.1.length 2) (W ⟨iD 9 (p.1++[.bool false,.bool false,.bool false,.none,.none,.none]++[p.2]),[],σ.mem⟩ λfl a9=>Q (nV fl) {σ with mem:=a9.mem})):=by
 simp only[aM,gS,i_] at hc;obtain⟨⟨⟨h1,h3⟩,h4⟩,h5⟩:=hc;refine Ht hb.run (by rw[U.K];exact ho) (by rw[U.K];exact h1) rfl 2 [.bool false,.bool false,.bool false,.none,.none,.none] (λs us u X Z=>?_) H.nd (λx B=>(H.loc B).1) (λx B e=>?_) h3 h4 H.kind
 ·refine yc (Dt Z) λa b jM=>?_;obtain rfl:=jM;exact⟨[.bool false,.bool false,.bool false,.none,.none,.none],λ_=>.cons rfl (.cons rfl (.cons rfl (.cons rfl (.cons rfl (.cons rfl .nil))))),ic (by rw[U.K] at X;exact X) (m a b u)⟩
 ·have:=h5 x B;rw[e] at this;exact nB this.symm
theorem H9(U:cD P g):qw g (k+1) (.ref 67) (some "exclude_tags") W67:=by have H:=K67 P;have this:=SZ (k:=k) U H (NB.at rfl (by exact(ab (P6.2 U H) (ab (P7.2 U H) (ab (P8.2 U H) (ab (P9.2 U H) (ab (P_.2 U H) (ab (Qa.2 U H) (ab (K7.2 U H) (ab (K8.2 U H) (ab (K9.2 U H) (ab (K_.2 U H) (ab (zq.2 U H) (ab (zt.2 U H) (ab (zu.2 U H) (ab (tF.2 U H) (ab (zv.2 U H) (ab (zz.2 U H) (ab (zA.2 U H) (ab (zB.2 U H) (ab (zC.2 U H) aC))))))))))))))))))))) rfl (by kernel_rfl) λa b u S=>rfl;intro F d A af vs us v u hr D s wd σ Q Z R J;refine this F d A af vs us v u hr D s wd σ Q Z R ?_;revert J;generalize vs++[v]=vv;clear Z R;revert Q;revert σ;revert vv;refine k6 (@λ_ _ _ _ _ _ _ _ h1 h2 h3 h4 h=>?_);exact SX U h1 h2 h3 h4 h
theorem S0(U:cD P g):v5 g (k+2) (.ref 150) "exclude_tags" WMK:=by have h:=Dw (C:=150) (by rw[U.K];kernel_rfl) (by rw[U.K];kernel_rfl) (by rw[U.K];kernel_rfl) (H9 (k:=k) U);intro F d A af a b u v hr ha hb s wd σ Q Z R J;refine h F d A af a b u v hr ha hb s wd σ Q Z R ?_;clear Z R ha hb hr;revert a b σ Q J;refine Sy (@λD B b ll xs lo ce Q h1 h2 h3 h4 h=>?_);refine(?_ :W67 [.loc (B.length+1),.loc (b+1),.loc ll] ⟨lo,ce,B++[.dict [],.inst 150 B.length]⟩ _);rw[h1];exact λ_ E=>E h1 h2 h3 h4 h
end
set_option maxHeartbeats 300000
noncomputable def pT(aw:Str)(n:Nat):Str:=⟨(((ch aw).drop n).take 1).toArray⟩
noncomputable def Xk:V->List V->ad V:=L4 λM=>∀{f a cl lp n:Nat}{aw:Str}{lo ce Q}{me:List O},me[f]?=some (.fn 0 [a,cl])->me[a]?=some (.cell (.str aw))->me[cl]?=some (.cell (.loc lp))->me[lp]?=some (.list [.int n])->cl≠lp->a≠lp->aw.length<=10000000->Q (.str (pT aw n)) ⟨lo,ce,me.set lp (.list [.int ((n+1:Nat):Int)])⟩->M (.loc f) [.int 1] ⟨lo,ce,me⟩ Q
theorem Ov(xs:List α)(n:Nat):fS xs (some (((n+1:Nat):Int)-1)) (some ((n+1:Nat):Int))=(xs.drop n).take 1:=by
 have e:(((n+1:Nat):Int)-1)=((n:Nat):Int):=by omega
 rw[e];refine(?_ :(xs.drop (min n xs.length)).take (min (n+1) xs.length-min n xs.length)=_);by_cases h:n<xs.length
 ·rw[kg (eU h),kg h,Nat.succ_sub (aF n),kq]
 ·rw[kb (o6 h),kb (iw (o6 h)),kq,oR (o6 h)];rfl
section
theorem abr(U:cD P g){body:List Stmt}(h0:(dU P).name=name)(h1:(dU P).params=params)(h2:(dU P).body=body)(h3:(dU P).scope=scope):g.fo 0=λfA fx c' io=>fnMade name rB params body scope fA fx ((g.mg "__name__").getD .none) c' io:=by subst h0 h1 h2 h3;exact U.fo0
theorem abs(U:cD P g){pos:Pos}(h:(dU P).pos=pos):g.tp 0=pos:=U.tp0.trans h
theorem abt(U:cD P g)(h:(dU P).scope=scope):g.ff 0=c9 scope:=by subst h;exact U.ff0
noncomputable def Qc(P:Params)(c:Value):df:=⟨rB++".<locals>.",c,(dU P).scope,["size"],["page","place"]⟩
theorem H_(a:Value)(fA:List (Str×Addr))(fx pm cd io:Value):bindArgs (fnX (dU P).name rB (dU P).params (dU P).body (dU P).scope fA .none .none fx pm none cd io) ⟨[a],[]⟩=Pure.pure (((["size"]:List Str).take 1).zip [a]):=by kernel_rfl
theorem Lb(s:Shared)(a:Value)(fA:List (Str×Addr))(fx pm cd io:Value):BindsTo s (fnX (dU P).name rB (dU P).params (dU P).body (dU P).scope fA .none .none fx pm none cd io) ⟨[a],[]⟩ (((["size"]:List Str).take 1).zip [a]):=by have e:=H_ (P:=P) a fA fx pm cd io;exact @BindsTo.of_eq _ _ _ _ e
theorem rN(P:Params)(c:Value):cc (Qc P c) [] .free:=ip (by kernel_rfl)
noncomputable def Qd(U:cD P g)(c:Addr):{W:ad Fl //NB g (Qc P (.ref c)) k (dU P).body W}:=⟨_,NB.at' rfl (ab (wh kK (yR (rN P (.ref c)) 1 rfl) bv (ai (rN P (.ref c)) 0 rfl) (ha:=by intros;rfl)) (ab (cP (iL (yR (rN P (.ref c)) 0 rfl) (gK (cZ qX (eP (yR (rN P (.ref c)) 1 rfl) bv) (ai (rN P (.ref c)) 0 rfl))) (gK (eP (yR (rN P (.ref c)) 1 rfl) bv)))) aC))⟩
theorem Ia(s:Shared)(us:List Value)(fA:List (Str×Addr))(fx pm cd io:Value)(Z:us.length=1):BindsTo s (fnX (dU P).name rB (dU P).params (dU P).body (dU P).scope fA .none .none fx pm none cd io) ⟨us,[]⟩ (((["size"]:List Str).take 1).zip us):=by refine xE (List.length_eq_one_iff.mp Z) λa Y=>?_;obtain rfl:=Y;exact @Lb P s a fA fx pm cd io
theorem Ow(P:Params):((dU P).scope.names.all λx=>!(x.2== .cell))=true:=by kernel_rfl
theorem S1(U:cD P g):gf g (k+1) (λv vs σ Q=>aA (VG 0 σ.mem v) λls=>gd (Nat.beq vs.length 1) ((Qd (k:=k) U 0).1 ⟨iD 1 vs,ls,σ.mem⟩ λfl a9=>Q (nV fl) {σ with mem:=a9.mem})):=Sa (λc=>(Qd U c).2.run) U.fo0 U.tq0 rfl (U.ff0.trans (by kernel_rfl)) 1 (@Ia P)
  (rN P .none).nd (rN P .none).ndc (λx B=>((rN P .none).loc B).1) (λx B e=>by have:=List.all_eq_true.mp (Ow P) x B;rw[e] at this;exact nB this) (by kernel_rfl) (by kernel_rfl) (by kernel_rfl)
theorem Xl(U:cD P g):gf g (k+1) Xk:=by
 refine gf.conv (S1 (k:=k) U) ?_
 refine Sy (@λf a cl lp n aw lo ce Q me h1 h2 h3 h4 h5 h6 hz h=>?_);refine av (KM h1) ?_;refine bS (i:=1) (ce:=[a,cl]) rfl h3 ?_;refine bJ (i:=0) h4 rfl ?_;refine av (cW h4) ?_;have Z:=(List.getElem?_eq_some_iff.mp h4).1;have e4:(me.set lp (.list [.int ((n:Int)+1)]))[lp]?=some (.list [.int ((n:Int)+1)]):=qb Z;refine bS (i:=0) (ce:=[a,cl]) (me:=me.set lp (.list [.int ((n:Int)+1)])) rfl (bF (bM h6) h2) ?_;refine bS (i:=1) (ce:=[a,cl]) rfl (bF (bM h5) h3) ?_;refine bJ e4 rfl ?_;refine bS (i:=1) (ce:=[a,cl]) rfl (bF (bM h5) h3) ?_;refine bJ e4 rfl ?_;refine b_ (cU (am hz (by decide))) ?_;have:=Ov aw.cps.toList n;rw[show(((n+1:Nat):Int))=(n:Int)+1 by omega] at this h;refine(?_ :Q (.str ⟨(fS aw.cps.toList (some ((n:Int)+1-1)) (some ((n:Int)+1))).toArray⟩) _);rw[this];exact h
end
set_option maxHeartbeats 1000000
noncomputable def rO(I p:V)(ln:Int):List (Str×V):=[("lineno",.int ln),("instream",I),("whitespace",.str "\n\t\r "),("pushback",p)]
noncomputable def abu:List V->ad V:=L3 λM=>∀{B:List O}{I:V}{lo ce Q},Q .none ⟨lo,ce,B++[O.dict (rO I (.loc (B.length+2)) 1),.inst 206 B.length,.list []]⟩->M [.loc (B.length+1),I] ⟨lo,ce,B++[O.dict [],.inst 206 B.length]⟩ Q
noncomputable def WML:List V->ad V:=L3 λM=>∀{B:List O}{I:V}{lo ce Q},Q (.loc (B.length+1)) ⟨lo,ce,B++[O.dict (rO I (.loc (B.length+2)) 1),.inst 206 B.length,.list []]⟩->M [I] ⟨lo,ce,B⟩ Q
theorem Xm:d5 C (B++(O.dict es:: .inst C B.length::Z)) (.loc (B.length+1))=some (B.length,es):=mD gy aR
theorem zD{n:Str}{lo:List (Option V)}{Q:Unit->St->Prop}(hz:Nat.ble es.length 800=true)(q:Q () ⟨lo,ce,B++(O.dict (cQ n v es):: .inst C B.length::Z)⟩):aA (d5 C (B++(O.dict es:: .inst C B.length::Z)) (.loc (B.length+1))) λp=>gd (Nat.ble p.2.length 800) (Q () ⟨lo,ce,(B++(O.dict es:: .inst C B.length::Z)).set p.1 (.dict (cQ n v p.2))⟩):=zn Xm hz (by rw[kQ];exact q)
theorem S2{n:Str}{lo:List (Option V)}{Q:Unit->St->Prop}(hz:Nat.ble es.length 800=true)(q:Q () ⟨lo,ce,B++(O.dict (cQ n (.loc (B.length+(2+Z.length))) es):: .inst C B.length::(Z++[o]))⟩):aA (d5 C ((B++(O.dict es:: .inst C B.length::Z))++[o]) (.loc (B.length+1))) λp=>gd (Nat.ble p.2.length 800) (Q () ⟨lo,ce,((B++(O.dict es:: .inst C B.length::Z))++[o]).set p.1 (.dict (cQ n (.loc (B++(O.dict es:: .inst C B.length::Z)).length) p.2))⟩):=by
 have e:(B++(O.dict es:: .inst C B.length::Z)).length=B.length+(2+Z.length):=by rw[ak,aJ,aJ,gA 2]
 rw[e,au];exact zD hz q
section
noncomputable abbrev abv (P:Params):df:=fc (KK P) 182 ["self","fp"] []
theorem abw(P:Params):cc (abv P) [] .cell:=ip (by kernel_rfl)
theorem Ox(U:cD P g):cO g (k+1) (.ref 182) abu:=by have H:=abw P;refine rD U H (NB.at rfl (by exact(ab (cj (m3 U) 0 rfl bv (ai H 0 rfl)) (ab (cj (m3 U) 1 rfl (ai H 1 rfl) (ai H 0 rfl)) (ab (cj (m3 U) 2 rfl bz (ai H 0 rfl)) (ab (cj (m3 U) 3 rfl (eG ay) (ai H 0 rfl)) aC)))))) [] [] (λ_=>.nil) rfl (by kernel_rfl) (λa b S=>rfl) ?_;refine k6 (@λB I lo ce Q h=>?_);refine⟨_,_,rfl,?_⟩;refine pQ ?_;refine zD rfl ?_;refine zD rfl ?_;refine zD rfl ?_;exact S2 rfl h
theorem Ld(U:cD P g):cz g (k+2) (.ref 206) WML:=by
 have h:=Hu (C:=206) (by rw[U.K];kernel_rfl) (by rw[U.K];kernel_rfl) (by rw[U.K];kernel_rfl) (cO.ck (Ox (k:=k) U));intro F d A af vs us hr D;refine bb.conv (h F d A af vs us hr D) ?_
 clear D;revert vs;refine k6 (@λB I lo ce Q h=>?_);exact λ_ E=>E h
end
noncomputable def oB(b:Nat):List (Str×V):=[("lineno",.int 1),("instream",.none),("whitespace",.str "\n\t\r "),("pushback",.loc (b+4)),("read",.loc (b+6))]
noncomputable def Qe(b:Nat)(aw:Str)(n:Nat)(ln:Int)(ws:List V):List O:=[.cell (.str aw),.cell (.loc (b+5)),.dict (oB b),.inst 206 (b+2),.list [],.list [.int n],.fn 0 [b,b+1],.dict (rO (.loc (b+3)) (.loc (b+9)) ln),.inst 206 (b+7),.list [],.list ws]
noncomputable def lx(base:List O)(aw:Str)(n:Nat)(ln:Int)(ws:List V)(r:List O):List O:=base++(Qe base.length aw n ln ws++r)
noncomputable def db(aw:Str)(n:Nat):Int:=1+((((ch aw).take n).count 10:Nat):Int)
section
variable {n n':Nat}{ln':Int}{Lf:List V}
theorem oD(i:Nat)(h:(Qe base.length aw n ln ws)[i]?=some o):(lx base aw n ln ws r)[base.length+i]?=some o:=by unfold lx;rw[bX];exact ac h
theorem D_(i:Nat)(hi:i<11)(h:(Qe base.length aw n ln ws).set i o=Qe base.length aw n' ln' Lf):(lx base aw n ln ws r).set (base.length+i) o=lx base aw n' ln' Lf r:=by unfold lx;rw[dO,oV _ _ hi,h]
theorem Ea{xs:List O}:lx base aw n ln ws r++xs=lx base aw n ln ws (r++xs):=by unfold lx;rw[au,au]
theorem Eb:(lx base aw n ln ws r).length=base.length+(11+r.length):=by unfold lx;rw[ak,ak];rfl
theorem FI{j:Nat}(h:r[j]?=some o):(lx base aw n ln ws r)[base.length+(11+j)]?=some o:=by unfold lx;rw[bX,show 11=(Qe base.length aw n ln ws).length from rfl,bX];exact h
theorem jo:d5 206 (lx base aw n ln ws r) (.loc (base.length+8))=some (base.length+7,rO (.loc (base.length+3)) (.loc (base.length+9)) ln):=mD (oD 8 rfl) (oD 7 rfl)
theorem Oy:d5 206 (lx base aw n ln ws r) (.loc (base.length+3))=some (base.length+2,oB base.length):=mD (oD 3 rfl) (oD 2 rfl)
end
theorem FJ{a:V}{d:Nat}{n:Str}{lo:List (Option V)}{Q:Unit->St->Prop}(hi:d5 C me a=some (d,es))(hz:Nat.ble es.length 800=true)(e:me.set d (.dict (cQ n v es))=D9)(q:Q () ⟨lo,ce,D9⟩):aA (d5 C me a) λp=>gd (Nat.ble p.2.length 800) (Q () ⟨lo,ce,me.set p.1 (.dict (cQ n v p.2))⟩):=zn hi hz (by rw[e];exact q)
theorem BU{x y:Str}:d4 x y=decide (x=y):=by
 by_cases h:x=y
 ·rw[dI h];exact(cq _ _).mpr h
 ·rw[dR h];exact Bool.eq_false_iff.mpr λe=>h ((cq _ _).mp e)
theorem Ib(aw:Str)(n:Nat):db aw (n+1)=bif d4 (pT aw n) "\n" then db aw n+1 else db aw n:=by
 unfold db;rw[List.take_add,gR];have hn:ch ("\n":Str)=[10]:=by decide+kernel
 have h1:(((ch aw).drop n).take 1).count 10=(bif d4 (pT aw n) "\n" then 1 else 0):=by
  have Z:(((ch aw).drop n).take 1).length<=1:=by rw[jA];exact Nat.min_le_left _ _
  have hc:ch (pT aw n)=((ch aw).drop n).take 1:=rfl;rw[BU];by_cases h:pT aw n="\n"
  ·rw[dI h,<-hc,h,hn];rfl
  ·rw[dR h];refine List.count_eq_zero.mpr λhm=>h (Fp ?_);rw[hn,hc]
   match B:((ch aw).drop n).take 1,Z,hm with
   | [a],_,hm=>rw[List.mem_singleton.mp hm]
   |a::b::t,Z,_=>rw[aJ,aJ] at Z;omega
 rw[h1];cases d4 (pT aw n) "\n" with
 |true=>rw[cT,cT];omega
 |false=>rw[dk,dk];omega
noncomputable def xh:List V->ad V:=L3 λM=>∀{base r:List O}{aw:Str}{n:Nat}{ws:List V}{lo ce Q},aw.length<=10000000->Q (.str (pT aw n)) ⟨lo,ce,lx base aw (n+1) (db aw (n+1)) ws r⟩->M [.loc (base.length+8)] ⟨lo,ce,lx base aw n (db aw n) ws r⟩ Q
section
noncomputable abbrev abx (P:Params):df:=fc (KK P) 189 ["self","ch"] []
theorem aby(P:Params):cc (abx P) [] .cell:=ip (by kernel_rfl)
theorem pL(U:cD P g):cO g (k+2) (.ref 189) xh:=by
 have H:=aby P;refine lB U H (NB.at rfl (by exact(ab (aP H 1 rfl (mz (m3 U).cls (N7 U) (Xl U) (dy (m3 U) 1 rfl (ai H 0 rfl)) (ae bv ay))) (ab (il (aN gr (ai H 1 rfl) bz) (ab (wg (m3 U) 0 kK rfl (ai H 0 rfl) bv) aC) aC) (ab (cP (ai H 1 rfl)) aC))))) [] [] (λ_=>.nil) rfl (by kernel_rfl) (λa S=>rfl) ?_;refine k6 (@λbase r aw n ws lo ce Q hz h=>?_);refine⟨_,rfl,?_⟩;refine pQ ?_;refine iT jo rfl rfl ?_;refine iT Oy (v:=.loc (base.length+6)) (by kernel_rfl) rfl ?_;refine λ_ E=>E (oD 6 rfl) (oD 0 rfl) (oD 1 rfl) (oD 5 rfl) (bL (Nat.add_lt_add_left (by decide) _)) (bL (Nat.lt_add_of_pos_right (by decide))) hz ?_;rw[D_ 5 (by decide) rfl];rw[Ib] at h;refine bu (λe=>?_) (λe=>?_)
 ·rw[e] at h;refine iT jo rfl rfl ?_;exact FJ jo rfl (D_ 7 (by decide) rfl) h
 ·rw[e] at h;exact h
end
noncomputable def gM(c:Nat):Str:=⟨#[c]⟩
noncomputable def sf(c:Nat):Bool:=decide (c∈[10,9,13,32])
theorem Lg(c:Nat):xc (gM c) "\n\t\r "=sf c:=by unfold gM;rw[Fq];exact ag (λl=>decide (c∈l)) (by decide+kernel)
theorem oE(c d:Nat):d4 (gM c) (gM d)=Nat.beq c d:=by
 rw[BU];by_cases h:c=d
 ·subst h;rw[dI rfl,h_]
 ·rw[dR λe=>h (by have:=ag ch e;exact(hZ this).1)];exact(Bool.eq_false_iff.mpr λe=>h (bK e)).symm
theorem q34:("\"":Str)=gM 34:=by decide+kernel
theorem Y3:("\\":Str)=gM 92:=by decide+kernel
theorem wH(aw:Str)(n:Nat):(pT aw n).length<=1:=by refine(?_ :(((ch aw).drop n).take 1).toArray.size<=1);rw[aZ,jA];exact Nat.min_le_left _ _
theorem wI{n:Nat}(h:(ch aw).drop n=[]):pT aw n=⟨#[]⟩:=by unfold pT;rw[h];rfl
theorem pM{n:Nat}(h:(ch aw).drop n=c::l):pT aw n=gM c:=by unfold pT;rw[h];rfl
noncomputable def tL(b L:Nat)(t x:Str):List (Option V):=[some (.loc (b+8)),some (.str t),some (.loc L),some (.str x),none]
def abA(b L:Nat)(base r:List O)(aw:Str)(n:Nat)(ws:List V)(t:Str)(c:Nat)(Q:Fl->St->Prop):Prop:=br (Nat.beq c 92) (Q .next ⟨tL b L (t++pT aw n) (pT aw n),[],lx base aw (n+1) (db aw (n+1)) ws r⟩) (Q .next ⟨tL b L (t++gM c) (gM c),[],lx base aw n (db aw n) ws r⟩)
noncomputable def Wsp(sp:Nat->Bool):ad Fl:=L2 λM=>∀{base r:List O}{aw t:Str}{n c L:Nat}{ws:List V}{Q},aw.length<=10000000->t.length<=10000000->br (sp c) (Q (.ret (.str t)) ⟨tL base.length L t (gM c),[],lx base aw n (db aw n) ws r⟩) (abA base.length L base r aw n ws t c Q)->
 M ⟨tL base.length L t (gM c),[],lx base aw n (db aw n) ws r⟩ Q
noncomputable def qG(c:Nat):Bool:=Nat.beq c 34
theorem BV{t x:Str}(ht:t.length<=10000000)(B:x.length<=1):bw (t.length+x.length)=true:=cU (am (gm ht B) (by decide))
section
noncomputable abbrev Oz (P:Params):df:=fc (KK P) 196 ["self","token","fiter","ch"] []
theorem OA(P:Params):cc (Oz P) ["iter"] .cell:=ip (by kernel_rfl)
theorem S3(U:cD P g):NB g (Oz P) (k+3) (sd (cB (sd (cB (sd (cB (bh (KK P) 196) 3)) 1)) 0)) (Wsp qG):=by
 have H:=OA P;refine NB.c (NB.at' rfl (by exact(ab (il (aN gr (ai H 3 rfl) bz) (ab (cP (ai H 1 rfl)) aC) (ab (il (aN gr (ai H 3 rfl) bz) (ab (aP H 3 rfl (iO U (m3 U) (by kernel_rfl) (by kernel_rfl) (by kernel_rfl) (pL U).ok (ai H 0 rfl) ay)) aC) aC) aC)) (ab (BB H 1 kK rfl (ai H 3 rfl)) aC)))) ?_;refine qB (@λbase r aw t n c L ws Q hz ht h=>?_);refine oh (by rw[q34,oE];rfl) h id (λh=>?_);refine oh (by rw[Y3,oE]) h (λh=>?_) (λh=>?_)
 ·refine av jo ?_;refine λ_ E=>E hz ?_;exact b_ (BV ht (wH aw n)) h
 ·exact b_ (BV ht (aF 1)) h
theorem S4(U:cD P g):NB g (Oz P) (k+3) (sd (cB (qD (cB (sd (cB (bh (KK P) 196) 3)) 1)) 2)) (Wsp sf):=by
 have H:=OA P;refine NB.c (NB.at' rfl (by exact(ab (il (aN xu (ai H 3 rfl) (dy (m3 U) 2 rfl (ai H 0 rfl))) (ab (cP (ai H 1 rfl)) aC) (ab (il (aN gr (ai H 3 rfl) bz) (ab (aP H 3 rfl (iO U (m3 U) (by kernel_rfl) (by kernel_rfl) (by kernel_rfl) (pL U).ok (ai H 0 rfl) ay)) aC) aC) aC)) (ab (BB H 1 kK rfl (ai H 3 rfl)) aC)))) ?_;refine qB (@λbase r aw t n c L ws Q hz ht h=>?_);refine iT jo (v:=.str "\n\t\r ") (by kernel_rfl) rfl ?_;refine oh (Lg c) h id (λh=>?_);refine oh (by rw[Y3,oE]) h (λh=>?_) (λh=>?_)
 ·refine av jo ?_;refine λ_ E=>E hz ?_;exact b_ (BV ht (wH aw n)) h
 ·exact b_ (BV ht (aF 1)) h
end
noncomputable def sT(sp:Nat->Bool):List Nat->Str->Str×List Nat
 | [],t=>(t,[])
 |c::r,t=>bif sp c then(t,r) else bif Nat.beq c 92 then(match r with| []=>(t++⟨#[]⟩,[])|d::r'=>sT sp r' (t++gM d)) else sT sp r (t++gM c)
noncomputable def Lh(c:Nat)(r:List Nat):Str×List Nat:=bif qG c then sT qG r "" else bif Nat.beq c 92 then(match r with| []=>(""++⟨#[]⟩,[])|d::r'=>sT sf r' (""++gM d)) else sT sf r (""++gM c)
noncomputable def tG:List Nat->Str×List Nat
 | []=>("",[])
 |c::r=>bif sf c then tG r else Lh c r
noncomputable def rc(b m:Nat)(run:Bool):List O:=[.bP .meth [.fb (.ref 189),.loc (b+8)],bif run then .bP .ng [.loc (b+(11+m)),.str "",.bool false] else .bP .ng [.none,.none,.bool true]]
section
variable {n:Nat}{lo:List (Option V)}{K:Option V->St->Prop}
noncomputable abbrev Lr (base r:List O):Nat:=base.length+(11+(r.length+1))
theorem FL(run:Bool):(lx base aw n ln ws (r++rc base.length r.length run))[Lr base r]?=some (bif run then .bP .ng [.loc (base.length+(11+r.length)),.str "",.bool false] else .bP .ng [.none,.none,.bool true]):=FI gy
theorem Xn(run:Bool):(lx base aw n ln ws (r++rc base.length r.length run))[base.length+(11+r.length)]?=some (.bP .meth [.fb (.ref 189),.loc (base.length+8)]):=FI aR
theorem BW:vS 189 (lx base aw n ln ws (r++rc base.length r.length true)) (Lr base r)=some (.loc (base.length+8)):=by unfold vS;rw[FL];refine(?_ :xy 189 (lx base aw n ln ws (r++rc base.length r.length true))[base.length+(11+r.length)]?=_);rw[Xn];rfl
theorem BX(run:Bool):mW (lx base aw n ln ws (r++rc base.length r.length run)) (Lr base r)=true:=by unfold mW;rw[FL];cases run<;>rfl
theorem S5:(lx base aw n ln ws (r++rc base.length r.length true)).set (Lr base r) (.bP .ng [.none,.none,.bool true])=lx base aw n ln ws (r++rc base.length r.length false):=by unfold lx Lr;rw[dO,show 11=(Qe base.length aw n ln ws).length from rfl,dO];unfold rc;rw[wo];rfl
theorem S6(q:K none ⟨lo,ce,lx base aw n (db aw n) ws (r++rc base.length r.length false)⟩):iG 189 xh (Lr base r) ⟨lo,ce,lx base aw n (db aw n) ws (r++rc base.length r.length false)⟩ K:=w5 (by unfold n8;rw[FL];rfl) q
theorem Li(hz:aw.length<=10000000)(q:br (s9 (pT aw n)) (K none ⟨lo,ce,lx base aw (n+1) (db aw (n+1)) ws (r++rc base.length r.length false)⟩) (K (some (.str (pT aw n))) ⟨lo,ce,lx base aw (n+1) (db aw (n+1)) ws (r++rc base.length r.length true)⟩)):iG 189 xh (Lr base r) ⟨lo,ce,lx base aw n (db aw n) ws (r++rc base.length r.length true)⟩ K:=by refine xQ (by unfold n8;rw[FL];rfl) (av BW (λ_ E=>E hz (b_ (by rw[BW];rfl) ?_)));refine rC q (λq=>?_) id;rw[S5];exact q
theorem Lj(q:Q .next ⟨lo,ce,lx base aw n (db aw n) ws (r++rc base.length r.length false)⟩):vV (iG 189 xh (Lr base r)) (Lr base r) As Wb (m+1) ⟨lo,ce,lx base aw n (db aw n) ws (r++rc base.length r.length false)⟩ Q:=S6 q
theorem rP(hz:aw.length<=10000000)(h:(ch aw).drop n=[])(q:Q .next ⟨lo,ce,lx base aw (n+1) (db aw (n+1)) ws (r++rc base.length r.length false)⟩):vV (iG 189 xh (Lr base r)) (Lr base r) As Wb (m+1) ⟨lo,ce,lx base aw n (db aw n) ws (r++rc base.length r.length true)⟩ Q:=Li hz (w5 (by rw[wI h];exact rJ _) q)
theorem kz(hz:aw.length<=10000000)(h:(ch aw).drop n=c::l)(q:As (.str (gM c)) ⟨lo,ce,lx base aw (n+1) (db aw (n+1)) ws (r++rc base.length r.length true)⟩ (tS Wb (QY (λσ=>vV (iG 189 xh (Lr base r)) (Lr base r) As Wb m σ Q) Q))):vV (iG 189 xh (Lr base r)) (Lr base r) As Wb (m+1) ⟨lo,ce,lx base aw n (db aw n) ws (r++rc base.length r.length true)⟩ Q:=Li hz (xQ (by rw[pM h];exact Bool.eq_false_iff.mpr λe=>by have:=ag ch ((cq _ _).mp e);cases this) (b_ (BX true) (by rw[pM h];exact q)))
end
structure Xo(base r:List O)(aw:Str)(ws:List V)(p:Str×List Nat)(Q:Fl->St->Prop):Prop where
 ret:∀n x,(ch aw).drop n=p.2->Q (.ret (.str p.1)) ⟨tL base.length (Lr base r) p.1 x,[],lx base aw n (db aw n) ws (r++rc base.length r.length true)⟩
 nxt:p.2=[]->∀n x,(ch aw).drop n=[]->Q .next ⟨tL base.length (Lr base r) p.1 x,[],lx base aw n (db aw n) ws (r++rc base.length r.length false)⟩
theorem zE{xs:List Nat}{n:Nat}(h:xs.drop n=c::l):xs.drop (n+1)=l:=(fD h).2
theorem qH{xs:List Nat}{n:Nat}(h:xs.drop n=[]):xs.drop (n+1)=[]:=by rw[j6] at h ⊢;exact aQ [_,_] (.c 1 (.v 0) (.v 1) .nil) 0 (.v 0) (.a (.v 1) (.n 1)) tt h
theorem zF{sp:Nat->Bool}(hz:aw.length<=10000000):∀(m:Nat)(l:List Nat)(t x:Str)(n:Nat),l.length<=m->(ch aw).drop n=l->t.length+l.length<=10000000->Xo base r aw ws (sT sp l t) Q-> ∃f,vV (iG 189 xh (Lr base r)) (Lr base r) (du 3) (Wsp sp) f ⟨tL base.length (Lr base r) t x,[],lx base aw n (db aw n) ws (r++rc base.length r.length true)⟩ Q:=λm=>by
 induction m with
 |zero=>intro l t x n hm Z ht h;obtain rfl:=List.length_eq_zero_iff.mp (Nat.le_zero.mp hm);exact⟨1,rP hz Z (h.nxt rfl _ x (qH Z))⟩
 |succ m T=>
  intro l t x n hm Z ht h;cases l with
  |nil=>exact⟨1,rP hz Z (h.nxt rfl _ x (qH Z))⟩
  |cons c l=>
   rw[aJ] at hm ht;have j:=zE Z;unfold sT at h;cases e:sp c with
   |true=>rw[e] at h;exact⟨1,kz hz Z (λ_ E=>E hz (aQ [_,_] (.c 1 (.a (.v 0) (.a (.v 1) (.n 1))) (.n 10000000) .nil) 0 (.v 0) (.n 10000000) tt ht) (w5 e (h.ret _ _ j)))⟩
   |false=>
    rw[e,dk] at h;cases e2:Nat.beq c 92 with
    |true=>
     rw[e2,cT] at h;cases l with
     |nil=>exact⟨2,kz hz Z (λ_ E=>E hz (aQ [_,_] (.c 1 (.a (.v 0) (.a (.v 1) (.n 1))) (.n 10000000) .nil) 0 (.v 0) (.n 10000000) tt ht) (xQ e (w5 e2 (by rw[wI j];exact rP hz (qH j) (h.nxt rfl _ _ (qH (qH j)))))))⟩
     |cons d l=>rw[aJ] at hm ht;obtain⟨f,S⟩:=T l (t++gM d) (gM d) (n+1+1) (aQ [_,_] (.c 1 (.a (.a (.v 0) (.n 1)) (.n 1)) (.a (.v 1) (.n 1)) .nil) 0 (.v 0) (.v 1) tt hm) (zE j) (by rw[bH];exact am (fO (by refine(?_ :t.length+1+l.length=t.length+(l.length+1));exact fC [_,_] .nil 0 (.a (.a (.v 0) (.n 1)) (.v 1)) (.a (.v 0) (.a (.v 1) (.n 1))) tt tt)) (ix ht)) h;exact⟨f+1,kz hz Z (λ_ E=>E hz (aQ [_,_] (.c 1 (.a (.v 0) (.a (.a (.v 1) (.n 1)) (.n 1))) (.n 10000000) .nil) 0 (.v 0) (.n 10000000) tt ht) (xQ e (w5 e2 (by rw[pM j];exact S))))⟩
    |false=>rw[e2,dk] at h;obtain⟨f,S⟩:=T l (t++gM c) (gM c) (n+1) (aQ [_,_] (.c 1 (.a (.v 0) (.n 1)) (.a (.v 1) (.n 1)) .nil) 0 (.v 0) (.v 1) tt hm) j (by rw[bH];exact am (fO (by refine(?_ :t.length+1+l.length=t.length+(l.length+1));exact fC [_,_] .nil 0 (.a (.a (.v 0) (.n 1)) (.v 1)) (.a (.v 0) (.a (.v 1) (.n 1))) tt tt)) ht) h;exact⟨f+1,kz hz Z (λ_ E=>E hz (aQ [_,_] (.c 1 (.a (.v 0) (.a (.v 1) (.n 1))) (.n 10000000) .nil) 0 (.v 0) (.n 10000000) tt ht) (xQ e (xQ e2 S)))⟩
noncomputable def Ec:ad Fl:=L2 λM=>∀{base r:List O}{aw:Str}{n c:Nat}{l:List Nat}{ws:List V}{Q},aw.length<=10000000->l.length<=9000000->(ch aw).drop n=l->(sf c=true->Q .cont ⟨tL base.length (Lr base r) "" (gM c),[],lx base aw n (db aw n) ws (r++rc base.length r.length true)⟩)->(sf c=false->Xo base r aw ws (Lh c l) Q)->
 M ⟨tL base.length (Lr base r) "" (gM c),[],lx base aw n (db aw n) ws (r++rc base.length r.length true)⟩ Q
noncomputable def abC:List V->ad V:=L3 λM=>∀{base r:List O}{aw:Str}{n:Nat}{ws:List V}{lo ce Q},aw.length<=9000000->(∀n' X,(ch aw).drop n'=(tG ((ch aw).drop n)).2->Q (.str (tG ((ch aw).drop n)).1) ⟨lo,ce,lx base aw n' (db aw n') ws (r++X)⟩)->M [.loc (base.length+8)] ⟨lo,ce,lx base aw n (db aw n) ws r⟩ Q
section
theorem Xo.seq{p:Str×List Nat}(h:Xo base r aw ws p Q):Xo base r aw ws p (sS (c8 .next) Q):=⟨λn x e=>h.ret n x e,λe n x e'=>h.nxt e n x e'⟩
theorem S7(U:cD P g):NB g (Oz P) (k+3) (sd (cB (bh (KK P) 196) 3)) Ec:=by
 have H:=OA P;refine NB.c (NB.at' rfl (by exact(ab (il (aN xu (ai H 3 rfl) (dy (m3 U) 2 rfl (ai H 0 rfl))) (ab Wp aC) aC) (ab (il (aN gr (ai H 3 rfl) bz) (ab (wj (by rw[U.K];kernel_rfl) (pL U) (ai H 2 rfl) (b8 H 3 rfl) (S3 U) (z:=by intro _ _;rfl)) aC) (ab (il (aN gr (ai H 3 rfl) bz) (ab (aP H 3 rfl (iO U (m3 U) (by kernel_rfl) (by kernel_rfl) (by kernel_rfl) (pL U).ok (ai H 0 rfl) ay)) aC) aC) (ab (BB H 1 kK rfl (ai H 3 rfl)) (ab (wj (by rw[U.K];kernel_rfl) (pL U) (ai H 2 rfl) (b8 H 3 rfl) (S4 U) (z:=by intro _ _;rfl)) aC)))) aC)))) ?_;refine qB (@λbase r aw n c l ws Q hz Y5 Z h1 h2=>?_);refine iT jo (v:=.str "\n\t\r ") (by kernel_rfl) rfl ?_;refine bu (λe=>h1 ((Lg c).symm.trans e)) (λe=>?_);replace h2:=h2 ((Lg c).symm.trans e);unfold Lh at h2;cases e2:qG c with
 |true=>rw[e2,cT] at h2;refine w5 (by rw[q34,oE];exact e2) ?_;refine b_ (BX true) ?_;exact zF hz l.length l "" _ n (aF _) Z (am (by rw[show("":Str).length=0 from rfl,eB];exact Y5) (by decide)) h2.seq.seq.seq
 |false=>
  rw[e2,dk] at h2;refine xQ (by rw[q34,oE];exact e2) ?_;cases e3:Nat.beq c 92 with
  |true=>
   rw[e3,cT] at h2;refine w5 (by rw[Y3,oE];exact e3) ?_;refine av jo ?_;refine λ_ E=>E hz ?_;refine b_ (BV (aW _) (wH aw n)) ?_;refine b_ (BX true) ?_;cases l with
   |nil=>rw[wI Z];exact zF hz 0 [] (""++⟨#[]⟩) _ (n+1) (aF _) (qH Z) (aW _) h2.seq.seq.seq
   |cons d l=>rw[pM Z];rw[aJ] at Y5;exact zF hz l.length l (""++gM d) _ (n+1) (aF _) (zE Z) (by rw[bH];refine(?_ :0+1+l.length<=10000000);exact aQ [_] (.c 1 (.a (.v 0) (.n 1)) (.n 9000000) .nil) 0 (.a (.a (.n 0) (.n 1)) (.v 0)) (.n 10000000) tt Y5) h2.seq.seq.seq
  |false=>rw[e3,dk] at h2;refine xQ (by rw[Y3,oE];exact e3) ?_;refine b_ (BX true) ?_;exact zF hz l.length l (""++gM c) _ n (aF _) Z (by rw[bH];refine(?_ :0+1+l.length<=10000000);exact aQ [_] (.c 1 (.v 0) (.n 9000000) .nil) 0 (.a (.a (.n 0) (.n 1)) (.v 0)) (.n 10000000) tt Y5) h2.seq.seq.seq
structure abD(base r:List O)(aw:Str)(ws:List V)(p:Str×List Nat)(Q:Fl->St->Prop):Prop where
 ret:∀n lo,(ch aw).drop n=p.2->Q (.ret (.str p.1)) ⟨lo,[],lx base aw n (db aw n) ws (r++rc base.length r.length true)⟩
 nxt:p.2=[]->∀n y,(ch aw).drop n=[]->Q .next ⟨[some (.loc (base.length+8)),some (.str p.1),some (.loc (Lr base r)),y,none],[],lx base aw n (db aw n) ws (r++rc base.length r.length false)⟩
theorem S8(hz:aw.length<=9000000)(l:List Nat):∀(n:Nat)(y:Option V),l.length<=9000000->(ch aw).drop n=l->abD base r aw ws (tG l) Q-> ∃f,vV (iG 189 xh (Lr base r)) (Lr base r) (du 3) Ec f ⟨[some (.loc (base.length+8)),some (.str ""),some (.loc (Lr base r)),y,none],[],lx base aw n (db aw n) ws (r++rc base.length r.length true)⟩ Q:=by
 have L:aw.length<=10000000:=am hz (by decide);induction l with
 |nil=>exact λn y hm Z h=>⟨1,rP L Z (h.nxt rfl _ y (qH Z))⟩
 |cons c l T=>
  intro n y hm Z h;rw[aJ] at hm;have j:=zE Z;unfold tG at h;cases e:sf c with
  |true=>rw[e,cT] at h;refine xE (T (n+1) (some (.str (gM c))) (ix hm) j h) λf S=>?_;exact⟨f+1,kz L Z (λ_ E=>E L (ix hm) j (λ_=>S) λe'=>by rw[e] at e';exact Ab e')⟩
  |false=>rw[e,dk] at h;exact⟨2,kz L Z (λ_ E=>E L (ix hm) j (λe'=>by rw[e] at e';exact nB e') λ_=>⟨λn x e=>h.ret n _ e,λe n x e'=>Lj (h.nxt e n _ e')⟩)⟩
theorem FM(U:cD P g):cO g (k+4) (.ref 196) abC:=by
 have H:=OA P;refine lB U H (NB.at rfl (by exact(ab (il (a7 (dy (m3 U) 3 rfl (ai H 0 rfl))) fm aC) (ab (aP H 1 rfl bz) (ab (aP H 2 rfl (b7 (λ_ _ _=>aX) (Hf (f:=189)) (bG U H 0 5 rfl rfl (by kernel_rfl)) (ae (Fk (m3 U).cls (aaM U) (ai H 0 rfl) (he:=by intro _;with_unfolding_all rfl)) (ae bz ay)))) (ab (wj (by rw[U.K];kernel_rfl) (pL U) (ai H 2 rfl) (b8 H 3 rfl) (S7 U) (z:=by intro _ _;rfl)) (ab (cP (ai H 1 rfl)) aC))))))) [] [] (λ_=>.nil) rfl (by kernel_rfl) (λa S=>rfl) ?_;refine k6 (@λbase r aw n ws lo ce Q hz h=>?_);refine⟨_,rfl,?_⟩;refine pQ ?_;refine iT jo (v:=.loc (base.length+9)) (by kernel_rfl) rfl ?_;refine jv (oD 9 rfl) (aW _) ?_;refine av jo ?_;have em:(lx base aw n (db aw n) ws r++[O.bP .meth [.fb (.ref 189),.loc (base.length+8)]])[(lx base aw n (db aw n) ws r).length]?=some (.bP .meth [.fb (.ref 189),.loc (base.length+8)]):=aR;refine av (by refine(?_ :xy 189 (lx base aw n (db aw n) ws r++[O.bP .meth [.fb (.ref 189),.loc (base.length+8)]])[(lx base aw n (db aw n) ws r).length]?=_);rw[em];rfl) ?_;refine(?_ :gd (mW ((lx base aw n (db aw n) ws r++[O.bP .meth [.fb (.ref 189),.loc (base.length+8)]])++[O.bP .ng [.loc (lx base aw n (db aw n) ws r).length,.str "",.bool false]]) (lx base aw n (db aw n) ws r++[O.bP .meth [.fb (.ref 189),.loc (base.length+8)]]).length) (∃f,vV (iG 189 xh (lx base aw n (db aw n) ws r++[O.bP .meth [.fb (.ref 189),.loc (base.length+8)]]).length) (lx base aw n (db aw n) ws r++[O.bP .meth [.fb (.ref 189),.loc (base.length+8)]]).length (du 3) Ec f ⟨[some (.loc (base.length+8)),some (.str ""),some (.loc (lx base aw n (db aw n) ws r++[O.bP .meth [.fb (.ref 189),.loc (base.length+8)]]).length),none,none],[],(lx base aw n (db aw n) ws r++[O.bP .meth [.fb (.ref 189),.loc (base.length+8)]])++[O.bP .ng [.loc (lx base aw n (db aw n) ws r).length,.str "",.bool false]]⟩ (sS (aV (ao (dY 1) wc) (c8 .next)) λfl a9=>Q (nV fl) ⟨lo,ce,a9.mem⟩)));rw[Ea,Ea,Eb,Eb,ak,au];refine b_ (BX true) ?_;have hd:((ch aw).drop n).length<=9000000:=by rw[cb];exact am (Nat.sub_le _ _) (by rw[<-qC];exact hz)
 exact S8 hz ((ch aw).drop n) n none hd rfl ⟨λn' A e=>h n' _ e,λe n' y e'=>h n' _ (by rw[e];exact e')⟩
end
inductive iU:List Nat->List Str->List Nat->Prop
 |stop {l:List Nat}:Nat.beq (tG l).1.length 0=true->iU l [] (tG l).2
 |go {l l':List Nat} {ws:List Str}:Nat.beq (tG l).1.length 0=false->iU (tG l).2 ws l'->iU l ((tG l).1::ws) l'
noncomputable abbrev bt (b:Bool) (u:List O):List O:=.tab 0 b::u
noncomputable def Xp:List V->ad V:=L3 λM=>∀{b:Bool}{u:List O}{aw:Str}{ws:List Str}{l':List Nat}{lo ce Q},iU (ch aw) ws l'->aw.length<=9000000->ws.length<=1000->(∀w∈ws,w.length<=10000)->
 (∀n X t,(ch aw).drop n=l'->X[t]?=some (.tup [.loc ((bt b u).length+10),.int (db aw n)])->Q (.loc ((bt b u).length+(11+t))) ⟨lo,ce,lx (bt true u) aw n (db aw n) (ws.map .str) X⟩)->M [.str aw] ⟨lo,ce,bt b u⟩ Q
section
noncomputable abbrev S9 (P:Params):df:=fc (KK P) 264 ["stream","read","lexer","words","word"] ["page","place"]
noncomputable def Xq:List Str:=["_netrclex"]
abbrev rQ(i:Nat):=NN S9 Xq 264 i 4
theorem Xr(P:Params):cc (S9 P) Xq .cell:=ip (by kernel_rfl)
noncomputable def wL(b:Nat)(w:Str):List (Option V):=[some (.loc (b+3)),some (.loc (b+6)),some (.loc (b+8)),some (.loc (b+10)),some (.str w)]
theorem Ic{n:Nat}{ws:List Str}{w:Str}{lo:List (Option V)}{Q:V->St->Prop}(hz:ws.length<=10000)(q:Q .none ⟨lo,ce,lx base aw n ln ((ws++[w]).map .str) r⟩):aA (dC (lx base aw n ln (ws.map .str) r) (.loc (base.length+10))) λp=>gd (bw p.2.length) (Q .none ⟨lo,ce,(lx base aw n ln (ws.map .str) r).set p.1 (.list (p.2++[.str w]))⟩):=iQ (oD 10 rfl) (by rw[ax];exact hz) (by rw[show(ws.map V.str++[.str w])=(ws++[w]).map V.str by simp,D_ 10 (by decide) rfl];exact q)
noncomputable def Lk:ad Fl:=L2 λM=>∀{base r:List O}{aw:Str}{n:Nat}{ws:List Str}{w:Str}{ce Q},aw.length<=9000000->ws.length<=10000->(∀n' X,(ch aw).drop n'=(tG ((ch aw).drop n)).2->Q .next ⟨wL base.length (tG ((ch aw).drop n)).1,ce,lx base aw n' (db aw n') ((ws++[w]).map .str) X⟩)->M ⟨wL base.length w,ce,lx base aw n (db aw n) (ws.map .str) r⟩ Q
theorem S_(U:cD P g):NB g (S9 P) (k+4) (sd (cB (bh (KK P) 264) 7)) Lk:=by have H:=Xr P;refine NB.c (NB.at' rfl (by exact(ab (c5 (bZ .list bD cJ b0 bB (ai H 3 rfl) (ae (ai H 4 rfl) ay))) (ab (aP H 4 rfl (iO U (m3 U) (by kernel_rfl) (by kernel_rfl) (by kernel_rfl) (FM U).ok (ai H 2 rfl) ay)) aC)))) ?_;refine qB (@λbase r aw n ws w ce Q hz hw h=>?_);refine b_ (bk (oD 10 rfl)) ?_;refine Ic hw ?_;refine av jo ?_;exact λ_ E=>E hz λn' X e=>h n' (r++X) e
noncomputable def Ta:rQ 0:=⟨_,λU H=>by exact(aP H 0 rfl (b7 (g8 U (by kernel_rfl)) (Ld U) (k5 U H 0 12 rfl rfl) (ae ik ay)))⟩
noncomputable def Tb:rQ 1:=⟨_,λU H=>by exact(oe H 1 rfl (eG (ae bv ay)))⟩
noncomputable def Tc:rQ 2:=⟨_,λU H=>by exact(Kj H 1 (aaN U) [0,1] (by kernel_rfl) rfl (abr U (by kernel_rfl) (by kernel_rfl) (by kernel_rfl) (by kernel_rfl)) (abs U (by kernel_rfl)) U.tq0 (abt U (by kernel_rfl)) (λ_=>by kernel_rfl) (hd0:=by rfl) (UA:=by rfl) (NG:=by intro _;rfl))⟩
noncomputable def Td:rQ 3:=⟨_,λU H=>by exact(cj (m3 U) 4 rfl (ai H 1 rfl) (ai H 0 rfl))⟩
noncomputable def Te:rQ 4:=⟨_,λU H=>by exact(aP H 2 rfl (b7 (g8 U (by kernel_rfl)) (Ld U) (k5 U H 0 12 rfl rfl) (ae (ai H 0 rfl) ay)))⟩
noncomputable def Tf:rQ 5:=⟨_,λU H=>by exact(aP H 3 rfl (eG ay))⟩
noncomputable def Ed:rQ 6:=⟨_,λU H=>by exact(aP H 4 rfl (iO U (m3 U) (by kernel_rfl) (by kernel_rfl) (by kernel_rfl) (FM U).ok (ai H 2 rfl) ay))⟩
noncomputable def Ll:rQ 7:=⟨_,λU H=>by exact(yS (a7 (ai H 4 rfl)) (S_ U))⟩
noncomputable def Lm:rQ 8:=⟨_,λU H=>by exact(cP (nF (ae (ai H 3 rfl) (ae (dy (m3 U) 0 rfl (ai H 2 rfl)) ay))))⟩
theorem Ee{l':List Nat}{wr:List Str}(hz:aw.length<=9000000)(h:iU l wr l'):∀(n:Nat)(ws:List Str)(r:List O),(ch aw).drop n=(tG l).2->ws.length+wr.length<=1000->(∀w∈wr,w.length<=10000)-> (∀n' X w,(ch aw).drop n'=l'->Q .next ⟨wL base.length w,ce,lx base aw n' (db aw n') ((ws++wr).map .str) X⟩)-> mL (ao (dY 4) nL) Lk (wr.length+1) ⟨wL base.length (tG l).1,ce,lx base aw n (db aw n) (ws.map .str) r⟩ Q:=by
 induction h with
 | @stop l e=>intro n ws r hd hw Tg q;have:=q n r (tG l).1 hd;rw[aS] at this;exact b_ (cM (by rw[bK e];exact aW _)) (xQ (by rw[e];rfl) this)
 | @go l l' wr e hr T=>intro n ws r hd hw Tg q;rw[aJ] at hw;refine b_ (cM (Tg _ (.head _))) (w5 (by rw[e];rfl) ?_);refine λ_ E=>E hz (aQ [_,_] (.c 1 (.a (.v 0) (.a (.v 1) (.n 1))) (.n 1000) .nil) 0 (.v 0) (.n 10000) tt hw) λn' X MC=>?_;rw[hd] at MC ⊢;exact T n' (ws++[(tG l).1]) X MC (by rw[ak];refine(?_ :ws.length+1+wr.length<=1000);exact aQ [_,_] (.c 1 (.a (.v 0) (.a (.v 1) (.n 1))) (.n 1000) .nil) 0 (.a (.a (.v 0) (.n 1)) (.v 1)) (.n 1000) tt hw) (λw hw=>Tg w (.tail _ hw)) λTh X w abE=>by have:=q Th X w abE;rwa[<-List.singleton_append,<-au] at this
theorem Ef(U:cD P g){ws:List Str}{l':List Nat}{A:List Nat}{lo:List (Option V)}{Q:V->St->Prop}(J:iU (ch aw) ws l')(hz:aw.length<=9000000)(hw:ws.length<=1000)(Tg:∀w∈ws,w.length<=10000)(h:∀n X t,(ch aw).drop n=l'->X[t]?=some (.tup [.loc (base.length+10),.int (db aw n)])->Q (.loc (base.length+(11+t))) ⟨lo,A,lx base aw n (db aw n) (ws.map .str) X⟩):aV Ed.1 (aV Ll.1 (aV Lm.1 (c8 .next))) ⟨[some (.loc (base.length+3)),some (.loc (base.length+6)),some (.loc (base.length+8)),some (.loc (base.length+10)),none],ce,lx base aw 0 (db aw 0) [] []⟩ (λfl a9=>Q (nV fl) ⟨lo,A,a9.mem⟩):=by refine av jo ?_;refine λ_ E=>E hz λn X hd=>⟨ws.length+1,?_⟩;refine Ee (ws:=[]) hz J n _ hd (by rw[fL,eB];exact hw) Tg λn' X w MC=>?_;refine iT jo (v:=.int (db aw n')) (by kernel_rfl) rfl ?_;have e:lx base aw n' (db aw n') (ws.map .str) X++[O.tup [.loc (base.length+10),.int (db aw n')]]=lx base aw n' (db aw n') (ws.map .str) (X++[.tup [.loc (base.length+10),.int (db aw n')]]):=Ea;have:=h n' _ X.length MC (aR (t:=[]));rw[<-e,<-Eb] at this;exact this
theorem OB{l:Nat}{lo:List (Option V)}{Q:Unit->St->Prop}(h:me[l]?=some .de)(e:me.set l (.cell v)=D9)(q:Q () ⟨lo,ce,D9⟩):gd (pJ me[l]?) (Q () ⟨lo,ce,me.set l (.cell v)⟩):=FE h (by rw[e];exact q)
theorem FN(U:cD P g):cO g (k+5) (.ref 264) Xp:=by
 have H:=Xr P;refine Fz U H (NB.at rfl (by exact(ab (Ta.2 U H) (ab (Tb.2 U H) (ab (Tc.2 U H) (ab (Td.2 U H) (ab (Te.2 U H) (ab (Tf.2 U H) (ab (Ed.2 U H) (ab (Ll.2 U H) (ab (Lm.2 U H) aC))))))))))) 1 [] ["page"] (List.replicate 5 none) [some 0,none] (by kernel_rfl) (λn=>rfl) rfl (by kernel_rfl) rfl (λs us X Z=>by
  refine xE (List.length_eq_one_iff.mp Z) λa Y=>?_;obtain rfl:=Y;exact⟨[],λ_=>.nil,ic X λS=>rfl⟩) ?_
 refine k6 (@λb u aw ws l' lo ce Q J hz hw Tg h=>?_);refine⟨rfl,?_⟩;refine λ_ E=>E (B:=bt b u++[O.cell (.str aw),.de]) (I:=.none) ?_;refine OB (me:=((bt b u++[O.cell (.str aw),.de])++[O.dict (rO .none (.loc ((bt b u++[O.cell (.str aw),.de]).length+2)) 1),.inst 206 (bt b u++[O.cell (.str aw),.de]).length,.list []])++[.list [.int 0]]) (l:=(bt b u).length+1) (v:=.loc ((bt b u++[O.cell (.str aw),.de])++[O.dict (rO .none (.loc ((bt b u++[O.cell (.str aw),.de]).length+2)) 1),.inst 206 (bt b u++[O.cell (.str aw),.de]).length,.list []]).length)
  (D9:=bt b u++[O.cell (.str aw),.cell (.loc ((bt b u).length+5)),.dict (rO .none (.loc ((bt b u).length+4)) 1),.inst 206 ((bt b u).length+2),.list [],.list [.int 0]]) (ac (ac gy)) (by rw[au,au,au];refine(wo.trans ?_);simp) ?_
 have w:(bt b u++[O.cell (.str aw),.de]).length=(bt b u).length+2:=by simp
 refine FJ (me:=(bt true u++[O.cell (.str aw),.cell (.loc ((bt b u).length+5)),.dict (rO .none (.loc ((bt b u).length+4)) 1),.inst 206 ((bt b u).length+2),.list [],.list [.int 0]])++[.fn 0 [(bt b u).length,(bt b u).length+1]]) (d:=(bt b u).length+2) (es:=rO .none (.loc ((bt b u).length+4)) 1) (a:=.loc ((bt b u++[O.cell (.str aw),.de]).length+1)) (v:=.loc (bt b u++[O.cell (.str aw),.cell (.loc ((bt b u).length+5)),.dict (rO .none (.loc ((bt b u).length+4)) 1),.inst 206 ((bt b u).length+2),.list [],.list [.int 0]]).length)
  (D9:=bt true u++[O.cell (.str aw),.cell (.loc ((bt b u).length+5)),.dict (oB (bt b u).length),.inst 206 ((bt b u).length+2),.list [],.list [.int 0],.fn 0 [(bt b u).length,(bt b u).length+1]])
  (mD (by rw[w,au];exact(bX (i:=3)).trans rfl) (by rw[au];exact(bX).trans rfl)) (by kernel_rfl) (by rw[au];exact(dO).trans (ag (bt true u++ ·) (by rw[ak];kernel_rfl))) ?_
 refine λ_ E=>E ?_;have aD:=Ef (base:=bt true u) (ce:=[(bt b u).length,(bt b u).length+1]) U J hz hw Tg h;have e1:(bt b u++[O.cell (.str aw),.cell (.loc ((bt b u).length+5)),.dict (rO .none (.loc ((bt b u).length+4)) 1),.inst 206 ((bt b u).length+2),.list [],.list [.int 0]]).length=(bt b u).length+6:=by rw[ak];rfl
 have e2:(bt true u++[O.cell (.str aw),.cell (.loc ((bt b u).length+5)),.dict (oB (bt b u).length),.inst 206 ((bt b u).length+2),.list [],.list [.int 0],.fn 0 [(bt b u).length,(bt b u).length+1]]).length=(bt b u).length+7:=by rw[ak];rfl
 refine(?_ :aV Ed.1 _ ⟨[some (.loc ((bt b u++[O.cell (.str aw),.de]).length+1)),some (.loc (bt b u++[O.cell (.str aw),.cell (.loc ((bt b u).length+5)),.dict (rO .none (.loc ((bt b u).length+4)) 1),.inst 206 ((bt b u).length+2),.list [],.list [.int 0]]).length),some (.loc ((bt true u++[O.cell (.str aw),.cell (.loc ((bt b u).length+5)),.dict (oB (bt b u).length),.inst 206 ((bt b u).length+2),.list [],.list [.int 0],.fn 0 [(bt b u).length,(bt b u).length+1]]).length+1)),some (.loc ((bt true u++[O.cell (.str aw),.cell (.loc ((bt b u).length+5)),.dict (oB (bt b u).length),.inst 206 ((bt b u).length+2),.list [],.list [.int 0],.fn 0 [(bt b u).length,(bt b u).length+1]])++[O.dict (rO (.loc ((bt b u++[O.cell (.str aw),.de]).length+1)) (.loc ((bt true u++[O.cell (.str aw),.cell (.loc ((bt b u).length+5)),.dict (oB (bt b u).length),.inst 206 ((bt b u).length+2),.list [],.list [.int 0],.fn 0 [(bt b u).length,(bt b u).length+1]]).length+2)) 1),.inst 206 (bt true u++[O.cell (.str aw),.cell (.loc ((bt b u).length+5)),.dict (oB (bt b u).length),.inst 206 ((bt b u).length+2),.list [],.list [.int 0],.fn 0 [(bt b u).length,(bt b u).length+1]]).length,.list []]).length),none],
  [(bt b u).length,(bt b u).length+1],((bt true u++[O.cell (.str aw),.cell (.loc ((bt b u).length+5)),.dict (oB (bt b u).length),.inst 206 ((bt b u).length+2),.list [],.list [.int 0],.fn 0 [(bt b u).length,(bt b u).length+1]])++[O.dict (rO (.loc ((bt b u++[O.cell (.str aw),.de]).length+1)) (.loc ((bt true u++[O.cell (.str aw),.cell (.loc ((bt b u).length+5)),.dict (oB (bt b u).length),.inst 206 ((bt b u).length+2),.list [],.list [.int 0],.fn 0 [(bt b u).length,(bt b u).length+1]]).length+2)) 1),.inst 206 (bt true u++[O.cell (.str aw),.cell (.loc ((bt b u).length+5)),.dict (oB (bt b u).length),.inst 206 ((bt b u).length+2),.list [],.list [.int 0],.fn 0 [(bt b u).length,(bt b u).length+1]]).length,.list []])++[.list []]⟩ _)
 rw[ak (as:=bt true u++_),e1,e2,w,au,au];exact aD
end
noncomputable def aO(n:Nat):V:=.int ((n:Nat):Int)
theorem jw{xs:List α}{v:α}(hi:i<=10000)(e:xs[i]?=some v):vf xs ((i:Nat):Int)=some v:=by refine(?_ :vf.Ut (bw i) xs[i]?=_);rw[cM hi];exact e
theorem Ln(hz:xs.length<=10000)(hi:i<xs.length):Nj xs ((i:Nat):Int) v=some (xs.set i v):=by refine(?_ :cond (Nat.blt i xs.length&&bw xs.length) (some (xs.set i v)) none=_);rw[cM hz,show Nat.blt i xs.length=true from d_ hi];rfl
theorem oF(a b:Nat):Int.fmod ((a:Nat):Int) ((b:Nat):Int)=((a % b:Nat):Int):=by rw[Int.fmod_eq_emod_of_nonneg _ (gl b)];exact(Int.natCast_emod a b).symm
theorem rR(a b:Nat):Int.fdiv ((a:Nat):Int) ((b:Nat):Int)=((a / b:Nat):Int):=by rw[Int.fdiv_eq_ediv_of_nonneg _ (gl b)];exact(Int.natCast_ediv a b).symm
theorem Lo(a:Int)(b:Nat)(h:0<b):∃m:Nat,m<b/\Int.fmod a ((b:Nat):Int)=((m:Nat):Int):=by have h1:=Int.fmod_nonneg_of_pos a (Int.ofNat_lt.mpr h);have h2:=Int.fmod_lt_of_pos a (Int.ofNat_lt.mpr h);refine xE (Int.eq_ofNat_of_zero_le h1) λm hm=>?_;exact⟨m,by rw[hm] at h2;exact Int.ofNat_lt.mp h2,hm⟩
theorem BY{lo:List (Option V)}{l:Nat}{j:Int}{Q:Unit->St->Prop}(h:me[l]?=some (.list xs))(hz:xs.length<=10000)(ej:j=((i:Nat):Int))(hi:i<xs.length)(q:Q () ⟨lo,ce,me.set l (.list (xs.set i v))⟩):aA (dC me (.loc l)) λp=>aA (Nj p.2 j v) λI=>Q () ⟨lo,ce,me.set p.1 (.list I)⟩:=av (cW h) (av (by rw[ej];exact Ln hz hi) q)
theorem OD{l:Nat}(h:σ.mem[l]?=some (.list xs))(e:xs[i]?=some v):eY l σ i=some (some [.int i,v]):=by unfold eY;rw[ba h e];rfl
theorem Lp{l:Nat}(h:σ.mem[l]?=some (.list xs))(e:xs[i]?=none):eY l σ i=some none:=by unfold eY;rw[ba h e];rfl
structure ud(n:Nat)(cs:List Nat):Prop where
 len:cs.length=4
 le:∀c∈cs,c<=13610+n*999999
theorem ud.step{n:Nat}{cs:List Nat}(h:ud n cs)(hm:m<1000000):ud (n+1) (cs.set i ((cs[i]?.getD 0)+m)):=by
 refine⟨by rw[dS];exact h.len,λc hc=>?_⟩;rcases List.mem_or_eq_of_mem_set hc with hc|rfl
 ·exact am (h.le c hc) (l4 (lW _ (eC n)) _)
 ·cases e:cs[i]? with
  |none=>refine(?_ :0+m<=_);rw[eB,Nat.succ_mul];exact am (Nat.le_of_lt_succ hm) (am (Nat.le_add_left _ _) (Nat.le_add_left _ _))
  |some c=>have:=h.le c (eg e);refine(?_ :c+m<=_);rw[Nat.succ_mul,<-cS];exact gm this (Nat.le_of_lt_succ hm)
theorem OE{us:List Value}(h:IntsAre us ns)(wd:Wd):aE (VR wd) (ns.map .int) us:=by
 induction h with
 |nil=>exact .nil
 |cons n t _ T=>exact .cons ⟨t,rfl⟩ T
def OF(a0:Addr)(xs:List V)(a lo hi:V):ad V:=λσ Q=>aA (mr lo) λlo=>aA (mr hi) λhi=>gd (vF a0 a&&bw xs.length) (jU (.list (fS xs lo hi)) σ Q)
section
variable {F:df}
theorem OG{value:PySem.Expr}{lower tY:Option PySem.Expr}{p pos:Pos}{wa wl wu:ad V}(ha:NE g F k value wa)(m:NP g F k lower wl)(Vi:NP g F k tY wu):NE g F k (.Subscript value (.Slice lower tY none p) pos) (ao wa λa=>ao wl λlo=>ao wu (OF g.sa (g.sn.map .int) a lo)):=by
 refine⟨λd A af hr s wd σ Q Z R J=>?_⟩;refine Subscript_ (bb.go (ha.run d A af hr) Z R J λu dG D a G x1 x2 x3 x4=>?_);refine wpAny_Slice (bb.go (m.run d A af hr) (Z.trans x1) x2 x4 λvl mM P lo E y1 O y3 y4=>?_);refine bb.go (Vi.run d A af hr) ((Z.trans x1).trans y1) O y4 λvu c X hi H L z2 z3 z4=>?_;refine aj ?_;refine ah z4 λl r Uw=>?_;refine ah Uw λh eh T=>?_;clear Uw z4;refine xA (aL T) λh0 C3=>?_;rw[aM] at h0;obtain rfl:=n4 h0.1;obtain rfl:u= .ref g.sa:=x3;have R3:bU g F d X H {c with heap:=c.heap.push {cls:=.type "slice",data:=.fields #[vl,vu,.none]}}:=z2.keeps λb o e=>bf _ e;have j:(c.heap.push {cls:=.type "slice",data:=.fields #[vl,vu,.none]}).get? c.heap.objs.size=some {cls:=.type "slice",data:=.fields #[vl,vu,.none]}:=cu _ rfl;refine jB (rh (VR.mono L y3) r) λp1 ql hql qi=>?_;obtain rfl:=qi;refine jB (rh z3 eh) λp2 qh hqh qi=>?_;obtain rfl:=qi;refine Iy (g.sl) λo ho hc n hd=>?_;have S:(c.heap.push {cls:=.type "slice",data:=.fields #[partValue ql,partValue qh,.none]}).IsList g.sa g.su.toArray:=⟨o,R3.hb _ _ ho,hc,n,hd⟩;have dL:=OE g.si X;have hp:slicePick g.su.toArray l h none=(fS g.su l h).toArray:=by unfold slicePick;rw[aZ];have:=sY g.su l h;rw[<-this];congr 1;apply ag (λf=>List.filterMap f _);funext i;simp
 refine tail_any S.typeIs slot_list_getitem.lookup (sw S ⟨_,j,rfl,rfl⟩ p1 p2 .none (by simp) ?_ (by rw[aZ,<-dL.len];exact dp h0.2)) rfl;rw[hp];exact az _ (.loc H.mem.length) _ (((x1.trans y1).trans L).trans (Wd.aT _ _)) (R3.cE (o:=.list (fS (g.sn.map .int) l h)) ⟨fS g.su l h,0,rfl,(dL.cut l h).mono λ_ _=>VR.mono (Wd.aT _ _)⟩) R3.pushed C3
end
noncomputable def abF(g:G):List V->ad V:=L3 λM=>∀{lo ce Q}{me:List O},g.sn.length<=63->(∀cs X,ud 63 cs->Q (.loc me.length) ⟨lo,ce,me++[.list (cs.map aO),X]⟩)->M [.fb (.ref g.sa)] ⟨lo,ce,me⟩ Q
section
noncomputable abbrev Xs (P:Params):df:=fc (KK P) 231 ["script","cells","place","number"] []
theorem Xt(P:Params):cc (Xs P) ["enumerate"] .cell:=ip (by kernel_rfl)
noncomputable def Eg:ad Fl:=L2 λM=>∀{i:Nat}{n:Int}{cs:List Nat}{me:List O}{X:O}{s:Option V}{r:List (Option V)}{ce Q},cs.length=4->(∀m,m<1000000->Q .next ⟨s::some (.loc me.length)::some (.int i)::some (.int n)::r,ce,me++[.list ((cs.set (i % 4) ((cs[i % 4]?.getD 0)+m)).map aO),X]⟩)->M ⟨s::some (.loc me.length)::some (.int i)::some (.int n)::r,ce,me++[.list (cs.map aO),X]⟩ Q
theorem Ti(U:cD P g):NB g (Xs P) k (sd (cB (bh (KK P) 231) 1)) Eg:=by
 have H:=Xt P;refine NB.c (NB.at' rfl (by exact(ab (wh kK (ai H 1 rfl) (cZ ml (ai H 2 rfl) bv) (cZ ml (ai H 3 rfl) bv) (ha:=by intros;rfl)) aC))) ?_;refine qB (@λi n cs me X s r ce Q hc h=>?_);refine bx (Lo n 1000000 (by decide)) λm hm e=>?_;have hi:i % 4<cs.length:=by rw[hc];exact eD _ (by decide)
 have e2:=bC hi;have e4:Int.fmod ((i:Nat):Int) 4=((i % 4:Nat):Int):=oF i 4;refine bJ aR (by rw[e4];exact jw (eU (fN (eD i (by decide)) (by decide))) (by rw[bi,e2];rfl)) ?_;refine BY aR (by rw[ax,hc];decide) e4 (by rw[ax];exact hi) ?_;rw[kQ,show(V.int (((cs[i % 4]:Nat):Int)+Int.fmod n 1000000))=aO (cs[i % 4]+m) from ag V.int (by rw[show Int.fmod n 1000000=((m:Nat):Int) from e];rfl),<-List.map_set];have:=h m hm;rw[e2] at this;exact this
theorem Eh{ls:Nat}{s:Option V}{f:List (Option V)}(M:ls=me.length+1):∀(r:List Int)(i:Nat)(cs:List Nat)(x y:Option V),ns.drop i=r->i+r.length<=63->ud i cs->(∀Y6 x y,ud (i+r.length) Y6->Q .next ⟨s::some (.loc me.length)::x::y::f,[],me++[.list (Y6.map aO),.list (ns.map .int)]⟩)-> gu (eY ls) (Ka 2 (w3 (du 2) (w3 (du 3) p4))) Eg (r.length+1) i ⟨s::some (.loc me.length)::x::y::f,[],me++[.list (cs.map aO),.list (ns.map .int)]⟩ Q:=λr=>by
 subst M;induction r with
 |nil=>exact λi cs x y hd hz hc h=>iP (Lp gy (by rw[bi,drop_nil hd];rfl)) (h cs x y hc)
 |cons n r T=>intro i cs x y hd hz hc h;refine xA (fD hd) λh1 h2=>?_;rw[aJ] at hz h;refine fq (OD gy (by rw[bi,h1];rfl)) ?_;refine λ_ E=>E hc.len λm hm=>?_;exact T (i+1) _ _ _ h2 (aQ [_,_] (.c 1 (.a (.v 0) (.a (.v 1) (.n 1))) (.n 63) .nil) 0 (.a (.a (.v 0) (.n 1)) (.v 1)) (.n 63) tt hz) (hc.step hm) (by rw[show i+1+r.length=i+(r.length+1) by exact fC [_,_] .nil 0 (.a (.a (.v 0) (.n 1)) (.v 1)) (.a (.v 0) (.a (.v 1) (.n 1))) tt tt];exact h)
theorem OH(U:cD P g):cO g (k+1) (.ref 231) (abF g):=by
 have H:=Xt P;refine lB U H (NB.at rfl (by exact(ab (aP H 1 rfl (eG (ae bv (ae bv (ae bv (ae bv ay)))))) (ab (Ke (bG U H 0 0 rfl rfl (by kernel_rfl)) (OG (ai H 0 rfl) iK (gK bv)) (dz (b8 H 2 rfl) (dz (b8 H 3 rfl) lL)) (Ti U) (z:=by intro _ _;rfl) (M:=by intro _;rfl) (cn:=by intro _;rfl) (T:=by intro _;rfl) (i:=by intro _ _;rfl)) (ab (cP (ai H 1 rfl)) aC))))) [] [] (λ_=>.nil) rfl (by kernel_rfl) (λa S=>rfl) ?_;refine k6 (@λlo ce Q me hz h=>?_);generalize g.sn=ns at *;refine⟨_,rfl,?_⟩;refine pQ ?_;refine b_ (by rw[cM (by rw[ax];exact aQ [_] (.c 1 (.v 0) (.n 63) .nil) 0 (.v 0) (.n 10000) tt hz),Bool.and_true];exact h_ _) ?_;have ec:fS (ns.map V.int) none (some 63)=ns.map V.int:=by refine(?_ :((ns.map V.int).drop 0).take (min 63 (ns.map V.int).length-0)=_);rw[gW,Nat.sub_zero,kb (by rw[ax];exact hz),List.take_length]
 refine(?_ :∃m,gu (eY (me++[O.list ([13610,298,759,457].map aO)]).length) (Ka 2 (w3 (du 2) (w3 (du 3) p4))) Eg m 0 ⟨some (.fb (.ref g.sa))::some (.loc me.length)::none::none::[none],[],(me++[O.list ([13610,298,759,457].map aO)])++[O.list (fS (ns.map V.int) none (some 63))]⟩ (sS (aV (ao (dY 1) wc) (c8 .next)) λfl a9=>Q (nV fl) ⟨lo,ce,a9.mem⟩));rw[ec,tB];refine⟨ns.length+1,Eh (by rw[ak];rfl) ns 0 [13610,298,759,457] none none rfl (by rw[eB];exact hz) ⟨rfl,by decide⟩ λY6 x y hc=>h Y6 _ ⟨hc.len,λc f=>am (hc.le c f) (by rw[eB];exact l4 (lW _ hz) _)⟩⟩
end
inductive Ev where
 |st (o:Option Bool) (l:Lc) (more:Nat)
 |en (o:Option Bool) (l:Lc)
 |da (aff:Nat) (w6:Str)
noncomputable def w7:Ev->List V
 | .st o l m=>[.str "start",.str (eR o l),aO m]
 | .en o l=>[.str "end",.str (eR o l),.int 0]
 | .da w g=>[.str "data",aO w,.str g]
abbrev kU:=List (Option Bool×Lc)
noncomputable def BZ(s:kU):List V:=s.reverse.map λp=>.str (eR p.1 p.2)
theorem tH(p:Option Bool×Lc)(s:kU):BZ (p::s)=BZ s++[.str (eR p.1 p.2)]:=by unfold BZ;simp
theorem kW(s:kU):(BZ s).length=s.length:=by unfold BZ;simp
noncomputable def fZ:Nat->Option Bool×Lc
 |0=>(none,.a)
 |1=>(none,.b)
 |2=>(some false,.a)
 |3=>(some false,.b)
 |4=>(some true,.a)
 |_=>(some true,.b)
noncomputable def rS:Nat->Str
 |0=>gM 32
 |1=>gM 10
 |_=>gM 9
noncomputable def lN(w6:Str)(l:kU):List Ev:=l.flatMap λp=>[.en p.1 p.2,.da 0 w6]
noncomputable def dZ(c:Nat)(s:kU):Nat:=c / 648 % s.length
noncomputable def m8(c:Nat)(s:kU):List Ev:=lN (rS (c / 216 % 3)) (s.take (dZ c s))++[.st (fZ (c % 6)).1 (fZ (c % 6)).2 (c / 6 % 6),.da (c / 36 % 6) (rS (c / 216 % 3))]
noncomputable def iV(c:Nat)(s:kU):kU:=fZ (c % 6)::s.drop (dZ c s)
noncomputable def ny:kU->List Ev
 | []=>[]
 |p::s=>.en p.1 p.2::(bif s.isEmpty then ny s else .da 0 " "::ny s)
noncomputable def evs:List Nat->kU->List Ev
 | [],s=>ny s
 |c::cs,s=>m8 c s++evs cs (iV c s)
noncomputable def eb(me:List O)(lv:List V)(s:kU)(r:List O):List O:=me++(.list lv:: .list (BZ s)::r)
def m9(N:Nat)(r:List O)(lv:List V)(es:List Ev):Prop:=aE (λv e=>∃t,v= .loc (N+t)/\r[t]?=some (.tup (w7 e))) lv es
section
variable {lv:List V}{s:kU}
theorem m9.more{es:List Ev}(h:m9 N r lv es)(xs:List O):m9 N (r++xs) lv es:=aE.mono (λ_ _ ⟨t,e,h⟩=>⟨t,e,ac h⟩) h
theorem m9.add{es:List Ev}(h:m9 N r lv es)(e:Ev):m9 N (r++[O.tup (w7 e)]) (lv++[V.loc (N+r.length)]) (es++[e]):=aE.append (h.more _) (.cons ⟨_,rfl,aR⟩ .nil)
theorem wJ:(eb me lv s r)[me.length]?=some (.list lv):=aR
theorem ue:(eb me lv s r)[me.length+1]?=some (.list (BZ s)):=gy
theorem Ei{xs:List O}:eb me lv s r++xs=eb me lv s (r++xs):=by unfold eb;rw[au];rfl
theorem Tj:(eb me lv s r).length=me.length+2+r.length:=by unfold eb;rw[ak,aJ,aJ];exact fC [_,_] .nil 0 (.a (.v 0) (.a (.a (.v 1) (.n 1)) (.n 1))) (.a (.a (.v 0) (.n 2)) (.v 1)) tt tt
theorem Tl{ku:List V}:(eb me lv s r).set me.length (.list ku)=eb me ku s r:=kQ
theorem FO{s':kU}:(eb me lv s r).set (me.length+1) (.list (BZ s'))=eb me lv s' r:=wo
theorem wK{lo:List (Option V)}{Q:V->St->Prop}(e:Ev)(hz:lv.length<=1000)(q:Q .none ⟨lo,ce,eb me (lv++[V.loc (me.length+2+r.length)]) s (r++[O.tup (w7 e)])⟩):aA (dC (eb me lv s r++[O.tup (w7 e)]) (.loc me.length)) λp=>gd (bw p.2.length) (Q .none ⟨lo,ce,(eb me lv s r++[O.tup (w7 e)]).set p.1 (.list (p.2++[V.loc (eb me lv s r).length]))⟩):=lC (ac wJ) (am hz (by decide)) (by rw[Ei,Tl,Tj]) q
theorem Lq{lo:List (Option V)}{p:Option Bool×Lc}{Q:V->St->Prop}(hz:s.length<=1000)(q:Q (.str (eR p.1 p.2)) ⟨lo,ce,eb me lv s r⟩):aA (dC (eb me lv (p::s) r) (.loc (me.length+1))) λx=>gd (bw x.2.length) (aA (AP x.2) λq=>Q q.2 ⟨lo,ce,(eb me lv (p::s) r).set x.1 (.list q.1)⟩):=rL (by rw[<-tH];exact ue) (by rw[kW];exact hz) (by rw[FO];exact q)
end
noncomputable def Ej:ad Fl:=L2 λM=>∀{me r:List O}{lv:List V}{s:kU}{p:Option Bool×Lc}{w6:Str}{x0 x3:Option V}{r5:List (Option V)}{ce Q},lv.length<=900->s.length<=1000->Q .next ⟨x0::some (.loc me.length)::some (.loc (me.length+1))::x3::some (.str w6)::r5,ce,eb me ((lv++[V.loc (me.length+2+r.length)])++[V.loc (me.length+2+(r++[O.tup (w7 (.en p.1 p.2))]).length)]) s ((r++[O.tup (w7 (.en p.1 p.2))])++[O.tup (w7 (.da 0 w6))])⟩->
 M ⟨x0::some (.loc me.length)::some (.loc (me.length+1))::x3::some (.str w6)::r5,ce,eb me lv (p::s) r⟩ Q
section
noncomputable abbrev OI (P:Params):df:=fc (KK P) 245 ["cells","events","opened","cell","gap","step"] []
theorem OJ(P:Params):cc (OI P) ["range","len","_law_names"] .cell:=ip (by kernel_rfl)
theorem Tm(U:cD P g):NB g (OI P) k (sd (cB (sd (cB (sd (cB (bh (KK P) 245) 2)) 1)) 0)) Ej:=by have H:=OJ P;refine NB.c (NB.at' rfl (by exact(ab (c5 (bZ .list bD cJ b0 bB (ai H 1 rfl) (ae (nF (ae bz (ae (bZ .list bD kE j4 pE (ai H 2 rfl) ay) (ae bv ay)))) ay))) (ab (c5 (bZ .list bD cJ b0 bB (ai H 1 rfl) (ae (nF (ae bz (ae bv (ae (ai H 4 rfl) ay)))) ay))) aC)))) ?_;refine qB (@λme r lv s p w6 x0 x3 r5 ce Q hz M h=>?_);refine b_ (bk wJ) ?_;refine b_ (bk ue) ?_;refine Lq M ?_;refine wK (.en p.1 p.2) (am hz (by decide)) ?_;refine b_ (bk wJ) ?_;refine wK (.da 0 w6) (by rw[ak];exact am (dQ hz 1) (by decide)) ?_;exact h
end
theorem Ek(n:Nat):Builtin.Range.rangeSize 0 ((n:Nat):Int) 1=((n:Nat):Int):=by
 unfold Builtin.Range.rangeSize;rw[a6 (by decide)];by_cases h:(0:Int)<((n:Nat):Int)
 ·rw[a6 h,Int.ediv_one];omega
 ·rw[aH h];omega
theorem zG{n:Nat}(h:i<n):gD 0 ((n:Nat):Int) 1 σ i=some (some (.int (0+(i:Int)*1))):=by unfold gD;rw[Ek,Int.toNat_natCast,show Nat.blt i n=true from d_ h];rfl
theorem uT{n:Nat}(h:n<=i):gD 0 ((n:Nat):Int) 1 σ i=some none:=by unfold gD;rw[Ek,Int.toNat_natCast,show Nat.blt i n=false from Bool.eq_false_iff.mpr λe=>Nat.not_lt.mpr h (aU e)];rfl
theorem Ls{n:Nat}(h:n<=10000):Builtin.Range.rangeFitsLong ((n:Nat):Int)=true:=by unfold Builtin.Range.rangeFitsLong;simp;omega
theorem uf{n:Nat}(h:n<=10000):Builtin.Range.small 0 ((n:Nat):Int) 1=true:=by unfold Builtin.Range.small;rw[Ek,Ls h,show((n:Nat):Int)+(1-1)=((n:Nat):Int) from Int.add_zero _,Ls h];cases ((n:Nat):Int)==0<;>rfl
theorem El{w6:Str}{x0 x3:Option V}{r6:List (Option V)}{n:Nat}:∀(m i:Nat)(s:kU)(lv:List V)(r:List O)(es:List Ev)(y:Option V),i+m=n->m<=s.length->s.length<=1000->lv.length+2*m<=900->m9 (me.length+2) r lv es-> (∀ku r' y,m9 (me.length+2) r' ku (es++lN w6 (s.take m))->Q .next ⟨x0::some (.loc me.length)::some (.loc (me.length+1))::x3::some (.str w6)::y::r6,[],eb me ku (s.drop m) r'⟩)-> gu (gD 0 ((n:Nat):Int) 1) (du 5) Ej (m+1) i ⟨x0::some (.loc me.length)::some (.loc (me.length+1))::x3::some (.str w6)::y::r6,[],eb me lv s r⟩ Q:=λm=>by
 induction m with
 |zero=>intro i s lv r es y hi hm M hz he h;refine iP (uT (fO hi.symm)) ?_;have:=h lv r y (by rw[List.take_zero];exact(aS es).symm▸he);rw[gW] at this;exact this
 |succ m T=>
  intro i s lv r es y hi hm M hz he h;cases s with
  |nil=>cases hm
  |cons p s=>
   rw[aJ] at hm M;refine fq (zG (aQ [_,_,_] (.e 1 (.a (.v 0) (.a (.v 1) (.n 1))) (.v 2) .nil) 0 (.a (.v 0) (.n 1)) (.v 2) tt hi)) ?_;refine λ_ E=>E (aQ [_,_] (.c 1 (.a (.v 0) (.m 2 (.a (.v 1) (.n 1)))) (.n 900) .nil) 0 (.v 0) (.n 900) tt hz) (ix M) ?_;have Tn:=(he.add (.en p.1 p.2)).add (.da 0 w6);rw[show(es++[Ev.en p.1 p.2])++[Ev.da 0 w6]=es++[Ev.en p.1 p.2,.da 0 w6] by simp] at Tn;refine T (i+1) s _ _ _ _ (fC [_,_,_] (.e 1 (.a (.v 0) (.a (.v 1) (.n 1))) (.v 2) .nil) 0 (.a (.a (.v 0) (.n 1)) (.v 1)) (.v 2) tt tt hi) (oP hm) (ix M) ?_ Tn λku r' y D=>h ku r' y ?_
   ·rw[ak,ak];refine(?_ :lv.length+1+1+2*m<=900);exact aQ [_,_] (.c 1 (.a (.v 0) (.m 2 (.a (.v 1) (.n 1)))) (.n 900) .nil) 0 (.a (.a (.a (.v 0) (.n 1)) (.n 1)) (.m 2 (.v 1))) (.n 900) tt hz
   ·rw[au] at D;exact D
end
section
variable {D:cR}{e:Ev}{Q:Fl->St->Prop}{g:G}{l:Lc}{rT r6:List (Option V)}{es:List Ev}{ce:List Nat}{me r r':List O}{left ts:List Str}{vs xs:List V}{N b k m:Nat}{o:Option Bool}{x0 x1 ug rU rV x2 x3:Option V}{P:Params}{u v:V}{c:Wr}
theorem FP{lv:List V}{s:kU}{A B:Prop}(hz:s.length<=1000)(q:br (!(Nat.beq s.length 0)) A B):IM (eb me lv s r)[me.length+1]? λb=>br b A B:=rK ue (by rw[kW];exact aQ [_] (.c 1 (.v 0) (.n 1000) .nil) 0 (.v 0) (.n 10000) tt hz) (by rw[kW];exact q)
theorem qI(w6:Str)(l:kU):(lN w6 l).length=2*l.length:=by
 induction l with
 |nil=>rfl
 |cons p l T=>refine(?_ :(lN w6 l).length+1+1=_);rw[T,aJ];exact fC [_] .nil 0 (.a (.a (.m 2 (.v 0)) (.n 1)) (.n 1)) (.m 2 (.a (.v 0) (.n 1))) tt tt
noncomputable def Em:ad Fl:=L2 λM=>∀{me r:List O}{lv:List V}{s:kU}{p:Option Bool×Lc}{x0:Option V}{f:List (Option V)}{ce Q},lv.length<=900->s.length<=1000->
 br (!(Nat.beq s.length 0)) (Q .next ⟨x0::some (.loc me.length)::some (.loc (me.length+1))::f,ce,eb me ((lv++[V.loc (me.length+2+r.length)])++[V.loc (me.length+2+(r++[O.tup (w7 (.en p.1 p.2))]).length)]) s ((r++[O.tup (w7 (.en p.1 p.2))])++[O.tup (w7 (.da 0 " "))])⟩)
 (Q .next ⟨x0::some (.loc me.length)::some (.loc (me.length+1))::f,ce,eb me (lv++[V.loc (me.length+2+r.length)]) s (r++[O.tup (w7 (.en p.1 p.2))])⟩)->
 M ⟨x0::some (.loc me.length)::some (.loc (me.length+1))::f,ce,eb me lv (p::s) r⟩ Q
noncomputable def En:ad Fl:=L2 λM=>∀{me r:List O}{lv:List V}{s:kU}{es:List Ev}{c:Nat}{x0:Option V}{x4 x5:Option V}{r6:List (Option V)}{Q},lv.length<=800->s.length<=40->m9 (me.length+2) r lv es->
 (∀ku r' x4 x5,m9 (me.length+2) r' ku (es++m8 c s)->Q .next ⟨x0::some (.loc me.length)::some (.loc (me.length+1))::some (aO c)::x4::x5::r6,[],eb me ku (iV c s) r'⟩)->
 M ⟨x0::some (.loc me.length)::some (.loc (me.length+1))::some (aO c)::x4::x5::r6,[],eb me lv s r⟩ Q
theorem To{c:Nat}(h:c<3):∃k,vf ((" \n\t":Str).cps.toList) ((c:Nat):Int)=some k/\(⟨#[k]⟩:Str)=rS c:=by
 match c,h with
 |0,_=>exact⟨32,by decide+kernel,rfl⟩
 |1,_=>exact⟨10,by decide+kernel,rfl⟩
 |2,_=>exact⟨9,by decide+kernel,rfl⟩
theorem OK{c:Nat}(h:c<6):vf om ((c:Nat):Int)=some (.str (eR (fZ c).1 (fZ c).2)):=by
 match c,h with
 |0,_=>rfl
 |1,_=>rfl
 |2,_=>rfl
 |3,_=>rfl
 |4,_=>rfl
 |5,_=>rfl
theorem FQ{lv:List V}{s:kU}{lo:List (Option V)}{Q:V->St->Prop}(e:Ev)(B:xs=w7 e)(hz:lv.length<=1000)(q:Q .none ⟨lo,ce,eb me (lv++[V.loc (me.length+2+r.length)]) s (r++[O.tup (w7 e)])⟩):aA (dC (eb me lv s r++[O.tup xs]) (.loc me.length)) λp=>gd (bw p.2.length) (Q .none ⟨lo,ce,(eb me lv s r++[O.tup xs]).set p.1 (.list (p.2++[V.loc (eb me lv s r).length]))⟩):=by subst B;exact wK e hz q
def FR:ad Fl:=aV (ao (ao (dY 2) λb=>YS (λσ=>xb σ.mem b Ty.list) (ao (ao (ao (ao (c8 []) WF) λa=>ao (ao (dY 3) λa=>ao (eK (V.int 6)) (IL a)) (tP a)) λv=>ao (c8 []) (iY v)) (xN gE b))) lz)
  (aV (ao (ao (dY 1) λb=>YS (λσ=>xb σ.mem b Ty.list) (ao (ao (ao (ao (eK (V.str "start")) λv=>ao (ao (ao (dY 2) λa=>ao (eK (V.int (-1))) (tP a)) λv=>ao (ao (ao (ao (dY 3) λa=>ao (eK (V.int 6)) (pB a)) λa=>ao (eK (V.int 6)) (IL a)) λv=>ao (c8 []) (iY v)) (iY v)) (iY v)) pC) λv=>ao (c8 []) (iY v)) (xN gE b))) lz)
   (aV (ao (ao (dY 1) λb=>YS (λσ=>xb σ.mem b Ty.list) (ao (ao (ao (ao (eK (V.str "data")) λv=>ao (ao (ao (ao (dY 3) λa=>ao (eK (V.int 36)) (pB a)) λa=>ao (eK (V.int 6)) (IL a)) λv=>ao (ao (dY 4) λv=>ao (c8 []) (iY v)) (iY v)) (iY v)) pC) λv=>ao (c8 []) (iY v)) (xN gE b))) lz)
    (c8 Fl.next)))
theorem dm(c a b:Nat):Int.fmod (Int.fdiv ((c:Nat):Int) ((a:Nat):Int)) ((b:Nat):Int)=((c / a % b:Nat):Int):=by rw[rR];exact oF _ b
theorem OL{lv:List V}{s:kU}{c:Nat}{x5:Option V}(hz:lv.length<=900)(M:s.length<=50)(he:m9 (me.length+2) r lv es)(h:∀ku r',m9 (me.length+2) r' ku (es++[.st (fZ (c % 6)).1 (fZ (c % 6)).2 (c / 6 % 6),.da (c / 36 % 6) (rS m)])->Q .next ⟨x0::some (.loc me.length)::some (.loc (me.length+1))::some (aO c)::some (.str (rS m))::x5::r6,[],eb me ku (fZ (c % 6)::s) r'⟩):FR ⟨x0::some (.loc me.length)::some (.loc (me.length+1))::some (aO c)::some (.str (rS m))::x5::r6,[],eb me lv s r⟩ Q:=by have L:Int.fmod ((c:Nat):Int) 6=((c % 6:Nat):Int):=oF c 6;refine b_ (bk ue) ?_;refine λ_ E=>E ?_;refine bJ aR (by rw[L];exact OK (eD _ (by decide))) ?_;refine lC (ac ue) (by rw[kW];exact aQ [_] (.c 1 (.v 0) (.n 50) .nil) 0 (.v 0) (.n 10000) tt M) (by rw[Ei,<-tH,FO]) ?_;refine b_ (bk wJ) ?_;refine bJ (by rw[<-tH];exact ue) (ow (by rw[kW];exact aQ [_] (.c 1 (.v 0) (.n 50) .nil) 0 (.v 0) (.n 1000) tt M)) ?_;refine FQ (.st (fZ (c % 6)).1 (fZ (c % 6)).2 (c / 6 % 6)) (by refine ag (λx=>[V.str "start",_,V.int x]) ?_;exact dm c 6 6) (am hz (by decide)) ?_;refine b_ (bk wJ) ?_;refine FQ (.da (c / 36 % 6) (rS m)) (by refine ag (λx=>[V.str "data",V.int x,_]) ?_;exact dm c 36 6) (by rw[ak];exact am (dQ hz 1) (by decide)) ?_;refine h _ _ ?_;have:=(((he.more [O.list om]).add (.st (fZ (c % 6)).1 (fZ (c % 6)).2 (c / 6 % 6))).add (.da (c / 36 % 6) (rS m)));rw[show ∀(a b:Ev),(es++[a])++[b]=es++[a,b] from λa b=>by simp] at this;exact this
theorem Lu{o:Option O}{a b c:Int}{K:(Int×Int×Int)->Prop}{B:Int->Int->Int->Bool}(h:o=some (.rng a b c))(M:B a b c=true)(q:K (a,b,c)):aA (AO o) λp=>gd (B p.1 p.2.1 p.2.2) (K p):=by subst h;exact b_ M q
theorem zH{lo:List (Option V)}{l n:Nat}{As:V->ad Unit}{Wb:ad Fl}(h:me[l]?=some (.rng 0 ((n:Nat):Int) 1))(hn:n<=10000)(f:Nat)(q:gu (gD 0 ((n:Nat):Int) 1) As Wb f 0 ⟨lo,ce,me⟩ Q):J_ As Wb (.loc l) ⟨lo,ce,me⟩ Q:=by refine av rfl ?_;exact Lu h (uf hn) ⟨f,q⟩
def Tp:ad Fl:=ao (ao (ao (ao (ao (dY 3) λa=>ao (eK (V.int 648)) (pB a)) λa=>ao (ao (ao (dY 2) λv=>ao (c8 []) (iY v)) Vk) (IL a)) λv=>ao (c8 []) (iY v)) ES) (J_ (du 5) Ej)
theorem Lv{lv:List V}{s:kU}{c n0:Nat}{w6:Str}{y:Option V}(Y7:s.length=n0+1)(hz:lv.length<=800)(M:s.length<=40)(he:m9 (me.length+2) r lv es)(h:∀ku r' y,m9 (me.length+2) r' ku (es++lN w6 (s.take (dZ c s)))->Q .next ⟨x0::some (.loc me.length)::some (.loc (me.length+1))::some (aO c)::some (.str w6)::y::r6,[],eb me ku (s.drop (dZ c s)) r'⟩):Tp ⟨x0::some (.loc me.length)::some (.loc (me.length+1))::some (aO c)::some (.str w6)::y::r6,[],eb me lv s r⟩ Q:=by have dP:dZ c s<s.length:=eD _ (aQ [_,_] (.f 1 (.v 0) (.a (.v 1) (.n 1)) .nil) 0 (.a (.n 0) (.n 1)) (.v 0) tt Y7);refine eJ ue (by rw[kW];exact aQ [_] (.c 1 (.v 0) (.n 40) .nil) 0 (.v 0) (.n 10000) tt M) ?_;rw[kW];refine b_ (by rw[Y7];rfl) ?_;have abG:Int.fmod (Int.fdiv ((c:Nat):Int) 648) ((s.length:Nat):Int)=((dZ c s:Nat):Int):=dm c 648 s.length;refine zH (by rw[aR,abG]) (am (eU dP) (am M (by decide))) (dZ c s+1) ?_;have:=El (dZ c s) 0 s lv (r++[O.rng 0 (Int.fmod (Int.fdiv ((c:Nat):Int) 648) ((s.length:Nat):Int)) 1]) es y (eB _) (eU dP) (am M (by decide)) (by exact aQ [_,_,_] (.c 1 (.v 0) (.n 800) (.c 2 (.a (.v 1) (.n 1)) (.v 2) (.c 2 (.v 2) (.n 40) .nil))) 0 (.a (.v 0) (.m 2 (.v 1))) (.n 900) tt hz dP M) (he.more _) h;rw[<-Ei] at this;exact this
section
theorem Tq(U:cD P g):NB g (OI P) k (sd (cB (bh (KK P) 245) 3)) Em:=by have H:=OJ P;refine NB.c (NB.at' rfl (by exact(ab (c5 (bZ .list bD cJ b0 bB (ai H 1 rfl) (ae (nF (ae bz (ae (bZ .list bD kE j4 pE (ai H 2 rfl) ay) (ae bv ay)))) ay))) (ab (il (a7 (ai H 2 rfl)) (ab (c5 (bZ .list bD cJ b0 bB (ai H 1 rfl) (ae (nF (ae bz (ae bv (ae bz ay)))) ay))) aC) aC) aC)))) ?_;refine qB (@λme r lv s p x0 f ce Q hz M h=>?_);refine b_ (bk wJ) ?_;refine b_ (bk ue) ?_;refine Lq M ?_;refine wK (.en p.1 p.2) (am hz (by decide)) ?_;refine FP M ?_;refine rC h (λh=>?_) id;refine b_ (bk wJ) ?_;refine wK (.da 0 " ") (by rw[ak];exact am (dQ hz 1) (by decide)) ?_;exact h
theorem Tr(U:cD P g):NB g (OI P) (k+1) (sd (cB (bh (KK P) 245) 2)) En:=by
 have H:=OJ P;refine NB.c (NB.at' rfl (by exact(ab (aP H 4 rfl (eP bz (cZ ml (cZ eF (ai H 3 rfl) bv) bv))) (ab (il (a7 (ai H 2 rfl)) (ab (tg (b7 (λ_ _ _=>fX) mP (bG U H 0 1 rfl rfl (by kernel_rfl)) (ae (cZ ml (cZ eF (ai H 3 rfl) bv) (b7 (λ_ _ _=>aX) eX (bG U H 1 2 rfl rfl (by kernel_rfl)) (ae (ai H 2 rfl) ay))) ay)) (b8 H 5 rfl) (Tm U) (z:=by intro _ _;rfl)) aC) aC) (ab (c5 (bZ .list bD cJ b0 bB (ai H 2 rfl) (ae (eP (b7 (g8 U (by kernel_rfl)) (Fo U).ok (k5 U H 2 1 rfl rfl) ay) (cZ ml (ai H 3 rfl) bv)) ay))) (ab (c5 (bZ .list bD cJ b0 bB (ai H 1 rfl) (ae (nF (ae bz (ae (eP (ai H 2 rfl) HB) (ae (cZ ml (cZ eF (ai H 3 rfl) bv) bv) ay)))) ay))) (ab (c5 (bZ .list bD cJ b0 bB (ai H 1 rfl) (ae (nF (ae bz (ae (cZ ml (cZ eF (ai H 3 rfl) bv) bv) (ae (ai H 4 rfl) ay)))) ay))) aC))))))) ?_;refine qB (@λme r lv s es c x0 x4 x5 r6 Q hz M he h=>?_);refine bx (To (c:=c / 216 % 3) (eD _ (by decide))) λW e1 e2=>?_;have e3:Int.fmod (Int.fdiv ((c:Nat):Int) 216) 3=((c / 216 % 3:Nat):Int):=by rw[show(216:Int)=((216:Nat):Int) from rfl,rR];exact oF _ 3
 refine av (by rw[e3];exact e1) ?_;rw[e2];have fin:∀(y:Option V)(ku:List V)(r':List O)(s':kU),iV c s=fZ (c % 6)::s'->s'.length<=50->ku.length<=900->m9 (me.length+2) r' ku (es++lN (rS (c / 216 % 3)) (s.take (dZ c s)))->FR ⟨x0::some (.loc me.length)::some (.loc (me.length+1))::some (aO c)::some (.str (rS (c / 216 % 3)))::y::r6,[],eb me ku s' r'⟩ Q:=λy ku r' s' N j L D=>
  OL L j D λXu d OM=>by rw[au] at OM;rw[<-N];exact h Xu d _ _ OM
 refine FP (am M (by decide)) ?_;refine bu (λeb=>?_) (λeb=>?_)
 ·have Y7:s.length=(s.length-1)+1:=by
   cases Y:s.length with
   |zero=>rw[Y] at eb;exact nB eb
   |succ n=>rfl
  refine Lv Y7 hz M he λku r' y D=>?_;refine fin y ku r' (s.drop (dZ c s)) rfl (by rw[cb];exact am (Nat.sub_le _ _) (am M (by decide))) ?_ D;have h1:=D.len;have h2:=he.len;rw[ak,qI,jA] at h1;have:=l9 (dZ c s) s.length;exact aQ [_,_,_,_,_] (.e 1 (.v 0) (.a (.v 1) (.m 2 (.v 2))) (.f 1 (.v 3) (.v 1) (.c 1 (.v 3) (.n 800) (.c 2 (.v 2) (.v 4) (.c 2 (.v 4) (.n 40) .nil))))) 0 (.v 0) (.n 900) tt h1 h2 hz this M
 ·have hs0:s=[]:=by
   cases s with
   |nil=>rfl
   |cons p s=>exact Ab eb
  subst hs0;exact fin x5 lv r [] (by unfold iV;rw[pw]) (aW _) (am hz (by decide)) (by rw[List.take_nil];exact(aS es).symm▸he)
end
noncomputable def abI:List V->ad V:=L3 λM=>∀{l:Nat}{cs:List Nat}{lo ce Q}{me:List O},me[l]?=some (.list (cs.map aO))->cs.length=4->(∀lv r,m9 (me.length+2) r lv (evs cs [])->Q (.loc me.length) ⟨lo,ce,eb me lv [] r⟩)->M [.loc l] ⟨lo,ce,me⟩ Q
theorem Lw{f:List (Option V)}:∀(s:kU)(lv:List V)(r:List O)(es:List Ev),lv.length+2*s.length<=900->m9 (me.length+2) r lv es-> (∀ku r',m9 (me.length+2) r' ku (es++ny s)->Q .next ⟨x0::some (.loc me.length)::some (.loc (me.length+1))::f,[],eb me ku [] r'⟩)-> mL (ao (dY 2) nL) Em (s.length+1) ⟨x0::some (.loc me.length)::some (.loc (me.length+1))::f,[],eb me lv s r⟩ Q:=λs=>by
 induction s with
 |nil=>intro lv r es _ he h;refine FP (aW _) ?_;exact h lv r ((aS es).symm▸he)
 |cons p s T=>
  intro lv r es hz he h;rw[aJ] at hz;refine FP (by rw[aJ];exact aQ [_,_] (.c 1 (.a (.v 0) (.m 2 (.a (.v 1) (.n 1)))) (.n 900) .nil) 0 (.a (.v 1) (.n 1)) (.n 1000) tt hz) ?_;refine λ_ E=>E (aQ [_,_] (.c 1 (.a (.v 0) (.m 2 (.a (.v 1) (.n 1)))) (.n 900) .nil) 0 (.v 0) (.n 900) tt hz) (aQ [_,_] (.c 1 (.a (.v 0) (.m 2 (.a (.v 1) (.n 1)))) (.n 900) .nil) 0 (.v 1) (.n 1000) tt hz) ?_;refine bu (λeb=>?_) (λeb=>?_)
  ·have e1:ny (p::s)=[.en p.1 p.2,.da 0 " "]++ny s:=by
    cases s with
    |nil=>exact nB eb
    |cons q s=>rfl
   rw[e1] at h;refine T _ _ ((es++[.en p.1 p.2])++[.da 0 " "]) (by rw[ak,ak];refine(?_ :lv.length+1+1+2*s.length<=900);exact aQ [_,_] (.c 1 (.a (.v 0) (.m 2 (.a (.v 1) (.n 1)))) (.n 900) .nil) 0 (.a (.a (.a (.v 0) (.n 1)) (.n 1)) (.m 2 (.v 1))) (.n 900) tt hz) ((he.add (.en p.1 p.2)).add (.da 0 " ")) λku r' D=>h ku r' ?_;rw[au,au] at D;exact D
  ·have hs0:s=[]:=by
    cases s with
    |nil=>rfl
    |cons p s=>exact Ab eb
   subst hs0;refine T _ _ (es++[.en p.1 p.2]) (by rw[ak];refine(?_ :lv.length+1+0<=900);exact aQ [_,_] (.c 1 (.a (.v 0) (.m 2 (.a (.v 1) (.n 1)))) (.n 900) .nil) 0 (.a (.a (.v 0) (.n 1)) (.n 0)) (.n 900) tt hz) (he.add (.en p.1 p.2)) λku r' D=>h ku r' ?_;rw[au] at D;exact D
theorem Id{l:Nat}{cs:List Nat}(h1:me[l]?=some (.list (cs.map aO))):∀(rs:List Nat)(i:Nat)(s:kU)(lv:List V)(r:List O)(es:List Ev)(x y z:Option V),cs.drop i=rs->i+rs.length<=20->s.length<=i->lv.length<=40*i->m9 (me.length+2) r lv es-> (∀s' ku r' uL x y z,m9 (me.length+2) r' ku uL->s'.length<=20->ku.length<=800->uL++ny s'=es++evs rs s->Q .next ⟨x0::some (.loc me.length)::some (.loc (me.length+1))::x::y::z::r6,[],eb me ku s' r'⟩)-> gu (bj l) (du 3) En (rs.length+1) i ⟨x0::some (.loc me.length)::some (.loc (me.length+1))::x::y::z::r6,[],eb me lv s r⟩ Q:=λrs=>by
 induction rs with
 |nil=>intro i s lv r es x y z hd hi M hz he h;have Hh:=hi;exact iP (ba (ac h1) (by rw[bi,drop_nil hd];rfl)) (h s lv r es x y z he (aQ [_,_,_] (.c 1 (.a (.v 0) (.v 1)) (.n 20) (.c 1 (.v 2) (.v 0) .nil)) 0 (.v 2) (.n 20) tt hi M) (aQ [_,_] (.c 1 (.v 0) (.m 40 (.v 1)) (.c 40 (.a (.v 1) (.n 0)) (.n 20) .nil)) 0 (.v 0) (.n 800) tt hz hi) rfl)
 |cons c rs T=>
  intro i s lv r es x y z hd hi M hz he h;refine xA (fD hd) λe1 e2=>?_;rw[aJ] at hi;refine fq (ba (ac h1) (by rw[bi,e1];rfl)) ?_;refine λ_ E=>E (aQ [_,_,_] (.c 1 (.v 0) (.m 40 (.v 1)) (.c 40 (.a (.v 1) (.a (.v 2) (.n 1))) (.n 20) .nil)) 0 (.v 0) (.n 800) tt hz hi) (aQ [_,_,_] (.c 1 (.a (.v 0) (.a (.v 1) (.n 1))) (.n 20) (.c 1 (.v 2) (.v 0) .nil)) 0 (.v 2) (.n 40) tt hi M) he λku r' x4 x5 D=>?_;have j:=D.len;have Z:=he.len;have hc:=qI (rS (c / 216 % 3)) (s.take (dZ c s));rw[jA] at hc;rw[ak,show(m8 c s).length=(lN (rS (c / 216 % 3)) (s.take (dZ c s))).length+2 from ak,hc] at j;have:=l9 (dZ c s) s.length;refine T (i+1) (iV c s) ku r' (es++m8 c s) _ _ _ e2 (aQ [_,_] (.c 1 (.a (.v 0) (.a (.v 1) (.n 1))) (.n 20) .nil) 0 (.a (.a (.v 0) (.n 1)) (.v 1)) (.n 20) tt hi) ?_ (by exact aQ [_,_,_,_,_,_,_] (.e 1 (.v 0) (.a (.v 1) (.a (.m 2 (.v 2)) (.n 2))) (.f 1 (.v 3) (.v 1) (.c 1 (.v 3) (.m 40 (.v 4)) (.c 2 (.v 2) (.v 5) (.c 2 (.v 5) (.v 4) (.c 2 (.a (.v 4) (.a (.v 6) (.n 1))) (.n 20) .nil)))))) 0 (.v 0) (.m 40 (.a (.v 4) (.n 1))) tt j Z hz this M hi) D λs' Xu d uL x y z X a2 a3 a4=>h s' Xu d uL x y z X a2 a3 ?_
  ·refine(?_ :(s.drop (dZ c s)).length+1<=_);rw[cb];exact lG (λq1 q2=>aQ [_,_,_,_] (.c 1 (.v 0) (.v 1) (.e 1 (.a (.v 2) (.v 3)) (.v 0) .nil)) 0 (.a (.v 2) (.n 1)) (.a (.v 1) (.n 1)) tt M q2) (λq1 q2=>aQ [_,_] (.e 1 (.v 0) (.n 0) .nil) 0 (.a (.v 0) (.n 1)) (.a (.v 1) (.n 1)) tt q2)
  ·rw[a4,au];rfl
section
theorem ON(U:cD P g):cO g (k+2) (.ref 245) abI:=by have H:=OJ P;refine lB U H (NB.at rfl (by exact(ab (aP H 1 rfl (eG ay)) (ab (aP H 2 rfl (eG ay)) (ab (mA (ai H 0 rfl) (b8 H 3 rfl) (Tr U)) (ab (yS (a7 (ai H 2 rfl)) (Tq U)) (ab (cP (ai H 1 rfl)) aC))))))) [] [] (λ_=>.nil) rfl (by kernel_rfl) (λa S=>rfl) ?_;refine k6 (@λl cs lo ce Q me h1 Z h=>?_);refine⟨_,rfl,?_⟩;refine pQ ?_;refine(?_ :∃m,gu (bj l) (du 3) En m 0 ⟨[some (.loc l),some (.loc me.length),some (.loc (me++[O.list []]).length),none,none,none,none],[],(me++[O.list []])++[O.list []]⟩ (sS (aV (J9 (ao (dY 2) nL) Em) (aV (ao (dY 1) wc) (c8 .next))) λfl a9=>Q (nV fl) ⟨lo,ce,a9.mem⟩));rw[show(me++[O.list []]).length=me.length+1 from ak,show(me++[O.list []])++[O.list []]=eb me [] [] [] from tB];refine⟨cs.length+1,Id h1 cs 0 [] [] [] [] none none none rfl (by rw[Z];decide) (aW _) (aW _) .nil λs' ku r' uL x y z he M hz e=>?_⟩;refine⟨s'.length+1,Lw s' ku r' uL (aQ [_,_] (.c 2 (.v 0) (.n 20) (.c 1 (.v 1) (.n 800) .nil)) 0 (.a (.v 1) (.m 2 (.v 0))) (.n 900) tt M hz) he λXu d OM=>h Xu d ?_⟩;rw[e] at OM;exact OM
end
structure Pg where
 s:kU
 pc:List Str
 da:List Str
 seen:Bool
 dD:Nat
noncomputable def g9:kU->List (Option Bool)
 | []=>[]
 |p::s=>g9 s++[lM (g9 s) p.1]
noncomputable def fw:List Str:=["","1","<\"","\t\n","\\",">\\ &"]
noncomputable def cX:List Str:=["","x","a&b","\"a <\"","\\\"\r",">\\ p"]
noncomputable def oG(m:Nat):Option Str:=bif Nat.beq m 0 then none else fw[m]?
noncomputable def Lx(ex:Option (List Str))(dD:Nat)(x:Str):Bool:=match ex with
 |none=>false
 |some xs=>!(Nat.beq dD 0)||dN x xs
noncomputable def fl(p:Pg):List Str:=bif !(Nat.beq (dE p.da).length 0)&&p.seen then p.pc++[m4 (dE p.da)] else p.pc
noncomputable def OO(w:Nat)(g:Str):Str:=bif Nat.beq w 0 then g else g++((cX[w]?).getD "")++g
noncomputable def cC(D:cR)(p:Pg):Ev->Pg
 | .st o l m=>bif Lx D.ex p.dD (eR o l) then {p with dD:=p.dD+1} else {p with s:=(o,l)::p.s,pc:=((fl p++[("<":Str)++bY D o l])++BS (kT D (g9 p.s) o (oG m)))++[(">":Str)],da:=[],seen:=true}
 | .en o l=>bif Nat.beq p.dD 0 then {p with s:=p.s.tail,pc:=fl p++[mE (bY D o l)],da:=[]} else {p with dD:=p.dD-1}
 | .da w g=>bif Nat.beq p.dD 0 then {p with da:=p.da++[OO w g]} else p
def Ly(p:Pg):Ev->Prop
 | .st o l m=>l≠ .k/\m<6/\p.s.length<=8
 | .en o l=>p.dD=0->∃s',p.s=(o,l)::s'
 | .da w g=>w<6/\g.length<=1
structure OP(n:Nat)(p:Pg):Prop where
 da:p.da.length<=n
 tot:k7 p.da<=10*n
 pc:p.pc.length<=10*n
 s:p.s.length<=10
structure m_(D:cR)(N:Nat)(p:Pg)(c:Wr)(r:List O):Prop where
 W:xf D N c (g9 p.s) r
 pc:c.pc=p.pc
 da:c.da=p.da
 seen:c.seen=p.seen
 dD:c.dD=(p.dD:Int)
 dc:c.dc.length=p.s.length
 nz:c.nz.length=p.s.length
 pr:c.pr=p.s.length
theorem rW(s:kU):(g9 s).length=s.length:=by
 induction s with
 |nil=>rfl
 |cons p s T=>exact List.length_append.trans (by rw[T];rfl)
theorem m_.win{n:Nat}{p:Pg}(h:m_ D N p c r)(b:OP n p)(hn:n<=100):Xa c:=⟨by rw[h.da];exact am b.da (aQ [_] (.c 1 (.v 0) (.n 100) .nil) 0 (.v 0) (.n 1000) tt hn),by rw[h.da];exact am b.tot (by omega),by rw[h.pc];exact am b.pc (by omega),by rw[h.pr];exact am b.s (by decide)⟩
theorem m_.fl{p:Pg}(h:m_ D N p c r):(bp c).pc=fl p:=by unfold bp Mine.fl;dsimp only;rw[h.da,h.seen,h.pc]
theorem zI(n:Nat):(((n:Nat):Int)==0)=Nat.beq n 0:=by cases n<;>rfl
theorem m_.ig{p:Pg}(h:m_ D N p c r):(c.dD==0)=Nat.beq p.dD 0:=by rw[h.dD];exact zI _
theorem m_.sk{p:Pg}(h:m_ D N p c r)(x:Str):SR D c x=Lx D.ex p.dD x:=by
 unfold SR Lx;cases D.ex with
 |none=>rfl
 |some xs=>exact ag (λb=>!b||dN x xs) h.ig
theorem Ts(o:Option Bool)(s:kU)(l:Lc):∀x,o=some x->o∈g9 ((o,l)::s):=by
 rintro x rfl;refine(?_ :some x∈g9 s++[bif (g9 s).contains (some x) then none else some x]);cases e:(g9 s).contains (some x) with
 |true=>exact fH _ (List.contains_iff_mem.mp e)
 |false=>exact oS _ (List.mem_singleton.mpr rfl)
theorem Qf{α:Type}{xs:List α}{n:Nat}(h:xs.length=n+1):∃d j,xs=d++[j]/\d.length=n:=by
 rcases List.eq_nil_or_concat xs with rfl|⟨d,j,rfl⟩
 ·cases h
 ·exact⟨d,j,by simp,by simpa using h⟩
theorem m_.st{i j:Nat}{p:Pg}(h:m_ D N p c r)(M:Lx D.ex p.dD (eR o l)=false)(Z:p.s.length<=8)(T:nH D N c (cF (m5 c j) (bY D o l) (kT D (g9 p.s) o (oG m)) i) (g9 p.s++[lM (g9 p.s) o]) r r'):m_ D N (cC D p (.st o l m)) (cF (m5 c j) (bY D o l) (kT D (g9 p.s) o (oG m)) i) r':=by
 have e:cC D p (.st o l m)={p with s:=(o,l)::p.s,pc:=((Mine.fl p++[("<":Str)++bY D o l])++BS (kT D (g9 p.s) o (oG m)))++[(">":Str)],da:=[],seen:=true}:=by refine(?_ :(bif Lx D.ex p.dD (eR o l) then _ else _)=_);rw[M];rfl
 rw[e];have Qg:=h.nz;refine⟨⟨h.W.ok,T.R,by refine(?_ :(g9 p.s++[lM (g9 p.s) o]).length<=10);rw[ak,rW];exact dQ (am Z (by decide)) 1,?_⟩,?_,rfl,rfl,h.dD,?_,?_,?_⟩
 ·refine(?_ :(c.nz++[i]).length<=100);rw[ak,Qg];refine(?_ :_+1<=100);exact aQ [_] (.c 1 (.v 0) (.n 8) .nil) 0 (.a (.v 0) (.n 1)) (.n 100) tt Z
 ·refine(?_ :(((bp c).pc++_)++_)++_=_);rw[h.fl]
 ·refine(?_ :(c.dc++[j]).length=_);rw[ak,h.dc];rfl
 ·refine(?_ :(c.nz++[i]).length=_);rw[ak,h.nz];rfl
 ·exact ag (· +1) h.pr
theorem m_.en{p:Pg}{s':kU}{d0 z0:List Nat}{dn:Bool}{j i:Nat}(h:m_ D N p c r)(M:p.s=(o,l)::s')(hi:p.dD=0)(hd:c.dc=d0++[j])(hn:c.nz=z0++[i])(R:RR D N (tD c (bY D o l) d0 z0 s'.length dn) (g9 s') r'):m_ D N (cC D p (.en o l)) (tD c (bY D o l) d0 z0 s'.length dn) r':=by
 have e:cC D p (.en o l)={p with s:=p.s.tail,pc:=Mine.fl p++[mE (bY D o l)],da:=[]}:=by refine(?_ :(bif Nat.beq p.dD 0 then _ else _)=_);rw[hi];rfl
 rw[e,M];have Qg:=h.nz;have UL:=h.dc;have d:=h.W.lv;rw[rW] at d;rw[M,aJ] at Qg UL d;rw[hn,ak] at Qg;rw[hd,ak] at UL;have h1:=fV Qg;refine⟨⟨h.W.ok,R,by refine(?_ :(g9 s').length<=10);rw[rW];exact aQ [_] (.c 1 (.a (.v 0) (.n 1)) (.n 10) .nil) 0 (.v 0) (.n 10) tt d,by refine(?_ :z0.length<=100);exact aQ [_,_] (.c 1 (.a (.v 0) (.n 1)) (.n 10) (.e 1 (.v 1) (.v 0) .nil)) 0 (.v 1) (.n 100) tt d h1⟩,?_,rfl,h.seen,h.dD,fV UL,h1,rfl⟩;refine(?_ :(bp c).pc++_=_);rw[h.fl]
noncomputable def Y8(x0 x1 x2 x3 x6:Option V)(s d:Nat)(w:V)(xs:List V)(r:List (Option V)):List (Option V):=x0::x1::x2::x3::some (.loc (s+2))::some (.loc (d+2))::x6::some w::(xs.map some++r)
noncomputable def zJ:ad Fl:=L2 λM=>∀{D:cR}{t0:O}{b:Bool}{b2 r:List O}{c:Wr}{p:Pg}{n s d:Nat}{e:Ev}{x0 x1 x2 x3 x6:Option V}{MJ:List (Option V)}{Q},m_ D (D.N (bs t0 b b2).length) p c r->OP n p->n<=100->Ly p e->(∀xs,D.ex=some xs->xs.length<=30)->b2[s]?=some (.list (fw.map .str))->b2[d]?=some (.list (cX.map .str))->
 (∀b' c' r',m_ D (D.N (bs t0 b' b2).length) (cC D p e) c' r'->Q .next ⟨Y8 x0 x1 x2 x3 x6 s d (bW (bs t0 b' b2)) (w7 e) MJ,[],mm D (bs t0 b' b2) c' r'⟩)->
 M ⟨Y8 x0 x1 x2 x3 x6 s d (bW (bs t0 b b2)) (w7 e) MJ,[],mm D (bs t0 b b2) c r⟩ Q
theorem Lz(m:Nat)(v:Str)(e:oG m=some v):v.length<=10:=by
 unfold oG at e;have hv:v∈fw:=by
  cases m with
  |zero=>exact nS e
  |succ m=>exact eg e
 exact(by decide+kernel:∀x∈fw,x.length<=10) v hv
theorem nH.less{c':Wr}{ku:List (Option Bool)}{xs:List O}(T:nH D N c c' ku (r++xs) r'):nH D N c c' ku r r':=⟨T.R,λj o h n=>T.keep j o (ac h) n,am (by rw[ak];exact gT _ _) T.le⟩
theorem xf.dD{lv:List (Option Bool)}(W:xf D N c lv r)(i:Int):xf D N {c with dD:=i} lv r:=⟨W.ok,W.R.wr rfl rfl,W.lv,W.nz⟩
section
noncomputable abbrev Xv (P:Params):df:=fc (KK P) 257 ["events","one","two","left_out","values","texts","pieces","writer","kind","what","more"] []
theorem Xw(P:Params):cc (Xv P) ["C14NWriterTarget","_law_walk"] .cell:=ip (by kernel_rfl)
theorem Tt(U:cD P g):NB g (Xv P) (k+5) (sd (cB (bh (KK P) 257) 7)) zJ:=by
 have H:=Xw P;refine NB.c (NB.at' rfl (by exact(ab (il (aN gr (ai H 8 rfl) bz) (ab (c5 (iO U (cA U) (by kernel_rfl) (by kernel_rfl) (by kernel_rfl) (Ot U).ok (ai H 7 rfl) (ae (ai H 9 rfl) (ae (iJ (a7 (ai H 10 rfl)) (Sw (yV bz (eP (ai H 4 rfl) (ai H 10 rfl)) Km)) DF) ay)))) aC) (ab (il (aN gr (ai H 8 rfl) bz) (ab (c5 (iO U (cA U) (by kernel_rfl) (by kernel_rfl) (by kernel_rfl) (Ou U).ok (ai H 7 rfl) (ae (ai H 9 rfl) ay))) aC) (ab (c5 (iO U (cA U) (by kernel_rfl) (by kernel_rfl) (by kernel_rfl) (SD U).ok (ai H 7 rfl) (ae (iJ (a7 (ai H 9 rfl)) (cZ gb (cZ gb (ai H 10 rfl) (eP (ai H 5 rfl) (ai H 9 rfl))) (ai H 10 rfl)) (ai H 10 rfl)) ay))) aC)) aC)) aC))) ?_;refine qB (@λD t0 b b2 r c p n s d e x0 x1 x2 x3 x6 MJ Q hp hb hn he B hv ht h=>?_);have hI:=hp.win hb hn;cases e with
 |st o l m=>
  refine u6 he λZ hm M=>?_;try clear he
  refine on D (bs t0 b b2) c r (by kernel_rfl) ?_;have fin:Xb [bW (bs t0 b b2),.str (eR o l),.loc (D.N (bs t0 b b2).length+r.length)] ⟨Y8 x0 x1 x2 x3 x6 s d (bW (bs t0 b b2)) [.str "start",.str (eR o l),aO m] MJ,[],mm D (bs t0 b b2) c (r++[.dict (HV (oG m))])⟩ λ_ σ=>Q .next σ:=by
   refine λ_ E=>E (hp.W.more _) (by rw[rW];exact am M (by decide)) hI Z aR (λv e=>?_) B ?_
   ·exact Lz m v e
   ·rw[hp.sk];refine bu (λe=>?_) (λe=>?_)
    ·have e2:cC D p (.st o l m)={p with dD:=p.dD+1}:=by refine(?_ :(bif Lx D.ex p.dD (eR o l) then _ else _)=_);rw[e];rfl
     refine h b _ (r++[.dict (HV (oG m))]) ?_;rw[e2];exact⟨(hp.W.dD _).more _,hp.pc,hp.da,hp.seen,ag (· +1) hp.dD,hp.dc,hp.nz,hp.pr⟩
    ·exact λr' i T=>h true _ r' (hp.st e M (nH.less T))
  have e1:∀xs,mm D (bs t0 b b2) c (r++xs)=mm D (bs t0 b b2) c r++xs:=λxs=>c_.symm;have e2:D.N (bs t0 b b2).length+r.length=(mm D (bs t0 b b2) c r).length:=ft.symm;rw[e1,e2] at fin;cases m with
  |zero=>exact fin
  |succ m=>obtain⟨v,C⟩:∃v,fw[m+1]?=some v:=⟨_,bC hm⟩;rw[show oG (m+1)=some v from C] at fin;refine bJ (ac (wv hv)) (jw (eU (fN hm (by decide))) (by rw[bi,C];rfl)) ?_;refine b_ (by rw[aR];rfl) ?_;rw[kQ];exact fin
 |en o l=>
  refine on D (bs t0 b b2) c r (by kernel_rfl) ?_;cases hi:Nat.beq p.dD 0 with
  |true=>have YE:=bK hi;refine xE (he YE) λs' M=>?_;have UL:=hp.dc;have Qg:=hp.nz;have J:=hp.W;rw[M,aJ] at UL Qg;rw[M] at J;refine dB (Qf UL) λd0 j ed _=>?_;refine dB (Qf Qg) λz0 i ez _=>?_;refine H6.mk J ed ez (by rw[hp.pr,M];rfl) (Ts o s' l) hI ?_;refine xQ (by rw[hp.ig,hi];rfl) ?_;exact λr' dn R=>h b _ r' (hp.en M YE ed ez R)
  |false=>
   refine H6.skip (by rw[hp.ig,hi]) (h b _ r ?_);have e2:cC D p (.en o l)={p with dD:=p.dD-1}:=by refine(?_ :(bif Nat.beq p.dD 0 then _ else _)=_);rw[hi];rfl
   rw[e2];refine⟨hp.W.dD _,hp.pc,hp.da,hp.seen,?_,hp.dc,hp.nz,hp.pr⟩;refine(?_ :c.dD-1=((p.dD-1:Nat):Int));rw[hp.dD];exact(Int.ofNat_sub (Nat.pos_of_ne_zero λe=>by rw[e] at hi;exact Ab hi)).symm
 |da w f=>
  refine xA he λhw K=>?_;try clear he
  refine on D (bs t0 b b2) c r (by kernel_rfl) ?_;have fin:W97 [bW (bs t0 b b2),.str (OO w f)] ⟨Y8 x0 x1 x2 x3 x6 s d (bW (bs t0 b b2)) [.str "data",aO w,.str f] MJ,[],mm D (bs t0 b b2) c r⟩ λ_ σ=>Q .next σ:=by
   refine λ_ E=>E hI.da ?_;rw[hp.ig];refine bu (λe=>h b _ r ?_) (λe=>h b c r ?_)
   ·have e2:cC D p (.da w f)={p with da:=p.da++[OO w f]}:=by refine(?_ :(bif Nat.beq p.dD 0 then _ else _)=_);rw[e];rfl
    rw[e2];exact⟨⟨hp.W.ok,hp.W.R.wr rfl rfl,hp.W.lv,hp.W.nz⟩,hp.pc,ag (· ++[OO w f]) hp.da,hp.seen,hp.dD,hp.dc,hp.nz,hp.pr⟩
   ·have e2:cC D p (.da w f)=p:=by refine(?_ :(bif Nat.beq p.dD 0 then _ else _)=_);rw[e];rfl
    rw[e2];exact hp
  cases w with
  |zero=>exact fin
  |succ w=>obtain⟨v,C⟩:∃v,cX[w+1]?=some v:=⟨_,bC hw⟩;have Y9:=(by decide+kernel:∀x∈cX,x.length<=10) v (eg C);rw[show OO (w+1) f=f++v++f by refine(?_ :f++((cX[w+1]?).getD "")++f=_);rw[C];rfl] at fin;refine bJ (wv ht) (jw (eU (fN hw (by decide))) (by rw[bi,C];rfl)) ?_;refine b_ (cU (aQ [_,_] (.c 1 (.v 0) (.n 1) (.c 1 (.v 1) (.n 10) .nil)) 0 (.a (.v 0) (.v 1)) (.n 16777216) tt K Y9)) ?_;refine b_ (cU (by rw[bH];exact aQ [_,_] (.c 2 (.v 0) (.n 1) (.c 1 (.v 1) (.n 10) .nil)) 0 (.a (.a (.v 0) (.v 1)) (.v 0)) (.n 16777216) tt K Y9)) ?_;exact fin
end
inductive kX(D:cR):Pg->List Ev->Prop
 |nil {p:Pg}:kX D p []
 |cons {p:Pg} {e:Ev} {es:List Ev}:Ly p e->kX D (cC D p e) es->kX D p (e::es)
theorem kX.inv{p:Pg}(h:kX D p (e::es)):Ly p e/\kX D (cC D p e) es:=by cases h with|cons a b=>exact⟨a,b⟩
theorem m9.inv(h:m9 N r vs (e::es)):∃t K,vs= .loc (N+t)::K/\r[t]?=some (.tup (w7 e))/\m9 N r K es:=by
 cases h with
 |cons a b=>exact bx a λt e1 e2=>⟨t,_,by rw[e1],e2,b⟩
theorem Xx(e:Ev):∃a b c,w7 e=[a,b,c]:=by cases e<;>exact⟨_,_,_,rfl⟩
theorem Tu(p:Pg):(fl p).length<=p.pc.length+1:=by
 unfold fl;cases !(Nat.beq (dE p.da).length 0)&&p.seen with
 |true=>rw[cT,ak];exact aF _
 |false=>exact eC _
theorem OQ(es:List (Str×Str)):(BS es).length<=1:=by unfold BS;cases es.isEmpty<;>exact aU rfl
theorem OS{w:Nat}{g:Str}(hw:w<6)(K:g.length<=1):(OO w g).length<=10:=by
 cases w with
 |zero=>exact am K (by decide)
 |succ w=>obtain⟨v,C⟩:∃v,cX[w+1]?=some v:=⟨_,bC hw⟩;have Y9:=(by decide+kernel:∀x∈cX,x.length<=8) v (eg C);refine(?_ :(g++((cX[w+1]?).getD "")++g).length<=10);rw[C,bH,bH];refine(?_ :g.length+v.length+g.length<=10);exact aQ [_,_] (.c 2 (.v 0) (.n 1) (.c 1 (.v 1) (.n 8) .nil)) 0 (.a (.a (.v 0) (.v 1)) (.v 0)) (.n 10) tt K Y9
theorem Ie(xs:List Str)(x:Str):k7 (xs++[x])=k7 xs+x.length:=by unfold k7;rw[fh,List.sum_append];simp
theorem OP.step{n:Nat}{p:Pg}(h:OP n p)(he:Ly p e):OP (n+1) (cC D p e):=by
 obtain⟨h1,h2,h3,h4⟩:=h;have S:=Tu p;cases e with
 |st o l m=>
  refine(?_ :OP (n+1) (bif Lx D.ex p.dD (eR o l) then _ else _));cases Lx D.ex p.dD (eR o l) with
  |true=>exact⟨by refine(?_ :p.da.length<=_);exact aQ [_,_] (.c 1 (.v 0) (.v 1) .nil) 0 (.v 0) (.a (.v 1) (.n 1)) tt h1,by refine(?_ :k7 p.da<=_);exact aQ [_,_] (.c 1 (.v 0) (.m 10 (.v 1)) .nil) 0 (.v 0) (.m 10 (.a (.v 1) (.n 1))) tt h2,by refine(?_ :p.pc.length<=_);exact aQ [_,_] (.c 1 (.v 0) (.m 10 (.v 1)) .nil) 0 (.v 0) (.m 10 (.a (.v 1) (.n 1))) tt h3,h4⟩
  |false=>
   refine⟨aW _,aW _,?_,?_⟩
   ·refine(?_ :(((fl p++[_])++BS (kT D (g9 p.s) o (oG m)))++[_]).length<=_);have:=OQ (kT D (g9 p.s) o (oG m));rw[ak,ak,ak];refine(?_ :(fl p).length+1+_+1<=_);exact aQ [_,_,_,_] (.c 1 (.v 0) (.m 10 (.v 1)) (.c 1 (.v 2) (.a (.v 0) (.n 1)) (.c 1 (.v 3) (.n 1) .nil))) 0 (.a (.a (.a (.v 2) (.n 1)) (.v 3)) (.n 1)) (.m 10 (.a (.v 1) (.n 1))) tt h3 S this
   ·refine(?_ :p.s.length+1<=10);have:=he.2.2;exact aQ [_] (.c 1 (.v 0) (.n 8) .nil) 0 (.a (.v 0) (.n 1)) (.n 10) tt this
 |en o l=>
  refine(?_ :OP (n+1) (bif Nat.beq p.dD 0 then _ else _));cases Nat.beq p.dD 0 with
  |true=>
   refine⟨aW _,aW _,?_,?_⟩
   ·refine(?_ :(fl p++[_]).length<=_);rw[ak];refine(?_ :(fl p).length+1<=_);exact aQ [_,_,_] (.c 1 (.v 0) (.m 10 (.v 1)) (.c 1 (.v 2) (.a (.v 0) (.n 1)) .nil)) 0 (.a (.v 2) (.n 1)) (.m 10 (.a (.v 1) (.n 1))) tt h3 S
   ·refine(?_ :p.s.tail.length<=10);rw[List.length_tail];exact lG (λq1 q2=>aQ [_,_] (.c 1 (.v 0) (.n 10) (.e 1 (.a (.v 1) (.n 1)) (.v 0) .nil)) 0 (.v 1) (.n 10) tt h4 q2) (λq1 q2=>aQ [_] (.e 1 (.v 0) (.n 0) .nil) 0 (.v 0) (.n 10) tt q2)
  |false=>exact⟨by refine(?_ :p.da.length<=_);exact aQ [_,_] (.c 1 (.v 0) (.v 1) .nil) 0 (.v 0) (.a (.v 1) (.n 1)) tt h1,by refine(?_ :k7 p.da<=_);exact aQ [_,_] (.c 1 (.v 0) (.m 10 (.v 1)) .nil) 0 (.v 0) (.m 10 (.a (.v 1) (.n 1))) tt h2,by refine(?_ :p.pc.length<=_);exact aQ [_,_] (.c 1 (.v 0) (.m 10 (.v 1)) .nil) 0 (.v 0) (.m 10 (.a (.v 1) (.n 1))) tt h3,h4⟩
 |da w g=>
  have hd:=OS he.1 he.2;refine(?_ :OP (n+1) (bif Nat.beq p.dD 0 then _ else _));cases Nat.beq p.dD 0 with
  |true=>exact⟨by refine(?_ :(p.da++[_]).length<=_);rw[ak];exact dQ h1 1,by refine(?_ :k7 (p.da++[_])<=_);rw[Ie];exact aQ [_,_,_] (.c 1 (.v 0) (.m 10 (.v 1)) (.c 1 (.v 2) (.n 10) .nil)) 0 (.a (.v 0) (.v 2)) (.m 10 (.a (.v 1) (.n 1))) tt h2 hd,by refine(?_ :p.pc.length<=_);exact aQ [_,_] (.c 1 (.v 0) (.m 10 (.v 1)) .nil) 0 (.v 0) (.m 10 (.a (.v 1) (.n 1))) tt h3,h4⟩
  |false=>exact⟨by refine(?_ :p.da.length<=_);exact aQ [_,_] (.c 1 (.v 0) (.v 1) .nil) 0 (.v 0) (.a (.v 1) (.n 1)) tt h1,by refine(?_ :k7 p.da<=_);exact aQ [_,_] (.c 1 (.v 0) (.m 10 (.v 1)) .nil) 0 (.v 0) (.m 10 (.a (.v 1) (.n 1))) tt h2,by refine(?_ :p.pc.length<=_);exact aQ [_,_] (.c 1 (.v 0) (.m 10 (.v 1)) .nil) 0 (.v 0) (.m 10 (.a (.v 1) (.n 1))) tt h3,h4⟩
theorem Ig{t0:O}{b2:List O}{je s d:Nat}{lv:List V}{x6:Option V}{MJ:List (Option V)}(B:∀xs,D.ex=some xs->xs.length<=30)(hv:b2[s]?=some (.list (fw.map .str)))(ht:b2[d]?=some (.list (cX.map .str)))(Z:b2[je]?=some (.list lv)):∀(es:List Ev)(vs:List V)(i n:Nat)(p:Pg)(b:Bool)(c:Wr)(r:List O)(y8 y9 y:Option V),lv.drop i=vs->m9 2 b2 vs es->n+es.length<=100->m_ D (D.N (bs t0 b b2).length) p c r->OP n p->kX D p es-> (∀b' c' r' y8 y9 y,m_ D (D.N (bs t0 b' b2).length) (es.foldl (cC D) p) c' r'->Q .next ⟨x0::x1::x2::x3::some (.loc (s+2))::some (.loc (d+2))::x6::some (bW (bs t0 b' b2))::y8::y9::y::MJ,[],mm D (bs t0 b' b2) c' r'⟩)-> gu (bj (je+2)) (we 3 (w3 (du 8) (w3 (du 9) (w3 (du 10) p4)))) zJ (es.length+1) i ⟨x0::x1::x2::x3::some (.loc (s+2))::some (.loc (d+2))::x6::some (bW (bs t0 b b2))::y8::y9::y::MJ,[],mm D (bs t0 b b2) c r⟩ Q:=λes=>by
 induction es with
 |nil=>intro vs i n p b c r y8 y9 y hd ha hn hp hb he h;exact iP (ba (wv (Z)) (drop_nil (hd.trans (by cases ha;rfl)))) (h b c r y8 y9 y hp)
 |cons e es T=>intro vs i n p b c r y8 y9 y hd ha hn hp hb he h;rw[aJ] at hn;refine d3 (m9.inv ha) λt K C I ha=>xA (fD (hd.trans C)) λM d2=>xA he.inv λTn OM=>Gw (Xx e) λu1 u2 u3 e3=>?_;refine fq (b:=.loc (2+t)) (ba (wv (Z)) M) ?_;refine av (o:=vk (mm D (bs t0 b b2) c r) (.loc (2+t))) (v:=[u1,u2,u3]) (gz (wv (by rw[gA,<-e3];exact I))) ?_;have q:=λh'=>(λ_ E=>E (D:=D) (t0:=t0) (b:=b) (x0:=x0) (x1:=x1) (x2:=x2) (x3:=x3) (x6:=x6) (MJ:=MJ) (Q:=QY (λσ=>gu (bj (je+2)) (we 3 (w3 (du 8) (w3 (du 9) (w3 (du 10) p4)))) zJ (es.length+1) (i+1) σ Q) Q) hp hb (aQ [_,_] (.c 1 (.a (.v 0) (.a (.v 1) (.n 1))) (.n 100) .nil) 0 (.v 0) (.n 100) tt hn) Tn B hv ht h':zJ _ _);rw[e3] at q;refine q λb' c' r' f=>?_;exact T K (i+1) (n+1) _ b' c' r' (some u1) (some u2) (some u3) d2 ha (aQ [_,_] (.c 1 (.a (.v 0) (.a (.v 1) (.n 1))) (.n 100) .nil) 0 (.a (.a (.v 0) (.n 1)) (.v 1)) (.n 100) tt hn) f (hb.step Tn) OM h
noncomputable def Ih:Pg:=⟨[],[],[],false,0⟩
noncomputable def uh(D:cR)(es:List Ev):List Str:=(es.foldl (cC D) Ih).pc
noncomputable def Xy:List V->ad V:=L3 λM=>∀{t0:O}{b:Bool}{b2:List O}{je jl:Nat}{es:List Ev}{lv:List V}{one two:Str}{xs:List Str}{lo ce Q},b2[je]?=some (.list lv)->m9 2 b2 lv es->b2[jl]?=some (.list (xs.map .str))->xs.length<=20->uD ⟨cN xs,one,two⟩->kX ⟨cN xs,one,two⟩ Ih es->es.length<=50->k7 (uh ⟨cN xs,one,two⟩ es)<=100000->
 (∀b' X,Q (.str (dE (uh ⟨cN xs,one,two⟩ es))) ⟨lo,ce,bs t0 b' (b2++X)⟩)->M [.loc (je+2),.str one,.str two,.loc (jl+2)] ⟨lo,ce,bs t0 b b2⟩ Q
theorem LA{xs:List Str}(h:xs.length<=20):∀I,cN xs=some I->I.length<=30:=by
 intro I e;cases xs with
 |nil=>exact nS e
 |cons x xs=>obtain rfl:=aq e;have:=tA (ts:=x::xs) (xs:=[]);rw[fL] at this;exact aQ [_,_] (.c 1 (.v 0) (.n 20) (.c 1 (.v 1) (.a (.n 0) (.v 0)) .nil)) 0 (.v 1) (.n 30) tt h this
theorem FS{C:Addr}{a:V}{d:Nat}{es:List (Str×V)}{n:Str}{K:Prop}(hi:d5 C me a=some (d,es))(e:eO n es=none)(q:K):aA (d5 C me a) λp=>gd (eO n p.2).isNone K:=av hi (by rw[e];exact q)
theorem Tv{base:List O}:k8 D (base++[O.list [],O.bP .tN [.fb (.builtin "list.append"),.loc base.length]]) base.length (mC D base.length P4) (Yn D base.length 2)=mm D base P4 []:=by unfold k8 im mm BJ;rw[aS,au];rfl
theorem Tw{B Z:List O}{es:List (Str×V)}{o:O}(w:B.length=b+2):(im B b es (o::Z))[b+4]?=some o:=by unfold im;rw[show b+4=B.length+2 by rw[w],bX];rfl
theorem FT{B:List O}{n:Nat}{p u:Str}{lo:List (Option V)}{Q:V->St->Prop}(w:B.length=b+2)(h3:(Yn D b n)[3]?=some (.list ([D.L b 12]++[D.L b 13])))(h13:(Yn D b n)[13]?=some (.list ([D.L b 16,D.L b 17].take n)))(G:((Yn D b n)++[O.tup [.str u,.str p]]).set 13 (.list ([D.L b 16,D.L b 17].take n++[D.L b (Yn D b n).length]))=Yn D b (n+1)) (q:Q .none ⟨lo,ce,k8 D B b (mC D b P4) (Yn D b (n+1))⟩):Xg [.loc (b+3),.str p,.str u] ⟨lo,ce,k8 D B b (mC D b P4) (Yn D b n)⟩ Q:=by refine λ_ E=>E (rM w) (by kernel_rfl) (by kernel_rfl) (Tw w) (by kernel_rfl) (tE w 3 h3) (aU rfl) (tE w 13 h13) (by rw[jA];exact am (l9 _ _) (aU rfl)) ?_;rw[gH,zp w,m6 w,show V.loc (D.A b (Yn D b n).length)=D.L b (Yn D b n).length from rfl,G];exact q
theorem dW(D:cR)(b:Nat):cQ "_iter_namespaces" (.fb (.ref 250)) (wG D b)=mC D b P4:=by kernel_rfl
section
theorem FU(U:cD P g):cO g (k+6) (.ref 257) Xy:=by
 have H:=Xw P;refine Fn U H (NB.at rfl (by exact(ab (aP H 4 rfl (eG (ae bz (ae bz (ae bz (ae bz (ae bz (ae bz ay)))))))) (ab (aP H 5 rfl (eG (ae bz (ae bz (ae bz (ae bz (ae bz (ae bz ay)))))))) (ab (aP H 6 rfl (eG ay)) (ab (aP H 7 rfl (Fi (g8 U (by kernel_rfl)) (S0 U) (k5 U H 0 11 rfl rfl) (BG rfl (ai H 6 rfl) (he:=by intro _;with_unfolding_all rfl)) (ai H 3 rfl) (T:=by intro _;rfl))) (ab (HL U (k5 U H 1 3 rfl rfl) (ai H 7 rfl) (hn:=by rfl) (M:=by intro _;rfl)) (ab (c5 (iO U (cA U) (by kernel_rfl) (by kernel_rfl) (by kernel_rfl) (FH U).ok (ai H 7 rfl) (ae (ai H 1 rfl) (ae bz ay)))) (ab (c5 (iO U (cA U) (by kernel_rfl) (by kernel_rfl) (by kernel_rfl) (FH U).ok (ai H 7 rfl) (ae (ai H 2 rfl) (ae bz ay)))) (ab (mA (ai H 0 rfl) (rz (dz (b8 H 8 rfl) (dz (b8 H 9 rfl) (dz (b8 H 10 rfl) lL)))) (Tt U)) (ab (cP (bZ .str kD PySem.F.slot_str_join PySem.F.type_str_join AS bz (ae (ai H 6 rfl) ay))) aC))))))))))) rfl (by kernel_rfl) (λa b c d S=>rfl) ?_;refine k6 (@λt0 b b2 je jl es lv one two xs lo ce Q h1 h2 h3 hz G he hn ht h=>?_);refine⟨_,_,_,_,rfl,?_⟩;refine pQ ?_;have z:(bs t0 b b2++[O.list (fw.map .str)])++[O.list (cX.map .str)]=bs t0 b (b2++[O.list (fw.map .str),O.list (cX.map .str)]):=tB;refine av (o:=dC (((bs t0 b b2++[O.list (fw.map .str)])++[O.list (cX.map .str)])++[O.list []]) (.loc ((bs t0 b b2++[O.list (fw.map .str)])++[O.list (cX.map .str)]).length)) (v:=(((bs t0 b b2++[O.list (fw.map .str)])++[O.list (cX.map .str)]).length,[])) (cW aR) ?_;refine(?_ :WMK (.loc (((bs t0 b b2++[O.list (fw.map .str)])++[O.list (cX.map .str)])++[O.list []]).length) (.loc (jl+2)) ⟨some (.loc (je+2))::some (.str one)::some (.str two)::some (.loc (jl+2))::some (.loc (bs t0 b b2).length)::some (.loc (bs t0 b b2++[O.list (fw.map .str)]).length)::some (.loc ((bs t0 b b2++[O.list (fw.map .str)])++[O.list (cX.map .str)]).length)::none::none::none::none::List.replicate 4 none,[],(((bs t0 b b2++[O.list (fw.map .str)])++[O.list (cX.map .str)])++[O.list []])++[O.bP .tN [.fb (.builtin "list.append"),.loc ((bs t0 b b2++[O.list (fw.map .str)])++[O.list (cX.map .str)]).length]]⟩ _);have e1:(bs t0 b b2).length=b2.length+2:=rfl;have e2:(bs t0 b b2++[O.list (fw.map .str)]).length=(b2.length+1)+2:=by rw[ak,e1];rfl
 rw[z,tB,show(bs t0 b (b2++[O.list (fw.map .str),O.list (cX.map .str)])++[O.list []]).length=(bs t0 b (b2++[O.list (fw.map .str),O.list (cX.map .str)])).length+1 from ak,e2,e1];have hv:(b2++[O.list (fw.map .str),O.list (cX.map .str)])[b2.length]?=some (.list (fw.map .str)):=aR;have m:(b2++[O.list (fw.map .str),O.list (cX.map .str)])[b2.length+1]?=some (.list (cX.map .str)):=gy;have Sh:=ac (t:=[O.list (fw.map .str),O.list (cX.map .str)]) h3;have hev:=ac (t:=[O.list (fw.map .str),O.list (cX.map .str)]) h1;have Iu:=h2.more [O.list (fw.map .str),O.list (cX.map .str)];have C:∀b' X,Q (.str (dE (uh ⟨cN xs,one,two⟩ es))) ⟨lo,ce,bs t0 b' ((b2++[O.list (fw.map .str),O.list (cX.map .str)])++X)⟩:=λb' X=>by rw[au];exact h b' _
 clear h z e1 e2 h3 h1 h2;revert hv m Sh hev Iu C;generalize b2.length=s;generalize b2++[O.list (fw.map .str),O.list (cX.map .str)]=b3;intro hv m Sh hev Iu C;have w:(bs t0 b b3++[O.list [],O.bP .tN [.fb (.builtin "list.append"),.loc (bs t0 b b3).length]]).length=(bs t0 b b3).length+2:=ak;refine λ_ E=>E (D:=⟨cN xs,one,two⟩) w (ac (Sh)) hz rfl ?_;refine pR w (by kernel_rfl) ?_;rw[dW];refine FS (rM w) (by kernel_rfl) ?_;refine FT w (by kernel_rfl) (by kernel_rfl) (by kernel_rfl) ?_;refine FS (rM w) (by kernel_rfl) ?_;refine FT w (by kernel_rfl) (by kernel_rfl) (by kernel_rfl) ?_;rw[Tv];have hp:m_ ⟨cN xs,one,two⟩ (cR.N ⟨cN xs,one,two⟩ (bs t0 b b3).length) Ih P4 []:=⟨⟨G,⟨.nil,(by intro j hj;cases hj),List.nodup_nil⟩,aW _,aW _⟩,rfl,rfl,rfl,rfl,rfl,rfl,rfl⟩;refine⟨es.length+1,Ig (LA hz) hv m hev es lv 0 0 Ih b P4 [] none none none rfl Iu (aQ [_] (.c 1 (.v 0) (.n 50) .nil) 0 (.a (.n 0) (.v 0)) (.n 100) tt hn) hp ⟨aW _,aW _,aW _,aW _⟩ he λb' c' r' y8 y9 y f=>?_⟩;have:=f.pc;refine Fx PW (by rw[this];exact ht) ?_;rw[this];exact C b' _
end
structure Rl where
 ws:List Str
 line:Nat
 op:List (Option Bool)
 sk:Nat
noncomputable def wM:Option Bool->Str
 |none=>""
 |some false=>"{u}"
 |some true=>"{v}"
noncomputable def eZ:List Str:=["","k=\"1\"","k=\"&lt;&quot;\"","k=\"&#x9;&#xA;\"","k=\"\"","k=\"> &amp;\""]
noncomputable def eN:List Str:=["","x","a&amp;b","a &lt;","\"&#xD;","&gt; p"]
noncomputable def qQ(D:cR):Option Bool->Lc->Str
 |none,l=>l.s
 |some s,l=>pf D s++":"++l.s
noncomputable def Tx(D:cR)(s:Bool):Str:="xmlns:"++pf D s++"=\""++nJ s++"\""
noncomputable def pU(D:cR)(op:List (Option Bool)):Option Bool->Lc->List Str
 |none,l=>["<"++qQ D none l]
 |some s,l=>bif op.contains (some s) then["<"++qQ D (some s) l] else["<"++qQ D (some s) l,Tx D s]
noncomputable def qJ(ts:List Str)(m:Nat):List Str:=bif Nat.beq m 0 then ts else ts++[(eZ[m]?).getD ""]
noncomputable def fF:List Str->List Str
 | []=>[]
 | [t]=>[t++">"]
 |t::ts=>t::fF ts
noncomputable def bO(D:cR)(left:List Str)(q:Rl):Ev->Rl
 | .st o l m=>bif !(Nat.beq q.sk 0)||dN (eR o l) left then {q with sk:=q.sk+1} else {q with ws:=q.ws++fF (qJ (pU D q.op o l) m),op:=q.op++[o]}
 | .en o l=>bif Nat.beq q.sk 0 then {q with ws:=q.ws++["</"++qQ D o l++">"],op:=q.op.dropLast} else {q with sk:=q.sk-1}
 | .da w g=>bif Nat.beq q.sk 0 then {q with ws:=bif Nat.beq w 0 then q.ws else q.ws++[(eN[w]?).getD ""],line:=bif d4 g "\n" then q.line+(bif Nat.beq w 0 then 1 else 2) else q.line} else q
noncomputable def zK(D:cR):List (Str×V):=[("{u}",.str D.one),("{v}",.str D.two)]
noncomputable def Eo(op:List (Option Bool)):List V:=op.map λo=>.str (wM o)
noncomputable def iX(me:List O)(D:cR)(ws:List Str)(op:List (Option Bool))(r:List O):List O:=me++(.list (eZ.map .str):: .list (eN.map .str):: .dict (zK D):: .list (ws.map .str):: .list (Eo op)::r)
noncomputable def rf(x0 x1 x2 x3:Option V)(m:Nat)(line sk:Nat)(xs:List V)(r:List (Option V)):List (Option V):=x0::x1::x2::x3::some (.loc m)::some (.loc (m+1))::some (.loc (m+2))::some (.loc (m+3))::some (aO line)::some (.loc (m+4))::some (aO sk)::(xs.map some++r)
section
variable {ws:List Str}{op:List (Option Bool)}
theorem lO(i:Nat){o:O}(h:(O.list (eZ.map V.str):: .list (eN.map .str):: .dict (zK D):: .list (ws.map .str):: .list (Eo op)::r)[i]?=some o):(iX me D ws op r)[me.length+i]?=some o:=by unfold iX;rw[bX];exact h
theorem Xz:(iX me D ws op r)[me.length]?=some (.list (eZ.map .str)):=aR
theorem rX{xs:List O}:iX me D ws op r++xs=iX me D ws op (r++xs):=by unfold iX;rw[au];rfl
theorem uU:(iX me D ws op r).length=me.length+5+r.length:=by unfold iX;rw[ak];simp only[aJ];exact fC [_,_] .nil 0 (.a (.v 0) (.a (.a (.a (.a (.a (.v 1) (.n 1)) (.n 1)) (.n 1)) (.n 1)) (.n 1))) (.a (.a (.v 0) (.n 5)) (.v 1)) tt tt
theorem LB{Lf:List Str}:(iX me D ws op r).set (me.length+3) (.list (Lf.map .str))=iX me D Lf op r:=by unfold iX;rw[dO];rfl
theorem Qh{op':List (Option Bool)}:(iX me D ws op r).set (me.length+4) (.list (Eo op'))=iX me D ws op' r:=by unfold iX;rw[dO];rfl
theorem LC{x y:O}:(iX me D ws op (r++[x])).set (me.length+5+r.length) y=iX me D ws op (r++[y]):=by rw[<-rX,<-rX,<-uU];exact kQ
theorem lD{x:O}:(iX me D ws op (r++[x]))[me.length+5+r.length]?=some x:=by rw[<-rX,<-uU];exact aR
end
theorem sp0(Z:l≠ .k)(o:Option Bool):∃c,vf (eR o l).cps.toList 0=some c/\d4 ⟨#[c]⟩ "{"=o.isSome:=by
 cases l with
 |k=>exact absurd rfl Z
 |a=>cases o with
  |none=>exact⟨_,rfl,by kernel_rfl⟩
  |some s=>cases s<;>exact⟨_,rfl,by kernel_rfl⟩
 |b=>cases o with
  |none=>exact⟨_,rfl,by kernel_rfl⟩
  |some s=>cases s<;>exact⟨_,rfl,by kernel_rfl⟩
theorem sp3(s:Bool)(l:Lc):(⟨(fS (eR (some s) l).cps.toList none (some 3)).toArray⟩:Str)=wM (some s):=by cases s<;>cases l<;>kernel_rfl
theorem ch3(Z:l≠ .k)(s:Bool):∃c,vf (eR (some s) l).cps.toList 3=some c/\(⟨#[c]⟩:Str)=l.s:=by
 cases l with
 |k=>exact absurd rfl Z
 |a=>cases s<;>exact⟨_,rfl,by kernel_rfl⟩
 |b=>cases s<;>exact⟨_,rfl,by kernel_rfl⟩
theorem ch1(s:Bool):∃c,vf (wM (some s)).cps.toList 1=some c/\(⟨#[c]⟩:Str)=nJ s:=by cases s<;>exact⟨_,rfl,by kernel_rfl⟩
theorem LD(D:cR)(s:Bool):eO (wM (some s)) (zK D)=some (.str (pf D s)):=by cases s<;>kernel_rfl
section
noncomputable abbrev xi (P:Params):df:=fc (KK P) 271 ["events","one","two","left_out","values","texts","prefixes","words","line","opened","skipped","kind","what","more","space","shown","tag"] []
theorem xj(P:Params):cc (xi P) [] .cell:=ip (by kernel_rfl)
noncomputable def FV:{W:ad Fl //∀{P:Params}{g:G}{k:Nat}(U:cD P g),NS g (xi P) k (cB (qD (cB (qD (cB (qD (cB (sd (cB (bh (KK P) 271) 7)) 0)) 0)) 0)) 0) W}:=⟨_,λ{P g k} U=>have H:=xj P;by exact(aP H 14 rfl (iJ (aN gr (eP (ai H 12 rfl) bv) bz) (iL (ai H 12 rfl) iK (gK bv)) bz))⟩
noncomputable def FW:{W:ad Fl //∀{P:Params}{g:G}{k:Nat}(U:cD P g),NS g (xi P) k (cB (qD (cB (qD (cB (qD (cB (sd (cB (bh (KK P) 271) 7)) 0)) 0)) 0)) 1) W}:=⟨_,λ{P g k} U=>have H:=xj P;by exact(aP H 15 rfl (iJ (a7 (ai H 14 rfl)) (cZ gb (cZ gb (N3 (ai H 6 rfl) (ai H 14 rfl)) bz) (eP (ai H 12 rfl) bv)) (ai H 12 rfl)))⟩
noncomputable def zL:{W:ad Fl //∀{P:Params}{g:G}{k:Nat}(U:cD P g),NS g (xi P) k (cB (qD (cB (qD (cB (qD (cB (qD (cB (sd (cB (bh (KK P) 271) 7)) 0)) 0)) 0)) 2)) 0) W}:=⟨_,λ{P g k} U=>have H:=xj P;by exact(aP H 16 rfl (eG (ae (cZ gb bz (ai H 15 rfl)) ay)))⟩
noncomputable def zM:{W:ad Fl //∀{P:Params}{g:G}{k:Nat}(U:cD P g),NS g (xi P) k (cB (qD (cB (qD (cB (qD (cB (qD (cB (sd (cB (bh (KK P) 271) 7)) 0)) 0)) 0)) 2)) 1) W}:=⟨_,λ{P g k} U=>have H:=xj P;by exact(il (cG (bN (a7 (ai H 14 rfl)) (bN (aN vz (ai H 14 rfl) (ai H 9 rfl)) gF))) (ab (c5 (bZ .list bD cJ b0 bB (ai H 16 rfl) (ae (cZ gb (cZ gb (cZ gb (cZ gb bz (N3 (ai H 6 rfl) (ai H 14 rfl))) bz) (eP (ai H 14 rfl) bv)) bz) ay))) aC) aC)⟩
noncomputable def zN:{W:ad Fl //∀{P:Params}{g:G}{k:Nat}(U:cD P g),NS g (xi P) k (cB (qD (cB (qD (cB (qD (cB (qD (cB (sd (cB (bh (KK P) 271) 7)) 0)) 0)) 0)) 2)) 2) W}:=⟨_,λ{P g k} U=>have H:=xj P;by exact(il (a7 (ai H 13 rfl)) (ab (c5 (bZ .list bD cJ b0 bB (ai H 16 rfl) (ae (eP (ai H 4 rfl) (ai H 13 rfl)) ay))) aC) aC)⟩
noncomputable def zO:{W:ad Fl //∀{P:Params}{g:G}{k:Nat}(U:cD P g),NS g (xi P) k (cB (qD (cB (qD (cB (qD (cB (qD (cB (sd (cB (bh (KK P) 271) 7)) 0)) 0)) 0)) 2)) 3) W}:=⟨_,λ{P g k} U=>have H:=xj P;by exact(wh kK (ai H 16 rfl) HB bz (ha:=by intros;rfl))⟩
noncomputable def zP:{W:ad Fl //∀{P:Params}{g:G}{k:Nat}(U:cD P g),NS g (xi P) k (cB (qD (cB (qD (cB (qD (cB (qD (cB (sd (cB (bh (KK P) 271) 7)) 0)) 0)) 0)) 2)) 4) W}:=⟨_,λ{P g k} U=>have H:=xj P;by exact(c5 (bZ .list bD PySem.F.slot_list_extend PySem.F.type_list_extend CR (ai H 7 rfl) (ae (ai H 16 rfl) ay)))⟩
noncomputable def zQ:{W:ad Fl //∀{P:Params}{g:G}{k:Nat}(U:cD P g),NS g (xi P) k (cB (qD (cB (qD (cB (qD (cB (qD (cB (sd (cB (bh (KK P) 271) 7)) 0)) 0)) 0)) 2)) 5) W}:=⟨_,λ{P g k} U=>have H:=xj P;by exact(c5 (bZ .list bD cJ b0 bB (ai H 9 rfl) (ae (ai H 14 rfl) ay)))⟩
section
variable {ws:List Str}{op:List (Option Bool)}{line sk:Nat}
theorem FX(U:cD P g)(Z:l≠ .k)(h:Q .next ⟨rf x0 x1 x2 x3 me.length line sk [u,.str (eR o l),v] (some (.str (wM o))::rU::rV::rT),ce,iX me D ws op r⟩):FV.1 ⟨rf x0 x1 x2 x3 me.length line sk [u,.str (eR o l),v] (ug::rU::rV::rT),ce,iX me D ws op r⟩ Q:=by
 refine bx (sp0 Z o) λc e1 e2=>?_;refine av e1 ?_;cases o with
 |none=>exact xQ e2 h
 |some s=>refine w5 e2 ?_;refine b_ (by cases s<;>cases l<;>kernel_rfl) ?_;rw[sp3];exact h
theorem FY(U:cD P g)(Z:l≠ .k)(G:uD D)(h:Q .next ⟨rf x0 x1 x2 x3 me.length line sk [u,.str (eR o l),v] (some (.str (wM o))::some (.str (qQ D o l))::rV::rT),ce,iX me D ws op r⟩):FW.1 ⟨rf x0 x1 x2 x3 me.length line sk [u,.str (eR o l),v] (some (.str (wM o))::rU::rV::rT),ce,iX me D ws op r⟩ Q:=by
 cases o with
 |none=>exact h
 |some s=>refine bx (ch3 Z s) λc e1 e2=>?_;refine b_ (by cases s<;>kernel_rfl) ?_;refine w5 (by cases s<;>kernel_rfl) ?_;refine av (iS (lO 2 rfl)) ?_;refine av rfl (av (LD D s) ?_);have hp:=(jG G s).2;refine b_ (cU (by refine(?_ :(pf D s).length+1<=_);exact aQ [_] (.c 1 (.v 0) (.n 100) .nil) 0 (.a (.v 0) (.n 1)) (.n 16777216) tt hp)) ?_;refine av e1 ?_;rw[e2];refine b_ (cU (by have:=(iR l).2;rw[bH];refine(?_ :(pf D s).length+1+l.s.length<=_);exact aQ [_,_] (.c 1 (.v 0) (.n 100) (.c 1 (.v 1) (.n 100) .nil)) 0 (.a (.a (.v 0) (.n 1)) (.v 1)) (.n 16777216) tt hp this)) ?_;exact h
end
end
theorem Tz(op:List (Option Bool)):Eo op=(op.map wM).map .str:=by unfold Eo;rw[ia];rfl
theorem FZ{o:Option O}{y:Str}{K:Bool->Prop}(h:o=some (.list (ts.map .str)))(q:K (dN y ts)):Vn o y K:=by rw[h];exact(av (ms ts) q:aA (kN (ts.map .str)) λts=>K (dN y ts))
theorem OT:∀{a b:Option Bool},wM a=wM b->a=b:=by
 intro a b h;have:d4 (wM a) (wM b)=true:=by rw[h];cases b with|none=>kernel_rfl|some s=>cases s<;>kernel_rfl
 cases a with
 |none=>cases b with
  |none=>rfl
  |some s=>cases s<;>exact absurd this (by rw[show d4 _ _=false from by kernel_rfl];exact i6)
 |some s=>cases b with
  |none=>cases s<;>exact absurd this (by rw[show d4 _ _=false from by kernel_rfl];exact i6)
  |some s'=>cases s<;>cases s'<;>first|rfl|exact absurd this (by rw[show d4 _ _=false from by kernel_rfl];exact i6)
theorem OU(o:Option Bool)(op:List (Option Bool)):dN (wM o) (op.map wM)=op.contains o:=by rw[md,fT,sC,List.mem_map];exact⟨λ⟨a,h,e⟩=>OT e▸h,λh=>⟨o,h,rfl⟩⟩
theorem zR(G:uD D)(o:Option Bool)(l:Lc):(qQ D o l).length<=300:=by
 have Z:=(iR l).2;cases o with
 |none=>exact am Z (by decide)
 |some s=>have:=(jG G s).2;refine(?_ :(pf D s++":"++l.s).length<=300);rw[bH,bH];refine(?_ :(pf D s).length+1+l.s.length<=300);exact aQ [_,_] (.c 1 (.v 0) (.n 100) (.c 1 (.v 1) (.n 100) .nil)) 0 (.a (.a (.v 1) (.n 1)) (.v 0)) (.n 300) tt Z this
theorem OV(G:uD D)(s:Bool):(Tx D s).length<=300:=by have:=(jG G s).2;have:=wB s;unfold Tx;rw[bH,bH,bH,bH];refine(?_ :6+(pf D s).length+2+(nJ s).length+1<=300);omega
theorem kA(D:cR)(op:List (Option Bool))(s:Bool)(l:Lc):pU D op (some s) l=bif op.contains (some s) then["<"++qQ D (some s) l] else["<"++qQ D (some s) l,Tx D s]:=rfl
theorem TA(G:uD D)(op:List (Option Bool))(o:Option Bool)(l:Lc)(hm:m<6):∃ts t,qJ (pU D op o l) m=ts++[t]/\ts.length<=2/\t.length<=400:=by
 have h1:("<"++qQ D o l).length<=400:=by rw[bH];have:=zR G o l;refine(?_ :1+(qQ D o l).length<=400);exact aQ [_] (.c 1 (.v 0) (.n 300) .nil) 0 (.a (.n 1) (.v 0)) (.n 400) tt this
 have h2:∃ts t,pU D op o l=ts++[t]/\ts.length<=1/\t.length<=400:=by
  cases o with
  |none=>exact⟨[],_,rfl,aW _,h1⟩
  |some s=>
   rw[kA];cases op.contains (some s) with
   |true=>exact⟨[],_,rfl,aW _,h1⟩
   |false=>exact⟨[_],_,rfl,aF _,am (OV G s) (by decide)⟩
 refine d3 h2 λts t e a b=>?_;try clear h2
 unfold qJ;cases m with
 |zero=>exact⟨ts,t,e,am a (by decide),b⟩
 |succ m=>
  refine⟨ts++[t],(eZ[m+1]?).getD "",?_,?_,?_⟩
  ·rw[e];rfl
  ·rw[ak];exact dQ a 1
  ·obtain⟨v,C⟩:∃v,eZ[m+1]?=some v:=⟨_,bC hm⟩;rw[C];exact am ((by decide+kernel:∀x∈eZ,x.length<=30) v (eg C)) (by decide)
theorem B0(ts:List Str)(t:Str):fF (ts++[t])=ts++[t++">"]:=by
 induction ts with
 |nil=>rfl
 |cons a ts T=>
  cases ts with
  |nil=>rfl
  |cons b ts=>exact ag (a:: ·) T
theorem Ii{a:V}(hz:xs.length<=1000):Nj (xs++[a]) (-1) v=some (xs++[v]):=by refine(?_ :cond (Nat.blt 0 (xs++[a]).length&&bw (xs++[a]).length) (some ((xs++[a]).set ((xs++[a]).length-(0+1)) v)) none=_);have h1:(xs++[a]).length=xs.length+1:=ak;rw[h1,show Nat.blt 0 (xs.length+1)=true from rfl,cU (n:=xs.length+1) (aQ [_] (.c 1 (.v 0) (.n 1000) .nil) 0 (.a (.v 0) (.n 1)) (.n 16777216) tt hz)];refine(?_ :some ((xs++[a]).set xs.length v)=_);rw[show(xs++[a]).set xs.length v=xs++[v] by simp]
section
section
variable {ws:List Str}{op:List (Option Bool)}{line sk:Nat}{w:V}
theorem OW(U:cD P g){b:Str}(M:b.length<=1000)(h:Q .next ⟨rf x0 x1 x2 x3 me.length line sk [u,w,v] (ug::some (.str b)::some (.loc (me.length+5+r.length))::rT),ce,iX me D ws op (r++[.list ((["<"++b]:List Str).map .str)])⟩):zL.1 ⟨rf x0 x1 x2 x3 me.length line sk [u,w,v] (ug::some (.str b)::rV::rT),ce,iX me D ws op r⟩ Q:=by refine b_ (cU (by refine(?_ :1+b.length<=_);exact aQ [_] (.c 1 (.v 0) (.n 1000) .nil) 0 (.a (.n 1) (.v 0)) (.n 16777216) tt M)) ?_;refine(?_ :Q .next ⟨rf x0 x1 x2 x3 me.length line sk [u,w,v] (ug::some (.str b)::some (.loc (iX me D ws op r).length)::rT),ce,iX me D ws op r++[.list ((["<"++b]:List Str).map .str)]⟩);rw[uU,rX];exact h
theorem OX(U:cD P g)(G:uD D)(h:Q .next ⟨rf x0 x1 x2 x3 me.length line sk [u,w,v] (some (.str (wM o))::rU::some (.loc (me.length+5+r.length))::rT),ce,iX me D ws op (r++[.list ((pU D op o l).map .str)])⟩):zM.1 ⟨rf x0 x1 x2 x3 me.length line sk [u,w,v] (some (.str (wM o))::rU::some (.loc (me.length+5+r.length))::rT),ce,iX me D ws op (r++[.list ((["<"++qQ D o l]:List Str).map .str)])⟩ Q:=by
 cases o with
 |none=>exact h
 |some s=>
  refine b_ (by cases s<;>kernel_rfl) ?_;refine w5 (by cases s<;>kernel_rfl) ?_;refine FZ (K:=λb=>br (!b) _ _) (by rw[<-Tz];exact lO 4 rfl) ?_;rw[OU];rw[kA] at h;cases e:op.contains (some s) with
  |true=>rw[e] at h;exact h
  |false=>rw[e] at h;refine bx (ch1 s) λc e1 e2=>?_;have hp:=(jG G s).2;have hn:=wB s;refine b_ (bk lD) ?_;refine av (iS (lO 2 rfl)) ?_;refine av rfl (av (LD D s) ?_);refine b_ (cU (by refine(?_ :6+(pf D s).length<=_);exact aQ [_] (.c 1 (.v 0) (.n 100) .nil) 0 (.a (.n 6) (.v 0)) (.n 16777216) tt hp)) ?_;refine b_ (cU (by rw[bH];refine(?_ :6+(pf D s).length+2<=_);exact aQ [_] (.c 1 (.v 0) (.n 100) .nil) 0 (.a (.a (.n 6) (.v 0)) (.n 2)) (.n 16777216) tt hp)) ?_;refine av e1 ?_;rw[e2];refine b_ (cU (by rw[bH,bH];refine(?_ :6+(pf D s).length+2+(nJ s).length<=_);exact aQ [_,_] (.c 1 (.v 0) (.n 100) (.c 1 (.v 1) (.n 10) .nil)) 0 (.a (.a (.a (.n 6) (.v 0)) (.n 2)) (.v 1)) (.n 16777216) tt hp hn)) ?_;refine b_ (cU (by rw[bH,bH,bH];refine(?_ :6+(pf D s).length+2+(nJ s).length+1<=_);exact aQ [_,_] (.c 1 (.v 0) (.n 100) (.c 1 (.v 1) (.n 10) .nil)) 0 (.a (.a (.a (.a (.n 6) (.v 0)) (.n 2)) (.v 1)) (.n 1)) (.n 16777216) tt hp hn)) ?_;exact lC lD (aU rfl) LC h
theorem OY(U:cD P g)(hm:m<6)(hz:ts.length<=10)(h:Q .next ⟨rf x0 x1 x2 x3 me.length line sk [u,w,aO m] (ug::rU::some (.loc (me.length+5+r.length))::rT),ce,iX me D ws op (r++[.list ((qJ ts m).map .str)])⟩):zN.1 ⟨rf x0 x1 x2 x3 me.length line sk [u,w,aO m] (ug::rU::some (.loc (me.length+5+r.length))::rT),ce,iX me D ws op (r++[.list (ts.map .str)])⟩ Q:=by
 cases m with
 |zero=>exact h
 |succ m=>obtain⟨t,C⟩:∃v,eZ[m+1]?=some v:=⟨_,bC hm⟩;rw[show qJ ts (m+1)=ts++[t] by refine(?_ :ts++[(eZ[m+1]?).getD ""]=_);rw[C];rfl,fh] at h;refine b_ (bk lD) ?_;refine bJ Xz (jw (eU (fN hm (by decide))) (by rw[bi,C];rfl)) ?_;exact lC lD (by rw[ax];exact aQ [_] (.c 1 (.v 0) (.n 10) .nil) 0 (.v 0) (.n 10000) tt hz) LC h
theorem OZ(U:cD P g){t:Str}(hz:ts.length<=10)(ht:t.length<=1000)(h:Q .next ⟨rf x0 x1 x2 x3 me.length line sk [u,w,v] (ug::rU::some (.loc (me.length+5+r.length))::rT),ce,iX me D ws op (r++[.list ((ts++[t++">"]).map .str)])⟩):zO.1 ⟨rf x0 x1 x2 x3 me.length line sk [u,w,v] (ug::rU::some (.loc (me.length+5+r.length))::rT),ce,iX me D ws op (r++[.list ((ts++[t]).map .str)])⟩ Q:=by
 rw[fh] at h ⊢;have L:(ts.map V.str).length<=1000:=by rw[ax];exact aQ [_] (.c 1 (.v 0) (.n 10) .nil) 0 (.v 0) (.n 1000) tt hz
 refine bJ lD (ow L) ?_;refine b_ (cU (by refine(?_ :t.length+1<=_);exact aQ [_] (.c 1 (.v 0) (.n 1000) .nil) 0 (.a (.v 0) (.n 1)) (.n 16777216) tt ht)) ?_;refine av (cW lD) ?_;refine av rfl (av (Ii L) ?_);refine(?_ :Q .next ⟨_,_,(iX me D ws op (r++[.list (ts.map .str++[.str t])])).set (me.length+5+r.length) (.list (ts.map .str++[.str (t++">")]))⟩);rw[LC];exact h
theorem O0(U:cD P g)(hz:ts.length<=10)(hw:ws.length<=1000)(h:Q .next ⟨rf x0 x1 x2 x3 me.length line sk [u,w,v] (ug::rU::some (.loc (me.length+5+r.length))::rT),ce,iX me D (ws++ts) op (r++[.list (ts.map .str)])⟩):zP.1 ⟨rf x0 x1 x2 x3 me.length line sk [u,w,v] (ug::rU::some (.loc (me.length+5+r.length))::rT),ce,iX me D ws op (r++[.list (ts.map .str)])⟩ Q:=by have J:(iX me D ws op (r++[.list (ts.map .str)]))[me.length+3]?=some (.list (ws.map .str)):=lO 3 rfl;refine b_ (bk J) ?_;refine av (cW J) ?_;refine av (cW lD) ?_;refine b_ (cU (by rw[ax,ax];exact aQ [_,_] (.c 1 (.v 0) (.n 10) (.c 1 (.v 1) (.n 1000) .nil)) 0 (.a (.v 1) (.v 0)) (.n 16777216) tt hz hw)) ?_;refine(?_ :Q .next ⟨_,_,(iX me D ws op (r++[.list (ts.map .str)])).set (me.length+3) (.list (ws.map .str++ts.map .str))⟩);rw[<-fh,LB];exact h
theorem O1(U:cD P g)(hz:op.length<=1000)(h:Q .next ⟨rf x0 x1 x2 x3 me.length line sk [u,w,v] (some (.str (wM o))::rU::rV::rT),ce,iX me D ws (op++[o]) r⟩):zQ.1 ⟨rf x0 x1 x2 x3 me.length line sk [u,w,v] (some (.str (wM o))::rU::rV::rT),ce,iX me D ws op r⟩ Q:=by have J:(iX me D ws op r)[me.length+4]?=some (.list (Eo op)):=lO 4 rfl;refine b_ (bk J) ?_;refine lC J (by unfold Eo;rw[ax];exact aQ [_] (.c 1 (.v 0) (.n 1000) .nil) 0 (.v 0) (.n 10000) tt hz) ?_ h;rw[show Eo op++[V.str (wM o)]=Eo (op++[o]) by unfold Eo;rw[fh];rfl];exact Qh
end
end
def F0(q:Rl):Ev->Prop
 | .st o l m=>l≠ .k/\m<6
 | .en o l=>l≠ .k/\(q.sk=0->q.op≠[])
 | .da w g=>w<6
noncomputable def wN:ad Fl:=L2 λM=>∀{x0 x1 x2:Option V}{me r:List O}{D:cR}{left:List Str}{q:Rl}{e:Ev}{ll:Nat}{ug rU rV:Option V}{rT:List (Option V)}{Qm},uD D->F0 q e->q.ws.length<=900->q.op.length<=900->me[ll]?=some (.list (left.map .str))->
 (∀r' ug rU rV,Qm .next ⟨rf x0 x1 x2 (some (.loc ll)) me.length (bO D left q e).line (bO D left q e).sk (w7 e) (ug::rU::rV::rT),[],iX me D (bO D left q e).ws (bO D left q e).op r'⟩)->
 M ⟨rf x0 x1 x2 (some (.loc ll)) me.length q.line q.sk (w7 e) (ug::rU::rV::rT),[],iX me D q.ws q.op r⟩ Qm
noncomputable def rf'(x0 x1 x2 x3:Option V)(m:Nat)(line:Nat)(sk:V)(xs:List V)(r:List (Option V)):List (Option V):=x0::x1::x2::x3::some (.loc m)::some (.loc (m+1))::some (.loc (m+2))::some (.loc (m+3))::some (aO line)::some (.loc (m+4))::some sk::(xs.map some++r)
theorem UM(n:Nat):decide ((0:Int)<((n:Nat):Int))= !(Nat.beq n 0):=by
 cases n with
 |zero=>rfl
 |succ n=>exact dI (Int.natCast_pos.mpr (mf n))
section
section
variable {ws:List Str}{op:List (Option Bool)}{line sk:Nat}{w:V}
theorem TB(U:cD P g)(G:uD D)(hm:m<6)(hw:ws.length<=900)(ho:op.length<=900)(h:∀r' rV,Q .next ⟨rf x0 x1 x2 x3 me.length line sk [u,w,aO m] (some (.str (wM o))::some (.str (qQ D o l))::rV::rT),ce,iX me D (ws++fF (qJ (pU D op o l) m)) (op++[o]) r'⟩):aV zL.1 (aV zM.1 (aV zN.1 (aV zO.1 (aV zP.1 (aV zQ.1 (c8 .next)))))) ⟨rf x0 x1 x2 x3 me.length line sk [u,w,aO m] (some (.str (wM o))::some (.str (qQ D o l))::rV::rT),ce,iX me D ws op r⟩ Q:=by
 refine d3 (TA G op o l hm) λts t e h1 h2=>?_;refine OW U (am (zR G o l) (by decide)) ?_;refine OX U G ?_;refine OY U hm ?_ ?_
 ·cases o with
  |none=>exact aU rfl
  |some s=>rw[kA];cases hc:op.contains (some s)<;>exact aU rfl
 rw[e];refine OZ U (am h1 (by decide)) (am h2 (by decide)) ?_;refine O0 U (by rw[ak];exact am (dQ h1 1) (by decide)) (am hw (by decide)) ?_;refine O1 U (am ho (by decide)) ?_;have:=h (r++[.list ((ts++[t++">"]).map .str)]) (some (.loc (me.length+5+r.length)));rw[e,B0] at this;exact this
end
theorem TC(U:cD P g):NB g (xi P) k (sd (cB (bh (KK P) 271) 7)) wN:=by
 have H:=xj P;refine NB.c (NB.at' rfl (by exact(ab (il (cG (bN (aN gr (ai H 11 rfl) bz) (bN (cG (g_ (aN vc (ai H 10 rfl) bv) (g_ (aN xu (ai H 12 rfl) (ai H 3 rfl)) tf))) gF))) (ab (BB H 10 kK rfl bv) aC) (ab (il (aN vc (ai H 10 rfl) bv) (ab (il (aN gr (ai H 11 rfl) bz) (ab (BB H 10 CK rfl bv) aC) aC) aC) (ab (il (aN gr (ai H 11 rfl) bz) (ab (il (a7 (ai H 12 rfl)) (ab (c5 (bZ .list bD cJ b0 bB (ai H 7 rfl) (ae (eP (ai H 5 rfl) (ai H 12 rfl)) ay))) aC) aC) (ab (il (aN gr (ai H 13 rfl) bz) (ab (BB H 8 kK rfl (iJ (a7 (ai H 12 rfl)) bv bv)) aC) aC) aC)) (ab (FV.2 U) (ab (FW.2 U) (ab (il (aN gr (ai H 11 rfl) bz) (ab (c5 (bZ .list bD kE j4 pE (ai H 9 rfl) ay)) (ab (c5 (bZ .list bD cJ b0 bB (ai H 7 rfl) (ae (cZ gb (cZ gb bz (ai H 15 rfl)) bz) ay))) aC)) (ab (zL.2 U) (ab (zM.2 U) (ab (zN.2 U) (ab (zO.2 U) (ab (zP.2 U) (ab (zQ.2 U) aC))))))) aC)))) aC)) aC)) aC))) ?_;refine qB (@λx0 x1 x2 me r D left q e ll ug rU rV rT Q G he hw ho Z h=>?_);obtain⟨ws,line,op,sk⟩:=q;cases e with
 |st o l m=>
  have skip:((!(Nat.beq sk 0))||dN (eR o l) left)=true->Q .next ⟨rf x0 x1 x2 (some (.loc ll)) me.length line (sk+1) [.str "start",.str (eR o l),aO m] (ug::rU::rV::rT),[],iX me D ws op r⟩:=λe=>by
   have e2:bO D left ⟨ws,line,op,sk⟩ (.st o l m)=⟨ws,line,op,sk+1⟩:=by refine(?_ :(bif (!(Nat.beq sk 0))||dN (eR o l) left then _ else _)=_);rw[e];rfl
   rw[e2] at h;exact h r ug rU rV
  refine bu (λe=>?_) (λe=>?_)
  ·exact skip (by rw[<-UM,e];rfl)
  ·refine FZ (K:=λb=>br b _ _) (ac Z) ?_;refine bu (λe'=>?_) (λe'=>?_)
   ·exact skip (by rw[e',Bool.or_true])
   ·have e2:bO D left ⟨ws,line,op,sk⟩ (.st o l m)=⟨ws++fF (qJ (pU D op o l) m),line,op++[o],sk⟩:=by refine(?_ :(bif (!(Nat.beq sk 0))||dN (eR o l) left then _ else _)=_);rw[<-UM,e,e'];rfl
    rw[e2] at h;refine xQ e ?_;refine FX U he.1 ?_;refine FY U he.1 G ?_;exact TB U G he.2 hw ho λr' rV=>h r' _ _ rV
 |en o l=>
  refine bu (λe=>?_) (λe=>?_)
  ·cases sk with
   |zero=>exact nB e
   |succ n=>refine(?_ :Q .next ⟨rf' x0 x1 x2 (some (.loc ll)) me.length line (V.int (((n+1:Nat):Int)-1)) [.str "end",.str (eR o l),.int 0] (ug::rU::rV::rT),[],iX me D ws op r⟩);rw[show((n+1:Nat):Int)-1=((n:Nat):Int) by omega];exact h r ug rU rV
  ·have e3:Nat.beq sk 0=true:=by have:=UM sk;rw[e] at this;cases hb:Nat.beq sk 0 with|true=>rfl|false=>rw[hb] at this;exact nB this
   have e2:bO D left ⟨ws,line,op,sk⟩ (.en o l)=⟨ws++["</"++qQ D o l++">"],line,op.dropLast,sk⟩:=by refine(?_ :(bif Nat.beq sk 0 then _ else _)=_);rw[e3];rfl
   rw[e2] at h;obtain⟨TD,o',rfl⟩:∃a b,op=a++[b]:=by
    rcases List.eq_nil_or_concat op with rfl|⟨d,j,rfl⟩
    ·exact absurd rfl (he.2 (bK e3))
    ·exact⟨d,j,by simp⟩
   rw[lY] at h;refine FX U he.1 ?_;refine FY U he.1 G ?_;have M:=zR G o l;have e9:(iX me D ws (TD++[o']) r)[me.length+4]?=some (.list (Eo TD++[.str (wM o')])):=by rw[show Eo TD++[V.str (wM o')]=Eo (TD++[o']) by unfold Eo;rw[fh];rfl];exact lO 4 rfl
   refine b_ (bk e9) ?_;rw[ak] at ho;refine rL e9 (by unfold Eo;rw[ax];exact am (ix ho) (by decide)) ?_;rw[Qh];have e8:(iX me D ws TD r)[me.length+3]?=some (.list (ws.map .str)):=lO 3 rfl;refine b_ (bk e8) ?_;refine b_ (cU (by refine(?_ :2+(qQ D o l).length<=_);exact aQ [_] (.c 1 (.v 0) (.n 300) .nil) 0 (.a (.n 2) (.v 0)) (.n 16777216) tt M)) ?_;refine b_ (cU (by rw[bH];refine(?_ :2+(qQ D o l).length+1<=_);exact aQ [_] (.c 1 (.v 0) (.n 300) .nil) 0 (.a (.a (.n 2) (.v 0)) (.n 1)) (.n 16777216) tt M)) ?_;refine lC e8 (by rw[ax];exact am hw (by decide)) ?_ (h r _ _ rV);rw[show ws.map V.str++[V.str ("</"++qQ D o l++">")]=(ws++["</"++qQ D o l++">"]).map .str by rw[fh];rfl];exact LB
 |da w f=>
  refine bu (λe=>?_) (λe=>?_)
  ·have e3:Nat.beq sk 0=false:=by have:=UM sk;rw[e] at this;cases hb:Nat.beq sk 0 with|false=>rfl|true=>rw[hb] at this;exact Ab this
   have e2:bO D left ⟨ws,line,op,sk⟩ (.da w f)=⟨ws,line,op,sk⟩:=by refine(?_ :(bif Nat.beq sk 0 then _ else _)=_);rw[e3];rfl
   rw[e2] at h;exact h r ug rU rV
  ·have e3:Nat.beq sk 0=true:=by have:=UM sk;rw[e] at this;cases hb:Nat.beq sk 0 with|true=>rfl|false=>rw[hb] at this;exact nB this
   have e2:bO D left ⟨ws,line,op,sk⟩ (.da w f)=⟨bif Nat.beq w 0 then ws else ws++[(eN[w]?).getD ""],bif d4 f "\n" then line+(bif Nat.beq w 0 then 1 else 2) else line,op,sk⟩:=by refine(?_ :(bif Nat.beq sk 0 then _ else _)=_);rw[e3];rfl
   rw[e2] at h;cases w with
   |zero=>
    refine bu (λe'=>?_) (λe'=>?_)
    ·rw[e'] at h;exact h r ug rU rV
    ·rw[e'] at h;exact h r ug rU rV
   |succ w=>
    obtain⟨t,C⟩:∃v,eN[w+1]?=some v:=⟨_,bC he⟩;rw[C] at h;have e8:(iX me D ws op r)[me.length+3]?=some (.list (ws.map .str)):=lO 3 rfl;have e7:(iX me D ws op r)[me.length+1]?=some (.list (eN.map .str)):=lO 1 rfl;refine b_ (bk e8) ?_;refine bJ e7 (jw (eU (fN he (by decide))) (by rw[bi,C];rfl)) ?_;refine lC e8 (D9:=iX me D (ws++[t]) op r) (by rw[ax];exact am hw (by decide)) ?_ ?_
    ·rw[show ws.map V.str++[V.str t]=(ws++[t]).map .str by rw[fh];rfl];exact LB
    ·refine bu (λe'=>?_) (λe'=>?_)
     ·rw[e'] at h;exact h r ug rU rV
     ·rw[e'] at h;exact h r ug rU rV
end
inductive hV(D:cR)(left:List Str):Rl->List Ev->Prop
 |nil {q:Rl}:hV D left q []
 |cons {q:Rl} {e:Ev} {es:List Ev}:F0 q e->q.ws.length<=900->q.op.length<=900->hV D left (bO D left q e) es->hV D left q (e::es)
noncomputable def O2:Rl:=⟨[],1,[],0⟩
noncomputable def cY(D:cR)(left:List Str)(es:List Ev):Rl:=es.foldl (bO D left) O2
def TE(me:List O)(lv:List V)(es:List Ev):Prop:=aE (λv e=>∃t,v= .loc t/\me[t]?=some (.tup (w7 e))) lv es
theorem TE.inv(h:TE me vs (e::es)):∃t K,vs= .loc t::K/\me[t]?=some (.tup (w7 e))/\TE me K es:=by
 cases h with
 |cons a b=>exact bx a λt e1 e2=>⟨t,_,by rw[e1],e2,b⟩
theorem hV.inv{q:Rl}(h:hV D left q (e::es)):F0 q e/\q.ws.length<=900/\q.op.length<=900/\hV D left (bO D left q e) es:=by cases h with|cons a b c d=>exact⟨a,b,c,d⟩
theorem Ij{le ll:Nat}{lv:List V}(G:uD D)(Z:me[le]?=some (.list lv))(hll:me[ll]?=some (.list (left.map .str))):∀(es:List Ev)(vs:List V)(i:Nat)(q:Rl)(r:List O)(w TF TG Qi Qj Qk:Option V),lv.drop i=vs->TE me vs es->hV D left q es-> (∀r' w TF TG Qi Qj Qk,Q .next ⟨some (.loc le)::x1::x2::some (.loc ll)::some (.loc me.length)::some (.loc (me.length+1))::some (.loc (me.length+2))::some (.loc (me.length+3))::some (aO (es.foldl (bO D left) q).line)::some (.loc (me.length+4))::some (aO (es.foldl (bO D left) q).sk)::w::TF::TG::Qi::Qj::Qk::rT,[],iX me D (es.foldl (bO D left) q).ws (es.foldl (bO D left) q).op r'⟩)-> gu (bj le) (we 3 (w3 (du 11) (w3 (du 12) (w3 (du 13) p4)))) wN (es.length+1) i ⟨some (.loc le)::x1::x2::some (.loc ll)::some (.loc me.length)::some (.loc (me.length+1))::some (.loc (me.length+2))::some (.loc (me.length+3))::some (aO q.line)::some (.loc (me.length+4))::some (aO q.sk)::w::TF::TG::Qi::Qj::Qk::rT,[],iX me D q.ws q.op r⟩ Q:=λes=>by
 induction es with
 |nil=>intro vs i q r w TF TG Qi Qj Qk hd ha he h;exact iP (ba (ac Z) (drop_nil (hd.trans (by cases ha;rfl)))) (h r w TF TG Qi Qj Qk)
 |cons e es T=>intro vs i q r w TF TG Qi Qj Qk hd ha he h;refine d3 (TE.inv ha) λt K C I ha=>xA (fD (hd.trans C)) λM d2=>Gv he.inv λTn hw ho OM=>Gw (Xx e) λu1 u2 u3 e3=>?_;refine fq (b:=.loc t) (ba (ac Z) M) ?_;refine av (o:=vk (iX me D q.ws q.op r) (.loc t)) (v:=[u1,u2,u3]) (gz (ac (by rw[<-e3];exact I))) ?_;have q':=λh'=>(λ_ E=>E (D:=D) (left:=left) (q:=q) (e:=e) (me:=me) (r:=r) (ll:=ll) (x0:=some (.loc le)) (x1:=x1) (x2:=x2) (ug:=Qi) (rU:=Qj) (rV:=Qk) (rT:=rT) (Qm:=QY (λσ=>gu (bj le) (we 3 (w3 (du 11) (w3 (du 12) (w3 (du 13) p4)))) wN (es.length+1) (i+1) σ Q) Q) G Tn hw ho hll h':wN _ _);rw[e3] at q';refine q' λr' ug rU rV=>?_;exact T K (i+1) _ r' _ _ _ _ _ _ d2 ha OM h
noncomputable def XA:List V->ad V:=L3 λM=>∀{D:cR}{left:List Str}{me:List O}{le ll:Nat}{es:List Ev}{lv:List V}{lo ce Q},uD D->me[le]?=some (.list lv)->TE me lv es->me[ll]?=some (.list (left.map .str))->hV D left O2 es->
 (∀X t w,(me++X)[w]?=some (.list ((cY D left es).ws.map .str))->(me++X)[t]?=some (.tup [.loc w,aO (cY D left es).line])->Q (.loc t) ⟨lo,ce,me++X⟩)->M [.loc le,.str D.one,.str D.two,.loc ll] ⟨lo,ce,me⟩ Q
section
theorem F1(U:cD P g):cO g (k+1) (.ref 271) XA:=by
 have H:=xj P;refine Fn U H (NB.at rfl (by exact(ab (aP H 4 rfl (eG (ae bz (ae bz (ae bz (ae bz (ae bz (ae bz ay)))))))) (ab (aP H 5 rfl (eG (ae bz (ae bz (ae bz (ae bz (ae bz (ae bz ay)))))))) (ab (aP H 6 rfl (Sx (yV bz (ai H 1 rfl) (yV bz (ai H 2 rfl) Km)))) (ab (aP H 7 rfl (eG ay)) (ab (aP H 8 rfl bv) (ab (aP H 9 rfl (eG ay)) (ab (aP H 10 rfl bv) (ab (mA (ai H 0 rfl) (rz (dz (b8 H 11 rfl) (dz (b8 H 12 rfl) (dz (b8 H 13 rfl) lL)))) (TC U)) (ab (cP (nF (ae (ai H 7 rfl) (ae (ai H 8 rfl) ay)))) aC))))))))))) rfl (by kernel_rfl) (λa b c d S=>rfl) ?_;refine k6 (@λD left me le ll es lv lo ce Q G h1 h2 h3 h4 h=>?_);refine⟨_,_,_,_,rfl,?_⟩;refine pQ ?_;refine b_ (b:=JC (qZ ((me++[O.list (eZ.map .str)])++[O.list (eN.map .str)]++[O.dict []])[((me++[O.list (eZ.map .str)])++[O.list (eN.map .str)]).length]?)&&mt [("{u}",V.str D.one),("{v}",V.str D.two)]) (by rw[aR];kernel_rfl) ?_;refine(?_ :∃m,gu (bj le) (we 3 (w3 (du 11) (w3 (du 12) (w3 (du 13) p4)))) wN m 0 ⟨some (.loc le)::some (.str D.one)::some (.str D.two)::some (.loc ll)::some (.loc me.length)::some (.loc (me++[O.list (eZ.map .str)]).length)::some (.loc (me++[O.list (eZ.map .str)]++[O.list (eN.map .str)]).length)::some (.loc ((me++[O.list (eZ.map .str)]++[O.list (eN.map .str)]++[O.dict []]).set (me++[O.list (eZ.map .str)]++[O.list (eN.map .str)]).length (.dict (zK D))).length)::some (aO 1)::some (.loc ((me++[O.list (eZ.map .str)]++[O.list (eN.map .str)]++[O.dict []]).set (me++[O.list (eZ.map .str)]++[O.list (eN.map .str)]).length (.dict (zK D))++[O.list []]).length)::some (aO 0)::none::none::none::none::none::none::List.replicate 4 none,[],
  (me++[O.list (eZ.map .str)]++[O.list (eN.map .str)]++[O.dict []]).set (me++[O.list (eZ.map .str)]++[O.list (eN.map .str)]).length (.dict (zK D))++[O.list []]++[O.list []]⟩ (sS (aV (ao (ao (ao (dY 7) λv=>ao (ao (dY 8) λv=>ao (c8 []) (iY v)) (iY v)) pC) wc) (c8 Fl.next)) λfl a9=>Q (nV fl) ⟨lo,ce,a9.mem⟩))
 have e1:(me++[O.list (eZ.map .str)]).length=me.length+1:=ak;have e2:(me++[O.list (eZ.map .str)]++[O.list (eN.map .str)]).length=me.length+2:=by rw[ak,e1];rfl
 have e3:(me++[O.list (eZ.map .str)]++[O.list (eN.map .str)]++[O.dict (zK D)]).length=me.length+3:=by rw[ak,e2];rfl
 have e4:(me++[O.list (eZ.map .str)]++[O.list (eN.map .str)]++[O.dict (zK D)]++[O.list []]).length=me.length+4:=by rw[ak,e3];rfl
 have E:me++[O.list (eZ.map .str)]++[O.list (eN.map .str)]++[O.dict (zK D)]++[O.list []]++[O.list []]=iX me D [] [] []:=by rw[au,au,au,au];rfl
 rw[kQ,E,e4,e3,e2,e1];refine⟨es.length+1,Ij G h1 h3 es lv 0 O2 [] none none none none none none rfl h2 h4 λr' w TF TG Qi Qj Qk=>?_⟩;refine(?_ :Q (.loc (iX me D (cY D left es).ws (cY D left es).op r').length) ⟨lo,ce,iX me D (cY D left es).ws (cY D left es).op r'++[.tup [.loc (me.length+3),aO (cY D left es).line]]⟩);rw[uU,rX];have t:(iX me D (cY D left es).ws (cY D left es).op (r'++[.tup [.loc (me.length+3),aO (cY D left es).line]]))[me.length+5+r'.length]?=some (.tup [.loc (me.length+3),aO (cY D left es).line]):=lD;exact h _ _ _ (lO 3 rfl) t
end
end
section
variable {Q:Fl->St->Prop}{g:G}{mx:Int}{rr:List (Option V)}{ce:List Nat}{me:List O}{a b r ts xs I:List Str}{k l la lb:Nat}{S:Nat->List O->St}{p q:Option V}{P:Params}{C:ad Bool}{x:Str}{α:Type}
theorem Ep{n:Nat}(ts:List Str):xw (yr me n) (ts.map .str)=some (ts.map PyData.str):=by
 induction ts with
 |nil=>rfl
 |cons t ts T=>exact(bE (show yr me n (.str t)=some (.str t) by cases n<;>rfl)).trans (bE T)
theorem wO(n:Nat)(h:me[l]?=some (.list (ts.map .str))):yr me (n+1) (.loc l)=some (.list (ts.map PyData.str)):=(bE h).trans (bE (Ep ts))
theorem LE(xs:List Str):∀I:List Str,PyData.eqvAll (xs.map PyData.str) (I.map PyData.str)=nG xs I:=by
 induction xs with
 |nil=>intro I;cases I<;>simp[PyData.eqvAll,nG]
 |cons x xs T=>
  intro I;cases I with
  |nil=>simp[PyData.eqvAll,nG]
  |cons y I=>unfold nG at T ⊢;rw[cy,cy,PyData.eqvAll,T,PyData.eqv,md,aM,decide_eq_true_iff,decide_eq_true_iff,beq_iff_eq,List.cons.injEq]
def sg(ts:List Str):Prop:=∀t∈ts,PySem.PyData.strOk t=true
theorem rY:∀{ts:List Str},sg ts->PyData.canLayAll0 (ts.map PyData.str)=true/\PyData.depthAll (ts.map PyData.str)=0
 | [],_=>⟨by simp[PyData.canLayAll0],by simp[PyData.depthAll]⟩
 |t::ts,h=>by refine xA (rY (ts:=ts) λx B=>h x (.tail _ B)) λh1 h2=>?_;rw[cy,PyData.canLayAll0,PyData.depthAll,h1,h2,PyData.canLay0,h t (.head _),PyData.depth];exact⟨rfl,rfl⟩
theorem ui(h:sg ts):SeqAt.shaped (.list (ts.map PyData.str))=true:=by refine xA (rY h) λh1 h2=>?_;unfold SeqAt.shaped;rw[PyData.canLay0,PyData.depth,h1,h2];rfl
theorem LF{l':Nat}{K:Bool->Prop}(h:me[l]?=some (.list (xs.map .str)))(h':me[l']?=some (.list (I.map .str)))(B:sg xs)(hy:sg I)(q:K (nG xs I)):aA (yr me 4 (.loc l)) λx=>aA (yr me 4 (.loc l')) λy=>gd (SeqAt.shaped x&&SeqAt.shaped y) (K (PyData.eqv x y)):=by refine av (wO 3 h) (av (wO 3 h') (b_ (by rw[ui B,ui hy];rfl) ?_));rw[PyData.eqv,LE];exact q
theorem jH{lo:List (Option V)}{a b:V}{f m:Option Int}{xs I:List V}{Q:V->St->Prop}(h:me[l]?=some (.list xs))(hz:xs.length<=10000)(ha:mr a=some f)(hb:mr b=some m)(e:fS xs f m=I)(q:Q (.loc me.length) ⟨lo,ce,me++[.list I]⟩):aA (mr a) λf=>aA (mr b) λm=>aA (dC me (.loc l)) λp=>gd (bw p.2.length) (Q (.loc me.length) ⟨lo,ce,me++[.list (fS p.2 f m)]⟩):=by subst e;exact av ha (av hb (av (cW h) (b_ (cM hz) q)))
theorem oH(xs:List α)(n:Nat):fS xs (some ((n:Nat):Int)) none=xs.drop n:=by
 refine(?_ :(xs.drop (Nat.min n xs.length)).take (xs.length-Nat.min n xs.length)=xs.drop n);have:Nat.min n xs.length=min n xs.length:=rfl;rw[this];by_cases h:n<=xs.length
 ·rw[kg h,oQ (by rw[cb];exact aQ [_] .nil 0 (.v 0) (.v 0) tt)]
 ·rw[kb (by exact aQ [_,_] (.g 1 (.v 0) (.v 1) .nil) 0 (.v 1) (.v 0) tt h),kq,List.take_zero,oR (by exact aQ [_,_] (.g 1 (.v 0) (.v 1) .nil) 0 (.v 1) (.v 0) tt h)]
theorem O3(xs:List α):fS xs none none=xs:=by refine(?_ :(xs.drop 0).take (xs.length-0)=xs);rw[gW,Nat.sub_zero,List.take_length]
theorem O4(xs:List α)(n:Nat):fS xs none (some (Int.negSucc n))=(xs.reverse.drop (n+1)).reverse:=by refine(?_ :(xs.drop 0).take (xs.length-(n+1)-0)=_);rw[gW,Nat.sub_zero,List.drop_reverse,gN]
noncomputable def TH(n:Nat):V:=.int (-((n:Nat):Int))
noncomputable def zS:List Str->List Str->Bool
 |x::_,y::_=>d4 x y
 |_,_=>false
noncomputable def cH:List Str->List Str->List Str×List Str
 |x::a,y::b=>bif d4 x y then cH a b else(x::a,y::b)
 |a,b=>(a,b)
theorem fB(x y:Str)(a b:List Str):cH (x::a) (y::b)=bif d4 x y then cH a b else(x::a,y::b):=rfl
theorem B1(h:zS a b=false):cH a b=(a,b):=by
 cases a with
 |nil=>rfl
 |cons x a=>cases b with
  |nil=>rfl
  |cons y b=>rw[fB,show d4 x y=false from h];rfl
theorem O5{B:ad Fl}(hC:∀n X K,(∀X',K (zS (a.drop n) (b.drop n)) (S n (X++X')))->n<=a.length->C (S n X) K)(w:∀n X K,K .next (S (n+1) X)->n<=a.length->B (S n X) K):∀m n X,n<=a.length->(a.drop n).length<=m->(∀n' X',n'<=a.length->(a.drop n',b.drop n')=cH (a.drop n) (b.drop n)->Q .next (S n' (X++X')))->mL C B (m+1) (S n X) Q:=λm=>by
 induction m with
 |zero=>intro n X hn hm h;refine hC n X _ (λX'=>?_) hn;have e:=sj (Nat.le_zero.mp hm);refine xQ (by rw[e];rfl) (h n X' hn ?_);rw[e];cases b.drop n<;>rfl
 |succ m T=>
  intro n X hn hm h;refine hC n X _ (λX'=>?_) hn;refine bu (λe=>?_) (λe=>h n X' hn (B1 e).symm);cases ea:a.drop n with
  |nil=>rw[ea] at e;exact nB e
  |cons x i=>cases eb:b.drop n with
   |nil=>rw[ea,eb] at e;exact nB e
   |cons y b'=>
    rw[ea,eb] at e h;have e:d4 x y=true:=e;have e1:=(fD ea).2;have e2:=(fD eb).2;have Z:n+1<=a.length:=by have:=ag List.length ea;rw[cb,aJ] at this;exact lG (λq1 q2=>aQ [_,_,_,_] (.f 1 (.v 0) (.a (.v 1) (.n 1)) (.e 1 (.a (.v 0) (.v 2)) (.v 3) .nil)) 0 (.a (.v 2) (.n 1)) (.v 3) tt this q2) (λq1 q2=>aQ [_,_,_,_] (.c 1 (.v 0) (.v 1) (.f 1 (.v 2) (.a (.v 3) (.n 1)) (.e 1 (.v 2) (.n 0) .nil))) 0 (.a (.v 0) (.n 1)) (.v 1) tt hn this q2)
    refine w n _ _ (T (n+1) _ Z ?_ λn' X'' k h'=>?_) hn
    ·rw[e1];rw[ea,aJ] at hm;exact oP hm
    ·rw[au];refine h n' _ k ?_;rw[h',e1,e2,fB,e];rfl
theorem B2{B:ad Fl}{σ:St}(e:S 0 []=σ)(hC:∀n X K,(∀X',K (zS (a.drop n) (b.drop n)) (S n (X++X')))->n<=a.length->C (S n X) K)(w:∀n X K,K .next (S (n+1) X)->n<=a.length->B (S n X) K)(h:∀n X,n<=a.length->(a.drop n,b.drop n)=cH a b->Q .next (S n X)):mL C B (a.length+1) σ Q:=by subst e;refine O5 hC w a.length 0 [] (aW _) (aF _) λn X hn e=>?_;rw[kh];exact h n X hn e
noncomputable def fr(a b:Nat)(mx:Int)(p q:Option V)(r:List (Option V)):List (Option V):=some (.loc a)::some (.loc b)::some (.int mx)::p::q::r
theorem F2{xs:List V}{n:Nat}{v:V}(hz:xs.length<=1000)(e:xs.reverse[n]?=some v):vf xs (-((n:Nat):Int)-1)=some v:=by
 have Z:n<xs.length:=by have:=(List.getElem?_eq_some_iff.mp e).1;rwa[dH] at this
 rw[show-((n:Nat):Int)-1=Int.negSucc n from((Int.negSucc_eq n).trans Int.neg_add).symm];refine(?_ :vf.Ut (Nat.ble (n+1) xs.length&&bw xs.length) xs[xs.length-(n+1)]?=_);rw[cM (by exact aQ [_] (.c 1 (.v 0) (.n 1000) .nil) 0 (.v 0) (.n 10000) tt hz),d_ Z];rw[List.getElem?_reverse Z] at e;rw[show xs.length-(n+1)=xs.length-1-n by rw[Nat.sub_sub,gA 1]];exact e
section
variable {lo:List (Option V)}
theorem na{n:Nat}{xs I:List V}{Q:V->St->Prop}(h:me[l]?=some (.list xs))(hz:xs.length<=10000)(e:(xs.reverse.drop n).reverse=I)(q:Q (.loc me.length) ⟨lo,ce,me++[.list I]⟩):br (!((-((n:Nat):Int))==0)) (aA (mr .none) λf=>aA (mr (.int (-((n:Nat):Int)))) λm=>aA (dC me (.loc l)) λp=>gd (bw p.2.length) (Q (.loc me.length) ⟨lo,ce,me++[.list (fS p.2 f m)]⟩)) (aA (mr .none) λf=>aA (mr .none) λm=>aA (dC me (.loc l)) λp=>gd (bw p.2.length) (Q (.loc me.length) ⟨lo,ce,me++[.list (fS p.2 f m)]⟩)):=by
 subst e;cases n with
 |zero=>refine xQ rfl ?_;refine jH h hz rfl rfl ?_ q;rw[O3,gW,gN]
 |succ n=>refine w5 rfl ?_;exact jH h hz rfl rfl (O4 xs n) q
end
theorem uV(xs:List Str)(n:Nat):((xs.map V.str).reverse.drop n).reverse=((xs.reverse.drop n).reverse).map V.str:=by rw[gU,km,gU]
section
noncomputable abbrev O6 (P:Params):df:=fc (KK P) 224 ["a","b","max_cost","pre","post","row","result","bindex","bchar","distance","minimum","index","substitute","insert_delete"] []
noncomputable def XB:List Str:=["_MOVE_COST","len","_MAX_STRING_SIZE","list","range","_substitution_cost","min"]
abbrev jI(i j:Nat):=NN O6 XB 224 i j
theorem TI(P:Params):cc (O6 P) XB .cell:=ip (by kernel_rfl)
variable {a b:Nat}{r5:List (Option V)}
theorem Er{n:Nat}(e:xs.drop n=x::r):(xs.map V.str)[n]?=some (.str x):=by rw[bi,(fD e).1];rfl
theorem F3{n:Nat}(e:xs.reverse.drop n=x::r):(xs.map V.str).reverse[n]?=some (.str x):=by rw[<-gU];exact Er e
noncomputable def Es:jI 2 0:=⟨_,λU H=>by exact(yS (cG (bN (a7 (iL (ai H 0 rfl) (gK (ai H 3 rfl)) iK)) (bN (a7 (iL (ai H 1 rfl) (gK (ai H 3 rfl)) iK)) (bN (aN gr (eP (ai H 0 rfl) (ai H 3 rfl)) (eP (ai H 1 rfl) (ai H 3 rfl))) gF)))) (ab (BB H 3 kK rfl bv) aC))⟩
noncomputable def Et:jI 6 0:=⟨_,λU H=>by exact(yS (cG (bN (a7 (iL (ai H 0 rfl) iK (gK (N2 (ai H 4 rfl) ik)))) (bN (a7 (iL (ai H 1 rfl) iK (gK (N2 (ai H 4 rfl) ik)))) (bN (aN gr (eP (ai H 0 rfl) (cZ qX (ai H 4 rfl) bv)) (eP (ai H 1 rfl) (cZ qX (ai H 4 rfl) bv))) gF)))) (ab (BB H 4 CK rfl bv) aC))⟩
section
theorem O7(U:cD P g)(ha:me[a]?=some (.list (xs.map .str)))(hb:me[b]?=some (.list (I.map .str)))(s:xs.length<=1000)(t:I.length<=1000)(h:∀n X,n<=xs.length->(xs.drop n,I.drop n)=cH xs I->Q .next ⟨fr a b mx (some (aO n)) q r5,ce,me++X⟩):Es.1 ⟨fr a b mx (some (aO 0)) q r5,ce,me⟩ Q:=by
 refine⟨xs.length+1,B2 (S:=λn X=>⟨fr a b mx (some (aO n)) q r5,ce,me++X⟩) (b:=I) (by rw[aS]) (λn X K h hn=>?_) (λn X K h hn=>h) h⟩;have z:(me++X)[a]?=_:=ac ha;have D:(me++X)[b]?=_:=ac hb;have h:∀X',K (zS (xs.drop n) (I.drop n)) ⟨fr a b mx (some (aO n)) q r5,ce,(me++X)++X'⟩:=λX'=>by rw[au];exact h X'
 revert z D h;generalize me++X=D9;intro z D h;refine jH (a:=aO n) (b:=.none) (I:=(xs.drop n).map .str) z (by rw[ax];exact aQ [_] (.c 1 (.v 0) (.n 1000) .nil) 0 (.v 0) (.n 10000) tt s) rfl rfl (by rw[oH,km]) ?_;refine jv aR (by rw[ax,cb];exact lG (λq1 q2=>aQ [_,_,_] (.c 1 (.v 0) (.n 1000) (.e 1 (.a (.v 1) (.v 2)) (.v 0) .nil)) 0 (.v 1) (.n 10000) tt s q2) (λq1 q2=>aQ [_] (.e 1 (.v 0) (.n 0) .nil) 0 (.v 0) (.n 10000) tt q2)) ?_;cases ea:xs.drop n with
 |nil=>rw[ea] at h;exact h _
 |cons x i=>
  refine jH (a:=aO n) (b:=.none) (I:=(I.drop n).map .str) (ac D) (by rw[ax];exact aQ [_] (.c 1 (.v 0) (.n 1000) .nil) 0 (.v 0) (.n 10000) tt t) rfl rfl (by rw[oH,km]) ?_;refine jv aR (by rw[ax,cb];exact lG (λq1 q2=>aQ [_,_,_] (.c 1 (.v 0) (.n 1000) (.e 1 (.a (.v 1) (.v 2)) (.v 0) .nil)) 0 (.v 1) (.n 10000) tt t q2) (λq1 q2=>aQ [_] (.e 1 (.v 0) (.n 0) .nil) 0 (.v 0) (.n 10000) tt q2)) ?_;cases eb:I.drop n with
  |nil=>rw[ea,eb] at h;rw[au];exact h _
  |cons y b'=>
   rw[ea,eb] at h;refine bJ (ac (ac z)) (jw (aQ [_,_] (.c 1 (.v 0) (.n 1000) (.c 1 (.v 1) (.v 0) .nil)) 0 (.v 1) (.n 10000) tt s hn) (Er ea)) ?_;refine bJ (ac (ac D)) (jw (aQ [_,_] (.c 1 (.v 0) (.n 1000) (.c 1 (.v 1) (.v 0) .nil)) 0 (.v 1) (.n 10000) tt s hn) (Er eb)) ?_;rw[au];refine bu (λe=>?_) (λe=>?_)
   ·have:=h ([O.list ((x::i).map .str)]++[O.list ((y::b').map .str)]);rw[show zS (x::i) (y::b')=true from e] at this;exact this
   ·have:=h ([O.list ((x::i).map .str)]++[O.list ((y::b').map .str)]);rw[show zS (x::i) (y::b')=false from e] at this;exact this
theorem LG(U:cD P g)(ha:me[a]?=some (.list (xs.map .str)))(hb:me[b]?=some (.list (I.map .str)))(s:xs.length<=1000)(t:I.length<=1000)(h:∀n X,n<=xs.length->(xs.reverse.drop n,I.reverse.drop n)=cH xs.reverse I.reverse->Q .next ⟨fr a b mx p (some (TH n)) r5,ce,me++X⟩):Et.1 ⟨fr a b mx p (some (TH 0)) r5,ce,me⟩ Q:=by
 refine⟨xs.reverse.length+1,B2 (by rw[aS]) (λn X K h hn=>?_) (λn X K h hn=>?_) (λn X hn=>h n X (by rw[<-dH];exact hn))⟩
 ·rw[dH] at hn;have z:(me++X)[a]?=_:=ac ha;have D:(me++X)[b]?=_:=ac hb;have h:∀X',K (zS (xs.reverse.drop n) (I.reverse.drop n)) ⟨fr a b mx p (some (TH n)) r5,ce,(me++X)++X'⟩:=λX'=>by rw[au];exact h X'
  revert z D h;generalize me++X=D9;intro z D h;refine na z (by rw[ax];exact aQ [_] (.c 1 (.v 0) (.n 1000) .nil) 0 (.v 0) (.n 10000) tt s) (uV xs n) ?_;refine jv aR (by rw[ax,dH,cb,dH];exact lG (λq1 q2=>aQ [_,_,_] (.c 1 (.v 0) (.n 1000) (.e 1 (.a (.v 1) (.v 2)) (.v 0) .nil)) 0 (.v 1) (.n 10000) tt s q2) (λq1 q2=>aQ [_] (.e 1 (.v 0) (.n 0) .nil) 0 (.v 0) (.n 10000) tt q2)) ?_;rw[ax,dH];cases ea:xs.reverse.drop n with
  |nil=>rw[ea] at h;exact h _
  |cons x i=>
   refine na (ac D) (by rw[ax];exact aQ [_] (.c 1 (.v 0) (.n 1000) .nil) 0 (.v 0) (.n 10000) tt t) (uV I n) ?_;refine jv aR (by rw[ax,dH,cb,dH];exact lG (λq1 q2=>aQ [_,_,_] (.c 1 (.v 0) (.n 1000) (.e 1 (.a (.v 1) (.v 2)) (.v 0) .nil)) 0 (.v 1) (.n 10000) tt t q2) (λq1 q2=>aQ [_] (.e 1 (.v 0) (.n 0) .nil) 0 (.v 0) (.n 10000) tt q2)) ?_;rw[ax,dH,au];cases eb:I.reverse.drop n with
   |nil=>rw[ea,eb] at h;exact h _
   |cons y b'=>
    rw[ea,eb] at h;refine bJ (ac z) (F2 (by rw[ax];exact s) (F3 ea)) ?_;refine bJ (ac D) (F2 (by rw[ax];exact t) (F3 eb)) ?_;refine bu (λe=>?_) (λe=>?_)
    ·rw[show zS (x::i) (y::b')=true from e] at h;exact h _
    ·rw[show zS (x::i) (y::b')=false from e] at h;exact h _
 ·refine(?_ :K .next ⟨fr a b mx p (some (V.int (-((n:Nat):Int)-1))) r5,ce,me++X⟩);rw[show-((n:Nat):Int)-1= -((n+1:Nat):Int) from(Int.neg_add (a:=(n:Int)) (b:=1)).symm];exact h
end
end
noncomputable def eM(x y:Int):Int:=bif decide (y<x) then y else x
structure Row where
 row:List Int
 res:Int
 mn:Int
noncomputable def uF(y:Str):List Str->List Int->Int->Int->Int->List Int->Row
 |x::a,u::us,d,r,mn,dn=>uF y a us u (eM (eM r u+2) (d+bn y x)) (eM mn (eM (eM r u+2) (d+bn y x))) (dn++[eM (eM r u+2) (d+bn y x)])
 |_,us,_,r,mn,dn=>⟨dn++us,r,mn⟩
noncomputable def lf(la:Nat)(x1:Option V)(mx:Option V)(x3 x4:Option V)(o:Nat)(r:Int)(x7:Option V)(y:Str)(d mn:Int)(nA mF j:Option V)(rr:List (Option V)):List (Option V):=some (.loc la)::x1::mx::x3::x4::some (.loc o)::some (.int r)::x7::some (.str y)::some (.int d)::some (.int mn)::nA::mF::j::rr
noncomputable def gh(row:List Int):O:=.list (row.map .int)
noncomputable def LH:ad Fl:=L2 λM=>∀{me:List O}{la o i:Nat}{xs:List Str}{row:List Int}{x y:Str}{u d r mn:Int}{x1 x2 x3 x4 x7 mF j:Option V}{rr:List (Option V)}{ce Q},me[la]?=some (.list (xs.map .str))->me[o]?=some (gh row)->xs[i]?=some x->row[i]?=some u->xs.length<=1000->row.length<=1000->x.length<=100000->y.length<=100000->
 (∀mF j,Q .next ⟨lf la x1 x2 x3 x4 o (eM (eM r u+2) (d+bn y x)) x7 y u (eM mn (eM (eM r u+2) (d+bn y x))) (some (aO i)) mF j rr,ce,me.set o (gh (row.set i (eM (eM r u+2) (d+bn y x))))⟩)->
 M ⟨lf la x1 x2 x3 x4 o r x7 y d mn (some (aO i)) mF j rr,ce,me⟩ Q
theorem LI{x y:Int}{K:Int->Prop}(q:K (eM x y)):br (decide (y<x)) (K y) (K x):=by
 unfold eM at q;cases h:decide (y<x) with
 |true=>rw[h] at q;exact q
 |false=>rw[h] at q;exact q
def Ql:ad Fl:=aV (ao (dY 6) λv=>ao (dY 5) λa=>ao (dY 11) λj=>ao (mu a j v) lz) (aV (ao (ao (dY 6) λa=>ao (dY 10) (wLt a)) (Sn (aV (ao (dY 6) (t_ 10)) (c8 Fl.next)) (c8 Fl.next))) (c8 Fl.next))
def XC:ad Fl:=aV (ao (ao (ao (dY 13) λv=>ao (ao (dY 12) λv=>ao (c8 []) (iY v)) (iY v)) Vl) (t_ 6)) Ql
section
theorem TJ(U:cD P g):NB g (O6 P) (k+1) (sd (cB (sd (cB (bh (KK P) 224) 15)) 3)) LH:=by
 have H:=TI P;refine NB.c (NB.at' rfl (by exact(ab (aP H 12 rfl (cZ gb (ai H 9 rfl) (b7 (g8 U (by kernel_rfl)) (Oa U).ok (k5 U H 5 8 rfl rfl) (ae (ai H 8 rfl) (ae (eP (ai H 0 rfl) (ai H 11 rfl)) ay))))) (ab (aP H 9 rfl (eP (ai H 5 rfl) (ai H 11 rfl))) (ab (aP H 13 rfl (cZ gb (b7 (λ_ _ _=>aX) EX (bG U H 6 6 rfl rfl (by kernel_rfl)) (ae (ai H 6 rfl) (ae (ai H 9 rfl) ay))) (og U H 0 1 rfl rfl))) (ab (aP H 6 rfl (b7 (λ_ _ _=>aX) EX (bG U H 6 6 rfl rfl (by kernel_rfl)) (ae (ai H 13 rfl) (ae (ai H 12 rfl) ay)))) (ab (Kd (ai H 6 rfl) (ai H 5 rfl) (ai H 11 rfl) (M:=by intro _;rfl)) (ab (il (aN Ps (ai H 6 rfl) (ai H 10 rfl)) (ab (aP H 10 rfl (ai H 6 rfl)) aC) aC) aC)))))))) ?_;refine qB (@λme la o i xs row x y u d r mn x1 x2 x3 x4 x7 mF j rr ce Q ha hr B N s zr lx w h=>?_);have hi:=(List.getElem?_eq_some_iff.mp N).1;have Hh:=(List.getElem?_eq_some_iff.mp B).1;refine bJ ha (jw (aQ [_,_] (.c 1 (.v 0) (.n 1000) (.c 1 (.a (.v 1) (.n 1)) (.v 0) .nil)) 0 (.v 1) (.n 10000) tt s Hh) (by rw[bi,B];rfl)) ?_;refine λ_ E=>E (d_ (am w (by decide))) (d_ (am lx (by decide))) ?_;refine bJ hr (jw (aQ [_,_] (.c 1 (.v 0) (.n 1000) (.c 1 (.a (.v 1) (.n 1)) (.v 0) .nil)) 0 (.v 1) (.n 10000) tt s Hh) (by rw[bi,N];rfl)) ?_;refine LI (K:=λm=>XC ⟨lf la x1 x2 x3 x4 o r x7 y u mn (some (aO i)) (some (.int (d+bn y x))) (some (.int (m+2))) rr,ce,me⟩ Q) ?_;refine LI (K:=λm=>Ql ⟨lf la x1 x2 x3 x4 o m x7 y u mn (some (aO i)) (some (.int (d+bn y x))) (some (.int (eM r u+2))) rr,ce,me⟩ Q) ?_;have:=h (some (.int (d+bn y x))) (some (.int (eM r u+2)));revert this;generalize eM (eM r u+2) (d+bn y x)=r';intro h;refine BY hr (by rw[ax];exact aQ [_] (.c 1 (.v 0) (.n 1000) .nil) 0 (.v 0) (.n 10000) tt zr) rfl (by rw[ax];exact hi) ?_;have e:(row.map V.int).set i (.int r')=(row.set i r').map V.int:=by rw[List.map_set]
 rw[e];unfold eM at h;refine bu (λe=>?_) (λe=>?_)
 ·rw[e] at h;exact h
 ·rw[e] at h;exact h
end
theorem Eu{o n:Nat}{y:Str}{x1 x2 x3 x4 x7:Option V}(qO:la≠o)(ha:me[la]?=some (.list (xs.map .str)))(Y_:o<me.length)(hn:xs.length=n)(s:xs.length<=1000)(lx:∀x∈xs,x.length<=100000)(w:y.length<=100000):∀(as:List Str)(us dn:List Int)(i:Nat)(d r mn:Int)(nA mF j:Option V),xs.drop i=as->us.length=as.length->dn.length=i-> (∀d9 nA mF j,Q .next ⟨lf la x1 x2 x3 x4 o (uF y as us d r mn dn).res x7 y d9 (uF y as us d r mn dn).mn nA mF j rr,ce,me.set o (gh (uF y as us d r mn dn).row)⟩)-> gu (gD 0 ((n:Nat):Int) 1) (du 11) LH (as.length+1) i ⟨lf la x1 x2 x3 x4 o r x7 y d mn nA mF j rr,ce,me.set o (gh (dn++us))⟩ Q:=λas=>by
 induction as with
 |nil=>intro us dn i d r mn nA mF j hd N hi h;have Z:=ag List.length hd;rw[cb,fL] at Z;exact iP (uT (lG (λq1 q2=>aQ [_,_,_,_] (.f 1 (.v 0) (.v 1) (.e 1 (.v 2) (.n 0) (.f 1 (.a (.v 2) (.v 3)) (.v 0) .nil))) 0 (.v 1) (.v 3) tt hn Z q2) (λq1 q2=>aQ [_,_,_] (.f 1 (.v 0) (.v 1) (.c 1 (.a (.v 0) (.n 1)) (.v 2) .nil)) 0 (.v 1) (.v 2) tt hn q1))) (h d nA mF j)
 |cons x as T=>
  intro us dn i d r mn nA mF j hd N hi h;cases us with
  |nil=>cases N
  |cons u us=>refine xA (fD hd) λM d2=>?_;have Z:=(List.getElem?_eq_some_iff.mp M).1;have S:=ag List.length hd;rw[cb,aJ] at S;refine fq (b:=aO i) ((zG (aQ [_,_,_] (.e 1 (.v 0) (.v 1) (.c 1 (.a (.v 2) (.n 1)) (.v 0) .nil)) 0 (.a (.v 2) (.n 1)) (.v 1) tt hn Z)).trans (by rw[fW,Int.mul_one];rfl)) ?_;refine λ_ E=>E ((c7 (λe=>qO e.symm)).trans ha) (fG Y_) M (by rw[sq (by exact aQ [_,_] (.e 1 (.v 0) (.v 1) .nil) 0 (.v 0) (.v 1) tt hi),hi,kq];rfl) s (by rw[ak,aJ];have:=fV N;exact lG (λq1 q2=>aQ [_,_,_,_,_,_] (.c 1 (.v 0) (.n 1000) (.e 1 (.v 1) (.v 2) (.f 1 (.v 3) (.a (.v 4) (.n 1)) (.e 1 (.v 5) (.v 4) (.e 1 (.a (.v 3) (.v 2)) (.v 0) .nil))))) 0 (.a (.v 1) (.a (.v 5) (.n 1))) (.n 1000) tt s hi S this q2) (λq1 q2=>aQ [_,_,_,_,_,_] (.c 1 (.v 0) (.n 1000) (.e 1 (.v 1) (.v 2) (.c 1 (.a (.v 2) (.n 1)) (.v 0) (.f 1 (.v 3) (.a (.v 4) (.n 1)) (.e 1 (.v 5) (.v 4) (.e 1 (.v 3) (.n 0) .nil)))))) 0 (.a (.v 1) (.a (.v 5) (.n 1))) (.n 1000) tt s hi Z S this q2)) (lx x (eg M)) w λmF j=>?_;rw[List.set_set,show(dn++u::us).set i (eM (eM r u+2) (d+bn y x))=(dn++[eM (eM r u+2) (d+bn y x)])++us by rw[lU _ _ (by exact aQ [_,_] (.e 1 (.v 0) (.v 1) .nil) 0 (.v 0) (.v 1) tt hi),hi,kq,au];rfl];refine T us _ (i+1) u _ _ _ _ _ d2 (fV N) (by rw[ak,hi];rfl) h
theorem LJ{xs:List O}{i:Nat}{o:O}(h:xs[i]?=some o):xs.set i o=xs:=by
 refine List.ext_getElem? λj=>?_;by_cases e:i=j
 ·subst e;rw[fG (List.getElem?_eq_some_iff.mp h).1,h]
 ·rw[c7 e]
noncomputable def TK:Int:=9223372036854775807
noncomputable def dX(y:Str)(xs:List Str)(row:List Int)(i:Nat):Row:=uF y xs row (((i:Nat):Int)*2) (((i:Nat):Int)*2) TK []
noncomputable def LK:ad Fl:=L2 λM=>∀{me:List O}{la lb o i:Nat}{xs I:List Str}{row:List Int}{y:Str}{mx r:Int}{x3 x4 x8 x9 uG nA mF j:Option V}{rr:List (Option V)}{ce Q},la≠o->me[la]?=some (.list (xs.map .str))->me[lb]?=some (.list (I.map .str))->me[o]?=some (gh row)->row.length=xs.length->I[i]?=some y->xs.length<=1000->I.length<=1000->(∀x∈xs,x.length<=100000)->(∀x∈I,x.length<=100000)->
 (∀X x8 x9 uG nA mF j,br (decide (mx<(dX y xs row i).mn)) (Q (.ret (.int (mx+1))) ⟨some (.loc la)::some (.loc lb)::some (.int mx)::x3::x4::some (.loc o)::some (.int (dX y xs row i).res)::some (aO i)::x8::x9::uG::nA::mF::j::rr,ce,me.set o (gh (dX y xs row i).row)++X⟩)
 (Q .next ⟨some (.loc la)::some (.loc lb)::some (.int mx)::x3::x4::some (.loc o)::some (.int (dX y xs row i).res)::some (aO i)::x8::x9::uG::nA::mF::j::rr,ce,me.set o (gh (dX y xs row i).row)++X⟩))->
 M ⟨some (.loc la)::some (.loc lb)::some (.int mx)::x3::x4::some (.loc o)::some (.int r)::some (aO i)::x8::x9::uG::nA::mF::j::rr,ce,me⟩ Q
section
theorem TL(U:cD P g):NB g (O6 P) (k+1) (sd (cB (bh (KK P) 224) 15)) LK:=by
 have H:=TI P;refine NB.c (NB.at' rfl (by exact(ab (aP H 8 rfl (eP (ai H 1 rfl) (ai H 7 rfl))) (ab (qz (cZ xo (ai H 7 rfl) (og U H 0 1 rfl rfl)) (Su (b8 H 9 rfl) (b8 H 6 rfl) (he:=by intro _;rfl)) (M:=by intro _;rfl) (hw:=by intro _;rfl)) (ab (aP H 10 rfl bv) (ab (tg (b7 (λ_ _ _=>fX) mP (bG U H 4 1 rfl rfl (by kernel_rfl)) (ae (b7 (λ_ _ _=>aX) eX (bG U H 1 2 rfl rfl (by kernel_rfl)) (ae (ai H 0 rfl) ay)) ay)) (b8 H 11 rfl) (TJ U) (z:=by intro _ _;rfl)) (ab (il (aN vc (ai H 10 rfl) (ai H 2 rfl)) (ab (cP (cZ gb (ai H 2 rfl) bv)) aC) aC) aC))))))) ?_;refine qB (@λme la lb o i xs I row y mx r x3 x4 x8 x9 uG nA mF j rr ce Q qO ha hb hr Z hy s t lx w h=>?_);have hi:=(List.getElem?_eq_some_iff.mp hy).1;have Y_:=(List.getElem?_eq_some_iff.mp hr).1;refine bJ (xs:=I.map .str) (i:=((i:Nat):Int)) (v:=.str y) hb (jw (aQ [_,_] (.c 1 (.v 0) (.n 1000) (.c 1 (.a (.v 1) (.n 1)) (.v 0) .nil)) 0 (.v 1) (.n 10000) tt t hi) (by rw[bi,hy];rfl)) ?_;refine b_ (b:=Nat.ble (((i:Nat):Int)).natAbs 1000000) (d_ (by rw[Int.natAbs_natCast];exact aQ [_,_] (.c 1 (.v 0) (.n 1000) (.c 1 (.a (.v 1) (.n 1)) (.v 0) .nil)) 0 (.v 1) (.n 1000000) tt t hi)) ?_;refine eJ (xs:=xs.map .str) ha (by rw[ax];exact aQ [_] (.c 1 (.v 0) (.n 1000) .nil) 0 (.v 0) (.n 10000) tt s) ?_;rw[ax];refine zH (me:=me++[O.rng 0 ((xs.length:Nat):Int) 1]) (l:=me.length) (n:=xs.length) aR (aQ [_] (.c 1 (.v 0) (.n 1000) .nil) 0 (.v 0) (.n 10000) tt s) (xs.length+1) ?_;have Za:(me++[O.rng 0 ((xs.length:Nat):Int) 1]).set o (gh ([]++row))=me++[O.rng 0 ((xs.length:Nat):Int) 1]:=LJ (ac hr);have:=Eu (la:=la) (o:=o) (n:=xs.length) (me:=me++[O.rng 0 ((xs.length:Nat):Int) 1]) (xs:=xs) (y:=y) (x1:=some (.loc lb)) (x2:=some (.int mx)) (x3:=x3) (x4:=x4) (x7:=some (aO i)) (rr:=rr) (ce:=ce) (Q:=sS (aV (ao (ao (dY 10) λa=>ao (dY 2) (wGt a)) (Sn (aV (ao (ao (dY 2) λa=>ao (eK (V.int 1)) (QP a)) wc) (c8 Fl.next)) (c8 Fl.next))) (c8 Fl.next)) Q) qO (ac ha) (by rw[ak];exact aQ [_,_,_] (.c 1 (.a (.v 0) (.n 1)) (.v 1) .nil) 0 (.a (.v 0) (.n 1)) (.a (.v 1) (.v 2)) tt Y_) rfl s lx (w y (eg hy)) xs row [] 0 (((i:Nat):Int)*2) (((i:Nat):Int)*2) TK nA mF j rfl Z rfl λd nA mF j=>?_
 ·rw[Za] at this;exact this
 ·have e:(me++[O.rng 0 ((xs.length:Nat):Int) 1]).set o (gh (dX y xs row i).row)=me.set o (gh (dX y xs row i).row)++[O.rng 0 ((xs.length:Nat):Int) 1]:=oV _ _ Y_;refine(?_ :sS _ Q .next ⟨lf la (some (.loc lb)) (some (.int mx)) x3 x4 o (dX y xs row i).res (some (aO i)) y d (dX y xs row i).mn nA mF j rr,ce,(me++[O.rng 0 ((xs.length:Nat):Int) 1]).set o (gh (dX y xs row i).row)⟩);rw[e];have:=h [O.rng 0 ((xs.length:Nat):Int) 1] (some (.str y)) (some (.int d)) (some (.int (dX y xs row i).mn)) nA mF j;refine bu (λe=>?_) (λe=>?_)
  ·rw[e] at this;exact this
  ·rw[e] at this;exact this
end
noncomputable def uj(xs:List Str)(mx:Int):List Str->Nat->List Int->Int->Int
 | [],_,_,r=>r
 |y::I,i,row,r=>bif decide (mx<(dX y xs row i).mn) then mx+1 else uj xs mx I (i+1) (dX y xs row i).row (dX y xs row i).res
theorem Ew(xs:List Str)(mx:Int)(y:Str)(I:List Str)(i:Nat)(row:List Int)(r:Int):uj xs mx (y::I) i row r=bif decide (mx<(dX y xs row i).mn) then mx+1 else uj xs mx I (i+1) (dX y xs row i).row (dX y xs row i).res:=rfl
theorem LL(y:Str):∀(as:List Str)(us:List Int)(d r mn:Int)(dn:List Int),us.length=as.length->(uF y as us d r mn dn).row.length=dn.length+as.length:=λas=>by
 induction as with
 |nil=>intro us d r mn dn h;refine(?_ :(dn++us).length=_);rw[ak,h]
 |cons x as T=>
  intro us d r mn dn h;cases us with
  |nil=>cases h
  |cons u us=>refine(T us _ _ _ _ (fV h)).trans ?_;rw[ak];refine(?_ :dn.length+1+as.length=dn.length+(as.length+1));exact fC [_,_] .nil 0 (.a (.a (.v 0) (.n 1)) (.v 1)) (.a (.v 0) (.a (.v 1) (.n 1))) tt tt
theorem Ey{o n:Nat}{x3 x4:Option V}(qO:la≠o)(hnb:lb≠o)(YD:me.length<=o)(hn:I.length=n)(s:xs.length<=1000)(t:I.length<=1000)(lx:∀x∈xs,x.length<=100000)(w:∀x∈I,x.length<=100000):∀(bs:List Str)(Y:List O)(row:List Int)(i:Nat)(r:Int)(x7 x8 x9 uG nA mF j:Option V),I.drop i=bs->row.length=xs.length->(me++Y)[la]?=some (.list (xs.map .str))->(me++Y)[lb]?=some (.list (I.map .str))->(me++Y)[o]?=some (gh row)-> (∀lo Y',Q (.ret (.int (uj xs mx bs i row r))) ⟨lo,ce,me++Y'⟩)-> gu (gD 0 ((n:Nat):Int) 1) (du 7) LK (bs.length+1) i ⟨some (.loc la)::some (.loc lb)::some (.int mx)::x3::x4::some (.loc o)::some (.int r)::x7::x8::x9::uG::nA::mF::j::rr,ce,me++Y⟩ (sS (aV (ao (dY 6) wc) (c8 .next)) Q):=λbs=>by
 induction bs with
 |nil=>intro Y row i r x7 x8 x9 uG nA mF j hd Z ha hb hr h;have Z:=ag List.length hd;rw[cb,fL] at Z;exact iP (uT (lG (λq1 q2=>aQ [_,_,_,_] (.f 1 (.v 0) (.v 1) (.e 1 (.v 2) (.n 0) (.f 1 (.a (.v 2) (.v 3)) (.v 0) .nil))) 0 (.v 1) (.v 3) tt hn Z q2) (λq1 q2=>aQ [_,_,_] (.f 1 (.v 0) (.v 1) (.c 1 (.a (.v 0) (.n 1)) (.v 2) .nil)) 0 (.v 1) (.v 2) tt hn q1))) (h _ Y)
 |cons y bs T=>
  intro Y row i r x7 x8 x9 uG nA mF j hd Z ha hb hr h;refine xA (fD hd) λM d2=>?_;have S:=(List.getElem?_eq_some_iff.mp M).1;refine fq (b:=aO i) ((zG (aQ [_,_,_] (.e 1 (.v 0) (.v 1) (.c 1 (.a (.v 2) (.n 1)) (.v 0) .nil)) 0 (.a (.v 2) (.n 1)) (.v 1) tt hn S)).trans (by rw[fW,Int.mul_one];rfl)) ?_;refine λ_ E=>E qO ha hb hr Z M s t lx w λX x8 x9 uG nA mF j=>?_;have e:(me++Y).set o (gh (dX y xs row i).row)++X=me++(Y.set (o-me.length) (gh (dX y xs row i).row)++X):=by rw[lU _ _ YD,au]
  have e1:((me++Y).set o (gh (dX y xs row i).row)++X)[la]?=some (.list (xs.map .str)):=ac ((c7 (λe=>qO e.symm)).trans ha);have e2:((me++Y).set o (gh (dX y xs row i).row)++X)[lb]?=some (.list (I.map .str)):=ac ((c7 (λe=>hnb e.symm)).trans hb);have e3:((me++Y).set o (gh (dX y xs row i).row)++X)[o]?=some (gh (dX y xs row i).row):=ac (fG (List.getElem?_eq_some_iff.mp hr).1);rw[e] at e1 e2 e3 ⊢;have h:∀lo Y',Q (.ret (.int (bif decide (mx<(dX y xs row i).mn) then mx+1 else uj xs mx bs (i+1) (dX y xs row i).row (dX y xs row i).res))) ⟨lo,ce,me++Y'⟩:=h;refine bu (λe=>?_) (λe=>?_)
  ·rw[e] at h;exact h _ _
  ·rw[e] at h;refine T _ (dX y xs row i).row (i+1) (dX y xs row i).res _ _ _ _ _ _ _ d2 ?_ e1 e2 e3 h;exact(LL y xs row _ _ _ [] Z).trans (eB _)
noncomputable def tI(n:Nat):List Int:=(List.range n).map λ(i:Nat)=>2+((i:Nat):Int)*2
theorem Ez(n:Nat):Builtin.Range.rangeSize 2 (2*(((n:Nat):Int)+1)) 2=((n:Nat):Int):=by
 unfold Builtin.Range.rangeSize;rw[a6 (by decide)];by_cases h:(2:Int)<2*(((n:Nat):Int)+1)
 ·rw[a6 h];omega
 ·rw[aH h];omega
theorem zT{i:Int}(h:0<=i)(h':i<=100000):Builtin.Range.rangeFitsLong i=true:=by unfold Builtin.Range.rangeFitsLong;simp;omega
theorem O8{n:Nat}(h:n<=1000):Builtin.Range.small 2 (2*(((n:Nat):Int)+1)) 2=true:=by unfold Builtin.Range.small;rw[Ez,zT (by decide) (by decide),zT (by omega) (by omega),zT (by omega) (by omega),a6 (by decide),zT (by omega) (by omega),Bool.or_true];rfl
theorem Ik{o:Option O}{a b c:Int}{K:Int->Int->Int->Prop}{B:Int->Int->Int->Bool}(h:o=some (.rng a b c))(M:B a b c=true)(q:K a b c):aA (AO o) λp=>gd (B p.1 p.2.1 p.2.2) (K p.1 p.2.1 p.2.2):=by subst h;exact b_ M q
theorem LM{lo:List (Option V)}{n:Nat}{Q:V->St->Prop}(h:me[l]?=some (.rng 2 (2*(((n:Nat):Int)+1)) 2))(hn:n<=1000)(q:Q (.loc me.length) ⟨lo,ce,me++[gh (tI n)]⟩):aA (AO me[l]?) λp=>gd (Builtin.Range.small p.1 p.2.1 p.2.2&&decide (0<=Builtin.Range.rangeSize p.1 p.2.1 p.2.2)&&decide (Builtin.Range.rangeSize p.1 p.2.1 p.2.2<=1000)) (Q (.loc me.length) ⟨lo,ce,me++[.list (mY p.1 p.2.2 (Builtin.Range.rangeSize p.1 p.2.1 p.2.2).toNat)]⟩):=by
 refine Ik (B:=λa b c=>Builtin.Range.small a b c&&decide (0<=Builtin.Range.rangeSize a b c)&&decide (Builtin.Range.rangeSize a b c<=1000)) (K:=λa b c=>Q (.loc me.length) ⟨lo,ce,me++[.list (mY a c (Builtin.Range.rangeSize a b c).toNat)]⟩) h ?_ ?_
 ·rw[O8 hn,Ez,dI (gl n),dI (by omega)];rfl
 ·rw[Ez,Int.toNat_natCast,show mY 2 2 n=(tI n).map V.int by unfold mY tI;rw[ia];rfl];exact q
noncomputable def tJ(xs I:List Str)(mx:Int):Int:=bif decide (mx<(((I.length:Nat):Int)-((xs.length:Nat):Int))*2) then mx+1 else uj xs mx I 0 (tI xs.length) 0
noncomputable def uH(xs I:List Str)(mx:Int):Int:=bif xs.isEmpty||I.isEmpty then 2*(((xs.length:Nat):Int)+((I.length:Nat):Int)) else bif decide (((I.length:Nat):Int)<((xs.length:Nat):Int)) then tJ I xs mx else tJ xs I mx
noncomputable def Qn(xs I:List Str)(mx:Int):Int:=bif nG xs I then 0 else uH (cH (cH xs I).1.reverse (cH xs I).2.reverse).1.reverse (cH (cH xs I).1.reverse (cH xs I).2.reverse).2.reverse mx
section
noncomputable def TM:jI 0 0:=⟨_,λU H=>by exact(il (aN CV (ai H 0 rfl) (ai H 1 rfl)) (ab (cP bv) aC) aC)⟩
noncomputable def LN:jI 1 0:=⟨_,λU H=>by exact(aP H 3 rfl bv)⟩
noncomputable def LO:jI 3 0:=⟨_,λU H=>by exact(aP H 0 rfl (iL (ai H 0 rfl) (gK (ai H 3 rfl)) iK))⟩
noncomputable def LP:jI 4 0:=⟨_,λU H=>by exact(aP H 1 rfl (iL (ai H 1 rfl) (gK (ai H 3 rfl)) iK))⟩
noncomputable def LQ:jI 5 0:=⟨_,λU H=>by exact(aP H 4 rfl bv)⟩
noncomputable def LR:jI 7 0:=⟨_,λU H=>by exact(aP H 0 rfl (iL (ai H 0 rfl) iK (gK (N2 (ai H 4 rfl) ik))))⟩
noncomputable def LS:jI 8 0:=⟨_,λU H=>by exact(aP H 1 rfl (iL (ai H 1 rfl) iK (gK (N2 (ai H 4 rfl) ik))))⟩
noncomputable def EA:jI 9 0:=⟨_,λU H=>by exact(il (cG (g_ (n_ (a7 (ai H 0 rfl))) (g_ (n_ (a7 (ai H 1 rfl))) tf))) (ab (cP (cZ xo (og U H 0 1 rfl rfl) (cZ gb (b7 (λ_ _ _=>aX) eX (bG U H 1 2 rfl rfl (by kernel_rfl)) (ae (ai H 0 rfl) ay)) (b7 (λ_ _ _=>aX) eX (bG U H 1 2 rfl rfl (by kernel_rfl)) (ae (ai H 1 rfl) ay))))) aC) aC)⟩
noncomputable def zU:jI 10 0:=⟨_,λU H=>by exact(il (cG (g_ (aN vc (b7 (λ_ _ _=>aX) eX (bG U H 1 2 rfl rfl (by kernel_rfl)) (ae (ai H 0 rfl) ay)) (og U H 2 0 rfl rfl)) (g_ (aN vc (b7 (λ_ _ _=>aX) eX (bG U H 1 2 rfl rfl (by kernel_rfl)) (ae (ai H 1 rfl) ay)) (og U H 2 0 rfl rfl)) tf))) fm aC)⟩
noncomputable def zV:jI 11 0:=⟨_,λU H=>by exact(il (aN Ps (b7 (λ_ _ _=>aX) eX (bG U H 1 2 rfl rfl (by kernel_rfl)) (ae (ai H 1 rfl) ay)) (b7 (λ_ _ _=>aX) eX (bG U H 1 2 rfl rfl (by kernel_rfl)) (ae (ai H 0 rfl) ay))) (ab (Ss H 0 1 rfl rfl (nF (ae (ai H 1 rfl) (ae (ai H 0 rfl) ay))) (hw:=by intro _;rfl) (M:=by intro _;rfl)) aC) aC)⟩
noncomputable def uW:jI 12 0:=⟨_,λU H=>by exact(il (aN vc (cZ xo (cZ qX (b7 (λ_ _ _=>aX) eX (bG U H 1 2 rfl rfl (by kernel_rfl)) (ae (ai H 1 rfl) ay)) (b7 (λ_ _ _=>aX) eX (bG U H 1 2 rfl rfl (by kernel_rfl)) (ae (ai H 0 rfl) ay))) (og U H 0 1 rfl rfl)) (ai H 2 rfl)) (ab (cP (cZ gb (ai H 2 rfl) bv)) aC) aC)⟩
noncomputable def uX:jI 13 0:=⟨_,λU H=>by exact(aP H 5 rfl (b7 (λ_ _ _=>fX) Bz (bG U H 3 7 rfl rfl (by kernel_rfl)) (ae (b7 (λ_ _ _=>fX) DC (bG U H 4 1 rfl rfl (by kernel_rfl)) (ae (og U H 0 1 rfl rfl) (ae (cZ xo (og U H 0 1 rfl rfl) (cZ gb (b7 (λ_ _ _=>aX) eX (bG U H 1 2 rfl rfl (by kernel_rfl)) (ae (ai H 0 rfl) ay)) bv)) (ae (og U H 0 1 rfl rfl) ay)))) ay)))⟩
noncomputable def uY:jI 14 0:=⟨_,λU H=>by exact(aP H 6 rfl bv)⟩
noncomputable def uZ:jI 15 1:=⟨_,λU H=>by exact(tg (b7 (λ_ _ _=>fX) mP (bG U H 4 1 rfl rfl (by kernel_rfl)) (ae (b7 (λ_ _ _=>aX) eX (bG U H 1 2 rfl rfl (by kernel_rfl)) (ae (ai H 1 rfl) ay)) ay)) (b8 H 7 rfl) (TL U) (z:=by intro _ _;rfl))⟩
noncomputable def u0:jI 16 0:=⟨_,λU H=>by exact(cP (ai H 6 rfl))⟩
theorem B3(U:cD P g){x6 x7 x8 x9 uG nA mF j:Option V}(ha:me[la]?=some (.list (xs.map .str)))(hb:me[lb]?=some (.list (I.map .str)))(s:xs.length<=1000)(t:I.length<=1000)(lx:∀x∈xs,x.length<=100000)(w:∀x∈I,x.length<=100000)(h:∀lo Y,Q (.ret (.int (tJ xs I mx))) ⟨lo,ce,me++Y⟩):aV uW.1 (aV uX.1 (aV uY.1 (aV uZ.1 (aV u0.1 (c8 .next))))) ⟨some (.loc la)::some (.loc lb)::some (.int mx)::p::q::none::x6::x7::x8::x9::uG::nA::mF::j::rr,ce,me⟩ Q:=by
 have hla:=(List.getElem?_eq_some_iff.mp ha).1;have hlb:=(List.getElem?_eq_some_iff.mp hb).1;refine eJ hb (by rw[ax];exact aQ [_] (.c 1 (.v 0) (.n 1000) .nil) 0 (.v 0) (.n 10000) tt t) ?_;refine eJ ha (by rw[ax];exact aQ [_] (.c 1 (.v 0) (.n 1000) .nil) 0 (.v 0) (.n 10000) tt s) ?_;rw[ax,ax];refine b_ (b:=Nat.ble (((I.length:Nat):Int)-((xs.length:Nat):Int)).natAbs 1000000) (d_ (by omega)) ?_;unfold tJ at h;refine bu (b:=decide (mx<(((I.length:Nat):Int)-((xs.length:Nat):Int))*2)) (λe=>?_) (λe=>?_)
 ·rw[e] at h;have:=h (some (.loc la)::some (.loc lb)::some (.int mx)::p::q::none::x6::x7::x8::x9::uG::nA::mF::j::rr) [];rw[aS] at this;exact this
 rw[e] at h;refine eJ ha (by rw[ax];exact aQ [_] (.c 1 (.v 0) (.n 1000) .nil) 0 (.v 0) (.n 10000) tt s) ?_;rw[ax];refine b_ (b:= !(Builtin.divisionGoesByPylong (2*(((xs.length:Nat):Int)+1)-2) 2)) rfl ?_;refine LM (me:=me++[O.rng 2 (2*(((xs.length:Nat):Int)+1)) 2]) (n:=xs.length) aR s ?_;refine eJ (me:=(me++[O.rng 2 (2*(((xs.length:Nat):Int)+1)) 2])++[gh (tI xs.length)]) (ac (ac hb)) (by rw[ax];exact aQ [_] (.c 1 (.v 0) (.n 1000) .nil) 0 (.v 0) (.n 10000) tt t) ?_;rw[ax];refine zH (me:=((me++[O.rng 2 (2*(((xs.length:Nat):Int)+1)) 2])++[gh (tI xs.length)])++[O.rng 0 ((I.length:Nat):Int) 1]) (n:=I.length) aR (aQ [_] (.c 1 (.v 0) (.n 1000) .nil) 0 (.v 0) (.n 10000) tt t) (I.length+1) ?_;have z:(me++[O.rng 2 (2*(((xs.length:Nat):Int)+1)) 2]).length=me.length+1:=ak;have e1:((me++[O.rng 2 (2*(((xs.length:Nat):Int)+1)) 2])++[gh (tI xs.length)])++[O.rng 0 ((I.length:Nat):Int) 1]=me++[O.rng 2 (2*(((xs.length:Nat):Int)+1)) 2,gh (tI xs.length),.rng 0 ((I.length:Nat):Int) 1]:=by rw[au,au];rfl
 have:=Ey (la:=la) (lb:=lb) (o:=me.length+1) (x3:=p) (x4:=q) (rr:=rr) ((λq=>Av [_,_] (.c 1 (.a (.v 0) (.n 1)) (.v 1) (.f 1 (.v 0) (.a (.v 1) (.n 1)) .nil)) 0 tt hla q)) ((λq=>Av [_,_] (.c 1 (.a (.v 0) (.n 1)) (.v 1) (.f 1 (.v 0) (.a (.v 1) (.n 1)) .nil)) 0 tt hlb q)) (aQ [_] .nil 0 (.v 0) (.a (.v 0) (.n 1)) tt) rfl s t lx w I [.rng 2 (2*(((xs.length:Nat):Int)+1)) 2,gh (tI xs.length),.rng 0 ((I.length:Nat):Int) 1] (tI xs.length) 0 0 x7 x8 x9 uG nA mF j rfl (by unfold tI;rw[ax,j_]) (ac ha) (ac hb) gy h;rw[<-e1,<-z] at this;exact this
end
theorem wP:∀(a b:List Str),(∃n,n<=a.length/\(cH a b).1=a.drop n/\(cH a b).2=b.drop n)
 | [],b=>⟨0,aF _,rfl,rfl⟩
 |x::a,[]=>⟨0,aW _,rfl,rfl⟩
 |x::a,y::b=>by
  rw[fB];cases d4 x y with
  |true=>refine Am (wP a b) λn h e1 e2=>?_;exact⟨n+1,jz h,e1,e2⟩
  |false=>exact⟨0,aW _,rfl,rfl⟩
section
theorem LT(U:cD P g){x6 x7 x8 x9 uG nA mF j:Option V}(ha:me[la]?=some (.list (xs.map .str)))(hb:me[lb]?=some (.list (I.map .str)))(s:xs.length<=40)(t:I.length<=40)(lx:∀x∈xs,x.length<=100000)(w:∀x∈I,x.length<=100000)(h:∀lo Y,Q (.ret (.int (uH xs I mx))) ⟨lo,ce,me++Y⟩):aV EA.1 (aV zU.1 (aV zV.1 (aV uW.1 (aV uX.1 (aV uY.1 (aV uZ.1 (aV u0.1 (c8 .next)))))))) ⟨some (.loc la)::some (.loc lb)::some (.int mx)::p::q::none::x6::x7::x8::x9::uG::nA::mF::j::rr,ce,me⟩ Q:=by
 have za:(xs.map V.str).length<=10000:=by rw[ax];exact aQ [_] (.c 1 (.v 0) (.n 40) .nil) 0 (.v 0) (.n 10000) tt s
 have zb:(I.map V.str).length<=10000:=by rw[ax];exact aQ [_] (.c 1 (.v 0) (.n 40) .nil) 0 (.v 0) (.n 10000) tt t
 have done:(xs.isEmpty||I.isEmpty)=true->Q (.ret (.int (2*((((xs.map V.str).length:Nat):Int)+(((I.map V.str).length:Nat):Int))))) ⟨some (.loc la)::some (.loc lb)::some (.int mx)::p::q::none::x6::x7::x8::x9::uG::nA::mF::j::rr,ce,me⟩:=λe=>by unfold uH at h;rw[e] at h;have:=h (some (.loc la)::some (.loc lb)::some (.int mx)::p::q::none::x6::x7::x8::x9::uG::nA::mF::j::rr) [];rw[aS] at this;rw[ax,ax];exact this
 refine rK (K:=λb=>br (!b) _ _) ha za ?_;cases xs with
 |nil=>exact eJ ha za (eJ hb zb (done rfl))
 |cons x xs=>
  refine rK (K:=λb=>br (!b) _ _) hb zb ?_;cases I with
  |nil=>exact eJ ha za (eJ hb zb (done rfl))
  |cons y I=>
   refine eJ ha za ?_;refine xQ (dR (by rw[ax];omega)) ?_;refine eJ hb zb ?_;refine xQ (dR (by rw[ax];omega)) ?_;refine eJ hb zb ?_;refine eJ ha za ?_;rw[ax,ax];have h:∀lo Y,Q (.ret (.int (bif decide ((((y::I).length:Nat):Int)<(((x::xs).length:Nat):Int)) then tJ (y::I) (x::xs) mx else tJ (x::xs) (y::I) mx))) ⟨lo,ce,me++Y⟩:=h;refine bu (λe=>?_) (λe=>?_)
   ·rw[e] at h;refine av (gz aR) ?_;refine B3 (me:=me++[O.tup [.loc lb,.loc la]]) U (ac hb) (ac ha) (aQ [_] (.c 1 (.v 0) (.n 40) .nil) 0 (.v 0) (.n 1000) tt t) (aQ [_] (.c 1 (.v 0) (.n 40) .nil) 0 (.v 0) (.n 1000) tt s) w lx λlo Y=>?_;rw[au];exact h lo _
   ·rw[e] at h;exact B3 U ha hb (aQ [_] (.c 1 (.v 0) (.n 40) .nil) 0 (.v 0) (.n 1000) tt s) (aQ [_] (.c 1 (.v 0) (.n 40) .nil) 0 (.v 0) (.n 1000) tt t) lx w h
noncomputable def XD:List V->ad V:=L3 λM=>∀{la lb:Nat}{me:List O}{xs I:List Str}{mx:Int}{lo ce Q},me[la]?=some (.list (xs.map .str))->me[lb]?=some (.list (I.map .str))->xs.length<=40->I.length<=40->(∀x∈xs,x.length<=100000)->(∀x∈I,x.length<=100000)->sg xs->sg I->
 (∀X,Q (.int (Qn xs I mx)) ⟨lo,ce,me++X⟩)->M [.loc la,.loc lb,.int mx] ⟨lo,ce,me⟩ Q
theorem u4(U:cD P g):cO g (k+2) (.ref 224) XD:=by
 have H:=TI P;refine yX U H (NB.at rfl (by exact(ab (TM.2 U H) (ab (LN.2 U H) (ab (Es.2 U H) (ab (LO.2 U H) (ab (LP.2 U H) (ab (LQ.2 U H) (ab (Et.2 U H) (ab (LR.2 U H) (ab (LS.2 U H) (ab (EA.2 U H) (ab (zU.2 U H) (ab (zV.2 U H) (ab (uW.2 U H) (ab (uX.2 U H) (ab (uY.2 U H) (ab (uZ.2 U H) (ab (u0.2 U H) aC))))))))))))))))))) rfl (by kernel_rfl) (λa b c S=>rfl) ?_;refine k6 (@λla lb me xs I mx lo ce Q ha hb s t lx w ox oy h=>?_);refine⟨_,_,_,rfl,?_⟩;refine pQ ?_;refine LF (K:=λb=>br b (Q (.int 0) ⟨lo,ce,me⟩) ((aV LN.1 (aV Es.1 (aV LO.1 (aV LP.1 (aV LQ.1 (aV Et.1 (aV LR.1 (aV LS.1 (aV EA.1 (aV zU.1 (aV zV.1 (aV uW.1 (aV uX.1 (aV uY.1 (aV uZ.1 (aV u0.1 (c8 .next))))))))))))))))) ⟨fr la lb mx none none (List.replicate 12 none),[],me⟩ (pP Q lo ce))) ha hb ox oy ?_;unfold Qn at h;refine bu (b:=nG xs I) (λe=>?_) (λe=>?_)
 ·rw[e] at h;have:=h [];rw[aS] at this;exact this
 rw[e] at h;refine O7 U ha hb (aQ [_] (.c 1 (.v 0) (.n 40) .nil) 0 (.v 0) (.n 1000) tt s) (aQ [_] (.c 1 (.v 0) (.n 40) .nil) 0 (.v 0) (.n 1000) tt t) λn X hn e1=>?_;refine jH (a:=aO n) (b:=.none) (I:=(xs.drop n).map .str) (ac ha) (by rw[ax];exact aQ [_] (.c 1 (.v 0) (.n 40) .nil) 0 (.v 0) (.n 10000) tt s) rfl rfl (by rw[oH,km]) ?_;refine jH (a:=aO n) (b:=.none) (I:=(I.drop n).map .str) (ac (ac hb)) (by rw[ax];exact aQ [_] (.c 1 (.v 0) (.n 40) .nil) 0 (.v 0) (.n 10000) tt t) rfl rfl (by rw[oH,km]) ?_;rw[<-e1] at h;have XE:(xs.drop n).length<=40:=by rw[cb];exact lG (λq1 q2=>aQ [_,_,_] (.c 1 (.v 0) (.n 40) (.e 1 (.a (.v 1) (.v 2)) (.v 0) .nil)) 0 (.v 1) (.n 40) tt s q2) (λq1 q2=>aQ [_] (.e 1 (.v 0) (.n 0) .nil) 0 (.v 0) (.n 40) tt q2)
 have XF:(I.drop n).length<=40:=by rw[cb];exact lG (λq1 q2=>aQ [_,_,_] (.c 1 (.v 0) (.n 40) (.e 1 (.a (.v 1) (.v 2)) (.v 0) .nil)) 0 (.v 1) (.n 40) tt t q2) (λq1 q2=>aQ [_] (.e 1 (.v 0) (.n 0) .nil) 0 (.v 0) (.n 40) tt q2)
 have lx1:∀x∈xs.drop n,x.length<=100000:=λx B=>lx x (lX B);have ly1:∀x∈I.drop n,x.length<=100000:=λx B=>w x (lX B);dsimp only at h;revert XE XF lx1 ly1 h;generalize xs.drop n=TN;generalize I.drop n=UN;intro h XE XF lx1 ly1;refine LG U (ac aR) aR (aQ [_] (.c 1 (.v 0) (.n 40) .nil) 0 (.v 0) (.n 1000) tt XE) (aQ [_] (.c 1 (.v 0) (.n 40) .nil) 0 (.v 0) (.n 1000) tt XF) λm Y hm e2=>?_;have VO:(((me++X)++[O.list (TN.map .str)]++[O.list (UN.map .str)])++Y)[(me++X).length]?=some (.list (TN.map .str)):=ac (ac aR);have Uv:(((me++X)++[O.list (TN.map .str)]++[O.list (UN.map .str)])++Y)[((me++X)++[O.list (TN.map .str)]).length]?=some (.list (UN.map .str)):=ac aR;rw[<-e2] at h;refine na VO (by rw[ax];exact aQ [_] (.c 1 (.v 0) (.n 40) .nil) 0 (.v 0) (.n 10000) tt XE) (uV TN m) ?_;refine na (ac Uv) (by rw[ax];exact aQ [_] (.c 1 (.v 0) (.n 40) .nil) 0 (.v 0) (.n 10000) tt XF) (uV UN m) ?_;refine LT U (ac aR) aR (by rw[dH,cb,dH];exact lG (λq1 q2=>aQ [_,_,_] (.c 1 (.v 0) (.n 40) (.e 1 (.a (.v 1) (.v 2)) (.v 0) .nil)) 0 (.v 1) (.n 40) tt XE q2) (λq1 q2=>aQ [_] (.e 1 (.v 0) (.n 0) .nil) 0 (.v 0) (.n 40) tt q2)) (by rw[dH,cb,dH];exact lG (λq1 q2=>aQ [_,_,_] (.c 1 (.v 0) (.n 40) (.e 1 (.a (.v 1) (.v 2)) (.v 0) .nil)) 0 (.v 1) (.n 40) tt XF q2) (λq1 q2=>aQ [_] (.e 1 (.v 0) (.n 0) .nil) 0 (.v 0) (.n 40) tt q2)) (λx B=>lx1 x (List.mem_reverse.mp (lX (List.mem_reverse.mp B)))) (λx B=>ly1 x (List.mem_reverse.mp (lX (List.mem_reverse.mp B)))) λA Z=>?_;have:=h (X++([O.list (TN.map .str)]++([O.list (UN.map .str)]++(Y++([O.list (((TN.reverse.drop m).reverse).map .str)]++([O.list (((UN.reverse.drop m).reverse).map .str)]++Z))))));rw[<-au,<-au,<-au,<-au,<-au,<-au] at this;exact this
end
end
section
variable {b b':Bool}{Q:Fl->St->Prop}{g:G}{L:Int}{rr:List (Option V)}{es:List Ev}{ce cs:List Nat}{me T s:List O}{R W left ts:List Str}{j je jl k l n' t tr tw w wr ww:Nat}{cl cr cw o:O}{x0 x1 uG x2 x3 x4 x5 x6 x7 x8 x9:Option V}{P:Params}{one two:Str}
section
noncomputable def abM(g:G):Value:=(g.fo 2 [] .none 0 .none).cls
noncomputable def Il(P:Params)(g:G):df:={fc (KK P) 276 ["script","cells","events","choice","one","two","left_out","renamed","price","bound","low","told","places"] ["whole","rest","lacking"] with cd:=abM g}
noncomputable def XG:List Str:=["_law_cells","_law_events","_law_words","_law_page","_law_rule","len","_levenshtein_distance","isinstance","bool","range"]
abbrev i4(i:Nat):={W:ad Fl //∀{P:Params}{g:G}{k:Nat}(_:cD P g)(_:cc (Il P g) XG .cell),NS g (Il P g) (k+6) (cB (bh (KK P) 276) i) W}
theorem XH(U:cD P g):cc (Il P g) XG .cell:=ip (by kernel_rfl)
noncomputable def LU(g:G):{W:ad Fl //∀{P:Params}{k:Nat}(U:cD P g),NS g (Il P g) (k+6) (cB (bh (KK P) 276) 0) W}:=⟨_,λ{P k} U=>have H:=XH U;by exact(aP H 1 rfl (b7 (g8 U (by kernel_rfl)) (OH U).ok (k5 U H 0 0 rfl rfl) (ae (ai H 0 rfl) ay)))⟩
noncomputable def LV:i4 1:=⟨_,λU H=>by exact(aP H 2 rfl (b7 (g8 U (by kernel_rfl)) (ON U).ok (k5 U H 1 2 rfl rfl) (ae (ai H 1 rfl) ay)))⟩
noncomputable def LW:i4 2:=⟨_,λU H=>by exact(aP H 3 rfl (cZ eF (eP (ai H 1 rfl) bv) bv))⟩
noncomputable def LX:i4 3:=⟨_,λU H=>by exact(aP H 4 rfl (eP bz (cZ ml (ai H 3 rfl) bv)))⟩
noncomputable def LY:i4 4:=⟨_,λU H=>by exact(aP H 5 rfl (eP bz (cZ ml (cZ eF (ai H 3 rfl) bv) bv)))⟩
noncomputable def LZ:i4 5:=⟨_,λU H=>by exact(qy (rA:=["_law_names"]) ["pick"] [] [] (by kernel_rfl) (by kernel_rfl) H 6 rfl (eG (ae (cZ ml (cZ eF (ai H 3 rfl) bv) bv) (ae (cZ ml (cZ eF (ai H 3 rfl) bv) bv) ay))) (λH4=>(b8 H4 0 rfl)) (λH4=>Kh (aN vc (ai H4 0 rfl) bv)) (λH4=>(eP (b7 (g8 U (by kernel_rfl)) (Fo U).ok (k5 U H4 0 1 rfl rfl) ay) (cZ qX (ai H4 0 rfl) bv))) (z:=by intro _ _;rfl) (c:=by intro _;rfl))⟩
noncomputable def L1:i4 6:=⟨_,λU H=>by exact(oe H 0 rfl (b7 (g8 U (by kernel_rfl)) (FN U).ok (k5 U H 2 5 rfl rfl) (ae (b7 (g8 U (by kernel_rfl)) (FU U).ok (k5 U H 3 4 rfl rfl) (ae (ai H 2 rfl) (ae bz (ae bz (ae (eG ay) ay))))) ay)))⟩
noncomputable def L5:i4 7:=⟨_,λU H=>by exact(oe H 1 rfl (b7 (g8 U (by kernel_rfl)) (FN U).ok (k5 U H 2 5 rfl rfl) (ae (b7 (g8 U (by kernel_rfl)) (FU U).ok (k5 U H 3 4 rfl rfl) (ae (ai H 2 rfl) (ae (ai H 4 rfl) (ae (ai H 5 rfl) (ae (ai H 6 rfl) ay))))) ay)))⟩
noncomputable def L6:i4 8:=⟨_,λU H=>by exact(il (aN CW (dw H 0 rfl) (b7 (g8 U (by kernel_rfl)) (F1 U).ok (k5 U H 4 6 rfl rfl) (ae (ai H 2 rfl) (ae bz (ae bz (ae (eG ay) ay)))))) fm aC)⟩
noncomputable def L7:i4 9:=⟨_,λU H=>by exact(il (aN CW (dw H 1 rfl) (b7 (g8 U (by kernel_rfl)) (F1 U).ok (k5 U H 4 6 rfl rfl) (ae (ai H 2 rfl) (ae (ai H 4 rfl) (ae (ai H 5 rfl) (ae (ai H 6 rfl) ay)))))) fm aC)⟩
noncomputable def F4:i4 10:=⟨_,λU H=>by exact(qy (rA:=[]) ["word"] [] [] (by kernel_rfl) (by kernel_rfl) H 7 rfl (eP (dw H 1 rfl) bv) (λH4=>(b8 H4 0 rfl)) (λH4=>Kh (cG (g_ (aN xu bz (ai H4 0 rfl)) (g_ (aN xu bz (ai H4 0 rfl)) tf)))) (λH4=>(ai H4 0 rfl)) (z:=by intro _ _;rfl) (c:=by intro _;rfl))⟩
noncomputable def F5:i4 11:=⟨_,λU H=>by exact(oe H 2 rfl (cZ qX (b7 (λ_ _ _=>aX) eX (bG U H 5 2 rfl rfl (by kernel_rfl)) (ae (eP (dw H 0 rfl) bv) ay)) (b7 (λ_ _ _=>aX) eX (bG U H 5 2 rfl rfl (by kernel_rfl)) (ae (eP (dw H 1 rfl) bv) ay))))⟩
noncomputable def F6:i4 12:=⟨_,λU H=>by exact(aP H 8 rfl (cZ gb (cZ xo bv (dw H 2 rfl)) (b7 (λ_ _ _=>aX) eX (bG U H 5 2 rfl rfl (by kernel_rfl)) (ae (ai H 7 rfl) ay))))⟩
noncomputable def F7:i4 13:=⟨_,λU H=>by exact(aP H 9 rfl (cZ qX (cZ gb (ai H 8 rfl) (cZ ml (cZ eF (ai H 3 rfl) bv) bv)) bv))⟩
noncomputable def F8:i4 14:=⟨_,λU H=>by exact(aP H 10 rfl (cZ qX (cZ qX (cZ xo bv (dw H 2 rfl)) bv) (cZ eF (ai H 3 rfl) bv)))⟩
noncomputable def F9:i4 15:=⟨_,λU H=>by exact(il (aN gr (cZ ml (cZ eF (ai H 3 rfl) bv) bv) bv) (ab (aP H 11 rfl (eG (ae (b7 (g8 U (by kernel_rfl)) (u4 U).ok (k5 U H 6 7 rfl rfl) (ae (eP (dw H 1 rfl) bv) (ae (eP (dw H 0 rfl) bv) (ae (ai H 9 rfl) ay)))) (ae (b7 (g8 U (by kernel_rfl)) (u4 U).ok (k5 U H 6 7 rfl rfl) (ae (eP (dw H 1 rfl) bv) (ae (eP (dw H 0 rfl) bv) (ae (ai H 10 rfl) ay)))) ay)))) aC) (ab (aP H 11 rfl (eG (ae (b7 (g8 U (by kernel_rfl)) (u4 U).ok (k5 U H 6 7 rfl rfl) (ae (eP (dw H 0 rfl) bv) (ae (eP (dw H 1 rfl) bv) (ae (ai H 9 rfl) ay)))) (ae (b7 (g8 U (by kernel_rfl)) (u4 U).ok (k5 U H 6 7 rfl rfl) (ae (eP (dw H 0 rfl) bv) (ae (eP (dw H 1 rfl) bv) (ae (ai H 10 rfl) ay)))) ay)))) aC))⟩
noncomputable def F_:i4 16:=⟨_,λU H=>by exact(il (cG (g_ (a7 (b7 (λ_ _ _=>aX) vt (bG U H 7 8 rfl rfl (by kernel_rfl)) (ae (eP (ai H 11 rfl) bv) (ae (bG (v:=.type "bool") U H 8 9 rfl rfl (by kernel_rfl)) ay)))) (g_ (a7 (b7 (λ_ _ _=>aX) vt (bG U H 7 8 rfl rfl (by kernel_rfl)) (ae (eP (ai H 11 rfl) bv) (ae (bG (v:=.type "bool") U H 8 9 rfl rfl (by kernel_rfl)) ay)))) tf))) fm aC)⟩
noncomputable def Ga:i4 17:=⟨_,λU H=>by exact(DI (rA:=[]) ["k"] ["lacking","rest","whole"] [2,1,0] (by kernel_rfl) (by kernel_rfl) H 12 rfl (b7 (λ_ _ _=>fX) mP (bG U H 9 1 rfl rfl (by kernel_rfl)) (ae (cZ gb (b7 (λ_ _ _=>aX) eX (bG U H 5 2 rfl rfl (by kernel_rfl)) (ae (eP (dw H 1 rfl) bv) ay)) bv) ay)) (λH4=>(b8 H4 0 rfl)) (λH4=>Kh (aN CV (cZ Rn (iL (eP (dw H4 2 rfl) bv) iK (gK (ai H4 0 rfl))) (iL (eP (dw H4 2 rfl) bv) (gK (cZ gb (ai H4 0 rfl) (dw H4 0 rfl))) iK)) (eP (dw H4 1 rfl) bv))) (λH4=>(ai H4 0 rfl)) (z:=by intro _ _;rfl) (c:=by intro _;rfl))⟩
noncomputable def Gb:i4 18:=⟨_,λU H=>by exact(cP (Wm CV (ai H 11 rfl) (eG (ae (ai H 8 rfl) (ae (iJ (aN CW (ai H 12 rfl) (eG ay)) (ai H 8 rfl) (cZ gb (ai H 10 rfl) bv)) ay))) (hm:=by with_unfolding_all rfl)))⟩
end
noncomputable def lm(b b':Bool)(T:List O)(cr cw cl:O)(s:List O):List O:=.tab 0 b:: .tab 1 b'::(T++(cw::cr::cl::s))
section
theorem rZ(j:Nat):(lm b b' T cr cw cl s)[T.length+2+j]?=(cw::cr::cl::s)[j]?:=by rw[show T.length+2+j=(T.length+j)+2 by exact fC [_,_] .nil 0 (.a (.a (.v 0) (.n 2)) (.v 1)) (.a (.a (.v 0) (.v 1)) (.n 2)) tt tt];exact bX
theorem dF(h:s[j]?=some o):(lm b b' T cr cw cl s)[T.length+5+j]?=some o:=by rw[show T.length+5+j=T.length+2+(j+3) by exact fC [_,_] .nil 0 (.a (.a (.v 0) (.n 5)) (.v 1)) (.a (.a (.v 0) (.n 2)) (.a (.v 1) (.n 3))) tt tt,rZ];exact h
theorem qc:(lm b b' T cr cw cl s)[T.length+3]?=some cr:=rZ 1
theorem uk:(lm b b' T cr cw cl s)[T.length+2]?=some cw:=rZ 0
theorem Gc:(lm b b' T cr cw cl s)[T.length+4]?=some cl:=rZ 2
theorem jq{X:List O}:lm b b' T cr cw cl s++X=lm b b' T cr cw cl (s++X):=by refine ag (O.tab 0 b::O.tab 1 b':: ·) ?_;exact au _ _ _
theorem nb:(lm b b' T cr cw cl s).length=T.length+5+s.length:=by refine(?_ :(T++(cw::cr::cl::s)).length+1+1=_);rw[ak];refine(?_ :T.length+(s.length+3)+1+1=_);exact fC [_,_] .nil 0 (.a (.a (.a (.v 0) (.a (.v 1) (.n 3))) (.n 1)) (.n 1)) (.a (.a (.v 0) (.n 5)) (.v 1)) tt tt
theorem EB:(lm b b' T cr cw cl s).set (T.length+2+j) o= .tab 0 b:: .tab 1 b'::(T++(cw::cr::cl::s).set j o):=by rw[show T.length+2+j=(T.length+j)+2 by exact fC [_,_] .nil 0 (.a (.a (.v 0) (.n 2)) (.v 1)) (.a (.a (.v 0) (.v 1)) (.n 2)) tt tt];refine ag (O.tab 0 b::O.tab 1 b':: ·) ?_;exact dO
theorem XI:(lm b b' T cr cw cl s).set (T.length+3) o=lm b b' T o cw cl s:=EB (j:=1)
theorem XJ:(lm b b' T cr cw cl s).set (T.length+2) o=lm b b' T cr o cl s:=EB (j:=0)
theorem XK:(lm b b' T cr cw cl s).set (T.length+4) o=lm b b' T cr cw o s:=EB (j:=2)
end
noncomputable def H(T:List O):List Nat:=[T.length+2,T.length+3,T.length+4]
theorem EC{i:Nat}{D9:List O}{v:V}{lo:List (Option V)}{Q:Unit->St->Prop}(hc:ce[i]?=some l)(h:me[l]?=some o)(ho:pJ (some o)=true)(e:me.set l (.cell v)=D9)(q:Q () ⟨lo,ce,D9⟩):aA ce[i]? λl=>gd (pJ me[l]?) (Q () ⟨lo,ce,me.set l (.cell v)⟩):=av hc (b_ (by rw[h];exact ho) (by rw[e];exact q))
noncomputable def pS(m:Nat):Str:=bif Nat.beq (m % 2) 0 then "p" else "P"
noncomputable def qS(m:Nat):Str:=bif Nat.beq (m % 2) 0 then "q" else "Q"
theorem abN(m:Nat):∃k,vf ("pP":Str).cps.toList ((m % 2:Nat):Int)=some k/\(⟨#[k]⟩:Str)=pS m:=by
 have:=eD m (by decide:0<2);unfold pS
 match m % 2,this with
 |0,_=>exact⟨112,by decide+kernel,by decide+kernel⟩
 |1,_=>exact⟨80,by decide+kernel,by decide+kernel⟩
theorem abO(m:Nat):∃k,vf ("qQ":Str).cps.toList ((m % 2:Nat):Int)=some k/\(⟨#[k]⟩:Str)=qS m:=by
 have:=eD m (by decide:0<2);unfold qS
 match m % 2,this with
 |0,_=>exact⟨113,by decide+kernel,by decide+kernel⟩
 |1,_=>exact⟨81,by decide+kernel,by decide+kernel⟩
theorem m9.shift{N:Nat}{me:List O}{r:List O}{lv:List V}{a b:O}(h:m9 (N+s.length+2) r lv es):m9 N (s++(a::b::r)) lv es:=by
 refine aE.mono (λv e ⟨t,ht,h⟩=>⟨s.length+(t+2),?_,?_⟩) h
 ·rw[ht];refine ag V.loc ?_;exact fC [_,_,_] .nil 0 (.a (.a (.a (.v 0) (.v 1)) (.n 2)) (.v 2)) (.a (.v 0) (.a (.v 1) (.a (.v 2) (.n 2)))) tt tt
 ·rw[bX];exact h
section
theorem XL(U:cD P g)(hz:g.sn.length<=63)(h:∀cs X,ud 63 cs->Q .next ⟨some (.fb (.ref g.sa))::some (.loc (T.length+5+s.length))::rr,H T,lm b b' T cr cw cl (s++[.list (cs.map aO),X])⟩):(LU g).1 ⟨some (.fb (.ref g.sa))::x1::rr,H T,lm b b' T cr cw cl s⟩ Q:=by refine λ_ E=>E hz λcs X hc=>?_;rw[nb,jq];exact h cs X hc
theorem XM(U:cD P g)(h1:s[j]?=some (.list (cs.map aO)))(hc:cs.length=4)(h:∀lv r,m9 (T.length+5) (s++(.list lv:: .list []::r)) lv (evs cs [])->Q .next ⟨x0::some (.loc (T.length+5+j))::some (.loc (T.length+5+s.length))::rr,H T,lm b b' T cr cw cl (s++(.list lv:: .list []::r))⟩):LV.1 ⟨x0::some (.loc (T.length+5+j))::x2::rr,H T,lm b b' T cr cw cl s⟩ Q:=by refine λ_ E=>E (dF h1) hc λlv r he=>?_;rw[nb] at he ⊢;unfold eb;rw[jq];exact h lv r (m9.shift (me:=[]) he)
theorem XN(U:cD P g){c:Nat}(h1:s[j]?=some (.list ((c::cs).map aO)))(h:Q .next ⟨x0::some (.loc (T.length+5+j))::x2::some (aO (c / 648))::rr,H T,lm b b' T cr cw cl s⟩):LW.1 ⟨x0::some (.loc (T.length+5+j))::x2::x3::rr,H T,lm b b' T cr cw cl s⟩ Q:=by refine bJ (dF h1) (by rfl) ?_;have e:Int.fdiv ((c:Nat):Int) 648=((c / 648:Nat):Int):=rR c 648;refine(?_ :Q .next ⟨x0::some (.loc (T.length+5+j))::x2::some (V.int (Int.fdiv ((c:Nat):Int) 648))::rr,H T,lm b b' T cr cw cl s⟩);rw[e];exact h
theorem XO(U:cD P g){m:Nat}(h:Q .next ⟨x0::x1::x2::some (aO m)::some (.str (pS m))::rr,H T,lm b b' T cr cw cl s⟩):LX.1 ⟨x0::x1::x2::some (aO m)::x4::rr,H T,lm b b' T cr cw cl s⟩ Q:=by refine bx (abN m) λc e1 e2=>?_;have e:Int.fmod ((m:Nat):Int) 2=((m % 2:Nat):Int):=oF m 2;refine av (by rw[e];exact e1) ?_;rw[e2];exact h
theorem XP(U:cD P g){m:Nat}(h:Q .next ⟨x0::x1::x2::some (aO m)::x4::some (.str (qS (m / 2)))::rr,H T,lm b b' T cr cw cl s⟩):LY.1 ⟨x0::x1::x2::some (aO m)::x4::x5::rr,H T,lm b b' T cr cw cl s⟩ Q:=by refine bx (abO (m / 2)) λc e1 e2=>?_;have e:Int.fmod (Int.fdiv ((m:Nat):Int) 2) 2=((m / 2 % 2:Nat):Int):=dm m 2 2;refine av (by rw[e];exact e1) ?_;rw[e2];exact h
end
theorem oI{β:Type}{cL:St->Nat->Option (Option β)}{As:β->ad Unit}{Wt:ad Bool}{We:ad V}{m:List O}{iF:List Nat}{xs:List β}{keep:β->Bool}{val v0:β->V}{Q:Unit->St->Prop}(hI:∀i lo Y,cL ⟨lo,iF,m++Y⟩ i=some xs[i]?)(hC:∀b∈xs,∀x Y K,(∀Y',K (keep b) ⟨[some (v0 b)],iF,(m++Y)++Y'⟩)->As b ⟨[x],iF,m++Y⟩ (tS Wt K))(hE:∀b∈xs,keep b=true->∀Y K,(∀Y',K (val b) ⟨[some (v0 b)],iF,(m++Y)++Y'⟩)->We ⟨[some (v0 b)],iF,m++Y⟩ K)(hz:xs.length<=1000):∀(r:List β)(i:Nat)(bV:List V)(x:Option V)(X:List O),xs.drop i=r->bV.length<=i->(∀x X,Q () ⟨[x],iF,m++(.list (bV++(r.filter keep).map val)::X)⟩)-> gx cL As Wt (ua We m.length) (r.length+1) i ⟨[x],iF,m++(.list bV::X)⟩ Q:=λr=>by
 induction r with
 |nil=>exact λi bV x X hd hz h=>jk ((hI i _ _).trans (by rw[drop_nil hd])) (by rw[List.filter_nil,List.map_nil,aS] at h;exact h x X)
 |cons b r T=>
  intro i bV x X hd ha h;refine xA (fD hd) λh1 h2=>?_;have hb:=eg h1;have hi:=(List.getElem?_eq_some_iff.mp h1).1;refine jj ((hI i _ _).trans (by rw[h1])) ?_;refine hC b hb x _ _ λY'=>?_;refine bu (λe=>?_) (λe=>?_)
  ·rw[au,iz];refine hE b hb e _ _ λY''=>?_;rw[au,iz];refine av (cW aR) (b_ (cM (aQ [_,_,_] (.c 1 (.v 0) (.n 1000) (.c 1 (.v 1) (.v 2) (.c 1 (.a (.v 2) (.n 1)) (.v 0) .nil))) 0 (.v 1) (.n 10000) tt hz ha hi)) ?_);refine(?_ :gx _ _ _ _ _ _ ⟨[some (v0 b)],iF,(m++O.list bV::((X++Y')++Y'')).set m.length (.list (bV++[val b]))⟩ Q);rw[kQ];refine T (i+1) (bV++[val b]) _ _ h2 (by rw[ak];exact dQ ha 1) λx X=>?_;rw[List.filter_cons_of_pos e,cy] at h;rw[au];exact h x X
  ·rw[au,iz];rw[List.filter_cons_of_neg (by rw[e];exact i6)] at h;exact T (i+1) bV _ _ h2 (iw ha) h
noncomputable def nmI(p:Nat):Str:=eR (fZ (p-1)).1 (fZ (p-1)).2
noncomputable def eI(m:Nat):List Str:=([m / 4 % 7,m / 28 % 7].filter λp=>!(Nat.beq p 0)).map nmI
noncomputable def L9:V->Bool
 | .int i=>decide (0<i)
 |_=>false
noncomputable def nmV:V->V
 | .int i=>.str (nmI i.toNat)
 |_=>.none
theorem zW(p:Nat):L9 (aO p)= !(Nat.beq p 0):=UM p
theorem O9(m:Nat):([aO (m / 4 % 7),aO (m / 28 % 7)].filter L9).map nmV=(eI m).map .str:=by unfold eI;generalize m / 4 % 7=a;generalize m / 28 % 7=b;rw[i9,i9,i9,i9,zW,zW];cases Nat.beq a 0<;>cases Nat.beq b 0<;>rfl
theorem XQ{p:Nat}(h:p<7)(h0:p≠0):vf om (((p:Nat):Int)-1)=some (.str (nmI p)):=by
 match p,h,h0 with
 |0,_,h0=>exact absurd rfl h0
 |1,_,_=>rfl
 |2,_,_=>rfl
 |3,_,_=>rfl
 |4,_,_=>rfl
 |5,_,_=>rfl
 |6,_,_=>rfl
section
theorem XR(U:cD P g){m:Nat}(h:∀X,Q .next ⟨x0::x1::x2::some (aO m)::x4::x5::some (.loc (T.length+5+(s.length+1)))::rr,H T,lm b b' T cr cw cl ((s++[.list [aO (m / 4 % 7),aO (m / 28 % 7)]])++(.list ((eI m).map .str)::X))⟩):LZ.1 ⟨x0::x1::x2::some (aO m)::x4::x5::x6::rr,H T,lm b b' T cr cw cl s⟩ Q:=by
 have e1:Int.fmod (Int.fdiv ((m:Nat):Int) 4) 7=((m / 4 % 7:Nat):Int):=dm m 4 7;have e2:Int.fmod (Int.fdiv ((m:Nat):Int) 28) 7=((m / 28 % 7:Nat):Int):=dm m 28 7;refine(?_ :PF kO bj 1 (.list []) _ _ (ua _) [] (λv σ=>Q .next (σ.nE 6 v)) (.loc (lm b b' T cr cw cl s).length) ⟨x0::x1::x2::some (aO m)::x4::x5::x6::rr,H T,lm b b' T cr cw cl s++[.list [.int (Int.fmod (Int.fdiv ((m:Nat):Int) 4) 7),.int (Int.fmod (Int.fdiv ((m:Nat):Int) 28) 7)]]⟩);rw[e1,e2];refine av (jm aR) ?_;have hp:∀v∈[aO (m / 4 % 7),aO (m / 28 % 7)],∃p,p<7/\v=aO p:=λv hv=>by
  rcases List.mem_cons.mp hv with rfl|hv
  ·exact⟨_,eD _ (by decide),rfl⟩
  ·obtain rfl:=List.mem_singleton.mp hv;exact⟨_,eD _ (by decide),rfl⟩
 refine⟨3,?_⟩;refine oI (keep:=L9) (val:=nmV) (v0:=id) (xs:=[aO (m / 4 % 7),aO (m / 28 % 7)]) (λi lo Y=>ba (ac aR) rfl) (λv hv x Y K hK=>?_) (λv hv hk Y K hK=>?_) (aU rfl) _ 0 [] none [] rfl (aF _) λx X=>?_
 ·refine bx (hp v hv) λp hp jM=>?_;obtain rfl:=jM;have:=hK [];rw[aS] at this;exact this
 ·refine bx (hp v hv) λp hp jM=>?_;obtain rfl:=jM;rw[zW] at hk;have h0:p≠0:=λe=>by subst e;exact nB hk
  refine λ_ E=>E ?_;refine bJ aR (XQ hp h0) ?_;exact hK [O.list om]
 ·rw[kh,gW,O9];refine(?_ :Q .next ⟨x0::x1::x2::some (aO m)::x4::x5::some (.loc (lm b b' T cr cw cl s++[O.list [aO (m / 4 % 7),aO (m / 28 % 7)]]).length)::rr,H T,(lm b b' T cr cw cl s++[.list [aO (m / 4 % 7),aO (m / 28 % 7)]])++(.list ((eI m).map .str)::X)⟩);rw[jq,jq,nb,ak];exact h X
end
structure oJ(one two:Str)(left:List Str)(es:List Ev):Prop where
 ok:uD ⟨cN left,one,two⟩
 zl:left.length<=20
 evs:kX ⟨cN left,one,two⟩ Ih es
 tot:k7 (uh ⟨cN left,one,two⟩ es)<=100000
 evr:hV ⟨cN left,one,two⟩ left O2 es
 words:iU (ch (dE (uh ⟨cN left,one,two⟩ es))) (cY ⟨cN left,one,two⟩ left es).ws []
 line:1+(ch (dE (uh ⟨cN left,one,two⟩ es))).count 10=(cY ⟨cN left,one,two⟩ left es).line
 zw:(cY ⟨cN left,one,two⟩ left es).ws.length<=40
 B4:sg (cY ⟨cN left,one,two⟩ left es).ws
 lw:∀w∈(cY ⟨cN left,one,two⟩ left es).ws,w.length<=10000
theorem TO{aw:Str}{n:Nat}(h:(ch aw).drop n=[]):db aw n=((1+(ch aw).count 10:Nat):Int):=by unfold db;rw[oQ (List.drop_eq_nil_iff.mp h)];omega
theorem wQ{lv:List V}{lo:List (Option V)}{Q:V->St->Prop}(f:oJ one two left es)(hn:es.length<=50)(h1:s[je]?=some (.list lv))(h2:m9 (T.length+5) s lv es)(h3:s[jl]?=some (.list (left.map .str)))(h:∀b' X t w,(s++X)[w]?=some (.list ((cY ⟨cN left,one,two⟩ left es).ws.map .str))->(s++X)[t]?=some (.tup [.loc (T.length+5+w),aO (cY ⟨cN left,one,two⟩ left es).line])->Q (.loc (T.length+5+t)) ⟨lo,H T,lm true b' T cr cw cl (s++X)⟩):Xy [.loc (T.length+5+je),.str one,.str two,.loc (T.length+5+jl)] ⟨lo,H T,lm b b' T cr cw cl s⟩ (λv σ=>Xp [v] σ Q):=by
 have e:∀j,T.length+5+j=(T.length+(j+3))+2:=λj=>by exact fC [_,_] .nil 0 (.a (.a (.v 0) (.n 5)) (.v 1)) (.a (.a (.v 0) (.a (.v 1) (.n 3))) (.n 2)) tt tt
 rw[e je,e jl];refine λ_ E=>E (by rw[bX];exact h1) ?_ (by rw[bX];exact h3) f.zl f.ok f.evs hn f.tot λUO X=>?_
 ·refine aE.mono (λv e' ⟨t,ht,h⟩=>⟨T.length+(t+3),?_,?_⟩) h2
  ·rw[ht,e];refine ag V.loc ?_;exact fC [_,_] .nil 0 (.a (.a (.v 0) (.a (.v 1) (.n 3))) (.n 2)) (.a (.n 2) (.a (.v 0) (.a (.v 1) (.n 3)))) tt tt
  ·rw[bX];exact h
 ·refine λ_ E=>E f.words (by rw[rI];exact am f.tot (by decide)) (am f.zw (by decide)) f.lw λn Y t hd ht=>?_;have hb:(bt b (.tab 1 UO::((T++(cw::cr::cl::s))++X))).length=T.length+5+(s++X).length:=by refine(?_ :((T++(cw::cr::cl::s))++X).length+1+1=_);rw[au,ak,iz,iz,iz];refine(?_ :T.length+((s++X).length+3)+1+1=_);exact fC [_,_] .nil 0 (.a (.a (.a (.v 0) (.a (.v 1) (.n 3))) (.n 1)) (.n 1)) (.a (.a (.v 0) (.n 5)) (.v 1)) tt tt
  rw[hb] at ht ⊢;have D:(bt true (.tab 1 UO::((T++(cw::cr::cl::s))++X))).length=T.length+5+(s++X).length:=hb;have B5:=f.line;revert hd ht B5;generalize dE (uh ⟨cN left,one,two⟩ es)=aw;intro hd ht B5;have em:lx (bt true (.tab 1 UO::((T++(cw::cr::cl::s))++X))) aw n (db aw n) ((cY ⟨cN left,one,two⟩ left es).ws.map .str) Y=lm true UO T cr cw cl (s++(X++(Qe (T.length+5+(s++X).length) aw n (db aw n) ((cY ⟨cN left,one,two⟩ left es).ws.map .str)++Y))):=by unfold lx;rw[D];refine ag (O.tab 0 true::O.tab 1 UO:: ·) ?_;exact(au _ _ _).trans (au _ _ _)
  rw[em];rw[TO hd,B5] at ht ⊢;generalize S:Qe (T.length+5+(s++X).length) aw n ((cY ⟨cN left,one,two⟩ left es).line:Nat) ((cY ⟨cN left,one,two⟩ left es).ws.map .str)=L;have Z:L.length=11:=by rw[<-S];rfl
  have hw:L[10]?=some (.list ((cY ⟨cN left,one,two⟩ left es).ws.map .str)):=by rw[<-S];rfl
  have e9:s++(X++(L++Y))=(s++X)++(L++Y):=(au _ _ _).symm;have:=h UO (X++(L++Y)) ((s++X).length+(11+t)) ((s++X).length+10) (by rw[e9,bX];exact ac hw) (by rw[e9,bX,<-Z,bX,ht,cS];rfl);rw[show T.length+5+((s++X).length+(11+t))=T.length+5+(s++X).length+(11+t) by exact fC [_,_,_] .nil 0 (.a (.a (.v 0) (.n 5)) (.a (.v 1) (.a (.n 11) (.v 2)))) (.a (.a (.a (.v 0) (.n 5)) (.v 1)) (.a (.n 11) (.v 2))) tt tt] at this;exact this
section
variable {lv:List V}
theorem XS(U:cD P g)(f:oJ "p" "q" [] es)(hn:es.length<=50)(h1:s[je]?=some (.list lv))(h2:m9 (T.length+5) s lv es)(h:∀b' X t w,((s++[.list []])++X)[w]?=some (.list ((cY ⟨cN [],"p","q"⟩ [] es).ws.map .str))->((s++[.list []])++X)[t]?=some (.tup [.loc (T.length+5+w),aO (cY ⟨cN [],"p","q"⟩ [] es).line])->
  Q .next ⟨x0::x1::some (.loc (T.length+5+je))::rr,H T,lm true b' T cr (.cell (.loc (T.length+5+t))) cl ((s++[.list []])++X)⟩):
 L1.1 ⟨x0::x1::some (.loc (T.length+5+je))::rr,H T,lm b b' T cr .de cl s⟩ Q:=by
 have:=wQ (b:=b) (b':=b') (cr:=cr) (cw:=.de) (cl:=cl) (lo:=x0::x1::some (.loc (T.length+5+je))::rr) (s:=s++[.list []]) (Q:=λv σ=>ao (BH 0 v) lz σ Q) f hn (ac h1) (h2.more _) aR λb' X t w hw ht=>?_
 ·rw[<-jq,<-nb] at this;exact this
 ·refine EC (i:=0) (ce:=H T) rfl uk rfl XJ ?_;exact h b' X t w hw ht
theorem XT(U:cD P g)(f:oJ one two left es)(hn:es.length<=50)(h1:s[je]?=some (.list lv))(h2:m9 (T.length+5) s lv es)(h3:s[jl]?=some (.list (left.map .str)))(h:∀b' X t w,(s++X)[w]?=some (.list ((cY ⟨cN left,one,two⟩ left es).ws.map .str))->(s++X)[t]?=some (.tup [.loc (T.length+5+w),aO (cY ⟨cN left,one,two⟩ left es).line])->
  Q .next ⟨x0::x1::some (.loc (T.length+5+je))::x3::some (.str one)::some (.str two)::some (.loc (T.length+5+jl))::rr,H T,lm true b' T (.cell (.loc (T.length+5+t))) cw cl (s++X)⟩):
 L5.1 ⟨x0::x1::some (.loc (T.length+5+je))::x3::some (.str one)::some (.str two)::some (.loc (T.length+5+jl))::rr,H T,lm b b' T .de cw cl s⟩ Q:=by
 refine wQ f hn h1 h2 h3 λb' X t w hw ht=>?_;refine EC (i:=1) (ce:=H T) rfl qc rfl XI ?_;exact h b' X t w hw ht
theorem B6{n:Nat}(h:me[t]?=some (.tup [.loc w,aO n]))(h':me[w]?=some (.list (ts.map .str))):yr me 4 (.loc t)=some (.tuple [.list (ts.map PyData.str),.int ((n:Nat):Int)]):=(bE h).trans (bE (bE (wO 2 h')))
theorem B7{n:Int}(h:sg ts):SeqAt.shaped (.tuple [.list (ts.map PyData.str),.int n])=true:=by refine xA (rY h) λh1 h2=>?_;unfold SeqAt.shaped;simp only[PyData.canLay0,PyData.canLayAll0,PyData.depth,PyData.depthAll,h1,h2];rfl
theorem L_{n:Int}(h:sg ts):PyData.eqv (.tuple [.list (ts.map PyData.str),.int n]) (.tuple [.list (ts.map PyData.str),.int n])=true:=by have h1:=(rY h).1;refine SeqAt.eqv_refl _ ?_;simp only[PyData.canLay0,PyData.canLayAll0,h1,Bool.and_self]
theorem Ma{C w':Nat}{n:Nat}{K:Bool->Prop}(o:sg ts)(h:me[t]?=some (.tup [.loc w,aO n]))(h':me[w]?=some (.list (ts.map .str)))(k:me[C]?=some (.tup [.loc w',aO n]))(j:me[w']?=some (.list (ts.map .str)))(q:K false):aA (yr me 4 (.loc t)) λx=>aA (yr me 4 (.loc C)) λy=>gd (SeqAt.shaped x&&SeqAt.shaped y) (K (!(PyData.eqv x y))):=by refine av (B6 h h') (av (B6 k j) (b_ (by rw[B7 o];rfl) ?_));rw[L_ o];exact q
end
section
variable {lv:List V}
theorem m9.m(h:m9 (T.length+5) s lv es):TE (lm b b' T cr cw cl s) lv es:=aE.mono (λv e ⟨t,ht,h⟩=>⟨_,ht,dF h⟩) h
theorem B8{lo:List (Option V)}{K:Bool->St->Prop}(f:oJ one two left es)(h1:s[je]?=some (.list lv))(h2:m9 (T.length+5) s lv es)(h3:s[jl]?=some (.list (left.map .str)))(hw:s[w]?=some (.list ((cY ⟨cN left,one,two⟩ left es).ws.map .str))) (ht:s[t]?=some (.tup [.loc (T.length+5+w),aO (cY ⟨cN left,one,two⟩ left es).line])) (h:∀X,K false ⟨lo,H T,lm b b' T cr cw cl (s++X)⟩):XA [.loc (T.length+5+je),.str one,.str two,.loc (T.length+5+jl)] ⟨lo,H T,lm b b' T cr cw cl s⟩ (λv σ=>Vo (.loc (T.length+5+t)) v σ K):=by refine λ_ E=>E f.ok (dF h1) h2.m (dF h3) f.evr λX C w' k MK=>?_;refine Ma (K:=λr=>K r _) f.B4 (ac (dF ht)) (ac (dF hw)) MK k ?_;rw[jq];exact h X
theorem XU(U:cD P g)(f:oJ "p" "q" [] es)(h1:s[je]?=some (.list lv))(h2:m9 (T.length+5) s lv es)(hw:s[w]?=some (.list ((cY ⟨cN [],"p","q"⟩ [] es).ws.map .str)))(ht:s[t]?=some (.tup [.loc (T.length+5+w),aO (cY ⟨cN [],"p","q"⟩ [] es).line]))(h:∀X,Q .next ⟨x0::x1::some (.loc (T.length+5+je))::rr,H T,lm b b' T cr (.cell (.loc (T.length+5+t))) cl (s++X)⟩):L6.1 ⟨x0::x1::some (.loc (T.length+5+je))::rr,H T,lm b b' T cr (.cell (.loc (T.length+5+t))) cl s⟩ Q:=by
 refine bS (i:=0) (ce:=H T) rfl uk ?_;have:=B8 (s:=s++[.list []]) (K:=λr σ=>br r False (Q .next σ)) f (ac h1) (h2.more _) aR (ac hw) (ac ht) λX=>by rw[au];exact h _
 rw[<-jq,<-nb] at this;exact this
theorem XV(U:cD P g)(f:oJ one two left es)(h1:s[je]?=some (.list lv))(h2:m9 (T.length+5) s lv es)(h3:s[jl]?=some (.list (left.map .str)))(hw:s[w]?=some (.list ((cY ⟨cN left,one,two⟩ left es).ws.map .str)))(ht:s[t]?=some (.tup [.loc (T.length+5+w),aO (cY ⟨cN left,one,two⟩ left es).line]))(h:∀X,Q .next ⟨x0::x1::some (.loc (T.length+5+je))::x3::some (.str one)::some (.str two)::some (.loc (T.length+5+jl))::rr,H T,lm b b' T (.cell (.loc (T.length+5+t))) cw cl (s++X)⟩):L7.1 ⟨x0::x1::some (.loc (T.length+5+je))::x3::some (.str one)::some (.str two)::some (.loc (T.length+5+jl))::rr,H T,lm b b' T (.cell (.loc (T.length+5+t))) cw cl s⟩ Q:=by refine bS (i:=1) (ce:=H T) rfl qc ?_;exact B8 f h1 h2 h3 hw ht h
end
noncomputable def oK(x:Str):Bool:=xc "P" x||xc "Q" x
noncomputable def pqV:V->Bool
 | .str x=>oK x
 |_=>false
theorem XW(R:List Str):((R.map V.str).filter pqV).map id=(R.filter oK).map .str:=by
 rw[List.map_id];induction R with
 |nil=>rfl
 |cons x R T=>rw[cy,i9,i9,T];refine(?_ :(if oK x=true then _ else _)=_);cases oK x<;>rfl
section
variable {n:Nat}
theorem TP(U:cD P g)(ht:s[tr]?=some (.tup [.loc (T.length+5+wr),aO n]))(hw:s[wr]?=some (.list (R.map .str)))(hz:R.length<=40)(Z:∀x∈R,x.length<=10000)(h:∀X,Q .next ⟨x0::x1::x2::x3::x4::x5::x6::some (.loc (T.length+5+s.length))::rr,H T,lm b b' T (.cell (.loc (T.length+5+tr))) cw cl (s++(.list ((R.filter oK).map .str)::X))⟩):F4.1 ⟨x0::x1::x2::x3::x4::x5::x6::x7::rr,H T,lm b b' T (.cell (.loc (T.length+5+tr))) cw cl s⟩ Q:=by
 refine bS (i:=1) (ce:=H T) rfl qc ?_;refine dK (dF ht) rfl ?_;refine av (jm (dF hw)) ?_;refine⟨(R.map V.str).length+1,?_⟩;refine oI (keep:=pqV) (val:=id) (v0:=id) (λi lo Y=>ba (ac (dF hw)) rfl) (λv hv x Y K hK=>?_) (λv hv hk Y K hK=>?_) (by rw[ax];exact aQ [_] (.c 1 (.v 0) (.n 40) .nil) 0 (.v 0) (.n 1000) tt hz) _ 0 [] none [] rfl (aF _) λx X=>?_
 ·refine bx (List.mem_map.mp hv) λy hy jM=>?_;obtain rfl:=jM;have:=hK [];rw[aS] at this;have this:K (xc "P" y||xc "Q" y) _:=this;refine bu (λe=>?_) (λe=>?_)
  ·rw[e] at this;exact this
  ·rw[e] at this;refine bu (λe=>?_) (λe=>?_)
   ·rw[e] at this;exact this
   ·rw[e] at this;exact this
 ·have:=hK [];rw[aS] at this;exact this
 ·rw[kh,XW];refine(?_ :Q .next ⟨x0::x1::x2::x3::x4::x5::x6::some (.loc (lm b b' T (.cell (.loc (T.length+5+tr))) cw cl s).length)::rr,H T,(lm b b' T (.cell (.loc (T.length+5+tr))) cw cl s)++(.list ((R.filter oK).map .str)::X)⟩);rw[jq,nb];exact h X
theorem TQ(U:cD P g)(ht:s[tr]?=some (.tup [.loc (T.length+5+wr),aO n]))(hw:s[wr]?=some (.list (R.map .str)))(hz:R.length<=40)(MK:s[tw]?=some (.tup [.loc (T.length+5+ww),aO n']))(k:s[ww]?=some (.list (W.map .str)))(L:W.length<=40)(h:Q .next ⟨rr,H T,lm b b' T (.cell (.loc (T.length+5+tr))) (.cell (.loc (T.length+5+tw))) (.cell (.int (((W.length:Nat):Int)-((R.length:Nat):Int)))) s⟩):F5.1 ⟨rr,H T,lm b b' T (.cell (.loc (T.length+5+tr))) (.cell (.loc (T.length+5+tw))) .de s⟩ Q:=by refine bS (i:=0) (ce:=H T) rfl uk ?_;refine dK (dF MK) rfl ?_;refine eJ (dF k) (by rw[ax];exact aQ [_] (.c 1 (.v 0) (.n 40) .nil) 0 (.v 0) (.n 10000) tt L) ?_;refine bS (i:=1) (ce:=H T) rfl qc ?_;refine dK (dF ht) rfl ?_;refine eJ (dF hw) (by rw[ax];exact aQ [_] (.c 1 (.v 0) (.n 40) .nil) 0 (.v 0) (.n 10000) tt hz) ?_;rw[ax,ax];exact EC (i:=2) (ce:=H T) rfl Gc rfl XK h
theorem TR(U:cD P g){zs:List V}(hj:s[j]?=some (.list zs))(hz:zs.length<=1000)(h:Q .next ⟨x0::x1::x2::x3::x4::x5::x6::some (.loc (T.length+5+j))::some (.int (2*L+((zs.length:Nat):Int)))::rr,H T,lm b b' T cr cw (.cell (.int L)) s⟩):F6.1 ⟨x0::x1::x2::x3::x4::x5::x6::some (.loc (T.length+5+j))::x8::rr,H T,lm b b' T cr cw (.cell (.int L)) s⟩ Q:=by refine bS (i:=2) (ce:=H T) rfl Gc ?_;exact eJ (dF hj) (aQ [_] (.c 1 (.v 0) (.n 1000) .nil) 0 (.v 0) (.n 10000) tt hz) h
theorem TS(U:cD P g){p:Int}{m:Nat}(h:Q .next ⟨x0::x1::x2::some (aO m)::x4::x5::x6::x7::some (.int p)::some (.int (p+((m / 196 % 3:Nat):Int)-1))::rr,H T,lm b b' T cr cw cl s⟩):F7.1 ⟨x0::x1::x2::some (aO m)::x4::x5::x6::x7::some (.int p)::x9::rr,H T,lm b b' T cr cw cl s⟩ Q:=by have e:Int.fmod (Int.fdiv ((m:Nat):Int) 196) 3=((m / 196 % 3:Nat):Int):=dm m 196 3;refine(?_ :Q .next ⟨x0::x1::x2::some (aO m)::x4::x5::x6::x7::some (.int p)::some (.int (p+Int.fmod (Int.fdiv ((m:Nat):Int) 196) 3-1))::rr,H T,lm b b' T cr cw cl s⟩);rw[e];exact h
theorem TT(U:cD P g){m:Nat}(h:Q .next ⟨x0::x1::x2::some (aO m)::x4::x5::x6::x7::x8::x9::some (.int (2*L-1-((m / 1176:Nat):Int)))::rr,H T,lm b b' T cr cw (.cell (.int L)) s⟩):F8.1 ⟨x0::x1::x2::some (aO m)::x4::x5::x6::x7::x8::x9::uG::rr,H T,lm b b' T cr cw (.cell (.int L)) s⟩ Q:=by refine bS (i:=2) (ce:=H T) rfl Gc ?_;have e:Int.fdiv ((m:Nat):Int) 1176=((m / 1176:Nat):Int):=rR m 1176;refine(?_ :Q .next ⟨x0::x1::x2::some (aO m)::x4::x5::x6::x7::x8::x9::some (.int (2*L-1-Int.fdiv ((m:Nat):Int) 1176))::rr,H T,lm b b' T cr cw (.cell (.int L)) s⟩);rw[e];exact h
end
noncomputable def wR(m:Nat)(R W:List Str)(mx:Int):Int:=bif Nat.beq (m / 588 % 2) 0 then Qn R W mx else Qn W R mx
section
variable {nA mF:Option V}{n:Nat}
theorem zX{lo:List (Option V)}{mx:Int}{K:V->St->Prop}(hw:s[wr]?=some (.list (R.map .str)))(hz:R.length<=40)(Z:∀x∈R,x.length<=10000)(ho:sg R)(k:s[ww]?=some (.list (W.map .str)))(L:W.length<=40)(j:∀x∈W,x.length<=10000)(lj:sg W)(h:∀X,K (.int (Qn R W mx)) ⟨lo,H T,lm b b' T cr cw cl (s++X)⟩):XD [.loc (T.length+5+wr),.loc (T.length+5+ww),.int mx] ⟨lo,H T,lm b b' T cr cw cl s⟩ K:=by refine λ_ E=>E (dF hw) (dF k) hz L (λx B=>am (Z x B) (by decide)) (λx B=>am (j x B) (by decide)) ho lj λX=>?_;rw[jq];exact h X
theorem TU(U:cD P g){m:Nat}{bd low:Int}(ht:s[tr]?=some (.tup [.loc (T.length+5+wr),aO n]))(hw:s[wr]?=some (.list (R.map .str)))(hz:R.length<=40)(Z:∀x∈R,x.length<=10000)(ho:sg R)(MK:s[tw]?=some (.tup [.loc (T.length+5+ww),aO n']))(k:s[ww]?=some (.list (W.map .str)))(L:W.length<=40)(j:∀x∈W,x.length<=10000)(lj:sg W)(h:∀X,Q .next ⟨x0::x1::x2::some (aO m)::x4::x5::x6::x7::x8::some (.int bd)::some (.int low)::some (.loc (T.length+5+(s++X).length))::rr,H T,lm b b' T (.cell (.loc (T.length+5+tr))) (.cell (.loc (T.length+5+tw))) cl ((s++X)++[.list [.int (wR m R W bd),.int (wR m R W low)]])⟩):F9.1 ⟨x0::x1::x2::some (aO m)::x4::x5::x6::x7::x8::some (.int bd)::some (.int low)::nA::rr,H T,lm b b' T (.cell (.loc (T.length+5+tr))) (.cell (.loc (T.length+5+tw))) cl s⟩ Q:=by
 have e:Int.fmod (Int.fdiv ((m:Nat):Int) 588) 2=((m / 588 % 2:Nat):Int):=dm m 588 2;unfold wR at h;refine bu (b:=Int.fmod (Int.fdiv ((m:Nat):Int) 588) 2==0) (λe1=>?_) (λe1=>?_)
 ·rw[e,zI] at e1;rw[e1] at h;refine bS (i:=1) (ce:=H T) (l:=T.length+3) (v:=.loc (T.length+5+tr)) rfl qc ?_;refine dK (xs:=[.loc (T.length+5+wr),aO n]) (i:=0) (v:=.loc (T.length+5+wr)) (dF ht) rfl ?_;refine bS (i:=0) (ce:=H T) (l:=T.length+2) (v:=.loc (T.length+5+tw)) rfl uk ?_;refine dK (xs:=[.loc (T.length+5+ww),aO n']) (i:=0) (v:=.loc (T.length+5+ww)) (dF MK) rfl ?_;refine zX (R:=R) (W:=W) hw hz Z ho k L j lj λX=>?_;refine bS (i:=1) (ce:=H T) (l:=T.length+3) (v:=.loc (T.length+5+tr)) rfl qc ?_;refine dK (xs:=[.loc (T.length+5+wr),aO n]) (i:=0) (v:=.loc (T.length+5+wr)) (dF (ac ht)) rfl ?_;refine bS (i:=0) (ce:=H T) (l:=T.length+2) (v:=.loc (T.length+5+tw)) rfl uk ?_;refine dK (xs:=[.loc (T.length+5+ww),aO n']) (i:=0) (v:=.loc (T.length+5+ww)) (dF (ac MK)) rfl ?_;refine zX (R:=R) (W:=W) (ac hw) hz Z ho (ac k) L j lj λY=>?_;have:=h (X++Y);rw[<-au,<-jq (s:=(s++X)++Y),<-nb (b:=b) (b':=b') (cr:=.cell (.loc (T.length+5+tr))) (cw:=.cell (.loc (T.length+5+tw))) (cl:=cl)] at this;exact this
 ·rw[e,zI] at e1;rw[e1] at h;refine bS (i:=0) (ce:=H T) (l:=T.length+2) (v:=.loc (T.length+5+tw)) rfl uk ?_;refine dK (xs:=[.loc (T.length+5+ww),aO n']) (i:=0) (v:=.loc (T.length+5+ww)) (dF MK) rfl ?_;refine bS (i:=1) (ce:=H T) (l:=T.length+3) (v:=.loc (T.length+5+tr)) rfl qc ?_;refine dK (xs:=[.loc (T.length+5+wr),aO n]) (i:=0) (v:=.loc (T.length+5+wr)) (dF ht) rfl ?_;refine zX (R:=W) (W:=R) k L j lj hw hz Z ho λX=>?_;refine bS (i:=0) (ce:=H T) (l:=T.length+2) (v:=.loc (T.length+5+tw)) rfl uk ?_;refine dK (xs:=[.loc (T.length+5+ww),aO n']) (i:=0) (v:=.loc (T.length+5+ww)) (dF (ac MK)) rfl ?_;refine bS (i:=1) (ce:=H T) rfl qc ?_;refine dK (dF (ac ht)) rfl ?_;refine zX (ac k) L j lj (ac hw) hz Z ho λY=>?_;have:=h (X++Y);rw[<-au,<-jq,<-nb] at this;exact this
theorem TV(U:cD P g){t1 t2:Int}(hj:s[j]?=some (.list [.int t1,.int t2]))(h:Q .next ⟨x0::x1::x2::x3::x4::x5::x6::x7::x8::x9::uG::some (.loc (T.length+5+j))::rr,H T,lm b b' T cr cw cl s⟩):F_.1 ⟨x0::x1::x2::x3::x4::x5::x6::x7::x8::x9::uG::some (.loc (T.length+5+j))::rr,H T,lm b b' T cr cw cl s⟩ Q:=by refine bJ (dF hj) rfl ?_;refine b_ (b:=("bool":Str)=="bool") (by kernel_rfl) ?_;refine bJ (dF hj) rfl ?_;refine b_ (b:=("bool":Str)=="bool") (by kernel_rfl) ?_;exact h
end
noncomputable def ED(R W:List Str)(d k:Nat):Bool:=nG (W.take k++W.drop (k+d)) R
noncomputable def XX(R W:List Str)(d:Nat):V->Bool
 | .int i=>ED R W d i.toNat
 |_=>false
noncomputable def B9(R W:List Str)(d:Nat):List Nat:=(List.range (R.length+1)).filter (ED R W d)
theorem TW(R W:List Str)(d:Nat):(((List.range (R.length+1)).map aO).filter (XX R W d)).map id=(B9 R W d).map aO:=by rw[List.map_id,List.filter_map];rfl
theorem sg.app{a b:List Str}(h:sg a)(h':sg b):sg (a++b):=λx B=>(List.mem_append.mp B).elim (h x) (h' x)
theorem Mb{α:Type}(xs:List α)(n:Nat):fS xs none (some ((n:Nat):Int))=xs.take n:=by
 refine(?_ :(xs.drop 0).take (Nat.min n xs.length-0)=xs.take n);rw[gW,Nat.sub_zero];have:Nat.min n xs.length=min n xs.length:=rfl;rw[this];by_cases h:n<=xs.length
 ·rw[kg h]
 ·rw[kb (by exact aQ [_,_] (.g 1 (.v 0) (.v 1) .nil) 0 (.v 1) (.v 0) tt h),List.take_length,oQ (by exact aQ [_,_] (.g 1 (.v 0) (.v 1) .nil) 0 (.v 1) (.v 0) tt h)]
theorem Mc{lo:List (Option V)}{a b c:Int}(h:me[l]?=some (.rng a b c))(M:Builtin.Range.small a b c=true):Jv (.loc l) ⟨lo,ce,me⟩=some (a,b,c):=(bE (o:=AO me[l]?) (bE (f:=O.rg) h)).trans (ag (λx=>cond x (some (a,b,c)) none) M)
section
variable {nA mF:Option V}{n:Nat}
theorem TX(U:cD P g){d:Nat}(ht:s[tr]?=some (.tup [.loc (T.length+5+wr),aO n]))(hw:s[wr]?=some (.list (R.map .str)))(hz:R.length<=40)(ho:sg R)(MK:s[tw]?=some (.tup [.loc (T.length+5+ww),aO n']))(k:s[ww]?=some (.list (W.map .str)))(L:W.length<=40)(lj:sg W)(h:∀j X,(s++X)[j]?=some (.list ((B9 R W d).map aO))->Q .next ⟨x0::x1::x2::x3::x4::x5::x6::x7::x8::x9::uG::nA::some (.loc (T.length+5+j))::rr,H T,lm b b' T (.cell (.loc (T.length+5+tr))) (.cell (.loc (T.length+5+tw))) (.cell (aO d)) (s++X)⟩):Ga.1 ⟨x0::x1::x2::x3::x4::x5::x6::x7::x8::x9::uG::nA::mF::rr,H T,lm b b' T (.cell (.loc (T.length+5+tr))) (.cell (.loc (T.length+5+tw))) (.cell (aO d)) s⟩ Q:=by
 refine bS (i:=1) (ce:=H T) (l:=T.length+3) (v:=.loc (T.length+5+tr)) rfl qc ?_;refine dK (xs:=[.loc (T.length+5+wr),aO n]) (i:=0) (v:=.loc (T.length+5+wr)) (dF ht) rfl ?_;refine eJ (dF hw) (by rw[ax];exact aQ [_] (.c 1 (.v 0) (.n 40) .nil) 0 (.v 0) (.n 10000) tt hz) ?_;rw[ax];refine av (Mc (a:=0) (b:=((R.length+1:Nat):Int)) (c:=1) aR (uf (by exact aQ [_] (.c 1 (.v 0) (.n 40) .nil) 0 (.a (.v 0) (.n 1)) (.n 10000) tt hz))) ?_;refine⟨((List.range (R.length+1)).map aO).length+1,?_⟩;have f:∀Y:List O,((lm b b' T (.cell (.loc (T.length+5+tr))) (.cell (.loc (T.length+5+tw))) (.cell (aO d)) s++[.rng 0 ((R.length+1:Nat):Int) 1])++Y)[T.length+3]?=some (.cell (.loc (T.length+5+tr))):=λY=>ac (ac qc);have N:∀Y:List O,((lm b b' T (.cell (.loc (T.length+5+tr))) (.cell (.loc (T.length+5+tw))) (.cell (aO d)) s++[.rng 0 ((R.length+1:Nat):Int) 1])++Y)[T.length+2]?=some (.cell (.loc (T.length+5+tw))):=λY=>ac (ac uk);have c2:∀Y:List O,((lm b b' T (.cell (.loc (T.length+5+tr))) (.cell (.loc (T.length+5+tw))) (.cell (aO d)) s++[.rng 0 ((R.length+1:Nat):Int) 1])++Y)[T.length+4]?=some (.cell (aO d)):=λY=>ac (ac Gc);have d0:∀Y:List O,((lm b b' T (.cell (.loc (T.length+5+tr))) (.cell (.loc (T.length+5+tw))) (.cell (aO d)) s++[.rng 0 ((R.length+1:Nat):Int) 1])++Y)[T.length+5+tr]?=some (.tup [.loc (T.length+5+wr),aO n]):=λY=>ac (ac (dF ht));have M:∀Y:List O,((lm b b' T (.cell (.loc (T.length+5+tr))) (.cell (.loc (T.length+5+tw))) (.cell (aO d)) s++[.rng 0 ((R.length+1:Nat):Int) 1])++Y)[T.length+5+tw]?=some (.tup [.loc (T.length+5+ww),aO n']):=λY=>ac (ac (dF MK));have f0:∀Y:List O,((lm b b' T (.cell (.loc (T.length+5+tr))) (.cell (.loc (T.length+5+tw))) (.cell (aO d)) s++[.rng 0 ((R.length+1:Nat):Int) 1])++Y)[T.length+5+wr]?=some (.list (R.map .str)):=λY=>ac (ac (dF hw));have p:∀Y:List O,((lm b b' T (.cell (.loc (T.length+5+tr))) (.cell (.loc (T.length+5+tw))) (.cell (aO d)) s++[.rng 0 ((R.length+1:Nat):Int) 1])++Y)[T.length+5+ww]?=some (.list (W.map .str)):=λY=>ac (ac (dF k));refine oI (keep:=XX R W d) (val:=id) (v0:=id) (iF:=[T.length+4,T.length+3,T.length+2]) (xs:=(List.range (R.length+1)).map aO) (m:=lm b b' T (.cell (.loc (T.length+5+tr))) (.cell (.loc (T.length+5+tw))) (.cell (aO d)) s++[.rng 0 ((R.length+1:Nat):Int) 1]) (λi lo Y=>?_) (λv hv x Y K hK=>?_) (λv hv hk Y K hK=>?_) (by rw[ax,j_];exact aQ [_] (.c 1 (.v 0) (.n 40) .nil) 0 (.a (.v 0) (.n 1)) (.n 1000) tt hz) _ 0 [] none [] rfl (aF _) λx X=>?_
 ·by_cases hi:i<R.length+1
  ·refine(zG hi).trans ?_;rw[bi,j7 hi,fW,Int.mul_one];rfl
  ·refine(uT (by exact aQ [_,_] (.g 1 (.a (.v 0) (.n 1)) (.a (.v 1) (.n 1)) .nil) 0 (.a (.v 1) (.n 1)) (.v 0) tt hi)).trans ?_;rw[List.getElem?_eq_none (by rw[ax,j_];exact aQ [_,_] (.g 1 (.a (.v 0) (.n 1)) (.a (.v 1) (.n 1)) .nil) 0 (.a (.v 1) (.n 1)) (.v 0) tt hi)]
 ·refine bx (List.mem_map.mp hv) λi hi jM=>?_;obtain rfl:=jM;replace f:=f Y;replace N:=N Y;replace c2:=c2 Y;replace d0:=d0 Y;replace M:=M Y;replace f0:=f0 Y;replace p:=p Y;revert hK f N c2 d0 M f0 p;generalize (lm b b' T (.cell (.loc (T.length+5+tr))) (.cell (.loc (T.length+5+tw))) (.cell (aO d)) s++[.rng 0 ((R.length+1:Nat):Int) 1])++Y=me;intro hK f N c2 d0 M f0 p;refine bS (i:=2) (ce:=[T.length+4,T.length+3,T.length+2]) (l:=T.length+2) (v:=.loc (T.length+5+tw)) rfl N ?_;refine dK (xs:=[.loc (T.length+5+ww),aO n']) (i:=0) (v:=.loc (T.length+5+ww)) M rfl ?_;refine jH (a:=.none) (b:=aO i) (I:=(W.take i).map .str) p (by rw[ax];exact aQ [_] (.c 1 (.v 0) (.n 40) .nil) 0 (.v 0) (.n 10000) tt L) rfl rfl (by rw[Mb,List.map_take]) ?_;refine bS (i:=2) (ce:=[T.length+4,T.length+3,T.length+2]) (l:=T.length+2) (v:=.loc (T.length+5+tw)) rfl (ac N) ?_;refine dK (xs:=[.loc (T.length+5+ww),aO n']) (i:=0) (v:=.loc (T.length+5+ww)) (ac M) rfl ?_;refine bS (i:=0) (ce:=[T.length+4,T.length+3,T.length+2]) (l:=T.length+4) (v:=aO d) rfl (ac c2) ?_;refine jH (a:=aO (i+d)) (b:=.none) (I:=(W.drop (i+d)).map .str) (ac p) (by rw[ax];exact aQ [_] (.c 1 (.v 0) (.n 40) .nil) 0 (.v 0) (.n 10000) tt L) rfl rfl (by rw[oH,km]) ?_;refine av (cW (ac aR)) (av (cW aR) (b_ (b:=bw (((W.take i).map V.str).length+((W.drop (i+d)).map V.str).length)) (cM (by rw[ax,ax,jA,cb];exact am (gm (l9 _ _) (Nat.sub_le _ _)) (aQ [_] (.c 2 (.v 0) (.n 40) .nil) 0 (.a (.v 0) (.v 0)) (.n 10000) tt L))) ?_));refine bS (i:=1) (ce:=[T.length+4,T.length+3,T.length+2]) (l:=T.length+3) (v:=.loc (T.length+5+tr)) rfl (ac (ac (ac f))) ?_;refine dK (xs:=[.loc (T.length+5+wr),aO n]) (i:=0) (v:=.loc (T.length+5+wr)) (ac (ac (ac d0))) rfl ?_;refine LF (me:=((me++[O.list ((W.take i).map V.str)])++[O.list ((W.drop (i+d)).map V.str)])++[O.list ((W.take i).map V.str++(W.drop (i+d)).map V.str)]) (K:=λr=>K r ⟨[some (aO i)],[T.length+4,T.length+3,T.length+2],((me++[.list ((W.take i).map V.str)])++[.list ((W.drop (i+d)).map V.str)])++[.list ((W.take i).map V.str++(W.drop (i+d)).map V.str)]⟩) (xs:=W.take i++W.drop (i+d)) (I:=R) (by rw[fh];exact aR) (ac (ac (ac f0))) (sg.app (λx B=>lj x (oW B)) (λx B=>lj x (lX B))) ho ?_;rw[au,au];exact hK _
 ·have:=hK [];rw[aS] at this;exact this
 ·rw[kh,gW,TW];refine(?_ :Q .next ⟨x0::x1::x2::x3::x4::x5::x6::x7::x8::x9::uG::nA::some (.loc (lm b b' T (.cell (.loc (T.length+5+tr))) (.cell (.loc (T.length+5+tw))) (.cell (aO d)) s++[O.rng 0 ((R.length+1:Nat):Int) 1]).length)::rr,H T,(lm b b' T (.cell (.loc (T.length+5+tr))) (.cell (.loc (T.length+5+tw))) (.cell (aO d)) s++[.rng 0 ((R.length+1:Nat):Int) 1])++(.list ((B9 R W d).map aO)::X)⟩);rw[jq,jq,nb,au];refine h (s++[O.rng 0 ((R.length+1:Nat):Int) 1]).length _ ?_;rw[<-au];exact aR
end
theorem EE{n:Nat}(ts:List Int):xw (yr me n) (ts.map .int)=some (ts.map PyData.int):=by
 induction ts with
 |nil=>rfl
 |cons t ts T=>exact(bE (show yr me n (.int t)=some (.int t) by cases n<;>rfl)).trans (bE T)
theorem r4{ts:List Int}(n:Nat)(h:me[l]?=some (.list (ts.map .int))):yr me (n+1) (.loc l)=some (.list (ts.map PyData.int)):=(bE h).trans (bE (EE ts))
theorem wS:∀ts:List Int,PyData.canLayAll0 (ts.map PyData.int)=true/\PyData.depthAll (ts.map PyData.int)=0
 | []=>⟨by simp[PyData.canLayAll0],by simp[PyData.depthAll]⟩
 |t::ts=>by refine xA (wS ts) λh1 h2=>?_;rw[cy,PyData.canLayAll0,PyData.depthAll,h1,h2,PyData.canLay0,PyData.depth];exact⟨rfl,rfl⟩
theorem oM(ts:List Int):SeqAt.shaped (.list (ts.map PyData.int))=true:=by refine xA (wS ts) λh1 h2=>?_;unfold SeqAt.shaped;rw[PyData.canLay0,PyData.depth,h1,h2];rfl
theorem Md(ts:List Int):PyData.eqv (.list (ts.map PyData.int)) (.list (ts.map PyData.int))=true:=SeqAt.eqv_refl _ (by rw[PyData.canLay0];exact(wS ts).1)
theorem O_{l':Nat}{ts:List Int}{K:Bool->Prop}(h:me[l]?=some (.list (ts.map .int)))(h':me[l']?=some (.list []))(q:K (!ts.isEmpty)):aA (yr me 4 (.loc l)) λx=>aA (yr me 4 (.loc l')) λy=>gd (SeqAt.shaped x&&SeqAt.shaped y) (K (!(PyData.eqv x y))):=by
 refine av (r4 3 h) (av (r4 (ts:=[]) 3 h') (b_ (by rw[oM,oM];rfl) ?_));cases ts with
 |nil=>exact q
 |cons t ts=>rw[show PyData.eqv (.list ((t::ts).map PyData.int)) (.list (([]:List Int).map PyData.int))=false by simp[PyData.eqv,PyData.eqvAll]];exact q
theorem B_{l':Nat}{ts:List Int}{K:Bool->Prop}(h:me[l]?=some (.list (ts.map .int)))(h':me[l']?=some (.list (ts.map .int)))(q:K true):aA (yr me 4 (.loc l)) λx=>aA (yr me 4 (.loc l')) λy=>gd (SeqAt.shaped x&&SeqAt.shaped y) (K (PyData.eqv x y)):=by refine av (r4 3 h) (av (r4 3 h') (b_ (by rw[oM];rfl) ?_));rw[Md];exact q
section
variable {nA mF:Option V}
theorem TY(U:cD P g){jt jp:Nat}{pr low:Int}{ks:List Nat}(ht:s[jt]?=some (.list ([pr,bif ks.isEmpty then low+1 else pr].map V.int)))(hp:s[jp]?=some (.list (ks.map aO)))(h:∀lo b b' r,Q (.ret (.bool true)) ⟨lo,H T,.tab 0 b:: .tab 1 b'::r⟩):Gb.1 ⟨x0::x1::x2::x3::x4::x5::x6::x7::some (.int pr)::x9::some (.int low)::some (.loc (T.length+5+jt))::some (.loc (T.length+5+jp))::rr,H T,lm b b' T cr cw cl s⟩ Q:=by
 have f:ks.map aO=(ks.map Int.ofNat).map V.int:=by rw[ia];rfl
 rw[f] at hp;refine O_ (K:=λr=>br r _ _) (ac (dF hp)) aR ?_;cases ks with
 |nil=>exact B_ (K:=λr=>Q (.ret (.bool r)) ⟨x0::x1::x2::x3::x4::x5::x6::x7::some (.int pr)::x9::some (.int low)::some (.loc (T.length+5+jt))::some (.loc (T.length+5+jp))::rr,H T,(lm b b' T cr cw cl s++[O.list []])++[O.list (([pr,low+1]:List Int).map V.int)]⟩) (ac (ac (dF ht))) aR (h _ b b' _)
 |cons k ks=>exact B_ (K:=λr=>Q (.ret (.bool r)) ⟨x0::x1::x2::x3::x4::x5::x6::x7::some (.int pr)::x9::some (.int low)::some (.loc (T.length+5+jt))::some (.loc (T.length+5+jp))::rr,H T,(lm b b' T cr cw cl s++[O.list []])++[O.list (([pr,pr]:List Int).map V.int)]⟩) (ac (ac (dF ht))) aR (h _ b b' _)
end
structure Qo(cs:List Nat)(m:Nat):Prop where
 n:(evs cs []).length<=50
 g0:oJ "p" "q" [] (evs cs [])
 g1:oJ (pS m) (qS (m / 2)) (eI m) (evs cs [])
 le:(cY ⟨cN (eI m),pS m,qS (m / 2)⟩ (eI m) (evs cs [])).ws.length<=(cY ⟨cN [],"p","q"⟩ [] (evs cs [])).ws.length
 t1:∀R W:List Str,R=(cY ⟨cN (eI m),pS m,qS (m / 2)⟩ (eI m) (evs cs [])).ws->W=(cY ⟨cN [],"p","q"⟩ [] (evs cs [])).ws->wR m R W (2*((W.length-R.length:Nat):Int)+(((R.filter oK).length:Nat):Int)+((m / 196 % 3:Nat):Int)-1)=2*((W.length-R.length:Nat):Int)+(((R.filter oK).length:Nat):Int)
 t2:∀R W:List Str,R=(cY ⟨cN (eI m),pS m,qS (m / 2)⟩ (eI m) (evs cs [])).ws->W=(cY ⟨cN [],"p","q"⟩ [] (evs cs [])).ws->wR m R W (2*((W.length-R.length:Nat):Int)-1-((m / 1176:Nat):Int))=bif (B9 R W (W.length-R.length)).isEmpty then 2*((W.length-R.length:Nat):Int)-1-((m / 1176:Nat):Int)+1 else 2*((W.length-R.length:Nat):Int)+(((R.filter oK).length:Nat):Int)
theorem abQ{W W':ad Fl}{σ:St}(h:W σ (sS W' Q)):aV W W' σ Q:=h
theorem i5{W W':ad Fl}{σ:St}(h:W σ (sS W' Q)):sS (aV W W') Q .next σ:=h
section
theorem Me(U:cD P g)(hz:g.sn.length<=63)(f:∀c cs,ud 63 (c::cs)->Qo (c::cs) (c / 648)):∃W:ad Fl,NB g (Il P g) (k+6) (bh (KK P) 276) W/\∀Q:Fl->St->Prop,(∀lo b b' r,Q (.ret (.bool true)) ⟨lo,[2,3,4],.tab 0 b:: .tab 1 b'::r⟩)-> W ⟨some (.fb (.ref g.sa))::List.replicate 12 none,[2,3,4],[.tab 0 false,.tab 1 false,.de,.de,.de]⟩ Q:=by
 have H:=XH U;refine⟨_,(NB.at rfl (by exact(ab ((LU g).2 U) (ab (LV.2 U H) (ab (LW.2 U H) (ab (LX.2 U H) (ab (LY.2 U H) (ab (LZ.2 U H) (ab (L1.2 U H) (ab (L5.2 U H) (ab (L6.2 U H) (ab (L7.2 U H) (ab (F4.2 U H) (ab (F5.2 U H) (ab (F6.2 U H) (ab (F7.2 U H) (ab (F8.2 U H) (ab (F9.2 U H) (ab (F_.2 U H) (ab (Ga.2 U H) (ab (Gb.2 U H) aC))))))))))))))))))))),λQ h=>?_⟩;refine abQ ?_;refine XL (b:=false) (b':=false) (T:=[]) (cr:=.de) (cw:=.de) (cl:=.de) (s:=[]) U hz λcs X hc=>?_;obtain⟨c,cs,rfl⟩:∃c t,cs=c::t:=by
  have:=hc.len;cases cs with
  |nil=>cases this
  |cons c cs=>exact⟨c,cs,rfl⟩
 have G:=f c cs hc;refine i5 ?_;refine XM (j:=0) (cs:=c::cs) U rfl hc.len λlv r he=>?_;have f0:(([]++[O.list ((c::cs).map aO),X])++(.list lv:: .list []::r))[0]?=some (.list ((c::cs).map aO)):=rfl;have p:(([]++[O.list ((c::cs).map aO),X])++(.list lv:: .list []::r))[([]++[O.list ((c::cs).map aO),X]).length]?=some (.list lv):=rfl;revert he f0 p;generalize ([]++[O.list ((c::cs).map aO),X])++(.list lv:: .list []::r)=s;generalize ([]++[O.list ((c::cs).map aO),X]).length=je;intro he f0 p;refine i5 ?_;refine XN (j:=0) (c:=c) (cs:=cs) U f0 ?_;refine i5 ?_;refine XO (m:=c / 648) U ?_;refine i5 ?_;refine XP (m:=c / 648) U ?_;refine i5 ?_;refine XR (m:=c / 648) U λY=>?_;revert G;generalize c / 648=m;intro G;have f0':((s++[O.list [aO (m / 4 % 7),aO (m / 28 % 7)]])++(.list ((eI m).map .str)::Y))[je]?=some (.list lv):=ac (ac p);have q:((s++[O.list [aO (m / 4 % 7),aO (m / 28 % 7)]])++(.list ((eI m).map .str)::Y))[s.length+1]?=some (.list ((eI m).map .str)):=by rw[show s.length+1=(s++[O.list [aO (m / 4 % 7),aO (m / 28 % 7)]]).length by rw[ak];rfl];exact aR
 have D:=(he.more [O.list [aO (m / 4 % 7),aO (m / 28 % 7)]]).more (.list ((eI m).map .str)::Y);clear he f0 p;revert f0' q D;generalize (s++[O.list [aO (m / 4 % 7),aO (m / 28 % 7)]])++(.list ((eI m).map .str)::Y)=s1;generalize s.length+1=jl;intro p q he;refine i5 ?_;refine XS U G.g0 G.n p he λu X1 tw ww a d=>?_;refine i5 ?_;refine XT U G.g1 G.n (ac (ac p)) ((he.more _).more _) (ac (ac q)) λb2 X2 tr wr e i=>?_;replace p:=ac (t:=X2) (ac (t:=X1) (ac (t:=[.list []]) p));replace q:=ac (t:=X2) (ac (t:=X1) (ac (t:=[.list []]) q));replace he:=((he.more [.list []]).more X1).more X2;replace a:=ac (t:=X2) a;replace d:=ac (t:=X2) d;revert p q he a d e i;generalize ((s1++[.list []])++X1)++X2=s2;intro e i p q he a d;refine i5 ?_;refine XU U G.g0 p he a d λX3=>?_;refine i5 ?_;refine XV U G.g1 (ac p) (he.more _) (ac q) (ac e) (ac i) λX4=>?_;replace a:=ac (t:=X4) (ac (t:=X3) a);replace d:=ac (t:=X4) (ac (t:=X3) d);replace e:=ac (t:=X4) (ac (t:=X3) e);replace i:=ac (t:=X4) (ac (t:=X3) i);clear p q he;revert a d e i;generalize (s2++X3)++X4=s3;intro a d e i;have t1:=G.t1 _ _ rfl rfl;have t2:=G.t2 _ _ rfl rfl;have gI:=G.le;have zr:=G.g1.zw;have zw:=G.g0.zw;have o:=G.g1.lw;have lw:=G.g0.lw;have Zb:=G.g1.B4;have B4:=G.g0.B4;clear G f hc;revert t1 t2 gI zr zw o lw Zb B4 a e d i;generalize (cY ⟨cN (eI m),pS m,qS (m / 2)⟩ (eI m) (evs (c::cs) [])).ws=R;generalize (cY ⟨cN [],"p","q"⟩ [] (evs (c::cs) [])).ws=W;intro a d e i t1 t2 gI zr zw o lw Zb B4;have eL:((W.length:Nat):Int)-((R.length:Nat):Int)=((W.length-R.length:Nat):Int):=(Int.ofNat_sub gI).symm;refine i5 ?_;refine TP U i e zr o λX5=>?_;refine i5 ?_;refine TQ U (ac i) (ac e) zr (ac d) (ac a) zw ?_;rw[eL];refine i5 ?_;refine TR (j:=s3.length) U aR (by rw[ax];exact am (List.length_filter_le _ _) (am zr (by decide))) ?_;rw[ax];refine i5 ?_;refine TS (m:=m) U ?_;refine i5 ?_;refine TT (m:=m) U ?_;replace a:=ac (t:=O.list ((R.filter oK).map .str)::X5) a;replace d:=ac (t:=O.list ((R.filter oK).map .str)::X5) d;replace e:=ac (t:=O.list ((R.filter oK).map .str)::X5) e;replace i:=ac (t:=O.list ((R.filter oK).map .str)::X5) i;revert a d e i;generalize s3++(O.list ((R.filter oK).map .str)::X5)=s4;intro a d e i;refine i5 ?_;refine TU U i e zr o Zb d a zw lw B4 λX6=>?_;rw[t1,t2];refine i5 ?_;refine TV U aR ?_;refine i5 ?_;refine TX U (ac (ac i)) (ac (ac e)) zr Zb (ac (ac d)) (ac (ac a)) zw B4 λj X7 hj=>?_;refine i5 ?_;refine TY U (ac aR) hj λA b b' r=>?_;exact h A b b' r
end
end
section
variable {D:cR}{l:Lc}{l' r:List Nat}{m:Nat}{sp:Nat->Bool}{X t w:Str}
theorem XY{c:Nat}(h:sp c=true):sT sp (c::r) t=(t,r):=by unfold sT;rw[h];rfl
theorem abR{d:Nat}(h:sp 92=false):sT sp (92::d::r) t=sT sp r (t++gM d):=by rw[sT,h];rfl
theorem abS{c:Nat}(h:sp c=false)(h':Nat.beq c 92=false):sT sp (c::r) t=sT sp r (t++gM c):=by rw[sT.eq_def];dsimp only;rw[h,h'];rfl
inductive Rd(sp:Nat->Bool):List Nat->Str->Str->Prop
 |nil {t:Str}:Rd sp [] t t
 |esc {d:Nat} {r:List Nat} {t w:Str}:Rd sp r (t++gM d) w->Rd sp (92::d::r) t w
 |chr {c:Nat} {r:List Nat} {t w:Str}:sp c=false->Nat.beq c 92=false->Rd sp r (t++gM c) w->Rd sp (c::r) t w
theorem Rd.app(h92:sp 92=false){l:List Nat}(h:Rd sp l t w):∀aD,sT sp (l++aD) t=sT sp aD w:=by
 induction h with
 |nil=>exact λ_=>rfl
 |esc _ T=>exact λaD=>(abR h92).trans (T aD)
 |chr h1 h2 _ T=>exact λaD=>(abS h1 h2).trans (T aD)
theorem Rd.cat{l:List Nat}{w':Str}(h:Rd sp l t w)(h':Rd sp l' w w'):Rd sp (l++l') t w':=by
 induction h with
 |nil=>exact h'
 |esc _ T=>exact .esc (T h')
 |chr h1 h2 _ T=>exact .chr h1 h2 (T h')
noncomputable def Mf(sp:Nat->Bool):Bool->List Nat->Str->Option Str
 |false,[],t=>some t
 |true,[],_=>none
 |true,d::r,t=>Mf sp false r (t++gM d)
 |false,c::r,t=>bif Nat.beq c 92 then Mf sp true r t else bif sp c then none else Mf sp false r (t++gM c)
theorem Cc:∀(l:List Nat)(t:Str),(Mf sp false l t=some w->Rd sp l t w)/\(Mf sp true l t=some w->Rd sp (92::l) t w)
 | [],t=>⟨λh=>by obtain rfl:=aq h;exact .nil,λh=>by exact nS h⟩
 |c::r,t=>by
  refine⟨λh=>?_,λh=>.esc ((Cc r _).1 h)⟩;have h:(bif Nat.beq c 92 then Mf sp true r t else bif sp c then none else Mf sp false r (t++gM c))=some w:=h;cases e':Nat.beq c 92 with
  |true=>rw[e'] at h;rw[bK e'];exact(Cc r t).2 h
  |false=>
   rw[e'] at h;cases e:sp c with
   |true=>rw[e] at h;exact nS h
   |false=>rw[e] at h;exact .chr e e' ((Cc r _).1 h)
theorem abT:sf 92=false:=by decide
theorem abU:qG 92=false:=rfl
inductive Tk:List Nat->Str->Prop
 |un {c:Nat} {r:List Nat} {w:Str}:sf c=false->qG c=false->Rd sf (c::r) "" w->Tk (c::r) w
 |qu {r:List Nat} {w:Str}:Rd qG r "" w->Tk (34::(r++[34])) w
theorem TZ{c:Nat}(h1:sf c=false)(h2:qG c=false):tG (c::r)=sT sf (c::r) "":=by
 rw[tG,h1];refine(?_ :Lh c r=_);unfold Lh;rw[h2];cases r with
 |nil=>refine(?_ :_=bif sf c then(("":Str),[]) else bif Nat.beq c 92 then(("":Str)++(⟨#[]⟩:Str),[]) else sT sf [] (""++gM c));rw[h1];rfl
 |cons d r=>refine(?_ :_=bif sf c then(("":Str),d::r) else bif Nat.beq c 92 then sT sf r (""++gM d) else sT sf (d::r) (""++gM c));rw[h1];rfl
theorem T0:tG (34::r)=sT qG r "":=rfl
theorem T4{c:Nat}(h:sf c=true):tG (c::r)=tG r:=by rw[tG,h];rfl
theorem Cd{c:Nat}{ws:List Str}(h:sf c=true):iU (c::r) ws l'↔iU r ws l':=by
 have e:=T4 (r:=r) h;constructor
 ·intro k;cases k with
  |stop k=>rw[e] at k ⊢;exact .stop k
  |go k j=>rw[e] at k j ⊢;exact .go k j
 ·intro k;cases k with
  |stop k=>rw[<-e] at k ⊢;exact .stop k
  |go k j=>rw[<-e] at k j ⊢;exact .go k j
def Wh(aD:List Nat):Prop:=aD=[]\/∃c r,aD=c::r/\sf c=true
theorem Tk.words{tk:List Nat}(h:Tk tk w)(hw:Nat.beq w.length 0=false){aD:List Nat}{ws:List Str}(hr:Wh aD)(k:iU aD ws l'):iU (tk++aD) (w::ws) l':=by
 have go:∀{l r:List Nat},tG l=(w,r)->iU r ws l'->iU l (w::ws) l':=λ{l r} e k=>by
  have e1:(tG l).1=w:=by rw[e]
  have e2:(tG l).2=r:=by rw[e]
  have:=iU.go (by rw[e1];exact hw) (by rw[e2];exact k);rw[e1] at this;exact this
 cases h with
 | @un c r _ h1 h2 h=>
  have e:=(TZ h1 h2).trans (h.app abT aD);rcases hr with rfl|⟨d,r',rfl,hd⟩
  ·exact go e k
  ·exact go (e.trans (XY hd)) ((Cd hd).mp k)
 | @qu r _ h=>
  have e:tG (34::(r++[34])++aD)=(w,aD):=by refine(?_ :tG (34::((r++[34])++aD))=_);rw[T0,au,h.app abU];exact XY rfl
  exact go e k
def xk(V:List Nat)(ws:List Str):Prop:=∀aD Lf l',iU aD Lf l'->iU (V++aD) (ws++Lf) l'
def zY(V:List Nat)(ws:List Str):Prop:=∀aD Lf l',Wh aD->iU aD Lf l'->iU (V++aD) (ws++Lf) l'
theorem Ce:xk [] []:=λ_ _ _ k=>k
theorem xk.c{V:List Nat}{ws:List Str}(h:xk V ws):zY V ws:=λr w l _ k=>h r w l k
theorem xk.tk{V tk:List Nat}{ws:List Str}(h:xk V ws)(t:Tk tk w)(hw:Nat.beq w.length 0=false):zY (V++tk) (ws++[w]):=λr w' l hr k=>by rw[au,au];exact h _ _ _ (t.words hw hr k)
theorem zY.ws{V:List Nat}{ws:List Str}(h:zY V ws){c:Nat}(hc:sf c=true):xk (V++[c]) ws:=λr w l k=>by rw[au];exact h _ _ _ (.inr ⟨c,r,rfl,hc⟩) ((Cd hc).mpr k)
theorem zY.fin{V:List Nat}{ws:List Str}(h:zY V ws):iU V ws []:=by have:=h [] [] [] (.inl rfl) (.stop rfl);rwa[aS,aS] at this
structure Un(tk:List Nat)(w:Str):Prop where
 hd:∃c r,tk=c::r/\sf c=false/\qG c=false
 rd:Rd sf tk "" w
 ne:Nat.beq w.length 0=false
theorem Un.tk{tk:List Nat}(h:Un tk w):Tk tk w:=by obtain⟨⟨c,r,rfl,h1,h2⟩,h3,_⟩:=h;exact .un h1 h2 h3
theorem T5{x:Str}(h:Nat.beq w.length 0=false):Nat.beq (w++x).length 0=false:=by rw[bH];have:=Nat.ne_of_beq_eq_false h;exact Bool.eq_false_iff.mpr λe=>by have:=bK e;omega
theorem Un.gt{tk:List Nat}(h:Un tk w):Un (tk++[62]) (w++">"):=by obtain⟨⟨c,r,rfl,h1,h2⟩,h3,h4⟩:=h;refine⟨⟨c,r++[62],rfl,h1,h2⟩,?_,T5 h4⟩;refine h3.cat (.chr (by decide) rfl ?_);rw[show(">":Str)=gM 62 by decide+kernel];exact .nil
structure Kb(tk:List Nat)(w:Str):Prop where
 z:tk.count 10=0
 zl:tk.length<=60
 ok:PySem.PyData.strOk w=true
 wl:w.length<=60
noncomputable def kB(tk:List Nat)(w:Str):Bool:=Nat.beq (tk.count 10) 0&&Nat.ble tk.length 60&&PySem.PyData.strOk w&&Nat.ble w.length 60
theorem Im{tk:List Nat}(h:kB tk w=true):Kb tk w:=by unfold kB at h;simp only[aM] at h;obtain⟨⟨⟨h1,h2⟩,h3⟩,h4⟩:=h;exact⟨bK h1,aU h2,h3,aU h4⟩
structure Qp(tk:List Nat)(w:Str):Prop where
 u:Un tk w
 k:Kb tk w
noncomputable def Zc(tk:List Nat)(w:Str):Bool:=match tk with
 | []=>false
 |c::r=>!(sf c)&& !(qG c)&&(match Mf sf false (c::r) "" with
  |some w'=>d4 w' w
  |none=>false)&& !(Nat.beq w.length 0)
theorem Qq{tk:List Nat}(h:Zc tk w=true):Un tk w:=by
 cases tk with
 |nil=>exact nB h
 |cons c r=>
  simp only[Zc,aM,gS] at h;obtain⟨⟨⟨h1,h2⟩,h3⟩,h4⟩:=h;refine⟨⟨c,r,rfl,h1,h2⟩,?_,h4⟩;cases e:Mf sf false (c::r) "" with
  |none=>rw[e] at h3;exact nB h3
  |some w'=>rw[e] at h3;have:=(cq _ _).mp h3;subst this;exact(Cc _ _).1 e
noncomputable def ukB(tk:List Nat)(w:Str):Bool:=Zc tk w&&kB tk w
theorem r7{tk:List Nat}(h:ukB tk w=true):Qp tk w:=by unfold ukB at h;rw[aM] at h;exact⟨Qq h.1,Im h.2⟩
theorem xk.un{V tk:List Nat}{ws:List Str}(h:xk V ws)(t:Un tk w):zY (V++tk) (ws++[w]):=h.tk t.tk t.ne
def PX(X:Str):Prop:=X="p"\/X="P"\/X="q"\/X="Q"
structure Dp(D:cR):Prop where
 one:D.one="p"\/D.one="P"
 two:D.two="q"\/D.two="Q"
theorem Dp.px(h:Dp D)(s:Bool):PX (pf D s):=by
 cases s with
 |false=>exact h.one.imp id .inl
 |true=>exact .inr (.inr h.two)
theorem XZ(h:PX X)(Z:l≠ .k):Qp (ch (("<":Str)++nw X l.s)) ("<"++(X++":"++l.s)):=by
 cases l with
 |k=>exact absurd rfl Z
 |a=>rcases h with rfl|rfl|rfl|rfl<;>exact r7 (by kernel_rfl)
 |b=>rcases h with rfl|rfl|rfl|rfl<;>exact r7 (by kernel_rfl)
theorem T6(Z:l≠ .k):Qp (ch (("<":Str)++l.s)) ("<"++l.s):=by
 cases l with
 |k=>exact absurd rfl Z
 |a=>exact r7 (by kernel_rfl)
 |b=>exact r7 (by kernel_rfl)
theorem Mg(G:Dp D)(o:Option Bool)(Z:l≠ .k):Qp (ch (("<":Str)++bY D o l)) ("<"++qQ D o l):=by
 cases o with
 |none=>exact T6 Z
 |some s=>exact XZ (G.px s) Z
theorem X0(h:PX X)(Z:l≠ .k):Qp (ch (mE (nw X l.s))) ("</"++(X++":"++l.s)++">"):=by
 cases l with
 |k=>exact absurd rfl Z
 |a=>rcases h with rfl|rfl|rfl|rfl<;>exact r7 (by kernel_rfl)
 |b=>rcases h with rfl|rfl|rfl|rfl<;>exact r7 (by kernel_rfl)
theorem T7(Z:l≠ .k):Qp (ch (mE l.s)) ("</"++l.s++">"):=by
 cases l with
 |k=>exact absurd rfl Z
 |a=>exact r7 (by kernel_rfl)
 |b=>exact r7 (by kernel_rfl)
theorem T8(G:Dp D)(o:Option Bool)(Z:l≠ .k):Qp (ch (mE (bY D o l))) ("</"++qQ D o l++">"):=by
 cases o with
 |none=>exact T7 Z
 |some s=>exact X0 (G.px s) Z
def Pa(e:Str×Str)(w:Str):Prop:=∃tk,ch (i0 e)=32::tk/\Qp tk w
noncomputable def X8(e:Str×Str)(w:Str):Bool:=match ch (i0 e) with
 | []=>false
 |c::tk=>Nat.beq c 32&&ukB tk w
theorem qK{e:Str×Str}(h:X8 e w=true):Pa e w:=by
 unfold X8 at h;cases q:ch (i0 e) with
 |nil=>rw[q] at h;exact nB h
 |cons c tk=>rw[q] at h;simp only[aM] at h;refine⟨tk,?_,r7 h.2⟩;rw[q,bK h.1]
theorem T9(G:Dp D)(s:Bool):Pa ("xmlns:"++pf D s,nJ s) (Tx D s):=by
 cases s with
 |false=>unfold Tx;rcases G.one with e|e<;>rw[show pf D false=_ from e]<;>exact qK (by kernel_rfl)
 |true=>unfold Tx;rcases G.two with e|e<;>rw[show pf D true=_ from e]<;>exact qK (by kernel_rfl)
theorem X9(hm:m<6)(h0:m≠0):∃v,oG m=some v/\Pa ("k",v) ((eZ[m]?).getD ""):=by
 match m,hm,h0 with
 |0,_,h0=>exact absurd rfl h0
 |1,_,_=>exact⟨_,rfl,qK (by kernel_rfl)⟩
 |2,_,_=>exact⟨_,rfl,qK (by kernel_rfl)⟩
 |3,_,_=>exact⟨_,rfl,qK (by kernel_rfl)⟩
 |4,_,_=>exact⟨_,rfl,qK (by kernel_rfl)⟩
 |5,_,_=>exact⟨_,rfl,qK (by kernel_rfl)⟩
noncomputable def tkB(tk:List Nat)(w:Str):Bool:=match tk with
 | []=>false
 |c::r=>!(Nat.beq w.length 0)&&(bif qG c then(match Mf qG false r.dropLast "" with
  |some w'=>d4 w' w&&QT (c::r) (34::(r.dropLast++[34]))
  |none=>false) else Zc (c::r) w)
theorem Cf{tk:List Nat}(h:tkB tk w=true):Tk tk w/\Nat.beq w.length 0=false:=by
 cases tk with
 |nil=>exact nB h
 |cons c r=>
  unfold tkB at h;simp only[aM,gS] at h;refine⟨?_,h.1⟩;have h:=h.2;cases q:qG c with
  |false=>rw[q] at h;exact(Qq (tk:=c::r) h).tk
  |true=>
   rw[q] at h;cases e:Mf qG false r.dropLast "" with
   |none=>rw[e] at h;exact nB h
   |some w'=>rw[e] at h;have h:(d4 w' w&&QT (c::r) (34::(r.dropLast++[34])))=true:=h;rw[aM] at h;have e1:=(cq _ _).mp h.1;have e2:=(mK _ _).mp h.2;subst e1;rw[e2];exact .qu ((Cc _ _).1 e)
theorem Pb{w:Nat}(hw:w<6)(h0:w≠0):(Tk (ch (m4 ((cX[w]?).getD ""))) ((eN[w]?).getD "")/\Nat.beq ((eN[w]?).getD "").length 0=false)/\Kb (ch (m4 ((cX[w]?).getD ""))) ((eN[w]?).getD ""):=by
 match w,hw,h0 with
 |0,_,h0=>exact absurd rfl h0
 |1,_,_=>exact⟨Cf (by kernel_rfl),Im (by kernel_rfl)⟩
 |2,_,_=>exact⟨Cf (by kernel_rfl),Im (by kernel_rfl)⟩
 |3,_,_=>exact⟨Cf (by kernel_rfl),Im (by kernel_rfl)⟩
 |4,_,_=>exact⟨Cf (by kernel_rfl),Im (by kernel_rfl)⟩
 |5,_,_=>exact⟨Cf (by kernel_rfl),Im (by kernel_rfl)⟩
theorem zZ(x y:Str):ch (m4 (x++y))=ch (m4 x)++ch (m4 y):=by unfold m4 YY YX MG HM;rw[show("\r":Str)=⟨#[13]⟩ by decide+kernel,show(">":Str)=⟨#[62]⟩ by decide+kernel,show("<":Str)=⟨#[60]⟩ by decide+kernel,show("&":Str)=⟨#[38]⟩ by decide+kernel];simp only[yZ,mB,j8]
theorem z9{x:Str}(h:ch x=[]):ch (m4 x)=[]:=by unfold m4 YY YX MG HM;rw[show("\r":Str)=⟨#[13]⟩ by decide+kernel,show(">":Str)=⟨#[62]⟩ by decide+kernel,show("<":Str)=⟨#[60]⟩ by decide+kernel,show("&":Str)=⟨#[38]⟩ by decide+kernel];simp only[yZ,h,ke]
theorem wT(xs:List Str)(x:Str):ch (dE (xs++[x]))=ch (dE xs)++ch x:=by rw[fE,fE,j8,gQ,ke,aS]
noncomputable def wU(p:Pg):List Nat:=ch (dE p.pc)++(bif p.seen then ch (m4 (dE p.da)) else[])
theorem T_(p:Pg):ch (dE (fl p))=wU p:=by
 unfold fl wU;cases p.seen with
 |false=>rw[pq,dk,dk,aS]
 |true=>
  rw[Bool.and_true,cT];cases e:Nat.beq (dE p.da).length 0 with
  |false=>exact wT _ _
  |true=>refine(?_ :ch (dE p.pc)=_);rw[z9 (sj ((qC _).symm.trans (bK e))),aS]
noncomputable def jP(es:List (Str×Str)):List Nat:=es.flatMap λe=>ch (i0 e)
theorem Ua(es:List (Str×Str)):ch (dE (BS es))=jP es:=by
 unfold BS jP;cases es with
 |nil=>rw[fE];rfl
 |cons e es=>refine(?_ :ch (dE [dE ((e::es).map i0)])=_);rw[fE,gQ,ke,aS,fE,List.flatMap_map]
theorem Pc:∀{es:List (Str×Str)}{us:List Str},aE Pa es us->∀{V tk:List Nat}{ws:List Str}{w:Str},xk V ws->Un tk w->zY (V++(tk++jP es++[62])) (ws++fF (w::us)):=λ{es us} h=>by
 induction h with
 |nil=>intro V tk ws w h t;have:=h.un t.gt;rw[show tk++jP []++[62]=tk++[62] by rw[show jP []=[] from rfl,aS]];exact this
 | @cons e u es us a b T=>
  intro V tk ws w h t;refine bx a λRL e1 C=>?_;try clear a
  have:=T ((h.un t).ws (c:=32) (by decide)) C.u;rw[show jP (e::es)=ch (i0 e)++jP es from rfl,e1,show fF (w::u::us)=w::fF (u::us) from rfl];rw[au,au,au] at this;rw[au,au];rw[au] at this;exact this
theorem Mh(G:Dp D){lv op:List (Option Bool)}{o:Option Bool}(l:Lc)(hm:m<6)(hr:∀s,o=some s->lv.contains (some s)=op.contains (some s)):∃us,aE Pa (kT D lv o (oG m)) us/\qJ (pU D op o l) m=("<"++qQ D o l)::us:=by
 have h1:∃us,aE Pa (W9 D (lM lv o)) us/\pU D op o l=("<"++qQ D o l)::us:=by
  cases o with
  |none=>exact⟨[],.nil,rfl⟩
  |some s=>
   have e:=hr s rfl;rw[kA];refine(?_ :∃us,aE Pa (W9 D (bif lv.contains (some s) then none else some s)) us/\_);rw[e];cases op.contains (some s) with
   |true=>exact⟨[],.nil,rfl⟩
   |false=>exact⟨[_],.cons (T9 G s) .nil,rfl⟩
 have h2:∃us,aE Pa (Y2 (oG m)) us/\∀ts,qJ ts m=ts++us:=by
  cases m with
  |zero=>exact⟨[],.nil,λts=>(aS ts).symm⟩
  |succ m=>refine bx (X9 hm (l8 m)) λv e1 e2=>?_;rw[e1];exact⟨[_],.cons e2 .nil,λts=>rfl⟩
 refine bx h1 λus X e1=>?_;try clear h1
 refine bx h2 λf a2 e2=>?_;try clear h2
 refine⟨us++f,X.append a2,?_⟩;rw[e2,e1];rfl
end
section
variable {D0 D1:cR}{l:Lc}{R W left:List Str}{c m:Nat}{o:Option Bool}{p:Pg}{X x:Str}
theorem xY{y:Str}:∀{ts xs:List Str},(y∈xs\/y∈ts)->y∈gJ xs ts
 | [],xs,h=>h.elim id λh=>(nomatch h)
 |t::r,xs,h=>by
  refine xY (ts:=r) ?_;have:y∈jF t xs↔(y∈xs\/y=t):=by have:=vD t y xs;rw[<-Bool.decide_or,decide_eq_decide] at this;exact this
  rcases h with h|h
  ·exact .inl (this.mpr (.inl h))
  ·rcases List.mem_cons.mp h with h|h
   ·exact .inl (this.mpr (.inr h))
   ·exact .inr h
theorem Mi{ig:Nat}(h:cN left=none->ig=0):Lx (cN left) ig x=(!(Nat.beq ig 0)||dN x left):=by
 cases left with
 |nil=>rw[h rfl];rfl
 |cons a r=>
  refine(?_ :(!(Nat.beq ig 0)||dN x (gJ [] (a::r)))=_);refine ag (!(Nat.beq ig 0)|| ·) ?_;rw[md,fT,fT];constructor
  ·intro h;rcases qE ((fT _ _).mpr h) with h|h
   ·cases (fT _ _).mp h
   ·exact h
  ·exact λh=>xY (.inr h)
theorem EF:∀(s:kU)(x:Bool),some x∈g9 s↔some x∈s.map (·.1)
 | [],x=>Iff.rfl
 |p::s,x=>by
  refine(?_ :some x∈g9 s++[lM (g9 s) p.1]↔some x∈p.1::s.map (·.1));rw[ma,List.mem_singleton,pv,EF s x];constructor
  ·rintro(h|h)
   ·exact .inr h
   ·left;obtain⟨o,l⟩:=p;cases o with
    |none=>exact MB h
    |some y=>
     have h:some x=bif (g9 s).contains (some y) then none else some y:=h;cases e:(g9 s).contains (some y) with
     |true=>rw[e] at h;exact MB h
     |false=>rw[e] at h;exact h
  ·rintro(h|h)
   ·obtain⟨o,l⟩:=p;subst h;by_cases e:some x∈g9 s
    ·exact .inl ((EF s x).mp e)
    ·right;refine(?_ :some x=bif (g9 s).contains (some x) then none else some x);rw[Bool.eq_false_iff.mpr λe'=>e (List.contains_iff_mem.mp e')];rfl
   ·exact .inl h
theorem X_(s:kU)(x:Bool):(g9 s).contains (some x)=(s.reverse.map (·.1)).contains (some x):=by rw[md,sC,sC,EF,gU,kc]
structure J(D:cR)(left:List Str)(S:kU)(ph:Bool)(n t:Nat)(p:Pg)(q:Rl):Prop where
 ig:p.dD=q.sk
 st:S.drop p.dD=p.s
 le:p.dD<=S.length
 ex:cN left=none->p.dD=0
 op:q.op=p.s.reverse.map (·.1)
 sn:p.seen=false->p.s=[]/\p.da=[]/\p.pc=[]
 nk:∀e∈S,e.2≠ .k
 lo:ph=true\/p.dD≠0->xk (wU p) q.ws
 lc:zY (wU p) q.ws
 ln:q.line=1+(wU p).count 10
 zl:(wU p).length<=1000*t
 zw:q.ws.length+2*S.length<=n
 B4:sg q.ws
 lw:∀w∈q.ws,w.length<=1000
 s2:p.s=[]->(S≠[]\/ph=true)->p.seen=false
 d0:ph=false->S=[]->p.da=[]
theorem Ya{n:Nat}(h:Nat.beq n 0=false):n≠0:=λe=>by rw[e] at h;exact Ab h
theorem Cg{xs:List Str}{s:kU}{ig:Nat}:wU ⟨s,fl p++xs,[],true,ig⟩=wU p++ch (dE xs):=by unfold wU;rw[cT,z9 (by rw[fE];rfl),aS,fE,j8,<-fE,<-fE,T_];rfl
theorem Pd{es:List (Str×Str)}{us:List Str}(h:aE Pa es us):(jP es).count 10=0/\(jP es).length<=61*us.length/\sg us/\∀u∈us,u.length<=60:=by
 induction h with
 |nil=>exact⟨rfl,aF _,λ_ h=>(nomatch h),λ_ h=>(nomatch h)⟩
 | @cons e u es us a b T=>
  refine bx a λtk e1 t=>?_;try clear a
  refine Gv T λh1 h2 h3 h4=>?_;try clear T
  rw[show jP (e::es)=ch (i0 e)++jP es from rfl,e1];refine⟨?_,?_,?_,?_⟩
  ·rw[gR,h1,List.count_cons,t.k.z];rfl
  ·have:=t.k.zl;rw[ak,aJ,aJ];exact aQ [_,_,_] (.c 1 (.v 0) (.m 61 (.v 1)) (.c 1 (.v 2) (.n 60) .nil)) 0 (.a (.a (.v 2) (.n 1)) (.v 0)) (.m 61 (.a (.v 1) (.n 1))) tt h2 this
  ·intro x B;rcases List.mem_cons.mp B with rfl|B
   ·exact t.k.ok
   ·exact h3 x B
  ·intro x B;rcases List.mem_cons.mp B with rfl|B
   ·exact t.k.wl
   ·exact h4 x B
theorem Yb{w:Str}(h:PySem.PyData.strOk w=true):PySem.PyData.strOk (w++">")=true:=by unfold PySem.PyData.strOk at *;refine(?_ :(w.cps++(">":Str).cps).all _=true);rw[Array.all_append,h];kernel_rfl
theorem Ch:∀{us:List Str},sg us->(∀u∈us,u.length<=60)->sg (fF us)/\(∀u∈fF us,u.length<=61)/\(fF us).length=us.length
 | [],h,h'=>⟨h,λ_ h=>(nomatch h),rfl⟩
 | [u],h,h'=>⟨λx B=>by
  obtain rfl:=List.mem_singleton.mp B;exact Yb (h u (.head _)),λx B=>by
  obtain rfl:=List.mem_singleton.mp B;rw[bH];exact dQ (h' u (.head _)) 1,rfl⟩
 |u::v::us,h,h'=>by
  refine u6 (Ch (us:=v::us) (λx B=>h x (.tail _ B)) (λx B=>h' x (.tail _ B))) λh1 h2 h3=>?_;refine⟨?_,?_,?_⟩
  ·intro x B;rcases List.mem_cons.mp B with rfl|B
   ·exact h _ (.head _)
   ·exact h1 x B
  ·intro x B;rcases List.mem_cons.mp B with rfl|B
   ·exact iw (h' _ (.head _))
   ·exact h2 x B
  ·exact ag (· +1) h3
section
variable {D:cR}{S:kU}{ph:Bool}{n t:Nat}{q:Rl}
noncomputable def Yc(D:cR)(p:Pg)(o:Option Bool)(l:Lc)(m:Nat):Pg:=⟨(o,l)::p.s,((fl p++[("<":Str)++bY D o l])++BS (kT D (g9 p.s) o (oG m)))++[(">":Str)],[],true,p.dD⟩
noncomputable def Yd(D:cR)(p:Pg)(S:kU)(o:Option Bool)(l:Lc):Pg:=⟨S,fl p++[mE (bY D o l)],[],true,p.dD⟩
noncomputable def Ye(p:Pg)(x:Str):Pg:={p with da:=p.da++[x]}
noncomputable def abW(q:Rl)(us:List Str)(o:Option Bool):Rl:={q with ws:=q.ws++us,op:=q.op++[o]}
noncomputable def abX(q:Rl)(w:Str):Rl:={q with ws:=q.ws++[w],op:=q.op.dropLast}
noncomputable def abY(q:Rl)(w c:Nat):Rl:={q with ws:=bif Nat.beq w 0 then q.ws else q.ws++[(eN[w]?).getD ""],line:=bif Nat.beq c 10 then q.line+(bif Nat.beq w 0 then 1 else 2) else q.line}
noncomputable def UP(D:cR)(p:Pg)(o:Option Bool)(l:Lc)(m:Nat):List Nat:=ch (("<":Str)++bY D o l)++jP (kT D (g9 p.s) o (oG m))++[62]
theorem Mj:wU (Yc D p o l m)=wU p++UP D p o l m:=by refine(?_ :wU ⟨(o,l)::p.s,((fl p++[("<":Str)++bY D o l])++BS (kT D (g9 p.s) o (oG m)))++[(">":Str)],[],true,p.dD⟩=_);unfold UP;rw[au,au,Cg,fE,j8,j8,<-fE (BS _),Ua];rw[show List.flatMap ch [("<":Str)++bY D o l]=ch (("<":Str)++bY D o l) by rw[gQ,ke,aS],show List.flatMap ch [(">":Str)]=[62] by kernel_rfl,au]
theorem Mk:wU (Yd D p S o l)=wU p++ch (mE (bY D o l)):=by refine(?_ :wU ⟨S,fl p++[mE (bY D o l)],[],true,p.dD⟩=_);rw[Cg,fE,gQ,ke,aS]
theorem Yf(h:p.seen=true):wU (Ye p x)=wU p++ch (m4 x):=by refine(?_ :ch (dE p.pc)++(bif p.seen then ch (m4 (dE (p.da++[x]))) else[])=_);unfold wU;rw[h,cT,cT,show dE (p.da++[x])=dE p.da++x from Fp (by rw[wT,mB]),zZ,au]
theorem abZ(hc:c=32\/c=10\/c=9):ch (m4 (gM c))=[c]/\sf c=true/\[c].count 10=bif Nat.beq c 10 then 1 else 0:=by rcases hc with rfl|rfl|rfl<;>exact⟨by kernel_rfl,rfl,rfl⟩
theorem J.Gd(G:Dp D)(B:D.ex=cN left)(h:J D left S true n t p q)(Z:l≠ .k)(hm:m<6):J D left ((o,l)::S) false (n+5) (t+1) (cC D p (.st o l m)) (bO D left q (.st o l m)):=by
 have Yg:∀e∈(o,l)::S,e.2≠ .k:=λe he=>by
  rcases List.mem_cons.mp he with rfl|he
  ·exact Z
  ·exact h.nk e he
 have g:=h.zw;have Bj:=h.zl;cases b:(!(Nat.beq p.dD 0)||dN (eR o l) left) with
 |true=>
  have e1:cC D p (.st o l m)={p with dD:=p.dD+1}:=by refine(?_ :(bif Lx D.ex p.dD (eR o l) then _ else _)=_);rw[B,Mi h.ex,b];rfl
  have e2:bO D left q (.st o l m)={q with sk:=q.sk+1}:=by refine(?_ :(bif !(Nat.beq q.sk 0)||dN (eR o l) left then _ else _)=_);rw[<-h.ig,b];rfl
  rw[e1,e2];refine⟨ag (· +1) h.ig,h.st,jz h.le,λe=>?_,h.op,h.sn,Yg,λ_=>h.lo (.inl rfl),h.lc,h.ln,am Bj (aQ [_] .nil 0 (.m 1000 (.v 0)) (.m 1000 (.a (.v 0) (.n 1))) tt),?_,h.B4,h.lw,λe _=>h.s2 e (.inr rfl),λ_ e=>(nomatch e)⟩
  ·exfalso;have hi:=h.ex e;cases left with
   |nil=>rw[hi] at b;exact nB b
   |cons a r=>exact MB e
  ·refine(?_ :q.ws.length+2*(S.length+1)<=n+5);exact aQ [_,_,_] (.c 1 (.a (.v 0) (.m 2 (.v 1))) (.v 2) .nil) 0 (.a (.v 0) (.m 2 (.a (.v 1) (.n 1)))) (.a (.v 2) (.n 5)) tt g
 |false=>
  have e1:cC D p (.st o l m)=Yc D p o l m:=by refine(?_ :(bif Lx D.ex p.dD (eR o l) then _ else _)=_);rw[B,Mi h.ex,b];rfl
  have e2:bO D left q (.st o l m)=abW q (fF (qJ (pU D q.op o l) m)) o:=by refine(?_ :(bif !(Nat.beq q.sk 0)||dN (eR o l) left then _ else _)=_);rw[show(!(Nat.beq q.sk 0)||dN (eR o l) left)=false by rw[<-h.ig];exact b];rfl
  have hi:p.dD=0:=by
   cases e:Nat.beq p.dD 0 with
   |true=>exact bK e
   |false=>rw[e] at b;exact Ab b
  have M:S=p.s:=by have:=h.st;rw[hi] at this;exact this
  refine bx (Mh G l hm (λs e=>by rw[X_,<-h.op]:∀s,o=some s->(g9 p.s).contains (some s)=q.op.contains (some s))) λus ha I=>?_;have y:=(Mg G o Z);refine Gv (Pd ha) λf j k3 k4=>?_;have Nk:us.length<=2:=by rw[<-ha.len];refine am (fO (ak)) ?_;exact gm (zj _ _) (FD _)
  obtain⟨N,c2,c3⟩:=Ch (λx B=>by
   rcases List.mem_cons.mp B with rfl|B
   ·exact y.k.ok
   ·exact k3 x B) (λx B=>by
   rcases List.mem_cons.mp B with rfl|B
   ·exact y.k.wl
   ·exact k4 x B)
  rw[e1,e2,I];have hz:(UP D p o l m).count 10=0:=by unfold UP;rw[gR,gR,y.k.z,f];rfl
  have hzz:(UP D p o l m).length<=1000:=by unfold UP;have:=y.k.zl;rw[ak,ak];refine(?_ :_+1<=1000);omega
  refine⟨h.ig,(ag (λn=>List.drop n ((o,l)::S)) hi).trans (ag (List.cons (o,l)) M),am (fO hi) (aW _),h.ex,?_,λe=>(nomatch e),Yg,λe=>?_,?_,?_,?_,?_,?_,?_,λe=>(nomatch e),λ_ _=>rfl⟩
  ·refine(?_ :q.op++[o]=((o,l)::p.s).reverse.map (·.1));rw[eT,fh,<-h.op];rfl
  ·rcases e with e|e
   ·exact nB e
   ·exact absurd hi e
  ·rw[Mj];exact Pc ha (h.lo (.inl rfl)) y.u
  ·rw[Mj,gR,hz];exact h.ln
  ·rw[Mj,ak];exact aQ [_,_,_] (.c 1 (.v 0) (.m 1000 (.v 1)) (.c 1 (.v 2) (.n 1000) .nil)) 0 (.a (.v 0) (.v 2)) (.m 1000 (.a (.v 1) (.n 1))) tt Bj hzz
  ·refine(?_ :(q.ws++fF _).length+2*(S.length+1)<=n+5);rw[ak,c3,aJ];exact aQ [_,_,_,_] (.c 1 (.a (.v 0) (.m 2 (.v 1))) (.v 2) (.c 1 (.v 3) (.n 2) .nil)) 0 (.a (.a (.v 0) (.a (.v 3) (.n 1))) (.m 2 (.a (.v 1) (.n 1)))) (.a (.v 2) (.n 5)) tt g Nk
  ·exact sg.app h.B4 N
  ·intro w hw;rcases List.mem_append.mp hw with hw|hw
   ·exact h.lw w hw
   ·exact am (c2 w hw) (by decide)
theorem J.Ge(G:Dp D)(h:J D left ((o,l)::S) true n t p q):J D left S false n (t+1) (cC D p (.en o l)) (bO D left q (.en o l)):=by
 have Z:=h.nk _ (.head _);have Yg:∀e∈S,e.2≠ .k:=λe he=>h.nk e (.tail _ he);have g:=h.zw;have Bj:=h.zl;have gI:=h.le;rw[aJ] at g gI;cases b:Nat.beq p.dD 0 with
 |false=>
  have e1:cC D p (.en o l)={p with dD:=p.dD-1}:=by refine(?_ :(bif Nat.beq p.dD 0 then _ else _)=_);rw[b];rfl
  have e2:bO D left q (.en o l)={q with sk:=q.sk-1}:=by refine(?_ :(bif Nat.beq q.sk 0 then _ else _)=_);rw[<-h.ig,b];rfl
  have hi:=Ya b;obtain⟨i,r⟩:∃i,p.dD=i+1:=⟨p.dD-1,by exact lG (λq1 q2=>(Nat.lt_or_gt_of_ne hi).elim (λq=>fC [_,_] (.f 1 (.a (.v 0) (.n 1)) (.v 1) .nil) 0 (.v 1) (.a (.v 0) (.n 1)) tt tt q2) (λq=>fC [_,_] (.f 1 (.a (.v 0) (.n 1)) (.v 1) .nil) 0 (.v 1) (.a (.v 0) (.n 1)) tt tt q2)) (λq1 q2=>(Nat.lt_or_gt_of_ne hi).elim (λq=>fC [_,_] (.f 1 (.v 0) (.n 0) (.c 1 (.a (.v 1) (.n 1)) (.n 0) .nil)) 0 (.v 1) (.a (.v 0) (.n 1)) tt tt q2 q) (λq=>fC [_,_] (.c 2 (.a (.v 0) (.n 1)) (.n 1) (.f 1 (.v 1) (.n 0) (.c 1 (.a (.n 0) (.n 1)) (.v 0) .nil))) 0 (.v 0) (.a (.v 1) (.n 1)) tt tt q1 q2 q))⟩;have T:=h.st;rw[r] at T gI;rw[e1,e2];refine⟨ag (· -1) h.ig,?_,?_,λe=>?_,h.op,h.sn,Yg,λ_=>h.lo (.inl rfl),h.lc,h.ln,am Bj (aQ [_] .nil 0 (.m 1000 (.v 0)) (.m 1000 (.a (.v 0) (.n 1))) tt),am ?_ g,h.B4,h.lw,λe _=>h.s2 e (.inr rfl),λ_ e=>?_⟩
  ·refine(?_ :S.drop (p.dD-1)=p.s);rw[r];exact T
  ·refine(?_ :p.dD-1<=S.length);exact lG (λq1 q2=>aQ [_,_,_,_] (.c 1 (.a (.v 0) (.n 1)) (.a (.v 1) (.n 1)) (.e 1 (.v 2) (.a (.v 0) (.n 1)) (.e 1 (.a (.v 3) (.n 1)) (.v 2) .nil))) 0 (.v 3) (.v 1) tt gI r q2) (λq1 q2=>aQ [_,_] (.e 1 (.v 0) (.n 0) .nil) 0 (.v 0) (.v 1) tt q2)
  ·refine(?_ :p.dD-1=0);rw[h.ex e]
  ·refine(?_ :q.ws.length+2*S.length<=_);exact aQ [_,_] .nil 0 (.a (.v 0) (.m 2 (.v 1))) (.a (.v 0) (.m 2 (.a (.v 1) (.n 1)))) tt
  ·have RX:p.s=[]:=by rw[<-h.st,r,List.drop_succ_cons,e,pw]
   exact(h.sn (h.s2 RX (.inr rfl))).2.1
 |true=>
  have hi:=bK b;have M:(o,l)::S=p.s:=by have:=h.st;rw[hi] at this;exact this
  have Yh:p.seen=true:=by
   cases e:p.seen with
   |true=>rfl
   |false=>have:=(h.sn e).1;rw[<-M] at this;cases this
  have MD:=h.op;rw[<-M,eT,fh] at MD;have e1:cC D p (.en o l)=Yd D p S o l:=by refine(?_ :(bif Nat.beq p.dD 0 then _ else _)=_);rw[b,<-M];refine(?_ :(⟨S,fl p++[mE (bY D o l)],[],p.seen,p.dD⟩:Pg)=_);rw[Yh];rfl
  have e2:bO D left q (.en o l)=abX q ("</"++qQ D o l++">"):=by refine(?_ :(bif Nat.beq q.sk 0 then _ else _)=_);rw[show Nat.beq q.sk 0=true by rw[<-h.ig];exact b];rfl
  have y:=T8 G o Z;rw[e1,e2];refine⟨h.ig,ag (λn=>List.drop n S) hi,am (fO hi) (aW _),h.ex,?_,λe=>(nomatch e),Yg,λe=>?_,?_,?_,?_,?_,?_,?_,λe e'=>?_,λ_ _=>rfl⟩
  ·refine(?_ :q.op.dropLast=S.reverse.map (·.1));rw[MD];exact lY
  ·rcases e with e|e
   ·exact nB e
   ·exact absurd hi e
  ·rw[Mk];exact(h.lo (.inl rfl)).un y.u
  ·rw[Mk,gR,y.k.z];exact h.ln
  ·have:=y.k.zl;rw[Mk,ak];exact aQ [_,_,_] (.c 1 (.v 0) (.m 1000 (.v 1)) (.c 1 (.v 2) (.n 60) .nil)) 0 (.a (.v 0) (.v 2)) (.m 1000 (.a (.v 1) (.n 1))) tt Bj this
  ·refine(?_ :(q.ws++[_]).length+2*S.length<=n);rw[ak];refine(?_ :q.ws.length+1+2*S.length<=n);exact aQ [_,_,_] (.c 1 (.a (.v 0) (.m 2 (.a (.v 1) (.n 1)))) (.v 2) .nil) 0 (.a (.a (.v 0) (.n 1)) (.m 2 (.v 1))) (.v 2) tt g
  ·exact sg.app h.B4 λx B=>by obtain rfl:=List.mem_singleton.mp B;exact y.k.ok
  ·intro w hw;rcases List.mem_append.mp hw with hw|hw
   ·exact h.lw w hw
   ·obtain rfl:=List.mem_singleton.mp hw;exact am y.k.wl (by decide)
  ·rcases e' with e'|e'
   ·exact absurd e e'
   ·exact nB e'
theorem J.Gf{w:Nat}(h:J D left S ph n t p q)(G:S≠[])(hw:w<6)(hc:c=32\/c=10\/c=9):J D left S true (n+bif Nat.beq w 0 then 0 else 1) (t+1) (cC D p (.da w (gM c))) (bO D left q (.da w (gM c))):=by
 have g:=h.zw;have Bj:=h.zl;cases b:Nat.beq p.dD 0 with
 |false=>
  have e1:cC D p (.da w (gM c))=p:=by refine(?_ :(bif Nat.beq p.dD 0 then _ else _)=_);rw[b];rfl
  have e2:bO D left q (.da w (gM c))=q:=by refine(?_ :(bif Nat.beq q.sk 0 then _ else _)=_);rw[<-h.ig,b];rfl
  rw[e1,e2];exact⟨h.ig,h.st,h.le,h.ex,h.op,h.sn,h.nk,λ_=>h.lo (.inr (Ya b)),h.lc,h.ln,am Bj (aQ [_] .nil 0 (.m 1000 (.v 0)) (.m 1000 (.a (.v 0) (.n 1))) tt),am g (gT _ _),h.B4,h.lw,λe _=>h.s2 e (.inl G),λe=>(nomatch e)⟩
 |true=>
  have hi:=bK b;have M:S=p.s:=by have:=h.st;rw[hi] at this;exact this
  have Yh:p.seen=true:=by
   cases e:p.seen with
   |true=>rfl
   |false=>have:=(h.sn e).1;rw[<-M] at this;exact absurd this G
  have e1:cC D p (.da w (gM c))=Ye p (OO w (gM c)):=by refine(?_ :(bif Nat.beq p.dD 0 then _ else _)=_);rw[b];rfl
  have B5:d4 (gM c) "\n"=Nat.beq c 10:=by rw[show("\n":Str)=gM 10 by decide+kernel,oE]
  have e2:bO D left q (.da w (gM c))=abY q w c:=by refine(?_ :(bif Nat.beq q.sk 0 then _ else _)=_);rw[show Nat.beq q.sk 0=true by rw[<-h.ig];exact b,B5];rfl
  have d:=Yf (x:=OO w (gM c)) Yh;refine u6 (abZ hc) λK Zd Yi=>?_;rw[e1,e2];cases w with
  |zero=>
   have d:=d.trans (ag (wU p++ ·) K);refine⟨h.ig,h.st,h.le,h.ex,h.op,λe=>?_,h.nk,λ_=>?_,?_,?_,?_,g,h.B4,h.lw,λe _=>h.s2 e (.inl G),λe=>(nomatch e)⟩
   ·exact absurd (Yh.symm.trans e) (by decide)
   ·rw[d];exact h.lc.ws Zd
   ·rw[d];exact(h.lc.ws Zd).c
   ·rw[d,gR,Yi];refine(?_ :(bif Nat.beq c 10 then q.line+1 else q.line)=_);rw[h.ln];cases Nat.beq c 10<;>rfl
   ·rw[d,ak];refine(?_ :_+1<=_);exact aQ [_,_] (.c 1 (.v 0) (.m 1000 (.v 1)) .nil) 0 (.a (.v 0) (.n 1)) (.m 1000 (.a (.v 1) (.n 1))) tt Bj
  |succ w=>
   obtain⟨⟨y,qO⟩,hK⟩:=Pb hw (l8 w);have ed:ch (m4 (OO (w+1) (gM c)))=[c]++ch (m4 ((cX[w+1]?).getD ""))++[c]:=by refine(?_ :ch (m4 (gM c++(cX[w+1]?).getD ""++gM c))=_);rw[zZ,zZ,K]
   rw[ed] at d;have i:=(((h.lc.ws Zd).tk y qO).ws Zd);rw[au,au] at i;refine⟨h.ig,h.st,h.le,h.ex,h.op,λe=>?_,h.nk,λ_=>?_,?_,?_,?_,?_,?_,?_,λe _=>h.s2 e (.inl G),λe=>(nomatch e)⟩
   ·exact absurd (Yh.symm.trans e) (by decide)
   ·rw[d,au];exact i
   ·rw[d,au];exact i.c
   ·rw[d,gR,gR,gR,Yi,hK.z];refine(?_ :(bif Nat.beq c 10 then q.line+2 else q.line)=_);rw[h.ln];cases Nat.beq c 10<;>simp<;>exact fC [_] .nil 0 (.a (.a (.n 1) (.v 0)) (.n 2)) (.a (.n 1) (.a (.v 0) (.n 2))) tt tt
   ·have:=hK.zl;rw[d,ak,ak,ak];refine(?_ :_+(1+_+1)<=_);exact aQ [_,_,_] (.c 1 (.v 0) (.m 1000 (.v 1)) (.c 1 (.v 2) (.n 60) .nil)) 0 (.a (.v 0) (.a (.a (.n 1) (.v 2)) (.n 1))) (.m 1000 (.a (.v 1) (.n 1))) tt Bj this
   ·refine(?_ :(q.ws++[_]).length+2*S.length<=n+1);rw[ak];refine(?_ :q.ws.length+1+2*S.length<=n+1);exact aQ [_,_,_] (.c 1 (.a (.v 0) (.m 2 (.v 1))) (.v 2) .nil) 0 (.a (.a (.v 0) (.n 1)) (.m 2 (.v 1))) (.a (.v 2) (.n 1)) tt g
   ·exact sg.app h.B4 λx B=>by obtain rfl:=List.mem_singleton.mp B;exact hK.ok
   ·intro w' k;rcases List.mem_append.mp k with k|k
    ·exact h.lw w' k
    ·obtain rfl:=List.mem_singleton.mp k;exact am hK.wl (by decide)
end
structure xZ(w' w:Str):Prop where
 or:(w'=w/\oK w'=false)\/(oK w'=true/\bn w' w=1)
 n:oK w=false
noncomputable def Yj(w' w:Str):Bool:= !(oK w)&&((d4 w' w&& !(oK w'))||(oK w'&&(bn w' w==1)))
theorem cI{w' w:Str}(h:Yj w' w=true):xZ w' w:=by unfold Yj at h;simp only[aM,Bool.or_eq_true,gS,beq_iff_eq] at h;exact⟨h.2.imp (λh=>⟨(cq _ _).mp h.1,h.2⟩) id,h.1⟩
inductive kY:List Str->List Str->Prop
 |nil:kY [] []
 |keep {w' w:Str} {R W:List Str}:xZ w' w->kY R W->kY (w'::R) (w::W)
 |skip {w:Str} {R W:List Str}:oK w=false->kY R W->kY R (w::W)
theorem kY.app{R' W':List Str}(h:kY R W)(h':kY R' W'):kY (R++R') (W++W'):=by
 induction h with
 |nil=>exact h'
 |keep r _ T=>exact .keep r T
 |skip r _ T=>exact .skip r T
theorem Pe(h:aE xZ R W):kY R W:=by
 induction h with
 |nil=>exact .nil
 |cons a _ T=>exact .keep a T
theorem Ml(h:aE xZ R W):kY [] W:=by
 induction h with
 |nil=>exact .nil
 |cons a _ T=>exact .skip a.n T
def PP(X x:Str):Prop:=(X="p"/\x="p")\/(X="P"/\x="p")\/(X="q"/\x="q")\/(X="Q"/\x="q")
theorem Mm(h:PP X x)(Z:l≠ .k):xZ ("<"++(X++":"++l.s)) ("<"++(x++":"++l.s))/\xZ ("<"++(X++":"++l.s)++">") ("<"++(x++":"++l.s)++">"):=by
 cases l with
 |k=>exact absurd rfl Z
 |a=>rcases h with ⟨rfl,rfl⟩|⟨rfl,rfl⟩|⟨rfl,rfl⟩|⟨rfl,rfl⟩<;>exact⟨cI (by kernel_rfl),cI (by kernel_rfl)⟩
 |b=>rcases h with ⟨rfl,rfl⟩|⟨rfl,rfl⟩|⟨rfl,rfl⟩|⟨rfl,rfl⟩<;>exact⟨cI (by kernel_rfl),cI (by kernel_rfl)⟩
theorem Pf(Z:l≠ .k):xZ ("<"++l.s) ("<"++l.s)/\xZ ("<"++l.s++">") ("<"++l.s++">"):=by
 cases l with
 |k=>exact absurd rfl Z
 |a=>exact⟨cI (by kernel_rfl),cI (by kernel_rfl)⟩
 |b=>exact⟨cI (by kernel_rfl),cI (by kernel_rfl)⟩
theorem Ub(h:PP X x)(Z:l≠ .k):xZ ("</"++(X++":"++l.s)++">") ("</"++(x++":"++l.s)++">"):=by
 cases l with
 |k=>exact absurd rfl Z
 |a=>rcases h with ⟨rfl,rfl⟩|⟨rfl,rfl⟩|⟨rfl,rfl⟩|⟨rfl,rfl⟩<;>exact cI (by kernel_rfl)
 |b=>rcases h with ⟨rfl,rfl⟩|⟨rfl,rfl⟩|⟨rfl,rfl⟩|⟨rfl,rfl⟩<;>exact cI (by kernel_rfl)
theorem Ph(Z:l≠ .k):xZ ("</"++l.s++">") ("</"++l.s++">"):=by
 cases l with
 |k=>exact absurd rfl Z
 |a=>exact cI (by kernel_rfl)
 |b=>exact cI (by kernel_rfl)
theorem Uc(h:PP X x)(s:Bool):xZ ("xmlns:"++X++"=\""++nJ s++"\"") ("xmlns:"++x++"=\""++nJ s++"\"")/\xZ ("xmlns:"++X++"=\""++nJ s++"\""++">") ("xmlns:"++x++"=\""++nJ s++"\""++">"):=by
 cases s with
 |true=>rcases h with ⟨rfl,rfl⟩|⟨rfl,rfl⟩|⟨rfl,rfl⟩|⟨rfl,rfl⟩<;>exact⟨cI (by kernel_rfl),cI (by kernel_rfl)⟩
 |false=>rcases h with ⟨rfl,rfl⟩|⟨rfl,rfl⟩|⟨rfl,rfl⟩|⟨rfl,rfl⟩<;>exact⟨cI (by kernel_rfl),cI (by kernel_rfl)⟩
theorem Yk(hm:m<6):xZ ((eZ[m]?).getD "") ((eZ[m]?).getD "")/\xZ ((eZ[m]?).getD ""++">") ((eZ[m]?).getD ""++">"):=by
 match m,hm with
 |0,_=>exact⟨cI (by kernel_rfl),cI (by kernel_rfl)⟩
 |1,_=>exact⟨cI (by kernel_rfl),cI (by kernel_rfl)⟩
 |2,_=>exact⟨cI (by kernel_rfl),cI (by kernel_rfl)⟩
 |3,_=>exact⟨cI (by kernel_rfl),cI (by kernel_rfl)⟩
 |4,_=>exact⟨cI (by kernel_rfl),cI (by kernel_rfl)⟩
 |5,_=>exact⟨cI (by kernel_rfl),cI (by kernel_rfl)⟩
theorem Qr(hm:m<6):xZ ((eN[m]?).getD "") ((eN[m]?).getD ""):=by
 match m,hm with
 |0,_=>exact cI (by kernel_rfl)
 |1,_=>exact cI (by kernel_rfl)
 |2,_=>exact cI (by kernel_rfl)
 |3,_=>exact cI (by kernel_rfl)
 |4,_=>exact cI (by kernel_rfl)
 |5,_=>exact cI (by kernel_rfl)
def DD(D0 D1:cR):Prop:=∀s,PP (pf D1 s) (pf D0 s)
def Rn2(a b:Str):Prop:=xZ a b/\xZ (a++">") (b++">")
theorem EG{a b:List Str}(h:aE Rn2 a b):aE xZ (fF a) (fF b):=by
 induction h with
 |nil=>exact .nil
 |cons h r T=>
  cases r with
  |nil=>exact .cons h.2 .nil
  |cons h' r=>exact .cons h.1 T
theorem Ci(h:DD D0 D1)(op:List (Option Bool))(o:Option Bool)(Z:l≠ .k)(hm:m<6):aE xZ (fF (qJ (pU D1 op o l) m)) (fF (qJ (pU D0 op o l) m)):=by
 have h1:aE Rn2 (pU D1 op o l) (pU D0 op o l):=by
  cases o with
  |none=>exact .cons (Pf Z) .nil
  |some s=>
   rw[kA,kA];cases op.contains (some s) with
   |true=>exact .cons (Mm (h s) Z) .nil
   |false=>exact .cons (Mm (h s) Z) (.cons (Uc (h s) s) .nil)
 refine EG ?_;unfold qJ;cases Nat.beq m 0 with
 |true=>exact h1
 |false=>exact h1.append (.cons (Yk hm) .nil)
theorem Mn(h:DD D0 D1)(o:Option Bool)(Z:l≠ .k):xZ ("</"++qQ D1 o l++">") ("</"++qQ D0 o l++">"):=by
 cases o with
 |none=>exact Ph Z
 |some s=>exact Ub (h s) Z
structure CX(D0 D1:cR)(left:List Str):Prop where
 h0:Dp D0
 h1:Dp D1
 x0:D0.ex=cN []
 x1:D1.ex=cN left
 dd:DD D0 D1
structure JJ(D0 D1:cR)(left:List Str)(S:kU)(ph:Bool)(n t:Nat)(p0:Pg)(q0:Rl)(p1:Pg)(q1:Rl):Prop where
 j0:J D0 [] S ph n t p0 q0
 j1:J D1 left S ph n t p1 q1
 sub:kY q1.ws q0.ws
section
variable {D:cR}{S S' S'':kU}{ph Ud Ue:Bool}{n n' Th t:Nat}{p0 p1:Pg}{q q0 q1:Rl}{w:Nat}
theorem J.zero(h:J D [] S ph n t p q):p.dD=0/\q.sk=0/\p.s=S:=by have hi:=h.ex rfl;have:=h.st;rw[hi] at this;exact⟨hi,h.ig▸hi,this.symm⟩
theorem J.TD(h:J D [] S ph n t p q):q.op=S.reverse.map (·.1):=by rw[h.op,h.zero.2.2]
theorem JJ.st(C:CX D0 D1 left)(h:JJ D0 D1 left S true n t p0 q0 p1 q1)(Z:l≠ .k)(hm:m<6):JJ D0 D1 left ((o,l)::S) false (n+5) (t+1) (cC D0 p0 (.st o l m)) (bO D0 [] q0 (.st o l m)) (cC D1 p1 (.st o l m)) (bO D1 left q1 (.st o l m)):=by
 refine⟨h.j0.Gd C.h0 C.x0 Z hm,h.j1.Gd C.h1 C.x1 Z hm,?_⟩;refine u6 (h.j0.zero) λL z2 z3=>?_;have z:(bO D0 [] q0 (.st o l m)).ws=q0.ws++fF (qJ (pU D0 q0.op o l) m):=by refine(?_ :(bif !(Nat.beq q0.sk 0)||dN (eR o l) [] then {q0 with sk:=q0.sk+1} else _:Rl).ws=_);rw[z2];rfl
 rw[z];cases b:(!(Nat.beq q1.sk 0)||dN (eR o l) left) with
 |true=>
  have e1:(bO D1 left q1 (.st o l m)).ws=q1.ws:=by refine(?_ :(bif !(Nat.beq q1.sk 0)||dN (eR o l) left then {q1 with sk:=q1.sk+1} else _:Rl).ws=_);rw[b];rfl
  rw[e1,<-aS q1.ws];exact h.sub.app (Ml (Ci C.dd _ o Z hm))
 |false=>
  have e1:(bO D1 left q1 (.st o l m)).ws=q1.ws++fF (qJ (pU D1 q1.op o l) m):=by refine(?_ :(bif !(Nat.beq q1.sk 0)||dN (eR o l) left then {q1 with sk:=q1.sk+1} else _:Rl).ws=_);rw[b];rfl
  have hi:p1.dD=0:=by
   rw[h.j1.ig];cases e:Nat.beq q1.sk 0 with
   |true=>exact bK e
   |false=>rw[e] at b;exact Ab b
  have eo:q1.op=q0.op:=by have:=h.j1.st;rw[hi] at this;rw[h.j0.TD,h.j1.op,<-this];rfl
  rw[e1,eo];exact h.sub.app (Pe (Ci C.dd _ o Z hm))
theorem JJ.en(C:CX D0 D1 left)(h:JJ D0 D1 left ((o,l)::S) true n t p0 q0 p1 q1):JJ D0 D1 left S false n (t+1) (cC D0 p0 (.en o l)) (bO D0 [] q0 (.en o l)) (cC D1 p1 (.en o l)) (bO D1 left q1 (.en o l)):=by
 have Z:=h.j0.nk _ (.head _);refine⟨h.j0.Ge C.h0,h.j1.Ge C.h1,?_⟩;refine u6 (h.j0.zero) λL z2 z3=>?_;have z:(bO D0 [] q0 (.en o l)).ws=q0.ws++["</"++qQ D0 o l++">"]:=by refine(?_ :(bif Nat.beq q0.sk 0 then {q0 with ws:=q0.ws++["</"++qQ D0 o l++">"],op:=q0.op.dropLast} else _:Rl).ws=_);rw[z2];rfl
 rw[z];cases b:Nat.beq q1.sk 0 with
 |true=>
  have e1:(bO D1 left q1 (.en o l)).ws=q1.ws++["</"++qQ D1 o l++">"]:=by refine(?_ :(bif Nat.beq q1.sk 0 then {q1 with ws:=q1.ws++["</"++qQ D1 o l++">"],op:=q1.op.dropLast} else _:Rl).ws=_);rw[b];rfl
  rw[e1];exact h.sub.app (.keep (Mn C.dd o Z) .nil)
 |false=>
  have e1:(bO D1 left q1 (.en o l)).ws=q1.ws:=by refine(?_ :(bif Nat.beq q1.sk 0 then {q1 with ws:=q1.ws++["</"++qQ D1 o l++">"],op:=q1.op.dropLast} else _:Rl).ws=_);rw[b];rfl
  rw[e1,<-aS q1.ws];exact h.sub.app (.skip (Mn C.dd o Z).n .nil)
theorem JJ.da(h:JJ D0 D1 left S ph n t p0 q0 p1 q1)(G:S≠[])(hw:w<6)(hc:c=32\/c=10\/c=9):JJ D0 D1 left S true (n+bif Nat.beq w 0 then 0 else 1) (t+1) (cC D0 p0 (.da w (gM c))) (bO D0 [] q0 (.da w (gM c))) (cC D1 p1 (.da w (gM c))) (bO D1 left q1 (.da w (gM c))):=by
 refine⟨h.j0.Gf G hw hc,h.j1.Gf G hw hc,?_⟩;refine u6 (h.j0.zero) λL z2 z3=>?_;have z:(bO D0 [] q0 (.da w (gM c))).ws=bif Nat.beq w 0 then q0.ws else q0.ws++[(eN[w]?).getD ""]:=by refine(?_ :(bif Nat.beq q0.sk 0 then {q0 with ws:=bif Nat.beq w 0 then q0.ws else q0.ws++[(eN[w]?).getD ""],line:=_} else _:Rl).ws=_);rw[z2];rfl
 rw[z];cases b:Nat.beq q1.sk 0 with
 |true=>
  have e1:(bO D1 left q1 (.da w (gM c))).ws=bif Nat.beq w 0 then q1.ws else q1.ws++[(eN[w]?).getD ""]:=by refine(?_ :(bif Nat.beq q1.sk 0 then {q1 with ws:=bif Nat.beq w 0 then q1.ws else q1.ws++[(eN[w]?).getD ""],line:=_} else _:Rl).ws=_);rw[b];rfl
  rw[e1];cases Nat.beq w 0 with
  |true=>exact h.sub
  |false=>exact h.sub.app (.keep (Qr hw) .nil)
 |false=>
  have e1:(bO D1 left q1 (.da w (gM c))).ws=q1.ws:=by refine(?_ :(bif Nat.beq q1.sk 0 then {q1 with ws:=bif Nat.beq w 0 then q1.ws else q1.ws++[(eN[w]?).getD ""],line:=_} else _:Rl).ws=_);rw[b];rfl
  rw[e1];cases Nat.beq w 0 with
  |true=>exact h.sub
  |false=>rw[<-aS q1.ws];exact h.sub.app (.skip (Qr hw).n .nil)
end
end
section
variable {D:cR}{h:Heap}{bd c:Int}{cs:List Nat}{R W a b left py xs:List Str}{L:Nat}{one two x y:Str}{mg:Str->Option Value}
theorem kX.app:∀{a:List Ev}{p:Pg}{b:List Ev},kX D p a->kX D (a.foldl (cC D) p) b->kX D p (a++b)
 | [],_,_,_,h=>h
 |_::_,_,_,.cons h1 h2,h=>.cons h1 (kX.app h2 h)
theorem hV.app:∀{a:List Ev}{q:Rl}{b:List Ev},hV D left q a->hV D left (a.foldl (bO D left) q) b->hV D left q (a++b)
 | [],_,_,_,h=>h
 |_::_,_,_,.cons h1 h2 h3 h4,h=>.cons h1 h2 h3 (hV.app h4 h)
section
variable {D0 D1:cR}{S S' S'':kU}{ph Ud Ue:Bool}{n n' Th t:Nat}{p p0 p1:Pg}{q q0 q1:Rl}{o:Option Bool}{l:Lc}{m w c:Nat}{es uL:List Ev}
theorem J.mono(h:J D left S ph n t p q)(hn:n<=n'):J D left S ph n' t p q:={h with zw:=am h.zw hn}
theorem J.close(h:J D left [] true n t p q):J D left [] false n t p q:={h with
 lo:=λe=>h.lo (.inl rfl)
 s2:=λe _=>h.s2 e (.inr rfl)
 d0:=λ_ _=>by
  have M:p.s=[]:=by rw[<-h.st,pw]
  exact(h.sn (h.s2 M (.inr rfl))).2.1}
theorem J.Uf(h:J D left S ph n t p q):p.s.length<=S.length:=by rw[<-h.st,cb];exact lG (λq1 q2=>aQ [_,_,_] (.e 1 (.a (.v 0) (.v 1)) (.v 2) .nil) 0 (.v 0) (.v 2) tt q2) (λq1 q2=>aQ [_,_] (.e 1 (.v 0) (.n 0) .nil) 0 (.v 0) (.v 1) tt q2)
theorem J.wz(h:J D left S ph n t p q)(hn:n<=900)(G:S.length<=8):q.ws.length<=900/\q.op.length<=900:=by have:=h.zw;have h2:=h.Uf;refine⟨by exact aQ [_,_,_] (.c 1 (.v 0) (.n 900) (.c 1 (.a (.v 1) (.m 2 (.v 2))) (.v 0) .nil)) 0 (.v 1) (.n 900) tt hn this,?_⟩;rw[h.op,ax,dH];exact aQ [_,_] (.c 1 (.v 0) (.n 8) (.c 1 (.v 1) (.v 0) .nil)) 0 (.v 1) (.n 900) tt G h2
theorem J.Gg(h:J D left ((o,l)::S) ph n t p q):Ly p (.en o l)/\F0 q (.en o l):=by
 have key:p.dD=0->p.s=(o,l)::S:=λhi=>by have:=h.st;rw[hi] at this;exact this.symm
 refine⟨λhi=>⟨S,key hi⟩,h.nk _ (.head _),λhi=>?_⟩;rw[h.op,key (h.ig.trans hi),eT,fh];exact λe=>by cases (List.append_eq_nil_iff.mp e).2
def Ug(D:cR)(left:List Str)(p:Pg)(q:Rl)(es:List Ev):Prop:=kX D p es/\hV D left q es
def jJ(D0 D1:cR)(left:List Str)(S:kU)(ph:Bool)(n:Nat)(es:List Ev)(S':kU)(Ud:Bool)(n':Nat):Prop:=∀t p0 q0 p1 q1,JJ D0 D1 left S ph n t p0 q0 p1 q1->Ug D0 [] p0 q0 es/\Ug D1 left p1 q1 es/\JJ D0 D1 left S' Ud n' (t+es.length) (es.foldl (cC D0) p0) (es.foldl (bO D0 []) q0) (es.foldl (cC D1) p1) (es.foldl (bO D1 left) q1)
theorem jJ.cat(h:jJ D0 D1 left S ph n es S' Ud n')(h':jJ D0 D1 left S' Ud n' uL S'' Ue Th):jJ D0 D1 left S ph n (es++uL) S'' Ue Th:=λt p0 q0 p1 q1 j=>by refine u6 (h t p0 q0 p1 q1 j) λa b j=>?_;refine u6 (h' _ _ _ _ _ j) λi b' j'=>?_;rw[ak,<-cS,o4,o4,o4,o4];exact⟨⟨a.1.app i.1,a.2.app i.2⟩,⟨b.1.app b'.1,b.2.app b'.2⟩,j'⟩
theorem jJ.nil:jJ D0 D1 left S ph n [] S ph n:=λt p0 q0 p1 q1 j=>⟨⟨.nil,.nil⟩,⟨.nil,.nil⟩,j⟩
theorem jJ.st(C:CX D0 D1 left)(Z:l≠ .k)(hm:m<6)(G:S.length<=8)(hn:n<=900):jJ D0 D1 left S true n [.st o l m] ((o,l)::S) false (n+5):=λt p0 q0 p1 q1 j=>by have w0:=j.j0.wz hn G;have w1:=j.j1.wz hn G;exact⟨⟨.cons ⟨Z,hm,am j.j0.Uf G⟩ .nil,.cons ⟨Z,hm⟩ w0.1 w0.2 .nil⟩,⟨.cons ⟨Z,hm,am j.j1.Uf G⟩ .nil,.cons ⟨Z,hm⟩ w1.1 w1.2 .nil⟩,j.st C Z hm⟩
theorem jJ.en(C:CX D0 D1 left)(G:((o,l)::S).length<=8)(hn:n<=900):jJ D0 D1 left ((o,l)::S) true n [.en o l] S false n:=λt p0 q0 p1 q1 j=>by have w0:=j.j0.wz hn G;have w1:=j.j1.wz hn G;exact⟨⟨.cons j.j0.Gg.1 .nil,.cons j.j0.Gg.2 w0.1 w0.2 .nil⟩,⟨.cons j.j1.Gg.1 .nil,.cons j.j1.Gg.2 w1.1 w1.2 .nil⟩,j.en C⟩
theorem jJ.da(hS0:S≠[])(hw:w<6)(hc:c=32\/c=10\/c=9)(G:S.length<=8)(hn:n<=900):jJ D0 D1 left S ph n [.da w (gM c)] S true (n+bif Nat.beq w 0 then 0 else 1):=λt p0 q0 p1 q1 j=>by have w0:=j.j0.wz hn G;have w1:=j.j1.wz hn G;exact⟨⟨.cons ⟨hw,aF _⟩ .nil,.cons hw w0.1 w0.2 .nil⟩,⟨.cons ⟨hw,aF _⟩ .nil,.cons hw w1.1 w1.2 .nil⟩,j.da hS0 hw hc⟩
theorem jJ.more(h:jJ D0 D1 left S ph n es S' Ud n')(hn:n'<=Th):jJ D0 D1 left S ph n es S' Ud Th:=λt p0 q0 p1 q1 j=>by refine u6 (h t p0 q0 p1 q1 j) λa b j=>?_;exact⟨a,b,j.j0.mono hn,j.j1.mono hn,j.sub⟩
theorem x_(C:CX D0 D1 left)(hc:c=32\/c=10\/c=9)(hn:n<=900):∀(k:Nat)(S:kU),k<S.length->S.length<=8->jJ D0 D1 left S true n (lN (gM c) (S.take k)) (S.drop k) true n
 |0,S,_,_=>by rw[List.take_zero,gW];exact .nil
 |k+1,[],h,_=>nomatch h
 |k+1,(o,l)::S,h,G=>by
  have h':k<S.length:=Nat.lt_of_succ_lt_succ h;have q:=ix G;have h0:S≠[]:=λe=>by subst e;cases h'
  have:=((jJ.en C G hn).cat (.da h0 (w:=0) (by decide) hc q hn)).cat (x_ C hc hn k S h' q);exact this
theorem Yl(m:Nat):∃c,rS m=gM c/\(c=32\/c=10\/c=9):=by
 match m with
 |0=>exact⟨32,rfl,.inl rfl⟩
 |1=>exact⟨10,rfl,.inr (.inl rfl)⟩
 |n+2=>exact⟨9,rfl,.inr (.inr rfl)⟩
theorem Uh(m:Nat):(fZ m).2≠ .k:=by
 match m with
 |0|1|2|3|4=>exact λe=>(nomatch e)
 |n+5=>exact λe=>(nomatch e)
theorem Mo(C:CX D0 D1 left)(k:Nat)(hn:n<=800)(G:S.length<=7):jJ D0 D1 left S true n (m8 k S) (iV k S) true (n+6):=by
 refine bx (Yl (k / 216 % 3)) λc e hc=>?_;unfold m8 iV;rw[e];have h1:jJ D0 D1 left S true n (lN (gM c) (S.take (dZ k S))) (S.drop (dZ k S)) true n:=by
  cases S with
  |nil=>rw[List.take_nil,pw];exact .nil
  |cons a S=>exact x_ C hc (aQ [_] (.c 1 (.v 0) (.n 800) .nil) 0 (.v 0) (.n 900) tt hn) _ _ (eD _ (mf _)) (aQ [_] (.c 1 (.v 0) (.n 7) .nil) 0 (.v 0) (.n 8) tt G)
 have q:(S.drop (dZ k S)).length<=7:=by rw[cb];exact lG (λq1 q2=>aQ [_,_,_] (.c 1 (.v 0) (.n 7) (.e 1 (.a (.v 1) (.v 2)) (.v 0) .nil)) 0 (.v 1) (.n 7) tt G q2) (λq1 q2=>aQ [_] (.e 1 (.v 0) (.n 0) .nil) 0 (.v 0) (.n 7) tt q2)
 refine h1.cat ?_;have h2:=jJ.st (o:=(fZ (k % 6)).1) (l:=(fZ (k % 6)).2) (m:=k / 6 % 6) C (Uh _) (eD _ (by decide)) (iw q) (aQ [_] (.c 1 (.v 0) (.n 800) .nil) 0 (.v 0) (.n 900) tt hn);refine h2.cat (jJ.more (jJ.da (gV _ _) (eD _ (by decide)) hc (jz q) (aQ [_] (.c 1 (.v 0) (.n 800) .nil) 0 (.a (.v 0) (.n 5)) (.n 900) tt hn)) ?_);cases Nat.beq (k / 36 % 6) 0 with
 |true=>exact eC _
 |false=>exact aF _
theorem Gh(C:CX D0 D1 left)(hn:n<=900):∀(S:kU),S.length<=8->jJ D0 D1 left S true n (ny S) [] false n
 | [],_=>λt p0 q0 p1 q1 j=>⟨⟨.nil,.nil⟩,⟨.nil,.nil⟩,j.j0.close,j.j1.close,j.sub⟩
 | [(o,l)],G=>jJ.en C G hn
 |(o,l)::b::S,G=>by have q:=ix G;have:=((jJ.en C G hn).cat (.da (gV b S) (w:=0) (by decide) (.inl rfl) q hn)).cat (Gh C hn (b::S) q);rw[show ny ((o,l)::b::S)=([.en o l]++[.da 0 (gM 32)])++ny (b::S) by rw[show gM 32=(" ":Str) by decide+kernel];rfl];exact this
theorem Gi(C:CX D0 D1 left):∀(cs:List Nat)(S:kU)(n:Nat),S.length+cs.length<=7->n+6*cs.length<=800->jJ D0 D1 left S true n (evs cs S) [] false (n+6*cs.length)
 | [],S,n,G,hn=>Gh C (by rw[fL] at hn;exact aQ [_] (.c 1 (.a (.v 0) (.m 6 (.n 0))) (.n 800) .nil) 0 (.v 0) (.n 900) tt hn) S (by rw[fL] at G;exact aQ [_] (.c 1 (.a (.v 0) (.n 0)) (.n 7) .nil) 0 (.v 0) (.n 8) tt G)
 |k::cs,S,n,G,hn=>by rw[aJ] at G hn;have h1:=Mo C k (aQ [_,_] (.c 1 (.a (.v 0) (.m 6 (.a (.v 1) (.n 1)))) (.n 800) .nil) 0 (.v 0) (.n 800) tt hn) (aQ [_,_] (.c 1 (.a (.v 0) (.a (.v 1) (.n 1))) (.n 7) .nil) 0 (.v 0) (.n 7) tt G);have h2:=Gi C cs (iV k S) (n+6) (by refine(?_ :(S.drop (dZ k S)).length+1+cs.length<=7);rw[cb];exact lG (λq1 q2=>aQ [_,_,_,_] (.c 1 (.a (.v 0) (.a (.v 1) (.n 1))) (.n 7) (.e 1 (.a (.v 2) (.v 3)) (.v 0) .nil)) 0 (.a (.a (.v 2) (.n 1)) (.v 1)) (.n 7) tt G q2) (λq1 q2=>aQ [_,_,_] (.c 1 (.a (.v 0) (.a (.v 1) (.n 1))) (.n 7) (.e 1 (.v 2) (.n 0) .nil)) 0 (.a (.a (.v 2) (.n 1)) (.v 1)) (.n 7) tt G q2)) (aQ [_,_] (.c 1 (.a (.v 0) (.m 6 (.a (.v 1) (.n 1)))) (.n 800) .nil) 0 (.a (.a (.v 0) (.n 6)) (.m 6 (.v 1))) (.n 800) tt hn);rw[aJ,show n+6*(cs.length+1)=n+6+6*cs.length by exact fC [_,_] .nil 0 (.a (.v 0) (.m 6 (.a (.v 1) (.n 1)))) (.a (.a (.v 0) (.n 6)) (.m 6 (.v 1))) tt tt];exact h1.cat h2
theorem Mp(c:Nat)(k:Nat)(S:kU):(lN (rS c) (S.take k)).length=2*min k S.length:=by rw[qI,jA]
theorem Qs:∀S:kU,(ny S).length<=2*S.length
 | []=>aF _
 | [_]=>eC 1
 |_::b::S=>by have:=Qs (b::S);refine(?_ :(ny (b::S)).length+1+1<=2*((b::S).length+1));exact aQ [_,_] (.c 1 (.v 0) (.m 2 (.v 1)) .nil) 0 (.a (.a (.v 0) (.n 1)) (.n 1)) (.m 2 (.a (.v 1) (.n 1))) tt this
theorem Qt:∀(cs:List Nat)(S:kU),(evs cs S).length<=2*S.length+4*cs.length
 | [],S=>Qs S
 |k::cs,S=>by
  have:=Qt cs (iV k S);have h1:(iV k S).length=S.length-dZ k S+1:=by refine(?_ :(S.drop (dZ k S)).length+1=_);rw[cb]
  have h2:(m8 k S).length=2*min (dZ k S) S.length+2:=by unfold m8;rw[ak,Mp];rfl
  refine(?_ :(m8 k S++evs cs (iV k S)).length<=_);rw[ak,aJ,h2];rw[h1] at this;have h3:min (dZ k S) S.length+(S.length-dZ k S)=S.length:=by rw[Nat.min_comm,gA];exact Nat.sub_add_min_cancel _ _
  exact aQ [_,_,_,_,_] (.c 1 (.v 2) (.a (.m 2 (.a (.v 1) (.n 1))) (.m 4 (.v 3))) (.e 2 (.a (.v 0) (.v 1)) (.v 4) .nil)) 0 (.a (.a (.m 2 (.v 0)) (.n 2)) (.v 2)) (.a (.m 2 (.v 4)) (.m 4 (.a (.v 3) (.n 1)))) tt this h3
end
theorem Qu(m:Nat):pS m="p"\/pS m="P":=by
 unfold pS;cases Nat.beq (m % 2) 0 with
 |true=>exact .inl rfl
 |false=>exact .inr rfl
theorem Qv(m:Nat):qS m="q"\/qS m="Q":=by
 unfold qS;cases Nat.beq (m % 2) 0 with
 |true=>exact .inl rfl
 |false=>exact .inr rfl
theorem Mq(h:d4 x y=false):x≠y:=λe=>by rw[(cq x y).mpr e] at h;exact Ab h
theorem Ui{ex:Option (List Str)}(h1:one="p"\/one="P")(h2:two="q"\/two="Q"):uD ⟨ex,one,two⟩:=by
 rcases h1 with rfl|rfl<;>rcases h2 with rfl|rfl<;>
  exact⟨⟨aU (by kernel_rfl),aU (by kernel_rfl)⟩,⟨aU (by kernel_rfl),aU (by kernel_rfl)⟩,Mq (by kernel_rfl),Mq (by kernel_rfl),Mq (by kernel_rfl)⟩
theorem Ym(h1:one="p"\/one="P")(h2:two="q"\/two="Q"):CX ⟨cN [],"p","q"⟩ ⟨cN left,one,two⟩ left:=by
 refine⟨⟨.inl rfl,.inl rfl⟩,⟨h1,h2⟩,rfl,rfl,λs=>?_⟩;cases s with
 |false=>exact h1.elim (λe=>.inl ⟨e,rfl⟩) (λe=>.inr (.inl ⟨e,rfl⟩))
 |true=>exact .inr (.inr (h2.elim (λe=>.inl ⟨e,rfl⟩) (λe=>.inr ⟨e,rfl⟩)))
theorem Mr(D:cR)(left:List Str):J D left [] true 0 0 Ih O2:=by
 have e:wU Ih=[]:=by unfold wU;rw[fE];rfl
 refine⟨rfl,rfl,aF _,λ_=>rfl,rfl,λ_=>⟨rfl,rfl,rfl⟩,λ_ h=>(nomatch h),λ_=>?_,?_,?_,?_,aF _,λ_ h=>(nomatch h),λ_ h=>(nomatch h),λ_ _=>rfl,λh=>(nomatch h)⟩
 ·rw[e];exact Ce
 ·rw[e];exact Ce.c
 ·rw[e];rfl
 ·rw[e];exact aW _
theorem Gj{es:List Ev}{n:Nat}(h1:one="p"\/one="P")(h2:two="q"\/two="Q")(Z:left.length<=20)(H:es.length<=50)(hn:n<=40)(r:Ug ⟨cN left,one,two⟩ left Ih O2 es)(j:J ⟨cN left,one,two⟩ left [] false n (0+es.length) (es.foldl (cC ⟨cN left,one,two⟩) Ih) (es.foldl (bO ⟨cN left,one,two⟩ left) O2)):oJ one two left es:=by
 have d:wU (es.foldl (cC ⟨cN left,one,two⟩) Ih)=ch (dE (uh ⟨cN left,one,two⟩ es)):=by have hd:=j.d0 rfl rfl;unfold wU;rw[hd,z9 (by rw[fE];rfl)];cases (es.foldl (cC ⟨cN left,one,two⟩) Ih).seen<;>exact aS _
 have Bj:=j.zl;have hlc:=j.lc;have YN:=j.ln;have g:=j.zw;rw[d] at Bj hlc YN;refine⟨Ui h1 h2,Z,r.1,?_,r.2,hlc.fin,YN.symm,?_,j.B4,λw hw=>am (j.lw w hw) (by decide)⟩
 ·rw[<-rI,qC];omega
 ·refine am ?_ hn;have:=g;exact aQ [_,_] (.c 1 (.a (.v 0) (.m 2 (.n 0))) (.v 1) .nil) 0 (.v 0) (.v 1) tt this
theorem ab1(hc:cs.length=4)(m:Nat):(evs cs []).length<=50/\oJ "p" "q" [] (evs cs [])/\oJ (pS m) (qS (m / 2)) (eI m) (evs cs [])/\kY (cY ⟨cN (eI m),pS m,qS (m / 2)⟩ (eI m) (evs cs [])).ws (cY ⟨cN [],"p","q"⟩ [] (evs cs [])).ws:=by have hn:=Qt cs [];rw[hc] at hn;have H:(evs cs []).length<=50:=am hn (by decide);have C:=Ym (left:=eI m) (Qu m) (Qv (m / 2));have r:=Gi C cs [] 0 (by rw[hc];decide) (by rw[hc];decide);rw[hc] at r;refine u6 (r 0 Ih O2 Ih O2 ⟨Mr _ _,Mr _ _,.nil⟩) λT u j=>?_;refine⟨H,Gj (.inl rfl) (.inl rfl) (aW _) H (by decide) T j.j0,Gj (Qu m) (Qv _) ?_ H (by decide) u j.j1,j.sub⟩;unfold eI;rw[ax];exact am (List.length_filter_le _ _) (aU rfl)
theorem wV(x y:Str):d4 x y=d4 y x:=by rw[md,cq,cq];exact⟨Eq.symm,Eq.symm⟩
theorem Gk(x:Str):bn x x=0:=by unfold bn;rw[rJ];rfl
theorem Gl(x y:Str):bn x y=bn y x:=by unfold bn;rw[wV x y,wV (Txt.lower x)]
theorem ya(x y:Str):0<=bn x y/\bn x y<=2:=by unfold bn;cases d4 x y<;>cases d4 (Txt.lower x) (Txt.lower y)<;>decide
theorem Yo(h:x≠y):1<=bn x y:=by unfold bn;rw[show d4 x y=false from Bool.eq_false_iff.mpr λe=>h ((cq x y).mp e)];cases d4 (Txt.lower x) (Txt.lower y)<;>decide
inductive Al:List Str->List Str->Int->Prop
 |nil:Al [] [] 0
 |sub {x y:Str} {a b:List Str} {c d:Int}:Al a b c->d=c+bn x y->Al (x::a) (y::b) d
 |del {x:Str} {a b:List Str} {c d:Int}:Al a b c->d=c+2->Al (x::a) b d
 |ins {y:Str} {a b:List Str} {c d:Int}:Al a b c->d=c+2->Al a (y::b) d
theorem Al.symm(h:Al a b c):Al b a c:=by
 induction h with
 |nil=>exact .nil
 |sub _ e T=>exact .sub T (by rw[e,Gl])
 |del _ e T=>exact .ins T e
 |ins _ e T=>exact .del T e
theorem Al.app{i b':List Str}{c':Int}(h:Al a b c)(h':Al i b' c'):Al (a++i) (b++b') (c+c'):=by
 induction h with
 |nil=>rw[fW];exact h'
 |sub _ e T=>exact .sub T (by rw[e];exact Int.add_right_comm _ _ _)
 |del _ e T=>exact .del T (by rw[e];exact Int.add_right_comm _ _ _)
 |ins _ e T=>exact .ins T (by rw[e];exact Int.add_right_comm _ _ _)
theorem EH(x y:Str):Al [x] [y] (bn x y):=.sub .nil (fW _).symm
theorem Ms(x:Str):Al [x] [] 2:=.del .nil rfl
theorem Mt(y:Str):Al [] [y] 2:=.ins .nil rfl
theorem Al.rev(h:Al a b c):Al a.reverse b.reverse c:=by
 induction h with
 |nil=>exact .nil
 | @sub x y a b c d _ e T=>rw[eT,eT,e];exact T.app (EH x y)
 | @del x a b c d _ e T=>have:=T.app (Ms x);rw[aS] at this;rw[eT,e];exact this
 | @ins y a b c d _ e T=>have:=T.app (Mt y);rw[aS] at this;rw[eT,e];exact this
theorem Al.ge0(h:Al a b c):0<=c:=by
 induction h with
 |nil=>exact fP _
 | @sub x y _ _ _ _ _ e T=>rw[e];exact Int.add_nonneg T (ya x y).1
 |del _ e T=>rw[e];exact Int.add_nonneg T (by decide)
 |ins _ e T=>rw[e];exact Int.add_nonneg T (by decide)
theorem Al.wW(h:Al [] b c):c=2*((b.length:Nat):Int):=by
 generalize ea:([]:List Str)=a at h;induction h with
 |nil=>rfl
 |sub _ _ _=>cases ea
 |del _ _ _=>cases ea
 |ins _ e T=>rw[e,T ea,aJ];omega
theorem Cj(b:List Str):Al [] b (2*((b.length:Nat):Int)):=by
 induction b with
 |nil=>exact .nil
 |cons y b T=>exact .ins T (by rw[aJ];omega)
theorem Al.Mu:∀{a b:List Str}{c:Int},Al a b c->∀b',b=y::b'->∃c',c'<=c+2/\Al a b' c':=by
 intro a b c h;induction h with
 |nil=>intro b' e;cases e
 | @sub x z a b c d h e T=>intro b' eb;cases eb;have:=(ya x y).1;exact⟨c+2,by rw[e];exact Int.add_le_add_right (Int.le_add_of_nonneg_right this) 2,.del h rfl⟩
 | @del x a b c d h e T=>intro b' eb;refine bx (T b' eb) λc' h1 h2=>?_;exact⟨c'+2,by rw[e];exact Int.add_le_add_right h1 2,.del h2 rfl⟩
 | @ins z a b c d h e T=>intro b' eb;cases eb;exact⟨c,by rw[e,Int.add_assoc];exact Int.le_add_of_nonneg_right (by decide),h⟩
theorem Al.strip(h:Al (x::a) (x::b) c):∃c',c'<=c/\Al a b c':=by
 cases h with
 |sub h e=>rw[Gk] at e;exact⟨_,by rw[e];exact Int.le_of_eq (Int.add_zero _).symm,h⟩
 |del h e=>refine bx (h.Mu b rfl) λc' h1 h2=>?_;exact⟨c',by rw[e];exact h1,h2⟩
 |ins h e=>refine bx (h.symm.Mu a rfl) λc' h1 h2=>?_;exact⟨c',by rw[e];exact h1,h2.symm⟩
theorem tK:∀{a b:List Str}{c:Int},Al a b c->∃c',c'<=c/\Al (cH a b).1 (cH a b).2 c'
 | [],b,c,h=>⟨c,fP _,h⟩
 |x::a,[],c,h=>⟨c,fP _,h⟩
 |x::a,y::b,c,h=>by
  rw[fB];cases e:d4 x y with
  |false=>exact⟨c,fP _,h⟩
  |true=>obtain rfl:=(cq x y).mp e;refine bx (h.strip) λN h1 h2=>?_;refine bx (tK h2) λc2 h3 h4=>?_;exact⟨c2,dT h3 h1,h4⟩
noncomputable def Gm(r:List Str):Nat:=(r.filter oK).length
theorem wX(x:Str)(r:List Str):Gm (x::r)=(bif oK x then 1 else 0)+Gm r:=by
 unfold Gm;rw[i9];cases oK x with
 |true=>rw[a6 rfl,aJ,cT];exact fC [_] .nil 0 (.a (.v 0) (.n 1)) (.a (.n 1) (.v 0)) tt tt
 |false=>rw[aH i6,dk];exact fC [_] .nil 0 (.v 0) (.a (.n 0) (.v 0)) tt tt
theorem Uj{r w:List Str}(h:Al r w c)(hw:∀y∈w,oK y=false):2*((w.length:Nat):Int)-2*((r.length:Nat):Int)+((Gm r:Nat):Int)<=c:=by
 induction h with
 |nil=>exact fP _
 | @sub x y a b c d _ e T=>
  have:=T λz hz=>hw z (.tail _ hz);have h1:=(ya x y).1;have h2:((bif oK x then 1 else 0:Nat):Int)<=bn x y:=by
   cases B:oK x with
   |false=>exact h1
   |true=>exact Yo λe=>by subst e;rw[hw x (.head _)] at B;exact nB B
  rw[aJ,aJ,wX];omega
 | @del x a b c d _ e T=>
  have:=T hw;have h2:(bif oK x then 1 else 0:Nat)<=1:=by cases oK x<;>decide
  rw[aJ,wX];omega
 | @ins y a b c d _ e T=>have:=T λz hz=>hw z (.tail _ hz);rw[aJ];omega
theorem kY.w(h:kY R W):∀y∈W,oK y=false:=by
 induction h with
 |nil=>exact λ_ h=>(nomatch h)
 | @keep w' w R W r _ T=>
  intro y hy;rcases List.mem_cons.mp hy with rfl|hy
  ·exact r.n
  ·exact T y hy
 | @skip w R W r _ T=>
  intro y hy;rcases List.mem_cons.mp hy with rfl|hy
  ·exact r
  ·exact T y hy
theorem kY.le(h:kY R W):R.length<=W.length:=by
 induction h with
 |nil=>exact aF _
 |keep _ _ T=>exact jz T
 |skip _ _ T=>exact iw T
theorem kY.al(h:kY R W):Al R W (2*((W.length:Nat):Int)-2*((R.length:Nat):Int)+((Gm R:Nat):Int)):=by
 induction h with
 |nil=>exact .nil
 | @keep w' w R W r _ T=>
  refine .sub T ?_;rw[aJ,aJ,wX];rcases r.or with ⟨e,h⟩|⟨h,e⟩
  ·rw[h,e,Gk,dk];omega
  ·rw[h,e,cT];omega
 | @skip w R W r _ T=>refine .ins T ?_;rw[aJ];omega
theorem Al.last(h:Al (a++[x]) (b++[y]) c):(∃c',c=c'+bn x y/\Al a b c')\/(∃c',c=c'+2/\Al a (b++[y]) c')\/(∃c',c=c'+2/\Al (a++[x]) b c'):=by
 have h:=h.rev;rw[l5,l5] at h;have h:Al (x::a.reverse) (y::b.reverse) c:=h;cases h with
 |sub h e=>have:=h.rev;rw[gN,gN] at this;exact .inl ⟨_,e,this⟩
 |del h e=>have:=h.rev;rw[gN,eT,gN] at this;exact .inr (.inl ⟨_,e,this⟩)
 |ins h e=>have:=h.rev;rw[gN,eT,gN] at this;exact .inr (.inr ⟨_,e,this⟩)
theorem Al.split:∀{a u b2:List Str}{c:Int},Al a (u++b2) c->∃X a2 N c2,a=X++a2/\c=N+c2/\Al X u N/\Al a2 b2 c2:=by
 intro a u b2 c h;generalize eb:u++b2=b at h;induction h generalizing u with
 |nil=>refine xA (List.append_eq_nil_iff.mp eb) λDs Y=>?_;obtain rfl:=Ds;obtain rfl:=Y;exact⟨[],[],0,0,rfl,rfl,.nil,.nil⟩
 | @sub x y a b c d h e T=>
  cases u with
  |nil=>obtain rfl:=eb;exact⟨[],x::a,0,d,rfl,(fW _).symm,.nil,.sub h e⟩
  |cons z u=>cases eb;refine gZ (T rfl) λX a2 N c2 DH e2 h1 h2=>?_;obtain rfl:=DH;exact⟨x::X,a2,N+bn x y,c2,rfl,by rw[e,e2];exact Int.add_right_comm _ _ _,.sub h1 rfl,h2⟩
 | @del x a b c d h e T=>refine gZ (T eb) λX a2 N c2 DH e2 h1 h2=>?_;obtain rfl:=DH;exact⟨x::X,a2,N+2,c2,rfl,by rw[e,e2];exact Int.add_right_comm _ _ _,.del h1 rfl,h2⟩
 | @ins y a b c d h e T=>
  cases u with
  |nil=>obtain rfl:=eb;exact⟨[],a,0,d,rfl,(fW _).symm,.nil,.ins h e⟩
  |cons z u=>cases eb;refine gZ (T rfl) λX a2 N c2 DH e2 h1 h2=>?_;obtain rfl:=DH;exact⟨X,a2,N+2,c2,rfl,by rw[e,e2];exact Int.add_right_comm _ _ _,.ins h1 rfl,h2⟩
theorem Uk(h:Al a b c):2*((b.length:Nat):Int)-2*((a.length:Nat):Int)<=c:=by
 induction h with
 |nil=>exact fP _
 | @sub x y _ _ _ _ _ e T=>have:=(ya x y).1;rw[aJ,aJ];omega
 |del _ e T=>rw[aJ];omega
 |ins _ e T=>rw[aJ];omega
structure Ak(a b:List Str)(v:Int):Prop where
 al:Al a b v
 lo:∀c,Al a b c->v<=c
theorem z_(x y:Int):eM x y<=x/\eM x y<=y/\(eM x y=x\/eM x y=y):=by
 unfold eM;by_cases h:y<x
 ·rw[dI h,cT];exact⟨Int.le_of_lt h,fP _,.inr rfl⟩
 ·rw[dR h,dk];exact⟨fP _,Int.not_lt.mp h,.inl rfl⟩
theorem cell{px:List Str}{d u r:Int}(hd:Ak px py d)(N:Ak (px++[x]) py u)(hr1:∀c,Al px (py++[y]) c->r<=c)(hr2:Al px (py++[y]) r\/d<=r):Ak (px++[x]) (py++[y]) (eM (eM r u+2) (d+bn y x)):=by
 refine u6 (z_ r u) λi1 i2 i3=>?_;refine u6 (z_ (eM r u+2) (d+bn y x)) λj1 j2 j3=>?_;have M:=ya y x;have hc:=Gl y x;have X:Al (px++[x]) (py++[y]) (d+bn y x):=by rw[hc];exact hd.al.app (EH x y)
 have a2:Al (px++[x]) (py++[y]) (u+2):=by have:=N.al.app (Mt y);rw[aS] at this;exact this
 constructor
 ·rcases j3 with e|e
  ·rcases i3 with e'|e'
   ·rcases hr2 with h|h
    ·have:=h.app (Ms x);rw[aS] at this;rw[e,e'];exact this
    ·rw[show eM (eM r u+2) (d+bn y x)=d+bn y x from Int.le_antisymm j2 (by rw[e,e'];exact Int.add_le_add h M.2)];exact X
   ·rw[e,e'];exact a2
  ·rw[e];exact X
 ·intro c h;rcases h.last with ⟨c',e,h⟩|⟨c',e,h⟩|⟨c',e,h⟩
  ·rw[e];exact dT j2 (by rw[hc];exact Int.add_le_add_right (hd.lo c' h) _)
  ·rw[e];exact dT j1 (Int.add_le_add_right (dT i1 (hr1 c' h)) 2)
  ·rw[e];exact dT j1 (Int.add_le_add_right (dT i2 (N.lo c' h)) 2)
inductive xl:List Str->List Str->List Str->List Int->Prop
 |nil {px py:List Str}:xl px py [] []
 |cons {px py as:List Str} {us:List Int} {x:Str} {u:Int}:Ak (px++[x]) py u->xl (px++[x]) py as us->xl px py (x::as) (u::us)
theorem Pi:∀(as:List Str)(us:List Int)(d r mn:Int)(px:List Str)(dn:List Int),xl px py as us->Ak px py d->(∀c,Al px (py++[y]) c->r<=c)->(Al px (py++[y]) r\/d<=r)-> ∃f,(uF y as us d r mn dn).row=dn++f/\xl px (py++[y]) as f/\(as=[]->(uF y as us d r mn dn).res=r)/\(as≠[]->Ak (px++as) (py++[y]) (uF y as us d r mn dn).res)/\(uF y as us d r mn dn).mn<=mn/\ (∀X a2,as=X++a2->X≠[]->∀c,Al (px++X) (py++[y]) c->(uF y as us d r mn dn).mn<=c):=λas=>by
 induction as with
 |nil=>intro us d r mn px dn h hd h1 h2;cases h;refine⟨[],rfl,.nil,λ_=>rfl,λe=>absurd rfl e,fP _,λX a2 e h=>?_⟩;exact absurd (List.append_eq_nil_iff.mp e.symm).1 h
 |cons x as T=>
  intro us d r mn px dn h hd h1 h2;cases h with
  | @cons _ _ _ us _ u N h=>
   have hc:=cell hd N h1 h2;refine EJ (T us u (eM (eM r u+2) (d+bn y x)) (eM mn (eM (eM r u+2) (d+bn y x))) (px++[x]) (dn++[eM (eM r u+2) (d+bn y x)]) h N hc.lo (.inl hc.al)) λf e1 e2 e3 e4 E L=>?_;refine u6 (z_ mn (eM (eM r u+2) (d+bn y x))) λm1 m2 _=>?_;refine⟨eM (eM r u+2) (d+bn y x)::f,?_,.cons hc e2,λe=>(nomatch e),λ_=>?_,dT E m1,λX a2 e hn c D=>?_⟩
   ·refine e1.trans ?_;rw[au];rfl
   ·cases as with
    |nil=>rw[show(uF y [x] (u::us) d r mn dn).res=_ from e3 rfl];exact hc
    |cons z as=>have:=e4 (gV _ _);rw[au] at this;exact this
   ·cases X with
    |nil=>exact absurd rfl hn
    |cons z X=>
     cases e;cases X with
     |nil=>exact dT E (dT m2 (hc.lo c D))
     |cons g X=>refine L (g::X) a2 rfl (gV _ _) c ?_;rw[au];exact D
theorem Pj(b:List Str):Ak [] b (2*((b.length:Nat):Int)):=⟨Cj b,λc h=>by rw[h.wW];exact fP _⟩
theorem Mv(a:List Str):Ak a [] (2*((a.length:Nat):Int)):=⟨(Cj a).symm,λc h=>by rw[h.symm.wW];exact fP _⟩
theorem Mw{row:List Int}(B:xs≠[])(h:xl [] py xs row):xl [] (py++[y]) xs (dX y xs row py.length).row/\Ak xs (py++[y]) (dX y xs row py.length).res/\∀bs c,Al xs (py++[y]++bs) c->(dX y xs row py.length).mn<=c:=by
 have hd:Ak [] py (((py.length:Nat):Int)*2):=by rw[Int.mul_comm];exact Pj py
 obtain⟨f,e1,e2,e3,e4,E,L⟩:=Pi xs row _ (((py.length:Nat):Int)*2) TK [] [] h hd (λc h=>by
  have:=h.wW;rw[ak] at this;have:=this;omega) (.inr (fP _))
 refine⟨?_,e4 B,λbs c h=>?_⟩
 ·rw[show(dX y xs row py.length).row=_ from e1];exact e2
 ·refine gZ (h.split) λX a2 N c2 ea ec h1 h2=>?_;have:=h2.ge0;cases X with
  |nil=>
   have h1:=h1.wW;rw[ak] at h1;have h1:N=2*(((py.length+1:Nat)):Int):=h1;cases xs with
   |nil=>exact absurd rfl B
   |cons x xs=>have:=L [x] xs rfl (gV _ _) (((py.length:Nat):Int)*2+bn x y) (hd.al.app (EH x y));have h3:=(ya x y).2;refine dT this ?_;omega
  |cons z X=>have:=L (z::X) a2 ea (gV _ _) N h1;refine dT this ?_;omega
theorem Mx(B:xs≠[]):∀(bs py:List Str)(row:List Int)(r:Int),xl [] py xs row->(bs=[]->Ak xs py r)-> Ak xs (py++bs) (uj xs bd bs py.length row r)\/(uj xs bd bs py.length row r=bd+1/\∀c,Al xs (py++bs) c->bd<c):=λbs=>by
 induction bs with
 |nil=>intro py row r h h';rw[aS];exact .inl (h' rfl)
 |cons y bs T=>
  intro py row r h h';refine u6 (Mw (y:=y) B h) λh1 h2 h3=>?_;rw[Ew];have h3:=h3 bs;rw[au] at h3;cases e:decide (bd<(dX y xs row py.length).mn) with
  |true=>exact .inr ⟨rfl,λc h=>Int.lt_of_lt_of_le (iu e) (h3 c h)⟩
  |false=>have:=T (py++[y]) _ _ h1 (λ_=>h2);rw[ak,au] at this;exact this
theorem Gn:∀(as px:List Str),xl px [] as ((List.range as.length).map λ(i:Nat)=>2*((px.length:Nat):Int)+(2+((i:Nat):Int)*2))
 | [],px=>.nil
 |x::as,px=>by
  rw[aJ,List.range_succ_eq_map,cy,ia];refine .cons ?_ ?_
  ·have:=Mv (px++[x]);rw[ak] at this;rw[show 2*((px.length:Nat):Int)+(2+((0:Nat):Int)*2)=2*((px.length+1:Nat):Int) by omega];exact this
  ·have:=Gn as (px++[x]);rw[ak] at this;refine cast (ag (xl (px++[x]) [] as) ?_) this;refine ir λi _=>?_;refine(?_ :2*((px.length+1:Nat):Int)+(2+((i:Nat):Int)*2)=2*((px.length:Nat):Int)+(2+((i+1:Nat):Int)*2));omega
theorem Go{I:List Str}(B:xs≠[])(hy:I≠[]):Ak xs I (tJ xs I bd)\/(tJ xs I bd=bd+1/\∀c,Al xs I c->bd<c):=by
 unfold tJ;cases e:decide (bd<(((I.length:Nat):Int)-((xs.length:Nat):Int))*2) with
 |true=>refine .inr ⟨rfl,λc h=>?_⟩;have:=Uk h;have:=iu e;omega
 |false=>
  have h0:=Gn xs [];have z:((List.range xs.length).map λ(i:Nat)=>2*((([]:List Str).length:Nat):Int)+(2+((i:Nat):Int)*2))=tI xs.length:=ir λi _=>by refine(?_ :2*((0:Nat):Int)+(2+((i:Nat):Int)*2)=2+((i:Nat):Int)*2);omega
  rw[z] at h0;exact Mx B I [] (tI xs.length) 0 h0 (λe=>absurd e hy)
theorem qM:∀a b:List Str,∃z,a=z++(cH a b).1/\b=z++(cH a b).2
 | [],b=>⟨[],rfl,rfl⟩
 |x::a,[]=>⟨[],rfl,rfl⟩
 |x::a,y::b=>by
  rw[fB];cases e:d4 x y with
  |false=>exact⟨[],rfl,rfl⟩
  |true=>obtain rfl:=(cq x y).mp e;refine bx (qM a b) λz e1 e2=>?_;exact⟨x::z,ag (x:: ·) e1,ag (x:: ·) e2⟩
theorem oN:∀a b:List Str,cH b a=((cH a b).2,(cH a b).1)
 | [],[]=>rfl
 | [],y::b=>rfl
 |x::a,[]=>rfl
 |x::a,y::b=>by
  rw[fB,fB,wV y x];cases d4 x y with
  |false=>rfl
  |true=>exact oN a b
theorem qN:∀z a b:List Str,cH (z++a) (z++b)=cH a b
 | [],a,b=>rfl
 |x::z,a,b=>by rw[iz,iz,fB,rJ];exact qN z a b
noncomputable def lQ(a b:List Str):List Str×List Str:=((cH (cH a b).1.reverse (cH a b).2.reverse).1.reverse,(cH (cH a b).1.reverse (cH a b).2.reverse).2.reverse)
theorem r8(a b:List Str):lQ b a=((lQ a b).2,(lQ a b).1):=by unfold lQ;rw[oN a b];dsimp only;rw[oN (cH a b).1.reverse]
theorem Gp(a b:List Str):∃z g,a=z++(lQ a b).1++g/\b=z++(lQ a b).2++g:=by
 refine bx (qM a b) λz e1 e2=>?_;refine bx (qM (cH a b).1.reverse (cH a b).2.reverse) λg e3 e4=>?_;refine⟨z,g.reverse,?_,?_⟩
 ·have:=ag List.reverse e3;rw[gN,l5] at this;rw[au];exact e1.trans (ag (z++ ·) this)
 ·have:=ag List.reverse e4;rw[gN,l5] at this;rw[au];exact e2.trans (ag (z++ ·) this)
theorem Ul(h:Al a b c):∃c',c'<=c/\Al (lQ a b).1 (lQ a b).2 c':=by refine bx (tK h) λN h1 h2=>?_;refine bx (tK h2.rev) λc2 h3 h4=>?_;exact⟨c2,dT h3 h1,h4.rev⟩
theorem Gq(a b:List Str):Gm (a++b)=Gm a+Gm b:=by unfold Gm;rw[List.filter_append,ak]
theorem My(h:∀x∈a,oK x=false):Gm a=0:=by unfold Gm;rw[List.filter_eq_nil_iff.mpr λx B=>by rw[h x B];exact i6];rfl
noncomputable def Io(R W:List Str):Int:=2*((W.length:Nat):Int)-2*((R.length:Nat):Int)+((Gm R:Nat):Int)
theorem Gr(h:kY R W):Ak (lQ R W).1 (lQ R W).2 (Io R W)/\((lQ R W).2.length:Int)-((lQ R W).1.length:Int)=(W.length:Int)-(R.length:Int):=by
 refine dB (Gp R W) λz g e1 e2=>?_;refine bx (Ul h.al) λc h1 h2=>?_;have hw:=h.w;have hz:∀x∈z,oK x=false:=λx B=>hw x (by rw[e2];exact fH _ (fH _ B));have L:∀x∈g,oK x=false:=λx B=>hw x (by rw[e2];exact oS _ B);have k:∀x∈(lQ R W).2,oK x=false:=λx B=>hw x (by rw[e2];exact fH _ (oS _ B));have l1:=ag List.length e1;have l2:=ag List.length e2;have n1:=ag Gm e1;rw[ak,ak] at l1 l2;rw[Gq,Gq,My hz,My L] at n1;have lo:∀c,Al (lQ R W).1 (lQ R W).2 c->Io R W<=c:=λc h=>by have:=Uj h k;unfold Io;omega
 refine⟨⟨?_,lo⟩,by omega⟩;have h3:=lo c h2;have h1:c<=Io R W:=h1;rw[show Io R W=c from Int.le_antisymm h3 h1];exact h2
theorem Ak.symm{v:Int}(h:Ak a b v):Ak b a v:=⟨h.al.symm,λc h'=>h.lo c h'.symm⟩
theorem Ck(I:List Str)(bd:Int):uH [] I bd=2*(((0:Nat):Int)+((I.length:Nat):Int)):=rfl
theorem yb(xs:List Str)(bd:Int):uH xs [] bd=2*(((xs.length:Nat):Int)+((0:Nat):Int)):=by cases xs<;>rfl
theorem tM(x y:Str)(xs I:List Str)(bd:Int):uH (x::xs) (y::I) bd=bif decide ((((y::I).length:Nat):Int)<(((x::xs).length:Nat):Int)) then tJ (y::I) (x::xs) bd else tJ (x::xs) (y::I) bd:=rfl
theorem Gs{I:List Str}{p:Int}(h:Ak xs I p):uH xs I bd=p\/(uH xs I bd=bd+1/\bd<p):=by
 cases xs with
 |nil=>left;rw[Ck,h.al.wW];exact ag (2* ·) (fW _)
 |cons x xs=>
  cases I with
  |nil=>left;rw[yb,h.al.symm.wW];exact ag (2* ·) (Int.add_zero _)
  |cons y I=>
   rw[tM];cases e:decide ((((y::I).length:Nat):Int)<(((x::xs).length:Nat):Int)) with
   |true=>
    rw[cT];rcases Go (bd:=bd) (gV _ _) (gV _ _) with h'|⟨h',l⟩
    ·have X:=h'.lo p h.symm.al;have a2:=h.lo _ h'.al.symm;exact .inl (Int.le_antisymm X a2)
    ·exact .inr ⟨h',l p h.al.symm⟩
   |false=>
    rw[dk];rcases Go (bd:=bd) (gV _ _) (gV _ _) with h'|⟨h',l⟩
    ·have X:=h'.lo p h.al;have a2:=h.lo _ h'.al;exact .inl (Int.le_antisymm X a2)
    ·exact .inr ⟨h',l p h.al⟩
theorem Ip(a:List Str):nG a a=true:=dI rfl
theorem r_(h:kY R R):Io R R=0:=by unfold Io;rw[My h.w,Int.sub_self];rfl
theorem Iq(h:kY R W)(m:Nat)(bd:Int):wR m R W bd=Io R W\/(wR m R W bd=bd+1/\bd<Io R W):=by
 unfold wR Qn;refine xA (Gr h) λhd _=>?_;cases Nat.beq (m / 588 % 2) 0 with
 |true=>
  rw[cT];cases e:nG R W with
  |true=>obtain rfl:=jZ e;exact .inl (r_ h).symm
  |false=>exact Gs hd
 |false=>
  rw[dk];cases e:nG W R with
  |true=>obtain rfl:=jZ e;exact .inl (r_ h).symm
  |false=>have:=Gs (bd:=bd) hd.symm;rw[show(lQ R W).2=(lQ W R).1 by rw[r8 R W],show(lQ R W).1=(lQ W R).2 by rw[r8 R W]] at this;exact this
theorem Gu{d:Nat}:(B9 R W d).isEmpty=false↔∃k,k<=R.length/\W.take k++W.drop (k+d)=R:=by
 unfold B9;constructor
 ·intro h;cases e:(List.range (R.length+1)).filter (ED R W d) with
  |nil=>rw[e] at h;exact Ab h
  |cons k ks=>
   have hk:k∈(List.range (R.length+1)).filter (ED R W d):=by rw[e];exact .head _
   refine xA (List.mem_filter.mp hk) λh1 h2=>?_;exact⟨k,Nat.le_of_lt_succ (List.mem_range.mp h1),jZ h2⟩
 ·rintro⟨k,h1,h2⟩;have hk:k∈(List.range (R.length+1)).filter (ED R W d):=List.mem_filter.mpr ⟨List.mem_range.mpr (Nat.lt_succ_of_le h1),by unfold ED;rw[h2];exact Ip R⟩;cases e:(List.range (R.length+1)).filter (ED R W d) with
  |nil=>rw[e] at hk;cases hk
  |cons k ks=>rfl
theorem Pk{k:Nat}(hk:k<=R.length)(Z:R.length<=W.length)(h:W.take k++W.drop (k+(W.length-R.length))=R):(lQ R W).1=[]:=by
 have J:W=W.take k++((W.drop k).take (W.length-R.length)++W.drop (k+(W.length-R.length))):=by rw[<-List.drop_drop,List.take_append_drop,List.take_append_drop]
 generalize W.take k=u at h J;generalize (W.drop k).take (W.length-R.length)=z at J;generalize W.drop (k+(W.length-R.length))=v at h J;subst h;subst J;refine Am (wP v (z++v)) λn h1 h2 h3=>?_;unfold lQ;rw[qN,h2,h3];have M:=List.suffix_of_suffix_length_le ((List.drop_suffix n v).trans (List.suffix_append z v)) (List.drop_suffix n _) (by rw[cb,cb,ak];omega);refine xE M λq Y=>?_;try clear M
 rw[<-Y,l5];have:=qN (v.drop n).reverse [] q.reverse;rw[aS] at this;rw[this];rfl
theorem Um(Z:R.length<=W.length)(h:(lQ R W).1=[]):∃k,k<=R.length/\W.take k++W.drop (k+(W.length-R.length))=R:=by refine dB (Gp R W) λz g e1 e2=>?_;rw[h,aS] at e1;generalize (lQ R W).2=w at e2;subst e1;subst e2;refine⟨z.length,by rw[ak];exact aQ [_,_] .nil 0 (.v 0) (.a (.v 0) (.v 1)) tt,?_⟩;rw[au,List.take_left,show z.length+((z++(w++g)).length-(z++g).length)=z.length+w.length by simp only[ak];exact lG (λq1 q2=>fC [_,_,_,_] (.e 1 (.a (.v 0) (.a (.v 1) (.v 2))) (.a (.v 1) (.a (.v 3) (.v 2))) .nil) 0 (.a (.v 1) (.v 0)) (.a (.v 1) (.v 3)) tt tt q2) (λq1 q2=>fC [_,_,_,_] (.c 1 (.a (.a (.v 0) (.a (.v 1) (.v 2))) (.n 1)) (.a (.v 0) (.v 2)) (.e 1 (.v 3) (.n 0) .nil)) 0 (.a (.v 0) (.v 3)) (.a (.v 0) (.v 1)) tt tt q1 q2),<-List.drop_drop,pn,pn]
theorem Pl(h:kY R W)(m k:Nat){low:Int}(p:low=2*((W.length-R.length:Nat):Int)-1-((k:Nat):Int)):wR m R W low=bif (B9 R W (W.length-R.length)).isEmpty then low+1 else Io R W:=by
 have gI:=h.le;refine xA (Gr h) λhd cn=>?_;have e1:(lQ R W).2=(lQ W R).1:=by rw[r8 R W]
 have e2:(lQ R W).1=(lQ W R).2:=by rw[r8 R W]
 cases b:(B9 R W (W.length-R.length)).isEmpty with
 |false=>
  refine bx (Gu.mp b) λk hk hp=>?_;have h0:=Pk hk gI hp;rw[h0] at hd;have hv:=hd.al.wW;rw[dk];unfold wR Qn;cases Nat.beq (m / 588 % 2) 0 with
  |true=>
   rw[cT];cases e:nG R W with
   |true=>obtain rfl:=jZ e;exact(r_ h).symm
   |false=>refine(?_ :uH (lQ R W).1 (lQ R W).2 low=_);rw[h0,Ck,hv];exact ag (2* ·) (fW _)
  |false=>
   rw[dk];cases e:nG W R with
   |true=>obtain rfl:=jZ e;exact(r_ h).symm
   |false=>refine(?_ :uH (lQ W R).1 (lQ W R).2 low=_);rw[<-e1,<-e2,h0,yb,hv];exact ag (2* ·) (Int.add_zero _)
 |true=>
  have YB:¬ ∃k,k<=R.length/\W.take k++W.drop (k+(W.length-R.length))=R:=λhp=>by rw[Gu.mpr hp] at b;exact nB b
  have qO:R≠W:=λe=>YB ⟨0,aW _,by rw[e,kq];rfl⟩;have h1:(lQ R W).1≠[]:=λe=>YB (Um gI e);have h2:(lQ R W).2≠[]:=λe=>by
   rw[e,fL] at cn;have:(lQ R W).1.length=0:=by omega
   exact h1 (sj this)
  have eS:∀xs I:List Str,low<(((I.length:Nat):Int)-((xs.length:Nat):Int))*2->tJ xs I low=low+1:=λxs I h=>by unfold tJ;rw[dI h];rfl
  rw[cT];unfold wR Qn;cases Nat.beq (m / 588 % 2) 0 with
  |true=>
   rw[cT];cases e:nG R W with
   |true=>exact absurd (jZ e) qO
   |false=>
    refine(?_ :uH (lQ R W).1 (lQ R W).2 low=_);generalize (lQ R W).1=xs at *;generalize (lQ R W).2=I at *;cases xs with
    |nil=>exact absurd rfl h1
    |cons x xs=>cases I with
     |nil=>exact absurd rfl h2
     |cons y I=>rw[tM];rw[dR (by omega),dk];exact eS _ _ (by omega)
  |false=>
   rw[dk];cases e:nG W R with
   |true=>exact absurd (jZ e).symm qO
   |false=>
    refine(?_ :uH (lQ W R).1 (lQ W R).2 low=_);rw[<-e1,<-e2];generalize (lQ R W).1=xs at *;generalize (lQ R W).2=I at *;cases xs with
    |nil=>exact absurd rfl h1
    |cons x xs=>cases I with
     |nil=>exact absurd rfl h2
     |cons y I=>
      rw[tM];cases e:decide ((((x::xs).length:Nat):Int)<(((y::I).length:Nat):Int)) with
      |true=>rw[cT];exact eS _ _ (by omega)
      |false=>have:=of_decide_eq_false e;rw[dk];exact eS _ _ (by omega)
theorem Mz(h:R.length<=W.length):Io R W=2*((W.length-R.length:Nat):Int)+(((R.filter oK).length:Nat):Int):=by unfold Io Gm;rw[Int.ofNat_sub h,Int.mul_sub]
theorem Uo(hc:cs.length=4)(m:Nat):Qo cs m:=by
 refine Gv (ab1 hc m) λh1 h2 h3 h4=>?_;refine⟨h1,h2,h3,h4.le,λR W hR J=>?_,λR W hR J=>?_⟩
 ·rw[<-hR,<-J] at h4;have gI:=h4.le;have e:=Mz gI;have:=eD (m / 196) (by decide:0<3);rw[<-e];rcases Iq h4 m (Io R W+((m / 196 % 3:Nat):Int)-1) with h|⟨h,h'⟩
  ·exact h
  ·rw[h];omega
 ·rw[<-hR,<-J] at h4;have gI:=h4.le;have e:=Mz gI;rw[<-e];exact Pl h4 m (m / 1176) rfl
theorem nc{K:Frag}{N:Addr}{n:Str}{v:Value}(X:K.In h)(G:h.Ns N mg)(e:nsIn K N n=some (some v)):mg n=some v:=by
 refine f_ G λo es ep ho hd _ S=>?_;try clear G
 unfold nsIn at e;split at e
 ·rename_i c d uL n' sl q;have:=X _ _ q;rw[ho] at this;obtain rfl:=aq this;cases hd;split at e
  ·rename_i en he;rw[<-S];unfold nsFind findBy;rw[<-Array.find?_toList,he];exact aq e
  ·split at e<;>cases e
 ·exact nS e
noncomputable def mkG(prog:Program)(w:World)(hb:Heap)(mg mb:Str->Option Value)(p:Program)(loose:List Str)(mean:ExcName->Option Value)(os:OsState)(cd:Value)(X:(KK w.params).In hb)(T:Top p loose mean mg mb hb)(sm:∃z o,sysModules<z/\hb.get? z=some o)(sa:Addr) (sn:List Int) (su:List Value) (sl:hb.IsList sa su.toArray) (si:IntsAre su sn):G:={prog:=prog,w:=w,K:=KK w.params,hb:=hb,mg:=mg,mb:=mb,p:=p,loose:=loose,mean:=mean,os:=os,tp:=λt=>bif Nat.beq t 0 then(dU w.params).pos else(qA w.params).pos,tq:=λt=>bif Nat.beq t 0 then rB else HK,ff:=λt=>bif Nat.beq t 0 then c9 (dU w.params).scope else c9 (qA w.params).scope,fo:=λt=>bif Nat.beq t 0 then(λfA fx c' io=>fnMade (dU w.params).name rB (dU w.params).params (dU w.params).body (dU w.params).scope fA fx ((mg "__name__").getD .none) c' io) else bif Nat.beq t 1 then(λfA fx c' io=>kla_obj "<lambda>" HK (qA w.params).params (N6 w.params) (qA w.params).scope fA ((mg "__name__").getD .none) c' io) else λ_ _ _ _=>{cls:=cd,data:=.plain},tabs:=[259,123],X:=X,T:=T,sm:=sm,sa:=sa,sn:=sn,su:=su,sl:=sl,si:=si}
section
variable {P:Params}
theorem MA{α β:Type}{f g:α->β}{l:List α}{i:Nat}{x:α}(e:l.map f=l.map g)(h:l[i]?=some x):f x=g x:=by have q:=ag (λm=>m[i]?) e;rw[bi,bi,h] at q;exact aq q
theorem Yp(X:(KK P).In h)(G:h.Ns mainGlobals mg)(i:Nat){a:Nat}(h:yW[i]?=some (x,a)):mg x=some (.ref a):=nc X G (MA (f:=λe=>nsIn (KK P) mainGlobals e.1) (g:=λe=>some (some (.ref e.2))) (by kernel_rfl) h)
theorem Up(X:(KK P).In h)(G:h.Ns mainGlobals mg)(i:Nat)(h:wm[i]?=some x):mg x=none:=ns_none_of X G (MA (g:=λ_=>some none) (by kernel_rfl) h)
theorem Uq(X:(KK P).In h)(G:h.Ns mainGlobals mg)(i:Nat){n:Int}(h:DL[i]?=some (x,n)):∃t,mg x=some (.int n t):=by
 match i with
 |0=>cases h;exact⟨601,nc X G (by kernel_rfl)⟩
 |1=>cases h;exact⟨603,nc X G (by kernel_rfl)⟩
 |2=>cases h;exact⟨605,nc X G (by kernel_rfl)⟩
 |n+3=>exact nS h
end
theorem gok(prog:Program)(w:World)(hb:Heap)(mg mb:Str->Option Value)(p:Program)(loose:List Str)(mean:ExcName->Option Value)(os:OsState)(cd:Value)(X:(KK w.params).In hb)(T:Top p loose mean mg mb hb)(sm:∃z o,sysModules<z/\hb.get? z=some o)(sa:Addr) (sn:List Int) (su:List Value) (sl:hb.IsList sa su.toArray) (si:IntsAre su sn) (d0:CodeHd hb 263 259) (M:CodeHd hb 125 123):cD w.params (mkG prog w hb mg mb p loose mean os cd X T sm sa sn su sl si):=⟨rfl,rfl,λi _ _ h=>Yp X T.g i h,λi _ h=>Up X T.g i h,λi _ _ h=>Uq X T.g i h,rfl,d0,M,rfl,rfl,rfl,rfl,rfl,rfl,rfl,rfl⟩
noncomputable def Aa(L:Nat):Nat->Addr
 |0=>259
 |1=>123
 |l+2=>L+1+l
theorem u5(S:259<L)(n:Nat):259<L+1+n:=dA S (am (eC L) (gT _ n))
theorem Pm(S:259<L)(l l':Nat)(e:Aa L l=Aa L l'):l=l':=by
 cases l with
 |zero=>
  cases l' with
  |zero=>rfl
  |succ l'=>
   cases l' with
   |zero=>exact absurd e (by decide:(259:Nat)≠123)
   |succ n=>exact absurd e (bL (u5 S n))
 |succ l=>
  cases l with
  |zero=>
   cases l' with
   |zero=>exact absurd e (by decide:(123:Nat)≠259)
   |succ l'=>
    cases l' with
    |zero=>rfl
    |succ n=>exact absurd e (bL (fN (by decide:(123:Nat)<259) (u5 S n)))
  |succ n=>
   cases l' with
   |zero=>exact absurd e (dJ (u5 S n))
   |succ l'=>
    cases l' with
    |zero=>exact absurd e (dJ (fN (by decide:(123:Nat)<259) (u5 S n)))
    |succ n'=>exact ag (· +2) (Nat.add_left_cancel (show L+1+n=L+1+n' from e))
theorem afz{prog:Program}{w:World}{dG:Shared}{d:Heap}{mb:Str->Option Value}{loose:List Str}{mean:ExcName->Option Value}{sa:Addr}{sn:List Int}{su:List Value}{iC:Heap}{tk:Nat}{fa:Addr}{cd:Value}{o0 o1 o2:Obj}{m:Str->Option Value}(X:(KK w.params).In d) (T:Top topProg loose mean mg mb d) (hF:Fr d L iC m) (hN:News d L iC [(L+1+1+1,o2),(L+1+1,o1),(L+1,o0),(259,tabObj #[]),(123,tabObj #[])])(S:259<L) (f:o0.data= .cell none) (N:o1.data= .cell none) (c2:o2.data= .cell none) (hm:m "script"=some (.ref sa)) (sl:d.IsList sa su.toArray) (si:IntsAre su sn) (hz:sn.length<=63) (d0:CodeHd d 263 259) (M:CodeHd d 125 123) (K:dG.gens= #[]){Q:Flow->Shared->Prop} {E:Value->Shared->Prop} (C:∀s',(∀a o,d.get? a=some o->s'.heap.get? a=some o)->s'.gens= #[]->s'.os=dG.os->GrownAt 259 s'.heap->GrownAt 123 s'.heap->Q (.ret (.bool true)) s'):wpAny (model prog w) (callerA.deeper (envOfC "law" (bR (KK w.params) 276).scope L fa cd)) (execs (bh (KK w.params) 276) (envOfC "law" (bR (KK w.params) 276).scope L fa cd)) Q E ⟨iC,dG.gens,dG.drawn,tk,dG.os⟩:=by
 have sm:∃z o,sysModules<z/\d.get? z=some o:=⟨276,_,by decide,X 276 _ (by rfl)⟩;have G:=gok prog w d mg mb topProg loose mean dG.os cd X T sm sa sn su sl si d0 M;refine bx (Me (k:=0) G hz λc cs hc=>Uo hc.len (c / 648)) λW hb J=>?_;have W1:=J (λfl σ=>fl= .ret (.bool true)/\∃b b' r,σ.mem= .tab 0 b:: .tab 1 b'::r) λlo b b' r=>⟨rfl,b,b',r,rfl⟩;have n2:=hN _ (.head _);have n1:=hN _ (.tail _ (.head _));have n0:=hN _ (.tail _ (.tail _ (.head _)));have t0:=hN _ (.tail _ (.tail _ (.tail _ (.head _))));have t1:=hN _ (.tail _ (.tail _ (.tail _ (.tail _ (.head _)))));have p:sysModules<L:=by
  refine dB sm λz o h1 h2=>?_;try clear sm
  exact dA h1 (eU (dA (bT h2) hF.above))
 have Hj:∀l,l<5->d.get? (Aa L l)=none/\Aa L l≠L/\Aa L l≠sysModules:=λl Z=>by
  match l,Z with
  |0,_=>exact⟨t0.2.2,t0.2.1,(by decide:(259:Nat)≠sysModules)⟩
  |1,_=>exact⟨t1.2.2,t1.2.1,(by decide:(123:Nat)≠sysModules)⟩
  |2,_=>exact⟨n0.2.2,n0.2.1,dJ (fJ p)⟩
  |3,_=>exact⟨n1.2.2,n1.2.1,dJ (fJ (fJ p))⟩
  |4,_=>exact⟨n2.2.2,n2.2.1,dJ (fJ (fJ (fJ p)))⟩
 have ab3:∀l l',l<5->l'<5->Aa L l=Aa L l'->l=l':=λl l' _ _ e=>Pm S l l' e;have R:bU (mkG prog w d mg mb topProg loose mean dG.os cd X T sm sa sn su sl si) (Il w.params (mkG prog w d mg mb topProg loose mean dG.os cd X T sm sa sn su sl si)) ⟨L,some fa,some L,cellsFrom (L+1) (bR (KK w.params) 276).scope.names []⟩ ⟨Aa L,5,d.get?⟩
  ⟨some (.fb (.ref sa))::List.replicate 12 none,[2,3,4],[.tab 0 false,.tab 1 false,.de,.de,.de]⟩ ⟨iC,dG.gens,dG.drawn,tk,dG.os⟩:=by
  refine⟨⟨rfl,hF.keep,λ_ _ e=>e,λl o e=>?_,λl Z=>(Hj l Z).2.2,ab3,λl Z=>(Hj l Z).1,λi P e=>?_⟩,⟨m,hF.ns,λi x v e1 e2=>?_⟩,λi x l e1 e2=>?_,gO hF.above,λl Z=>(Hj l Z).2.1,K,rfl⟩
  ·match l with
   |0=>obtain rfl:=aq e;exact⟨_,t0.1,rfl⟩
   |1=>obtain rfl:=aq e;exact⟨_,t1.1,rfl⟩
   |2=>obtain rfl:=aq e;exact⟨_,n0.1,f⟩
   |3=>obtain rfl:=aq e;exact⟨_,n1.1,N⟩
   |4=>obtain rfl:=aq e;exact⟨_,n2.1,c2⟩
   |n+5=>exact nS e
  ·match i with
   |0=>obtain rfl:=aq e;exact⟨aU rfl,rfl⟩
   |1=>obtain rfl:=aq e;exact⟨aU rfl,rfl⟩
   |n+2=>exact nS e
  ·match i with
   |0=>obtain rfl:=aq e1;cases e2;exact⟨_,hm,rfl⟩
   |n+1=>have e2:(List.replicate 12 (none:Option V))[n]?=some (some v):=e2;rw[List.getElem?_replicate] at e2;split at e2<;>cases e2
  ·match i with
   |0=>obtain rfl:=aq e1;obtain rfl:=aq e2;exact⟨aU rfl,rfl⟩
   |1=>obtain rfl:=aq e1;obtain rfl:=aq e2;exact⟨aU rfl,rfl⟩
   |2=>obtain rfl:=aq e1;obtain rfl:=aq e2;exact⟨aU rfl,rfl⟩
   |n+3=>exact nS e1
 have room:cK (callerA.deeper (envOfC "law" (bR (KK w.params) 276).scope L fa cd)) (0+6):=⟨(by decide:callerA.depth+1+2*(0+6)<recursionLimit),(by decide:callerA.units+3+16*(0+6)+80<cLine),rfl⟩;refine a_ (hb.run ⟨L,some fa,some L,cellsFrom (L+1) (bR (KK w.params) 276).scope.names []⟩ (callerA.deeper (envOfC "law" (bR (KK w.params) 276).scope L fa cd)) _ room _ _ _ _ (.refl _) R W1) (λfl s' x=>?_) λ_ _ x=>x.elim;refine iB.elim x λbg M5 a9 x1 x2 x3 x4=>?_;refine Pp x4 λDs b b' r Za=>?_;try clear x4
 obtain rfl:=Ds;refine bx x3 λu Y hv=>?_;try clear x3
 obtain rfl:=Y;obtain rfl:u= .bool true:=hv;have grown:∀l t b,l<5->a9.mem[l]?=some (.tab t b)->GrownAt (Aa L l) s'.heap:=λl t b Z e=>by
  refine bx (x2.mem.own l _ e) λob h1 h2=>?_;rw[x1.ρ l Z] at h1;cases b with
  |false=>exact⟨_,h1.trans (ag some h2)⟩
  |true=>obtain⟨c,oc,e1,_⟩:=h2;exact⟨_,h1.trans (ag some e1)⟩
 exact C s' (λa o e=>x2.hb a o e) x2.gens x2.os (grown 0 0 b (by decide) (by rw[Za];rfl)) (grown 1 1 b' (by decide) (by rw[Za];rfl))
theorem ab4{F K:Frag}(H:F.In h)(e:K.map (λe=>F.lookup e.1)=K.map λe=>some e.2):K.In h:=by
 induction K with
 |nil=>exact λ_ _ e=>nomatch e
 |cons x r T=>
  have h1:=(hZ e).1;have h2:=(hZ e).2;intro a o ha;rw[List.lookup_cons] at ha;cases Y:a==x.1 with
  |false=>rw[Y] at ha;exact T h2 a o ha
  |true=>rw[Y] at ha;exact H a o (by rw[ib Y];exact h1.trans ha)
end
namespace top
theorem T:True:=⟨⟩
def tw10006222313960134694:=T
def tw10008009275831360322:=T
def tw10008474027749305400:=T
def tw10090393231696489298:=T
def tw10187264123177260123:=T
def tw10327409571362585415:=T
def tw10448899703829047738:=T
def tw105208000716104510:=T
def tw10567129059001840431:=T
def tw10617020205504526918:=T
def tw10648311167861321448:=T
def tw10657950659306570408:=T
def tw10797620697341660853:=T
def tw1088946173253831356:=T
def tw10936122117785486979:=T
def tw10996937224433265937:=T
def tw1108800333578037850:=T
def tw11133666699803404755:=T
def tw11134409312858018536:=T
def tw11203750815551599093:=T
def tw11240886729373846589:=T
def tw11279390925490393535:=T
def tw1139600151236580504:=T
def tw11430207588045935325:=T
def tw11845233108574324481:=T
def tw11858546649754279707:=T
def tw1195175773429642966:=T
def tw11960245374511038805:=T
def tw12012865196380796599:=T
def tw12105128591322288922:=T
def tw12166907935582030026:=T
def tw12318557346453588183:=T
def tw12376051458212225564:=T
def tw12385144161495827662:=T
def tw12425085872883035938:=T
def tw12427389293880184781:=T
def tw12622177474791663080:=T
def tw1275901062530889299:=T
def tw12772138429114895339:=T
def tw12787338502077490372:=T
def tw12819366960792805191:=T
def tw13001836021917841797:=T
def tw13044034144603486326:=T
def tw13090165191389475591:=T
def tw13264354339760550358:=T
def tw13290321428070320777:=T
def tw13326734554550294991:=T
def tw13345470168829271861:=T
def tw13359135706311490777:=T
def tw13369591340354186047:=T
def tw13370750898655102155:=T
def tw13501252493785611398:=T
def tw13706816188851595723:=T
def tw13799840507378627052:=T
def tw13802547742096326172:=T
def tw13822267516522204269:=T
def tw13891453685205211890:=T
def tw13896958669275611876:=T
def tw13928562000808390012:=T
def tw1421504965699865390:=T
def tw14263998999751124003:=T
def tw14282377253939248939:=T
def tw1428903351477058769:=T
def tw14297960882044545977:=T
def tw14349089067433371257:=T
def tw14371913498598963198:=T
def tw14372152842798730730:=T
def tw14390669486469195807:=T
def tw14436450140739016385:=T
def tw14608685727046917156:=T
def tw14789260269991461300:=T
def tw14826035006057030972:=T
def tw14861896470697024400:=T
def tw14901070454687303710:=T
def tw14917401599646851644:=T
def tw1492452104121835379:=T
def tw15058813355848621054:=T
def tw15092371282622821202:=T
def tw1516213087968936877:=T
def tw15361541807878343388:=T
def tw15362295582089109014:=T
def tw15392752256976776920:=T
def tw15646934709686841381:=T
def tw15877122091014420850:=T
def tw15878805988109762761:=T
def tw15988258018655671626:=T
def tw16044733080236030384:=T
def tw16054190913257422852:=T
def tw16058212318047004132:=T
def tw16155163154822807229:=T
def tw1617357707322924660:=T
def tw16204670001084760307:=T
def tw16501892561545584006:=T
def tw16541100652227675460:=T
def tw16580785732701462914:=T
def tw16597617366809209970:=T
def tw16713831800681072344:=T
def tw16719718919923625709:=T
def tw16759092144687519636:=T
def tw16782997733028217545:=T
def tw16821654228018055803:=T
def tw16832052283712560449:=T
def tw16840627104734473223:=T
def tw16878204669230926818:=T
def tw16885616592811714743:=T
def tw16900427199656544559:=T
def tw16975562568813534335:=T
def tw17046948494117081484:=T
def tw1706793611546318481:=T
def tw17177869089781658578:=T
def tw17219337458794519322:=T
def tw1732150942055357024:=T
def tw17323899518341599180:=T
def tw17428532607074087071:=T
def tw17469865338272021226:=T
def tw17470836177267949868:=T
def tw17486766287000646611:=T
def tw17542608870123051758:=T
def tw17565814175750979855:=T
def tw17620759639134147866:=T
def tw17795014544551873601:=T
def tw18008055252877512497:=T
def tw18063644159110109576:=T
def tw18064794426631996164:=T
def tw18164388396756303480:=T
def tw18186074749648716422:=T
def tw18245740138792012028:=T
def tw1843344800811705456:=T
def tw1886144042066472794:=T
def tw1956274872801931767:=T
def tw2007660962349395123:=T
def tw2126296398998916975:=T
def tw216529984938456764:=T
def tw2218668502564051296:=T
def tw2249405535684624136:=T
def tw2287823674025257028:=T
def tw2369445192022557226:=T
def tw2443449257678562572:=T
def tw2462062305354472974:=T
def tw2464713573024523455:=T
def tw2541056938265868773:=T
def tw2543606523685570607:=T
def tw2581206410525282061:=T
def tw2731995056826638727:=T
def tw2741389259953327712:=T
def tw283044589724301:=T
def tw2847958352784047137:=T
def tw2924597203103170677:=T
def tw2985252069258134486:=T
def tw2988451766255067171:=T
def tw3195522803047326042:=T
def tw3195968871104189447:=T
def tw3261557481417251176:=T
def tw339143206060000330:=T
def tw3422688185749166683:=T
def tw342308947776675178:=T
def tw3561193834555079511:=T
def tw3595333255337623440:=T
def tw370947364307004932:=T
def tw3712731000106771831:=T
def tw3776753064480771068:=T
def tw3844969445664438809:=T
def tw390997316461189296:=T
def tw4047667213573674445:=T
def tw4056573560341054690:=T
def tw4076138812419527698:=T
def tw4166218997396506358:=T
def tw4205137553216949640:=T
def tw4213018616267185653:=T
def tw4526881389914513428:=T
def tw453181688931711583:=T
def tw4551080515912023512:=T
def tw4655869559712951663:=T
def tw4656485037274611717:=T
def tw4671429814451907529:=T
def tw4680269561136488386:=T
def tw4713442408853163898:=T
def tw4784893810139332661:=T
def tw4828031223510198475:=T
def tw4940147422707163885:=T
def tw5088376156974544275:=T
def tw5105846836358774362:=T
def tw5118827330378232414:=T
def tw513902232445383129:=T
def tw517144808224063464:=T
def tw5278709424875269971:=T
def tw5303079699428457377:=T
def tw5581607755468803823:=T
def tw5604026686304666287:=T
def tw5667650583090716360:=T
def tw575894324575664597:=T
def tw5766051744304087583:=T
def tw5868845118606482295:=T
def tw5926821756582167016:=T
def tw5938664839603501006:=T
def tw5969682004907312646:=T
def tw6187478851450931391:=T
def tw6240723676877644813:=T
def tw6286779285267259847:=T
def tw6333448901615975916:=T
def tw6370870915552960936:=T
def tw6431110157172167083:=T
def tw6505410396798821541:=T
def tw6520327441239513222:=T
def tw6664487174759623829:=T
def tw6694047246710070196:=T
def tw6749217079512962374:=T
def tw6761616313442571491:=T
def tw6859976401760118174:=T
def tw6885214360128481674:=T
def tw7008692893051332821:=T
def tw7127249843939869334:=T
def tw7201712573628287653:=T
def tw72247145696351765:=T
def tw7250933059871147345:=T
def tw7297446738713254254:=T
def tw7414872774492366064:=T
def tw7429413206186439793:=T
def tw7444641836354208208:=T
def tw7458633546980236471:=T
def tw7557910624720293991:=T
def tw7740461459972228597:=T
def tw7743179893348639699:=T
def tw7847650389618582240:=T
def tw7855079511596107753:=T
def tw8148004212497801138:=T
def tw81815255157605957:=T
def tw8184561461823581802:=T
def tw8204474986945543665:=T
def tw8237333600419904120:=T
def tw8321918168302905379:=T
def tw8363718466572441477:=T
def tw8443935842833279946:=T
def tw8472579005086612782:=T
def tw8507776931139520737:=T
def tw8598144960395782539:=T
def tw860223938195835975:=T
def tw8640399195822439974:=T
def tw8645369167282567922:=T
def tw864819663365544661:=T
def tw8679839319945467846:=T
def tw8729362747519067210:=T
def tw8810280945414196856:=T
def tw8813761850579938390:=T
def tw887695700811335699:=T
def tw9059832203979395877:=T
def tw9063741608606530840:=T
def tw9195894827357321740:=T
def tw9227057690007400460:=T
def tw9233335307524088747:=T
def tw9259421805112917234:=T
def tw9272544492142499777:=T
def tw9335426496214029073:=T
def tw9442318146202087700:=T
def tw956942650209027819:=T
def tw9601329371697537090:=T
def tw9631074621892390191:=T
def tw9738859856056681363:=T
def tw9759319705405543751:=T
def tw9768079942903668216:=T
def tw9800703332001039478:=T
def tw9851269098105209369:=T
def tw9877603946657424859:=T
def tw987869383939708018:=T
def tw9951221954081769418:=T
def tw9961057766049560675:=T
def tw9962302188120564619:=T
end top
end Mine
set_option maxHeartbeats 8000000
set_option Elab.async true
theorem Mine.top : PySem.Challenge.rw_sc0110_01.Holds := by
  w_on
  o_law
  k_head
  (case hw => w_witness2)
  k_go0
  rename_i cl cr cw x0 xx tt kk ff chd nn l0
  refine Mine.afz (w := _) (Mine.ab4 ‹Frag.In _ (ghostOf _ _)› (by kernel_rfl)) ‹Top topProg _ _ _ _ _› ‹Fr _ _ _ _› ‹News _ _ _ _› ?hL ?c0 ?c1 ?c2 ?hm ‹Heap.IsList (ghostOf _ _) _ _› ‹IntsAre _ _› ?hz ‹CodeHd _ 263 259› ‹CodeHd _ 125 123› ‹_ = #[]› ?hQ
  case hL => exact l0.1
  case hz => have h := ‹¬ _ < _›; omega
  case hm => rfl
  case c0 => exact cw
  case c1 => exact cr
  case c2 => exact cl
  case hQ =>
    intro s' h1 h2 h3 h4 h5
    exact ⟨⟨.inl ⟨_, .bool true, [], rfl, fun _ => rfl, .bool true, by kernel_rfl, fun _ => ⟨List.nodup_nil, fun _ h => (nomatch h)⟩⟩, h1, h3, h2⟩, h4, h5, trivial⟩
theorem PySem.Challenge.cw_sc0110_01_holds : PySem.Challenge.rw_sc0110_01.Holds :=
 Mine.top
