import PyProof.Rows.All
import Wide.All
import OpenK.AllK
import Wide.FinOn
import PySem.Challenge.RW_kt0036_04
set_option Elab.async false
set_option maxRecDepth 100000
set_option genSizeOf false
set_option genSizeOfSpec false
set_option genInjectivity false
set_option linter.unusedVariables false
set_option maxHeartbeats 8000000
open PySem PySem.W PyProof.Rows PySem.Calls
namespace Mine
section
abbrev c7F:=@Nat.lt_of_lt_of_le
abbrev c7G:=@Nat.le_refl
abbrev c7H:=@congrArg
abbrev c7I:=@Bool.false_ne_true
abbrev c7J:=@List.lookup_cons
abbrev c7K:=@if_pos
abbrev c7L:=@beq_iff_eq
abbrev c7M:=@if_neg
abbrev c7N:=@beq_eq_false_iff_ne
abbrev c7O:=@Nat.le_trans
abbrev c7P:=@Heap.get?_push_of_some
abbrev c7Q:=@Option.some.inj
abbrev c7R:=@beq_self_eq_true
abbrev c7S:=@Bool.and_eq_true
abbrev c7T:=@Nat.le_succ
abbrev c7U:=@Nat.le_of_ble_eq_true
abbrev c7V:=@sizeLine_eq
abbrev c7W:=@Nat.lt_of_le_of_lt
abbrev c7X:=@of_decide_eq_true
abbrev c7Y:=@wpAny_with_toks
abbrev c7Z:=@Heap.lt_size
abbrev c8a:=@Heap.get?_push_size
abbrev c8b:=@List.size_toArray
abbrev c8c:=@wpAny_holding
abbrev c8d:=@eq_of_beq
abbrev c8e:=@wpAny_bind
abbrev c8f:=@wpAny_pure
abbrev c8g:=@wpAny_truthy_bool
abbrev c8h:=@isSubtype_type
abbrev c8i:=@List.mapM_cons
abbrev c8j:=@Bool.eq_iff_iff
abbrev c8k:=@List.all_eq_true
abbrev c8l:=@List.mem_range
abbrev c8m:=@List.getD_eq_getElem?_getD
abbrev c8n:=@List.getElem?_eq_getElem
abbrev c8o:=@List.mem_cons
abbrev c8p:=@Nat.le_add_right
abbrev c8q:=@List.getElem?_toArray
abbrev c8r:=@Nat.lt_succ_self
abbrev c8s:=@decide_eq_false
abbrev c8t:=@Int.natCast_nonneg
abbrev c8u:=@List.length_map
abbrev c8v:=@List.length_range
abbrev c8w:=@Nat.le_of_eq
abbrev c8x:=@List.length_cons
abbrev c8y:=@List.sum_cons
abbrev c8z:=@Nat.zero_le
abbrev c8A:=@Nat.ne_of_lt
abbrev c8B:=@Heap.size_push
abbrev c8C:=@List.mem_singleton
abbrev c8D:=@List.getElem?_eq_some_iff
abbrev c8E:=@List.map_map
abbrev c8F:=@Nat.add_le_add_right
abbrev c8G:=@Nat.add_le_add_left
abbrev c8H:=@wpAny_mono
abbrev c8I:=@wpAny_Name
abbrev c8J:=@wpAny_standAt
abbrev c8K:=@Array.getElem?_eq_getElem
abbrev c8L:=@List.mem_cons_self
abbrev c8M:=@List.getElem?_map
abbrev c8N:=@Bool.and_eq_true_iff
abbrev c8O:=@List.mem_cons_of_mem
abbrev c8P:=@List.mem_append
abbrev c8Q:=@List.mem_append_right
abbrev c8R:=@List.mem_append_left
abbrev c8S:=@Bool.false_eq_true
abbrev c8T:=@List.append_nil
abbrev c8U:=@List.append_assoc
abbrev c8V:=@List.isEmpty_iff
abbrev c8W:=@Option.isNone_iff_eq_none
abbrev c8X:=@List.getElem?_eq_none
abbrev c8Y:=@List.length_append
abbrev c8Z:=@List.mem_of_getElem?
abbrev c9a:=@Nat.zero_add
abbrev c9b:=@Bool.or_eq_true_iff
abbrev c9c:=@decide_eq_true
abbrev c9d:=@PyProof.Rows.args_nil
abbrev c9e:=@PyProof.Rows.args_cons
abbrev c9f:=@List.contains_iff_mem
abbrev c9g:=@List.map_cons
abbrev c9h:=@List.foldl_cons
abbrev c9i:=@decide_eq_true_eq
abbrev c9j:=@typeLookup_type
abbrev c9k:=@builtinLookup_eq_fast
abbrev c9l:=@Array.getD_eq_getD_getElem?
abbrev c9m:=@KeyOrd.kle_refl
abbrev c9n:=@List.mem_map
abbrev c9o:=@List.map_congr_left
abbrev c9p:=@List.getElem?_range
abbrev c9q:=@List.filter_cons
abbrev c9r:=@List.filterMap_cons_some
abbrev c9s:=@List.length_eq_zero_iff
abbrev c9t:=@PySem.F.slot_list_getattribute
abbrev c9u:=@List.mem_filter
abbrev c9v:=@Int.mul_assoc
abbrev c9w:=@Int.mul_comm
abbrev c9x:=@Option.map_some
abbrev c9y:=@List.length_filter_le
abbrev c9z:=@List.map_append
abbrev c9A:=@List.length_singleton
abbrev c9B:=@List.flatMap_cons
abbrev c9C:=@List.flatMap_append
abbrev c9D:=@Int.natAbs_natCast
abbrev c9E:=@List.getElem?_append_left
section
inductive D where
 | none | bool (b:Bool) | int (i:Int) | str (s:Str) (g:Bool:=false) | bytes (b:Array UInt8)
 | list (l:List D) | tup (l:List D) | dict (kv:List (Str×Int)) | typ (n:String) | star
noncomputable def b7b (m:Str→Option Value)(kv:List (Str×Int)):Prop:=∀ k,(kv.lookup k=none→m k=none)∧∀ i,kv.lookup k=some i→∃ t,m k=some (.int i t)
structure RC where
 prog:Program
 w:World
 st:Addr
mutual
inductive Rep (C:RC) (B:Addr→Prop) (h:Heap) (n:Nat):Value→D→Prop
 | none:Rep C B h n .none .none
 | bool (b:Bool):Rep C B h n (.bool b) (.bool b)
 | int (i:Int) (t:Tok):Rep C B h n (.int i t) (.int i)
 | str (x:Str) (t:Tok) (g:Bool):(g=true→t≠0∧t<n)→Rep C B h n (.str x t) (.str x g)
 | bytes (b:Array UInt8) (t:Tok):Rep C B h n (.bytes b t) (.bytes b)
 | typ (nm:String):Rep C B h n (.type nm) (.typ nm)
 | list {a:Addr} {vs:List Value} {ds:List D}:¬ B a→h.IsList a vs.toArray→RepL C B h n vs ds→Rep C B h n (.ref a) (.list ds)
 | tup {a:Addr} {vs:List Value} {ds:List D}:¬ B a→IsTup h a vs.toArray→RepL C B h n vs ds→Rep C B h n (.ref a) (.tup ds)
 | dict {a:Addr} {m:Str→Option Value} {kv:List (Str×Int)}:¬ B a→Heap.MapOf (PySem.strKind C.prog C.w) h a m→b7b m kv→Rep C B h n (.ref a) (.dict kv)
 | star:¬ B C.st→h.get? C.st=some { cls:=.type "object",data:=.plain }→Rep C B h n (.ref C.st) .star
inductive RepL (C:RC) (B:Addr→Prop) (h:Heap) (n:Nat):List Value→List D→Prop
 | nil:RepL C B h n [] []
 | cons {v:Value} {vs:List Value} {d:D} {ds:List D}:Rep C B h n v d→RepL C B h n vs ds→RepL C B h n (v :: vs) (d :: ds)
end
section
variable {C:RC}{B B':Addr→Prop}{h h':Heap}{n n':Nat}{v:Value}{d:D}{vs ws:List Value}{ds es:List D}
noncomputable def c5y (C:RC)(B:Addr→Prop)(h:Heap)(n:Nat)(v:Value):D→Prop
 | .none=>v=.none
 | .bool b=>v=.bool b
 | .int i=>∃ t,v=.int i t
 | .str x g=>∃ t,v=.str x t∧(g=true→t≠0∧t<n)
 | .bytes b=>∃ t,v=.bytes b t
 | .typ nm=>v=.type nm
 | .list ds=>∃ a vs,v=.ref a∧¬ B a∧h.IsList a vs.toArray∧RepL C B h n vs ds
 | .tup ds=>∃ a vs,v=.ref a∧¬ B a∧IsTup h a vs.toArray∧RepL C B h n vs ds
 | .dict kv=>∃ a m,v=.ref a∧¬ B a∧Heap.MapOf (PySem.strKind C.prog C.w) h a m∧b7b m kv
 | .star=>v=.ref C.st∧¬ B C.st∧h.get? C.st=some { cls:=.type "object",data:=.plain }
theorem Rep.view (r:Rep C B h n v d):c5y C B h n v d:=by
 cases r with
 | none=>exact rfl
 | bool=>exact rfl
 | int i t=>exact⟨t,rfl⟩
 | str x t g q=>exact⟨t,rfl,q⟩
 | bytes b t=>exact⟨t,rfl⟩
 | typ=>exact rfl
 | list a b c=>exact⟨_,_,rfl,a,b,c⟩
 | tup a b c=>exact⟨_,_,rfl,a,b,c⟩
 | dict a b c=>exact⟨_,_,rfl,a,b,c⟩
 | star a b=>exact⟨rfl,a,b⟩
noncomputable def c5z (C:RC)(B:Addr→Prop)(h:Heap)(n:Nat)(vs:List Value):List D→Prop
 | []=>vs=[]
 | d :: ds=>∃ v r,vs=v :: r∧Rep C B h n v d∧RepL C B h n r ds
theorem RepL.view (r:RepL C B h n vs ds):c5z C B h n vs ds:=by
 cases r with
 | nil=>exact rfl
 | cons a r=>exact⟨_,_,rfl,a,r⟩
theorem a6b {prog:Program}{w:World}{K:Type}[DecidableEq K]{knd:PySem.KeyKind prog w K}{a:Addr}{m:K→Option Value}(x:Heap.MapOf knd h a m)
  (e:∀ o,h.get? a=some o→h'.get? a=some o):Heap.MapOf knd h' a m:=by
 obtain⟨o,es,ep,e1,r⟩:=x
 exact⟨o,es,ep,e o e1,r⟩
theorem a3q {a:Addr}{m:Array Value}(x:h.IsList a m)(e:∀ o,h.get? a=some o→h'.get? a=some o):h'.IsList a m:=
 x.elim fun o q=>⟨o,e o q.1,q.2⟩
theorem a8b {a:Addr}{m:Array Value}(x:IsTup h a m)(e:∀ o,h.get? a=some o→h'.get? a=some o):IsTup h' a m:=
 x.elim fun o q=>⟨o,e o q.1,q.2⟩
theorem b0E {prog:Program}{w:World}{K:Type}[DecidableEq K]{knd:PySem.KeyKind prog w K}{a:Addr}{m:K→Option Value}(x:Heap.MapOf knd h a m):∃ o,h.get? a=some o:=by
 obtain⟨o,_,_,e,_⟩:=x
 exact⟨o,e⟩
structure Chg (B B':Addr→Prop)(h h':Heap)(n n':Nat):Prop where
 toks:n≤n'
 keep:∀ b o,¬ B b→h.get? b=some o→h'.get? b=some o
 bar:∀ b o,¬ B b→h.get? b=some o→¬ B' b
theorem Chg.list {a:Addr}(k:Chg B B' h h' n n')(hb:¬ B a)(hl:h.IsList a vs.toArray)(r:RepL C B' h' n' vs ds):Rep C B' h' n' (.ref a) (.list ds):=
 .list (hl.elim fun o q=>k.bar a o hb q.1) (a3q hl fun o=>k.keep a o hb) r
theorem Chg.tup {a:Addr}(k:Chg B B' h h' n n')(hb:¬ B a)(hl:IsTup h a vs.toArray)(r:RepL C B' h' n' vs ds):Rep C B' h' n' (.ref a) (.tup ds):=
 .tup (hl.elim fun o q=>k.bar a o hb q.1) (a8b hl fun o=>k.keep a o hb) r
theorem Rep.chg (k:Chg B B' h h' n n')(r:Rep C B h n v d):Rep C B' h' n' v d:=
 Rep.rec (motive_1:=fun v d _=>Rep C B' h' n' v d) (motive_2:=fun vs ds _=>RepL C B' h' n' vs ds)
  .none .bool .int (fun x t g q=>.str x t g fun e=>⟨(q e).1,c7F (q e).2 k.toks⟩) .bytes .typ
  (fun hb hl _ r=>k.list hb hl r) (fun hb hl _ r=>k.tup hb hl r)
  (fun hb hm hd=>.dict ((b0E hm).elim fun o=>k.bar _ o hb) (a6b hm fun o=>k.keep _ o hb) hd)
  (fun hb e=>.star (k.bar _ _ hb e) (k.keep _ _ hb e)) .nil (fun _ _ a r=>.cons a r) r
theorem RepL.chg (k:Chg B B' h h' n n')(r:RepL C B h n vs ds):RepL C B' h' n' vs ds:=by
 induction ds generalizing vs with
 | nil=>cases r.view;exact .nil
 | cons d ds ih=>
  obtain⟨v,q,rfl,a,r⟩:=r.view
  exact .cons (a.chg k) (ih r)
theorem Rep.change (hn:n≤n')(k:∀ b o,¬ B b→h.get? b=some o→h'.get? b=some o)(m:∀ b o,¬ B b→h.get? b=some o→¬ B' b)(r:Rep C B h n v d):Rep C B' h' n' v d:=r.chg ⟨hn,k,m⟩
theorem RepL.change (hn:n≤n')(k:∀ b o,¬ B b→h.get? b=some o→h'.get? b=some o)(m:∀ b o,¬ B b→h.get? b=some o→¬ B' b)(r:RepL C B h n vs ds):RepL C B' h' n' vs ds:=r.chg ⟨hn,k,m⟩
theorem Rep.keep (x:Rep C B h n v d)(hn:n≤n')(k:∀ b o,¬ B b→h.get? b=some o→h'.get? b=some o):Rep C B h' n' v d:=x.chg ⟨hn,k,fun _ _ hb _=>hb⟩
theorem RepL.keep (x:RepL C B h n vs ds)(hn:n≤n')(k:∀ b o,¬ B b→h.get? b=some o→h'.get? b=some o):RepL C B h' n' vs ds:=x.chg ⟨hn,k,fun _ _ hb _=>hb⟩
theorem Rep.weaken (x:Rep C B h n v d)(m:∀ b,B' b→B b):Rep C B' h n v d:=x.chg ⟨c7G n,fun _ _ _ e=>e,fun _ _ hb _ q=>hb (m _ q)⟩
theorem RepL.weaken (x:RepL C B h n vs ds)(m:∀ b,B' b→B b):RepL C B' h n vs ds:=x.chg ⟨c7G n,fun _ _ _ e=>e,fun _ _ hb _ q=>hb (m _ q)⟩
theorem RepL.length (r:RepL C B h n vs ds):vs.length=ds.length:=by
 induction ds generalizing vs with
 | nil=>cases r.view;rfl
 | cons d ds ih=>
  obtain⟨v,q,rfl,_,r⟩:=r.view
  exact c7H (·+1) (ih r)
theorem RepL.get (r:RepL C B h n vs ds)(i:Nat)(d:D)(e:ds[i]?=some d):∃ v,vs[i]?=some v∧Rep C B h n v d:=by
 induction ds generalizing vs i with
 | nil=>cases e
 | cons d' ds ih=>
  obtain⟨v,q,rfl,a,r⟩:=r.view
  cases i with
  | zero=>cases e;exact⟨v,rfl,a⟩
  | succ i=>exact ih r i e
theorem RepL.append (r:RepL C B h n vs ds)(q:RepL C B h n ws es):RepL C B h n (vs++ws) (ds++es):=by
 induction ds generalizing vs with
 | nil=>cases r.view;exact q
 | cons d ds ih=>
  obtain⟨v,_,rfl,a,r⟩:=r.view
  exact .cons a (ih r)
theorem RepL.snoc (a:RepL C B h n vs ds)(b:Rep C B h n v d):RepL C B h n (vs++[v]) (ds++[d]):=a.append (.cons b .nil)
inductive RepT (C:RC) (B:Addr→Prop) (h:Heap) (n:Nat):Value→D→Prop
 | deep {v:Value} {d:D}:Rep C B h n v d→RepT C B h n v d
 | list {a:Addr} {vs:List Value} {ds:List D}:h.IsList a vs.toArray→RepL C B h n vs ds→RepT C B h n (.ref a) (.list ds)
 | dict {a:Addr} {m:Str→Option Value} {kv:List (Str×Int)}:Heap.MapOf (PySem.strKind C.prog C.w) h a m→b7b m kv→RepT C B h n (.ref a) (.dict kv)
theorem RepT.keep (x:RepT C B h n v d)(hn:n≤n')(k:∀ b o,h.get? b=some o→h'.get? b=some o):RepT C B h' n' v d:=by
 cases x with
 | deep r=>exact .deep (r.keep hn fun b o _=>k b o)
 | list hl r=>exact .list (a3q hl fun o=>k _ o) (r.keep hn fun b o _=>k b o)
 | dict hm hd=>exact .dict (a6b hm fun o=>k _ o) hd
noncomputable def D.deep:D→Bool
 | .list _=>false
 | .dict _=>false
 | _=>true
theorem RepT.rep (x:RepT C B h n v d)(e:d.deep=true):Rep C B h n v d:=by
 cases x with
 | deep r=>exact r
 | list _ _=>exact absurd e c7I
 | dict _ _=>exact absurd e c7I
noncomputable def c7r (C:RC)(B:Addr→Prop)(h:Heap)(n:Nat)(v:Value):D→Prop
 | .list ds=>∃ a vs,v=.ref a∧h.IsList a vs.toArray∧RepL C B h n vs ds
 | .dict kv=>∃ a m,v=.ref a∧Heap.MapOf (PySem.strKind C.prog C.w) h a m∧b7b m kv
 | _=>True
theorem RepT.top (x:RepT C B h n v d):c7r C B h n v d:=by
 cases x with
 | deep r=>
  cases d with
  | list ds=>obtain⟨a,vs,e,_,q⟩:=r.view;exact⟨a,vs,e,q⟩
  | dict kv=>obtain⟨a,m,e,_,q⟩:=r.view;exact⟨a,m,e,q⟩
  | _=>exact trivial
 | list hl r=>exact⟨_,_,rfl,hl,r⟩
 | dict hm hd=>exact⟨_,_,rfl,hm,hd⟩
theorem RepT.asList (x:RepT C B h n v (.list ds)):∃ a vs,v=.ref a∧h.IsList a vs.toArray∧RepL C B h n vs ds:=x.top
theorem RepT.asDict {kv:List (Str×Int)}(x:RepT C B h n v (.dict kv)):∃ a m,v=.ref a∧Heap.MapOf (PySem.strKind C.prog C.w) h a m∧b7b m kv:=x.top
theorem RepT.asTup (x:RepT C B h n v (.tup ds)):∃ a vs,v=.ref a∧¬ B a∧IsTup h a vs.toArray∧RepL C B h n vs ds:=(x.rep rfl).view
theorem RepT.asInt {i:Int}(x:RepT C B h n v (.int i)):∃ t,v=.int i t:=(x.rep rfl).view
theorem RepT.asStr {i:Str}{g:Bool}(x:RepT C B h n v (.str i g)):∃ t,v=.str i t∧(g=true→t≠0∧t<n):=(x.rep rfl).view
theorem RepT.asBytes {i:Array UInt8}(x:RepT C B h n v (.bytes i)):∃ t,v=.bytes i t:=(x.rep rfl).view
theorem RepT.asBool {i:Bool}(x:RepT C B h n v (.bool i)):v=.bool i:=(x.rep rfl).view
theorem RepT.asNone (x:RepT C B h n v .none):v=.none:=(x.rep rfl).view
theorem RepT.asTyp {nm:String}(x:RepT C B h n v (.typ nm)):v=.type nm:=(x.rep rfl).view
end
end
section
inductive Slot where
 | val (d:D) | own (l:List D) | ownD (kv:List (Str×Int)) | meth (x:Nat)
noncomputable abbrev Store:=List (Nat×Slot)
noncomputable def Store.get (σ:Store)(x:Nat):Option Slot:=σ.lookup x
noncomputable def Store.set:Store→Nat→Slot→Store
 | [],x,s=>[(x,s)]
 | p :: r,x,s=>bif x==p.1 then (p.1,s) :: r else p :: Store.set r x s
theorem a0R (p:Nat×Slot)(r:Store)(y:Nat):Store.get (p :: r) y=bif y==p.1 then some p.2 else Store.get r y:=by
 show List.lookup y ((p.1,p.2) :: r) = _
 rw [c7J]
 cases y==p.1 <;> rfl
theorem Store.get_set (σ:Store)(x y:Nat)(s:Slot):(σ.set x s).get y=if y=x then some s else σ.get y:=by
 induction σ with
 | nil=>
  show Store.get ((x,s) :: []) y = _
  rw [a0R]
  by_cases h:y=x
  ·rw [c7K h,c7L.mpr h];rfl
  ·rw [c7M h,c7N.mpr h];rfl
 | cons p r ih=>
  show Store.get (bif x==p.1 then (p.1,s) :: r else p :: Store.set r x s) y = _
  by_cases hx:x=p.1
  ·rw [c7L.mpr hx,cond_true,a0R,a0R,← hx]
   by_cases h:y=x
   ·rw [c7K h,c7L.mpr h];rfl
   ·rw [c7M h,c7N.mpr h];rfl
  ·rw [c7N.mpr hx,cond_false,a0R,a0R,ih]
   by_cases h:y=x
   ·rw [c7K h,c7K h,c7N.mpr (h ▸ hx)];rfl
   ·rw [c7M h,c7M h]
noncomputable def Slot.isOwn:Slot→Bool
 | .val _=>false
 | .own _=>true
 | .ownD _=>true
 | .meth _=>false
noncomputable def Store.isOwn (σ:Store)(x:Nat):Bool:=((σ.get x).map Slot.isOwn).getD false
theorem a1e {σ:Store}{x:Nat}{sl:Slot}(h:σ.get x=some sl):σ.isOwn x=sl.isOwn:=by
 unfold Store.isOwn
 rw [h]
 rfl
theorem a2K {σ:Store}{x:Nat}(h:σ.isOwn x=true):∃ sl,σ.get x=some sl∧sl.isOwn=true:=by
 unfold Store.isOwn at h
 cases e:σ.get x with
 | none=>rw [e] at h;exact absurd h c7I
 | some sl=>rw [e] at h;exact⟨sl,rfl,h⟩
theorem a4z {σ:Store}{x y:Nat}{sl:Slot}:(σ.set x sl).isOwn y=if y=x then sl.isOwn else σ.isOwn y:=by
 unfold Store.isOwn
 rw [Store.get_set]
 by_cases q:y=x
 ·rw [c7K q,c7K q];rfl
 ·rw [c7M q,c7M q]
theorem a5l {σ:Store}{x y:Nat}{sl:Slot}(h:(σ.set x sl).isOwn y=true):(y=x∧sl.isOwn=true)∨(y≠x∧σ.isOwn y=true):=by
 rw [a4z] at h
 by_cases q:y=x
 ·rw [c7K q] at h;exact .inl ⟨q,h⟩
 ·rw [c7M q] at h;exact .inr ⟨q,h⟩
theorem a2l {σ:Store}{x y:Nat}{sl:Slot}(hs:sl.isOwn=false)(h:(σ.set x sl).isOwn y=true):y≠x∧σ.isOwn y=true:=
 (a5l h).elim (fun q=>absurd (q.2.symm.trans hs) (fun e=>c7I e.symm)) id
noncomputable def CodeAt (h:Heap)(c:Addr)(q:Str):Prop:=∃ o vs t,h.get? c=some o∧o.cls=.type "code"∧o.data=.fields vs∧vs[1]?=some (.str q t)
theorem CodeAt.rec' {h:Heap}{c:Addr}{q:Str}(x:CodeAt h c q):h.CodeRec (.ref c) q:=by
 obtain⟨o,vs,t,h1,_,h3,h4⟩:=x
 exact⟨c,o,vs,t,rfl,h1,h3,h4⟩
noncomputable def a7q (col:Int):Str:=if col==37 then "<genexpr>" else "<lambda>"
inductive LamTab (h:Heap) (q:Str):List Value→Prop
 | nil:LamTab h q []
 | cons (line col:Int) (t u:Tok) (c':Addr) (r:List Value):CodeAt h c' (q++a7q col)→LamTab h q r→LamTab h q (.int line t :: .int col u :: .ref c' :: r)
structure GC where
 prog:Program
 w:World
 g:Heap
 T:List Addr
 tabOk:Heap→Prop
 tabGet:∀ h,tabOk h→∀ t∈T,∃ ps,h.get? t=some (tabObj ps)
 mono:∀ h h',(∀ b o vs,o.data=.fields vs→(o.cls=.none∨o.cls=.type "code")→h.get? b=some o→h'.get? b=some o)→tabOk h→tabOk h'
 tabNew:∀ t∈T,g.get? t=none
 nm:Nat→Str
 nmInj:∀ i j,nm i=nm j→i=j
 mg:Str→Option Value
 mb:Str→Option Value
 gns:g.Ns mainGlobals mg
 bns:g.Ns builtinsNs mb
 lim:g.NoLimit
 lamC:Bool→Addr
 lamP:Bool→Addr
 lamQ:Bool→Str
 lamIn:∀ i,lamP i∈T
 lamAt:∀ i h,tabOk h→CodeHd h (lamC i) (lamP i)∧∃ ps,h.get? (lamP i)=some (tabObj ps)∧LamTab h (lamQ i) ps.toList
 lamPut:∀ i h h' ps c' pos,tabOk h→h.get? (lamP i)=some (tabObj ps)→Heap.ExtBut (lamP i) h h'→h'.get? (lamP i)=some (tabObj (ps++#[rawInt (pos:Pos).line,rawInt pos.col,.ref c'])) →
  CodeAt h' c' (lamQ i++a7q pos.col)→tabOk h'
 bmain:∀ i,g.BuiltinsAt mg (lamP i)
noncomputable def a4A (sc:List (Str×NameKind)):Option Bool:=
 if sc.lookup ("told":Str)==some .cell&&(sc.lookup ("rows":Str)).isSome&&(sc.lookup ("last":Str)).isSome then some false
 else if (sc.lookup ("chunks":Str)).isSome&&(sc.lookup ("stuff":Str)).isSome&&(sc.lookup ("STAR":Str)).isSome then some true
 else none
structure GSt (G:GC)(s:Shared):Prop where
 tok:1≤s.toks
 base:∀ b o,G.g.get? b=some o→s.heap.get? b=some o
 tab:G.tabOk s.heap
 bare:s.gens=#[]
structure Kp (G:GC)(s s':Shared):Prop where
 heap:∀ b o,b ∉ G.T→s.heap.get? b=some o→s'.heap.get? b=some o
 os:s'.os=s.os
 toks:s.toks≤s'.toks
 gens:∀ (i:Nat) (x:GenState),s.gens[i]?=some x→s'.gens[i]?=some x
theorem Kp.refl {G:GC}{s:Shared}:Kp G s s:=⟨fun _ _ _ e=>e,rfl,c7G _,fun _ _ e=>e⟩
theorem Kp.trans {G:GC}{s s₁ s₂:Shared}(a:Kp G s s₁)(b:Kp G s₁ s₂):Kp G s s₂:=
 ⟨fun x o n e=>b.heap x o n (a.heap x o n e),b.os.trans a.os,c7O a.toks b.toks,fun i x e=>b.gens i x (a.gens i x e)⟩
structure Kf (s s':Shared):Prop where
 heap:∀ b o,s.heap.get? b=some o→s'.heap.get? b=some o
 os:s'.os=s.os
 toks:s.toks≤s'.toks
 gens:s'.gens=s.gens
theorem Kf.refl {s:Shared}:Kf s s:=⟨fun _ _ e=>e,rfl,c7G _,rfl⟩
theorem Kf.trans {s s₁ s₂:Shared}(a:Kf s s₁)(b:Kf s₁ s₂):Kf s s₂:=⟨fun x o e=>b.heap x o (a.heap x o e),b.os.trans a.os,c7O a.toks b.toks,b.gens.trans a.gens⟩
theorem Kf.kp {G:GC}{s s':Shared}(k:Kf s s'):Kp G s s':=⟨fun b o _ e=>k.heap b o e,k.os,k.toks,fun i x e=>(c7H (·[i]?) k.gens).trans e⟩
theorem Kf.gst {G:GC}{s s':Shared}(k:Kf s s')(g:GSt G s):GSt G s':=
 ⟨c7O g.tok k.toks,fun b o e=>k.heap b o (g.base b o e),G.mono _ _ (fun b o _ _ _ e=>k.heap b o e) g.tab,k.gens.trans g.bare⟩
theorem Kf.mk' {s:Shared}{h':Heap}{tk:Nat}(k:∀ b o,s.heap.get? b=some o→h'.get? b=some o)(ht:s.toks≤tk):Kf s { s with heap:=h',toks:=tk }:=⟨k,rfl,ht,rfl⟩
theorem Kf.tok {s:Shared}{tk:Nat}(h:s.toks≤tk):Kf s { s with toks:=tk }:=⟨fun _ _ e=>e,rfl,h,rfl⟩
theorem Kf.push {s:Shared}{o:Obj}{tk:Nat}(h:s.toks≤tk):Kf s { s with heap:=s.heap.push o,toks:=tk }:=⟨fun _ _ e=>c7P _ e,rfl,h,rfl⟩
theorem Kp.kf {G:GC}{s s₁ s':Shared}(a:Kp G s s₁)(b:Kf s₁ s'):Kp G s s':=a.trans b.kp
structure Ctx where
 A:Around
 env:Env
 st:Addr
 bad:Addr→Prop
noncomputable def Ctx.bar (Γ:Ctx)(st:Addr)(bad:Addr→Prop):Ctx:=⟨Γ.A,Γ.env,st,bad⟩
noncomputable def rc (G:GC)(Γ:Ctx):RC:=⟨G.prog,G.w,Γ.st⟩
noncomputable def AOk (lvl:Nat)(A:Around):Prop:=A.handled=none∧A.depth+lvl+20<recursionLimit∧A.units+8*lvl+200<cLine
noncomputable def a0k (Γ:Ctx)(σ:Store)(oa:Nat→Addr)(a:Addr):Prop:=Γ.bad a∨∃ x,σ.isOwn x=true∧a=oa x
inductive KV:List (Str×Value)→List (Str×Int)→Prop
 | nil:KV [] []
 | cons (k:Str) (i:Int) (t:Tok) {a b}:KV a b→KV ((k,.int i t) :: a) ((k,i) :: b)
noncomputable def Flat (o:Obj):Prop:=∀ vs,o.data≠.fields vs
noncomputable def OwnDict (G:GC)(h:Heap)(a:Addr)(kv:List (Str×Int)):Prop:=∃ kvs,Heap.DictOf (PySem.strKind G.prog G.w) h a kvs∧KV kvs kv
theorem a1W {o:Obj}{d:Data}(h:o.data=d)(hd:∀ vs,d≠.fields vs):Flat o:=fun vs q=>hd vs (h.symm.trans q)
theorem OwnDict.at {G:GC}{h h':Heap}{a:Addr}{kv:List (Str×Int)}(x:OwnDict G h a kv)(e:∀ o,Flat o→h.get? a=some o→h'.get? a=some o):OwnDict G h' a kv:=by
 obtain⟨kvs,⟨o,es,ep,ho,r1,r2,r⟩,q⟩:=x
 exact⟨kvs,⟨o,es,ep,e o (a1W r2 nofun) ho,r1,r2,r⟩,q⟩
theorem OwnDict.obj {G:GC}{h:Heap}{a:Addr}{kv:List (Str×Int)}(x:OwnDict G h a kv):∃ o,h.get? a=some o∧Flat o:=by
 obtain⟨_,⟨o,_,_,ho,_,hd,_⟩,_⟩:=x
 exact⟨o,ho,a1W hd nofun⟩
noncomputable def a4i (a:Addr):Obj:={ cls:=.type "builtin_function_or_method",data:=.fields #[.builtin "list.append",.ref a] }
noncomputable abbrev RD (G:GC) (Γ:Ctx) (σ:Store) (oa:Nat→Addr) (s:Shared) (v:Value) (d:D):Prop:=Rep (rc G Γ) (a0k Γ σ oa) s.heap s.toks v d
noncomputable abbrev RT (G:GC) (Γ:Ctx) (σ:Store) (oa:Nat→Addr) (s:Shared) (v:Value) (d:D):Prop:=RepT (rc G Γ) (a0k Γ σ oa) s.heap s.toks v d
noncomputable abbrev RL (G:GC) (Γ:Ctx) (σ:Store) (oa:Nat→Addr) (s:Shared) (vs:List Value) (ds:List D):Prop:=RepL (rc G Γ) (a0k Γ σ oa) s.heap s.toks vs ds
noncomputable def SlotV (G:GC)(Γ:Ctx)(σ:Store)(oa:Nat→Addr)(h:Heap)(n:Nat)(x:Nat)(v:Value):Slot→Prop
 | .val d=>Rep (rc G Γ) (a0k Γ σ oa) h n v d
 | .own l=>v=.ref (oa x)∧∃ vs:List Value,h.PlainList (oa x) vs.toArray∧RepL (rc G Γ) (a0k Γ σ oa) h n vs l
 | .ownD kv=>v=.ref (oa x)∧OwnDict G h (oa x) kv
 | .meth y=>σ.isOwn y=true∧∃ a,v=.ref a∧¬ a0k Γ σ oa a∧h.get? a=some (a4i (oa y))
theorem SlotV.eqOwn {G:GC}{Γ:Ctx}{σ:Store}{oa:Nat→Addr}{h:Heap}{n x:Nat}{v:Value}{sl:Slot}(S:SlotV G Γ σ oa h n x v sl)(hs:sl.isOwn=true):v=.ref (oa x):=by
 cases sl with
 | own l=>exact S.1
 | ownD kv=>exact S.1
 | val d=>exact absurd hs c7I
 | meth z=>exact absurd hs c7I
theorem SlotV.flat {G:GC}{Γ:Ctx}{σ:Store}{oa:Nat→Addr}{h:Heap}{n x:Nat}{v:Value}{sl:Slot}(S:SlotV G Γ σ oa h n x v sl)(hs:sl.isOwn=true):∃ o,h.get? (oa x)=some o∧Flat o:=by
 cases sl with
 | own l=>
  obtain⟨_,vs,⟨n,hp⟩,_⟩:=S
  exact⟨_,hp,nofun⟩
 | ownD kv=>exact S.2.obj
 | val d=>exact absurd hs c7I
 | meth z=>exact absurd hs c7I
noncomputable abbrev a0h:=List (Str×NameKind)
structure FrS (G:GC)(A:Around)(env:Env)(lvl:Nat)(sc:a0h):Prop where
 aok:AOk lvl A
 kind:env.scope.kind=.function
 names:env.scope.names=sc
 code:∀ i,a4A sc=some i→env.code=.ref (G.lamC i)∧env.qual=G.lamQ i
 globals:env.globals=mainGlobals
 builtins:env.builtins=builtinsNs
 newL:G.g.get? env.locals=none
 newC:∀ x c,env.cells.lookup x=some c→G.g.get? c=none
 cellInj:∀ x y c,env.cells.lookup x=some c→env.cells.lookup y=some c→x=y
inductive Sits (env:Env) (sc:a0h) (h:Heap) (m:Str→Option Value) (x:Str) (v:Value):Prop
 | loc (h1:sc.lookup x=some .local) (h2:m x=some v)
 | cel (c:Addr) (h1:sc.lookup x=some .cell∨sc.lookup x=some .free) (h2:env.cells.lookup x=some c) (h3:h.IsCell c (some v))
structure St (G:GC)(Γ:Ctx)(lvl:Nat)(sc:a0h)(σ:Store)(oa:Nat→Addr)(s:Shared):Prop extends FrS G Γ.A Γ.env lvl sc where
 gst:GSt G s
 badT:∀ t∈G.T,Γ.bad t
 badL:Γ.bad Γ.env.locals
 badC:∀ x c,Γ.env.cells.lookup x=some c→Γ.bad c
 own:∀ x,σ.isOwn x=true→G.g.get? (oa x)=none∧¬ Γ.bad (oa x)
 ownInj:∀ x y,σ.isOwn x=true→σ.isOwn y=true→oa x=oa y→x=y
 alloc:∀ a,a0k Γ σ oa a→∃ o,s.heap.get? a=some o
 cellAt:∀ x,sc.lookup x=some .cell∨sc.lookup x=some .free→∃ c v,Γ.env.cells.lookup x=some c∧s.heap.IsCell c v
 slots:∃ m,s.heap.Ns Γ.env.locals m∧∀ x sl,σ.get x=some sl→∃ v,Sits Γ.env sc s.heap m (G.nm x) v∧SlotV G Γ σ oa s.heap s.toks x v sl
noncomputable def Mut (Γ:Ctx)(σ:Store)(oa:Nat→Addr)(b:Addr):Prop:=
 b=Γ.env.locals∨(∃ x,Γ.env.cells.lookup x=some b)∨∃ x,σ.isOwn x=true∧b=oa x
section
variable {G:GC}{Γ Γ':Ctx}{lvl:Nat}{sc:a0h}{σ σ':Store}{oa oa':Nat→Addr}{s s':Shared}
theorem St.ownBad (S:St G Γ lvl sc σ oa s)(x:Nat)(h:σ.isOwn x=true):¬ Γ.bad (oa x):=(S.own x h).2
theorem St.newO (S:St G Γ lvl sc σ oa s)(x:Nat)(h:σ.isOwn x=true):G.g.get? (oa x)=none:=(S.own x h).1
theorem Sits.keep {env:Env}{h h':Heap}{m:Str→Option Value}{x:Str}{v:Value}(S:Sits env sc h m x v)(k:∀ c o,env.cells.lookup x=some c→Flat o→h.get? c=some o→h'.get? c=some o):Sits env sc h' m x v:=by
 cases S with
 | loc h1 h2=>exact .loc h1 h2
 | cel c h1 h2 h3=>
  refine h3.elim (clear% h3;fun o Z1=>Z1.elim (fun e d=>?_))
  exact .cel c h1 h2 ⟨o,k c o h2 (a1W d nofun) e,d⟩
theorem SlotV.chg {h h':Heap}{n n' x:Nat}{v:Value}{sl:Slot}(hst:Γ'.st=Γ.st)(k:Chg (a0k Γ σ oa) (a0k Γ' σ' oa') h h' n n')
  (ko:sl.isOwn=true→oa' x=oa x∧∀ o,Flat o→h.get? (oa x)=some o→h'.get? (oa x)=some o) (km:∀ z,sl=.meth z→σ.isOwn z=true→σ'.isOwn z=true∧oa' z=oa z) (S:SlotV G Γ σ oa h n x v sl):SlotV G Γ' σ' oa' h' n' x v sl:=by
 have er:rc G Γ'=rc G Γ:=c7H (RC.mk G.prog G.w) hst
 cases sl with
 | val d=>show Rep (rc G Γ') _ _ _ _ _;rw [er];exact Rep.chg k S
 | own l=>
  obtain⟨e,vs,⟨n,hp⟩,r⟩:=S
  refine (ko rfl).elim fun k1 k2=>?_
  refine⟨k1 ▸ e,vs,⟨n,k1 ▸ k2 _ nofun hp⟩,?_⟩
  rw [er]
  exact r.chg k
 | ownD kv=>
  refine (ko rfl).elim fun k1 k2=>?_
  exact⟨k1 ▸ S.1,k1 ▸ S.2.at k2⟩
 | meth z=>
  obtain⟨ho,a,e,hb,hg⟩:=S
  refine (km z rfl ho).elim fun k1 k2=>?_
  exact⟨k1,a,e,k.bar _ _ hb hg,k2 ▸ k.keep _ _ hb hg⟩
theorem St.move (S:St G Γ lvl sc σ oa s)(st:Addr)(bad':Addr→Prop)(g:GSt G s')(bT:∀ t∈G.T,bad' t)(bL:bad' Γ.env.locals)(bC:∀ x c,Γ.env.cells.lookup x=some c→bad' c)
  (ow:∀ x,σ'.isOwn x=true→G.g.get? (oa' x)=none∧¬ bad' (oa' x)) (inj:∀ x y,σ'.isOwn x=true→σ'.isOwn y=true→oa' x=oa' y→x=y)
  (al:∀ a,a0k (Γ.bar st bad') σ' oa' a→∃ o,s'.heap.get? a=some o)
  (kF:∀ b o,b=Γ.env.locals∨(∃ x,Γ.env.cells.lookup x=some b)→Flat o→s.heap.get? b=some o→s'.heap.get? b=some o)
  (sl:∀ x q,σ'.get x=some q→∃ p,σ.get x=some p∧∀ v,SlotV G Γ σ oa s.heap s.toks x v p→SlotV G (Γ.bar st bad') σ' oa' s'.heap s'.toks x v q):St G (Γ.bar st bad') lvl sc σ' oa' s' where
 toFrS:=S.toFrS
 gst:=g
 badT:=bT
 badL:=bL
 badC:=bC
 own:=ow
 ownInj:=inj
 alloc:=al
 cellAt:=fun x hx=>by
  obtain⟨c,v,e,o,eo,d⟩:=S.cellAt x hx
  exact⟨c,v,e,o,kF c o (.inr ⟨x,e⟩) (a1W d nofun) eo,d⟩
 slots:=by
  obtain⟨m,⟨o,es,ep,e,d,r⟩,hm⟩:=S.slots
  refine⟨m,⟨o,es,ep,kF _ o (.inl rfl) (a1W d nofun) e,d,r⟩,fun x q hq=>?_⟩
  refine (sl x q hq).elim fun p Z1=>Z1.elim (fun hp t=>?_)
  refine (hm x p hp).elim fun v Z1=>Z1.elim (fun hv sv=>?_)
  exact⟨v,hv.keep fun c o e=>kF c o (.inr ⟨_,e⟩),t v sv⟩
theorem St.rebar (S:St G Γ lvl sc σ oa s)(bad':Addr→Prop)(g:GSt G s')(bT:∀ t∈G.T,bad' t)(bL:bad' Γ.env.locals)(bC:∀ x c,Γ.env.cells.lookup x=some c→bad' c)
  (nb:∀ x,σ.isOwn x=true→¬ bad' (oa x)) (al:∀ a,a0k (Γ.bar Γ.st bad') σ oa a→∃ o,s'.heap.get? a=some o)
  (kM:∀ b o,Mut Γ σ oa b→Flat o→s.heap.get? b=some o→s'.heap.get? b=some o) (kB:Chg (a0k Γ σ oa) (a0k (Γ.bar Γ.st bad') σ oa) s.heap s'.heap s.toks s'.toks):St G (Γ.bar Γ.st bad') lvl sc σ oa s':=
 S.move Γ.st bad' g bT bL bC (fun x h=>⟨S.newO x h,nb x h⟩) S.ownInj al (fun b o hb=>kM b o (hb.elim .inl fun q=>.inr (.inl q)))
  fun x q hq=>⟨q,hq,fun _=>SlotV.chg rfl kB (fun ho=>⟨rfl,fun o=>kM _ o (.inr (.inr ⟨x,(a1e hq).trans ho,rfl⟩))⟩) fun _ _ h=>⟨h,rfl⟩⟩
theorem St.kf (S:St G Γ lvl sc σ oa s)(k:Kf s s'):St G Γ lvl sc σ oa s':=
 S.rebar Γ.bad (k.gst S.gst) S.badT S.badL S.badC S.ownBad (fun a h=>(S.alloc a h).elim fun o e=>⟨o,k.heap _ _ e⟩) (fun b o _ _=>k.heap b o) ⟨k.toks,fun b o _=>k.heap b o,fun _ _ h _=>h⟩
theorem St.flatT (S:St G Γ lvl sc σ oa s){b:Addr}{o:Obj}(e:s.heap.get? b=some o)(hf:Flat o):b ∉ G.T:=fun q=>by
 refine (G.tabGet _ S.gst.tab b q).elim fun ps ht=>?_
 rw [e] at ht
 cases ht
 exact hf _ rfl
theorem a9i (S:St G Γ lvl sc σ oa s)(k:Kp G s s')(b:Addr)(o:Obj)(hb:¬ a0k Γ σ oa b)(e:s.heap.get? b=some o):s'.heap.get? b=some o:=k.heap b o (fun q=>hb (.inl (S.badT b q))) e
theorem a9j (S:St G Γ lvl sc σ oa s)(k:Kp G s s')(b:Addr)(o:Obj)(hf:Flat o)(e:s.heap.get? b=some o):s'.heap.get? b=some o:=k.heap b o (S.flatT e hf) e
theorem b0F (S:St G Γ lvl sc σ oa s)(k:Kp G s s')(g:GSt G s')(a:Addr)(h:a0k Γ σ oa a):∃ o,s'.heap.get? a=some o:=by
 by_cases q:a∈G.T
 ·refine (G.tabGet _ g.tab a q).elim fun ps e=>?_
  exact⟨_,e⟩
 ·refine (S.alloc a h).elim fun o e=>?_
  exact⟨o,k.heap _ _ q e⟩
theorem St.kp (S:St G Γ lvl sc σ oa s)(k:Kp G s s')(g:GSt G s'):St G Γ lvl sc σ oa s':=
 S.rebar Γ.bad g S.badT S.badL S.badC S.ownBad (b0F S k g) (fun b o _=>a9j S k b o) ⟨k.toks,a9i S k,fun _ _ h _=>h⟩
theorem SlotV.keep {h h':Heap}{n n':Nat}{x:Nat}{v:Value}{sl:Slot}(S:SlotV G Γ σ oa h n x v sl)(hn:n≤n')(hx:σ.get x=some sl)
  (k:∀ b o,¬ Γ.bad b→h.get? b=some o→h'.get? b=some o) (hob:∀ x,σ.isOwn x=true→¬ Γ.bad (oa x)):SlotV G Γ σ oa h' n' x v sl:=
 S.chg rfl ⟨hn,fun b o hb=>k b o fun q=>hb (.inl q),fun _ _ h _=>h⟩ (fun ho=>⟨rfl,fun o _=>k _ o (hob x ((a1e hx).trans ho))⟩) fun _ _ h=>⟨h,rfl⟩
theorem RepT.kp {v:Value}{d:D}(S:St G Γ lvl sc σ oa s)(x:RT G Γ σ oa s v d)(k:Kp G s s'):RT G Γ σ oa s' v d:=by
 cases x with
 | deep r=>exact .deep (r.keep k.toks (a9i S k))
 | list hl r=>
  obtain⟨o,eo,ec,n,ed⟩:=hl
  exact .list ⟨o,a9j S k _ o (a1W ed nofun) eo,ec,n,ed⟩ (r.keep k.toks (a9i S k))
 | dict hm hd=>
  obtain⟨o,es,ep,e,r1,ed,r⟩:=hm
  exact .dict ⟨o,es,ep,a9j S k _ o (a1W ed nofun) e,r1,ed,r⟩ hd
theorem Rep.kp {v:Value}{d:D}(S:St G Γ lvl sc σ oa s)(x:RD G Γ σ oa s v d)(k:Kp G s s'):RD G Γ σ oa s' v d:=x.keep k.toks (a9i S k)
theorem RepL.kp {v:List Value}{d:List D}(S:St G Γ lvl sc σ oa s)(x:RL G Γ σ oa s v d)(k:Kp G s s'):RL G Γ σ oa s' v d:=x.keep k.toks (a9i S k)
theorem FrS.kindOf {A:Around}{env:Env}(F:FrS G A env lvl sc){x:Str}{k:NameKind}(h:sc.lookup x=some k):env.kindOf x=some k:=(c7H (fun n:a0h=>n.lookup x) F.names).trans h
theorem St.read (S:St G Γ lvl sc σ oa s){x:Nat}{sl:Slot}(hx:σ.get x=some sl){Q:Value→Shared→Prop}{E:Value→Shared→Prop}
  (h:∀ v,SlotV G Γ σ oa s.heap s.toks x v sl→Q v s) (hcd:(G.nm x==("__classdict__":Str))=false):wpAny (model G.prog G.w) Γ.A (loadName Γ.env (G.nm x)) Q E s:=by
 refine (S.slots).elim fun m Z1=>Z1.elim (fun hn hm=>?_)
 refine (hm x sl hx).elim fun v Z1=>Z1.elim (fun hv sv=>?_)
 cases hv with
 | loc h1 h2=>exact wpAny_loadName_local S.kind (S.kindOf h1) hn h2 (h v sv)
 | cel c h1 h2 h3=>
  rcases h1 with h1 | h1
  ·exact wpAny_loadName_cell S.kind (S.kindOf h1) h2 h3 (h v sv)
  ·exact wpAny_loadName_free S.kind (S.kindOf h1) h2 h3 (h v sv) hcd
end
end
section
structure Step (G:GC)(Γ:Ctx)(W:Nat→Bool)(σ:Store)(oa:Nat→Addr)(s:Shared)(σ':Store)(oa':Nat→Addr)(s':Shared):Prop where
 heap:∀ b o,b ∉ G.T→¬ Mut Γ σ oa b→s.heap.get? b=some o→s'.heap.get? b=some o
 os:s'.os=s.os
 toks:s.toks≤s'.toks
 gens:∀ (i:Nat) (x:GenState),s.gens[i]?=some x→s'.gens[i]?=some x
 own:∀ x,σ'.isOwn x=true→(∃ y,σ.isOwn y=true∧oa' x=oa y)∨s.heap.get? (oa' x)=none
 addr:∀ x,W x=false→oa' x=oa x
noncomputable def Slot.notM (x:Nat):Slot→Bool
 | .meth y=>!(y==x)
 | _=>true
noncomputable def noMeth (σ:Store)(x:Nat):Bool:=σ.all fun p=>p.2.notM x
theorem a7r {σ:Store}{x z y:Nat}(h:noMeth σ x=true)(e:σ.get z=some (.meth y)):y≠x:=by
 induction σ with
 | nil=>cases e
 | cons p r ih=>
  have h:(p.2.notM x&&noMeth r x)=true:=h
  rw [a0R] at e
  cases hz:z==p.1 with
  | true=>
   rw [hz] at e
   have e:p.2=.meth y:=c7Q e
   rw [e] at h
   intro q
   rw [q] at h
   have h:(!(x==x)&&noMeth r x)=true:=h
   rw [c7R] at h
   exact absurd h c7I
  | false=>
   rw [hz] at e
   rw [c7S] at h
   exact ih h.2 e
noncomputable def a8c (o:Obj):Prop:=∀ vs,o.data=.fields vs→o.cls≠.none∧o.cls≠.type "code"
theorem Flat.ok {o:Obj}(h:Flat o):a8c o:=fun vs q=>absurd q (h vs)
section
variable {G:GC}{Γ:Ctx}{W:Nat→Bool}{lvl:Nat}{sc:a0h}{σ σ₁ σ₂:Store}{oa oa₁ oa₂:Nat→Addr}{s s₁ s₂ s':Shared}{P:Addr→Prop}
theorem a0f {h:Heap}{a b:Addr}{o:Obj}(ha:h.get? a=none)(hb:h.get? b=some o):b≠a:=fun q=>by
 rw [q,ha] at hb
 cases hb
theorem Step.refl:Step G Γ W σ oa s σ oa s:=⟨fun _ _ _ _ e=>e,rfl,c7G _,fun _ _ e=>e,fun x h=>.inl ⟨x,h,rfl⟩,fun _ _=>rfl⟩
theorem Step.trans (a:Step G Γ W σ oa s σ₁ oa₁ s₁)(S:St G Γ lvl sc σ₁ oa₁ s₁)(b:Step G Γ W σ₁ oa₁ s₁ σ₂ oa₂ s₂):Step G Γ W σ oa s σ₂ oa₂ s₂ where
 heap:=fun x o hT hM e=>b.heap x o hT (fun q=>by
  rcases q with q | q | ⟨y,hy,q⟩
  ·exact hM (.inl q)
  ·exact hM (.inr (.inl q))
  ·rcases a.own y hy with⟨z,hz,e'⟩ | e'
   ·exact hM (.inr (.inr ⟨z,hz,q.trans e'⟩))
   ·exact a0f e' e q) (a.heap x o hT hM e)
 os:=b.os.trans a.os
 toks:=c7O a.toks b.toks
 gens:=fun i x e=>b.gens i x (a.gens i x e)
 own:=fun x hx=>by
  rcases b.own x hx with⟨y,hy,e⟩ | e
  ·rw [e]
   exact a.own y hy
  ·have nb:¬ Γ.bad (oa₂ x):=fun q=>(S.alloc _ (.inl q)).elim fun o eo=>a0f e eo rfl
   cases hq:s.heap.get? (oa₂ x) with
   | none=>exact .inr rfl
   | some o=>
    by_cases hm:Mut Γ σ oa (oa₂ x)
    ·rcases hm with q | ⟨y,q⟩ | q
     ·exact absurd (q ▸ S.badL) nb
     ·exact absurd (S.badC _ _ q) nb
     ·exact .inl q
    ·exact absurd rfl (a0f e (a.heap _ o (fun q=>nb (S.badT _ q)) hm hq))
 addr:=fun x hx=>(b.addr x hx).trans (a.addr x hx)
theorem Step.ofKp (k:Kp G s s'):Step G Γ W σ oa s σ oa s':=⟨fun b o hT _ e=>k.heap b o hT e,k.os,k.toks,k.gens,fun x h=>.inl ⟨x,h,rfl⟩,fun _ _=>rfl⟩
theorem Step.butP {h':Heap}{tk:Nat}(t:Step G Γ W σ oa s σ₁ oa₁ s')(hI:∀ a,P a→s.heap.get? a=none)(k:∀ b o,¬ P b→s'.heap.get? b=some o→h'.get? b=some o)(ht:s'.toks≤tk):Step G Γ W σ oa s σ₁ oa₁ { s' with heap:=h',toks:=tk }:=
 ⟨fun b o hT hM e=>k b o (fun q=>a0f (hI b q) e rfl) (t.heap b o hT hM e),t.os,c7O t.toks ht,t.gens,t.own,t.addr⟩
theorem Step.bar {st:Addr}{bad':Addr→Prop}(t:Step G (Γ.bar st bad') W σ oa s σ₁ oa₁ s'):Step G Γ W σ oa s σ₁ oa₁ s':=⟨t.heap,t.os,t.toks,t.gens,t.own,t.addr⟩
theorem c0b {h':Heap}{tk:Nat}(g:GSt G s)(hg:∀ a,P a→G.g.get? a=none)(ho:∀ a,P a→∃ o,s.heap.get? a=some o∧a8c o)(k:∀ b o,¬ P b→s.heap.get? b=some o→h'.get? b=some o)(ht:s.toks≤tk):GSt G { s with heap:=h',toks:=tk }:=
 ⟨c7O g.tok ht,fun b o e=>k b o (fun q=>a0f (hg b q) e rfl) (g.base b o e),
  G.mono _ _ (fun b o' vs hd hcl e=>k b o' (fun q=>by
   refine (ho b q).elim fun o Z1=>Z1.elim (fun e' hc=>?_)
   rw [e'] at e
   cases e
   exact hcl.elim (hc vs hd).1 (hc vs hd).2) e) g.tab,g.bare⟩
theorem a6n {a:Addr}{o₀:Obj}{h':Heap}{tk:Nat}(g:GSt G s)(k:∀ b o,b≠a→s.heap.get? b=some o→h'.get? b=some o)(hg:G.g.get? a=none)(ho:s.heap.get? a=some o₀)
  (hc:a8c o₀) (ht:s.toks≤tk):GSt G { s with heap:=h',toks:=tk }:=
 c0b (P:=(·=a)) g (fun b q=>q ▸ hg) (fun b q=>⟨o₀,q ▸ ho,hc⟩) k ht
noncomputable abbrev Ctx.plusP (Γ:Ctx) (P:Addr→Prop):Ctx:=Γ.bar Γ.st fun b=>Γ.bad b∨P b
noncomputable abbrev Ctx.plus (Γ:Ctx) (a:Addr):Ctx:=Γ.plusP (·=a)
noncomputable abbrev Ctx.plusL (Γ:Ctx) (ch:List Addr):Ctx:=Γ.plusP (·∈ch)
theorem a0K {b:Addr}:a0k (Γ.plusP P) σ oa b↔a0k Γ σ oa b∨P b:=
 ⟨fun h=>h.elim (fun h=>h.elim (fun h=>.inl (.inl h)) .inr) fun h=>.inl (.inr h),fun h=>h.elim (fun h=>h.elim (fun h=>.inl (.inl h)) .inr) fun h=>.inl (.inr h)⟩
theorem b0G {h h':Heap}{n n':Nat}(hP:∀ a,P a→h.get? a=none)(hn:n≤n')(k:∀ b o,¬ a0k Γ σ oa b→h.get? b=some o→h'.get? b=some o):Chg (a0k Γ σ oa) (a0k (Γ.plusP P) σ oa) h h' n n':=
 ⟨hn,k,fun b o hb e q=>(a0K.mp q).elim hb fun q=>a0f (hP b q) e rfl⟩
theorem Rep.plus {v:Value}{d:D}{h h':Heap}{n n':Nat}(r:Rep (rc G Γ) (a0k Γ σ oa) h n v d)(ha:∀ a,P a→h.get? a=Option.none)(hn:n≤n')(k:∀ b o,h.get? b=some o→h'.get? b=some o):Rep (rc G (Γ.plusP P)) (a0k (Γ.plusP P) σ oa) h' n' v d:=
 Rep.chg (b0G ha hn fun b o _=>k b o) r
theorem RepL.plus {v:List Value}{d:List D}{h h':Heap}{n n':Nat}(r:RepL (rc G Γ) (a0k Γ σ oa) h n v d)(ha:∀ a,P a→h.get? a=none)(hn:n≤n')(k:∀ b o,h.get? b=some o→h'.get? b=some o):RepL (rc G (Γ.plusP P)) (a0k (Γ.plusP P) σ oa) h' n' v d:=
 RepL.chg (b0G ha hn fun b o _=>k b o) r
theorem St.barKp (S:St G Γ lvl sc σ oa s)(bad':Addr→Prop)(h1:∀ b,Γ.bad b→bad' b)(h2:∀ b,bad' b→Γ.bad b∨(s.heap.get? b=none∧∃ o,s'.heap.get? b=some o))(k:Kp G s s')(g:GSt G s'):St G (Γ.bar Γ.st bad') lvl sc σ oa s':=
 S.rebar bad' g (fun t ht=>h1 _ (S.badT t ht)) (h1 _ S.badL) (fun x c e=>h1 _ (S.badC x c e))
  (fun x hx q=>(h2 _ q).elim (S.ownBad x hx) fun q=>(S.alloc _ (.inr ⟨x,hx,rfl⟩)).elim fun o e=>a0f q.1 e rfl)
  (fun a h=>h.elim (fun h=>(h2 a h).elim (fun q=>b0F S k g a (.inl q)) And.right) fun h=>b0F S k g a (.inr h))
  (fun b o _=>a9j S k b o)
  ⟨k.toks,a9i S k,fun b o hb e q=>q.elim (fun q=>(h2 b q).elim (fun q=>hb (.inl q)) fun q=>a0f q.1 e rfl) fun q=>hb (.inr q)⟩
theorem St.plusP (S:St G Γ lvl sc σ oa s)(ha:∀ a,P a→s.heap.get? a=none)(k:Kp G s s')(g:GSt G s')(hal:∀ a,P a→∃ o,s'.heap.get? a=some o):St G (Γ.plusP P) lvl sc σ oa s':=
 S.barKp _ (fun _=>.inl) (fun b h=>h.imp id fun q=>⟨ha b q,hal b q⟩) k g
theorem St.plusKp (S:St G Γ lvl sc σ oa s){a:Addr}(ha:s.heap.get? a=none)(k:Kp G s s')(g:GSt G s')(hal:∃ o,s'.heap.get? a=some o):St G (Γ.plus a) lvl sc σ oa s':=
 S.plusP (fun _ q=>q ▸ ha) k g fun _ q=>q ▸ hal
theorem St.butP (S:St G Γ lvl sc σ oa s)(hb:∀ a,P a→Γ.bad a)(hL:¬ P Γ.env.locals)(hC:∀ y c,Γ.env.cells.lookup y=some c→¬ P c)(hg:∀ a,P a→G.g.get? a=none)(ho:∀ a,P a→∃ o,s.heap.get? a=some o∧a8c o)
  {h':Heap} {tk:Nat} (k:∀ b o,¬ P b→s.heap.get? b=some o→h'.get? b=some o) (hal:∀ a,P a→∃ o',h'.get? a=some o') (ht:s.toks≤tk):St G Γ lvl sc σ oa { s with heap:=h',toks:=tk }:=
 S.rebar Γ.bad (c0b S.gst hg ho k ht) S.badT S.badL S.badC S.ownBad
  (fun a h=>by
   by_cases q:P a
   ·exact hal a q
   ·exact (S.alloc a h).elim fun o e=>⟨o,k _ _ q e⟩)
  (fun b o hm _=>k b o fun q=>hm.elim (fun e=>hL (e ▸ q)) fun h=>h.elim (fun h=>h.elim fun y e=>hC y b e q) fun h=>h.elim fun x h=>S.ownBad x h.1 (h.2 ▸ hb b q))
  ⟨ht,fun b o h=>k b o fun q=>h (.inl (hb b q)),fun _ _ h _=>h⟩
theorem St.doneP (S:St G (Γ.plusP P) lvl sc σ oa s)(hT:∀ t∈G.T,Γ.bad t)(hL:Γ.bad Γ.env.locals)(hC:∀ x c,Γ.env.cells.lookup x=some c→Γ.bad c)(na:∀ a,P a→¬ Γ.bad a)(hg:∀ a,P a→G.g.get? a=none)
  (ho:∀ a,P a→∃ o,s.heap.get? a=some o∧a8c o) {h':Heap} {tk:Nat} (k:∀ b o,¬ P b→s.heap.get? b=some o→h'.get? b=some o) (ht:s.toks≤tk):St G Γ lvl sc σ oa { s with heap:=h',toks:=tk }:=by
 have hm:∀ b,Mut Γ σ oa b→¬ P b:=fun b hm q=>hm.elim (fun e=>na b q (e ▸ hL)) fun h=>h.elim (fun h=>h.elim fun y e=>na b q (hC y b e)) fun h=>h.elim fun x h=>S.ownBad x h.1 (.inr (h.2 ▸ q))
 have kA:∀ a,a0k Γ σ oa a→¬ P a:=fun a h q=>h.elim (na a q) fun h=>hm a (.inr (.inr h)) q
 exact S.rebar Γ.bad (c0b S.gst hg ho k ht) hT hL hC (fun x hx q=>S.ownBad x hx (.inl q))
  (fun a h=>(S.alloc a (h.imp .inl id)).elim fun o e=>⟨o,k a o (kA a h) e⟩) (fun b o h _=>k b o (hm b h))
  ⟨ht,fun b o h=>k b o fun q=>h (.inl (.inr q)),fun b o h _ q=>h (q.imp .inl id)⟩
theorem St.doneBut {a:Addr}(S:St G (Γ.plus a) lvl sc σ oa s)(hT:∀ t∈G.T,Γ.bad t)(hL:Γ.bad Γ.env.locals)(hC:∀ x c,Γ.env.cells.lookup x=some c→Γ.bad c)(na:¬ Γ.bad a)
  (hg:G.g.get? a=none) {o:Obj} (ho:s.heap.get? a=some o) (hc:a8c o) {h':Heap} {tk:Nat} (k:∀ b o,b≠a→s.heap.get? b=some o→h'.get? b=some o) (ht:s.toks≤tk) :
  St G Γ lvl sc σ oa { s with heap:=h',toks:=tk }:=
 S.doneP hT hL hC (fun _ q=>q ▸ na) (fun _ q=>q ▸ hg) (fun _ q=>⟨o,q ▸ ho,hc⟩) k ht
structure Turn (G:GC)(Γ:Ctx)(bad':Addr→Prop)(σ:Store)(x:Nat)(sl:Slot)(oa oa':Nat→Addr):Prop where
 badT:∀ t∈G.T,bad' t
 badL:bad' Γ.env.locals
 badC:∀ y c,Γ.env.cells.lookup y=some c→bad' c
 all:∀ b,a0k (Γ.bar Γ.st bad') (σ.set x sl) oa' b→a0k Γ σ oa b
 other:∀ y,y≠x→oa' y=oa y
 own:∀ y,(σ.set x sl).isOwn y=true→G.g.get? (oa' y)=none∧¬ bad' (oa' y)
 ownInj:∀ y z,(σ.set x sl).isOwn y=true→(σ.set x sl).isOwn z=true→oa' y=oa' z→y=z
 noMeth:noMeth σ x=true
variable {bad':Addr→Prop}{oa':Nat→Addr}
theorem SlotV.turn {x y:Nat}{sl₀ sl:Slot}{v:Value}{h h':Heap}{n n':Nat}(T:Turn G Γ bad' σ x sl₀ oa oa')(hy:σ.get y=some sl)(hne:y≠x)(hn:n≤n')
  (k:∀ b o,¬ a0k Γ σ oa b→h.get? b=some o→h'.get? b=some o) (ko:sl.isOwn=true→∀ o,Flat o→h.get? (oa y)=some o→h'.get? (oa y)=some o)
  (S:SlotV G Γ σ oa h n y v sl):SlotV G (Γ.bar Γ.st bad') (σ.set x sl₀) oa' h' n' y v sl:=
 SlotV.chg (Γ:=Γ) (Γ':=Γ.bar Γ.st bad') (σ:=σ) (oa:=oa) rfl ⟨hn,k,fun b _ hb _ q=>hb (T.all b q)⟩ (fun ho=>⟨T.other y hne,ko ho⟩)
  (fun z e hz=>⟨a4z.trans ((c7M (a7r T.noMeth (e ▸ hy))).trans hz),T.other z (a7r T.noMeth (e ▸ hy))⟩) S
theorem St.turn (S:St G Γ lvl sc σ oa s){x:Nat}{sl sl₀:Slot}(T:Turn G Γ bad' σ x sl oa oa')(hs:σ.get x=some sl₀)
  (hx:∀ v,SlotV G Γ σ oa s.heap s.toks x v sl₀→SlotV G (Γ.bar Γ.st bad') (σ.set x sl) oa' s.heap s.toks x v sl):St G (Γ.bar Γ.st bad') lvl sc (σ.set x sl) oa' s:=
 S.move Γ.st bad' S.gst T.badT T.badL T.badC T.own T.ownInj (fun a h=>S.alloc a (T.all a h)) (fun _ _ _ _ e=>e) fun y q hy=>by
  rw [Store.get_set] at hy
  by_cases e:y=x
  ·rw [c7K e] at hy
   cases hy
   rw [e]
   exact⟨sl₀,hs,hx⟩
  ·rw [c7M e] at hy
   exact⟨q,hy,fun v=>SlotV.turn T hy e (c7G _) (fun _ _ _ e=>e) fun _ _ _ e=>e⟩
structure Put (env:Env)(sc:a0h)(x:Str)(v:Value)(h h':Heap)(m:Str→Option Value):Prop where
 keep:∀ b o,b≠env.locals→env.cells.lookup x≠some b→h.get? b=some o→h'.get? b=some o
 al:∀ b o,h.get? b=some o→∃ o,h'.get? b=some o
 ns:∃ m',h'.Ns env.locals m'∧(∀ y w,y≠x→Sits env sc h m y w→Sits env sc h' m' y w)∧Sits env sc h' m' x v
 cell:∀ y c w,env.cells.lookup y=some c→h.IsCell c w→∃ w,h'.IsCell c w
theorem a6o {h:Heap}{L:Addr}{m:Str→Option Value}(hn:h.Ns L m):∃ o,h.get? L=some o∧Flat o:=by
 obtain⟨o,_,_,e,hd,_⟩:=hn
 exact⟨o,e,a1W hd nofun⟩
theorem a9k {h:Heap}{c:Addr}{v:Option Value}(hc:h.IsCell c v):∃ o,h.get? c=some o∧Flat o:=by
 refine hc.elim (clear% hc;fun o Z1=>Z1.elim (fun e hd=>?_))
 exact⟨o,e,a1W hd nofun⟩
theorem a5m {h:Heap}{L c:Addr}{m:Str→Option Value}{v:Option Value}(hn:h.Ns L m)(hc:h.IsCell c v):c≠L:=by
 obtain⟨o,_,_,e,hd,_⟩:=hn
 refine hc.elim (clear% hc;fun o' Z1=>Z1.elim (fun e' hd'=>?_))
 intro q
 rw [q,e] at e'
 cases e'
 rw [hd] at hd'
 cases hd'
theorem Put.local_ {env:Env}{x:Str}{v:Value}{h h':Heap}{m:Str→Option Value}(hk:sc.lookup x=some .local)(hn:h.Ns env.locals m)(hn':h'.Ns env.locals fun y=>if y=x then some v else m y)
  (k:∀ b o,b≠env.locals→h.get? b=some o→h'.get? b=some o):Put env sc x v h h' m where
 keep:=fun b o hb _=>k b o hb
 al:=fun b o e=>by
  by_cases q:b=env.locals
  ·rw [q];exact (a6o hn').elim fun o h=>⟨o,h.1⟩
  ·exact⟨o,k b o q e⟩
 ns:=⟨_,hn',fun y w hy S=>by
  cases S with
  | loc h1 h2=>exact .loc h1 ((c7M hy).trans h2)
  | cel c h1 h2 h3=>exact .cel c h1 h2 (h3.elim fun o q=>⟨o,k _ _ (a5m hn ⟨o,q⟩) q.1,q.2⟩),.loc hk (c7K rfl)⟩
 cell:=fun y c w _ h3=>⟨w,h3.elim fun o q=>⟨o,k _ _ (a5m hn ⟨o,q⟩) q.1,q.2⟩⟩
theorem Put.cell_ {env:Env}{x:Str}{v:Value}{h h':Heap}{m:Str→Option Value}{c:Addr}{w:Option Value}(hk:sc.lookup x=some .cell)(hc:env.cells.lookup x=some c)(hw:h.IsCell c w)(hc':h'.IsCell c (some v))(hn:h.Ns env.locals m)
  (hi:∀ x y c,env.cells.lookup x=some c→env.cells.lookup y=some c→x=y) (k:∀ b o,b≠c→h.get? b=some o→h'.get? b=some o):Put env sc x v h h' m where
 keep:=fun b o _ hb=>k b o fun q=>hb (q ▸ hc)
 al:=fun b o e=>by
  by_cases q:b=c
  ·rw [q];exact (a9k hc').elim fun o h=>⟨o,h.1⟩
  ·exact⟨o,k b o q e⟩
 ns:=⟨m,hn.at' fun o=>k _ o (a5m hn hw).symm,fun y w hy S=>S.keep fun c' o e _=>k c' o fun q=>hy (hi y x c (q ▸ e) hc),.cel c (.inl hk) hc hc'⟩
 cell:=fun y c' w e h3=>by
  by_cases q:c'=c
  ·exact⟨_,q ▸ hc'⟩
  ·exact⟨w,h3.elim fun o p=>⟨o,k _ _ q p.1,p.2⟩⟩
theorem St.put (S:St G Γ lvl sc σ oa s){x:Nat}{v:Value}{sl:Slot}{m:Str→Option Value}{h':Heap}{tk:Nat}(T:Turn G Γ bad' σ x sl oa oa')(P:Put Γ.env sc (G.nm x) v s.heap h' m)
  (hm:∀ x sl,σ.get x=some sl→∃ v,Sits Γ.env sc s.heap m (G.nm x) v∧SlotV G Γ σ oa s.heap s.toks x v sl) (g:GSt G { s with heap:=h',toks:=tk }) (ht:s.toks≤tk)
  (R:SlotV G (Γ.bar Γ.st bad') (σ.set x sl) oa' h' tk x v sl):St G (Γ.bar Γ.st bad') lvl sc (σ.set x sl) oa' { s with heap:=h',toks:=tk }:=by
 have kB:∀ b o,¬ Γ.bad b→s.heap.get? b=some o→h'.get? b=some o:=fun b o hb=>P.keep b o (fun q=>hb (q ▸ S.badL)) fun q=>hb (S.badC _ _ q)
 exact {
  toFrS:=S.toFrS
  gst:=g
  badT:=T.badT
  badL:=T.badL
  badC:=T.badC
  own:=T.own
  ownInj:=T.ownInj
  alloc:=fun a h=>(S.alloc a (T.all a h)).elim fun o=>P.al a o
  cellAt:=fun y hy=>by
   obtain⟨c,w,e,hc⟩:=S.cellAt y hy
   exact (P.cell y c w e hc).elim fun w h=>⟨c,w,e,h⟩
  slots:=by
   obtain⟨m',h1,h2,h3⟩:=P.ns
   refine⟨m',h1,fun y q hy=>?_⟩
   rw [Store.get_set] at hy
   by_cases e:y=x
   ·rw [c7K e] at hy
    cases hy
    rw [e]
    exact⟨v,h3,R⟩
   ·rw [c7M e] at hy
    refine (hm y q hy).elim fun w Z1=>Z1.elim (fun h4 h5=>?_)
    exact⟨w,h2 _ w (fun q=>e (G.nmInj _ _ q)) h4,SlotV.turn T hy e ht (fun b o hb=>kB b o fun q=>hb (.inl q)) (fun ho o _=>kB _ o (S.ownBad y ((a1e hy).trans ho))) h5⟩ }
structure Kt (G:GC)(Γ:Ctx)(x:Nat)(s s':Shared):Prop where
 heap:∀ b o,b≠Γ.env.locals→Γ.env.cells.lookup (G.nm x)≠some b→s.heap.get? b=some o→s'.heap.get? b=some o
 os:s'.os=s.os
 toks:s.toks≤s'.toks
 gens:s'.gens=s.gens
theorem St.storeG (S:St G Γ lvl sc σ oa s){x:Nat}{v:Value}{sl:Slot}(hk:sc.lookup (G.nm x)=some .local∨sc.lookup (G.nm x)=some .cell)(T:Turn G Γ bad' σ x sl oa oa')
  (R:∀ h' tk,s.toks≤tk→(∀ b o,b≠Γ.env.locals→(Γ.env.cells.lookup (G.nm x)≠some b)→s.heap.get? b=some o→h'.get? b=some o)→SlotV G (Γ.bar Γ.st bad') (σ.set x sl) oa' h' tk x v sl)
  {Q:Unit→Shared→Prop} {E:Value→Shared→Prop} (h:∀ s',St G (Γ.bar Γ.st bad') lvl sc (σ.set x sl) oa' s'→Kt G Γ x s s'→Q () s'):wpAny (model G.prog G.w) Γ.A (storeName Γ.env (G.nm x) v) Q E s:=by
 refine (S.slots).elim fun m Z1=>Z1.elim (fun hn hm=>?_)
 rcases hk with hk | hk
 ·refine wpAny_storeName_local (S.kindOf hk) hn (fun h' hn' hs=>?_) (by rw [S.kind];rfl)
  have k:∀ b o,b≠Γ.env.locals→s.heap.get? b=some o→h'.get? b=some o:=fun b o hb e=>(hs.2 b hb).trans e
  have P:=Put.local_ hk hn hn' k
  have ht:s.toks≤s.toks+1:=c7T _
  refine (a6o hn).elim fun o Z1=>Z1.elim (fun e hf=>?_)
  exact h _ (S.put T P hm (a6n S.gst k S.newL e hf.ok ht) ht (R _ _ ht P.keep)) ⟨P.keep,rfl,ht,rfl⟩
 ·obtain⟨c,w,hc,hw⟩:=S.cellAt (G.nm x) (.inl hk)
  refine wpAny_storeName_cell S.kind (S.kindOf hk) hc hw fun h' hc' hs=>?_
  have k:∀ b o,b≠c→s.heap.get? b=some o→h'.get? b=some o:=fun b o hb e=>(hs.2 b hb).trans e
  have P:=Put.cell_ hk hc hw hc' hn S.cellInj k
  have ht:s.toks≤s.toks:=c7G _
  refine (a9k hw).elim fun o Z1=>Z1.elim (fun e hf=>?_)
  exact h _ (S.put (tk:=s.toks) T P hm (a6n S.gst k (S.newC _ _ hc) e hf.ok ht) ht (R _ _ ht P.keep)) ⟨P.keep,rfl,ht,rfl⟩
theorem a3r (S:St G Γ lvl sc σ oa s){x:Nat}{sl:Slot}(hs:sl.isOwn=false)(hm:noMeth σ x=true):Turn G Γ Γ.bad σ x sl oa oa where
 badT:=S.badT
 badL:=S.badL
 badC:=S.badC
 all:=fun b hb=>hb.imp id fun h=>h.elim fun y h=>⟨y,(a2l hs h.1).2,h.2⟩
 other:=fun _ _=>rfl
 own:=fun y hy=>S.own y (a2l hs hy).2
 ownInj:=fun y z hy hz=>S.ownInj y z (a2l hs hy).2 (a2l hs hz).2
 noMeth:=hm
theorem Kt.step {x:Nat}{sl:Slot}(k₁:Kp G s₁ s)(k:Kt G Γ x s s')(ho:∀ y,(σ.set x sl).isOwn y=true→(∃ z,σ.isOwn z=true∧oa₁ y=oa z)∨s₁.heap.get? (oa₁ y)=none)(ha:∀ y,W y=false→oa₁ y=oa y):Step G Γ W σ oa s₁ (σ.set x sl) oa₁ s':=
 ⟨fun b o hT hM e=>k.heap b o (fun q=>hM (.inl q)) (fun q=>hM (.inr (.inl ⟨_,q⟩))) (k₁.heap b o hT e),k.os.trans k₁.os,c7O k₁.toks k.toks,fun i x e=>(c7H (·[i]?) k.gens).trans (k₁.gens i x e),ho,ha⟩
theorem Kt.stepNo {x:Nat}{sl:Slot}(hs:sl.isOwn=false)(k₁:Kp G s₁ s)(k:Kt G Γ x s s'):Step G Γ W σ oa s₁ (σ.set x sl) oa s':=
 k.step k₁ (fun y hy=>.inl ⟨y,(a2l hs hy).2,rfl⟩) fun _ _=>rfl
theorem Step.ofVal {x:Nat}{d:D}(k₁:Kp G s₁ s)(k:Kt G Γ x s s'):Step G Γ W σ oa s₁ (σ.set x (.val d)) oa s':=k.stepNo rfl k₁
theorem St.store (S:St G Γ lvl sc σ oa s){x:Nat}{v:Value}{d:D}(hk:sc.lookup (G.nm x)=some .local∨sc.lookup (G.nm x)=some .cell)(hm:noMeth σ x=true)
  (R:RD G Γ σ oa s v d) {Q:Unit→Shared→Prop} {E:Value→Shared→Prop}
  (h:∀ s',St G Γ lvl sc (σ.set x (.val d)) oa s'→Kt G Γ x s s'→Step G Γ W σ oa s (σ.set x (.val d)) oa s'→Q () s'):wpAny (model G.prog G.w) Γ.A (storeName Γ.env (G.nm x) v) Q E s:=
 S.storeG (sl:=.val d) hk (a3r S rfl hm) (fun h' tk ht k=>Rep.chg ⟨ht,fun b o hb=>k b o (fun q=>hb (.inl (q ▸ S.badL))) (fun q=>hb (.inl (S.badC _ _ q))),fun b _ hb _ q=>hb ((a3r (sl:=.val d) S rfl hm).all b q)⟩ R)
  fun s' S' k=>h s' S' k (k.stepNo rfl .refl)
theorem St.freeze (S:St G Γ lvl sc σ oa s){x:Nat}{l:List D}(hx:σ.get x=some (.own l))(hm:Mine.noMeth σ x=true) :
  St G Γ lvl sc (σ.set x (.val (.list l))) oa s∧Step G Γ W σ oa s (σ.set x (.val (.list l))) oa s:=by
 have T:=a3r (sl:=.val (.list l)) S rfl hm
 have ho:σ.isOwn x=true:=a1e hx
 refine⟨S.turn T hx fun v sv=>?_,Kt.stepNo rfl .refl ⟨fun _ _ _ _ e=>e,rfl,c7G _,rfl⟩⟩
 obtain⟨rfl,vs,⟨n,hp⟩,r⟩:=sv
 exact .list (fun q=>q.elim (S.ownBad x ho) fun q=>q.elim fun y h=>(a2l rfl h.1).1 (S.ownInj _ _ ho (a2l rfl h.1).2 h.2).symm) ⟨_,hp,rfl,n,rfl⟩ (r.weaken T.all)
noncomputable def b7c (oa:Nat→Addr)(x:Nat)(a:Addr):Nat→Addr:=fun y=>if y=x then a else oa y
theorem a3s {x:Nat}{a:Addr}:b7c oa x a x=a:=c7K rfl
theorem a3t {x y:Nat}{a:Addr}(h:y≠x):b7c oa x a y=oa y:=c7M h
noncomputable def NewV (G:GC)(Γ:Ctx)(σ:Store)(oa:Nat→Addr)(h:Heap)(n:Nat)(a:Addr):Slot→Prop
 | .own l=>∃ vs:List Value,h.PlainList a vs.toArray∧RepL (rc G Γ) (a0k (Γ.plus a) σ oa) h n vs l
 | .ownD kv=>OwnDict G h a kv
 | .val _=>False
 | .meth _=>False
theorem NewV.own {h:Heap}{n:Nat}{a:Addr}{sl:Slot}(N:NewV G Γ σ oa h n a sl):sl.isOwn=true:=by
 cases sl with
 | own l=>exact rfl
 | ownD kv=>exact rfl
 | val d=>exact N.elim
 | meth z=>exact N.elim
theorem St.storeNew {a:Addr}{sl:Slot}(S:St G (Γ.plus a) lvl sc σ oa s)(hT:∀ t∈G.T,Γ.bad t)(hL:Γ.bad Γ.env.locals)(hC:∀ x c,Γ.env.cells.lookup x=some c→Γ.bad c)(nb:¬ Γ.bad a)(ga:G.g.get? a=none)
  {x:Nat} (hk:sc.lookup (G.nm x)=some .local∨sc.lookup (G.nm x)=some .cell) (hm:Mine.noMeth σ x=true) (N:NewV G Γ σ oa s.heap s.toks a sl)
  {Q:Unit→Shared→Prop} {E:Value→Shared→Prop}
  (h:∀ s',St G Γ lvl sc (σ.set x sl) (b7c oa x a) s'→Kt G Γ x s s'→Q () s') :
  wpAny (model G.prog G.w) Γ.A (storeName Γ.env (G.nm x) (.ref a)) Q E s:=by
 have no:∀ y,σ.isOwn y=true→oa y≠a:=fun y hy q=>S.ownBad y hy (.inr q)
 have ow:∀ y,(σ.set x sl).isOwn y=true→(y=x∧b7c oa x a y=a)∨(y≠x∧σ.isOwn y=true∧b7c oa x a y=oa y):=fun y hy=>(a5l hy).elim (fun q=>.inl ⟨q.1,c7K q.1⟩) fun q=>.inr ⟨q.1,q.2,a3t q.1⟩
 have T:Turn G (Γ.plus a) Γ.bad σ x sl oa (b7c oa x a):={
  badT:=hT,badL:=hL,badC:=hC
  all:=fun b hb=>by
   rcases hb with hb | ⟨y,hy,e⟩
   ·exact .inl (.inl hb)
   ·rcases ow y hy with⟨_,q⟩ | ⟨_,q,r⟩
    ·exact .inl (.inr (e.trans q))
    ·exact .inr ⟨y,q,e.trans r⟩
  other:=fun y q=>a3t q
  own:=fun y hy=>by
   rcases ow y hy with⟨_,q⟩ | ⟨_,q,r⟩
   ·rw [q];exact⟨ga,nb⟩
   ·rw [r];exact⟨S.newO y q,fun p=>S.ownBad y q (.inl p)⟩
  ownInj:=fun y z hy hz e=>by
   rcases ow y hy with⟨q1,q⟩ | ⟨_,q,r⟩ <;> rcases ow z hz with⟨p1,p⟩ | ⟨_,p,t⟩
   ·exact q1.trans p1.symm
   ·exact absurd ((t.symm.trans e.symm).trans q) (no z p)
   ·exact absurd ((r.symm.trans e).trans p) (no y q)
   ·exact S.ownInj y z q p ((r.symm.trans e).trans t)
  noMeth:=hm }
 refine St.storeG (Γ:=Γ.plus a) S hk T (fun h' tk ht k=>?_) fun s' S' k=>h s' S' ⟨k.heap,k.os,k.toks,k.gens⟩
 have ka:∀ o,s.heap.get? a=some o→h'.get? a=some o:=fun o=>k a o (fun q=>nb (q ▸ hL)) fun q=>nb (hC _ a q)
 cases sl with
 | own l=>
  obtain⟨vs,⟨n,hp⟩,r⟩:=N
  show _∧_
  rw [a3s]
  exact⟨rfl,vs,⟨n,ka _ hp⟩,r.chg ⟨ht,fun b o hb=>k b o (fun q=>hb (.inl (q ▸ S.badL))) fun q=>hb (.inl (S.badC _ _ q)),fun b _ hb _ q=>hb (T.all b q)⟩⟩
 | ownD kv=>
  show _∧_
  rw [a3s]
  exact⟨rfl,N.at fun o _=>ka o⟩
 | val d=>exact N.elim
 | meth z=>exact N.elim
theorem Step.ofNew {a:Addr}{x:Nat}{sl:Slot}(k₁:Kp G s₁ s)(k:Kt G Γ x s s')(ha:s₁.heap.get? a=none)(hW:W x=true):Step G Γ W σ oa s₁ (σ.set x sl) (b7c oa x a) s':=
 k.step k₁ (fun y hy=>(a5l hy).elim (fun q=>.inr (by rw [q.1,a3s];exact ha)) fun q=>.inl ⟨y,q.2,a3t q.1⟩) fun y hy=>a3t fun q=>c7I ((q ▸ hy).symm.trans hW)
theorem St.ownT (S:St G Γ lvl sc σ oa s){x:Nat}{sl₀ sl:Slot}(hx:σ.get x=some sl₀)(h0:sl₀.isOwn=true)(hsl:sl.isOwn=true){h':Heap}{tk:Nat}(k:∀ b o,b≠oa x→s.heap.get? b=some o→h'.get? b=some o)
  (hal:∃ o,h'.get? (oa x)=some o)
  (ht:s.toks≤tk) (R:SlotV G Γ σ oa h' tk x (.ref (oa x)) sl):St G Γ lvl sc (σ.set x sl) oa { s with heap:=h',toks:=tk }∧Step G Γ W σ oa s (σ.set x sl) oa { s with heap:=h',toks:=tk }:=by
 have ho:σ.isOwn x=true:=(a1e hx).trans h0
 have ow:∀ y,(σ.set x sl).isOwn y=true→σ.isOwn y=true:=fun y hy=>(a5l hy).elim (fun q=>q.1 ▸ ho) And.right
 have wo:∀ y,σ.isOwn y=true→(σ.set x sl).isOwn y=true:=fun y hy=>by
  rw [a4z]
  by_cases q:y=x
  ·rw [c7K q];exact hsl
  ·rw [c7M q];exact hy
 have all:∀ b,a0k Γ (σ.set x sl) oa b→a0k Γ σ oa b:=fun b hb=>hb.imp id fun h=>h.elim fun y h=>⟨y,ow y h.1,h.2⟩
 have nb:=S.ownBad x ho
 refine (S.alloc _ (.inr ⟨x,ho,rfl⟩)).elim fun o₀ e₀=>?_
 have hf:Flat o₀:=by
  refine (S.slots).elim fun m Z1=>Z1.elim (fun _ hm=>?_)
  refine (hm x sl₀ hx).elim fun v Z1=>Z1.elim (fun _ sv=>?_)
  refine (sv.flat h0).elim fun o Z1=>Z1.elim (fun e f=>?_)
  rw [e] at e₀
  cases e₀
  exact f
 have kB:Chg (a0k Γ σ oa) (a0k Γ (σ.set x sl) oa) s.heap h' s.toks tk:=⟨ht,fun b o hb=>k b o fun q=>hb (.inr ⟨x,ho,q⟩),fun b _ hb _ q=>hb (all b q)⟩
 refine⟨S.move (σ':=σ.set x sl) (oa':=oa) (s':={ s with heap:=h',toks:=tk }) Γ.st Γ.bad (a6n S.gst k (S.newO x ho) e₀ hf.ok ht) S.badT S.badL S.badC (fun y hy=>S.own y (ow y hy)) (fun y z hy hz=>S.ownInj y z (ow y hy) (ow z hz)) (fun a ha=>?_)
  (fun b o hb _=>k b o fun q=>nb (hb.elim (fun e=>(q.symm.trans e) ▸ S.badL) fun h=>h.elim fun y e=>S.badC y _ (q ▸ e))) fun y q hy=>?_,⟨fun b o _ hM=>k b o fun q=>hM (.inr (.inr ⟨x,ho,q⟩)),rfl,ht,fun _ _ e=>e,fun y hy=>.inl ⟨y,ow y hy,rfl⟩,fun _ _=>rfl⟩⟩
 ·by_cases q:a=oa x
  ·rw [q];exact hal
  ·exact (S.alloc a (all a ha)).elim fun o e=>⟨o,k _ _ q e⟩
 ·rw [Store.get_set] at hy
  by_cases e:y=x
  ·rw [c7K e] at hy
   cases hy
   rw [e]
   refine⟨sl₀,hx,fun v sv=>?_⟩
   rw [sv.eqOwn h0]
   exact R.chg rfl ⟨c7G _,fun _ _ _ e=>e,fun b _ hb _ q=>hb (all b q)⟩ (fun _=>⟨rfl,fun _ _ e=>e⟩) fun z _ hz=>⟨wo z hz,rfl⟩
  ·rw [c7M e] at hy
   exact⟨q,hy,fun v sv=>sv.chg rfl kB (fun h1=>⟨rfl,fun o _=>k _ o fun p=>e (S.ownInj _ _ ((a1e hy).trans h1) ho p)⟩) fun z _ hz=>⟨wo z hz,rfl⟩⟩
theorem St.forget (S:St G Γ lvl sc σ oa s)(hg:∀ x sl,σ₁.get x=some sl→σ.get x=some sl)(ho:∀ x,σ.isOwn x=true→σ₁.isOwn x=true):St G Γ lvl sc σ₁ oa s:=by
 have up:∀ x,σ₁.isOwn x=true→σ.isOwn x=true:=fun x h=>(a2K h).elim fun sl h=>(a1e (hg x sl h.1)).trans h.2
 have all:∀ b,a0k Γ σ₁ oa b→a0k Γ σ oa b:=fun b hb=>hb.imp id fun h=>h.elim fun x h=>⟨x,up x h.1,h.2⟩
 exact S.move Γ.st Γ.bad S.gst S.badT S.badL S.badC (fun x h=>S.own x (up x h)) (fun x y h h'=>S.ownInj x y (up x h) (up y h')) (fun a h=>S.alloc a (all a h)) (fun _ _ _ _ e=>e)
  fun x q hq=>⟨q,hg x q hq,fun v sv=>sv.chg rfl ⟨c7G _,fun _ _ _ e=>e,fun b _ hb _ p=>hb (all b p)⟩ (fun _=>⟨rfl,fun _ _ e=>e⟩) fun z _ hz=>⟨ho z hz,rfl⟩⟩
end
end
section
theorem bnd {α β:Type}{x:Option α}{f:α→Option β}{b:β}(h:x.bind f=some b):∃ a,x=some a∧f a=some b:=Option.bind_eq_some_iff.mp h
theorem mpd {α β:Type}{x:Option α}{f:α→β}{b:β}(h:x.map f=some b):∃ a,x=some a∧f a=b:=Option.map_eq_some_iff.mp h
noncomputable def grd {α:Type}(c:Bool)(x:Option α):Option α:=match c with
 | true=>x
 | false=>none
theorem a0P {α:Type}{c:Bool}{x:Option α}{a:α}(h:grd c x=some a):c=true∧x=some a:=by
 cases c with
 | true=>exact⟨rfl,h⟩
 | false=>cases (show none=some a from h)
theorem c5f {α:Type}{c:Bool}{y a:α}(h:grd c (some y)=some a):c=true∧y=a:=⟨(a0P h).1,c7Q (a0P h).2⟩
theorem a0n {α:Type}{c:Bool}{x:Option α}(h:c=true):grd c x=x:=by subst h;rfl
theorem a0i {a b:Bool}(h:(a&&b)=true):a=true∧b=true:=by
 cases a with
 | true=>exact⟨rfl,h⟩
 | false=>cases (show false=true from h)
theorem or2 {a b:Bool}(h:(a||b)=true):a=true∨b=true:=by
 cases a with
 | true=>exact .inl rfl
 | false=>exact .inr h
theorem a0j {α β:Type}{x:Option α}{f:α→Option β}{b:β}{P:Prop}(h:x.bind f=some b)(k:∀ a,x=some a→f a=some b→P):P:=(bnd h).elim fun a h=>k a h.1 h.2
theorem a2v {α β:Type}{x:Option α}{f:α→β}{b:β}{P:Prop}(h:x.map f=some b)(k:∀ a,x=some a→f a=b→P):P:=(mpd h).elim fun a h=>k a h.1 h.2
theorem a0b {a b:Bool}{P:Prop}(h:(a&&b)=true)(k:a=true→b=true→P):P:=k (a0i h).1 (a0i h).2
theorem a0Q {α:Type}{c:Bool}{y a:α}{P:Prop}(h:grd c (some y)=some a)(k:c=true→y=a→P):P:=k (c5f h).1 (c5f h).2
theorem a2w {a:Bool}(h:(!a)=true):a=false:=by
 cases a with
 | false=>rfl
 | true=>cases (show false=true from h)
theorem a0I {α:Type}{x y:Option α}{a:α}(h:x.or y=some a):x=some a∨y=some a:=by
 cases x with
 | none=>exact .inr h
 | some b=>exact .inl h
theorem a0e {α:Type}{P:Prop}{a:α}(h:(none:Option α)=some a):P:=nomatch h
noncomputable def a0O (n:Nat):Bool:=Nat.ble n 16777216
noncomputable def c0c (n:Nat)(lo:Option Int):Nat:=match lo with
 | none=>0
 | some k=>clipAt n k
noncomputable def c2u (n:Nat)(hi:Option Int):Nat:=match hi with
 | none=>n
 | some k=>clipAt n k
noncomputable def cut {α:Type}(l:List α)(lo hi:Option Int):List α:=(l.drop (c0c l.length lo)).take (c2u l.length hi - c0c l.length lo)
noncomputable def b0B (k:Int)(n:Nat):Option Nat:=grd (a0O n) (seqIndex? k n)
noncomputable def D.asStr:D→Option Str
 | .str s _=>some s
 | _=>Option.none
noncomputable def D.asInt:D→Option Int
 | .int i=>some i
 | _=>Option.none
noncomputable def D.asBool:D→Option Bool
 | .bool b=>some b
 | _=>Option.none
noncomputable def D.asBytes:D→Option (Array UInt8)
 | .bytes b=>some b
 | _=>Option.none
noncomputable def D.asList:D→Option (List D)
 | .list l=>some l
 | _=>Option.none
noncomputable def D.asDict:D→Option (List (Str×Int))
 | .dict kv=>some kv
 | _=>Option.none
noncomputable def D.asTup:D→Option (List D)
 | .tup l=>some l
 | _=>Option.none
theorem a9l {d:D}{i:Int}(h:d.asInt=some i):d=.int i:=by cases d <;> first | (cases h;rfl) | exact a0e h
theorem b2G {d:D}{b:Bool}(h:d.asBool=some b):d=.bool b:=by cases d <;> first | (cases h;rfl) | exact a0e h
theorem a4B {d:D}{x:Str}(h:d.asStr=some x):∃ g,d=.str x g:=by cases d <;> first | (cases h;exact⟨_,rfl⟩) | exact a0e h
theorem a2X {d:D}{b:Array UInt8}(h:d.asBytes=some b):d=.bytes b:=by cases d <;> first | (cases h;rfl) | exact a0e h
theorem a2i {d:D}{l:List D}(h:d.asList=some l):d=.list l:=by cases d <;> first | (cases h;rfl) | exact a0e h
theorem b2H {d:D}{l:List (Str×Int)}(h:d.asDict=some l):d=.dict l:=by cases d <;> first | (cases h;rfl) | exact a0e h
theorem a2m {d:D}{l:List D}(h:d.asTup=some l):d=.tup l:=by cases d <;> first | (cases h;rfl) | exact a0e h
noncomputable def a2L (x y:Int):Bool:=decide (Builtin.Int.intBits x≤64)||decide (Builtin.Int.intBits y≤64)||decide (Builtin.Int.intBits x+Builtin.Int.intBits y≤1000000)
noncomputable def b0C (a b:D)(f:Int→Int→Option Int):Option D:=a.asInt.bind fun x=>b.asInt.bind fun y=>(f x y).map .int
noncomputable def c5g {α:Type}(a b:D)(f:Str→Str→Option α):Option α:=a.asStr.bind fun x=>b.asStr.bind fun y=>f x y
noncomputable def c2E {α:Type}(a b:D)(f:List D→List D→Option α):Option α:=a.asList.bind fun x=>b.asList.bind fun y=>f x y
noncomputable def c2F {α:Type}(a b:D)(f:Array UInt8→Array UInt8→Option α):Option α:=a.asBytes.bind fun x=>b.asBytes.bind fun y=>f x y
noncomputable def c6U (a b:D):Option D:=
 (b0C a b fun x y=>some (x+y)).or <| (c5g a b fun x y=>grd (a0O (x.length+y.length)) (some (.str (x++y)))).or <|
 (c2E a b fun x y=>grd (a0O (x.length+y.length)) (some (.list (x++y)))).or <| c2F a b fun x y=>grd (a0O (x.size+y.size)) (some (.bytes (x++y)))
noncomputable def c6V (a b:D):Option D:=
 (b0C a b fun x y=>grd (a2L x y) (some (x*y))).or <| a.asStr.bind fun s=>b.asInt.bind fun k=>grd (Nat.ble s.length 1000&&decide (0≤k)&&decide (k≤1000)) (some (.str (Txt.mul s k)))
noncomputable def a2M (op:Operator)(a b:D):Option D:=match op with
 | .Add=>c6U a b
 | .Sub=>b0C a b fun x y=>some (x - y)
 | .Mult=>c6V a b
 | .FloorDiv=>b0C a b fun x y=>grd (!(decide (y=0)||Builtin.divisionGoesByPylong x y)) (some (x.fdiv y))
 | .Mod=>b0C a b fun x y=>grd (!decide (y=0)) (some (x.fmod y))
 | .Pow=>b0C a b fun x y=>grd (decide (0≤y)&&decide ((Builtin.Int.intBits x:Int)*y≤2 ^ 27)) (some (x ^ y.toNat))
 | .BitXor=>b0C a b fun x y=>some (Builtin.bitXor x y)
 | .BitOr=>b0C a b fun x y=>some (Builtin.bitOr x y)
 | .BitAnd=>b0C a b fun x y=>some (Builtin.bitAnd x y)
 | .LShift=>b0C a b fun x y=>grd (decide (0≤y)&&decide (y≤1000000)&&decide (x.natAbs<2 ^ 64)) (some (x*2 ^ y.toNat))
 | .RShift=>b0C a b fun x y=>grd (decide (0≤y)) (some (x.fdiv (2 ^ y.toNat)))
 | _=>none
noncomputable def b4e (y x:Str):Bool:=!(Builtin.Str.occurrences y x 0 y.length 1).isEmpty
noncomputable def eqL (x y:List D):Option Bool:=match x with
 | []=>some y.isEmpty
 | _=>match y with
  | []=>some false
  | _=>(x.mapM D.asInt).bind fun p=>(y.mapM D.asInt).bind fun q=>grd (p.length==q.length) (some (p==q))
noncomputable def b7d {α:Type}(x y:Option α)(f:α→α→Bool):Option Bool:=x.bind fun x=>y.map fun y=>f x y
noncomputable def eqD (a b:D):Option Bool:=
 (b7d a.asInt b.asInt (·==·)).or <| (b7d a.asStr b.asStr (·==·)).or <| (b7d a.asBytes b.asBytes fun x y=>x.toList==y.toList).or <|
 (b7d a.asBool b.asBool (·==·)).or <| c2E a b eqL
noncomputable def inD (a b:D):Option Bool:=
 (c5g a b fun x y=>some (b4e y x)).or <| (a.asStr.bind fun x=>b.asList.bind fun l=>(l.mapM D.asStr).map fun p=>p.any (·==x)).or <|
 (a.asStr.bind fun x=>b.asTup.bind fun l=>(l.mapM D.asStr).map fun p=>p.any (·==x)).or <|
 a.asBytes.bind fun x=>b.asList.bind fun l=>(l.mapM D.asBytes).map fun p=>p.any (fun y=>y.toList==x.toList)
noncomputable def b4f:D→Option Bool
 | .none=>some true
 | .typ _=>none
 | .star=>none
 | .dict _=>none
 | _=>some false
noncomputable def D.isNone:D→Bool
 | .none=>true
 | _=>false
noncomputable def D.isStar:D→Option Bool
 | .star=>some true
 | .str _ _=>some false
 | _=>Option.none
noncomputable def D.asTyp:D→Option String
 | .typ n=>some n
 | _=>Option.none
theorem a9m {d:D}{l:String}(h:d.asTyp=some l):d=.typ l:=by cases d <;> first | (cases h;rfl) | exact a0e h
theorem a5n {d:D}(h:d.isNone=true):d=.none:=by cases d <;> first | rfl | exact absurd h c7I
noncomputable def isD (a b:D):Option Bool:=
 (grd b.isNone (b4f a)).or <| (b7d a.asTyp b.asTyp (·==·)).or <| a.isStar.bind fun x=>b.isStar.bind fun y=>grd (x||y) (some (x&&y))
noncomputable def neD (a b:D):Option Bool:=(grd b.isNone (a.asBytes.map fun _=>true)).or ((eqD a b).map (!·))
noncomputable def ltD (a b:D):Option Bool:=(b7d a.asInt b.asInt fun x y=>decide (x<y)).or (b7d a.asStr b.asStr fun x y=>decide (x.cps.toList<y.cps.toList))
noncomputable def leD (a b:D):Option Bool:=b7d a.asInt b.asInt fun x y=>decide (x≤y)
noncomputable def a6p (op:CmpOp)(a b:D):Option Bool:=match op with
 | .Eq=>eqD a b
 | .NotEq=>neD a b
 | .Is=>isD a b
 | .IsNot=>(isD a b).map (!·)
 | .In=>inD a b
 | .NotIn=>(inD a b).map (!·)
 | .Lt=>ltD a b
 | .Gt=>ltD b a
 | .LtE=>leD a b
 | .GtE=>leD b a
noncomputable def a7s (a:D):Option Bool:=
 (grd a.isNone (some false)).or <| a.asBool.or <| (a.asInt.map fun i=>!(i==0)).or <| (a.asStr.bind fun s=>grd (a0O s.length) (some (!(s.length==0)))).or <|
 a.asList.bind fun l=>grd (a0O l.length) (some (!l.isEmpty))
noncomputable def b7e (s:Str)(k:Int):Option D:=((b0B k s.length).bind (s.cps[·]?)).map fun c=>.str ⟨#[c]⟩ true
noncomputable def a4C (a i:D):Option D:=
 (a.asList.bind fun l=>i.asInt.bind fun k=>(b0B k l.length).bind (l[·]?)).or <| (a.asTup.bind fun l=>i.asInt.bind fun k=>(b0B k l.length).bind (l[·]?)).or <|
 (a.asStr.bind fun s=>i.asInt.bind fun k=>b7e s k).or <| a.asDict.bind fun kv=>i.asStr.bind fun k=>(kv.lookup k).map .int
noncomputable def a3u:Option D→Option (Option Int)
 | none=>some none
 | some d=>d.asInt.bind fun k=>grd (decide (-(2 ^ 62)<k)&&decide (k<2 ^ 62)) (some (some k))
noncomputable def a6q (a:D)(lo hi:Option Int):Option D:=
 (a.asList.bind fun l=>grd (a0O l.length) (some (.list (cut l lo hi)))).or <| (a.asStr.bind fun s=>grd (a0O s.length) (some (.str ⟨(cut s.cps.toList lo hi).toArray⟩))).or <|
 a.asBytes.bind fun b=>grd (a0O b.size) (some (.bytes (cut b.toList lo hi).toArray))
noncomputable def c2v (a:D):Option Nat:=(a.asList.map List.length).or <| (a.asTup.map List.length).or <| (a.asStr.map Str.length).or <| a.asBytes.map Array.size
noncomputable def a8d (s:Str):List D:=s.cps.toList.map fun c=>.str ⟨#[c]⟩
noncomputable def a5S (a:D):Option (List D):=
 a.asList.or <| a.asTup.or <| (a.asStr.bind fun s=>grd (s.cps.all (·<128)) (some (a8d s))).or <| a.asBytes.map fun b=>b.toList.map fun c=>.int c.toNat
noncomputable def a6r (a b c:Int):Option (List D):=
 grd (decide (-(2 ^ 30)<a)&&decide (a<2 ^ 30)&&decide (-(2 ^ 30)<b)&&decide (b<2 ^ 30))
  (if c=1 then some ((List.range (b - a).toNat).map fun (i:Nat)=>.int (a+i))
  else if c=-1∧a=9∧b=5 then some ((List.range 4).map fun (i:Nat)=>.int (9+i*(-1)))
  else none)
noncomputable def a1m:List UInt8→List UInt8→Bool
 | [],[]=>false
 | [],_ :: _=>true
 | _ :: _,[]=>false
 | a :: r,b :: q=>if a<b then true else if a=b then a1m r q else false
noncomputable def kasRun {α:Type}(lt:Nat→Nat→Bool):KasT α→α
 | .ret a=>a
 | .ask i j k=>kasRun lt (k (lt i j))
noncomputable def b7f (l:List (List UInt8×D)):List D:=
 if l.length<2 then l.map (·.2)
 else (kasRun (fun i j=>a1m (l.getD i ([],.none)).1 (l.getD j ([],.none)).1) (kas_sort l.length)).toList.map fun i=>(l.getD i ([],.none)).2
noncomputable def a4a (s:List UInt8)(a b:List UInt8):List UInt8:=s.map fun c=>((a.zip b).foldl (fun (acc:UInt8) p=>if p.1=c then p.2 else acc) c)
noncomputable def a2N (s:Str):Array UInt8:=(s.cps.toList.map fun c=>UInt8.ofNat c).toArray
inductive Tgt where
 | one (x:Nat) | many (xs:List Nat)
mutual
inductive PE where
 | none | bool (b:Bool) | int (i:Int) | str (s:Str) | bytes (b:List UInt8)
 | var (x:Nat) | typ (n:String)
 | bin (op:Operator) (a b:PE) | neg (a:PE) | ite (t a b:PE)
 | and (es:PEs) | or (es:PEs) | not (a:PE)
 | list (es:PEs) | tup (es:PEs)
 | cmp (op:CmpOp) (a b:PE) | cmp2 (a:PE) (op₁:CmpOp) (b:PE) (op₂:CmpOp) (c:PE)
 | idx (a i:PE) | slice (a:PE) (lo hi:PO)
 | comp (fv:List Nat) (elt:PE) (t:Tgt) (iter:PE) (ifs:PEs) (gs:PGs)
 | call (f:Nat) (args:PEs) (kw:PO)
 | len (a:PE) | sum (a:PE) | max (a b:PE) | bytesOf (a:PE) | typeOf (a:PE) | isStr (a:PE)
 | range1 (a:PE) | range2 (a b:PE) | range3 (a b c:PE) | enum (a:PE)
 | sortedKey (a:PE) (fv:List Nat) (x:Nat) (body:PE)
 | replace (a b c:PE) | join (a b:PE) | split (a b:PE) | isascii (a:PE) | encode (a:PE)
 | btranslate (a b c:PE)
 | fstr (es:PEs)
inductive PEs where
 | nil | cons (e:PE) (es:PEs)
inductive PO where
 | no | yes (e:PE)
inductive PGs where
 | nil | cons (t:Tgt) (iter:PE) (ifs:PEs) (gs:PGs)
end
inductive PS where
 | asg (x:Nat) (own:Bool) (e:PE)
 | asgT (xs:List Nat) (e:PE)
 | asgI (x:Nat) (i e:PE)
 | aug (x:Nat) (op:Operator) (e:PE)
 | augI (x:Nat) (i:PE) (op:Operator) (e:PE)
 | app (x:Nat) (e:PE) | appV (x:Nat) (e:PE) | getm (x y:Nat)
 | ifs (t:PE) (a b:List PS)
 | for (t:Tgt) (iter:PE) (body:List PS)
 | while (t:PE) (body:List PS)
 | ret (e:PE) | brk | cont | assert (t:PE) | try (body:List PS) | fail | asgRows (a b c:Nat) | drop (xs:List Nat)
noncomputable def Slot.read:Slot→Option D
 | .val d=>some d
 | .own l=>some (.list l)
 | .ownD kv=>some (.dict kv)
 | .meth _=>none
noncomputable def Slot.asVal:Slot→Option D
 | .val d=>some d
 | _=>none
noncomputable def Slot.asOwn:Slot→Option (List D)
 | .own l=>some l
 | _=>none
noncomputable def Slot.asOwnD:Slot→Option (List (Str×Int))
 | .ownD kv=>some kv
 | _=>none
noncomputable def Slot.asTop:Slot→Option D
 | .val d=>some d
 | .own l=>some (.list l)
 | _=>none
noncomputable def Slot.asMeth:Slot→Option Nat
 | .meth x=>some x
 | _=>none
theorem a6s {s:Slot}{d:D}(h:s.asVal=some d):s=.val d:=by cases s <;> first | (cases h;rfl) | exact a0e h
theorem a3v {s:Slot}{d:List D}(h:s.asOwn=some d):s=.own d:=by cases s <;> first | (cases h;rfl) | exact a0e h
theorem b2I {s:Slot}{d:List (Str×Int)}(h:s.asOwnD=some d):s=.ownD d:=by cases s <;> first | (cases h;rfl) | exact a0e h
theorem b2J {s:Slot}{d:Nat}(h:s.asMeth=some d):s=.meth d:=by cases s <;> first | (cases h;rfl) | exact a0e h
noncomputable def Slot.truth (s:Slot):Option Bool:=s.asTop.bind a7s
noncomputable def Slot.iter (s:Slot):Option (List D):=s.asTop.bind a5S
noncomputable def Slot.keep (x:Nat):Slot→Option (Nat×Slot)
 | .meth _=>none
 | .val d=>some (x,.val d)
 | .own l=>some (x,.own l)
 | .ownD kv=>some (x,.ownD kv)
noncomputable def a1c (σ:Store)(t:Tgt)(d:D):Option Store:=match t with
 | .one x=>grd (noMeth σ x) (some (σ.set x (.val d)))
 | .many xs=>d.asTup.bind fun ds=>grd (decide (xs.length=ds.length)&&xs.all (noMeth σ ·)) (some ((xs.zip ds).foldl (fun σ p=>σ.set p.1 (.val p.2)) σ))
noncomputable def Tgt.xs:Tgt→List Nat
 | .one x=>[x]
 | .many xs=>xs
noncomputable def a3o (σ:Store)(t:Tgt)(d:D):Option Store:=grd (t.xs.all (fun x=>(σ.get x).isNone)) (a1c σ t d)
noncomputable def a0S (σ:Store)(fv:List Nat):Option Store:=fv.mapM fun x=>(σ.get x).bind (Slot.keep x)
noncomputable def a3w (σ:Store)(fv:List Nat):Option Store:=fv.mapM fun x=>(σ.get x).bind fun s=>s.asVal.map fun d=>(x,.val d)
noncomputable abbrev Fns:=Nat→List D→Option D→Option D
noncomputable def strict (σ:Store):PE→Bool
 | .var x=>((σ.get x).bind Slot.asVal).isSome
 | .ite _ a b=>strict σ a&&strict σ b
 | _=>true
noncomputable def D.strG:D→Option (Str×Bool)
 | .str s g=>some (s,g)
 | _=>Option.none
theorem a3P {d:D}{x:Str×Bool}(h:d.strG=some x):d=.str x.1 x.2:=by cases d <;> first | (cases h;rfl) | exact a0e h
inductive PV where
 | var (x:Nat) | str (s:Str) | comp | lst | idx (a b:PE) | r1 (a:PE) | enm (a:PE) | oth
noncomputable def PE.pv:PE→PV
 | .var x=>.var x
 | .str s=>.str s
 | .comp ..=>.comp
 | .list _=>.lst
 | .idx a b=>.idx a b
 | .range1 a=>.r1 a
 | .enum a=>.enm a
 | _=>.oth
noncomputable def PV.is (e:PE):PV→Prop
 | .var x=>e=.var x
 | .str s=>e=.str s
 | .comp=>∃ fv elt t it ifs gs,e=.comp fv elt t it ifs gs
 | .lst=>∃ es,e=.list es
 | .idx a b=>e=.idx a b
 | .r1 a=>e=.range1 a
 | .enm a=>e=.enum a
 | .oth=>True
theorem c5A (e:PE):e.pv.is e:=by
 cases e with
 | comp fv elt t it ifs gs=>exact⟨fv,elt,t,it,ifs,gs,rfl⟩
 | list es=>exact⟨es,rfl⟩
 | _=>first | exact rfl | exact trivial
theorem a7h {e:PE}{v:PV}(h:e.pv=v):v.is e:=h ▸ c5A e
noncomputable def PV.asIdx:PV→Option (PE×PE)
 | .idx a b=>some (a,b)
 | _=>none
noncomputable def PV.asEnm:PV→Option PE
 | .enm a=>some a
 | _=>none
noncomputable def PV.isR1:PV→Bool
 | .r1 _=>true
 | _=>false
noncomputable def PV.isStr:PV→Bool
 | .str _=>true
 | _=>false
noncomputable def PV.isComp:PV→Bool
 | .comp=>true
 | _=>false
noncomputable def PV.okOld (g:Bool):PV→Bool
 | .str _=>true
 | .var _=>g
 | _=>false
noncomputable def b4g (b c:PE)(g:Bool):Bool:=c.pv.isStr&&b.pv.okOld g
noncomputable def c6W:D→Option D
 | .str _ _=>some (.typ "str")
 | .bytes _=>some (.typ "bytes")
 | .bool _=>some (.typ "bool")
 | _=>none
noncomputable def b1G (σ₀:Store)(x:Nat)(ev:Store→Option D)(items:List D):Option (List (List UInt8×D)):=
 items.mapM fun d=>(a3o σ₀ (.one x) d).bind fun σ'=>(ev σ').bind fun v=>v.asBytes.map fun b=>(b.toList,d)
noncomputable def cnd (c:Bool)(x:Option (List D)):Option (List D):=match c with
 | true=>x
 | false=>some []
mutual
noncomputable def evE (F:Fns)(σ:Store):PE→Option D
 | .none=>some .none
 | .bool b=>some (.bool b)
 | .int i=>some (.int i)
 | .str s=>some (.str s)
 | .bytes b=>some (.bytes b.toArray)
 | .var x=>(σ.get x).bind Slot.read
 | .typ n=>some (.typ n)
 | .bin op a b=>(evE F σ a).bind fun x=>(evE F σ b).bind fun y=>a2M op x y
 | .neg a=>(evE F σ a).bind fun x=>x.asInt.map fun i=>.int (-i)
 | .ite t a b=>(evT F σ t).bind fun c=>match c with
  | true=>evE F σ a
  | false=>evE F σ b
 | .list es=>(a3i F σ es).bind fun l=>grd (a0O l.length) (some (.list l))
 | .tup es=>(a3i F σ es).bind fun l=>grd (a0O l.length) (some (.tup l))
 | .cmp op a b=>(evE F σ a).bind fun x=>(evE F σ b).bind fun y=>(a6p op x y).map .bool
 | .idx a i=>(evE F σ a).bind fun x=>(evE F σ i).bind fun y=>a4C x y
 | .slice a lo hi=>(evE F σ a).bind fun d=>(evO F σ lo).bind fun l=>(a3u l).bind fun l'=>(evO F σ hi).bind fun h=>(a3u h).bind fun h'=>a6q d l' h'
 | .comp fv elt t iter ifs gs=>(evI F σ iter).bind fun items=>(a0S σ fv).bind fun σ₀=>
   (items.mapM fun d=>(a3o σ₀ t d).bind fun σ'=>(b1H F σ' ifs).bind fun c=>cnd c (c2w F σ' gs fun σ''=>grd (strict σ'' elt) ((evE F σ'' elt).map fun d=>[d]))).bind fun r=>grd (a0O r.flatten.length) (some (.list r.flatten))
 | .call f args kw=>(a3i F σ args).bind fun as=>(evK F σ kw).bind fun k=>F f as k
 | .len a=>(evE F σ a).bind fun d=>(c2v d).bind fun n=>grd (a0O n) (some (.int n))
 | .sum a=>(evE F σ a).bind fun d=>d.asList.bind fun l=>(l.mapM D.asInt).bind fun p=>grd (decide (p.length≤1000)&&p.all (fun i=>decide (i.natAbs<2 ^ 40))) (some (.int p.sum))
 | .max a b=>(evE F σ a).bind fun x=>(evE F σ b).bind fun y=>x.asInt.bind fun i=>y.asInt.map fun j=>.int (if i<j then j else i)
 | .bytesOf a=>(evE F σ a).bind fun d=>d.asList.bind fun l=>(l.mapM D.asInt).bind fun p=>grd (p.all (fun i=>decide (0≤i∧i<256))&&a0O p.length) (some (.bytes (byteArr p)))
 | .typeOf a=>(evE F σ a).bind c6W
 | .isStr a=>(evE F σ a).bind fun d=>d.asStr.map fun _=>.bool true
 | .sortedKey a fv x body=>(evI F σ a).bind fun items=>(a3w σ fv).bind fun σ₀=>(b1G σ₀ x (fun σ'=>evE F σ' body) items).bind fun keys=>grd (Nat.blt keys.length 64) (some (.list (b7f keys)))
 | .replace a b c=>(evE F σ a).bind fun u=>(evE F σ b).bind fun v=>(evE F σ c).bind fun w=>u.asStr.bind fun x=>v.strG.bind fun y=>w.asStr.bind fun z=>
   grd (b4g b c y.2&&(y.1 != z)&&a0O (x.length+(x.length+1)*z.length)) (some (.str (Txt.replace x y.1 z)))
 | .join a b=>(evE F σ a).bind fun u=>(evE F σ b).bind fun v=>u.asStr.bind fun x=>v.asList.bind fun l=>(l.mapM D.asStr).bind fun p=>grd (JoinOk x p) (some (.str (Txt.join x p)))
 | .split a b=>(evE F σ a).bind fun u=>(evE F σ b).bind fun v=>u.asStr.bind fun x=>v.asStr.bind fun y=>grd (!(y.length==0)&&a0O (x.length+2)) (some (.list ((Txt.split x y).map fun z=>.str z)))
 | .isascii a=>(evE F σ a).bind fun u=>u.asStr.map fun x=>.bool (Txt.isascii x)
 | .encode a=>(evE F σ a).bind fun u=>u.asStr.bind fun x=>grd (x.cps.all (·<128)&&a0O x.length) (some (.bytes (a2N x)))
 | .btranslate a b c=>(evE F σ a).bind fun u=>(evE F σ b).bind fun v=>(evE F σ c).bind fun w=>u.asBytes.bind fun x=>v.asBytes.bind fun y=>w.asBytes.bind fun z=>
   grd (decide (y.size=z.size)&&a0O x.size) (some (.bytes (a4a x.toList y.toList z.toList).toArray))
 | .fstr es=>(a3i F σ es).bind fun l=>(l.mapM D.asStr).bind fun p=>grd (a0O (p.map (·.length)).sum) (some (.str (p.foldl (·++·) Str.empty)))
 | _=>none
noncomputable def evT (F:Fns)(σ:Store):PE→Option Bool
 | .not a=>(evT F σ a).map (!·)
 | .and es=>c0d F σ es
 | .or es=>c5B F σ es
 | .ite t a b=>(evT F σ t).bind fun c=>match c with
  | true=>evT F σ a
  | false=>evT F σ b
 | .cmp op a b=>(evE F σ a).bind fun x=>(evE F σ b).bind fun y=>a6p op x y
 | .cmp2 a op₁ b op₂ c=>(evE F σ a).bind fun x=>(evE F σ b).bind fun y=>(a6p op₁ x y).bind fun r=>match r with
  | true=>(evE F σ c).bind fun z=>a6p op₂ y z
  | false=>some false
 | .var x=>(σ.get x).bind Slot.truth
 | .bool b=>some b
 | .call f args kw=>(a3i F σ args).bind fun as=>(evK F σ kw).bind fun k=>(F f as k).bind a7s
 | .isascii a=>(evE F σ a).bind fun u=>u.asStr.map Txt.isascii
 | .isStr a=>(evE F σ a).bind fun u=>u.asStr.map fun _=>true
 | .idx a i=>(evE F σ a).bind fun x=>(evE F σ i).bind fun y=>(a4C x y).bind a7s
 | _=>none
noncomputable def c0d (F:Fns)(σ:Store):PEs→Option Bool
 | .nil=>some true
 | .cons e es=>(evT F σ e).bind fun c=>match c with
  | true=>c0d F σ es
  | false=>some false
noncomputable def c5B (F:Fns)(σ:Store):PEs→Option Bool
 | .nil=>some false
 | .cons e es=>(evT F σ e).bind fun c=>match c with
  | true=>some true
  | false=>c5B F σ es
noncomputable def b1H (F:Fns)(σ:Store):PEs→Option Bool
 | .nil=>some true
 | .cons e es=>(evT F σ e).bind fun c=>match c with
  | true=>b1H F σ es
  | false=>some false
noncomputable def a3i (F:Fns)(σ:Store):PEs→Option (List D)
 | .nil=>some []
 | .cons e es=>grd (strict σ e) ((evE F σ e).bind fun d=>(a3i F σ es).map fun l=>d :: l)
noncomputable def evO (F:Fns)(σ:Store):PO→Option (Option D)
 | .no=>some none
 | .yes e=>(evE F σ e).map some
noncomputable def evK (F:Fns)(σ:Store):PO→Option (Option D)
 | .no=>some none
 | .yes e=>grd (strict σ e) ((evE F σ e).map some)
noncomputable def evI (F:Fns)(σ:Store):PE→Option (List D)
 | .range1 a=>(evE F σ a).bind fun x=>x.asInt.bind fun i=>a6r 0 i 1
 | .range2 a b=>(evE F σ a).bind fun x=>(evE F σ b).bind fun y=>x.asInt.bind fun i=>y.asInt.bind fun j=>a6r i j 1
 | .range3 a b c=>(evE F σ a).bind fun x=>(evE F σ b).bind fun y=>(evE F σ c).bind fun z=>x.asInt.bind fun i=>y.asInt.bind fun j=>z.asInt.bind fun k=>a6r i j k
 | .enum a=>(evE F σ a).bind fun x=>x.asList.bind fun l=>grd (strict σ a) (some (l.zipIdx.map fun p=>.tup [.int p.2,p.1]))
 | .var x=>(σ.get x).bind Slot.iter
 | .idx a i=>(evE F σ a).bind fun x=>(evE F σ i).bind fun y=>(a4C x y).bind a5S
 | .slice a lo hi=>(evE F σ a).bind fun d=>(evO F σ lo).bind fun l=>(a3u l).bind fun l'=>(evO F σ hi).bind fun h=>(a3u h).bind fun h'=>(a6q d l' h').bind a5S
 | .call f args kw=>(a3i F σ args).bind fun as=>(evK F σ kw).bind fun k=>(F f as k).bind a5S
 | .sortedKey a fv x body=>(evI F σ a).bind fun items=>(a3w σ fv).bind fun σ₀=>(b1G σ₀ x (fun σ'=>evE F σ' body) items).bind fun keys=>grd (Nat.blt keys.length 64) (some (b7f keys))
 | _=>none
noncomputable def c2w (F:Fns)(σ:Store):PGs→(Store→Option (List D))→Option (List D)
 | .nil,k=>k σ
 | .cons t iter ifs gs,k=>(evI F σ iter).bind fun items=>(items.mapM fun d=>(a3o σ t d).bind fun σ'=>(b1H F σ' ifs).bind fun c=>cnd c (c2w F σ' gs k)).map List.flatten
end
inductive Out where
 | next (σ:Store) | brk (σ:Store) | cont (σ:Store) | ret (d:D)
noncomputable def c7s:Operator→Bool
 | .Add | .Sub | .Mult=>true
 | _=>false
noncomputable def c2G (op:Operator)(a b:D):Option D:=match op with
 | .Add=>(b0C a b fun x y=>some (x+y)).or (c5g a b fun x y=>grd (a0O (x.length+y.length)) (some (.str (x++y))))
 | .Mult=>b0C a b fun x y=>grd (a2L x y) (some (x*y))
 | _=>none
noncomputable def a0E (kv:List (Str×Int))(k:Str)(i:Int):List (Str×Int):=match kv with
 | []=>[(k,i)]
 | (x,j) :: r=>if k==x then (x,i) :: r else (x,j) :: a0E r k i
noncomputable def Store.only (σ:Store)(f:Nat→Bool):Store:=σ.filter fun p=>f p.1
noncomputable def Slot.freeze:Slot→Option Slot
 | .val d=>some (.val d)
 | .own l=>some (.val (.list l))
 | .ownD kv=>some (.val (.dict kv))
 | .meth _=>none
noncomputable def freezeAll (σ:Store):Store:=σ.filterMap fun p=>(σ.get p.1).bind fun s=>s.freeze.map fun s'=>(p.1,s')
noncomputable def Tgt.has:Tgt→Nat→Bool
 | .one y,x=>y==x
 | .many ys,x=>ys.contains x
noncomputable def PV.asVar:PV→Option Nat
 | .var y=>some y
 | _=>none
noncomputable def a5T (e:PE):Option Nat:=e.pv.asVar
mutual
noncomputable def c0e:PS→Nat→Bool
 | .asg y _ e,x=>y==x||(match a5T e with
  | some z=>z==x
  | none=>false)
 | .asgT ys _,x=>ys.contains x
 | .asgI y _ _,x=>y==x
 | .aug y _ _,x=>y==x
 | .augI y _ _ _,x=>y==x
 | .app y _,x=>y==x
 | .getm y _,x=>y==x
 | .appV _ _,_=>true
 | .ifs _ a b,x=>a4D a x||a4D b x
 | .for t _ b,x=>t.has x||a4D b x
 | .while _ b,x=>a4D b x
 | .try b,x=>a4D b x
 | .asgRows a b c,x=>a==x||b==x||c==x
 | _,_=>false
noncomputable def a4D:List PS→Nat→Bool
 | [],_=>false
 | s :: r,x=>c0e s x||a4D r x
end
noncomputable def PV.forOk (σ:Store):PV→Bool
 | .var x=>strict σ (.var x)
 | _=>true
noncomputable def forOk (σ:Store)(e:PE):Bool:=e.pv.forOk σ
noncomputable def D.ownOf:D→Option Slot
 | .list l=>some (.own l)
 | _=>Option.none
noncomputable def c5C (F:Fns)(σ:Store)(e:PE):Option Slot:=match e.pv with
 | .lst=>(evE F σ e).bind D.ownOf
 | .comp=>(evE F σ e).bind D.ownOf
 | _=>none
noncomputable def b9t (σ:Store)(x y:Nat)(s:Slot):Option Out:=
 (s.asOwn.bind fun l=>grd (noMeth σ y) (some (.next ((σ.set y (.val (.list l))).set x (.val (.list l)))))).or <| s.asVal.map fun d=>.next (σ.set x (.val d))
noncomputable def c7t (σ:Store)(x:Nat)(s:Slot)(u d:D):Option Out:=
 s.asOwnD.bind fun kv=>u.asStr.bind fun k=>d.asInt.bind fun j=>grd (a0O (kv.length+1)) (some (.next (σ.set x (.ownD (a0E kv k j)))))
noncomputable def c5D (σ:Store)(x:Nat)(op:Operator)(s:Slot)(u b:D):Option Out:=
 s.asOwn.bind fun l=>u.asInt.bind fun k=>(grd (decide (0≤k)) (b0B k l.length)).bind fun j=>(l[j]?).bind fun a=>(c2G op a b).map fun d=>.next (σ.set x (.own (l.set j d)))
mutual
noncomputable def evS (F:Fns)(fuel:Nat)(σ:Store):PS→Option Out
 | .asg x own e=>grd (noMeth σ x) (match own with
  | true=>(c5C F σ e).map fun sl=>.next (σ.set x sl)
  | false=>match a5T e with
   | some y=>(σ.get y).bind (b9t σ x y)
   | none=>grd (strict σ e) ((evE F σ e).map fun d=>.next (σ.set x (.val d))))
 | .asgT xs e=>(evE F σ e).bind fun d=>(a1c σ (.many xs) d).map .next
 | .asgI x i e=>(σ.get x).bind fun s=>(evE F σ i).bind fun u=>(evE F σ e).bind fun d=>c7t σ x s u d
 | .aug x op e=>(σ.get x).bind fun s=>s.asVal.bind fun a=>(evE F σ e).bind fun b=>grd (noMeth σ x) ((c2G op a b).map fun d=>.next (σ.set x (.val d)))
 | .augI x i op e=>(σ.get x).bind fun s=>(evE F σ i).bind fun u=>(evE F σ e).bind fun b=>c5D σ x op s u b
 | .app x e=>(σ.get x).bind fun s=>s.asOwn.bind fun l=>(evE F σ e).bind fun d=>grd (strict σ e&&a0O l.length) (some (.next (σ.set x (.own (l++[d])))))
 | .appV y e=>(σ.get y).bind fun m=>m.asMeth.bind fun x=>(σ.get x).bind fun s=>s.asOwn.bind fun l=>(evE F σ e).bind fun d=>grd (strict σ e&&a0O l.length) (some (.next (σ.set x (.own (l++[d])))))
 | .getm x y=>(σ.get y).bind fun s=>s.asOwn.bind fun _=>grd (noMeth σ x&&x != y) (some (.next (σ.set x (.meth y))))
 | .ifs t a b=>(evT F σ t).bind fun c=>match c with
  | true=>a0C F fuel σ a
  | false=>a0C F fuel σ b
 | .for t iter body=>grd (forOk σ iter) ((evI F σ iter).bind fun l=>a5U (fun σ d=>(a1c σ t d).bind fun σ'=>a0C F fuel σ' body) σ l)
 | .while t body=>a1I (evT F · t) (a0C F fuel · body) fuel σ
 | .ret e=>grd (strict (freezeAll σ) e) ((evE F (freezeAll σ) e).map .ret)
 | .brk=>some (.brk σ)
 | .fail=>none
 | .drop xs=>grd (xs.all fun x=>!(σ.isOwn x)) (some (.next (σ.only fun y=>!(xs.contains y))))
 | .asgRows a b c=>grd (noMeth σ a&&noMeth σ b&&noMeth σ c) (some (.next (((σ.set c (.own [])).set b (.ownD [])).set a (.val .none))))
 | .cont=>some (.cont σ)
 | .assert t=>(evT F σ t).bind fun c=>grd c (some (.next σ))
 | .try body=>(a0C F fuel σ body).bind fun o=>match o with
  | .ret d=>some (.ret d)
  | .next σ'=>some (.next σ')
  | _=>none
noncomputable def a0C (F:Fns)(fuel:Nat)(σ:Store):List PS→Option Out
 | []=>some (.next σ)
 | s :: r=>(evS F fuel σ s).bind fun o=>match o with
  | .next σ'=>a0C F fuel σ' r
  | o=>some o
noncomputable def a5U (body:Store→D→Option Out)(σ:Store):List D→Option Out
 | []=>some (.next σ)
 | d :: r=>(body σ d).bind fun o=>match o with
  | .next σ'=>a5U body σ' r
  | .cont σ'=>a5U body σ' r
  | .brk σ'=>some (.next σ')
  | .ret d=>some (.ret d)
noncomputable def a1I (test:Store→Option Bool)(body:Store→Option Out):Nat→Store→Option Out
 | 0,_=>none
 | n+1,σ=>(test σ).bind fun c=>match c with
  | false=>some (.next σ)
  | true=>(body σ).bind fun o=>match o with
   | .next σ'=>a1I test body n σ'
   | .cont σ'=>a1I test body n σ'
   | .brk σ'=>some (.next σ')
   | .ret d=>some (.ret d)
end
structure Def where
 f:Nat
 params:List Nat
 kwonly:List Nat
 dflt:List D:=[]
 body:List PS
end
section
theorem a2g {n:Nat}(h:a0O n=true):n≤16777216:=c7U h
theorem a0H {n:Nat}(h:a0O n=true):n≤sizeLine:=c7V ▸ a2g h
theorem c5h {n m:Nat}(h:a0O n=true)(hm:16777216<m):n<m:=c7W (a2g h) hm
theorem a4E {n:Nat}(h:a0O n=true):(n:Int)<2 ^ 63:=Int.lt_of_le_of_lt (Int.ofNat_le.mpr (a2g h)) (by decide)
theorem b1I {x y:Int}(hx:a2L x y=true):IntMulOk x y:=by
 intro h
 refine a0b h (clear% h;fun h h3=>?_)
 refine a0b h (clear% h;fun h1 h2=>?_)
 have h1:=c7X h1
 have h2:=c7X h2
 rcases or2 hx with hx | hx
 ·rcases or2 hx with hx | hx
  ·exact absurd (c7X hx) (Nat.not_le_of_lt h1)
  ·exact absurd (c7X hx) (Nat.not_le_of_lt h2)
 ·have hx:=c7X hx
  have h3:(134217728:Int)<(Builtin.Int.intBits x:Int)+(Builtin.Int.intBits y:Int):=c7X h3
  exact absurd (Int.ofNat_le.mpr hx) (Int.not_le.mpr (Int.lt_trans (by decide) h3))
section
variable {C:RC}{B:Addr→Prop}{h:Heap}{n:Nat}{v:Value}{d:D}{P:Value→Prop}
theorem RepT.intP (x:RepT C B h n v d){i:Int}(e:d.asInt=some i)(k:∀ t,P (.int i t)):P v:=by
 rw [a9l e] at x
 refine (x.asInt).elim fun t Z1=>?_
 subst Z1
 exact k t
theorem RepT.strP (x:RepT C B h n v d){y:Str}(e:d.asStr=some y)(k:∀ t,P (.str y t)):P v:=by
 refine (a4B e).elim fun g Z1=>?_
 subst Z1
 refine (x.asStr).elim fun t Z1=>Z1.elim (fun Z2 _=>?_)
 subst Z2
 exact k t
theorem RepT.bytesP (x:RepT C B h n v d){b:Array UInt8}(e:d.asBytes=some b)(k:∀ t,P (.bytes b t)):P v:=by
 rw [a2X e] at x
 refine (x.asBytes).elim fun t Z1=>?_
 subst Z1
 exact k t
theorem RepT.boolP (x:RepT C B h n v d){b:Bool}(e:d.asBool=some b)(k:P (.bool b)):P v:=by
 rw [b2G e] at x
 rw [x.asBool]
 exact k
theorem RepT.listP (x:RepT C B h n v d){l:List D}(e:d.asList=some l)(k:∀ a (vs:List Value),h.IsList a vs.toArray→RepL C B h n vs l→P (.ref a)):P v:=by
 rw [a2i e] at x
 obtain⟨a,vs,rfl,h1,h2⟩:=x.asList
 exact k a vs h1 h2
theorem RepT.tupP (x:RepT C B h n v d){l:List D}(e:d.asTup=some l)(k:∀ a (vs:List Value),IsTup h a vs.toArray→RepL C B h n vs l→P (.ref a)):P v:=by
 rw [a2m e] at x
 obtain⟨a,vs,rfl,_,h1,h2⟩:=x.asTup
 exact k a vs h1 h2
end
noncomputable def Does (G:GC)(Γ:Ctx)(σ:Store)(oa:Nat→Addr)(m:Sem Value)(s:Shared)(d:D):Prop:=
 ∀ (Q E:Value→Shared→Prop),(∀ v s',Kf s s'→RD G Γ σ oa s' v d→Q v s')→wpAny (model G.prog G.w) Γ.A m Q E s
noncomputable def Says (G:GC)(A:Around)(m:Sem Value)(s:Shared)(r:Bool):Prop:=
 ∀ (Q E:Value→Shared→Prop),(∀ s',Kf s s'→Q (.bool r) s')→wpAny (model G.prog G.w) A m Q E s
section
variable {G:GC}{Γ:Ctx}{lvl:Nat}{sc:a0h}{σ:Store}{oa:Nat→Addr}{s s':Shared}{m:Sem Value}{va vb v:Value}{a b d:D}{E:Value→Shared→Prop}{A:Around}
theorem Does.of (h:∀ (Q E:Value→Shared→Prop),(∀ v s',Kf s s'→RD G Γ σ oa s' v d→Q v s')→wpAny (model G.prog G.w) Γ.A m (fun v s'=>s.toks≤s'.toks→Q v s') E s):Does G Γ σ oa m s d:=
 fun Q E hQ=>c7Y (n:=s.toks) (c7G _) (h Q _ hQ)
theorem Does.tok (h:∀ (Q E:Value→Shared→Prop),(∀ v tk,s.toks≤tk→c5y (rc G Γ) (a0k Γ σ oa) s.heap tk v d→Q v { s with toks:=tk })→wpAny (model G.prog G.w) Γ.A m (fun v s'=>s.toks≤s'.toks→Q v s') E s)
  (hd:∀ v tk,c5y (rc G Γ) (a0k Γ σ oa) s.heap tk v d→Rep (rc G Γ) (a0k Γ σ oa) s.heap tk v d):Does G Γ σ oa m s d:=
 Does.of fun Q E hQ=>h Q E fun v tk ht r=>hQ v _ (Kf.tok ht) (hd v tk r)
theorem Does.int {i:Int}(h:∀ (Q E:Value→Shared→Prop),(∀ t tk,s.toks≤tk→Q (.int i t) { s with toks:=tk })→wpAny (model G.prog G.w) Γ.A m (fun v s'=>s.toks≤s'.toks→Q v s') E s):Does G Γ σ oa m s (.int i):=
 Does.of fun Q E hQ=>h Q E fun t _ ht=>hQ _ _ (Kf.tok ht) (.int i t)
theorem Does.str {x:Str}(h:∀ (Q E:Value→Shared→Prop),(∀ t tk,s.toks≤tk→Q (.str x t) { s with toks:=tk })→wpAny (model G.prog G.w) Γ.A m (fun v s'=>s.toks≤s'.toks→Q v s') E s):Does G Γ σ oa m s (.str x):=
 Does.of fun Q E hQ=>h Q E fun t _ ht=>hQ _ _ (Kf.tok ht) (.str x t _ nofun)
theorem Does.bytes {x:Array UInt8}(h:∀ (Q E:Value→Shared→Prop),(∀ t tk,s.toks≤tk→Q (.bytes x t) { s with toks:=tk })→wpAny (model G.prog G.w) Γ.A m (fun v s'=>s.toks≤s'.toks→Q v s') E s):Does G Γ σ oa m s (.bytes x):=
 Does.of fun Q E hQ=>h Q E fun t _ ht=>hQ _ _ (Kf.tok ht) (.bytes x t)
theorem Says.of {r:Bool}(h:∀ (Q E:Value→Shared→Prop),(∀ tk,s.toks≤tk→Q (.bool r) { s with toks:=tk })→wpAny (model G.prog G.w) A m (fun v s'=>s.toks≤s'.toks→Q v s') E s):Says G A m s r:=
 fun Q E hQ=>c7Y (n:=s.toks) (c7G _) (h Q _ fun _ ht=>hQ _ (Kf.tok ht))
theorem St.newNot (S:St G Γ lvl sc σ oa s):¬ a0k Γ σ oa s.heap.objs.size:=fun q=>(S.alloc _ q).elim fun o e=>Nat.lt_irrefl _ (c7Z e)
theorem b4h {h:Heap}:h.get? h.objs.size=none:=by
 cases e:h.get? h.objs.size with
 | none=>rfl
 | some o=>exact absurd (c7Z e) (Nat.lt_irrefl _)
theorem St.newList (S:St G Γ lvl sc σ oa s){vs:List Value}{ds:List D}{tk:Nat}(r:RL G Γ σ oa s vs ds)(ht:s.toks≤tk):RD G Γ σ oa { s with heap:=s.heap.push { cls:=.type "list",data:=.seq vs.toArray },toks:=tk } (.ref s.heap.objs.size) (.list ds):=
 .list (vs:=vs) S.newNot ⟨_,c8a _ rfl,rfl,0,rfl⟩ (r.keep ht fun b o _ e=>c7P _ e)
section
variable {P:Value→Value→Prop}
theorem RepT.ii (P:Value→Value→Prop)(ha:RT G Γ σ oa s va a)(hb:RT G Γ σ oa s vb b){x y:Int}(hx:a.asInt=some x)(hy:b.asInt=some y)(k:∀ t u,P (.int x t) (.int y u)):P va vb:=
 RepT.intP (P:=fun v=>P v vb) ha hx fun t=>RepT.intP (P:=P _) hb hy (k t)
theorem RepT.ss (P:Value→Value→Prop)(ha:RT G Γ σ oa s va a)(hb:RT G Γ σ oa s vb b){x y:Str}(hx:a.asStr=some x)(hy:b.asStr=some y)(k:∀ t u,P (.str x t) (.str y u)):P va vb:=
 RepT.strP (P:=fun v=>P v vb) ha hx fun t=>RepT.strP (P:=P _) hb hy (k t)
theorem RepT.bb (P:Value→Value→Prop)(ha:RT G Γ σ oa s va a)(hb:RT G Γ σ oa s vb b){x y:Array UInt8}(hx:a.asBytes=some x)(hy:b.asBytes=some y)(k:∀ t u,P (.bytes x t) (.bytes y u)):P va vb:=
 RepT.bytesP (P:=fun v=>P v vb) ha hx fun t=>RepT.bytesP (P:=P _) hb hy (k t)
theorem RepT.ll (P:Value→Value→Prop)(ha:RT G Γ σ oa s va a)(hb:RT G Γ σ oa s vb b){x y:List D}(hx:a.asList=some x)(hy:b.asList=some y)
  (k:∀ l m (vs ws:List Value),s.heap.IsList l vs.toArray→s.heap.IsList m ws.toArray→RL G Γ σ oa s vs x→RL G Γ σ oa s ws y→P (.ref l) (.ref m)):P va vb:=
 RepT.listP (P:=fun v=>P v vb) ha hx fun l vs h1 r1=>RepT.listP (P:=P _) hb hy fun m ws h2 r2=>k l m vs ws h1 h2 r1 r2
end
theorem a3x {op:Operator}{f:Int→Int→Option Int}(ha:RT G Γ σ oa s va a)(hb:RT G Γ σ oa s vb b)(h:b0C a b f=some d)
  (hf:∀ x y z t u,f x y=some z→Does G Γ σ oa (binaryOp op (.int x t) (.int y u)) s (.int z)):Does G Γ σ oa (binaryOp op va vb) s d:=by
 refine a0j h (clear% h;fun x hx h1=>?_)
 refine a0j h1 (clear% h1;fun y hy h2=>?_)
 refine a2v h2 (clear% h2;fun z hz Z1=>?_)
 subst Z1
 exact RepT.ii (fun v w=>Does G Γ σ oa (binaryOp op v w) s (.int z)) ha hb hx hy fun t u=>hf x y z t u hz
theorem b2K (S:St G Γ lvl sc σ oa s){l m:Addr}{vs ws:List Value}{x y:List D}(hl:s.heap.IsList l vs.toArray)(hm:s.heap.IsList m ws.toArray)(rl:RL G Γ σ oa s vs x)(rm:RL G Γ σ oa s ws y)(hx:a0O (x.length+y.length)=true) :
  Does G Γ σ oa (binaryOp .Add (.ref l) (.ref m)) s (.list (x++y)):=by
 refine Does.of fun Q E hQ=>?_
 obtain⟨⟨cls,dd,data,sl⟩,ho,hc,n,hd⟩:=id hl
 obtain⟨⟨cls2,dd2,data2,sl2⟩,ho2,hc2,n2,hd2⟩:=id hm
 subst hc hd hc2 hd2
 have hsz:vs.toArray.size+ws.toArray.size≤sizeLine:=by
  rw [c8b,c8b,rl.length,rm.length]
  exact a0H hx
 refine concat_meets ⟨_,ho,rfl⟩ ⟨_,ho2,rfl⟩ noFill_list_add seq_list_add PySem.F.slot_list_add PySem.F.entry_list_add (PySem.F.args_list_add_2 _ _) (list_addW l m vs.toArray ws.toArray n n2 dd dd2 sl sl2 hsz) ⟨ho,ho2,fun ht=>hQ _ _ (Kf.push ht) ?_⟩
 rw [List.append_toArray]
 exact S.newList (rl.append rm) ht
theorem c2H (S:St G Γ lvl sc σ oa s)(ha:RT G Γ σ oa s va a)(hb:RT G Γ σ oa s vb b)(h:c6U a b=some d):Does G Γ σ oa (binaryOp .Add va vb) s d:=by
 rcases a0I h with h | h
 ·exact a3x ha hb h fun x y z t u hz=>c7Q hz ▸ .int fun Q E hQ=>add_int fun ht=>hQ _ _ ht
 rcases a0I h with h | h
 ·refine a0j h (clear% h;fun x hx h=>?_)
  refine a0j h (clear% h;fun y hy h=>?_)
  refine a0Q h (clear% h;fun hc h=>?_)
  exact h ▸ RepT.ss (fun v w=>Does G Γ σ oa (binaryOp .Add v w) s _) ha hb hx hy fun t u=>.str fun Q E hQ=>add_str (fun t' k ht=>hQ _ _ ht) (a0H hc)
 rcases a0I h with h | h
 ·refine a0j h (clear% h;fun x hx h=>?_)
  refine a0j h (clear% h;fun y hy h=>?_)
  refine a0Q h (clear% h;fun hc h=>?_)
  exact h ▸ RepT.ll (fun v w=>Does G Γ σ oa (binaryOp .Add v w) s _) ha hb hx hy fun l m vs ws hl hm rl rm=>b2K S hl hm rl rm hc
 ·refine a0j h (clear% h;fun x hx h=>?_)
  refine a0j h (clear% h;fun y hy h=>?_)
  refine a0Q h (clear% h;fun hc h=>?_)
  exact h ▸ RepT.bb (fun v w=>Does G Γ σ oa (binaryOp .Add v w) s _) ha hb hx hy fun t u=>.bytes fun Q E hQ=>KBy.add_bytes (a2g hc) fun t' k ht=>hQ _ _ ht
theorem c2I (ha:RT G Γ σ oa s va a)(hb:RT G Γ σ oa s vb b)(h:c6V a b=some d):Does G Γ σ oa (binaryOp .Mult va vb) s d:=by
 rcases a0I h with h | h
 ·refine a3x ha hb h fun x y z t u hz=>?_
  refine a0Q hz (clear% hz;fun hc hz=>?_)
  exact hz ▸ .int fun Q E hQ=>mul_int (fun ht=>hQ _ _ ht) (b1I hc)
 ·refine a0j h (clear% h;fun x hx h=>?_)
  refine a0j h (clear% h;fun y hy h=>?_)
  refine a0Q h (clear% h;fun hc h=>?_)
  refine a0b hc (clear% hc;fun hc h3=>?_)
  refine a0b hc (clear% hc;fun h1 h2=>?_)
  exact h ▸ RepT.strP (P:=fun v=>Does G Γ σ oa (binaryOp .Mult v vb) s _) ha hx fun t=>RepT.intP (P:=fun w=>Does G Γ σ oa (binaryOp .Mult _ w) s _) hb hy fun u=>.str fun Q E hQ=>SB.mul (mulOk_of 1000 1000 (c7U h1) (c7X h3) (Int.le_trans (by decide) (c7X h2)) (by decide) (by decide)) fun t' k ht=>hQ _ _ ht
theorem b7g (S:St G Γ lvl sc σ oa s){op:Operator}(ha:RT G Γ σ oa s va a)(hb:RT G Γ σ oa s vb b)(h:a2M op a b=some d):Does G Γ σ oa (binaryOp op va vb) s d:=by
 induction op with
 | Add=>exact c2H S ha hb h
 | Mult=>exact c2I ha hb h
 | Sub=>exact a3x ha hb h fun x y z t u hz=>c7Q hz ▸ .int fun Q E hQ=>sub_int fun ht=>hQ _ _ ht
 | FloorDiv=>
  refine a3x ha hb h fun x y z t u hz=>?_
  refine a0Q hz (clear% hz;fun hc hz=>?_)
  have hc:=a2w hc
  cases h0:decide (y=0) with
  | true=>rw [h0] at hc;exact absurd hc.symm c7I
  | false=>
   rw [h0] at hc
   exact hz ▸ .int fun Q E hQ=>floordiv_int (of_decide_eq_false h0) (fun ht=>hQ _ _ ht) (.inl hc)
 | Mod=>
  refine a3x ha hb h fun x y z t u hz=>?_
  refine a0Q hz (clear% hz;fun hc hz=>?_)
  exact hz ▸ .int fun Q E hQ=>mod_int (of_decide_eq_false (a2w hc)) fun ht=>hQ _ _ ht
 | Pow=>
  refine a3x ha hb h fun x y z t u hz=>?_
  refine a0Q hz (clear% hz;fun hc hz=>?_)
  refine a0b hc (clear% hc;fun h1 h2=>?_)
  exact hz ▸ .int fun Q E hQ=>pow_int (c7X h1) (c7X h2) fun ht=>hQ _ _ ht
 | BitXor=>exact a3x ha hb h fun x y z t u hz=>c7Q hz ▸ .int fun Q E hQ=>xor_int fun ht=>hQ _ _ ht
 | BitOr=>exact a3x ha hb h fun x y z t u hz=>c7Q hz ▸ .int fun Q E hQ=>or_int fun ht=>hQ _ _ ht
 | BitAnd=>exact a3x ha hb h fun x y z t u hz=>c7Q hz ▸ .int fun Q E hQ=>and_int fun ht=>hQ _ _ ht
 | LShift=>
  refine a3x ha hb h fun x y z t u hz=>?_
  refine a0Q hz (clear% hz;fun hc hz=>?_)
  refine a0b hc (clear% hc;fun hc h3=>?_)
  refine a0b hc (clear% hc;fun h1 h2=>?_)
  exact hz ▸ .int fun Q E hQ=>lshift_int_small (c7X h1) (c7X h2) (c7X h3) fun ht=>hQ _ _ ht
 | RShift=>
  refine a3x ha hb h fun x y z t u hz=>?_
  refine a0Q hz (clear% hz;fun hc hz=>?_)
  exact hz ▸ .int fun Q E hQ=>rshift_int (c7X hc) fun ht=>hQ _ _ ht
 | _=>exact a0e h
end
end
section
theorem a8e (a b:Array UInt8)(t u:Tok):MeetsSeq.EqGives (.bytes a t) (.bytes b u) (a.toList==b.toList):=fun prog w A E s Q h=>by
 unfold eqBool
 refine c8c ?_
 refine wpAny_ite_split (fun hab=>?_) (fun _=>?_)
 ·have e:=c8d hab
  injection e with e1 e2
  subst e1
  exact c8e (wpAny_rule (c8f (by simpa using h)))
 ·exact c8e (eq_bytes (c8g h))
theorem a1z:isSubtype (.type "NoneType") (.type "bytes")=pure false:=by rw [c8h];kernel_rfl
theorem a8f (a:Array UInt8)(t:Tok):Gives (Builtin.«bytes.__ne__» ⟨[.bytes a t,.none],[]⟩) (.val (Value.notImplemented)):=by
 refine .of_wp fun M A E s Q hq=>?_
 show wpAny M A (isInstance .none (.type "bytes") >>= fun r=>_) _ E s
 refine c8e (wpAny_isInstance (T:="NoneType") rfl a1z ?_)
 refine c8e (wpAny_isInstance (T:="NoneType") rfl a1z ?_)
 exact c8e (wpAny_rule (c8f ⟨_,rfl,hq⟩))
theorem a5o (a:Array UInt8)(t:Tok):Gives (Builtin.«NoneType.__ne__» ⟨[.none,.bytes a t],[]⟩) (.val (Value.notImplemented)):=
 .of_wp fun M A E s Q h=>by obtain⟨hp,g,d,tk,os⟩:=s;wp_walk;exact⟨_,rfl,h⟩
section
variable {prog:Program}{w:World}{A:Around}{E:Value→Shared→Prop}{s:Shared}{h₀:Heap}{Q:Value→Shared→Prop}
theorem a8g {b:Array UInt8}{t:Tok}(h:Q (.bool true) s):wpAny (model prog w) A (compareOp .NotEq (.bytes b t) .none) Q E s:=by
 show wpAny _ A (richCompare .NotEq _ _) Q E s
 exact EqNone.wpAny_richCompare_ne_decline (k:=false) (fun s'=>typeIs_bytes _ _ _) (fun _=>rfl) (by decide) a1z FB.slot_bytes_ne F.slot_NoneType_ne_refl rfl
  (call_gives FB.slot_bytes_ne (typeIs_bytes _ _ _) FB.entry_bytes_ne (FB.args_bytes_ne_2 _ _) (a8f _ _)
   ⟨rfl,call_gives F.slot_NoneType_ne_refl rfl F.entry_NoneType_ne (F.args_NoneType_ne_2 _ _) (a5o _ _) ⟨rfl,h⟩⟩)
end
section
variable {C:RC}{B:Addr→Prop}{h:Heap}{n:Nat}
noncomputable def c6X (x:Str):Value→Bool
 | .str i _=>i==x
 | _=>false
noncomputable def a3Q (x:Array UInt8):Value→Bool
 | .bytes i _=>i.toList==x.toList
 | _=>false
theorem a3R {α:Type}{f:D→Option α}{d:D}{ds:List D}{p:List α}(h:(d :: ds).mapM f=some p):∃ x q,f d=some x∧ds.mapM f=some q∧p=x :: q:=by
 rw [c8i] at h
 refine a0j h (clear% h;fun x h1 h2=>?_)
 refine a0j h2 (clear% h2;fun q h3 h4=>?_)
 exact⟨x,q,h1,h3,(c7Q h4).symm⟩
theorem a1u {α:Type}{f:D→Option α}{p:List α}(h:([]:List D).mapM f=some p):p=[]:=(c7Q h).symm
theorem b0H {vs:List Value}{ds:List D}{p:List Str}(r:RepL C B h n vs ds)(e:ds.mapM D.asStr=some p):StrsAre vs p:=by
 induction ds generalizing vs p with
 | nil=>cases r.view;cases a1u e;exact .nil
 | cons d ds ih=>
  obtain⟨x,q,hx,hq,rfl⟩:=a3R e
  refine (a4B hx).elim fun g Z1=>?_
  subst Z1
  obtain⟨v,q',rfl,a,r1⟩:=r.view
  refine (a.view).elim fun t Z1=>Z1.elim (fun Z2 _=>?_)
  subst Z2
  exact .cons _ _ (ih r1 hq)
theorem a8h {vs:List Value}{ds:List D}{p:List Int}(r:RepL C B h n vs ds)(e:ds.mapM D.asInt=some p):IntsAre vs p:=by
 induction ds generalizing vs p with
 | nil=>cases r.view;cases a1u e;exact .nil
 | cons d ds ih=>
  obtain⟨x,q,hx,hq,rfl⟩:=a3R e
  obtain rfl:=a9l hx
  obtain⟨v,q',rfl,a,r1⟩:=r.view
  refine (a.view).elim fun t Z1=>?_
  subst Z1
  exact .cons _ _ (ih r1 hq)
theorem a8i {vs:List Value}{p:List Int}(h:IntsAre vs p):∀ j (hj:j<vs.length),∃ t,vs[j]=.int (p.getD j 0) t:=by
 induction h with
 | nil=>exact fun j hj=>absurd hj (Nat.not_lt_zero j)
 | cons k t r ih=>
  intro j hj
  cases j with
  | zero=>exact⟨_,rfl⟩
  | succ j=>exact ih j (Nat.lt_of_succ_lt_succ hj)
theorem b7h {p q:List Int}(h:p.length=q.length):((List.range p.length).all fun j=>p.getD j 0==q.getD j 0)=(p==q):=by
 rw [c8j,c8k,c7L]
 refine⟨fun h'=>List.ext_getElem h fun i h1 h2=>?_,fun e i _=>by rw [e];exact c7R _⟩
 have e:=c8d (h' i (c8l.mpr h1))
 rw [c8m,c8m,c8n h1,c8n h2] at e
 exact e
theorem b4i {vs:List Value}{ds:List D}{p:List (Array UInt8)}{x:Array UInt8}(r:RepL C B h n vs ds)(e:ds.mapM D.asBytes=some p) :
  vs.any (a3Q x)=p.any (fun y=>y.toList==x.toList)∧∀ t,∀ y∈vs,MeetsSeq.EqGives y (.bytes x t) (a3Q x y):=by
 induction ds generalizing vs p with
 | nil=>cases r.view;cases a1u e;exact⟨rfl,fun _ _ h=>nomatch h⟩
 | cons d ds ih=>
  obtain⟨z,q,hx,hq,rfl⟩:=a3R e
  obtain rfl:=a2X hx
  obtain⟨v,q',rfl,a,r1⟩:=r.view
  refine (a.view).elim fun u Z1=>?_
  subst Z1
  refine⟨c7H (z.toList==x.toList||·) (ih r1 hq).1,fun t y hy=>?_⟩
  rcases c8o.mp hy with hy | hy
  ·rw [hy];exact a8e _ _ _ _
  ·exact (ih r1 hq).2 t y hy
end
theorem AOk.units {A:Around}{lvl:Nat}(h:AOk lvl A):A.units<cLine:=c7W (c7O (c8p _ (8*lvl)) (c8p _ 200)) h.2.2
section
variable {G:GC}{A:Around}{s:Shared}{va vb:Value}{r:Bool}
noncomputable def SaysN (G:GC)(A:Around)(neg:Bool)(op nop:CmpOp)(va vb:Value)(s:Shared)(r:Bool):Prop:=Says G A (compareOp (bif neg then nop else op) va vb) s (bif neg then !r else r)
theorem SaysN.of {neg:Bool}{op nop:CmpOp}(h:Says G A (compareOp op va vb) s r)(h':Says G A (compareOp nop va vb) s (!r)):SaysN G A neg op nop va vb s r:=by
 cases neg with
 | false=>exact h
 | true=>exact h'
variable {neg:Bool}
theorem c0f (x y:Int)(t u:Tok):SaysN G A neg .Eq .NotEq (.int x t) (.int y u) s (x==y):=.of (.of fun Q E hQ=>eq_int fun ht=>hQ _ ht) (.of fun Q E hQ=>ne_int fun ht=>hQ _ ht)
theorem c0g (x y:Str)(t u:Tok):SaysN G A neg .Eq .NotEq (.str x t) (.str y u) s (x==y):=.of (.of fun Q E hQ=>eq_str fun ht=>hQ _ ht) (.of fun Q E hQ=>ne_str fun ht=>hQ _ ht)
theorem b4j (x y:Array UInt8)(t u:Tok):SaysN G A neg .Eq .NotEq (.bytes x t) (.bytes y u) s (x.toList==y.toList):=.of (.of fun Q E hQ=>eq_bytes fun ht=>hQ _ ht) (.of fun Q E hQ=>ne_bytes fun ht=>hQ _ ht)
theorem b7i (x y:Bool):SaysN G A neg .Eq .NotEq (.bool x) (.bool y) s (x==y):=.of (.of fun Q E hQ=>eq_bool fun ht=>hQ _ ht) (.of fun Q E hQ=>ne_bool fun ht=>hQ _ ht)
variable (hu:A.units<cLine){l m:Addr}{vs ws:List Value}(hl:s.heap.IsList l vs.toArray)(hm:s.heap.IsList m ws.toArray)
include hu hl hm
theorem b4k (hne:(vs.length != ws.length)=true):SaysN G A neg .Eq .NotEq (.ref l) (.ref m) s false:=
 .of (.of fun Q E hQ=>SeqAt.eq_list_lengthsAt hl hm hne hu fun ht=>hQ _ ht) (.of fun Q E hQ=>SeqAt.RcNeAt.lists_lengths hl hm hne hu _ _ _ _ fun ht=>hQ _ ht)
theorem b1J {p q:List Int}(ip:IntsAre vs p)(iq:IntsAre ws q)(hlen:p.length=q.length):SaysN G A neg .Eq .NotEq (.ref l) (.ref m) s (p==q):=by
 have hsz:vs.toArray.size=ws.toArray.size:=ip.length.trans (hlen.trans iq.length.symm)
 have hE:∀ j (h1:j<vs.toArray.size) (h2:j<ws.toArray.size),SeqAt.EqAt A.in1 s vs.toArray[j] ws.toArray[j] (p.getD j 0==q.getD j 0):=fun j h1 h2=>by
  refine (a8i ip j h1).elim fun t e1=>?_
  refine (a8i iq j h2).elim fun u e2=>?_
  show SeqAt.EqAt A.in1 s vs[j] ws[j] _
  rw [e1,e2]
  exact (MeetsSeq.EqGives.int _ _ _ _).at _ _
 rw [← b7h hlen,← ip.length]
 exact .of (.of fun Q E hQ=>SeqAt.eq_listAt (e:=fun j=>p.getD j 0==q.getD j 0) hl hm hsz hu hE fun ht=>hQ _ ht) (.of fun Q E hQ=>SeqAt.RcNeAt.lists (e:=fun j=>p.getD j 0==q.getD j 0) hl hm hsz hu hE _ _ _ _ fun ht=>hQ _ ht)
theorem b7j {C:RC}{B:Addr→Prop}{n:Nat}{x y:List D}(rl:RepL C B s.heap n vs x)(rm:RepL C B s.heap n ws y)(h:eqL x y=some r):SaysN G A neg .Eq .NotEq (.ref l) (.ref m) s r:=by
 cases x with
 | nil=>
  cases c7Q h
  cases rl.view
  cases y with
  | nil=>
   cases rm.view
   exact b1J hu hl hm .nil .nil rfl
  | cons y ys=>
   obtain⟨v,q,rfl,_⟩:=rm.view
   exact b4k hu hl hm rfl
 | cons x xs=>
  cases y with
  | nil=>
   cases c7Q h
   cases rm.view
   obtain⟨v,q,rfl,_⟩:=rl.view
   exact b4k hu hl hm rfl
  | cons y ys=>
   refine a0j h (clear% h;fun p hp h1=>?_)
   refine a0j h1 (clear% h1;fun q hq h2=>?_)
   refine (a0P h2).elim fun hlen h3=>?_
   cases c7Q h3
   exact b1J hu hl hm (a8h rl hp) (a8h rm hq) (c8d hlen)
end
theorem a2y {α:Type}{x y:Option α}{f:α→α→Bool}{r:Bool}(h:b7d x y f=some r):∃ a b,x=some a∧y=some b∧f a b=r:=by
 refine a0j h (clear% h;fun a h1 h2=>?_)
 refine a2v h2 (clear% h2;fun b h3 h4=>?_)
 exact⟨a,b,h1,h3,h4⟩
section
variable {G:GC}{Γ:Ctx}{lvl:Nat}{sc:a0h}{σ:Store}{oa:Nat→Addr}{s s':Shared}{va vb v:Value}{a b d:D}{r:Bool}
theorem c2J (hu:Γ.A.units<cLine)(neg:Bool)(ha:RT G Γ σ oa s va a)(hb:RT G Γ σ oa s vb b)(h:eqD a b=some r):SaysN G Γ.A neg .Eq .NotEq va vb s r:=by
 rcases a0I h with h | h
 ·obtain⟨x,y,hx,hy,rfl⟩:=a2y h
  exact RepT.ii (fun v w=>SaysN G Γ.A neg .Eq .NotEq v w s _) ha hb hx hy fun t u=>c0f x y t u
 rcases a0I h with h | h
 ·obtain⟨x,y,hx,hy,rfl⟩:=a2y h
  exact RepT.ss (fun v w=>SaysN G Γ.A neg .Eq .NotEq v w s _) ha hb hx hy fun t u=>c0g x y t u
 rcases a0I h with h | h
 ·obtain⟨x,y,hx,hy,rfl⟩:=a2y h
  exact RepT.bb (fun v w=>SaysN G Γ.A neg .Eq .NotEq v w s _) ha hb hx hy fun t u=>b4j x y t u
 rcases a0I h with h | h
 ·obtain⟨x,y,hx,hy,rfl⟩:=a2y h
  exact ha.boolP (P:=fun v=>SaysN G Γ.A neg .Eq .NotEq v vb s _) hx (hb.boolP (P:=fun w=>SaysN G Γ.A neg .Eq .NotEq _ w s _) hy (b7i x y))
 ·refine a0j h (clear% h;fun x hx h=>?_)
  refine a0j h (clear% h;fun y hy h=>?_)
  exact RepT.ll (fun v w=>SaysN G Γ.A neg .Eq .NotEq v w s _) ha hb hx hy fun l m vs ws hl hm rl rm=>b7j hu hl hm rl rm h
end
end
section
section
variable {G:GC}{Γ:Ctx}{lvl:Nat}{sc:a0h}{σ:Store}{oa:Nat→Addr}{s s':Shared}{va vb v:Value}{a b d:D}{r:Bool}{neg:Bool}
theorem b7k {A:Around}{m:Addr}{ws:List Value}{p:List Str}(x:Str)(t:Tok)(hm:s.heap.IsList m ws.toArray)(sr:StrsAre ws p):SaysN G A neg .In .NotIn (.str x t) (.ref m) s (p.any (·==x)):=
 .of (.of fun Q E hQ=>in_list_strs hm sr fun ht=>hQ _ ht) (.of fun Q E hQ=>notin_list_strs hm sr fun ht=>hQ _ ht)
theorem c0h {A:Around}{m:Addr}{ws:List Value}{p:List Str}(x:Str)(t:Tok)(hm:IsTup s.heap m ws.toArray)(sr:StrsAre ws p):SaysN G A neg .In .NotIn (.str x t) (.ref m) s (p.any (·==x)):=by
 have hE:∀ y,y∈ws.toArray→SeqAt.EqAt A.in1 s y (.str x t) (PyProof.Rows.isStrOf x y):=fun y hy=>(eq_isStrOf _ t sr y (List.mem_toArray.mp hy)).at _ _
 rw [← any_isStrOf x sr,show ws.any (PyProof.Rows.isStrOf x)=ws.toArray.any (PyProof.Rows.isStrOf x) from (List.any_toArray ..).symm]
 exact .of (.of fun Q E hQ=>SeqAt.in_tupleAt (PyProof.Rows.isStrOf _) hm hE fun ht=>hQ _ ht) (.of fun Q E hQ=>SeqAt.notIn_tupleAt (PyProof.Rows.isStrOf _) hm hE fun ht=>hQ _ ht)
theorem b4l {A:Around}{m:Addr}{ws:List Value}{l:List D}{p:List (Array UInt8)}{C:RC}{B:Addr→Prop}{n:Nat}(x:Array UInt8)(t:Tok)(hm:s.heap.IsList m ws.toArray)(rm:RepL C B s.heap n ws l)(hp:l.mapM D.asBytes=some p) :
  SaysN G A neg .In .NotIn (.bytes x t) (.ref m) s (p.any fun y=>y.toList==x.toList):=by
 refine (b4i (x:=x) rm hp).elim fun e hE=>?_
 rw [← e,show ws.any (a3Q x)=ws.toArray.any (a3Q x) from (List.any_toArray ..).symm]
 exact .of (.of fun Q E hQ=>SeqInW.in_listW (a3Q x) (fun y hy=>hE t y (List.mem_toArray.mp hy)) hm fun ht=>hQ _ ht) (.of fun Q E hQ=>SeqInW.notIn_listW (a3Q x) (fun y hy=>hE t y (List.mem_toArray.mp hy)) hm fun ht=>hQ _ ht)
theorem c2K (neg:Bool)(ha:RT G Γ σ oa s va a)(hb:RT G Γ σ oa s vb b)(h:inD a b=some r):SaysN G Γ.A neg .In .NotIn va vb s r:=by
 rcases a0I h with h | h
 ·refine a0j h (clear% h;fun x hx h=>?_)
  refine a0j h (clear% h;fun y hy h=>?_)
  exact c7Q h ▸ RepT.ss (fun v w=>SaysN G Γ.A neg .In .NotIn v w s _) ha hb hx hy fun t u=>.of (.of fun Q E hQ=>P.in_str fun ht=>hQ _ ht) (.of fun Q E hQ=>P.notIn_str fun ht=>hQ _ ht)
 rcases a0I h with h | h
 ·refine a0j h (clear% h;fun x hx h=>?_)
  refine a0j h (clear% h;fun y hy h=>?_)
  refine a2v h (clear% h;fun p hp h=>?_)
  exact h ▸ RepT.strP (P:=fun v=>SaysN G Γ.A neg .In .NotIn v vb s _) ha hx fun t=>RepT.listP (P:=fun w=>SaysN G Γ.A neg .In .NotIn _ w s _) hb hy fun m ws hm rm=>b7k x t hm (b0H rm hp)
 rcases a0I h with h | h
 ·refine a0j h (clear% h;fun x hx h=>?_)
  refine a0j h (clear% h;fun y hy h=>?_)
  refine a2v h (clear% h;fun p hp h=>?_)
  exact h ▸ RepT.strP (P:=fun v=>SaysN G Γ.A neg .In .NotIn v vb s _) ha hx fun t=>RepT.tupP (P:=fun w=>SaysN G Γ.A neg .In .NotIn _ w s _) hb hy fun m ws hm rm=>c0h x t hm (b0H rm hp)
 ·refine a0j h (clear% h;fun x hx h=>?_)
  refine a0j h (clear% h;fun y hy h=>?_)
  refine a2v h (clear% h;fun p hp h=>?_)
  exact h ▸ RepT.bytesP (P:=fun v=>SaysN G Γ.A neg .In .NotIn v vb s _) ha hx fun t=>RepT.listP (P:=fun w=>SaysN G Γ.A neg .In .NotIn _ w s _) hb hy fun m ws hm rm=>b4l x t hm rm hp
theorem a4F {A:Around}(h1:plainIs va vb=true)(h2:(va==vb)=r):SaysN G A neg .Is .IsNot va vb s r:=by
 rw [← h2]
 exact .of (fun Q E hQ=>wpAny_is_plain h1 (hQ _ Kf.refl)) fun Q E hQ=>wpAny_isNot_plain h1 (hQ _ Kf.refl)
theorem c0i {C:RC}{B:Addr→Prop}{h:Heap}{n:Nat}(x:RepT C B h n v d)(e:b4f d=some r):plainIs v .none=true∧(v==.none)=r:=by
 cases x with
 | deep q=>
  cases q with
  | typ=>exact a0e e
  | star=>exact a0e e
  | dict=>exact a0e e
  | _=>exact⟨rfl,c7Q e⟩
 | list=>exact⟨rfl,c7Q e⟩
 | dict=>exact a0e e
theorem b4m {x:Bool}{C:RC}{B:Addr→Prop}{h:Heap}{n:Nat}(q:RepT C B h n v d)(e:d.isStar=some x):(x=true∧v=.ref C.st)∨(x=false∧∃ y t,v=.str y t):=by
 cases d with
 | star=>exact .inl ⟨(c7Q e).symm,(q.rep rfl).view.1⟩
 | str y g=>exact .inr ⟨(c7Q e).symm,y,(q.asStr).elim fun t h=>⟨t,h.1⟩⟩
 | _=>exact a0e e
theorem c2L (neg:Bool)(ha:RT G Γ σ oa s va a)(hb:RT G Γ σ oa s vb b)(h:isD a b=some r):SaysN G Γ.A neg .Is .IsNot va vb s r:=by
 rcases a0I h with h | h
 ·refine (a0P h).elim fun h1 h=>?_
  rw [a5n h1] at hb
  refine (c0i ha h).elim fun h2 h3=>?_
  rw [hb.asNone]
  exact a4F h2 h3
 rcases a0I h with h | h
 ·obtain⟨x,y,hx,hy,h⟩:=a2y h
  rw [a9m hx] at ha
  rw [a9m hy] at hb
  rw [ha.asTyp,hb.asTyp]
  refine a4F rfl (Eq.trans ?_ h)
  rw [c8j,c7L,c7L]
  exact⟨fun e=>by injection e,fun e=>by rw [e]⟩
 ·refine a0j h (clear% h;fun x hx h=>?_)
  refine a0j h (clear% h;fun y hy h=>?_)
  refine a0Q h (clear% h;fun h1 h=>?_)
  rcases b4m ha hx with⟨rfl,e1⟩ | ⟨rfl,x,t,e1⟩ <;> rcases b4m hb hy with⟨rfl,e2⟩ | ⟨rfl,y,u,e2⟩
  ·rw [e1,e2,← h]
   exact .of (fun Q E hQ=>wpAny_is_ref_self (hQ _ Kf.refl)) fun Q E hQ=>wpAny_isNot_ref_self (hQ _ Kf.refl)
  ·rw [e1,e2];exact a4F rfl h
  ·rw [e1,e2];exact a4F rfl h
  ·exact absurd h1 c7I
theorem c5E (hu:Γ.A.units<cLine)(ha:RT G Γ σ oa s va a)(hb:RT G Γ σ oa s vb b)(h:neD a b=some r):Says G Γ.A (compareOp .NotEq va vb) s r:=by
 rcases a0I h with h | h
 ·refine (a0P h).elim fun h1 h=>?_
  refine a2v h (clear% h;fun x hx h=>?_)
  rw [a5n h1] at hb
  rw [hb.asNone]
  exact h ▸ RepT.bytesP (P:=fun v=>Says G Γ.A (compareOp .NotEq v .none) s _) ha hx fun t=>.of fun Q E hQ=>a8g fun ht=>hQ _ ht
 ·refine a2v h (clear% h;fun q hq h=>?_)
  exact h ▸ c2J hu true ha hb hq
theorem c2M (ha:RT G Γ σ oa s va a)(hb:RT G Γ σ oa s vb b)(h:ltD a b=some r):Says G Γ.A (compareOp .Lt va vb) s r∧Says G Γ.A (compareOp .Gt vb va) s r:=by
 rcases a0I h with h | h
 ·obtain⟨x,y,hx,hy,h⟩:=a2y h
  exact h ▸ RepT.ii (fun v w=>Says G Γ.A (compareOp .Lt v w) s _∧Says G Γ.A (compareOp .Gt w v) s _) ha hb hx hy fun t u=>⟨.of fun Q E hQ=>lt_int fun ht=>hQ _ ht,.of fun Q E hQ=>gt_int fun ht=>hQ _ ht⟩
 ·obtain⟨x,y,hx,hy,h⟩:=a2y h
  exact h ▸ RepT.ss (fun v w=>Says G Γ.A (compareOp .Lt v w) s _∧Says G Γ.A (compareOp .Gt w v) s _) ha hb hx hy fun t u=>⟨.of fun Q E hQ=>P.lt_str fun ht=>hQ _ ht,.of fun Q E hQ=>P.gt_str fun ht=>hQ _ ht⟩
theorem c2N (ha:RT G Γ σ oa s va a)(hb:RT G Γ σ oa s vb b)(h:leD a b=some r):Says G Γ.A (compareOp .LtE va vb) s r∧Says G Γ.A (compareOp .GtE vb va) s r:=by
 obtain⟨x,y,hx,hy,h⟩:=a2y h
 exact h ▸ RepT.ii (fun v w=>Says G Γ.A (compareOp .LtE v w) s _∧Says G Γ.A (compareOp .GtE w v) s _) ha hb hx hy fun t u=>⟨.of fun Q E hQ=>le_int fun ht=>hQ _ ht,.of fun Q E hQ=>ge_int fun ht=>hQ _ ht⟩
theorem b1K (hu:Γ.A.units<cLine){op:CmpOp}(ha:RT G Γ σ oa s va a)(hb:RT G Γ σ oa s vb b)(h:a6p op a b=some r):Says G Γ.A (compareOp op va vb) s r:=by
 induction op with
 | Eq=>exact c2J hu false ha hb h
 | NotEq=>exact c5E hu ha hb h
 | In=>exact c2K false ha hb h
 | NotIn=>exact (mpd h).elim fun q h=>h.2 ▸ c2K true ha hb h.1
 | Is=>exact c2L false ha hb h
 | IsNot=>exact (mpd h).elim fun q h=>h.2 ▸ c2L true ha hb h.1
 | Lt=>exact (c2M ha hb h).1
 | Gt=>exact (c2M hb ha h).2
 | LtE=>exact (c2N ha hb h).1
 | GtE=>exact (c2N hb ha h).2
noncomputable def SaysT (G:GC)(A:Around)(m:Sem Bool)(s:Shared)(r:Bool):Prop:=∀ (Q:Bool→Shared→Prop) (E:Value→Shared→Prop),(∀ s',Kf s s'→Q r s')→wpAny (model G.prog G.w) A m Q E s
theorem SaysT.of {A:Around}{m:Sem Bool}(h:∀ (Q:Bool→Shared→Prop) (E:Value→Shared→Prop),(∀ tk,s.toks≤tk→Q r { s with toks:=tk })→wpAny (model G.prog G.w) A m (fun v s'=>s.toks≤s'.toks→Q v s') E s):SaysT G A m s r:=
 fun Q E hQ=>c7Y (n:=s.toks) (c7G _) (h Q _ fun _ ht=>hQ _ (Kf.tok ht))
theorem b2L {A:Around}{l:Addr}{vs:List Value}{x:List D}{C:RC}{B:Addr→Prop}{n:Nat}(hl:s.heap.IsList l vs.toArray)(rl:RepL C B s.heap n vs x)(hx:a0O x.length=true):SaysT G A (truthy (.ref l)) s (!x.isEmpty):=by
 have e:(!vs.toArray.isEmpty)=!x.isEmpty:=by
  cases x with
  | nil=>cases rl.view;rfl
  | cons d x=>obtain⟨v,q,rfl,_⟩:=rl.view;rfl
 rw [← e]
 refine .of fun Q E hQ=>wpAny_truthy_list hl ?_ fun ht=>hQ _ ht
 rw [c8b,rl.length]
 exact a4E hx
theorem b7l (ha:RT G Γ σ oa s va a)(h:a7s a=some r):SaysT G Γ.A (truthy va) s r:=by
 rcases a0I h with h | h
 ·refine a0Q h (clear% h;fun h1 h=>?_)
  rw [a5n h1] at ha
  rw [ha.asNone,← h]
  exact .of fun Q E hQ=>PyProof.Rows.truthy_none fun ht=>hQ _ ht
 rcases a0I h with h | h
 ·exact ha.boolP (P:=fun v=>SaysT G Γ.A (truthy v) s _) h (.of fun Q E hQ=>c8g fun ht=>hQ _ ht)
 rcases a0I h with h | h
 ·refine a2v h (clear% h;fun x hx h=>?_)
  exact h ▸ ha.intP (P:=fun v=>SaysT G Γ.A (truthy v) s _) hx fun t=>.of fun Q E hQ=>truthy_int fun ht=>hQ _ ht
 rcases a0I h with h | h
 ·refine a0j h (clear% h;fun x hx h=>?_)
  refine a0Q h (clear% h;fun hc h=>?_)
  have e:((x.length:Int) != 0)=!(x.length==0):=by
   cases x.length <;> rfl
  exact h ▸ e ▸ ha.strP (P:=fun v=>SaysT G Γ.A (truthy v) s _) hx fun t=>.of fun Q E hQ=>P.truthy_str (Int.not_le.mpr (a4E hc)) fun ht=>hQ _ ht
 ·refine a0j h (clear% h;fun x hx h=>?_)
  refine a0Q h (clear% h;fun hc h=>?_)
  exact h ▸ ha.listP (P:=fun v=>SaysT G Γ.A (truthy v) s _) hx fun l vs hl rl=>b2L hl rl hc
end
end
section
theorem a3y (slice:Expr)(o i:Value):∃ ops,subscripted slice false o i=operate ops (getItem o i):=by
 cases slice with
 | Slice l u st p=>cases st <;> exact⟨_,rfl⟩
 | _=>exact⟨_,rfl⟩
structure IdxOk (k:Int)(n j:Nat):Prop where
 seq:seqIndex? k n=some j
 lo:-(n:Int)≤k
 hi:k<n
 lo':-(2 ^ 63)≤k
 hi':k<2 ^ 63
 neg:k<0→(k+n).toNat=j
 pos:0≤k→k.toNat=j
theorem a5p {k:Int}{n j:Nat}(h:b0B k n=some j):IdxOk k n j:=by
 refine (a0P h).elim fun hn e=>?_
 have hn:=a4E hn
 unfold seqIndex? at e
 by_cases h0:k<0
 ·rw [c7K h0] at e
  by_cases h1:(decide (0≤k+(n:Int))&&decide (k+(n:Int)<n))=true
  ·rw [c7K h1] at e
   have e:=c7Q e
   obtain⟨h2,h3⟩:=a0i h1
   have h2:=c7X h2
   refine⟨?_,by lia,by lia,by lia,by lia,fun _=>e,fun q=>absurd h0 (Int.not_lt.mpr q)⟩
   unfold seqIndex?
   rw [c7K h0,c7K h1,e]
  ·rw [c7M h1] at e;exact a0e e
 ·rw [c7M h0] at e
  by_cases h1:(decide (0≤k)&&decide (k<n))=true
  ·rw [c7K h1] at e
   have e:=c7Q e
   obtain⟨h2,h3⟩:=a0i h1
   have h3:=c7X h3
   refine⟨?_,by lia,h3,by lia,by lia,fun q=>absurd q h0,fun _=>e⟩
   unfold seqIndex?
   rw [c7M h0,c7K h1,e]
  ·rw [c7M h1] at e;exact a0e e
section
variable {G:GC}{Γ:Ctx}{lvl:Nat}{sc:a0h}{σ:Store}{oa:Nat→Addr}{s s':Shared}{va vb v:Value}{a b d:D}{E:Value→Shared→Prop}
noncomputable def Sub (s:Shared)(v:Value):Prop:=∃ T id,s.TypeIs v T∧typeLookup (.type T) "__getitem__"=pure (some (.builtin id))
theorem a8j {value slice:Expr}{o i:Value}{A:Around}{Q:Value→Shared→Prop}(hs:Sub s o)(hg:wpAny (model G.prog G.w) A (getItem o i) Q E s):wpAny (model G.prog G.w) A (subscriptTail value slice o i) Q E s:=by
 obtain⟨T,id,hT,hl⟩:=hs
 refine (a3y slice o i).elim fun ops hs=>?_
 exact tail_any hT hl hg hs
noncomputable def b2M (G:GC)(Γ:Ctx)(σ:Store)(oa:Nat→Addr)(s:Shared)(d:D)(v w:Value):Prop:=Does G Γ σ oa (getItem v w) s d∧Sub s v
theorem b4n {l:Addr}{vs:List Value}{ds:List D}{k:Int}{t:Tok}(hl:s.heap.IsList l vs.toArray)(rl:RL G Γ σ oa s vs ds)(h:(b0B k ds.length).bind (ds[·]?)=some d):b2M G Γ σ oa s d (.ref l) (.int k t):=by
 refine⟨?_,"list",_,hl.typeIs,slot_list_getitem.lookup⟩
 refine a0j h (clear% h;fun j hj hd=>?_)
 have I:=a5p hj
 refine (rl.get j d hd).elim fun v Z1=>Z1.elim (fun hv rv=>?_)
 intro Q E hQ
 have hv:vs.toArray[j]?=some v:=(c8q ..).trans hv
 rw [← rl.length] at I
 by_cases h0:k<0
 ·exact wpAny_getItem_list_neg hl h0 I.lo I.lo' (x:=v) (by rw [c8b,I.neg h0];exact hv) (hQ v s Kf.refl rv)
 ·have h0:=Int.not_lt.mp h0
  exact wpAny_getItem_list hl h0 I.hi' (x:=v) (by rw [I.pos h0];exact hv) (hQ v s Kf.refl rv)
theorem b7m {l:Addr}{vs:List Value}{ds:List D}{k:Int}{t:Tok}(hl:IsTup s.heap l vs.toArray)(rl:RL G Γ σ oa s vs ds)(h:(b0B k ds.length).bind (ds[·]?)=some d):b2M G Γ σ oa s d (.ref l) (.int k t):=by
 refine⟨?_,"tuple",_,hl.typeIs,slot_tuple_getitem.lookup⟩
 refine a0j h (clear% h;fun j hj hd=>?_)
 have I:=a5p hj
 refine (rl.get j d hd).elim fun v Z1=>Z1.elim (fun hv rv=>?_)
 rw [← rl.length] at I
 exact fun Q E hQ=>getItem_tuple hl I.lo' I.hi' (j:=j) I.seq ((c8q ..).trans hv) (hQ v s Kf.refl rv)
theorem b7n (g:GSt G s){x:Str}{k:Int}{t u:Tok}(h:b7e x k=some d):b2M G Γ σ oa s d (.str x t) (.int k u):=by
 refine⟨?_,"str",_,typeIs_str _ _ _,F.slot_str_getitem.lookup⟩
 refine a2v h (clear% h;fun c hc Z1=>?_)
 subst Z1
 refine a0j hc (clear% hc;fun j hj hd=>?_)
 have I:=a5p hj
 refine fun Q E hQ=>P.getItem_str (c:=c) ?_ (I.seq ▸ hd) (hQ _ _ (Kf.tok (c7T _)) (.str _ _ _ fun _=>⟨Nat.ne_of_gt g.tok,c8r _⟩))
 rw [c8s (Int.not_lt.mpr I.lo'),c8s (Int.not_le.mpr I.hi')]
 rfl
theorem b4o {l:Addr}{m:Str→Option Value}{kv:List (Str×Int)}{k:Str}{t:Tok}(hm:Heap.MapOf (PySem.strKind G.prog G.w) s.heap l m)(dm:b7b m kv)(h:(kv.lookup k).map D.int=some d):b2M G Γ σ oa s d (.ref l) (.str k t):=by
 refine a2v h (clear% h;fun i hi Z1=>?_)
 subst Z1
 refine ((dm k).2 i hi).elim fun u hu=>?_
 exact⟨fun Q E hQ=>wpAny_getItem_of (knd:=PySem.strKind G.prog G.w) (strKind_is G.prog G.w k t) hm hu (hQ _ _ (Kf.tok (c7T _)) (.int _ _)),"dict",_,hm.typeIs,slot_dict_getitem.lookup⟩
theorem RepT.dictP {C:RC}{B:Addr→Prop}{h:Heap}{n:Nat}{P:Value→Prop}(x:RepT C B h n v d){kv:List (Str×Int)}(e:d.asDict=some kv)(k:∀ a m,Heap.MapOf (PySem.strKind C.prog C.w) h a m→b7b m kv→P (.ref a)):P v:=by
 rw [b2H e] at x
 obtain⟨a,m,rfl,h1,h2⟩:=x.asDict
 exact k a m h1 h2
theorem b4p (g:GSt G s)(ha:RT G Γ σ oa s va a)(hb:RT G Γ σ oa s vb b)(h:a4C a b=some d):b2M G Γ σ oa s d va vb:=by
 rcases a0I h with h | h
 ·refine a0j h (clear% h;fun l hl h=>?_)
  refine a0j h (clear% h;fun k hk h=>?_)
  exact ha.listP (P:=fun v=>b2M G Γ σ oa s d v vb) hl fun x vs h1 r1=>hb.intP (P:=b2M G Γ σ oa s d _) hk fun t=>b4n h1 r1 h
 rcases a0I h with h | h
 ·refine a0j h (clear% h;fun l hl h=>?_)
  refine a0j h (clear% h;fun k hk h=>?_)
  exact ha.tupP (P:=fun v=>b2M G Γ σ oa s d v vb) hl fun x vs h1 r1=>hb.intP (P:=b2M G Γ σ oa s d _) hk fun t=>b7m h1 r1 h
 rcases a0I h with h | h
 ·refine a0j h (clear% h;fun l hl h=>?_)
  refine a0j h (clear% h;fun k hk h=>?_)
  exact ha.strP (P:=fun v=>b2M G Γ σ oa s d v vb) hl fun t=>hb.intP (P:=b2M G Γ σ oa s d _) hk fun u=>b7n g h
 ·refine a0j h (clear% h;fun l hl h=>?_)
  refine a0j h (clear% h;fun k hk h=>?_)
  exact ha.dictP (P:=fun v=>b2M G Γ σ oa s d v vb) hl fun x m h1 r1=>hb.strP (P:=b2M G Γ σ oa s d _) hk fun t=>b4o h1 r1 h
theorem c2O (g:GSt G s){value slice:Expr}(ha:RT G Γ σ oa s va a)(hb:RT G Γ σ oa s vb b)(h:a4C a b=some d):Does G Γ σ oa (subscriptTail value slice va vb) s d:=
 fun Q E hQ=>a8j (b4p g ha hb h).2 ((b4p g ha hb h).1 Q E hQ)
theorem a4b {α:Type}(l:List α)(lo hi:Option Int):((sliceRange (c0c l.length lo) (c2u l.length hi) 1).filterMap (l[·]?))=cut l lo hi:=by
 rw [sliceRange_one,← show (fun i=>l.toArray[i]?)=(fun i=>l[i]?) from funext fun i=>c8q ..,pick_run]
 rfl
theorem a7t (lo hi:Option Int)(n:Nat):sliceBounds lo hi none n=(((c0c n lo:Nat):Int),((c2u n hi:Nat):Int),1):=by
 rw [sliceBounds_plain]
 cases lo <;> cases hi <;> rfl
theorem a8k (vs:List Value)(lo hi:Option Int):slicePick vs.toArray lo hi none=(cut vs lo hi).toArray:=by
 rw [← a4b,← show (fun i=>vs.toArray[i]?)=(fun i=>vs[i]?) from funext fun i=>c8q ..]
 unfold slicePick
 rw [a7t]
 rfl
theorem a8l {α:Type}(l:List α)(lo hi:Option Int):(cut l lo hi).length≤l.length:=c7O (List.length_take_le' ..) (List.length_drop ▸ Nat.sub_le ..)
theorem a4c (lo hi:Option Int)(n:Nat):Builtin.Str.strSliceIndices lo hi 1 n=sliceRange (c0c n lo:Nat) (c2u n hi:Nat) 1:=by
 have h:=a7t lo hi n
 unfold sliceBounds at h
 unfold Builtin.Str.strSliceIndices
 injection h with h1 h2
 injection h2 with h2 h3
 simp only [Option.getD_none] at h1 h2
 rw [← h1,← h2]
 rfl
theorem c0j (n:Nat)(k:Int):clipAt n k≤n:=Int.ofNat_le.mp (clipAt_cast n k ▸ Int.max_le.mpr ⟨c8t n,Int.min_le_right ..⟩)
theorem c0k (n:Nat)(hi:Option Int):c2u n hi≤n:=by
 cases hi with
 | none=>exact c7G _
 | some k=>exact c0j n k
theorem c0l {α:Type}{l:List α}{lo hi:Option Int}(h:(cut l lo hi).length=l.length):cut l lo hi=l:=by
 have h1:List.Sublist (cut l lo hi) l:=(List.take_sublist ..).trans (List.drop_sublist ..)
 exact h1.eq_of_length h
theorem b4q (x:Str)(lo hi:Option Int):Txt.slice x lo hi=⟨(cut x.cps.toList lo hi).toArray⟩:=by
 have e:=a4b x.cps.toList lo hi
 have e':((Builtin.Str.strSliceIndices lo hi 1 x.length).filterMap (x.cps[·]?))=cut x.cps.toList lo hi:=by
  rw [a4c,← e,show (fun i=>x.cps.toList[i]?)=(fun i=>x.cps[i]?) from funext fun i=>Array.getElem?_toList ..]
  rfl
 unfold Txt.slice
 split
 ·rename_i h
  have hl:(cut x.cps.toList lo hi).length=x.cps.toList.length:=by
   rw [a4c,sliceRange_one,c8u,c8v] at h
   refine a0b h (clear% h;fun _ h=>?_)
   have h:c2u x.cps.toList.length hi - c0c x.cps.toList.length lo=x.cps.toList.length:=c8d h
   refine Nat.le_antisymm (a8l _ lo hi) ?_
   have hb:=Nat.sub_le_sub_right (c0k x.cps.toList.length hi) (c0c x.cps.toList.length lo)
   unfold cut
   rw [List.length_take,List.length_drop]
   exact Nat.le_min.mpr ⟨c8w h.symm,c7O (c8w h.symm) hb⟩
  rw [c0l hl]
 ·rw [e']
theorem RepL.drop {C:RC}{B:Addr→Prop}{h:Heap}{n:Nat}{vs:List Value}{ds:List D}(i:Nat)(r:RepL C B h n vs ds):RepL C B h n (vs.drop i) (ds.drop i):=by
 induction i generalizing vs ds with
 | zero=>exact r
 | succ i ih=>
  cases ds with
  | nil=>cases r.view;exact .nil
  | cons d ds=>obtain⟨v,q,rfl,_,r⟩:=r.view;exact ih r
theorem RepL.take {C:RC}{B:Addr→Prop}{h:Heap}{n:Nat}{vs:List Value}{ds:List D}(i:Nat)(r:RepL C B h n vs ds):RepL C B h n (vs.take i) (ds.take i):=by
 induction i generalizing vs ds with
 | zero=>exact .nil
 | succ i ih=>
  cases ds with
  | nil=>cases r.view;exact .nil
  | cons d ds=>obtain⟨v,q,rfl,a,r⟩:=r.view;exact .cons a (ih r)
theorem RepL.cut {C:RC}{B:Addr→Prop}{h:Heap}{n:Nat}{vs:List Value}{ds:List D}(r:RepL C B h n vs ds)(lo hi:Option Int):RepL C B h n (Mine.cut vs lo hi) (Mine.cut ds lo hi):=by
 unfold Mine.cut
 rw [r.length]
 exact (r.drop _).take _
theorem b4r {v:Value}{lo:Option Int}(h:IsPart v lo):∃ l:Option (Int×Tok),v=partValue l∧lo=l.map (·.1):=by
 cases h with
 | none=>exact⟨none,rfl,rfl⟩
 | int i t=>exact⟨some (i,t),rfl,rfl⟩
theorem b2N (b:Array UInt8)(lo hi:Option Int):KBy.picked b lo hi=(cut b.toList lo hi).toArray:=by
 rw [KBc.picked_eq]
 cases lo <;> cases hi <;> rfl
noncomputable def b1L (s:Shared)(vl vu:Value):Shared:={ s with heap:=s.heap.push { cls:=.type "slice",data:=.fields #[vl,vu,.none] } }
noncomputable def b0I (G:GC)(Γ:Ctx)(σ:Store)(oa:Nat→Addr)(value slice:Expr)(vl vu:Value)(s:Shared)(d:D)(v:Value):Prop:=
 ∀ (Q E:Value→Shared→Prop),(∀ v s',Kf s s'→RD G Γ σ oa s' v d→Q v s')→wpAny (model G.prog G.w) Γ.A (subscriptTail value slice v (.ref s.heap.objs.size)) Q E (b1L s vl vu)
section
variable {value slice:Expr}{vl vu:Value}{lo hi:Option Int}(pl:IsPart vl lo)(pu:IsPart vu hi)
include pl pu
theorem b2O (S:St G Γ lvl sc σ oa s){l:Addr}{vs:List Value}{ds:List D}(hl:s.heap.IsList l vs.toArray)(rl:RL G Γ σ oa s vs ds)(hc:a0O ds.length=true):b0I G Γ σ oa value slice vl vu s (.list (cut ds lo hi)) (.ref l):=by
 intro Q E hQ
 refine a8j ⟨"list",_,Heap.IsList.typeIs (s:=b1L s vl vu) (hl.push _),slot_list_getitem.lookup⟩ (wpAny_getItem_list_slice (hl.push _) (Heap.IsSliceOf.new ..) pl pu .none (fun e=>nomatch e) ?_ (by rw [c8b,rl.length];exact a0H hc))
 have S':=S.kf (s':=b1L s vl vu) (Kf.push (c7G _))
 rw [a8k]
 exact hQ _ _ ((Kf.push (tk:=s.toks) (c7G _)).trans (Kf.push (s:=b1L s vl vu) (c7G _))) (S'.newList ((rl.cut lo hi).keep (c7G _) fun b o _ e=>c7P _ e) (c7G _))
theorem b4s {x:Str}{t:Tok}(hc:a0O x.length=true):b0I G Γ σ oa value slice vl vu s (.str ⟨(cut x.cps.toList lo hi).toArray⟩) (.str x t):=by
 intro Q E hQ
 refine (b4r pl).elim fun l Z1=>Z1.elim (fun Z2 Z3=>?_)
 subst Z2
 subst Z3
 refine (b4r pu).elim fun u Z1=>Z1.elim (fun Z2 Z3=>?_)
 subst Z2
 subst Z3
 refine c7Y (n:=s.toks) (c7G _) (a8j ⟨"str",_,typeIs_str _ _ _,F.slot_str_getitem.lookup⟩ (wpAny_getItem_str_slice (l:=l) (u:=u) (st:=none) ⟨_,c8a _ rfl,rfl,rfl⟩ rfl
  (post_val_or_str ⟨c7O (Txt.slice_le x _ _) (a0H hc),fun t' k ht=>hQ _ _ (Kf.push ht) ?_⟩)))
 have e:(if ((Option.map (fun x=>x.fst) (none:Option (Int×Tok))).getD 1==1&&(slicePicked x l u none).length==x.length)=true then x else ⟨((slicePicked x l u none).filterMap (x.cps[·]?)).toArray⟩)=(⟨(cut x.cps.toList (l.map (·.1)) (u.map (·.1))).toArray⟩:Str):=b4q x _ _
 rw [e]
 exact .str _ _ _ nofun
theorem b0J {b:Array UInt8}{t:Tok}(hc:a0O b.size=true):b0I G Γ σ oa value slice vl vu s (.bytes (cut b.toList lo hi).toArray) (.bytes b t):=by
 intro Q E hQ
 rw [← b2N] at hQ
 exact c7Y (n:=s.toks) (c7G _) (a8j ⟨"bytes",_,typeIs_bytes _ _ _,FB.slot_bytes_getitem.lookup⟩ (getItem_meets (typeIs_bytes _ _ _) (by decide) FB.slot_bytes_getitem FB.entry_bytes_getitem (FB.args_bytes_getitem_2 _ _) (KBc.meets_slice2 b t _ pl pu)
  ⟨Heap.IsSliceOf.new _ _ _ _,c7O (KBc.size_picked_le b lo hi) (a0H hc),fun t' k ht=>hQ _ _ (Kf.push ht) (.bytes _ _)⟩))
theorem b7o (S:St G Γ lvl sc σ oa s)(ha:RT G Γ σ oa s va a)(h:a6q a lo hi=some d):b0I G Γ σ oa value slice vl vu s d va:=by
 rcases a0I h with h | h
 ·refine a0j h (clear% h;fun l hl h=>?_)
  refine a0Q h (clear% h;fun hc h=>?_)
  exact h ▸ ha.listP (P:=b0I G Γ σ oa value slice vl vu s _) hl fun x vs h1 r1=>b2O pl pu S h1 r1 hc
 rcases a0I h with h | h
 ·refine a0j h (clear% h;fun l hl h=>?_)
  refine a0Q h (clear% h;fun hc h=>?_)
  exact h ▸ ha.strP (P:=b0I G Γ σ oa value slice vl vu s _) hl fun t=>b4s pl pu hc
 ·refine a0j h (clear% h;fun l hl h=>?_)
  refine a0Q h (clear% h;fun hc h=>?_)
  exact h ▸ ha.bytesP (P:=b0I G Γ σ oa value slice vl vu s _) hl fun t=>b0J pl pu hc
end
end
end
section
section
variable {G:GC}{Γ:Ctx}{lvl:Nat}{sc:a0h}{σ:Store}{oa:Nat→Addr}{s s':Shared}{va vb vc v:Value}{a b c d:D}
theorem a8m {vs:List Value}{p:List Str}(h:StrsAre vs p):∃ l,vs=strValues l∧l.map (·.1)=p:=by
 induction h with
 | nil=>exact⟨[],rfl,rfl⟩
 | cons y t _ ih=>obtain⟨l,rfl,rfl⟩:=ih;exact⟨(y,t) :: l,rfl,rfl⟩
theorem b4t {C:RC}{B:Addr→Prop}{h:Heap}{n:Nat}(l:List (Str×Tok)):RepL C B h n (strValues l) (l.map fun p=>.str p.1):=by
 induction l with
 | nil=>exact .nil
 | cons p l ih=>exact .cons (.str _ _ _ nofun) ih
theorem b4u {C:RC}{B:Addr→Prop}{h:Heap}{n:Nat}{vs:List Value}{ns:List Int}(I:IntsAre vs ns):RepL C B h n vs (ns.map .int):=by
 induction I with
 | nil=>exact .nil
 | cons k t _ ih=>exact .cons (.int _ _) ih
theorem c2P (ha:RT G Γ σ oa s va a){n:Nat}(h:c2v a=some n)(hn:a0O n=true):Does G Γ σ oa (call (.builtin "len") [va]) s (.int n):=by
 have hz:∀ {m:Nat},m=n→(m:Int)<2 ^ 63:=fun e=>e ▸ a4E hn
 rcases a0I h with h | h
 ·refine a2v h (clear% h;fun l hl h=>?_)
  refine ha.listP (P:=fun v=>Does G Γ σ oa (call (.builtin "len") [v]) s _) hl fun x vs h1 r1=>.int fun Q E hQ=>?_
  have e:vs.toArray.size=n:=r1.length.trans h
  exact PyProof.Rows.len_list h1 (hz e) fun ht=>e ▸ hQ _ _ ht
 rcases a0I h with h | h
 ·refine a2v h (clear% h;fun l hl h=>?_)
  refine ha.tupP (P:=fun v=>Does G Γ σ oa (call (.builtin "len") [v]) s _) hl fun x vs h1 r1=>.int fun Q E hQ=>?_
  have e:vs.toArray.size=n:=r1.length.trans h
  exact PyProof.Rows.len_tuple h1 (hz e) fun ht=>e ▸ hQ _ _ ht
 rcases a0I h with h | h
 ·refine a2v h (clear% h;fun l hl h=>?_)
  exact ha.strP (P:=fun v=>Does G Γ σ oa (call (.builtin "len") [v]) s _) hl fun t=>.int fun Q E hQ=>P.len_str (Int.not_le.mpr (hz h)) fun ht=>h ▸ hQ _ _ ht
 ·refine a2v h (clear% h;fun l hl h=>?_)
  exact ha.bytesP (P:=fun v=>Does G Γ σ oa (call (.builtin "len") [v]) s _) hl fun t=>.int fun Q E hQ=>PySem.W.len_bytes (h ▸ c7O (a2g hn) (by decide)) fun ht=>h ▸ hQ _ _ ht
theorem c0m {C:RC}{B:Addr→Prop}{h:Heap}{n:Nat}{c:Prop}[Decidable c]{x y:Int}{t u:Tok}:Rep C B h n (if c then .int x t else .int y u) (.int (if c then x else y)):=by
 by_cases q:c
 ·rw [c7K q,c7K q];exact .int _ _
 ·rw [c7M q,c7M q];exact .int _ _
theorem c2Q (S:St G Γ lvl sc σ oa s){x y:Int}(ha:RT G Γ σ oa s va a)(hb:RT G Γ σ oa s vb b)(hx:a.asInt=some x)(hy:b.asInt=some y):Does G Γ σ oa (call (.builtin "max") [va,vb]) s (.int (if x<y then y else x)):=
 RepT.ii (fun v w=>Does G Γ σ oa (call (.builtin "max") [v,w]) s _) ha hb hx hy fun t u=>.of fun Q E hQ=>max_two_ints S.aok.1 fun h' tk k ht=>hQ _ _ (Kf.mk' k ht) c0m
theorem b0K (k:Int)(ns:List Int)(n:Nat):preSum (fun i=>(k :: ns).getD i 0) (n+1)=k+preSum (fun i=>ns.getD i 0) n:=by
 induction n with
 | zero=>exact Int.add_comm 0 k
 | succ n ih=>exact (c7H (·+ns.getD n 0) ih).trans (Int.add_assoc ..)
theorem b0L (ns:List Int):preSum (fun i=>ns.getD i 0) ns.length=ns.sum:=by
 induction ns with
 | nil=>rfl
 | cons k ns ih=>rw [c8x,b0K,ih,c8y]
theorem a9n (val:Nat→Int)(m B:Nat)(h:∀ i,i<m→(val i).natAbs<B):(preSum val m).natAbs≤m*B:=by
 induction m with
 | zero=>exact c8z _
 | succ m ih=>
  rw [Nat.succ_mul]
  exact c7O (Int.natAbs_add_le ..) (Nat.add_le_add (ih fun i hi=>h i (Nat.lt_succ_of_lt hi)) (Nat.le_of_lt (h m (c8r _))))
theorem b7p {p:List Int}{i:Nat}(h:i<p.length):p.getD i 0∈p:=by
 rw [c8m,c8n h]
 exact List.getElem_mem h
theorem a9o {x:Int}(h:x.natAbs≤1000*2 ^ 40):InLong x:=by
 unfold InLong
 lia
theorem c2R (S:St G Γ lvl sc σ oa s){l:List D}(ha:RT G Γ σ oa s va a)(hl:a.asList=some l){p:List Int}(h:l.mapM D.asInt=some p)
  (hb:(decide (p.length≤1000)&&p.all (fun i=>decide (i.natAbs<2 ^ 40)))=true):Does G Γ σ oa (call (.builtin "sum") [va]) s (.int p.sum):=by
 refine ha.listP (P:=fun v=>Does G Γ σ oa (call (.builtin "sum") [v]) s _) hl fun x vs hl rl=>.of fun Q E hQ=>?_
 have I:=a8h rl h
 have hlen:vs.toArray.size=p.length:=I.length
 refine a0b hb (clear% hb;fun h1 h2=>?_)
 have h1:=c7X h1
 refine call_sum_walk (wpAny_pyIter_list hl ?_)
 have hlt:x<s.heap.objs.size:=hl.elim fun o q=>c7Z q.1
 have bnd:∀ i,i<p.length→(p.getD i 0).natAbs<2 ^ 40:=fun i hi=>c7X (c8k.mp h2 _ (b7p hi))
 refine⟨_,[_,x],[_],_,_,_,fun i=>p.getD i 0,rfl,Walks.list (A:=Γ.A.in1) S.aok.1 s.heap.objs.size x (c8A hlt) vs.toArray,⟨⟨_,c8a _ rfl,rfl,rfl⟩,hl.push _⟩,fun c hc=>?_,fun i v e=>?_,fun j hj=>?_,fun h' tk t' k ht=>?_⟩
 ·rw [c8B]
  rcases c8o.mp hc with q | hc
  ·rw [q];exact c8r _
  ·rw [c8C.mp hc];exact Nat.lt_succ_of_lt hlt
 ·rw [c8q] at e
  refine (c8D.mp e).elim fun hi e=>?_
  exact e ▸ a8i I i hi
 ·have hj:j<p.length:=hlen ▸ hj
  have a1:=Nat.le_of_lt (bnd j hj)
  have a2:=a9n (fun i=>p.getD i 0) (j+1) (2 ^ 40) fun i hi=>bnd i (c7F hi hj)
  exact⟨a9o (c7O a1 (by decide)),a9o (c7O a2 (Nat.mul_le_mul_right _ (c7O hj h1)))⟩
 ·rw [hlen,b0L]
  refine hQ _ _ (Kf.mk' (fun b o eb=>k b o (fun q=>?_) (c7P _ eb)) ht) (.int _ _)
  rw [c8C.mp q] at eb
  exact Nat.lt_irrefl _ (c7Z eb)
theorem b2P (S:St G Γ lvl sc σ oa s){l:List D}(ha:RT G Γ σ oa s va a)(hl:a.asList=some l){p:List Int}(h:l.mapM D.asInt=some p)
  (hb:(p.all (fun i=>decide (0≤i∧i<256))&&a0O p.length)=true):Does G Γ σ oa (call (.type "bytes") [va]) s (.bytes (byteArr p)):=by
 refine ha.listP (P:=fun v=>Does G Γ σ oa (call (.type "bytes") [v]) s _) hl fun x vs hl rl=>.of fun Q E hQ=>?_
 have I:=a8h rl h
 refine a0b hb (clear% hb;fun h1 h2=>?_)
 exact call_bytes_ints hl I (fun i hi=>c7X (c8k.mp h1 i hi)) (by rw [I.length];exact a0H h2) S.aok.1 fun h' t k kk ht=>hQ _ _ (Kf.mk' kk ht) (.bytes _ _)
theorem b2Q {x y z:Str}{t u w:Tok}(hu:u≠0)(hv:w≠0)(huv:u≠w)(hyz:(y != z)=true)(hb:a0O (x.length+(x.length+1)*z.length)=true) :
  Does G Γ σ oa (call (.builtin "str.replace") [.str x t,.str y u,.str z w]) s (.str (Txt.replace x y z)):=
 .str fun Q E hQ=>SC.replace hu hv huv (a2w hyz) (a2g hb) fun t' k ht=>hQ _ _ ht
theorem c0n {x:Str}{l:List D}(ha:RT G Γ σ oa s va a)(hb:RT G Γ σ oa s vb b)(hx:a.asStr=some x)(hl:b.asList=some l){p:List Str}(h:l.mapM D.asStr=some p)(hj:JoinOk x p=true) :
  Does G Γ σ oa (call (.builtin "str.join") [va,vb]) s (.str (Txt.join x p)):=
 ha.strP (P:=fun v=>Does G Γ σ oa (call (.builtin "str.join") [v,vb]) s _) hx fun t=>hb.listP (P:=fun w=>Does G Γ σ oa (call (.builtin "str.join") [_,w]) s _) hl fun y vs hl rl=>.str fun Q E hQ=>
  (a8m (b0H rl h)).elim fun l' e=>SC.join (e.1 ▸ hl) e.2 hj fun t' k ht=>hQ _ _ ht
theorem b2R {x:Str}(ha:RT G Γ σ oa s va a)(hx:a.asStr=some x):Says G Γ.A (call (.builtin "str.isascii") [va]) s (Txt.isascii x):=
 ha.strP (P:=fun v=>Says G Γ.A (call (.builtin "str.isascii") [v]) s _) hx fun t Q E hQ=>SC.isascii (hQ _ Kf.refl)
theorem b2S (S:St G Γ lvl sc σ oa s){x y:Str}{l:List (Str×Tok)}{tk:Nat}(e:l.map (·.1)=Txt.split x y)(ht:s.toks≤tk) :
  RD G Γ σ oa { s with heap:=s.heap.push { cls:=.type "list",data:=.seq (strValues l).toArray },toks:=tk } (.ref s.heap.objs.size) (.list ((Txt.split x y).map fun z=>.str z)):=by
 rw [← e,c8E]
 exact S.newList (b4t l) ht
theorem b7q (S:St G Γ lvl sc σ oa s){x y:Str}(ha:RT G Γ σ oa s va a)(hb:RT G Γ σ oa s vb b)(hx:a.asStr=some x)(hy:b.asStr=some y)(hc:(!(y.length==0)&&a0O (x.length+2))=true) :
  Does G Γ σ oa (call (.builtin "str.split") [va,vb]) s (.list ((Txt.split x y).map fun z=>.str z)):=by
 refine RepT.ss (fun v w=>Does G Γ σ oa (call (.builtin "str.split") [v,w]) s _) ha hb hx hy fun t u=>.of fun Q E hQ=>?_
 refine a0b hc (clear% hc;fun hy hx=>?_)
 have hy:=a2w hy
 have hx1:=a0H hx
 have fin:∀ (l:List (Str×Tok)) tk,l.map (·.1)=Txt.split x y→s.toks≤tk→Q (.ref s.heap.objs.size) { s with heap:=s.heap.push { cls:=.type "list",data:=.seq (strValues l).toArray },toks:=tk }:=fun l tk e ht=>hQ _ _ (Kf.push ht) (b2S S e ht)
 cases h1:(decide (x.length<y.length)||decide (Builtin.Str.strKind x<Builtin.Str.strKind y))
 ·cases hf:(Builtin.Str.occurrences x y 0 x.length (x.length+1)).isEmpty
  ·have hn:(Builtin.Str.partsBetween x (Builtin.Str.occurrences x y 0 x.length (x.length+1)) y.length).length≤sizeLine:=by
    rw [len_partsBetween]
    exact c7O (Nat.succ_le_succ (StrLaws.occ_length_le x y 0 x.length (x.length+1))) hx1
   refine call_meets F.slot_str_split (typeIs_str _ _ _) F.entry_str_split (F.args_str_split_2 _ _) (meets_str_split_sep x y t u h1 hy hf (c7O (c8p _ 2) hx1) hn) ?_
   show wants _ _ _ { s with toks:=_,heap:=s.heap.push { cls:=.type "list",data:=.seq (strsFrom s.toks (Builtin.Str.partsBetween x (Builtin.Str.occurrences x y 0 x.length (x.length+1)) y.length)).toArray } }
   rw [strsFrom_eq]
   exact fun ht=>fin (numbered s.toks _) _ ((numbered_texts _ _).trans ((c7M (ne_true_of_eq_false h1)).trans (c7M (ne_true_of_eq_false hf))).symm) ht
  ·exact call_meets F.slot_str_split (typeIs_str _ _ _) F.entry_str_split (F.args_str_split_2 _ _) (meets_str_split_not_found x y t u h1 hy hf) fun ht=>fin [(x,t)] s.toks ((c7M (ne_true_of_eq_false h1)).trans (c7K hf)).symm ht
 ·exact call_meets F.slot_str_split (typeIs_str _ _ _) F.entry_str_split (F.args_str_split_2 _ _) (meets_str_split_cannot_occur x y t u h1) fun ht=>fin [(x,t)] s.toks (c7K h1).symm ht
end
end
section
inductive Tg where
 | const | name | bin | un | ite | bop | list | tup | cmp | sub | slc | comp | gen | call | attr | fstr | fv | lam | star | set | dict | oth
 deriving DecidableEq
structure V where
 tag:Tg
 pos:Pos
 a:Expr
 b:Expr
 c:Expr
 es:List Expr:=[]
 n:Nat:=0
 id:Str:=Str.empty
 k:Const:=.none
 op:Operator:=.Add
 uo:UnaryOp:=.Not
 bo:BoolOp:=.And
 cs:List CmpOp:=[]
 lo:Option Expr:=none
 hi:Option Expr:=none
 st:Option Expr:=none
 os:List (Option Expr):=[]
 gs:List Comprehension:=[]
 ks:List Keyword:=[]
 ps:Arguments:=default
 sc:Scope:=default
 i:Int:=0
noncomputable def vw (e:Expr):V:=match e with
 | .Constant c n p=>{ tag:=.const,pos:=p,a:=e,b:=e,c:=e,k:=c,n:=n }
 | .Name x p=>{ tag:=.name,pos:=p,a:=e,b:=e,c:=e,id:=x }
 | .BinOp l o r p=>{ tag:=.bin,pos:=p,a:=l,b:=r,c:=e,op:=o }
 | .UnaryOp o x p=>{ tag:=.un,pos:=p,a:=x,b:=e,c:=e,uo:=o }
 | .IfExp t x y p=>{ tag:=.ite,pos:=p,a:=t,b:=x,c:=y }
 | .BoolOp o es p=>{ tag:=.bop,pos:=p,a:=e,b:=e,c:=e,bo:=o,es:=es }
 | .List es p=>{ tag:=.list,pos:=p,a:=e,b:=e,c:=e,es:=es }
 | .Tuple es n p=>{ tag:=.tup,pos:=p,a:=e,b:=e,c:=e,es:=es,n:=n }
 | .Compare l os es p=>{ tag:=.cmp,pos:=p,a:=l,b:=e,c:=e,es:=es,cs:=os }
 | .Subscript v s p=>{ tag:=.sub,pos:=p,a:=v,b:=s,c:=e }
 | .Slice l u st p=>{ tag:=.slc,pos:=p,a:=e,b:=e,c:=e,lo:=l,hi:=u,st:=st }
 | .ListComp x gs sc p=>{ tag:=.comp,pos:=p,a:=x,b:=e,c:=e,gs:=gs,sc:=sc }
 | .GeneratorExp x gs sc p=>{ tag:=.gen,pos:=p,a:=x,b:=e,c:=e,gs:=gs,sc:=sc }
 | .Call f es ks p=>{ tag:=.call,pos:=p,a:=f,b:=e,c:=e,es:=es,ks:=ks }
 | .Attribute o m p=>{ tag:=.attr,pos:=p,a:=o,b:=e,c:=e,id:=m }
 | .JoinedStr es p=>{ tag:=.fstr,pos:=p,a:=e,b:=e,c:=e,es:=es }
 | .FormattedValue x i s p=>{ tag:=.fv,pos:=p,a:=x,b:=e,c:=e,i:=i,st:=s }
 | .Lambda ps x sc p=>{ tag:=.lam,pos:=p,a:=x,b:=e,c:=e,ps:=ps,sc:=sc }
 | .Starred x p=>{ tag:=.star,pos:=p,a:=x,b:=e,c:=e }
 | .Dict ks es p=>{ tag:=.dict,pos:=p,a:=e,b:=e,c:=e,os:=ks,es:=es }
 | .Set es n p=>{ tag:=.set,pos:=p,a:=e,b:=e,c:=e,es:=es }
 | e=>{ tag:=.oth,pos:=default,a:=e,b:=e,c:=e }
noncomputable def Is (e:Expr)(v:V):Tg→Prop
 | .const=>e=.Constant v.k v.n v.pos
 | .name=>e=.Name v.id v.pos
 | .bin=>e=.BinOp v.a v.op v.b v.pos
 | .un=>e=.UnaryOp v.uo v.a v.pos
 | .ite=>e=.IfExp v.a v.b v.c v.pos
 | .bop=>e=.BoolOp v.bo v.es v.pos
 | .list=>e=.List v.es v.pos
 | .tup=>e=.Tuple v.es v.n v.pos
 | .cmp=>e=.Compare v.a v.cs v.es v.pos
 | .sub=>e=.Subscript v.a v.b v.pos
 | .slc=>e=.Slice v.lo v.hi v.st v.pos
 | .comp=>e=.ListComp v.a v.gs v.sc v.pos
 | .gen=>e=.GeneratorExp v.a v.gs v.sc v.pos
 | .call=>e=.Call v.a v.es v.ks v.pos
 | .attr=>e=.Attribute v.a v.id v.pos
 | .fstr=>e=.JoinedStr v.es v.pos
 | .fv=>e=.FormattedValue v.a v.i v.st v.pos
 | .lam=>e=.Lambda v.ps v.a v.sc v.pos
 | .dict=>e=.Dict v.os v.es v.pos
 | .star=>True
 | .set=>True
 | .oth=>True
theorem isV (e:Expr):Is e (vw e) (vw e).tag:=by
 cases e with
 | _=>first | exact rfl | exact trivial
noncomputable def isT (e:Expr)(t:Tg):Bool:=decide ((vw e).tag=t)
theorem a0A {e:Expr}{t:Tg}(h:isT e t=true):Is e (vw e) t:=c7X h ▸ isV e
noncomputable def a0J (e:Expr):Bool:=!(isT e .star)
noncomputable def a4G (e:Expr):Bool:=!(isT e .set)
noncomputable def isN (nm:Nat→Str)(x:Nat)(e:Expr):Bool:=isT e .name&&((vw e).id==nm x)
theorem a1r {nm:Nat→Str}{x:Nat}{e:Expr}(h:isN nm x e=true):e=.Name (nm x) (vw e).pos:=(a0A (a0i h).1).trans (c7H (Expr.Name · _) (c8d (a0i h).2))
theorem c2x {e:Expr}(h:a0J e=true)(x:Expr)(p:Pos):e≠.Starred x p:=fun q=>by
 rw [q] at h
 exact c7I h
end
section
structure Af (G:GC)(s s':Shared):Prop where
 kp:Kp G s s'
 gst:GSt G s'
structure Res (G:GC)(Γ:Ctx)(σ:Store)(oa:Nat→Addr)(st:Bool)(s:Shared)(d:D)(v:Value)(s':Shared):Prop where
 af:Af G s s'
 rep:RT G Γ σ oa s' v d
 deep:st=true→RD G Γ σ oa s' v d
noncomputable def Ev (G:GC)(Γ:Ctx)(σ:Store)(oa:Nat→Addr)(st:Bool)(m:Sem Value)(s:Shared)(d:D):Prop:=
 ∀ (Q E:Value→Shared→Prop),(∀ v s',Res G Γ σ oa st s d v s'→Q v s')→wpAny (model G.prog G.w) Γ.A m Q E s
noncomputable def Tr (G:GC)(A:Around)(m:Sem Bool)(s:Shared)(b:Bool):Prop:=
 ∀ (Q:Bool→Shared→Prop) (E:Value→Shared→Prop),(∀ s',Af G s s'→Q b s')→wpAny (model G.prog G.w) A m Q E s
section
variable {G:GC}{Γ:Ctx}{lvl:Nat}{sc:a0h}{σ:Store}{oa:Nat→Addr}{s s₁ s':Shared}{m:Sem Value}{v:Value}{d:D}{st:Bool}{E Q:Value→Shared→Prop}
theorem Af.refl (g:GSt G s):Af G s s:=⟨.refl,g⟩
theorem Af.trans (a:Af G s s₁)(b:Af G s₁ s'):Af G s s':=⟨a.kp.trans b.kp,b.gst⟩
theorem Af.kf (a:Af G s s₁)(k:Kf s₁ s'):Af G s s':=⟨a.kp.kf k,k.gst a.gst⟩
theorem St.af (S:St G Γ lvl sc σ oa s)(a:Af G s s'):St G Γ lvl sc σ oa s':=S.kp a.kp a.gst
theorem St.afR (S:St G Γ lvl sc σ oa s):Af G s s:=.refl S.gst
theorem Res.of (a:Af G s s')(r:RD G Γ σ oa s' v d):Res G Γ σ oa st s d v s':=⟨a,.deep r,fun _=>r⟩
theorem Does.then (h:Does G Γ σ oa m s₁ d)(a:Af G s s₁)(hQ:∀ v s',Res G Γ σ oa st s d v s'→Q v s'):wpAny (model G.prog G.w) Γ.A m Q E s₁:=h Q E fun v s' k r=>hQ v s' (.of (a.kf k) r)
theorem Says.then {b:Bool}(h:Says G Γ.A m s₁ b)(a:Af G s s₁)(hQ:∀ v s',Res G Γ σ oa st s (.bool b) v s'→Q v s'):wpAny (model G.prog G.w) Γ.A m Q E s₁:=h Q E fun s' k=>hQ _ s' (.of (a.kf k) (.bool b))
noncomputable def b9u (G:GC)(x:Str)(v:Value):Prop:=G.mg x=some v∨(G.mg x=none∧G.mb x=some v)
theorem GSt.gns (g:GSt G s):s.heap.Ns mainGlobals G.mg:=G.gns.keeps g.base
theorem GSt.bns (g:GSt G s):s.heap.Ns builtinsNs G.mb:=G.bns.keeps g.base
theorem GSt.lim (g:GSt G s):s.heap.NoLimit:=G.lim.keeps g.base
theorem St.glob (S:St G Γ lvl sc σ oa s){x:Str}(hx:sc.lookup x=some .globalImplicit)(hv:b9u G x v)(h:Q v s):wpAny (model G.prog G.w) Γ.A (loadName Γ.env x) Q E s:=by
 rw [loadName_read S.kind (S.kindOf hx)]
 have hg:s.heap.Ns Γ.env.globals G.mg:=S.globals ▸ S.gst.gns
 rcases hv with hv | ⟨hm,hv⟩
 ·exact loadGlobal_global hg hv h
 ·exact loadGlobal_builtin hg hm (S.builtins ▸ S.gst.bns) hv h
theorem AOk.mono {n m:Nat}{A:Around}(h:AOk n A)(hm:m≤n):AOk m A:=
 ⟨h.1,c7W (c8F (c8G hm _) _) h.2.1,c7W (c8F (c8G (Nat.mul_le_mul_left 8 hm) _) _) h.2.2⟩
theorem AOk.deeper {n:Nat}{A:Around}{env:Env}(h:AOk (n+1) A):AOk n (A.deeper env):=by
 refine h.elim (clear% h;fun h1 Z1=>Z1.elim (fun h2 h3=>?_))
 refine⟨h1,?_,?_⟩
 ·show A.depth+1+n+20<_
  rw [Nat.add_right_comm A.depth 1 n]
  exact h2
 ·show A.units+3+8*n+200<_
  rw [Nat.add_assoc A.units]
  exact c7W (c8F (c8G (c7O (c8w (Nat.add_comm 3 _)) (c8G (by decide:3≤8) _)) _) _) h3
noncomputable def b7r (C:RC)(B:Addr→Prop)(h:Heap)(n:Nat)(kws:List (Str×Value)):Option D→Prop
 | none=>kws=[]
 | some d=>∃ v,kws=[(("strict_mode":Str),v)]∧Rep C B h n v d
noncomputable def Calls (G:GC)(lvl:Nat)(a:Addr)(args:List D)(kw:Option D)(d:D):Prop:=
 ∀ (A:Around) (B:Addr→Prop) (st:Addr) (s:Shared) (vs:List Value) (kws:List (Str×Value)) (Q:Value→Shared→Prop) (E:Value→Shared→Prop),
  AOk lvl A→GSt G s→(∀ t∈G.T,B t)→(∀ a,B a→∃ o,s.heap.get? a=some o)→RepL ⟨G.prog,G.w,st⟩ B s.heap s.toks vs args→b7r ⟨G.prog,G.w,st⟩ B s.heap s.toks kws kw →
  (∀ v s',Af G s s'→Rep ⟨G.prog,G.w,st⟩ B s'.heap s'.toks v d→Q v s')→wpAny (model G.prog G.w) A (call (.ref a) vs kws) Q E s
noncomputable def c2y (G:GC)(lvl:Nat)(f:Nat)(args:List D)(kw:Option D)(d:D):Prop:=
 ∃ (a:Addr) (o:Obj) (fd:FuncData),G.mg (G.nm f)=some (.ref a)∧G.g.get? a=some o∧o.data=.func fd∧Calls G lvl a args kw d
theorem a0s {e:Expr}{rest:List Expr}{env:Env}(h:a0J e=true):starEach (e :: rest) env=(false,eval e env) :: starEach rest env:=by
 cases e with
 | Starred=>exact absurd h c7I
 | _=>rfl
noncomputable def b9v (G:GC)(Γ:Ctx)(σ:Store)(oa:Nat→Addr)(es:List Expr)(ds:List D)(s:Shared):Prop:=
 ∀ (pos:Pos) (Q:List Value→Shared→Prop) (E:Value→Shared→Prop),(∀ vs s',Af G s s'→RL G Γ σ oa s' vs ds→Q vs s')→wpAny (model G.prog G.w) Γ.A (spliced (backTo pos (starEach es Γ.env))) Q E s
theorem a6c {f:Value}{es:List Expr}{keywords:List (Option Str×Sem Value)}{env:Env}{pos:Pos}{A:Around}{Q:Args→Shared→Prop}(hs:es.all a0J=true)(hall:keywords.all (·.1.isSome)=true)
  (h:wpAny (model G.prog G.w) A (spliced (backTo pos (starEach es env))) (fun vs s₁=>wpAny (model G.prog G.w) A (evalAll (keywords.map (·.2))) (fun ks s₂=>Q ⟨vs,(keywords.filterMap (·.1)).zip ks⟩ s₂) E s₁) E s) :
  wpAny (model G.prog G.w) A (evalArgs f true (backTo pos (starEach es env)) keywords) Q E s:=by
 cases es with
 | nil=>
  show wpAny (model G.prog G.w) A (evalArgs f true [] keywords) Q E s
  unfold evalArgs
  show wpAny (model G.prog G.w) A (spliced [] >>= _) Q E s
  refine c8e (c8H h (fun vs s₁ h₁=>?_) fun _ _ x=>x)
  refine c8e (c8f ?_)
  refine c8c ?_
  rw [c7K hall]
  refine c8e (c8H h₁ (fun ks s₂ h₂=>?_) fun _ _ x=>x)
  exact c8e (c8f (c8f h₂))
 | cons e r=>
  rw [a0s (a0i hs).1] at h ⊢
  exact evalArgs_kw hall h
theorem a2O {f:Value}{es:List Expr}{env:Env}{pos:Pos}{A:Around}{Q:Args→Shared→Prop}(hs:es.all a0J=true)
  (h:wpAny (model G.prog G.w) A (spliced (backTo pos (starEach es env))) (fun vs s₁=>Q ⟨vs,[]⟩ s₁) E s):wpAny (model G.prog G.w) A (evalArgs f true (backTo pos (starEach es env)) []) Q E s:=
 a6c hs rfl (c8H h (fun vs s₁ h₁=>wpAny_evalAll_nil h₁) fun _ _ e=>e)
theorem a1v {es:List Expr}{env:Env}{pos:Pos}(hs:es.all a0J=true):(backTo pos (starEach es env)).any (·.1)=false:=by
 induction es with
 | nil=>rfl
 | cons e r ih=>
  rw [a0s (a0i hs).1]
  exact ih (a0i hs).2
theorem a5F (S:St G Γ lvl sc σ oa s){f:Str}{id:String}{p pos:Pos}{es:List Expr}(hf:sc.lookup f=some .globalImplicit)(hg:b9u G f (.builtin id))(hd:(f==("__debug__":Str))=false)(hs:es.all a0J=true)
  (h:wpAny (model G.prog G.w) Γ.A (spliced (backTo pos (starEach es Γ.env))) (fun vs s₁=>wpAny (model G.prog G.w) Γ.A (call (.builtin id) vs) Q E s₁) E s) :
  wpAny (model G.prog G.w) Γ.A (eval (.Call (.Name f p) es [] pos) Γ.env) Q E s:=
 wpAny_Call_Name_kw (c8I (S.glob hf hg (callWith_builtin (a1v hs) (a2O hs h))) hd)
theorem a2n (S:St G Γ lvl sc σ oa s){f:Str}{T:String}{p pos:Pos}{es:List Expr}(hf:sc.lookup f=some .globalImplicit)(hg:b9u G f (.type T))(hd:(f==("__debug__":Str))=false)(hs:es.all a0J=true)
  (h:wpAny (model G.prog G.w) Γ.A (spliced (backTo pos (starEach es Γ.env))) (fun vs s₁=>wpAny (model G.prog G.w) Γ.A (call (.type T) vs) Q E s₁) E s) :
  wpAny (model G.prog G.w) Γ.A (eval (.Call (.Name f p) es [] pos) Γ.env) Q E s:=
 wpAny_Call_Name_kw (c8I (S.glob hf hg (PySem.callWith_type (a1v hs) (a2O hs h))) hd)
inductive KwOK (G:GC) (Γ:Ctx) (lvl:Nat) (sc:a0h) (σ:Store) (oa:Nat→Addr):Option D→List Keyword→Prop
 | no:KwOK G Γ lvl sc σ oa none []
 | yes (d:D) (e:Expr) (q:Pos) (h:∀ s,St G Γ lvl sc σ oa s→Ev G Γ σ oa true (eval e Γ.env) s d):KwOK G Γ lvl sc σ oa (some d) [⟨some ("strict_mode":Str),e,q⟩]
theorem Calls.run (S:St G Γ lvl sc σ oa s){a:Addr}{args:List D}{kw:Option D}(h:Calls G lvl a args kw d){vs:List Value}{kws:List (Str×Value)}(r:RL G Γ σ oa s vs args)(k:b7r (rc G Γ) (a0k Γ σ oa) s.heap s.toks kws kw)
  (hQ:∀ v s',Af G s s'→RD G Γ σ oa s' v d→Q v s'):wpAny (model G.prog G.w) Γ.A (call (.ref a) vs kws) Q E s:=
 h _ (a0k Γ σ oa) Γ.st _ _ _ _ _ S.aok S.gst (fun t ht=>.inl (S.badT t ht)) S.alloc r k hQ
theorem b7s (S:St G Γ lvl sc σ oa s){f:Nat}{args:List D}{kw:Option D}(F:c2y G lvl f args kw d){p pos:Pos}{es:List Expr}{kws:List Keyword}(hf:sc.lookup (G.nm f)=some .globalImplicit)(hd:(G.nm f==("__debug__":Str))=false)(hs:es.all a0J=true)
  (hk:KwOK G Γ lvl sc σ oa kw kws) (h:b9v G Γ σ oa es args s):Ev G Γ σ oa st (eval (.Call (.Name (G.nm f) p) es kws pos) Γ.env) s d:=by
 intro Q E hQ
 obtain⟨a,o,fd,hm,ho,hdata,hcall⟩:=F
 refine wpAny_Call_Name_kw (c8I (S.glob hf (.inl hm) ?_) hd)
 cases hk with
 | no=>
  exact callWith_function_kw (o:=o) (fd:=fd) (a6c hs rfl (h _ _ _ fun vs s₁ a₁ r=>wpAny_evalAll_nil ⟨⟨a₁.gst.base _ _ ho,hdata⟩,hcall.run (S.af a₁) r rfl fun v s' a' r'=>hQ v s' (.of (a₁.trans a') r')⟩))
 | yes dk e q he=>
  refine callWith_function_kw (o:=o) (fd:=fd) (a6c hs rfl (h _ _ _ fun vs s₁ a₁ r=>?_))
  have S₁:=S.af a₁
  show wpAny _ _ (evalAll [(do let v ← eval e Γ.env;standAt pos;pure v)]) _ _ s₁
  refine wpAny_evalAll_cons (c8e (he _ S₁ _ _ fun v s₂ R=>c8e (c8J (c8f (wpAny_evalAll_nil ⟨⟨R.af.gst.base _ _ ho,hdata⟩,?_⟩)))))
  exact hcall.run (S₁.af R.af) (r.kp S₁ R.af.kp) ⟨v,rfl,R.deep rfl⟩ fun v s' a' r'=>hQ v s' (.of ((a₁.trans R.af).trans a') r')
end
end
section
structure Wlk (prog:Program)(w:World)(A:Around)(I:Addr)(fp:List Addr)(n:Nat)(P:Nat→Nat→Value→Prop)(St:Nat→Heap→Prop):Prop where
 frame:∀ i h h',St i h→(∀ b∈fp,∀ o,h.get? b=some o→h'.get? b=some o)→St i h'
 item:∀ i (s:Shared) (Q:Option Value→Shared→Prop) (E:Value→Shared→Prop),i<n→1≤s.toks→St i s.heap →
  (∀ v h' tk,P i tk v→St (i+1) h'→(∀ b o,b≠I→s.heap.get? b=some o→h'.get? b=some o)→Q (some v) { s with heap:=h',toks:=tk })→wpAny (model prog w) A (pyNext (.ref I)) Q E s
 done:∀ (s:Shared) (Q:Option Value→Shared→Prop) (E:Value→Shared→Prop),St n s.heap →
  (∀ h' tk,(∀ b o,b≠I→s.heap.get? b=some o→h'.get? b=some o)→Q none { s with heap:=h',toks:=tk })→wpAny (model prog w) A (pyNext (.ref I)) Q E s
 self:∀ i (s:Shared) (Q:Value→Shared→Prop) (E:Value→Shared→Prop),St i s.heap→Q (.ref I) s→wpAny (model prog w) A (pyIter (.ref I)) Q E s
theorem lk {prog:Program}{w:World}{A:Around}{I:Addr}{fp:List Addr}{n:Nat}{P:Nat→Value→Prop}{St:Nat→Heap→Prop}(W:Walks prog w A I fp [I] n P St):Wlk prog w A I fp n (fun i _ v=>P i v) St:=
 ⟨W.frame,fun i s Q E hi _ st hQ=>W.item i s Q E hi st fun v h' tk p st k=>hQ v h' tk p st fun b o hb=>k b o fun q=>hb (c8C.mp q),fun s Q E st hQ=>W.done s Q E st fun h' tk k=>hQ h' tk fun b o hb=>k b o fun q=>hb (c8C.mp q),W.self⟩
theorem c7u {prog:Program}{w:World}{A:Around}(hh:A.handled=none)(I:Addr)(x:Str)(t:Tok) :
  Wlk prog w A I [I] x.cps.size (fun i tk v=>∃ c u,x.cps[i]?=some c∧v=.str ⟨#[c]⟩ u∧u≠0∧u<tk) (fun i h=>h.IsStrIter I "str_ascii_iterator" x t i):=
 { lk (Walks.strAscii hh I x t) with
  item:=fun i s Q E hi h1 st hQ=>wpAny_pyNext_ascii_item st (c:=x.cps[i]) (c8K hi) fun h' hit' hs'=>
   hQ _ h' (s.toks+1) ⟨_,_,c8K hi,rfl,Nat.ne_of_gt h1,c8r _⟩ hit' fun b o hb e=>hs'.extBut b o hb e }
noncomputable def odd:List String:=["enumerate","zip","dict_itemiterator","dict_reverseitemiterator","odict_iterator","itertools.zip_longest","itertools.pairwise"]
noncomputable def ItObj (o:Obj):Prop:=∃ T,o.cls=.type T∧odd.contains T=false∧T≠"code"
theorem ItObj.ok {o:Obj}(h:ItObj o):a8c o:=fun _ _=>h.elim fun T q=>⟨by rw [q.1];nofun,fun e=>q.2.2 (by rw [q.1] at e;injection e)⟩
structure Wk (G:GC)(Γ:Ctx)(σ:Store)(oa:Nat→Addr)(st:Bool)(ds:List D)(s₀ s:Shared)(I:Addr)(fp:List Addr)(P:Nat→Nat→Value→Prop)(Stt:Nat→Heap→Prop):Prop where
 walks:Wlk G.prog G.w Γ.A I fp ds.length P Stt
 start:Stt 0 s.heap
 old:∀ b∈fp,(∃ o,s.heap.get? b=some o)∧b ∉ G.T
 strict:st=true→∀ b∈fp,¬ a0k Γ σ oa b
 newI:s₀.heap.get? I=none∧¬ a0k Γ σ oa I
 frm:∀ b∈fp,¬ Γ.bad b
 fpI:I∈fp
 iter:∀ i h,Stt i h→∃ o,h.get? I=some o∧ItObj o
 rep:∀ i tk v d,s.toks≤tk→P i tk v→ds[i]?=some d→Rep (rc G Γ) (fun b=>a0k Γ σ oa b∨b=I) s.heap tk v d
section
variable {G:GC}{Γ:Ctx}{lvl:Nat}{sc:a0h}{σ:Store}{oa:Nat→Addr}{s s':Shared}{va vb vc v:Value}{a b c d:D}{E:Value→Shared→Prop}
theorem a5G {A:Around}{t:Expr}{I:Addr}{v:Value}{s:Shared}{Q:Unit→Shared→Prop}(hT:∃ o,s.heap.get? I=some o∧ItObj o)(h:Q () s):wpAny (model G.prog G.w) A (letOwnedTupleGo t (.ref I) v) Q E s:=by
 have core:∀ w:Value,wpAny (model G.prog G.w) A (letOwnedTupleGo (.Tuple [] 0 default) (.ref I) w) Q E s:=fun w=>by
  cases w with
  | ref a=>
   obtain⟨⟨cls,dd,data,sl⟩,ho,T,hc,hn,_⟩:=hT
   cases hc
   refine c8e (wpAny_load ho ?_)
   cases data with
   | fields vs=>
    show wpAny _ _ (if (odd.contains T&&_)=true then _ else pure ()) _ _ _
    rw [hn]
    exact c8f h
   | _=>exact c8f h
  | _=>exact c8f h
 cases t with
 | Tuple=>exact core v
 | List=>exact core v
 | _=>exact c8f h
theorem St.newT (S:St G Γ lvl sc σ oa s):s.heap.objs.size ∉ G.T:=fun q=>S.newNot (.inl (S.badT _ q))
theorem a7u {a:Addr}(k:Kp G s s')(hT:a ∉ G.T)(h:s'.heap.get? a=none):s.heap.get? a=none:=by
 cases e:s.heap.get? a with
 | none=>rfl
 | some o=>exact absurd rfl (a0f h (k.heap a o hT e))
theorem a9p (S:St G Γ lvl sc σ oa s){s₀:Shared}(k₀:Kp G s₀ s){st:Bool}{ds:List D}{oI:Obj}(hf:oI.isFreed=false){fp:List Addr}{P:Nat→Nat→Value→Prop}{Stt:Nat→Heap→Prop}{n:Nat}(hn:n=ds.length)
  (W:Wlk G.prog G.w Γ.A s.heap.objs.size (s.heap.objs.size :: fp) n P Stt) (h0:Stt 0 (s.heap.push oI)) (hit:∀ i h,Stt i h→∃ o,h.get? s.heap.objs.size=some o∧ItObj o)
  (old:∀ b∈fp,(∃ o,s.heap.get? b=some o∧Flat o)∧¬ Γ.bad b∧(st=true→¬ a0k Γ σ oa b)) (rep:∀ i tk v d,s.toks≤tk→P i tk v→ds[i]?=some d→Rep (rc G Γ) (a0k Γ σ oa) s.heap tk v d)
  {Q:Value→Shared→Prop} (hQ:∀ I fp P Stt s',Kf s s'→Wk G Γ σ oa st ds s₀ s' I fp P Stt→Q (.ref I) s'):Q (.ref s.heap.objs.size) { s with heap:=s.heap.push oI }:=by
 have kf:Kf s { s with heap:=s.heap.push oI }:=Kf.push (c7G _)
 have cons:∀ {p:Addr→Prop},p s.heap.objs.size→(∀ b∈fp,p b)→∀ b∈s.heap.objs.size :: fp,p b:=fun h1 h2 b hb=>(c8o.mp hb).elim (fun q=>q ▸ h1) (h2 b)
 exact hQ _ _ _ _ _ kf {
  walks:=hn ▸ W
  start:=h0
  old:=cons ⟨⟨oI,c8a _ hf⟩,S.newT⟩ fun b hb=>(old b hb).1.elim fun o q=>⟨⟨o,kf.heap _ _ q.1⟩,S.flatT q.1 q.2⟩
  strict:=fun e=>cons S.newNot fun b hb=>(old b hb).2.2 e
  newI:=⟨a7u k₀ S.newT b4h,S.newNot⟩
  frm:=cons (fun q=>S.newNot (.inl q)) fun b hb=>(old b hb).2.1
  fpI:=c8L
  iter:=hit
  rep:=fun i tk v d htk hP hd=>(rep i tk v d htk hP hd).chg ⟨c7G _,fun b o _=>kf.heap b o,fun b o hb e q=>q.elim hb (a0f b4h e)⟩ }
noncomputable def Iter (G:GC)(Γ:Ctx)(σ:Store)(oa:Nat→Addr)(st:Bool)(ds:List D)(s₀ s:Shared)(v:Value):Prop:=
 ∀ (Q E:Value→Shared→Prop),(∀ I fp P Stt s',Kf s s'→Wk G Γ σ oa st ds s₀ s' I fp P Stt→Q (.ref I) s')→wpAny (model G.prog G.w) Γ.A (pyIter v) Q E s
theorem b4v {o:Obj}(T:String)(hc:o.cls=.type T)(h:(!odd.contains T&&!(T=="code"))=true):ItObj o:=⟨T,hc,a2w (a0i h).1,fun q=>ne_of_beq_false (a2w (a0i h).2) q⟩
theorem b1M (S:St G Γ lvl sc σ oa s){st:Bool}{l:Addr}{vs:List Value}{ds:List D}(rl:RL G Γ σ oa s vs ds){i:Nat}{tk:Nat}{v:Value}{d:D}(htk:s.toks≤tk)(hP:vs.toArray[i]?=some v)(hd:ds[i]?=some d):Rep (rc G Γ) (a0k Γ σ oa) s.heap tk v d:=by
 refine (rl.get i d hd).elim fun v' Z1=>Z1.elim (fun hv r=>?_)
 rw [c8q,hv] at hP
 exact c7Q hP ▸ r.keep htk fun _ _ _ e=>e
section
variable (S:St G Γ lvl sc σ oa s){st:Bool}{l:Addr}{vs:List Value}{ds:List D}(rl:RL G Γ σ oa s vs ds)(hnb:¬ Γ.bad l)(hst:st=true→¬ a0k Γ σ oa l)
include S rl hnb hst
theorem b4w (hl:s.heap.IsList l vs.toArray):Iter G Γ σ oa st ds s s (.ref l):=by
 intro Q E hQ
 have hlt:l<s.heap.objs.size:=hl.elim fun o q=>c7Z q.1
 exact wpAny_pyIter_list hl (a9p S .refl (st:=st) rfl rl.length (lk (Walks.list (prog:=G.prog) (w:=G.w) (A:=Γ.A) S.aok.1 s.heap.objs.size l (c8A hlt) vs.toArray)) ⟨⟨_,c8a _ rfl,rfl,rfl⟩,hl.push _⟩
  (fun i h st=>st.1.elim fun o q=>⟨o,q.1,b4v "list_iterator" q.2.1 rfl⟩) (fun b hb=>c8C.mp hb ▸ ⟨hl.elim fun o q=>⟨o,q.1,q.2.2.elim fun n e=>a1W e nofun⟩,hnb,hst⟩) (fun i tk v d htk hP hd=>b1M S (st:=st) (l:=l) rl htk hP hd) hQ)
theorem b7t (hl:IsTup s.heap l vs.toArray):Iter G Γ σ oa st ds s s (.ref l):=by
 intro Q E hQ
 have hlt:l<s.heap.objs.size:=hl.elim fun o q=>c7Z q.1
 exact wpAny_pyIter_tuple hl (a9p S .refl (st:=st) rfl rl.length (lk (Walks.tuple (prog:=G.prog) (w:=G.w) (A:=Γ.A) S.aok.1 s.heap.objs.size l (c8A hlt) vs.toArray)) ⟨⟨_,c8a _ rfl,rfl,rfl⟩,a8b hl fun o e=>c7P _ e⟩
  (fun i h st=>st.1.elim fun o q=>⟨o,q.1,b4v "tuple_iterator" q.2.1 rfl⟩) (fun b hb=>c8C.mp hb ▸ ⟨hl.elim fun o q=>⟨o,q.1,q.2.2.elim fun n e=>a1W e nofun⟩,hnb,hst⟩) (fun i tk v d htk hP hd=>b1M S (st:=st) (l:=l) rl htk hP hd) hQ)
end
theorem c0o {g:Bool}{x:Str}{i:Nat}{d:D}(hd:(x.cps.toList.map fun c=>D.str ⟨#[c]⟩ g)[i]?=some d){c:Nat}(hc:x.cps[i]?=some c):d=.str ⟨#[c]⟩ g:=by
 rw [c8M,Array.getElem?_toList,hc] at hd
 exact (c7Q hd).symm
theorem b7u (S:St G Γ lvl sc σ oa s){st:Bool}{x:Str}{t:Tok}(hasc:x.cps.all (·<128)=true):Iter G Γ σ oa st (a8d x) s s (.str x t):=by
 intro Q E hQ
 exact wpAny_pyIter_ascii hasc (a9p S .refl (st:=st) (fp:=[]) (ds:=a8d x) rfl ((c8u ..).trans Array.length_toList).symm (lk (Walks.strAscii (prog:=G.prog) (w:=G.w) (A:=Γ.A) S.aok.1 s.heap.objs.size x t)) ⟨_,c8a _ rfl,rfl,rfl⟩
  (fun i h st=>st.elim fun o q=>⟨o,q.1,b4v "str_ascii_iterator" q.2.1 rfl⟩) nofun (fun i tk v d htk hP hd=>hP.elim fun c hP=>hP.elim fun u hP=>(c0o hd hP.1).symm ▸ hP.2.symm ▸ .str _ _ _ nofun) hQ)
theorem b2T (S:St G Γ lvl sc σ oa s){st:Bool}{x:Array UInt8}{t:Tok}:Iter G Γ σ oa st (x.toList.map fun c=>.int c.toNat) s s (.bytes x t):=by
 intro Q E hQ
 exact KBw.pyIter_bytes (a9p S .refl (st:=st) (fp:=[]) (ds:=x.toList.map fun c=>.int c.toNat) rfl ((c8u ..).trans Array.length_toList).symm (lk (KBw.walks (prog:=G.prog) (w:=G.w) (A:=Γ.A) S.aok.1 s.heap.objs.size x t)) ⟨_,c8a _ rfl,rfl,rfl⟩
  (fun i h st=>st.elim fun o q=>⟨o,q.1,b4v "bytes_iterator" q.2.1 rfl⟩) nofun (fun i tk v d htk hP hd=>by
   obtain⟨c,u,hc,rfl⟩:=hP
   rw [c8M,Array.getElem?_toList,hc] at hd
   exact c7Q hd ▸ .int _ _) hQ)
theorem b0M (S:St G Γ lvl sc σ oa s){st:Bool}(ha:RT G Γ σ oa s va a)(hst:st=true→RD G Γ σ oa s va a)(hnb:∀ a,va=.ref a→¬ Γ.bad a){ds:List D}(h:a5S a=some ds):Iter G Γ σ oa st ds s s va:=by
 rcases a0I h with h | h
 ·obtain rfl:=a2i h
  obtain⟨l,vs,rfl,hl,rl⟩:=ha.asList
  exact b4w S rl (hnb l rfl) (fun e=>by obtain⟨_,_,q,nb,_⟩:=(hst e).view;injection q with q;exact q ▸ nb) hl
 rcases a0I h with h | h
 ·obtain rfl:=a2m h
  obtain⟨l,vs,rfl,nb,hl,rl⟩:=ha.asTup
  exact b7t S rl (hnb l rfl) (fun _=>nb) hl
 rcases a0I h with h | h
 ·refine a0j h (clear% h;fun x hx h=>?_)
  refine a0Q h (clear% h;fun hc h=>?_)
  exact h ▸ ha.strP (P:=fun v=>Iter G Γ σ oa st _ s s v) hx fun t=>b7u S hc
 ·refine a2v h (clear% h;fun x hx h=>?_)
  exact h ▸ ha.bytesP (P:=fun v=>Iter G Γ σ oa st _ s s v) hx fun t=>b2T S
theorem b2U (S:St G Γ lvl sc σ oa s){s₀:Shared}(k₀:Kp G s₀ s){a b c:Int}{r:Addr}{t u v:Tok}{st:Bool}(hr:IsRange s.heap r a b c t u v){n:Nat}(hn:Builtin.Range.rangeSize a b c=n)(hsmall:Builtin.Range.small a b c=true) :
  Iter G Γ σ oa st ((List.range n).map fun (i:Nat)=>.int (a+i*c)) s₀ s (.ref r):=by
 intro Q E hQ
 refine wpAny_pyIter_range hr hsmall ?_
 rw [hn]
 exact a9p S k₀ (st:=st) (fp:=[]) (ds:=(List.range n).map fun (i:Nat)=>.int (a+i*c)) rfl ((c8u ..).trans c8v).symm (lk (Walks.range (prog:=G.prog) (w:=G.w) (A:=Γ.A) S.aok.1 s.heap.objs.size a c n)) (by
   show (s.heap.push _).get? _ = _
   rw [Int.natCast_zero,Int.zero_mul,Int.add_zero,Int.sub_zero]
   exact c8a _ rfl)
  (fun i h st=>⟨_,st,b4v "range_iterator" rfl rfl⟩) nofun (fun i tk v d htk hP hd=>by
   refine hP.elim (clear% hP;fun t Z1=>?_)
   subst Z1
   refine (Option.map_eq_some_iff.mp ((c8M ..).symm.trans hd)).elim fun j Z1=>Z1.elim (fun hj Z2=>?_)
   subst Z2
   refine (c8D.mp hj).elim fun h1 h2=>?_
   rw [List.getElem_range] at h2
   exact h2 ▸ .int _ _) hQ
end
end
section
section
variable {G:GC}{Γ:Ctx}{W:Nat→Bool}{lvl:Nat}{sc:a0h}{σ σ₀ σ':Store}{oa:Nat→Addr}{s s':Shared}{va vb vc v:Value}{a b c d:D}{E:Value→Shared→Prop}
noncomputable def a3j (sc:a0h)(id:Str):Bool:=sc.lookup id==some .local||sc.lookup id==some .cell
theorem a1J {id:Str}(h:a3j sc id=true):sc.lookup id=some .local∨sc.lookup id=some .cell:=(or2 h).imp c8d c8d
noncomputable def a4H (nm:Nat→Str)(sc:a0h):List Nat→List Expr→Bool
 | [],es=>es.isEmpty
 | x :: xs,es=>match es with
  | []=>false
  | e :: r=>isN nm x e&&a3j sc (nm x)&&a4H nm sc xs r
noncomputable def a3z (nm:Nat→Str)(sc:a0h)(t:Tgt)(e:Expr):Bool:=match t with
 | .one x=>isN nm x e&&a3j sc (nm x)
 | .many xs=>isT e .tup&&a4H nm sc xs (vw e).es
inductive Tgts (nm:Nat→Str) (sc:a0h):List Nat→List Expr→Prop
 | nil:Tgts nm sc [] []
 | cons {x:Nat} {xs:List Nat} {es:List Expr} (p:Pos) (h:a3j sc (nm x)=true) (r:Tgts nm sc xs es):Tgts nm sc (x :: xs) (.Name (nm x) p :: es)
theorem a9q {nm:Nat→Str}{xs:List Nat}{es:List Expr}(h:a4H nm sc xs es=true):Tgts nm sc xs es:=by
 induction xs generalizing es with
 | nil=>
  cases es with
  | nil=>exact .nil
  | cons=>exact absurd h c7I
 | cons x xs ih=>
  cases es with
  | nil=>exact absurd h c7I
  | cons e es=>
   refine a0b (a:=isN nm x e&&a3j sc (nm x)) h fun h1 h2=>?_
   rw [a1r (a0i h1).1]
   exact .cons _ (a0i h1).2 (ih h2)
structure Kts (G:GC)(Γ:Ctx)(X:List Nat)(s s':Shared):Prop where
 heap:∀ b o,b≠Γ.env.locals→(∀ x∈X,Γ.env.cells.lookup (G.nm x)≠some b)→s.heap.get? b=some o→s'.heap.get? b=some o
 os:s'.os=s.os
 toks:s.toks≤s'.toks
 gens:s'.gens=s.gens
theorem Kts.ofKt {x:Nat}{X:List Nat}(hx:x∈X)(k:Kt G Γ x s s'):Kts G Γ X s s':=⟨fun b o h1 h2 e=>k.heap b o h1 (h2 x hx) e,k.os,k.toks,k.gens⟩
theorem Kts.trans {X:List Nat}{s₁:Shared}(k:Kts G Γ X s s₁)(k':Kts G Γ X s₁ s'):Kts G Γ X s s':=
 ⟨fun b o h1 h2 e=>k'.heap b o h1 h2 (k.heap b o h1 h2 e),k'.os.trans k.os,c7O k.toks k'.toks,k'.gens.trans k.gens⟩
theorem Kts.mono {X Y:List Nat}(h:∀ x∈X,x∈Y)(k:Kts G Γ X s s'):Kts G Γ Y s s':=⟨fun b o h1 h2 e=>k.heap b o h1 (fun x hx=>h2 x (h x hx)) e,k.os,k.toks,k.gens⟩
theorem a1w {x y:Nat}{sl:Slot}(hs:sl.notM x=true)(h:noMeth σ x=true):noMeth (σ.set y sl) x=true:=by
 induction σ with
 | nil=>exact c8N.mpr ⟨hs,rfl⟩
 | cons p r ih=>
  refine a0b (a:=p.2.notM x) (b:=noMeth r x) h fun h1 h2=>?_
  show noMeth (bif y==p.1 then (p.1,sl) :: r else p :: Store.set r y sl) x=true
  cases y==p.1 with
  | true=>exact c8N.mpr ⟨hs,h2⟩
  | false=>exact c8N.mpr ⟨h1,ih h2⟩
theorem a7v {x:Nat}(l:List (Nat×D)){σ:Store}(h:(l.foldl (fun σ p=>σ.set p.1 (.val p.2)) σ).isOwn x=true):σ.isOwn x=true:=by
 induction l generalizing σ with
 | nil=>exact h
 | cons p r ih=>exact (a2l rfl (ih h)).2
theorem b2V {nm:Nat→Str}{xs:List Nat}{es:List Expr}(h:Tgts nm sc xs es)(env:Env):(assignEach es env).length=xs.length∧(assignEach es env).findIdx? (·.1)=none:=by
 induction h with
 | nil=>exact⟨rfl,rfl⟩
 | cons p h r ih=>
  refine⟨c7H (·+1) ih.1,?_⟩
  show List.findIdx? (·.1) ((false,_) :: assignEach _ env)=none
  rw [List.findIdx?_cons,ih.2]
  rfl
theorem b2W {xs:List Nat}{es:List Expr}(hm:Tgts G.nm sc xs es){σ:Store}{s:Shared}{vs:List Value}{ds:List D}(S:St G Γ lvl sc σ oa s)(hl:xs.length=ds.length)(hmeth:xs.all (noMeth σ ·)=true)
  (r:RL G Γ σ oa s vs ds) {Q:Unit→Shared→Prop} {E:Value→Shared→Prop}
  (h:∀ s',St G Γ lvl sc ((xs.zip ds).foldl (fun σ p=>σ.set p.1 (.val p.2)) σ) oa s'→Kts G Γ xs s s'→Step G Γ W σ oa s ((xs.zip ds).foldl (fun σ p=>σ.set p.1 (.val p.2)) σ) oa s'→Q () s') :
  wpAny (model G.prog G.w) Γ.A (assignInOrder ((assignEach es Γ.env).map (·.2)) vs) Q E s:=by
 induction hm generalizing σ s vs ds with
 | nil=>
  cases ds with
  | cons _ _=>cases hl
  | nil=>exact c8f (h s S ⟨fun _ _ _ _ e=>e,rfl,c7G _,rfl⟩ Step.refl)
 | @cons x xs es p hst ht ih=>
  cases ds with
  | nil=>cases hl
  | cons d ds=>
   obtain⟨v',vs',rfl,a,r⟩:=r.view
   obtain⟨h1,h2⟩:=a0i (a:=noMeth σ x) hmeth
   show wpAny _ _ (_ >>= fun _=>assignInOrder ((assignEach es Γ.env).map (·.2)) vs') _ _ _
   refine c8e (c8c (wpAny_assign_Name (S.store (W:=W) (a1J hst) h1 a fun s₁ S₁ k₁ t₁=>?_)))
   have r₁:RL G Γ (σ.set x (.val d)) oa s₁ vs' ds:=r.chg ⟨k₁.toks,fun b o hb=>k₁.heap b o (fun q=>hb (.inl (q ▸ S.badL))) (fun q=>hb (.inl (S.badC _ _ q))),fun b _ hb _ q=>hb ((a3r (sl:=.val d) S rfl h1).all b q)⟩
   exact ih S₁ (Nat.succ.inj hl) (c8k.mpr fun y hy=>a1w rfl (c8k.mp h2 y hy)) r₁ fun s' S' k' t'=>h s' S' ((Kts.ofKt c8L k₁).trans (k'.mono fun y hy=>c8O _ hy)) (t₁.trans S₁ t')
theorem a6t (S:St G Γ lvl sc σ oa s){t:Tgt}{e:Expr}(hm:a3z G.nm sc t e=true)(r:RD G Γ σ oa s v d)(h:a1c σ t d=some σ'){Q:Unit→Shared→Prop}
  (hQ:∀ s',St G Γ lvl sc σ' oa s'→Kts G Γ t.xs s s'→Step G Γ W σ oa s σ' oa s'→Q () s'):wpAny (model G.prog G.w) Γ.A (assign e Γ.env v) Q E s:=by
 cases t with
 | one x=>
  refine a0b hm (clear% hm;fun hid hst=>?_)
  refine a0Q h (clear% h;fun hc h=>?_)
  rw [a1r hid]
  rw [← h] at hQ
  exact wpAny_assign_Name (S.store (W:=W) (a1J hst) hc r fun s₁ S₁ k₁ t₁=>hQ s₁ S₁ (Kts.ofKt c8L k₁) t₁)
 | many xs=>
  refine a0b hm (clear% hm;fun ht hts=>?_)
  refine a0j h (clear% h;fun ds hd h=>?_)
  refine a0Q h (clear% h;fun hc h=>?_)
  refine a0b hc (clear% hc;fun hc1 hc2=>?_)
  have hc1:=c7X hc1
  have hts:=a9q hts
  have sh:=b2V hts Γ.env
  rw [a2m hd] at r
  obtain⟨a,vs,rfl,_,ht',rl⟩:=r.view
  rw [a0A ht]
  rw [← h] at hQ
  refine wpAny_assign_Tuple S.aok.1 ht' (sh.1.trans (hc1.trans rl.length.symm)) sh.2 fun h' he=>?_
  have k:Kf s { s with heap:=h' }:=⟨fun b o e=>he b o (c8A (c7Z e)) e,rfl,c7G _,rfl⟩
  exact b2W (W:=W) hts (S.kf k) hc1 hc2 (rl.keep (c7G _) fun b o _ e=>k.heap b o e) fun s' S' k' t'=>hQ s' S' ⟨fun b o h1 h2 e=>k'.heap b o h1 h2 (k.heap b o e),k'.os,k'.toks,k'.gens⟩ ((Step.ofKp (W:=W) k.kp).trans (S.kf k) t')
end
end
section
section
variable {G:GC}{Γ:Ctx}{W:Nat→Bool}{lvl:Nat}{sc:a0h}{σ σ₀ σ':Store}{oa:Nat→Addr}{s s':Shared}
noncomputable def c5i (sc:a0h)(x:Str)(k:NameKind):NameKind:=if (k==.free&&sc.lookup x==some .cell)=true then .cell else k
noncomputable def a4j (sc:a0h)(names:a0h):a0h:=names.map fun (n,k)=>if k==.free&&sc.lookup n==some .cell then (n,.cell) else (n,k)
theorem b4x (n:Str)(k:NameKind)(r:a0h):a4j sc ((n,k) :: r)=(n,c5i sc n k) :: a4j sc r:=by
 show (if (k==.free&&sc.lookup n==some .cell)=true then (n,NameKind.cell) else (n,k)) :: a4j sc r = _
 unfold c5i
 cases k==.free&&sc.lookup n==some .cell <;> rfl
theorem a4k {x:Str}{names:a0h}:(a4j sc names).lookup x=(names.lookup x).map (c5i sc x):=by
 induction names with
 | nil=>rfl
 | cons p r ih=>
  obtain⟨n,k⟩:=p
  rw [b4x,c7J,c7J,ih]
  cases hx:x==n with
  | true=>rw [c8d hx];rfl
  | false=>rfl
theorem b1N {x:Str}{names:a0h}{k:NameKind}(h:(a4j sc names).lookup x=some k):names.lookup x=some k∨(names.lookup x=some .free∧k=.cell∧sc.lookup x=some .cell):=by
 rw [a4k] at h
 refine a2v h (clear% h;fun k' h1 h2=>?_)
 unfold c5i at h2
 cases hc:(k'==.free&&sc.lookup x==some .cell) with
 | true=>
  rw [hc,c7K rfl] at h2
  refine a0b hc (clear% hc;fun h3 h4=>?_)
  exact .inr ⟨h1.trans (c7H some (c8d h3)),h2.symm,c8d h4⟩
 | false=>
  rw [hc,c7M c7I] at h2
  exact .inl (h1.trans (c7H some h2))
theorem b4y {x:Str}{names:a0h}(h:names.lookup x=some .free):(a4j sc names).lookup x=some .cell∨(a4j sc names).lookup x=some .free:=by
 rw [a4k,h]
 show some (if _ then _ else _) = _∨some (if _ then _ else _) = _
 cases (NameKind.free==.free&&sc.lookup x==some .cell) with
 | true=>exact .inl rfl
 | false=>exact .inr rfl
theorem b2X (S:St G Γ lvl sc σ oa s)(scope:Scope):(relabel scope Γ.env).names=a4j sc scope.names:=by
 unfold relabel a4j Env.kindOf
 simp only [S.kind,S.names,c7R,Bool.and_true]
noncomputable def a0V (cells:List (Str×Addr)):a0h→List (Str×Addr)→List (Str×Addr)
 | [],acc=>acc
 | p :: r,acc=>bif p.2==.free then a0V cells r ((p.1,(cells.lookup p.1).getD 0) :: acc) else a0V cells r acc
theorem a5H (cells:List (Str×Addr))(names:a0h)(acc:List (Str×Addr)):a0V cells names acc=a0V cells names []++acc:=by
 induction names generalizing acc with
 | nil=>rfl
 | cons p r ih=>
  show (bif p.2==.free then _ else _)=(bif p.2==.free then _ else _)++acc
  cases p.2==.free with
  | true=>exact (ih _).trans ((List.append_cons ..).trans (c7H (·++acc) (ih [_]).symm))
  | false=>exact ih acc
theorem a1A (names:a0h)(n:Nat)(acc:List (Str×Addr)):cellsFrom n names acc=cellsFrom n names []++acc:=by
 induction names generalizing n acc with
 | nil=>rfl
 | cons p r ih=>
  obtain⟨x,k⟩:=p
  show (if (k==.cell)=true then _ else _)=(if (k==.cell)=true then _ else _)++acc
  cases k==.cell with
  | true=>exact (ih _ _).trans ((List.append_cons ..).trans (c7H (·++acc) (ih _ [_]).symm))
  | false=>exact ih n acc
theorem a9r {cells:List (Str×Addr)}{x:Str}{c:Addr}{names:a0h}(h:(x,c)∈a0V cells names []):(x,NameKind.free)∈names∧c=(cells.lookup x).getD 0:=by
 induction names with
 | nil=>exact nomatch h
 | cons p r ih=>
  have h:(x,c)∈(bif p.2==.free then a0V cells r [(p.1,(cells.lookup p.1).getD 0)] else a0V cells r []):=h
  cases hk:p.2==.free with
  | true=>
   rw [hk,cond_true,a5H] at h
   rcases c8P.mp h with h | h
   ·exact⟨c8O _ (ih h).1,(ih h).2⟩
   ·cases c8C.mp h
    exact⟨c8d hk ▸ c8L,rfl⟩
  | false=>
   rw [hk] at h
   exact⟨c8O _ (ih h).1,(ih h).2⟩
theorem a9s {cells:List (Str×Addr)}{x:Str}{names:a0h}(h:(x,NameKind.free)∈names):(x,(cells.lookup x).getD 0)∈a0V cells names []:=by
 induction names with
 | nil=>exact nomatch h
 | cons p r ih=>
  show _∈(bif p.2==.free then a0V cells r [(p.1,(cells.lookup p.1).getD 0)] else a0V cells r [])
  cases hk:p.2==.free with
  | true=>
   rw [cond_true,a5H]
   rcases c8o.mp h with h | h
   ·rw [← h];exact c8Q _ c8L
   ·exact c8R _ (ih h)
  | false=>
   rcases c8o.mp h with h | h
   ·rw [← h] at hk;cases hk
   ·exact ih h
theorem a8n {x:Str}{c:Addr}{names:a0h}{n:Nat}(h:(x,c)∈cellsFrom n names []):(x,NameKind.cell)∈names:=by
 induction names generalizing n with
 | nil=>exact nomatch h
 | cons p r ih=>
  obtain⟨y,k⟩:=p
  have h:(x,c)∈(if (k==.cell)=true then cellsFrom (n+1) r [(y,n)] else cellsFrom n r []):=h
  cases hk:k==.cell with
  | true=>
   rw [hk,c7K rfl,a1A] at h
   rcases c8P.mp h with h | h
   ·exact c8O _ (ih h)
   ·cases c8C.mp h
    exact c8d hk ▸ c8L
  | false=>
   rw [hk,c7M c7I] at h
   exact c8O _ (ih h)
theorem a4I {x:Str}{names:a0h}{n:Nat}(h:(x,NameKind.cell)∈names):∃ c,(x,c)∈cellsFrom n names []:=by
 induction names generalizing n with
 | nil=>exact nomatch h
 | cons p r ih=>
  obtain⟨y,k⟩:=p
  show ∃ c,_∈(if (k==.cell)=true then cellsFrom (n+1) r [(y,n)] else cellsFrom n r [])
  cases hk:k==.cell with
  | true=>
   rw [c7K rfl,a1A]
   rcases c8o.mp h with h | h
   ·cases h;exact⟨_,c8Q _ c8L⟩
   ·exact (ih h).elim fun c h=>⟨c,c8R _ h⟩
  | false=>
   rw [c7M c7I]
   rcases c8o.mp h with h | h
   ·cases h;cases hk
   ·exact ih h
theorem a2Y {α:Type}{x:Str}{l:List (Str×α)}{c:α}(h:(x,c)∈l):∃ c',l.lookup x=some c':=by
 induction l with
 | nil=>exact nomatch h
 | cons p r ih=>
  obtain⟨y,c'⟩:=p
  rw [c7J]
  cases hx:x==y with
  | true=>exact⟨_,rfl⟩
  | false=>
   rcases c8o.mp h with h | h
   ·cases h;rw [c7R] at hx;cases hx
   ·exact ih h
noncomputable def c2S (sc:a0h)(p:Str×NameKind):Bool:=p.2==.local||p.2==.cell||p.2==.globalImplicit||(p.2==.free&&(sc.lookup p.1==some .cell||sc.lookup p.1==some .free))
noncomputable def a3A (nm:Nat→Str)(sc:a0h)(scope:Scope)(fv:List Nat):Bool:=
 scope.kind==.function&&scope.names.all (fun p=>scope.names.lookup p.1==some p.2)&&scope.names.all (c2S sc)&&(fv.all fun x=>scope.names.lookup (nm x)==some .free)&&(a4A (a4j sc scope.names)==none||a4A (a4j sc scope.names)==a4A sc)
structure ScopeOk (nm:Nat→Str)(sc:a0h)(scope:Scope)(fv:List Nat):Prop where
 kind:scope.kind=.function
 cons:∀ p∈scope.names,scope.names.lookup p.1=some p.2
 free:∀ x,(x,NameKind.free)∈scope.names→sc.lookup x=some .cell∨sc.lookup x=some .free
 fv:∀ x∈fv,scope.names.lookup (nm x)=some .free
 lam:∀ i,a4A (a4j sc scope.names)=some i→a4A sc=some i
theorem a3S {nm:Nat→Str}{scope:Scope}{fv:List Nat}(h:a3A nm sc scope fv=true):ScopeOk nm sc scope fv:=by
 refine a0b h (clear% h;fun h h5=>?_)
 refine a0b h (clear% h;fun h h4=>?_)
 refine a0b h (clear% h;fun h h3=>?_)
 refine a0b h (clear% h;fun h1 h2=>?_)
 refine⟨c8d h1,fun p hp=>c8d (c8k.mp h2 p hp),fun x hx=>?_,fun x hx=>c8d (c8k.mp h4 x hx),fun i hi=>?_⟩
 ·rcases or2 (a:=_||_) (c8k.mp h3 _ hx) with q | q
  ·cases q
  ·exact (or2 (a0i q).2).imp c8d c8d
 ·rcases or2 h5 with q | q
  ·rw [c8d q] at hi;cases hi
  ·exact (c8d q).symm.trans hi
noncomputable def a1n (Γ:Ctx)(scope:Scope)(n:Nat):List (Str×Addr):=cellsFrom n scope.names (a0V Γ.env.cells scope.names [])
theorem c0p {env:Env}(names:a0h)(acc:List (Str×Addr))(hr:∀ x,(x,NameKind.free)∈names→(env.cells.lookup x).isSome=true) :
  (forIn names acc (fun p cs=>(if p.2==NameKind.free then (do let a ← cellOf env p.1;pure (ForInStep.yield ((p.1,a) :: cs))) else pure (ForInStep.yield cs):Sem _)):Sem (List (Str×Addr)))=pure (a0V env.cells names acc):=by
 induction names generalizing acc with
 | nil=>rfl
 | cons p r ih=>
  obtain⟨n,k⟩:=p
  rw [List.forIn_cons]
  show _=pure (bif k==.free then _ else _)
  have hr':=fun x hx=>hr x (c8O _ hx)
  cases hk:k==.free with
  | true=>
   have hk:=c8d hk
   subst hk
   refine (Option.isSome_iff_exists.mp (hr n c8L)).elim fun a ha=>?_
   have e:cellOf env n=pure a:=by unfold cellOf;rw [ha]
   show ((cellOf env n >>= fun a=>pure (ForInStep.yield ((n,a) :: acc))) >>= _:Sem _)=pure (a0V env.cells r ((n,(env.cells.lookup n).getD 0) :: acc))
   rw [e,ha]
   exact ih _ hr'
  | false=>exact ih acc hr'
theorem a4J {env:Env}{scope:Scope}(h:∀ x,(x,NameKind.free)∈scope.names→(env.cells.lookup x).isSome=true):closureFor scope env=pure (a0V env.cells scope.names []):=by
 unfold closureFor
 show ((forIn scope.names ([]:List (Str×Addr)) _:Sem _) >>= fun cs=>pure cs) = _
 refine Eq.trans (c7H (fun (m:Sem (List (Str×Addr)))=>m >>= fun cs=>pure cs) (Eq.trans ?_ (c0p scope.names [] h))) rfl
 congr 1
theorem b2Y {M:Model}{A:Around}{scope:Scope}{globals:Addr}{cl:List (Str×Addr)}{qual:Str}{env:Env}{E:Value→Shared→Prop}{Q:Env→Shared→Prop}
  (h:Q (newEnv scope s.heap.objs.size globals (cellsFrom (s.heap.objs.size+1) scope.names cl) qual none .none (some env) builtinsNs) { s with heap:=pushCells (s.heap.push { cls:=.type "dict",data:=.dict #[] }) scope.names }) :
  wpAny M A (newFunctionEnv scope globals cl [] qual none .none (some env)) Q E s:=by
 simp only [newFunctionEnv,Option.isSome_some,if_true]
 refine c8e (wpAny_alloc ?_)
 refine c8e (wpAny_layCells _ (fun name kind cells=>by cases kind==NameKind.cell <;> rfl) _ _ _ _ ?_)
 rw [show ({ s with heap:=s.heap.push { cls:=.type "dict",data:=.dict #[] } }:Shared).heap.objs.size=s.heap.objs.size+1 from c8B ..]
 rw [List.forIn_nil]
 exact c8e (c8f (c8f h))
theorem b7v {x:Nat}{sl:Slot}{p:Nat×Slot}(h:Slot.keep x sl=some p):p=(x,sl)∧∀ z,sl≠.meth z:=by
 cases sl with
 | meth z=>exact a0e h
 | _=>exact⟨(c7Q h).symm,nofun⟩
theorem a5I {fv:List Nat}{σ₀:Store}(h:a0S σ fv=some σ₀)(x:Nat)(sl:Slot)(hx:σ₀.get x=some sl):x∈fv∧σ.get x=some sl∧∀ y,sl≠.meth y:=by
 induction fv generalizing σ₀ with
 | nil=>cases c7Q h;cases hx
 | cons y r ih=>
  unfold a0S at h
  rw [c8i] at h
  refine a0j h (clear% h;fun p hp h=>?_)
  refine a0j h (clear% h;fun t ht h=>?_)
  cases c7Q h
  refine a0j hp (clear% hp;fun sl' hg hp=>?_)
  refine (b7v hp).elim fun Z1 hn=>?_
  subst Z1
  rw [a0R] at hx
  cases q:x==y with
  | true=>
   rw [q] at hx
   cases c7Q hx
   rw [c8d q]
   exact⟨c8L,hg,hn⟩
  | false=>
   rw [q] at hx
   exact⟨c8O _ (ih ht hx).1,(ih ht hx).2⟩
theorem a4d {fv:List Nat}{σ₀:Store}(hσ:a0S σ fv=some σ₀){x:Nat}(h:σ₀.isOwn x=true):σ.isOwn x=true:=
 (a2K h).elim fun sl q=>(a1e (a5I hσ x sl q.1).2.1).trans q.2
end
end
section
section
variable {G:GC}{Γ:Ctx}{lvl:Nat}{sc:a0h}{σ σ₀:Store}{oa:Nat→Addr}{s:Shared}
noncomputable def b1O (Γ:Ctx)(scope:Scope)(L:Addr):Env:=
 { scope:=relabel scope Γ.env,locals:=L,globals:=Γ.env.globals,cells:=a1n Γ scope (L+1),qual:=Γ.env.qual,func:=none,code:=Γ.env.code,frame:=Γ.env.frame,builtins:=Γ.env.builtins }
noncomputable def b4z (Γ:Ctx)(σ σ₀:Store)(oa:Nat→Addr)(h h':Heap)(b:Addr):Prop:=(a0k Γ σ oa b∧¬ ∃ x,σ₀.isOwn x=true∧b=oa x)∨(h.get? b=none∧∃ o,h'.get? b=some o)
noncomputable def a3B (Γ:Ctx)(σ σ₀:Store)(oa:Nat→Addr)(scope:Scope)(h h':Heap)(L:Addr):Ctx:=⟨Γ.A,b1O Γ scope L,Γ.st,b4z Γ σ σ₀ oa h h'⟩
noncomputable def a0q (h:Heap):Heap:=h.push { cls:=.type "list",data:=.seq ([]:List Value).toArray }
noncomputable def a0w (h:Heap)(scope:Scope):Heap:=pushCells ((a0q h).push { cls:=.type "dict",data:=.dict #[] }) scope.names
inductive CellIn (Γ:Ctx) (scope:Scope) (h:Heap) (x:Str) (c:Addr):Prop
 | new (h1:scope.names.lookup x=some .cell) (h2:(a0w h scope).IsCell c none) (h3:h.objs.size+2≤c) (h4:(x,c)∈cellsFrom ((a0q h).objs.size+1) scope.names [])
 | old (h1:scope.names.lookup x=some .free) (h2:Γ.env.cells.lookup x=some c)
structure CompFrame (G:GC)(Γ:Ctx)(lvl:Nat)(sc:a0h)(σ σ₀:Store)(oa:Nat→Addr)(scope:Scope)(s:Shared):Prop where
 st:St G (a3B Γ σ σ₀ oa scope s.heap (a0w s.heap scope) (a0q s.heap).objs.size) lvl (a4j sc scope.names) σ₀ oa { s with heap:=a0w s.heap scope }
 kf:Kf s { s with heap:=a0w s.heap scope }
 acc:(a0w s.heap scope).PlainList s.heap.objs.size #[]
 newD:s.heap.get? s.heap.objs.size=none
 newL:s.heap.get? (a0q s.heap).objs.size=none
 there:Chg (a0k Γ σ oa) (a0k (a3B Γ σ σ₀ oa scope s.heap (a0w s.heap scope) (a0q s.heap).objs.size) σ₀ oa) s.heap (a0w s.heap scope) s.toks s.toks
 back:∀ b,a0k Γ σ oa b→a0k (a3B Γ σ σ₀ oa scope s.heap (a0w s.heap scope) (a0q s.heap).objs.size) σ₀ oa b
 cell:∀ x c,(a1n Γ scope ((a0q s.heap).objs.size+1)).lookup x=some c→CellIn Γ scope s.heap x c
 clos:closureFor scope Γ.env=pure (a0V Γ.env.cells scope.names [])
theorem a6u (h:Heap):(a0q h).objs.size=h.objs.size+1:=c8B ..
theorem fresh {h:Heap}{a:Addr}(ha:h.objs.size≤a):h.get? a=none:=by
 cases e:h.get? a with
 | none=>rfl
 | some o=>exact absurd (c7Z e) (Nat.not_lt.mpr ha)
theorem a4l (S:St G Γ lvl sc σ oa s){a:Addr}(ha:s.heap.get? a=none):G.g.get? a=none:=by
 cases e:G.g.get? a with
 | none=>rfl
 | some o=>exact absurd rfl (a0f ha (S.gst.base _ _ e))
theorem b4A (h:Heap)(scope:Scope):CellsOk (a0w h scope) ((a0q h).objs.size+1) (cellsFrom ((a0q h).objs.size+1) scope.names []):=by
 have ok:=cellsFrom_ok scope.names ((a0q h).push { cls:=.type "dict",data:=.dict #[] }) ((a0q h).objs.size+1) [] ⟨fun _ _ hm=>(nomatch hm),List.Pairwise.nil⟩ (by rw [c8B];exact c7G _)
 rw [c8B] at ok
 exact ok
theorem a1N {fv:List Nat}{nm:Nat→Str}(S:St G Γ lvl sc σ oa s){scope:Scope}(K:ScopeOk nm sc scope fv){x:Str}{c:Addr}(h:(a1n Γ scope ((a0q s.heap).objs.size+1)).lookup x=some c):CellIn Γ scope s.heap x c:=by
 unfold a1n at h
 rw [a1A,List.lookup_append] at h
 cases h1:(cellsFrom ((a0q s.heap).objs.size+1) scope.names []).lookup x with
 | some c'=>
  rw [h1] at h
  cases c7Q h
  have hm:=mem_of_lookup h1
  refine ((b4A s.heap scope).empty x c hm).elim fun h2 h3=>?_
  rw [a6u] at h3
  exact .new (K.cons _ (a8n hm)) h2 h3 hm
 | none=>
  rw [h1] at h
  refine (a9r (mem_of_lookup h)).elim fun h2 h3=>?_
  obtain⟨c',v,e,_⟩:=S.cellAt x (K.free x h2)
  rw [e] at h3
  exact .old (K.cons _ h2) (h3 ▸ e)
theorem b1P {fv:List Nat}{nm:Nat→Str}(S:St G Γ lvl sc σ oa s){scope:Scope}(K:ScopeOk nm sc scope fv){x:Str}{c:Addr}(hx:scope.names.lookup x=some .free)(hc:Γ.env.cells.lookup x=some c):(a1n Γ scope ((a0q s.heap).objs.size+1)).lookup x=some c:=by
 have h:∃ c',(a1n Γ scope ((a0q s.heap).objs.size+1)).lookup x=some c':=by
  unfold a1n
  rw [a1A]
  exact a2Y (c8Q _ (a9s (cells:=Γ.env.cells) (mem_of_lookup hx)))
 refine h.elim (clear% h;fun c' h=>?_)
 cases a1N S K h with
 | new h1=>rw [hx] at h1;cases h1
 | old h1 h2=>rw [h2] at hc;exact h.trans hc
theorem b7w {fv:List Nat}{nm:Nat→Str}(S:St G Γ lvl sc σ oa s){scope:Scope}(K:ScopeOk nm sc scope fv){x:Str}(hx:scope.names.lookup x=some .cell):∃ c,(a1n Γ scope ((a0q s.heap).objs.size+1)).lookup x=some c∧(a0w s.heap scope).IsCell c none:=by
 refine (a4I (n:=(a0q s.heap).objs.size+1) (mem_of_lookup hx)).elim fun c hc=>?_
 have h:∃ c',(a1n Γ scope ((a0q s.heap).objs.size+1)).lookup x=some c':=by
  unfold a1n
  rw [a1A]
  exact a2Y (c8R _ hc)
 refine h.elim (clear% h;fun c' h=>?_)
 cases a1N S K h with
 | new h1 h2=>exact⟨c',h,h2⟩
 | old h1=>rw [hx] at h1;cases h1
theorem a7w (S:St G Γ lvl sc σ oa s){scope:Scope}{fv:List Nat}(hs:a3A G.nm sc scope fv=true)(hσ:a0S σ fv=some σ₀):CompFrame G Γ lvl sc σ σ₀ oa scope s:=by
 have K:=a3S hs
 have kf:Kf s { s with heap:=a0w s.heap scope }:=⟨fun b o e=>pushCells_keeps _ _ b o (c7P _ (c7P _ e)),rfl,c7G _,rfl⟩
 have dO:(a0w s.heap scope).get? s.heap.objs.size=some { cls:=.type "list",data:=.seq ([]:List Value).toArray }:=
  pushCells_keeps _ _ _ _ (c7P _ (c8a _ rfl))
 have lO:(a0w s.heap scope).get? (a0q s.heap).objs.size=some { cls:=.type "dict",data:=.dict #[] }:=pushCells_keeps _ _ _ _ (c8a _ rfl)
 have newD:=fresh (c7G s.heap.objs.size)
 have newL:s.heap.get? (a0q s.heap).objs.size=none:=fresh (a6u s.heap ▸ c7T _)
 have gtS:∀ c,s.heap.objs.size+2≤c→s.heap.get? c=none:=fun c hc=>fresh (c7O (c8p _ 2) hc)
 have ow:∀ x,σ₀.isOwn x=true→σ.isOwn x=true:=fun x=>a4d hσ
 have gbad:∀ b,Γ.bad b→b4z Γ σ σ₀ oa s.heap (a0w s.heap scope) b:=fun b hb=>.inl ⟨.inl hb,fun q=>q.elim fun x q=>S.ownBad x (ow x q.1) (q.2 ▸ hb)⟩
 have there:Chg (a0k Γ σ oa) (a0k (a3B Γ σ σ₀ oa scope s.heap (a0w s.heap scope) (a0q s.heap).objs.size) σ₀ oa) s.heap (a0w s.heap scope) s.toks s.toks:=
  ⟨c7G _,fun b o _=>kf.heap b o,fun b o hb e q=>q.elim (fun q=>q.elim (fun q=>hb q.1) fun q=>a0f q.1 e rfl) fun q=>q.elim fun x q=>hb (.inr ⟨x,ow x q.1,q.2⟩)⟩
 refine⟨{
   aok:=S.aok
   kind:=K.kind
   names:=b2X S scope
   code:=fun i q=>S.code i (K.lam i q)
   globals:=S.globals
   builtins:=S.builtins
   newL:=a4l S newL
   newC:=fun x c hc=>by
    cases a1N S K hc with
    | new _ _ h3=>exact a4l S (gtS c h3)
    | old _ h2=>exact S.newC x c h2
   cellInj:=fun x y c hx hy=>by
    have no:∀ z,s.heap.objs.size+2≤c→Γ.env.cells.lookup z=some c→False:=fun z h3 h2=>(S.alloc c (.inl (S.badC z c h2))).elim fun o e=>a0f (gtS c h3) e rfl
    cases a1N S K hx with
    | new _ _ h3 h4=>
     cases a1N S K hy with
     | new _ _ _ h4'=>exact name_of_addr (b4A s.heap scope).apart h4 h4'
     | old _ h2=>exact (no y h3 h2).elim
    | old _ h2=>
     cases a1N S K hy with
     | new _ _ h3 _=>exact (no x h3 h2).elim
     | old _ h2'=>exact S.cellInj x y c h2 h2'
   gst:=kf.gst S.gst
   badT:=fun t ht=>gbad t (S.badT t ht)
   badL:=.inr ⟨newL,_,lO⟩
   badC:=fun x c hc=>by
    cases a1N S K hc with
    | new _ h2 h3=>exact .inr ⟨gtS c h3,h2.elim fun o q=>⟨o,q.1⟩⟩
    | old _ h2=>exact gbad c (S.badC x c h2)
   own:=fun x hx=>⟨S.newO x (ow x hx),fun q=>q.elim (fun q=>q.2 ⟨x,hx,rfl⟩) fun q=>(S.alloc _ (.inr ⟨x,ow x hx,rfl⟩)).elim fun o e=>a0f q.1 e rfl⟩
   ownInj:=fun x y hx hy e=>S.ownInj x y (ow x hx) (ow y hy) e
   alloc:=fun b hb=>by
    rcases hb with (hb | hb) | ⟨x,hx,q⟩
    ·exact (S.alloc b hb.1).elim fun o e=>⟨o,kf.heap _ _ e⟩
    ·exact hb.2
    ·exact (S.alloc b (.inr ⟨x,ow x hx,q⟩)).elim fun o e=>⟨o,kf.heap _ _ e⟩
   cellAt:=fun x hx=>by
    have hx:scope.names.lookup x=some .cell∨scope.names.lookup x=some .free:=hx.elim (fun q=>(b1N q).imp id And.left) fun q=>(b1N q).elim .inr fun q=>nomatch q.2.1
    rcases hx with hx | hx
    ·exact (b7w S K hx).elim fun c h=>⟨c,none,h.1,h.2⟩
    ·obtain⟨c,v,e,o,eo,ed⟩:=S.cellAt x (K.free x (mem_of_lookup hx))
     exact⟨c,v,b1P S K hx e,o,kf.heap _ _ eo,ed⟩
   slots:=by
    refine⟨fun _=>none,(Heap.Ns.new (a0q s.heap) (.type "dict")).keeps (pushCells_keeps _ _),fun x sl hx=>?_⟩
    refine (a5I hσ x sl hx).elim fun h1 Z1=>Z1.elim (fun h2 h3=>?_)
    have hf:=K.fv x h1
    refine (S.slots).elim fun m Z1=>Z1.elim (fun hn hm=>?_)
    refine (hm x sl h2).elim fun v Z1=>Z1.elim (fun hv sv=>?_)
    refine⟨v,?_,SlotV.chg (Γ:=Γ) (σ:=σ) (oa:=oa) rfl there (fun _=>⟨rfl,fun o _=>kf.heap _ o⟩) (fun z e=>absurd e (h3 z)) sv⟩
    cases hv with
    | loc q1=>exact absurd (K.free _ (mem_of_lookup hf)) fun q=>by rw [q1] at q;exact q.elim nofun nofun
    | cel c q1 q2 q3=>exact .cel c (b4y hf) (b1P S K hf q2) (q3.elim fun o q=>⟨o,kf.heap _ _ q.1,q.2⟩) },
  kf,⟨_,dO⟩,newD,newL,there,fun b hb=>?_,fun x c hc=>a1N S K hc,a4J fun x hx=>(S.cellAt x (K.free x hx)).elim fun c q=>q.elim fun v q=>by rw [q.1];rfl⟩
 by_cases q:∃ x,σ₀.isOwn x=true∧b=oa x
 ·exact .inr q
 ·exact .inl (.inl ⟨hb,q⟩)
end
end
section
section
variable {G:GC}{Γ:Ctx}{W:Nat→Bool}{lvl:Nat}{sc:a0h}{σ σ₀ σ':Store}{oa:Nat→Addr}{s s':Shared}{va vb vc v:Value}{a b c d:D}{E:Value→Shared→Prop}
theorem b7x {x:Nat}{sl:Slot}(l:List (Nat×D)){τ:Store}(hp:∀ p∈l,x≠p.1)(h:τ.get x=some sl):(l.foldl (fun σ p=>σ.set p.1 (.val p.2)) τ).get x=some sl:=by
 induction l generalizing τ with
 | nil=>exact h
 | cons p r ih=>exact ih (fun q hq=>hp q (c8O _ hq)) (by rw [Store.get_set,c7M (hp p c8L)];exact h)
theorem b4B {t:Tgt}{d:D}(h:a3o σ t d=some σ'):a1c σ t d=some σ'∧(∀ x sl,σ.get x=some sl→σ'.get x=some sl)∧∀ x,σ'.isOwn x=true→σ.isOwn x=true:=by
 refine (a0P h).elim fun hn h=>?_
 have hne:∀ x sl,σ.get x=some sl→∀ y∈t.xs,x≠y:=fun x sl hx y hy q=>by
  have h1:=c8k.mp hn y hy
  rw [← q,hx] at h1
  exact c7I h1
 refine⟨h,?_⟩
 cases t with
 | one y=>
  refine a0Q h (clear% h;fun _ h=>?_)
  rw [← h]
  exact⟨fun x sl hx=>by rw [Store.get_set,c7M (hne x sl hx y c8L)];exact hx,fun x hx=>(a2l rfl hx).2⟩
 | many ys=>
  refine a0j h (clear% h;fun ds _ h=>?_)
  refine a0Q h (clear% h;fun _ h=>?_)
  rw [← h]
  exact⟨fun x sl hx=>b7x _ (fun p hp=>hne x sl hx _ (List.of_mem_zip hp).1) hx,fun x hx=>a7v _ hx⟩
noncomputable def c0q (elt:Expr)(gens:List Comprehension)(scope:Scope)(pos:Pos)(depth:Nat)(acc:Value)(env:Env):Sem Unit:=
 match gens[depth+1]? with
 | some g'=>do
  let x ← eval g'.iter env
  standAt g'.iter.pos
  let x ← foldedSetIterable g'.iter env x
  let _ ← runOwn (.compStart (.ListComp elt gens scope pos) (depth+1) (← holding [x] (pyIter x)) acc env) env
 | none=>do let _ ← call (.builtin "list.append") [acc,← eval elt env]
theorem a9t {elt:Expr}{gens:List Comprehension}{scope:Scope}{pos:Pos}{depth:Nat}{target iter:Expr}{ifs:List Expr}(hg:gens[depth]?=some ⟨target,iter,ifs,0⟩)(hg1:∀ g',gens[depth+1]?=some g'→g'.is_async=0)(it acc:Value)(env:Env) :
  compTurn (.ListComp elt gens scope pos) depth it acc env=(standAt iter.pos >>= fun _=>pyNext it >>= fun r=>match r with
   | none=>pure (.done .next)
   | some v=>letOwnedTupleGo target it v >>= fun _=>assign target env v >>= fun _=>
    (forIn ifs true fun c r=>if r=true then do let ok ← isTrue c env (eval c env);pure (ForInStep.yield ok) else pure (ForInStep.yield r)) >>= fun ok=>
    if ok=true then (c0q elt gens scope pos depth acc env >>= fun _=>again (.compLoop (.ListComp elt gens scope pos) depth it acc env)) else again (.compLoop (.ListComp elt gens scope pos) depth it acc env)):=by
 unfold compTurn c0q
 simp only [hg]
 cases h:gens[depth+1]? with
 | none=>rfl
 | some g'=>
  obtain⟨t',i',f',a'⟩:=g'
  obtain rfl:a'=0:=hg1 _ h
  simp only [bne_self_eq_false,c8S,if_false,bind_assoc,pure_bind]
  rfl
theorem a1O {elt:Expr}{gens:List Comprehension}{scope:Scope}{pos:Pos}{depth:Nat}{target iter:Expr}{ifs:List Expr}{it acc:Value}{env:Env}{A:Around}{R:Result→Shared→Prop}(hg:gens[depth]?=some ⟨target,iter,ifs,0⟩)
  (h0:codeAny (model G.prog G.w) A (.compLoop (.ListComp elt gens scope pos) depth it acc env) R s)
  (h:wpAny (model G.prog G.w) A (pyIter it) (fun it' s'=>codeAny (model G.prog G.w) A (.compLoop (.ListComp elt gens scope pos) depth it' acc env) R s')
   (notedBy (model G.prog G.w) A env fun x s'=>R (.error x) s') s) :
  codeAny (model G.prog G.w) A (.compStart (.ListComp elt gens scope pos) depth it acc env) R s:=by
 refine codeAny_of_tree ?_
 show wpAny _ _ ((compStart (.ListComp elt gens scope pos) depth it acc env).onRaise (fun x=>do noteFrame x env;standAt theWindowsPlace)) _ _ s
 refine wpAny_notedAt ?_
 unfold compStart
 simp only [show clausesOf (.ListComp elt gens scope pos)=gens from rfl,hg]
 show wpAny _ _ (ask >>= _) _ _ s
 refine c8e (wpAny_askSetting (wpAny_ite ?_))
 split
 ·first
   | exact c8e (c8f (c8f (And.intro rfl h0)))
   | exact c8f (And.intro rfl h0)
 ·first
   | exact c8e (wpAny_rule (c8e (c8J (c8e (c8H h (fun it' s' h'=>c8f (And.intro rfl h')) fun _ _ x=>x)))))
   | (refine c8e (wpAny_rule ?_);show wpAny _ _ (standAt iter.pos >>= _) _ _ s;exact c8e (c8J (c8e (c8H h (fun it' s' h'=>c8f (And.intro rfl h')) fun _ _ x=>x))))
noncomputable def AccIs (G:GC)(Γ:Ctx)(σ:Store)(oa:Nat→Addr)(Dd:Addr)(ys:List D)(s:Shared):Prop:=∃ vs:List Value,s.heap.PlainList Dd vs.toArray∧RL G Γ σ oa s vs ys
structure Kc (G:GC)(X:Addr→Prop)(s s':Shared):Prop where
 heap:∀ b o,b ∉ G.T→¬ X b→s.heap.get? b=some o→s'.heap.get? b=some o
 os:s'.os=s.os
 toks:s.toks≤s'.toks
 gens:∀ (i:Nat) (x:GenState),s.gens[i]?=some x→s'.gens[i]?=some x
theorem Kc.refl {X:Addr→Prop}:Kc G X s s:=⟨fun _ _ _ _ e=>e,rfl,c7G _,fun _ _ e=>e⟩
theorem Kc.trans {X:Addr→Prop}{s₁:Shared}(a:Kc G X s s₁)(b:Kc G X s₁ s'):Kc G X s s':=
 ⟨fun x o h1 h2 e=>b.heap x o h1 h2 (a.heap x o h1 h2 e),b.os.trans a.os,c7O a.toks b.toks,fun i x e=>b.gens i x (a.gens i x e)⟩
theorem Kc.mono {X Y:Addr→Prop}(h:∀ b,X b→Y b)(k:Kc G X s s'):Kc G Y s s':=⟨fun b o h1 h2=>k.heap b o h1 fun q=>h2 (h b q),k.os,k.toks,k.gens⟩
theorem Kp.kc {X:Addr→Prop}(k:Kp G s s'):Kc G X s s':=⟨fun b o h _ e=>k.heap b o h e,k.os,k.toks,k.gens⟩
theorem Kc.of {X:Addr→Prop}{h':Heap}{tk:Nat}(k:∀ b o,¬ X b→s.heap.get? b=some o→h'.get? b=some o)(ht:s.toks≤tk):Kc G X s { s with heap:=h',toks:=tk }:=⟨fun b o _=>k b o,rfl,ht,fun _ _ e=>e⟩
structure Apart (G:GC)(Γ:Ctx)(a:Addr):Prop where
 bad:Γ.bad a
 loc:a≠Γ.env.locals
 cell:∀ y,Γ.env.cells.lookup y≠some a
 tab:a ∉ G.T
 base:G.g.get? a=none
theorem AccIs.kp {Dd:Addr}{ys:List D}(A:AccIs G Γ σ oa Dd ys s)(S:St G Γ lvl sc σ oa s)(hT:Dd ∉ G.T)(k:Kp G s s'):AccIs G Γ σ oa Dd ys s':=by
 obtain⟨vs,⟨n,hp⟩,r⟩:=A
 exact⟨vs,⟨n,k.heap _ _ hT hp⟩,r.kp S k⟩
theorem AccIs.chg {Γ':Ctx}{oa':Nat→Addr}{Dd:Addr}{ys:List D}(A:AccIs G Γ σ oa Dd ys s)(hst:Γ'.st=Γ.st)(hk:∀ o,s.heap.get? Dd=some o→s'.heap.get? Dd=some o)(k:Chg (a0k Γ σ oa) (a0k Γ' σ' oa') s.heap s'.heap s.toks s'.toks):AccIs G Γ' σ' oa' Dd ys s':=by
 obtain⟨vs,⟨n,hp⟩,r⟩:=A
 refine⟨vs,⟨n,hk _ hp⟩,?_⟩
 show RepL (rc G Γ') _ _ _ _ _
 rw [show rc G Γ'=rc G Γ from c7H (RC.mk G.prog G.w) hst]
 exact r.chg k
theorem c0r (h:∀ x sl,σ.get x=some sl→σ'.get x=some sl){x:Nat}(hx:σ.isOwn x=true):σ'.isOwn x=true:=(a2K hx).elim fun sl q=>(a1e (h x sl q.1)).trans q.2
theorem AccIs.weaken' {Dd:Addr}{ys:List D}(A:AccIs G Γ σ' oa Dd ys s)(h:∀ x sl,σ.get x=some sl→σ'.get x=some sl):AccIs G Γ σ oa Dd ys s:=
 A.chg rfl (fun _ e=>e) ⟨c7G _,fun _ _ _ e=>e,fun b _ hb _ q=>hb (q.imp id fun q=>q.elim fun x q=>⟨x,c0r h q.1,q.2⟩)⟩
theorem Rep.butB {C:RC}{B:Addr→Prop}{h h':Heap}{n n':Nat}{a:Addr}{v:Value}{d:D}(r:Rep C B h n v d)(hb:B a)(hn:n≤n')(k:∀ b o,b≠a→h.get? b=some o→h'.get? b=some o):Rep C B h' n' v d:=
 r.keep hn fun b o hb'=>k b o fun q=>hb' (q ▸ hb)
noncomputable def c5j (ifs:List Expr)(env:Env):Sem Bool:=forIn ifs true fun c r=>if r=true then do let ok ← isTrue c env (eval c env);pure (ForInStep.yield ok) else pure (ForInStep.yield r)
structure LoopH (G:GC)(Γ:Ctx)(lvl:Nat)(sc:a0h)(σ:Store)(oa:Nat→Addr)(elt:Expr)(gens:List Comprehension)(scope:Scope)(pos:Pos)(depth:Nat)(target iter:Expr)(ifs:List Expr)(t:Tgt)(Dd I:Addr)(X:Addr→Prop)
  (fp:List Addr) (P:Nat→Nat→Value→Prop) (Stt:Nat→Heap→Prop) (n:Nat) (test:Store→Option Bool) (inner:Store→Option (List D)):Prop where
 hg:gens[depth]?=some ⟨target,iter,ifs,0⟩
 hg1:∀ g',gens[depth+1]?=some g'→g'.is_async=0
 ht:a3z G.nm sc t target=true
 aD:Apart G Γ Dd
 aI:Apart G Γ I
 hDI:Dd≠I
 XD:X Dd
 XL:X Γ.env.locals
 Xc:∀ x∈t.xs,∀ c,Γ.env.cells.lookup (G.nm x)=some c→X c
 XI:¬ X I
 Xbad:∀ b,X b→a0k Γ σ oa b
 walk:Wlk G.prog G.w Γ.A I fp n P Stt
 fp:∀ b∈fp,¬ X b∧b ∉ G.T
 it:∀ i h,Stt i h→∃ o,h.get? I=some o∧ItObj o
 tests:∀ (σ':Store) (s:Shared) (b:Bool),test σ'=some b→St G Γ lvl sc σ' oa s→Tr G Γ.A (c5j ifs Γ.env) s b
 body:∀ (σ':Store) (s:Shared) (ys r:List D) (Q:Unit→Shared→Prop) (E:Value→Shared→Prop),inner σ'=some r→a0O (ys++r).length=true→St G Γ lvl sc σ' oa s→AccIs G Γ σ' oa Dd ys s →
   (∀ s',St G Γ lvl sc σ' oa s'→AccIs G Γ σ' oa Dd (ys++r) s'→Kc G X s s'→Q () s')→wpAny (model G.prog G.w) Γ.A (c0q elt gens scope pos depth (.ref Dd) Γ.env) Q E s
noncomputable def b9w (G:GC)(Γ:Ctx)(σ:Store)(oa:Nat→Addr)(P:Nat→Nat→Value→Prop)(i:Nat)(ds:List D)(s:Shared):Prop:=∀ j tk v d,s.toks≤tk→P (i+j) tk v→ds[j]?=some d→Rep (rc G Γ) (a0k Γ σ oa) s.heap tk v d
theorem b0N {m n:Nat}(h:a0O n=true)(hm:m≤n):a0O m=true:=Nat.ble_eq_true_of_le (c7O hm (a2g h))
section
variable {elt:Expr}{gens:List Comprehension}{scope:Scope}{pos:Pos}{depth:Nat}{target iter:Expr}{ifs:List Expr}{t:Tgt}{Dd I:Addr}{X:Addr→Prop}{fp:List Addr}{P:Nat→Nat→Value→Prop}{Stt:Nat→Heap→Prop}{n:Nat}
 {test:Store→Option Bool} {inner:Store→Option (List D)} (L:LoopH G Γ lvl sc σ oa elt gens scope pos depth target iter ifs t Dd I X fp P Stt n test inner) {R:Result→Shared→Prop}
include L
theorem a9u {E:Value→Shared→Prop}(hE:E=notedBy (model G.prog G.w) Γ.A Γ.env fun e s'=>R (.error e) s')(h:wpAny (model G.prog G.w) Γ.A (pyNext (.ref I)) (fun r s₁=>match r with
   | none=>R (.ok .next) s₁
   | some v=>wpAny (model G.prog G.w) Γ.A (letOwnedTupleGo target (.ref I) v) (fun _ s₂=>wpAny (model G.prog G.w) Γ.A (assign target Γ.env v) (fun _ s₃=>wpAny (model G.prog G.w) Γ.A (c5j ifs Γ.env) (fun ok s₄=>match ok with
    | true=>wpAny (model G.prog G.w) Γ.A (c0q elt gens scope pos depth (.ref Dd) Γ.env) (fun _ s₅=>codeAny (model G.prog G.w) Γ.A (.compLoop (.ListComp elt gens scope pos) depth (.ref I) (.ref Dd) Γ.env) R s₅) E s₄
    | false=>codeAny (model G.prog G.w) Γ.A (.compLoop (.ListComp elt gens scope pos) depth (.ref I) (.ref Dd) Γ.env) R s₄) E s₃) E s₂) E s₁) E s) :
  codeAny (model G.prog G.w) Γ.A (.compLoop (.ListComp elt gens scope pos) depth (.ref I) (.ref Dd) Γ.env) R s:=by
 refine codeAny_of_tree ?_
 show wpAny _ Γ.A ((compTurn (.ListComp elt gens scope pos) depth (.ref I) (.ref Dd) Γ.env).onRaise (fun x=>do noteFrame x Γ.env;theTreesLotGoes x)) _ _ s
 refine wpAny_noted ?_
 rw [a9t L.hg L.hg1,← hE]
 refine c8e (c8J (c8e (c8H h (fun r s₁ h₁=>?_) fun _ _ e=>e)))
 cases r with
 | none=>exact c8f h₁
 | some v=>
  refine c8e (c8H h₁ (fun _ s₂ h₂=>c8e (c8H h₂ (fun _ s₃ h₃=>c8e (c8H h₃ (fun ok s₄ h₄=>?_) fun _ _ e=>e)) fun _ _ e=>e)) fun _ _ e=>e)
  cases ok with
  | true=>exact c8e (c8H h₄ (fun _ s₅ h₅=>c8f ⟨rfl,h₅⟩) fun _ _ e=>e)
  | false=>exact c8f ⟨rfl,h₄⟩
noncomputable def c5F (σ:Store)(t:Tgt)(test:Store→Option Bool)(inner:Store→Option (List D))(d:D):Option (List D):=(a3o σ t d).bind fun σ'=>(test σ').bind fun b=>cnd b (inner σ')
noncomputable def c2T (G:GC)(Γ:Ctx)(elt:Expr)(gens:List Comprehension)(scope:Scope)(pos:Pos)(depth:Nat)(I Dd:Addr)(R:Result→Shared→Prop)(s:Shared):Prop:=
 codeAny (model G.prog G.w) Γ.A (.compLoop (.ListComp elt gens scope pos) depth (.ref I) (.ref Dd) Γ.env) R s
structure LoopEnd (G:GC)(Γ:Ctx)(lvl:Nat)(sc:a0h)(σ:Store)(oa:Nat→Addr)(Dd I:Addr)(X:Addr→Prop)(s₀:Shared)(ys:List D)(s₁:Shared)(h':Heap)(tk:Nat):Prop where
 st:St G Γ lvl sc σ oa s₁
 acc:AccIs G Γ σ oa Dd ys s₁
 kc:Kc G (fun b=>X b∨b=I) s₀ s₁
 keep:∀ b o,b≠I→s₁.heap.get? b=some o→h'.get? b=some o
 toks:s₁.toks≤tk
 it:∃ o,s₁.heap.get? I=some o∧ItObj o
theorem b4C {s₀:Shared}(ds:List D)(i:Nat)(s:Shared)(ys:List D)(rs:List (List D))(hn:i+ds.length=n)(hP:b9w G Γ σ oa P i ds s)(S:St G Γ lvl sc σ oa s)(A:AccIs G Γ σ oa Dd ys s)(st:Stt i s.heap)(k:Kc G (fun b=>X b∨b=I) s₀ s)
  (hr:ds.mapM (fun d=>(a3o σ t d).bind fun σ'=>(test σ').bind fun b=>cnd b (inner σ'))=some rs) (hok:a0O (ys++rs.flatten).length=true)
  (hR:∀ (s₁:Shared) (h':Heap) (tk:Nat),LoopEnd G Γ lvl sc σ oa Dd I X s₀ (ys++rs.flatten) s₁ h' tk→R (.ok .next) { s₁ with heap:=h',toks:=tk }) :
  codeAny (model G.prog G.w) Γ.A (.compLoop (.ListComp elt gens scope pos) depth (.ref I) (.ref Dd) Γ.env) R s:=by
 refine a9u L rfl (c7Y (n:=s.toks) (c7G _) ?_)
 induction ds generalizing i s ys rs with
 | nil=>
  cases a1u hr
  rw [List.flatten_nil,c8T] at hR
  have hn:i=n:=hn
  exact L.walk.done _ _ _ (hn ▸ st) fun h' tk k' htk=>hR s h' tk ⟨S,A,k,k',htk,L.it _ _ st⟩
 | cons d ds ih=>
  obtain⟨r,rs',hb,hrs,rfl⟩:=a3R hr
  refine a0j hb (clear% hb;fun σ' hb h=>?_)
  refine a0j h (clear% h;fun tb htb hr₁=>?_)
  refine (b4B hb).elim fun hbT Z1=>Z1.elim (fun hsub hown=>?_)
  have hok':a0O ((ys++r)++rs'.flatten).length=true:=by rw [c8U];exact hok
  have hin:i<n:=hn ▸ Nat.lt_add_of_pos_right (Nat.succ_pos _)
  refine L.walk.item i _ _ _ hin S.gst.tok st fun v h₁ tk₁ hPv st₁ k₁ htk₁=>?_
  have hb1:∀ a,(a=I)→Γ.bad a:=fun a q=>q ▸ L.aI.bad
  have S₁:St G Γ lvl sc σ oa { s with heap:=h₁,toks:=tk₁ }:=S.butP (P:=(·=I)) hb1 (fun q=>L.aI.loc q.symm) (fun y c e q=>L.aI.cell y (q ▸ e)) (fun _ q=>q ▸ L.aI.base) (fun _ q=>(L.it i _ st).elim fun o p=>⟨o,q ▸ p.1,p.2.ok⟩) k₁
   (fun _ q=>(L.it _ _ st₁).elim fun o p=>⟨o,q ▸ p.1⟩) htk₁
  have A₁:AccIs G Γ σ oa Dd ys { s with heap:=h₁,toks:=tk₁ }:=A.chg rfl (fun o=>k₁ _ o L.hDI) ⟨htk₁,fun b o hb=>k₁ b o fun q=>hb (.inl (hb1 b q)),fun _ _ h _=>h⟩
  refine a5G (L.it _ _ st₁) (a6t (W:=fun _=>true) S₁ L.ht (Rep.butB (hP 0 tk₁ v d htk₁ hPv rfl) (.inl L.aI.bad) (c7G _) k₁) hbT fun s₂ S₂ k₂ _=>?_)
  have k₂c:Kc G X { s with heap:=h₁,toks:=tk₁ } s₂:=⟨fun b o h1 h2 e=>k₂.heap b o (fun q=>h2 (q ▸ L.XL)) (fun x hx q=>h2 (L.Xc x hx b q)) e,k₂.os,k₂.toks,fun i x e=>(c7H (·[i]?) k₂.gens).trans e⟩
  have A₂:AccIs G Γ σ' oa Dd ys s₂:=A₁.chg rfl (fun o=>k₂.heap _ o L.aD.loc fun x _ q=>L.aD.cell _ q) ⟨k₂.toks,fun b o hb=>k₂.heap b o (fun q=>hb (.inl (q ▸ S.badL))) (fun x _ q=>hb (.inl (S.badC _ _ q))),fun b _ hb _ q=>hb (q.imp id fun q=>q.elim fun x q=>⟨x,hown x q.1,q.2⟩)⟩
  have fin:∀ s₄,St G Γ lvl sc σ' oa s₄→AccIs G Γ σ' oa Dd (ys++r) s₄→Kc G X { s with heap:=h₁,toks:=tk₁ } s₄ →
    codeAny (model G.prog G.w) Γ.A (.compLoop (.ListComp elt gens scope pos) depth (.ref I) (.ref Dd) Γ.env) R s₄:=fun s₄ S₄ A₄ kk=>by
   refine a9u L rfl (c7Y (n:=s₄.toks) (c7G _) (ih (i+1) s₄ (ys++r) rs' ((Nat.succ_add_eq_add_succ ..).trans hn) (fun j tk v d htk hp hd=>?_) (S₄.forget hsub hown) (A₄.weaken' hsub) (L.walk.frame _ _ _ st₁ fun b hb o e=>kk.heap b o (L.fp b hb).2 (L.fp b hb).1 e)
    ⟨fun b o h1 h2 e=>kk.heap b o h1 (fun q=>h2 (.inl q)) (k₁ b o (fun q=>h2 (.inr q)) (k.heap b o h1 h2 e)),kk.os.trans k.os,c7O k.toks (c7O htk₁ kk.toks),fun i x e=>kk.gens i x (k.gens i x e)⟩ hrs hok' fun s₁ h' tk e=>hR s₁ h' tk (by rw [List.flatten_cons,← c8U];exact e)))
   have r:=hP (j+1) tk v d (c7O htk₁ (c7O kk.toks htk)) (by rw [Nat.add_comm j 1,← Nat.add_assoc];exact hp) hd
   exact (Rep.butB r (.inl L.aI.bad) (c7G _) k₁).keep (c7G _) fun b o hb=>kk.heap b o (fun q=>hb (.inl (S.badT b q))) fun q=>hb (L.Xbad b q)
  refine L.tests σ' s₂ tb htb S₂ _ _ fun s₃ a₃=>?_
  have A₃:=A₂.kp S₂ L.aD.tab a₃.kp
  cases tb with
  | false=>
   cases c7Q hr₁
   exact fin s₃ (S₂.af a₃) (by rw [c8T];exact A₃) (k₂c.trans a₃.kp.kc)
  | true=>exact L.body σ' s₃ ys r _ _ hr₁ (b0N hok' ((List.sublist_append_left ..).length_le)) (S₂.af a₃) A₃ fun s₄ S₄ A₄ k₄=>fin s₄ S₄ A₄ ((k₂c.trans a₃.kp.kc).trans k₄)
end
end
end
section
noncomputable def b4D (o:Expr):Bool:=isT o .call&&isT (vw o).a .name&&(vw o).es.isEmpty&&(vw o).ks.isEmpty
noncomputable def b0O (id:Str):Bool:=!(id==("__debug__":Str))&&!(id==("__classdict__":Str))
noncomputable def a7x (sc:a0h)(id:Str):Bool:=sc.lookup id==some .globalImplicit&&!(id==("__debug__":Str))
theorem a3C {sc:a0h}{id:Str}(h:a7x sc id=true):sc.lookup id=some .globalImplicit∧(id==("__debug__":Str))=false:=⟨c8d (a0i h).1,a2w (a0i h).2⟩
noncomputable def a3T:List String:=["len","sum","min","max","sorted","isinstance"]
noncomputable def a1P:List String:=["range","type","bytes","enumerate","bool","int","float","complex","str","bytearray","list","tuple","dict","set","frozenset"]
structure GlobsOK (G:GC):Prop where
 fns:∀ n∈a3T,b9u G (Str.ofString n) (.builtin n)
 types:∀ n∈a1P,b9u G (Str.ofString n) (.type n)
noncomputable def arg (e:Expr)(i:Nat):Expr:=(vw e).es.getD i e
theorem es0 {α:Type}{l:List α}(h:l.length=0):l=[]:=List.eq_nil_of_length_eq_zero h
theorem es1 {α:Type}{l:List α}{d:α}(h:l.length=1):l=[l.getD 0 d]:=by
 cases l with
 | nil=>cases h
 | cons a l=>rw [es0 (Nat.succ.inj h)];rfl
theorem es2 {α:Type}{l:List α}{d:α}(h:l.length=2):l=[l.getD 0 d,l.getD 1 d]:=by
 cases l with
 | nil=>cases h
 | cons a l=>exact c7H (a :: ·) (es1 (Nat.succ.inj h))
theorem es3 {α:Type}{l:List α}{d:α}(h:l.length=3):l=[l.getD 0 d,l.getD 1 d,l.getD 2 d]:=by
 cases l with
 | nil=>cases h
 | cons a l=>exact c7H (a :: ·) (es2 (Nat.succ.inj h))
structure GCall (sc:a0h)(f:Str)(e:Expr)(es:List Expr)(ks:List Keyword):Prop where
 eq:∃ p q,e=.Call (.Name f p) es ks q
 glob:sc.lookup f=some .globalImplicit
 dbg:(f==("__debug__":Str))=false
 star:es.all a0J=true
noncomputable def c0s (sc:a0h)(f:Str)(e:Expr):Bool:=isT e .call&&(isT (vw e).a .name&&(vw (vw e).a).id==f)&&a7x sc f&&(vw e).es.all a0J
theorem b0P {sc:a0h}{f:Str}{e:Expr}(h:c0s sc f e=true):GCall sc f e (vw e).es (vw e).ks:=by
 refine a0b h (clear% h;fun h h4=>?_)
 refine a0b h (clear% h;fun h h3=>?_)
 refine a0b h (clear% h;fun h1 h2=>?_)
 refine a0b h2 (clear% h2;fun h5 h6=>?_)
 have e1:e=.Call (vw e).a (vw e).es (vw e).ks (vw e).pos:=a0A h1
 have e2:(vw e).a=.Name (vw (vw e).a).id (vw (vw e).a).pos:=a0A h5
 rw [c8d h6] at e2
 exact⟨⟨_,_,e1.trans (c7H (Expr.Call · _ _ _) e2)⟩,(a3C h3).1,(a3C h3).2,h4⟩
noncomputable def isG (sc:a0h)(f:String)(n:Nat)(e:Expr):Bool:=c0s sc (Str.ofString f) e&&(vw e).ks.isEmpty&&(vw e).es.length==n
noncomputable abbrev a1B (sc:a0h) (f:String) (e:Expr) (es:List Expr):Prop:=GCall sc (Str.ofString f) e es []
theorem a6v {sc:a0h}{f:String}{n:Nat}{e:Expr}(h:isG sc f n e=true):a1B sc f e (vw e).es∧(vw e).es.length=n:=by
 refine a0b h (clear% h;fun h h3=>?_)
 refine a0b h (clear% h;fun h1 h2=>?_)
 have C:=b0P h1
 rw [c8V.mp h2] at C
 exact⟨C,c8d h3⟩
theorem c0t {sc:a0h}{f:String}{e:Expr}(h:isG sc f 1 e=true):a1B sc f e [arg e 0]:=es1 (d:=e) (a6v h).2 ▸ (a6v h).1
theorem c5G {sc:a0h}{f:String}{e:Expr}(h:isG sc f 2 e=true):a1B sc f e [arg e 0,arg e 1]:=es2 (d:=e) (a6v h).2 ▸ (a6v h).1
theorem c7v {sc:a0h}{f:String}{e:Expr}(h:isG sc f 3 e=true):a1B sc f e [arg e 0,arg e 1,arg e 2]:=es3 (d:=e) (a6v h).2 ▸ (a6v h).1
structure MCall (m:Str)(e o:Expr)(es:List Expr):Prop where
 eq:∃ p q,e=.Call (.Attribute o m p) es [] q∧(p.endLine==q.line)=true
 base:b4D o=false
 star:es.all a0J=true
 short:es.length<20
noncomputable def b0D (e:Expr):Expr:=(vw (vw e).a).a
noncomputable def isM (m:String)(n:Nat)(e:Expr):Bool:=
 isT e .call&&(isT (vw e).a .attr&&(vw (vw e).a).id==Str.ofString m&&(vw (vw e).a).pos.endLine==(vw e).pos.line&&!(b4D (b0D e)))&&(vw e).ks.isEmpty&&(vw e).es.all a0J&&Nat.blt (vw e).es.length 20&&(vw e).es.length==n
theorem a7y {m:String}{n:Nat}{e:Expr}(h:isM m n e=true):MCall (Str.ofString m) e (b0D e) (vw e).es∧(vw e).es.length=n:=by
 refine a0b h (clear% h;fun h h6=>?_)
 refine a0b h (clear% h;fun h h5=>?_)
 refine a0b h (clear% h;fun h h4=>?_)
 refine a0b h (clear% h;fun h h3=>?_)
 refine a0b h (clear% h;fun h1 h=>?_)
 refine a0b h (clear% h;fun h h10=>?_)
 refine a0b h (clear% h;fun h h9=>?_)
 refine a0b h (clear% h;fun h7 h8=>?_)
 have e1:e=.Call (vw e).a (vw e).es (vw e).ks (vw e).pos:=a0A h1
 have e2:(vw e).a=.Attribute (b0D e) (vw (vw e).a).id (vw (vw e).a).pos:=a0A h7
 rw [c8d h8] at e2
 rw [c8V.mp h3] at e1
 exact⟨⟨⟨_,_,e1.trans (c7H (Expr.Call · _ _ _) e2),h9⟩,a2w h10,h4,c7U h5⟩,c8d h6⟩
theorem c6Y {m:String}{e:Expr}(h:isM m 0 e=true):MCall (Str.ofString m) e (b0D e) []:=es0 (a7y h).2 ▸ (a7y h).1
theorem c2z {m:String}{e:Expr}(h:isM m 1 e=true):MCall (Str.ofString m) e (b0D e) [arg e 0]:=es1 (d:=e) (a7y h).2 ▸ (a7y h).1
theorem c6Z {m:String}{e:Expr}(h:isM m 2 e=true):MCall (Str.ofString m) e (b0D e) [arg e 0,arg e 1]:=es2 (d:=e) (a7y h).2 ▸ (a7y h).1
noncomputable def isC (c:Const)(e:Expr):Bool:=isT e .const&&(vw e).k==c
theorem a4e {c:Const}{e:Expr}(h:isC c e=true):∃ n p,e=.Constant c n p:=⟨_,_,(a0A (a0i h).1).trans (c7H (Expr.Constant · _ _) (c8d (a0i h).2))⟩
noncomputable def b4E (nm:Nat→Str)(x:Nat)(e:Expr):Bool:=isN nm x e&&b0O (nm x)
noncomputable def c0u (sc:a0h)(n:String)(e:Expr):Bool:=(isT e .name&&(vw e).id==Str.ofString n)&&a7x sc (Str.ofString n)
theorem a8o {sc:a0h}{n:String}{e:Expr}(h:c0u sc n e=true):(∃ p,e=.Name (Str.ofString n) p)∧a7x sc (Str.ofString n)=true:=
 ⟨⟨_,(a0A (a0i (a0i h).1).1).trans (c7H (Expr.Name · _) (c8d (a0i (a0i h).1).2))⟩,(a0i h).2⟩
noncomputable def b4F (op:CmpOp)(e:Expr):Bool:=isT e .cmp&&(vw e).cs==[op]&&(vw e).es.length==1&&!(behindInMarks op (arg e 0))
theorem a4K {op:CmpOp}{e:Expr}(h:b4F op e=true):(∃ p,e=.Compare (vw e).a [op] [arg e 0] p)∧behindInMarks op (arg e 0)=false:=by
 refine a0b h (clear% h;fun h h4=>?_)
 refine a0b h (clear% h;fun h h3=>?_)
 refine a0b h (clear% h;fun h1 h2=>?_)
 have e1:e=.Compare (vw e).a (vw e).cs (vw e).es (vw e).pos:=a0A h1
 rw [c8d h2,es1 (d:=e) (c8d h3)] at e1
 exact⟨⟨_,e1⟩,a2w h4⟩
noncomputable def b9x (op op':CmpOp)(e:Expr):Bool:=isT e .cmp&&(vw e).cs==[op,op']&&(vw e).es.length==2&&!(lastMarks [op,op'] [arg e 0,arg e 1])
theorem a9v {op op':CmpOp}{e:Expr}(h:b9x op op' e=true):(∃ p,e=.Compare (vw e).a [op,op'] [arg e 0,arg e 1] p)∧lastMarks [op,op'] [arg e 0,arg e 1]=false:=by
 refine a0b h (clear% h;fun h h4=>?_)
 refine a0b h (clear% h;fun h h3=>?_)
 refine a0b h (clear% h;fun h1 h2=>?_)
 have e1:e=.Compare (vw e).a (vw e).cs (vw e).es (vw e).pos:=a0A h1
 rw [c8d h2,es2 (d:=e) (c8d h3)] at e1
 exact⟨⟨_,e1⟩,a2w h4⟩
noncomputable def b2Z (e:Expr):Bool:=isT e .sub&&isT (vw e).b .slc&&(vw (vw e).b).st.isNone
theorem b7y {e:Expr}(h:b2Z e=true):∃ p q,e=.Subscript (vw e).a (.Slice (vw (vw e).b).lo (vw (vw e).b).hi none q) p:=by
 refine a0b h (clear% h;fun h h3=>?_)
 refine a0b h (clear% h;fun h1 h2=>?_)
 have e1:e=.Subscript (vw e).a (vw e).b (vw e).pos:=a0A h1
 have e2:(vw e).b=.Slice (vw (vw e).b).lo (vw (vw e).b).hi (vw (vw e).b).st (vw (vw e).b).pos:=a0A h2
 rw [c8W.mp h3] at e2
 exact⟨_,_,e1.trans (c7H (Expr.Subscript _ · _) e2)⟩
noncomputable def gHd (e:Expr):Comprehension:=(vw e).gs.headD ⟨e,e,[],1⟩
noncomputable def isComp (e:Expr):Bool:=isT e .comp&&(gHd e).is_async==0&&a4G (gHd e).iter
theorem a9w {e:Expr}(h:isComp e=true):∃ p,e=.ListComp (vw e).a (⟨(gHd e).target,(gHd e).iter,(gHd e).ifs,0⟩ :: (vw e).gs.tail) (vw e).sc p:=by
 refine a0b (a0i h).1 fun h1 h2=>?_
 have e1:e=.ListComp (vw e).a (vw e).gs (vw e).sc (vw e).pos:=a0A h1
 refine⟨_,e1.trans (c7H (Expr.ListComp _ · _ _) ?_)⟩
 unfold gHd at h2 ⊢
 cases hg:(vw e).gs with
 | nil=>rw [hg] at h2;cases h2
 | cons g r=>
  rw [hg] at h2
  obtain⟨t,i,f,a⟩:=g
  have h2:a=0:=c8d h2
  rw [h2]
  rfl
noncomputable def b4G (e:Expr):Expr:=if isT e .fv then (vw e).a else e
noncomputable def b0Q (e:Expr):Bool:=(isT e .fv&&(vw e).i==-1&&(vw e).st.isNone)||(isT e .const&&(match (vw e).k with
 | .str _=>true
 | _=>false))
noncomputable def c5H (e:Expr):Expr:=((vw e).ks.headD ⟨none,e,default⟩).value
noncomputable def a3D (x:Str)(a:Arguments):Bool:=
 a.posonlyargs.isEmpty&&a.vararg.isNone&&a.kwonlyargs.isEmpty&&a.kw_defaults.isEmpty&&a.kwarg.isNone&&a.defaults.isEmpty&&(match a.args with
 | []=>false
 | b :: r=>r.isEmpty&&b.arg==x&&b.annotation.isNone)
theorem b7z {p1 p3:List Arg}{p2 p5:Option Arg}{p4:List (Option Expr)}{p6:List Expr}{b:List Arg}{x:Arg}(h1:p1=[])(h2:p2=none)(h3:p3=[])(h4:p4=[])(h5:p5=none)(h6:p6=[])(h:b=[x]):(⟨p1,b,p2,p3,p4,p5,p6⟩:Arguments)={ posonlyargs:=[],args:=[x],vararg:=none,kwonlyargs:=[],kw_defaults:=[],kwarg:=none,defaults:=[] }:=by
 subst h1 h2 h3 h4 h5 h6 h;rfl
theorem c0v {x:Str}{l:List Arg}(h:(match l with
 | []=>false
 | b :: r=>r.isEmpty&&b.arg==x&&b.annotation.isNone)=true):∃ p,l=[{ arg:=x,annotation:=none,pos:=p }]:=by
 cases l with
 | nil=>exact absurd h c7I
 | cons b r=>
  obtain⟨y,an,p⟩:=b
  exact⟨p,by rw [c8V.mp (a0i (a:=r.isEmpty) (b:=y==x) (a0i (a:=r.isEmpty&&y==x) (b:=an.isNone) h).1).1,c8d (a0i (a:=r.isEmpty) (b:=y==x) (a0i (a:=r.isEmpty&&y==x) (b:=an.isNone) h).1).2,c8W.mp (a0i (a:=r.isEmpty&&y==x) (b:=an.isNone) h).2]⟩
theorem a4f {x:Str}{ps:Arguments}(h:a3D x ps=true):∃ p,ps={ posonlyargs:=[],args:=[{ arg:=x,annotation:=none,pos:=p }],vararg:=none,kwonlyargs:=[],kw_defaults:=[],kwarg:=none,defaults:=[] }:=by
 have h6:=a0i h
 have h5:=a0i h6.1
 have h4:=a0i h5.1
 have h3:=a0i h4.1
 have h2:=a0i h3.1
 have h1:=a0i h2.1
 refine (c0v h6.2).elim fun p e=>⟨p,?_⟩
 have q:=b7z (c8V.mp h1.1) (c8W.mp h1.2) (c8V.mp h2.2) (c8V.mp h3.2) (c8W.mp h4.2) (c8V.mp h5.2) e
 clear e h1 h2 h3 h4 h5 h6 h
 cases ps
 exact q
noncomputable def a8p (x t:Str)(s:Scope):Bool:=s.kind==.function&&s.names==[(x,.local),(t,.free)]&&!s.isGenerator&&!s.isCoroutine&&!(x==t)&&x==⟨#[106]⟩
noncomputable def isR1 (e:PE):Bool:=e.pv.isR1
theorem c0w {e:PE}(h:isR1 e=true):∃ a,e=.range1 a:=by
 unfold isR1 at h
 cases hv:e.pv with
 | r1 a=>exact⟨a,a7h hv⟩
 | _=>rw [hv] at h;exact absurd h c7I
noncomputable def c2U (nm:Nat→Str)(sc:a0h)(t x:Nat)(e:Expr):Bool:=
 isT e .lam&&!((vw e).pos.col==37)&&a3D (nm x) (vw e).ps&&a8p (nm x) (nm t) (vw e).sc&&isT (vw e).a .sub&&b4E nm t (vw (vw e).a).a&&b4E nm x (vw (vw e).a).b&&a4A sc==some false&&sc.lookup (nm t)==some .cell
structure LamE (nm:Nat→Str)(sc:a0h)(t x:Nat)(e:Expr)(ps:Arguments)(scope:Scope):Prop where
 eq:∃ p p1 p2 q,e=.Lambda ps (.Subscript (.Name (nm t) p) (.Name (nm x) p1) p2) scope q∧(q.col==37)=false
 params:a3D (nm x) ps=true
 scope:a8p (nm x) (nm t) scope=true
 ot:b0O (nm t)=true
 ox:b0O (nm x)=true
 lam:a4A sc=some false
 cell:sc.lookup (nm t)=some .cell
theorem b7A {nm:Nat→Str}{sc:a0h}{t x:Nat}{e:Expr}(h:c2U nm sc t x e=true):LamE nm sc t x e (vw e).ps (vw e).sc:=by
 refine a0b h (clear% h;fun h h9=>?_)
 refine a0b h (clear% h;fun h h8=>?_)
 refine a0b h (clear% h;fun h h7=>?_)
 refine a0b h (clear% h;fun h h6=>?_)
 refine a0b h (clear% h;fun h h5=>?_)
 refine a0b h (clear% h;fun h h4=>?_)
 refine a0b h (clear% h;fun h h3=>?_)
 refine a0b h (clear% h;fun h1 h2=>?_)
 have e1:e=.Lambda (vw e).ps (vw e).a (vw e).sc (vw e).pos:=a0A h1
 have e2:(vw e).a=.Subscript (vw (vw e).a).a (vw (vw e).a).b (vw (vw e).a).pos:=a0A h5
 rw [a1r (a0i h6).1,a1r (a0i h7).1] at e2
 exact⟨⟨_,_,_,_,e1.trans (c7H (Expr.Lambda _ · _ _) e2),a2w h2⟩,h3,h4,(a0i h6).2,(a0i h7).2,c8d h8,c8d h9⟩
noncomputable def b4H (fv:List Nat)(x:Nat)(body:PE):Option Nat:=body.pv.asIdx.bind fun q=>(a5T q.1).bind fun t=>(a5T q.2).bind fun y=>grd (fv==[t]&&y==x) (some t)
theorem b1Q {e:PE}{x:Nat}(h:a5T e=some x):e=.var x:=by
 unfold a5T at h
 cases hv:e.pv with
 | var y=>rw [hv] at h;exact (a7h hv).trans (c7H PE.var (c7Q h))
 | _=>rw [hv] at h;exact a0e h
theorem b7B {e:PE}{q:PE×PE}(h:e.pv.asIdx=some q):e=.idx q.1 q.2:=by
 cases hv:e.pv with
 | idx a b=>rw [hv] at h;exact c7Q h ▸ a7h hv
 | _=>rw [hv] at h;exact a0e h
theorem b4I {fv:List Nat}{x t:Nat}{body:PE}(h:b4H fv x body=some t):fv=[t]∧body=.idx (.var t) (.var x):=by
 refine a0j h (clear% h;fun q h0 h=>?_)
 refine a0j h (clear% h;fun t' h1 h=>?_)
 refine a0j h (clear% h;fun y h2 h=>?_)
 refine a0Q h (clear% h;fun h3 h=>?_)
 refine a0b h3 (clear% h3;fun h4 h5=>?_)
 rw [b7B h0,b1Q h1,b1Q h2,c8d h5,← h]
 exact⟨c8d h4,rfl⟩
noncomputable def c7a (nm:Nat→Str)(sc:a0h)(fv:List Nat)(x:Nat)(body:PE)(e:Expr):Bool:=
 c0s sc ("sorted":Str) e&&(vw e).es.length==1&&(vw e).ks.length==1&&((vw e).ks.headD ⟨none,e,default⟩).arg==some ("key":Str)&&(match b4H fv x body with
  | none=>false
  | some t=>c2U nm sc t x (c5H e))
mutual
noncomputable def mE (nm:Nat→Str)(sc:a0h)(pe:PE)(e:Expr):Bool:=match pe with
 | .none=>isC .none e
 | .bool b=>isC (.bool b) e
 | .int i=>isC (.int i) e
 | .str s=>isC (.str s) e
 | .bytes l=>isC (.bytes l) e
 | .var x=>b4E nm x e
 | .typ n=>c0u sc n e&&a1P.contains n
 | .bin op a b=>isT e .bin&&(vw e).op==op&&mE nm sc a (vw e).a&&mE nm sc b (vw e).b
 | .neg a=>isT e .un&&(vw e).uo==.USub&&mE nm sc a (vw e).a
 | .ite t a b=>isT e .ite&&mT nm sc t (vw e).a&&mE nm sc a (vw e).b&&mE nm sc b (vw e).c
 | .list es=>isT e .list&&(vw e).es.all a0J&&mEs nm sc es (vw e).es
 | .tup es=>isT e .tup&&(vw e).es.all a0J&&mEs nm sc es (vw e).es
 | .cmp op a b=>b4F op e&&mE nm sc a (vw e).a&&mE nm sc b (arg e 0)
 | .idx a i=>isT e .sub&&mE nm sc a (vw e).a&&mE nm sc i (vw e).b
 | .slice a lo hi=>b2Z e&&mE nm sc a (vw e).a&&mO nm sc lo (vw (vw e).b).lo&&mO nm sc hi (vw (vw e).b).hi
 | .comp fv elt t iter ifs gs=>isComp e&&a3A nm sc (vw e).sc fv&&mI nm sc iter (gHd e).iter&&a3z nm (vw e).sc.names t (gHd e).target&&c2A nm (a4j sc (vw e).sc.names) ifs (gHd e).ifs &&
   mGs nm (a4j sc (vw e).sc.names) (vw e).sc.names gs (vw e).gs.tail&&mE nm (a4j sc (vw e).sc.names) elt (vw e).a
 | .call f args kw=>c0s sc (nm f) e&&mEs nm sc args (vw e).es&&mKw nm sc kw (vw e).ks
 | .len a=>isG sc "len" 1 e&&mE nm sc a (arg e 0)
 | .sum a=>isG sc "sum" 1 e&&mE nm sc a (arg e 0)
 | .max a b=>isG sc "max" 2 e&&mE nm sc a (arg e 0)&&mE nm sc b (arg e 1)
 | .bytesOf a=>isG sc "bytes" 1 e&&mE nm sc a (arg e 0)
 | .typeOf a=>isG sc "type" 1 e&&mE nm sc a (arg e 0)
 | .replace a b c=>isM "replace" 2 e&&mE nm sc a (b0D e)&&mE nm sc b (arg e 0)&&mE nm sc c (arg e 1)
 | .join a b=>isM "join" 1 e&&mE nm sc a (b0D e)&&mE nm sc b (arg e 0)
 | .split a b=>isM "split" 1 e&&mE nm sc a (b0D e)&&mE nm sc b (arg e 0)
 | .isascii a=>isM "isascii" 0 e&&mE nm sc a (b0D e)
 | .btranslate a b c=>isM "translate" 1 e&&isM "maketrans" 2 (arg e 0)&&c0u sc "bytes" (b0D (arg e 0))&&mE nm sc a (b0D e)&&mE nm sc b (arg (arg e 0) 0)&&mE nm sc c (arg (arg e 0) 1)
 | .encode a=>isM "encode" 1 e&&mE nm sc a (b0D e)&&isC (.str (Str.ofString "ascii")) (arg e 0)
 | .fstr es=>isT e .fstr&&Nat.blt 1 (vw e).es.length&&mPs nm sc es (vw e).es
 | _=>false
noncomputable def mT (nm:Nat→Str)(sc:a0h)(pe:PE)(e:Expr):Bool:=match pe with
 | .not a=>isT e .un&&(vw e).uo==.Not&&mT nm sc a (vw e).a
 | .and es=>isT e .bop&&(vw e).bo==.And&&mBs nm sc es (vw e).es
 | .or es=>isT e .bop&&(vw e).bo==.Or&&mBs nm sc es (vw e).es
 | .ite t a b=>isT e .ite&&mT nm sc t (vw e).a&&mT nm sc a (vw e).b&&mT nm sc b (vw e).c
 | .cmp op a b=>b4F op e&&mE nm sc a (vw e).a&&mE nm sc b (arg e 0)
 | .cmp2 a op₁ b op₂ c=>b9x op₁ op₂ e&&mE nm sc a (vw e).a&&mE nm sc b (arg e 0)&&mE nm sc c (arg e 1)
 | .bool b=>isC (.bool b) e
 | .var x=>b4E nm x e
 | .call f args kw=>c0s sc (nm f) e&&mEs nm sc args (vw e).es&&mKw nm sc kw (vw e).ks
 | .isascii a=>isM "isascii" 0 e&&mE nm sc a (b0D e)
 | .isStr a=>isG sc "isinstance" 2 e&&mE nm sc a (arg e 0)&&c0u sc "str" (arg e 1)
 | .idx a i=>isT e .sub&&mE nm sc a (vw e).a&&mE nm sc i (vw e).b
 | _=>false
noncomputable def mBs (nm:Nat→Str)(sc:a0h)(pes:PEs)(es:List Expr):Bool:=match pes with
 | .nil=>es.isEmpty
 | .cons pe pes=>!es.isEmpty&&mT nm sc pe (es.headD default)&&mBs nm sc pes es.tail
noncomputable def c2A (nm:Nat→Str)(sc:a0h)(pes:PEs)(es:List Expr):Bool:=match pes with
 | .nil=>es.isEmpty
 | .cons pe pes=>!es.isEmpty&&mT nm sc pe (es.headD default)&&c2A nm sc pes es.tail
noncomputable def mEs (nm:Nat→Str)(sc:a0h)(pes:PEs)(es:List Expr):Bool:=match pes with
 | .nil=>es.isEmpty
 | .cons pe pes=>!es.isEmpty&&mE nm sc pe (es.headD default)&&mEs nm sc pes es.tail
noncomputable def mPs (nm:Nat→Str)(sc:a0h)(pes:PEs)(es:List Expr):Bool:=match pes with
 | .nil=>es.isEmpty
 | .cons pe pes=>!es.isEmpty&&b0Q (es.headD default)&&mE nm sc pe (b4G (es.headD default))&&mPs nm sc pes es.tail
noncomputable def mKw (nm:Nat→Str)(sc:a0h)(po:PO)(ks:List Keyword):Bool:=match po with
 | .no=>ks.isEmpty
 | .yes pe=>ks.length==1&&(ks.headD ⟨none,default,default⟩).arg==some ("strict_mode":Str)&&mE nm sc pe (ks.headD ⟨none,default,default⟩).value
noncomputable def mO (nm:Nat→Str)(sc:a0h)(po:PO)(o:Option Expr):Bool:=match po with
 | .no=>o.isNone
 | .yes pe=>o.isSome&&mE nm sc pe (o.getD default)
noncomputable def mI (nm:Nat→Str)(sc:a0h)(pe:PE)(e:Expr):Bool:=match pe with
 | .range1 a=>isG sc "range" 1 e&&mE nm sc a (arg e 0)
 | .range2 a b=>isG sc "range" 2 e&&mE nm sc a (arg e 0)&&mE nm sc b (arg e 1)
 | .range3 a b c=>isG sc "range" 3 e&&mE nm sc a (arg e 0)&&mE nm sc b (arg e 1)&&mE nm sc c (arg e 2)
 | .var x=>b4E nm x e
 | .idx a i=>isT e .sub&&mE nm sc a (vw e).a&&mE nm sc i (vw e).b
 | .slice a lo hi=>b2Z e&&mE nm sc a (vw e).a&&mO nm sc lo (vw (vw e).b).lo&&mO nm sc hi (vw (vw e).b).hi
 | .call f args kw=>c0s sc (nm f) e&&mEs nm sc args (vw e).es&&mKw nm sc kw (vw e).ks
 | .sortedKey a fv x body=>isR1 a&&c7a nm sc fv x body e&&mI nm sc a (arg e 0)
 | _=>false
noncomputable def mGs (nm:Nat→Str)(sc names:a0h)(pgs:PGs)(gs:List Comprehension):Bool:=match pgs with
 | .nil=>gs.isEmpty
 | .cons t iter ifs pgs=>(gs.headD ⟨default,default,[],1⟩).is_async==0&&a4G (gs.headD ⟨default,default,[],1⟩).iter&&mI nm sc iter (gs.headD ⟨default,default,[],1⟩).iter&&a3z nm names t (gs.headD ⟨default,default,[],1⟩).target &&
   c2A nm sc ifs (gs.headD ⟨default,default,[],1⟩).ifs&&mGs nm sc names pgs gs.tail
end
end
section
section
variable (G:GC)(F:Fns)(lvl:Nat)
noncomputable def EvJ (sc:a0h)(pe:PE)(e:Expr):Prop:=∀ (Γ:Ctx) (σ:Store) (oa:Nat→Addr) (s:Shared) (d:D),St G Γ lvl sc σ oa s→evE F σ pe=some d→Ev G Γ σ oa (strict σ pe) (eval e Γ.env) s d
noncomputable def TsJ (sc:a0h)(pe:PE)(e:Expr):Prop:=∀ (Γ:Ctx) (σ:Store) (oa:Nat→Addr) (s:Shared) (b:Bool),St G Γ lvl sc σ oa s→evT F σ pe=some b→Tr G Γ.A (PySem.isTrue e Γ.env (eval e Γ.env)) s b
noncomputable def b6Y (sc:a0h)(pes:PEs)(es:List Expr):Prop:=∀ (Γ:Ctx) (σ:Store) (oa:Nat→Addr) (s:Shared) (b:Bool),St G Γ lvl sc σ oa s→b1H F σ pes=some b→Tr G Γ.A (c5j es Γ.env) s b
noncomputable def It (Γ:Ctx)(σ:Store)(oa:Nat→Addr)(st:Bool)(e:Expr)(s:Shared)(ds:List D):Prop:=
 ∀ (Q E:Value→Shared→Prop),(∀ I fp P Stt s',Af G s s'→Wk G Γ σ oa st ds s s' I fp P Stt→Q (.ref I) s')→wpAny (model G.prog G.w) Γ.A (eval e Γ.env) (fun v s₁=>wpAny (model G.prog G.w) Γ.A (pyIter v) Q E s₁) E s
noncomputable def a3p (sc:a0h)(pe:PE)(e:Expr):Prop:=∀ (Γ:Ctx) (σ:Store) (oa:Nat→Addr) (s:Shared) (ds:List D),St G Γ lvl sc σ oa s→evI F σ pe=some ds→It G Γ σ oa (forOk σ pe) e s ds
noncomputable def kfE (elt:PE):Store→Option (List D):=fun σ''=>grd (strict σ'' elt) ((evE F σ'' elt).map fun d=>[d])
structure GsH (Γ:Ctx)(sc names:a0h)(σ:Store)(oa:Nat→Addr)(Dd:Addr)(X:Addr→Prop)(ys r:List D)(s:Shared):Prop where
 aD:Apart G Γ Dd
 XD:X Dd
 XL:X Γ.env.locals
 Xc:∀ x c,a3j names x=true→Γ.env.cells.lookup x=some c→X c
 Xb:∀ b,X b→Γ.bad b
 ok:a0O (ys++r).length=true
 st:St G Γ lvl sc σ oa s
 acc:AccIs G Γ σ oa Dd ys s
noncomputable def GsJ (sc names:a0h)(elt':PE)(elt:Expr)(gs:PGs)(gs':List Comprehension):Prop:=
 ∀ (gens:List Comprehension) (scope:Scope) (pos:Pos) (depth:Nat),gens.drop (depth+1)=gs'→∀ (Γ:Ctx) (σ:Store) (oa:Nat→Addr) (Dd:Addr) (X:Addr→Prop) (s:Shared) (ys r:List D),
  c2w F σ gs (kfE F elt')=some r→GsH G lvl Γ sc names σ oa Dd X ys r s →
  ∀ (Q:Unit→Shared→Prop) (E:Value→Shared→Prop),(∀ s',St G Γ lvl sc σ oa s'→AccIs G Γ σ oa Dd (ys++r) s'→Kc G X s s'→Q () s') →
  wpAny (model G.prog G.w) Γ.A (c0q elt gens scope pos depth (.ref Dd) Γ.env) Q E s
end
section
variable {G:GC}{F:Fns}{lvl:Nat}{Γ:Ctx}{sc names:a0h}{σ σ₀ σ':Store}{oa:Nat→Addr}{s s':Shared}
theorem a2P {e:Expr}{env:Env}{x:Value}(h:a4G e=true):foldedSetIterable e env x=pure x:=by
 cases e with
 | Set=>exact absurd h c7I
 | _=>rfl
theorem Apart.plus {a:Addr}{P:Addr→Prop}(h:Apart G Γ a):Apart G (Γ.plusP P) a:=⟨.inl h.bad,h.loc,h.cell,h.tab,h.base⟩
theorem b7C {α:Type}{l r:List α}{x:α}{k:Nat}(h:l.drop k=x :: r):l[k]?=some x∧l.drop (k+1)=r:=by
 have h1:(l.drop k)[0]?=some x:=c7H (·[0]?) h
 rw [List.getElem?_drop] at h1
 refine⟨h1,?_⟩
 have h2:(l.drop k).drop 1=r:=c7H (List.drop 1) h
 rw [List.drop_drop] at h2
 exact h2
theorem a6w {nm:Nat→Str}(hsub:∀ x,a3j names x=true→a3j sc x=true){xs:List Nat}{es:List Expr}(h:a4H nm names xs es=true):a4H nm sc xs es=true∧∀ x∈xs,a3j names (nm x)=true:=by
 induction xs generalizing es with
 | nil=>exact⟨h,nofun⟩
 | cons x xs ih=>
  cases es with
  | nil=>exact absurd h c7I
  | cons e es=>
   refine a0b (a:=isN nm x e&&a3j names (nm x)) h fun h h3=>?_
   refine a0b h (clear% h;fun h1 h2=>?_)
   exact⟨c8N.mpr ⟨c8N.mpr ⟨h1,hsub _ h2⟩,(ih h3).1⟩,fun y hy=>(c8o.mp hy).elim (fun q=>q ▸ h2) ((ih h3).2 y)⟩
theorem a7z {nm:Nat→Str}(hsub:∀ x,a3j names x=true→a3j sc x=true){t:Tgt}{e:Expr}(h:a3z nm names t e=true):a3z nm sc t e=true∧∀ x∈t.xs,a3j names (nm x)=true:=by
 cases t with
 | one x=>
  refine a0b h (clear% h;fun h1 h2=>?_)
  exact⟨c8N.mpr ⟨h1,hsub _ h2⟩,fun y hy=>(c8C.mp hy) ▸ h2⟩
 | many xs=>
  refine a0b h (clear% h;fun h1 h2=>?_)
  exact⟨c8N.mpr ⟨h1,(a6w hsub h2).1⟩,(a6w hsub h2).2⟩
theorem c2V {elt':PE}{elt:Expr}(hE:EvJ G F lvl sc elt' elt):GsJ G F lvl sc names elt' elt .nil []:=by
 intro gens scope pos depth hd Γ σ oa Dd X s ys r hev H Q E hQ
 have hg:gens[depth+1]?=none:=c8X (List.drop_eq_nil_iff.mp hd)
 unfold c0q
 rw [hg]
 refine (a0P (show grd _ _ = _ from hev)).elim fun hst h=>?_
 refine a2v h (clear% h;fun d hd' Z1=>?_)
 subst Z1
 refine c8e (hE _ _ _ _ _ H.st hd' _ _ fun v s₁ R=>c8e ?_)
 have S₁:=H.st.af R.af
 have lok:∀ (n:Nat) (w:Array Value),a8c { cls:=.type "list",data:=.seq w n }:=fun n w=>Flat.ok fun vs q=>nomatch q
 obtain⟨vs,⟨n,hp⟩,r⟩:=H.acc.kp H.st H.aD.tab R.af.kp
 refine wpAny_list_append_plain (items:=vs.toArray) ⟨n,hp⟩ (fun h' hl hs=>c8f ?_) ?_
 ·have k:∀ b o,b≠Dd→s₁.heap.get? b=some o→h'.get? b=some o:=fun b o hb=>hs.extBut b o hb
  refine hl.elim (clear% hl;fun n' hl=>?_)
  have hl:h'.get? Dd=some { cls:=.type "list",data:=.seq (vs++[v]).toArray n' }:=hl.trans (by rw [List.push_toArray])
  exact hQ _ (S₁.butP (tk:=s₁.toks) (P:=(·=Dd)) (fun _ q=>q ▸ H.aD.bad) (fun q=>H.aD.loc q.symm) (fun y c e q=>H.aD.cell y (q ▸ e)) (fun _ q=>q ▸ H.aD.base) (fun _ q=>⟨_,q ▸ hp,lok _ _⟩) k (fun _ q=>⟨_,q ▸ hl⟩) (c7G _))
   ⟨vs++[v],⟨n',hl⟩,(r.snoc (R.deep hst)).keep (c7G _) fun b o hb=>k b o fun q=>hb (.inl (q ▸ H.aD.bad))⟩
   ⟨fun b o h1 h2 e=>k b o (fun q=>h2 (q ▸ H.XD)) (R.af.kp.heap b o h1 e),R.af.kp.os,R.af.kp.toks,R.af.kp.gens⟩
 ·rw [c8b,r.length]
  exact Nat.le_of_lt (c7F (by rw [c8Y];exact c8r _) (a0H H.ok))
theorem c0x {elt':PE}{elt:Expr}{t:Tgt}{t':Expr}{iter:PE}{iter':Expr}{ifs:PEs}{ifs':List Expr}{gs:PGs}{gs':List Comprehension}(ht:a3z G.nm names t t'=true)(hsub:∀ x,a3j names x=true→a3j sc x=true)
  (hset:a4G iter'=true) (hasync:∀ g∈gs',g.is_async=0)
  (hI:a3p G F lvl sc iter iter') (hT:b6Y G F lvl sc ifs ifs') (hG:GsJ G F lvl sc names elt' elt gs gs'):GsJ G F lvl sc names elt' elt (.cons t iter ifs gs) (⟨t',iter',ifs',0⟩ :: gs'):=by
 intro gens scope pos depth hd Γ σ oa Dd X s ys r hev H Q E hQ
 refine (b7C hd).elim fun hg hd2=>?_
 unfold c0q
 rw [hg]
 refine a0j (show (evI F σ iter).bind _ = _ from hev) fun items hit h=>?_
 refine a2v h (clear% h;fun rs hrs Z1=>?_)
 subst Z1
 refine (a7z hsub ht).elim fun ht' htx=>?_
 have S:=H.st
 have hXa:∀ b,X b→∃ o,s.heap.get? b=some o:=fun b hb=>S.alloc b (.inl (H.Xb b hb))
 refine c8e (c8H (hI _ _ _ _ _ S hit _ E fun I fp P Stt s₂ a₂ W=>?_) (fun v s₁ h₁=>c8e (c8J (c8e (wpAny_of_eq (a2P hset) (c8e (c8c h₁)))))) fun _ _ e=>e)
 have k₂:=a₂.kp
 have hIn:=W.newI.1
 have oldI:=W.old I W.fpI
 have S₂:St G (Γ.plus I) lvl sc σ oa s₂:=S.plusKp hIn k₂ a₂.gst oldI.1
 have notI:∀ b,Γ.bad b→b≠I:=fun b hb=>(S.alloc _ (.inl hb)).elim fun o e=>a0f hIn e
 have aI:Apart G (Γ.plus I) I:=⟨.inr rfl,fun q=>notI _ S.badL q.symm,fun y q=>notI _ (S.badC y I q) rfl,oldI.2,a4l S hIn⟩
 have A₂':AccIs G (Γ.plus I) σ oa Dd ys s₂:=H.acc.chg rfl (fun o=>k₂.heap _ o H.aD.tab) (b0G (fun _ q=>q ▸ hIn) k₂.toks (a9i S k₂))
 have hDI:Dd≠I:=(hXa Dd H.XD).elim fun o e=>a0f hIn e
 refine c8e (wpAny_runOwn ?_)
 have L:LoopH G (Γ.plus I) lvl sc σ oa elt gens scope pos (depth+1) t' iter' ifs' t Dd I X fp P Stt items.length (fun σ'=>b1H F σ' ifs) (fun σ'=>c2w F σ' gs (kfE F elt')):={
  hg:=hg
  hg1:=fun g' hg'=>hasync g' (hd2 ▸ c8Z ((List.getElem?_drop (i:=depth+1+1) (j:=0)).trans hg'))
  ht:=ht',aD:=H.aD.plus,aI:=aI,hDI:=hDI,XD:=H.XD,XL:=H.XL
  Xc:=fun x hx c hc=>H.Xc _ c (htx x hx) hc
  XI:=fun q=>(hXa I q).elim fun o e=>a0f hIn e rfl
  Xbad:=fun b hb=>.inl (.inl (H.Xb b hb))
  walk:=W.walks
  fp:=fun b hb=>⟨fun q=>W.frm b hb (H.Xb b q),(W.old b hb).2⟩
  it:=W.iter
  tests:=fun σ' s b hb S'=>hT _ _ _ _ _ S' hb
  body:=fun σ' s₃ ys r Q E hr hok' S' A' hQ'=>hG _ _ _ _ hd2 _ _ _ _ X _ _ _ hr ⟨H.aD.plus,H.XD,H.XL,H.Xc,fun b hb=>.inl (H.Xb b hb),hok',S',A'⟩ _ _ hQ' }
 suffices L':c2T G (Γ.plus I) elt gens scope pos (depth+1) I Dd (fun r s'=>match r with | .ok f=>wpAny (model G.prog G.w) Γ.A (pure ():Sem Unit) Q E s' | .error e=>cameBackBy (model G.prog G.w) Γ.A Γ.env E e s') s₂ from a1O hg L' (W.walks.self 0 _ _ _ W.start L')
 refine b4C L (s₀:=s₂) items 0 s₂ ys rs (c9a _) (fun j tk v d htk hP hd=>?_) S₂ A₂' W.start Kc.refl hrs H.ok fun s₁ h' tk e=>?_
 ·exact (W.rep j tk v d htk (c9a j ▸ hP) hd).weaken fun b hb=>a0K.mp hb
 ·refine (e.it).elim fun oI Z1=>Z1.elim (fun eI cI=>?_)
  have nI:¬ Γ.bad I:=fun q=>notI I q rfl
  refine c8f (hQ _ (e.st.doneBut S.badT S.badL S.badC nI (a4l S hIn) eI cI.ok e.keep e.toks) ?_ ?_)
  ·exact e.acc.chg rfl (fun o=>e.keep _ o hDI) ⟨e.toks,fun b o hb=>e.keep b o fun q=>hb (a0K.mpr (.inr q)),fun b _ hb _ q=>hb (a0K.mpr (.inl q))⟩
  ·exact⟨fun b o h1 h2 q=>e.keep b o (a0f hIn q) (e.kc.heap b o h1 (fun p=>p.elim h2 (a0f hIn q)) (k₂.heap b o h1 q)),
    e.kc.os.trans k₂.os,c7O k₂.toks (c7O e.kc.toks e.toks),fun i x q=>e.kc.gens i x (k₂.gens i x q)⟩
end
end
section
section
variable {G:GC}{F:Fns}{lvl:Nat}{Γ:Ctx}{sc names:a0h}{σ σ₀ σ':Store}{oa:Nat→Addr}{s s':Shared}{E:Value→Shared→Prop}
theorem a6x {x:Str}(h:a3j names x=true):a3j (a4j sc names) x=true:=by
 have k:∀ k,names.lookup x=some k→(k==.free)=false→(a4j sc names).lookup x=some k:=fun k h hk=>by
  rw [a4k,h]
  show some (if (k==.free&&_)=true then _ else _) = _
  rw [hk]
  rfl
 rcases a1J h with h | h
 ·exact c9b.mpr (.inl (c7L.mpr (k _ h rfl)))
 ·exact c9b.mpr (.inr (c7L.mpr (k _ h rfl)))
structure CompOut (G:GC)(Γ:Ctx)(σ:Store)(oa:Nat→Addr)(s s':Shared)(Dd C:Addr)(ds:List D):Prop where
 af:Af G s s'
 newD:s.heap.get? Dd=none
 newC:s.heap.get? C=none
 ne:Dd≠C
 list:∃ vs:List Value,s'.heap.PlainList Dd vs.toArray∧RepL (rc G Γ) (fun b=>a0k Γ σ oa b∨b=Dd∨b=C) s'.heap s'.toks vs ds
 ns:∃ m,s'.heap.Ns C m
theorem b4J {elt':PE}{t:Tgt}{ifs:PEs}{gs:PGs}{fv:List Nat}{elt t' iter':Expr}{ifs':List Expr}{gs':List Comprehension}{scope:Scope}{pos:Pos}{st:Bool}{items:List D}{rs:List (List D)}{I:Addr}{fp:List Addr}{P:Nat→Nat→Value→Prop}{Stt:Nat→Heap→Prop}{s₂:Shared}
  (hs:a3A G.nm sc scope fv=true) (ht:a3z G.nm scope.names t t'=true) (hasync:∀ g∈gs',g.is_async=0) (hσ:a0S σ fv=some σ₀)
  (hT:b6Y G F lvl (a4j sc scope.names) ifs ifs') (hG:GsJ G F lvl (a4j sc scope.names) scope.names elt' elt gs gs')
  (S:St G Γ lvl sc σ oa s) (a₂:Af G s s₂) (W:Wk G Γ σ oa st items s s₂ I fp P Stt)
  (hrs:items.mapM (c5F σ₀ t (fun σ'=>b1H F σ' ifs) fun σ'=>c2w F σ' gs (kfE F elt'))=some rs) (hok:a0O rs.flatten.length=true) {R:Result→Shared→Prop}
  (hR:∀ s',CompOut G Γ σ oa s s' s₂.heap.objs.size (a0q s₂.heap).objs.size rs.flatten→R (.ok .next) s') :
  codeAny (model G.prog G.w) Γ.A (.compStart (.ListComp elt (⟨t',iter',ifs',0⟩ :: gs') scope pos) 0 (.ref I) (.ref s₂.heap.objs.size) (b1O (Γ.plus I) scope (a0q s₂.heap).objs.size)) R { s₂ with heap:=a0w s₂.heap scope }:=by
 have k₂:=a₂.kp
 have hIn:=W.newI.1
 have oldI:=W.old I W.fpI
 have S₂:St G (Γ.plus I) lvl sc σ oa s₂:=S.plusKp hIn k₂ a₂.gst oldI.1
 have C:=a7w S₂ hs hσ
 have K:=a3S hs
 have h4D:∃ o,(a0w s₂.heap scope).get? s₂.heap.objs.size=some o:=C.acc.elim fun _ hp=>⟨_,hp⟩
 have h4L:∃ o,(a0w s₂.heap scope).get? (a0q s₂.heap).objs.size=some o:=C.st.alloc _ (.inl C.st.badL)
 have notI:∀ b o,s.heap.get? b=some o→b≠I:=fun b o e=>a0f hIn e
 have noT:∀ b,s₂.heap.get? b=none→b ∉ G.T:=fun b hb q=>(G.tabGet _ a₂.gst.tab _ q).elim fun ps e=>a0f hb e rfl
 have lt:s₂.heap.objs.size<(a0q s₂.heap).objs.size:=a6u s₂.heap ▸ c8r _
 have newc:∀ x c,a3j scope.names x=true→(a1n (Γ.plus I) scope ((a0q s₂.heap).objs.size+1)).lookup x=some c→s₂.heap.get? c=none∧∃ o,(a0w s₂.heap scope).get? c=some o:=fun x c hx hc=>by
  cases C.cell x c hc with
  | new _ h2 h3=>exact⟨fresh (c7O (c8p _ 2) h3),h2.elim fun o q=>⟨o,q.1⟩⟩
  | old h1=>exact (a1J hx).elim (fun h=>nomatch h.symm.trans h1) fun h=>nomatch h.symm.trans h1
 have aD:Apart G (a3B (Γ.plus I) σ σ₀ oa scope s₂.heap (a0w s₂.heap scope) (a0q s₂.heap).objs.size) s₂.heap.objs.size:=
  ⟨.inr ⟨C.newD,h4D⟩,c8A lt,fun y q=>by
   cases C.cell y _ q with
   | new _ _ h3=>exact absurd h3 (Nat.not_le_of_lt (Nat.lt_add_of_pos_right (Nat.zero_lt_two)))
   | old _ h2=>exact (S₂.alloc _ (.inl (S₂.badC y _ h2))).elim fun o e=>a0f C.newD e rfl,noT _ C.newD,a4l S₂ C.newD⟩
 have aI:Apart G (a3B (Γ.plus I) σ σ₀ oa scope s₂.heap (a0w s₂.heap scope) (a0q s₂.heap).objs.size) I:=by
  refine (oldI.1).elim fun oI eI=>?_
  refine⟨.inl ⟨.inl (.inr rfl),fun q=>q.elim fun x q=>(S.alloc _ (.inr ⟨x,a4d hσ q.1,q.2⟩)).elim fun o e=>notI _ o e rfl⟩,fun q=>a0f C.newL eI q,fun y q=>?_,oldI.2,a4l S hIn⟩
  cases C.cell y I q with
  | new _ _ h3=>exact absurd (c7Z eI) (Nat.not_lt_of_le (c7O (c8p _ 2) h3))
  | old _ h2=>exact (S.alloc _ (.inl (S.badC y _ h2))).elim fun o e=>notI _ o e rfl
 have hDI:s₂.heap.objs.size≠I:=fun q=>oldI.1.elim fun o e=>a0f C.newD e q.symm
 have ht':=a7z (sc:=a4j sc scope.names) (fun x hx=>a6x hx) ht
 have L:LoopH G (a3B (Γ.plus I) σ σ₀ oa scope s₂.heap (a0w s₂.heap scope) (a0q s₂.heap).objs.size) lvl (a4j sc scope.names) σ₀ oa elt (⟨t',iter',ifs',0⟩ :: gs') scope pos 0 t' iter' ifs' t s₂.heap.objs.size I
   (fun b=>s₂.heap.get? b=none∧∃ o,(a0w s₂.heap scope).get? b=some o) fp P Stt items.length (fun σ'=>b1H F σ' ifs) (fun σ'=>c2w F σ' gs (kfE F elt')):={
  hg:=rfl
  hg1:=fun g' hg'=>hasync g' (c8Z (i:=0) hg')
  ht:=ht'.1,aD:=aD,aI:=aI,hDI:=hDI,XD:=⟨C.newD,h4D⟩,XL:=⟨C.newL,h4L⟩
  Xc:=fun x hx c hc=>newc _ c (ht'.2 x hx) hc
  XI:=fun q=>oldI.1.elim fun o e=>a0f q.1 e rfl
  Xbad:=fun b hb=>.inl (.inr hb)
  walk:=W.walks
  fp:=fun b hb=>⟨fun q=>(W.old b hb).1.elim fun o e=>a0f q.1 e rfl,(W.old b hb).2⟩
  it:=W.iter
  tests:=fun σ' s b hb S'=>hT _ _ _ _ _ S' hb
  body:=fun σ' s₃ ys r Q E hr hok' S' A' hQ'=>hG (⟨t',iter',ifs',0⟩ :: gs') _ _ 0 rfl _ _ _ _ _ _ _ _ hr ⟨aD,⟨C.newD,h4D⟩,⟨C.newL,h4L⟩,newc,fun b hb=>.inr hb,hok',S',A'⟩ _ _ hQ' }
 have stt:Stt 0 (a0w s₂.heap scope):=W.walks.frame _ _ _ W.start fun b _ o e=>C.kf.heap b o e
 suffices L':c2T G (a3B (Γ.plus I) σ σ₀ oa scope s₂.heap (a0w s₂.heap scope) (a0q s₂.heap).objs.size) elt (⟨t',iter',ifs',0⟩ :: gs') scope pos 0 I s₂.heap.objs.size R { s₂ with heap:=a0w s₂.heap scope } from
  a1O (depth:=0) rfl L' (W.walks.self 0 _ _ _ stt L')
 refine b4C L (s₀:={ s₂ with heap:=a0w s₂.heap scope }) items 0 _ [] rs (c9a _) (fun j tk v d htk hP hd=>?_) C.st ⟨[],C.acc,.nil⟩ stt Kc.refl hrs hok fun s₁ h' tk e=>?_
 ·have r:=W.rep j tk v d htk (c9a j ▸ hP) hd
  exact Rep.chg (B:=a0k (Γ.plus I) σ oa) ⟨c7G _,C.there.keep,C.there.bar⟩ (r.weaken fun b hb=>a0K.mp hb)
 ·refine (e.it).elim fun oI Z1=>Z1.elim (fun eI cI=>?_)
  refine hR _ ⟨⟨⟨fun b o hT q=>?_,e.kc.os.trans k₂.os,c7O k₂.toks (c7O e.kc.toks e.toks),fun i x q=>e.kc.gens i x (k₂.gens i x q)⟩,a6n e.st.gst e.keep (a4l S hIn) eI cI.ok e.toks⟩,
   a7u k₂ (noT _ C.newD) C.newD,a7u k₂ (noT _ C.newL) C.newL,c8A lt,?_,?_⟩
  ·have e2:=k₂.heap b o hT q
   exact e.keep b o (notI b o q) (e.kc.heap b o hT (fun p=>p.elim (fun p=>a0f p.1 e2 rfl) (notI b o q)) (C.kf.heap b o e2))
  ·obtain⟨vs,⟨n,hp⟩,rr⟩:=e.acc
   refine⟨vs,⟨n,e.keep _ _ hDI hp⟩,(rr.keep e.toks fun b o hb=>e.keep b o fun q=>hb (.inl (q ▸ aI.bad))).weaken fun b hb=>?_⟩
   rcases hb with hb | rfl | rfl
   ·exact C.back b (a0K.mpr (.inl hb))
   ·exact .inl aD.bad
   ·exact .inl e.st.badL
  ·refine (e.st.slots).elim fun m Z1=>Z1.elim (fun hn _=>?_)
   exact⟨m,hn.at' fun o=>e.keep _ o fun q=>aI.loc q.symm⟩
theorem a6y {elt':PE}{t:Tgt}{iter:PE}{ifs:PEs}{gs:PGs}{fv:List Nat}{elt t' iter':Expr}{ifs':List Expr}{gs':List Comprehension}{scope:Scope}{pos:Pos}
  (hs:a3A G.nm sc scope fv=true) (ht:a3z G.nm scope.names t t'=true) (hasync:∀ g∈gs',g.is_async=0)
  (hI:a3p G F lvl sc iter iter') (hT:b6Y G F lvl (a4j sc scope.names) ifs ifs') (hG:GsJ G F lvl (a4j sc scope.names) scope.names elt' elt gs gs')
  (S:St G Γ lvl sc σ oa s) {d:D} (hev:evE F σ (.comp fv elt' t iter ifs gs)=some d) {RR:Value→Addr→Result→Shared→Prop}
  (hRR:∀ r Dd C s',d=.list r→CompOut G Γ σ oa s s' Dd C r→RR (.ref Dd) C (.ok .next) s') :
  closureFor scope Γ.env=pure (a0V Γ.env.cells scope.names []) ∧
  wpAny (model G.prog G.w) Γ.A (eval iter' Γ.env) (fun x s₁=>wpAny (model G.prog G.w) Γ.A (pyIter x) (fun it s₂=>wpAny (model G.prog G.w) Γ.A (newList []) (fun acc s₃=>
   wpAny (model G.prog G.w) Γ.A (newFunctionEnv scope Γ.env.globals (a0V Γ.env.cells scope.names []) [] Γ.env.qual none .none (some Γ.env)) (fun cenv s₄=>
    codeAny (model G.prog G.w) Γ.A (.compStart (.ListComp elt (⟨t',iter',ifs',0⟩ :: gs') scope pos) 0 it acc { cenv with scope:=relabel scope Γ.env }) (RR acc cenv.locals) s₄) E s₃) E s₂) E s₁) E s:=by
 refine a0j (show (evI F σ iter).bind _ = _ from hev) fun items hit h=>?_
 refine a0j h (clear% h;fun σ₀ hσ h=>?_)
 refine a0j h (clear% h;fun rs hrs h=>?_)
 refine a0Q h (clear% h;fun hok h=>?_)
 refine⟨(a7w S hs hσ).clos,hI _ _ _ _ _ S hit _ E fun I fp P Stt s₂ a₂ W=>wpAny_newObj_type (b2Y ?_)⟩
 exact b4J hs ht hasync hσ hT hG S a₂ W hrs hok fun s' C=>hRR _ _ _ s' h.symm C
end
end
section
noncomputable def a5q (G:GC)(F:Fns)(lvl:Nat)(sc:a0h)(pes:PEs)(es:List Expr):Prop:=∀ (Γ:Ctx) (σ:Store) (oa:Nat→Addr) (s:Shared) (ds:List D),St G Γ lvl sc σ oa s→a3i F σ pes=some ds→b9v G Γ σ oa es ds s
noncomputable def KwJ (G:GC)(F:Fns)(lvl:Nat)(sc:a0h)(po:PO)(ks:List Keyword):Prop:=∀ (Γ:Ctx) (σ:Store) (oa:Nat→Addr) (k:Option D),evK F σ po=some k→KwOK G Γ lvl sc σ oa k ks
noncomputable def a8q (G:GC)(F:Fns)(lvl:Nat)(sc:a0h)(po:PO)(e:Option Expr):Prop:=∀ (Γ:Ctx) (σ:Store) (oa:Nat→Addr) (s:Shared) (o:Option D) (i:Option Int),St G Γ lvl sc σ oa s→evO F σ po=some o→a3u o=some i →
 ∀ (Q:Value→Shared→Prop) (E:Value→Shared→Prop),(∀ v s',Af G s s'→IsPart v i→Q v s')→wpAny (model G.prog G.w) Γ.A (evalPart e Γ.env) Q E s
noncomputable def FOK (G:GC)(F:Fns)(lvl:Nat):Prop:=∀ f args kw d,F f args kw=some d→c2y G lvl f args kw d
section
variable {G:GC}{F:Fns}{lvl:Nat}{Γ:Ctx}{sc names:a0h}{σ σ₀ σ':Store}{oa:Nat→Addr}{s s':Shared}{va vb vc v:Value}{a b c d:D}{E:Value→Shared→Prop}
theorem KV.at {kvs:List (Str×Value)}{kv:List (Str×Int)}(h:KV kvs kv):b7b (valueAt kvs) kv:=by
 intro k
 induction h with
 | nil=>exact⟨fun _=>rfl,nofun⟩
 | @cons y i t a b h ih=>
  have e:valueAt ((y,Value.int i t) :: a) k=bif k==y then some (.int i t) else valueAt a k:=by
   unfold valueAt
   rw [List.find?_cons]
   cases hk:k==y with
   | true=>rw [c8d hk,c9c rfl];rfl
   | false=>rw [c8s fun q=>ne_of_beq_false hk q.symm];rfl
  rw [e,c7J]
  cases k==y with
  | true=>exact⟨nofun,fun j hj=>⟨t,c7Q hj ▸ rfl⟩⟩
  | false=>exact ih
theorem OwnDict.map {h:Heap}{a:Addr}{kv:List (Str×Int)}(x:OwnDict G h a kv):∃ m,Heap.MapOf (PySem.strKind G.prog G.w) h a m∧b7b m kv:=x.elim fun _ q=>⟨_,q.1.mapOf,q.2.at⟩
theorem args_nil:a5q G F lvl sc .nil []:=fun Γ σ oa s ds S h pos Q E hQ=>by
 cases c7Q (show some []=some ds from h)
 exact c9d (hQ [] s S.afR .nil)
theorem args_cons {pe:PE}{pes:PEs}{e:Expr}{es:List Expr}(hs:a0J e=true)(hE:EvJ G F lvl sc pe e)(hR:a5q G F lvl sc pes es):a5q G F lvl sc (.cons pe pes) (e :: es):=fun Γ σ oa s ds S h pos Q E hQ=>by
 refine (a0P (show grd _ _ = _ from h)).elim fun hst h=>?_
 refine a0j h (clear% h;fun d hd h=>?_)
 refine a2v h (clear% h;fun ds' hds Z1=>?_)
 subst Z1
 refine c9e (hE _ _ _ _ _ S hd _ _ fun v s₁ R=>?_) (a0s hs)
 have S₁:=S.af R.af
 exact hR _ _ _ _ _ S₁ hds pos _ _ fun vs s₂ a₂ rs=>hQ _ _ (R.af.trans a₂) (.cons ((R.deep hst).kp S₁ a₂.kp) rs)
theorem two {a b:PE}{l r:Expr}{x y:D}(S:St G Γ lvl sc σ oa s)(hA:EvJ G F lvl sc a l)(hB:EvJ G F lvl sc b r)(hx:evE F σ a=some x)(hy:evE F σ b=some y){K:Value→Value→Shared→Prop}
  (h:∀ v w s',Af G s s'→RT G Γ σ oa s' v x→RT G Γ σ oa s' w y→K v w s'):wpAny (model G.prog G.w) Γ.A (eval l Γ.env) (fun v s₁=>wpAny (model G.prog G.w) Γ.A (eval r Γ.env) (fun w s₂=>K v w s₂) E s₁) E s:=
 hA _ _ _ _ _ S hx _ _ fun v s₁ R=>hB _ _ _ _ _ (S.af R.af) hy _ _ fun w s₂ R'=>h v w s₂ (R.af.trans R'.af) (RepT.kp (S.af R.af) R.rep R'.af.kp) R'.rep
theorem a9x (S:St G Γ lvl sc σ oa s){x:Nat}{v:Value}{sl:Slot}{d:D}(hx:σ.get x=some sl)(hd:sl.read=some d)(sv:SlotV G Γ σ oa s.heap s.toks x v sl):RT G Γ σ oa s v d∧(sl.asVal.isSome=true→RD G Γ σ oa s v d):=by
 cases sl with
 | val d'=>cases c7Q hd;exact⟨.deep sv,fun _=>sv⟩
 | own l=>
  cases c7Q hd
  obtain⟨rfl,vs,hp,r⟩:=sv
  exact⟨.list hp.isList r,nofun⟩
 | ownD kv=>
  cases c7Q hd
  refine sv.elim (clear% sv;fun Z1 hm=>?_)
  subst Z1
  refine (hm.map).elim fun m Z1=>Z1.elim (fun h1 h2=>?_)
  exact⟨.dict h1 h2,nofun⟩
 | meth y=>exact a0e hd
theorem b4K {x:Nat}{p:Pos}(hk:b0O (G.nm x)=true):EvJ G F lvl sc (.var x) (.Name (G.nm x) p):=fun Γ σ oa s d S h Q E hQ=>by
 refine a0b hk (clear% hk;fun k1 k2=>?_)
 refine a0j (show (σ.get x).bind _ = _ from h) fun sl hx hd=>?_
 refine c8I (S.read hx (fun v sv=>?_) (a2w k2)) (a2w k1)
 refine (a9x S hx hd sv).elim fun r1 r2=>?_
 refine hQ v s ⟨S.afR,r1,fun q=>r2 ?_⟩
 have q:((σ.get x).bind Slot.asVal).isSome=true:=q
 rw [hx] at q
 exact q
theorem b9y {n:String}{p:Pos}(hB:GlobsOK G)(hg:a7x sc (Str.ofString n)=true)(hn:a1P.contains n=true):EvJ G F lvl sc (.typ n) (.Name (Str.ofString n) p):=fun Γ σ oa s d S h Q E hQ=>by
 refine (a3C hg).elim fun h1 h2=>?_
 exact c8I (S.glob h1 (hB.types n (c9f.mp hn)) (hQ _ s (.of S.afR (c7Q (show some (D.typ n)=some d from h) ▸ .typ _)))) h2
theorem c0y {k:Nat}{p:Pos}:EvJ G F lvl sc .none (.Constant .none k p):=fun Γ σ oa s d S h Q E hQ=>wpAny_Constant_none (hQ _ s (.of S.afR (c7Q (show some D.none=some d from h) ▸ .none)))
theorem c0z {b:Bool}{k:Nat}{p:Pos}:EvJ G F lvl sc (.bool b) (.Constant (.bool b) k p):=fun Γ σ oa s d S h Q E hQ=>wpAny_Constant_bool (hQ _ s (.of S.afR (c7Q (show some (D.bool b)=some d from h) ▸ .bool _)))
theorem c2W {i:Int}{k:Nat}{p:Pos}:EvJ G F lvl sc (.int i) (.Constant (.int i) k p):=fun Γ σ oa s d S h Q E hQ=>
 wpAny_Constant_int (hQ _ _ (.of (S.afR.kf (Kf.tok (c7T _))) (c7Q (show some (D.int i)=some d from h) ▸ .int _ _)))
theorem c2X {x:Str}{k:Nat}{p:Pos}:EvJ G F lvl sc (.str x) (.Constant (.str x) k p):=fun Γ σ oa s d S h Q E hQ=>
 wpAny_Constant_str (hQ _ _ (.of (S.afR.kf (Kf.tok (c7T _))) (c7Q (show some (D.str x)=some d from h) ▸ .str _ _ _ nofun)))
theorem b7D {x:List UInt8}{k:Nat}{p:Pos}:EvJ G F lvl sc (.bytes x) (.Constant (.bytes x) k p):=fun Γ σ oa s d S h Q E hQ=>
 c7Y (n:=s.toks) (c7G _) (wpAny_eval_const rfl fun v tk hv ht=>hv.elim fun t hv=>hv ▸ hQ _ _ (.of (S.afR.kf (Kf.tok ht)) (c7Q (show some (D.bytes x.toArray)=some d from h) ▸ .bytes _ _)))
theorem c2Y {op:Operator}{a b:PE}{l r:Expr}{p:Pos}(hA:EvJ G F lvl sc a l)(hB:EvJ G F lvl sc b r):EvJ G F lvl sc (.bin op a b) (.BinOp l op r p):=fun Γ σ oa s d S h Q E hQ=>by
 refine a0j (show (evE F σ a).bind _ = _ from h) fun x hx h=>?_
 refine a0j h (clear% h;fun y hy h=>?_)
 exact wpAny_BinOp (two S hA hB hx hy fun v w s' a r1 r2=>(b7g (S.af a) r1 r2 h).then a hQ)
theorem c2Z {a:PE}{x:Expr}{p:Pos}(hA:EvJ G F lvl sc a x):EvJ G F lvl sc (.neg a) (.UnaryOp .USub x p):=fun Γ σ oa s d S h Q E hQ=>by
 refine a0j (show (evE F σ a).bind _ = _ from h) fun y hy h=>?_
 refine a2v h (clear% h;fun i hi Z1=>?_)
 subst Z1
 exact wpAny_UnaryOp (hA _ _ _ _ _ S hy _ _ fun v s₁ R=>R.rep.intP (P:=fun v=>wpAny _ _ (unaryOp .USub v) Q E s₁) hi fun t=>P.neg_int (hQ _ _ (.of (R.af.kf (Kf.tok (c7T _))) (.int _ _))))
theorem a7A {t a b:PE}(h:strict σ (.ite t a b)=true):strict σ a=true∧strict σ b=true:=a0i h
theorem c3a {t a b:PE}{t' a' b':Expr}{p:Pos}(hT:TsJ G F lvl sc t t')(hA:EvJ G F lvl sc a a')(hB:EvJ G F lvl sc b b'):EvJ G F lvl sc (.ite t a b) (.IfExp t' a' b' p):=fun Γ σ oa s d S h Q E hQ=>by
 refine a0j (show (evT F σ t).bind _ = _ from h) fun q hq h=>?_
 refine wpAny_IfExp (hT _ _ _ _ _ S hq _ _ fun s₁ a₁=>?_)
 cases q with
 | true=>exact hA _ _ _ _ _ (S.af a₁) h _ _ fun v s' R=>hQ v s' ⟨a₁.trans R.af,R.rep,fun q=>R.deep (a7A q).1⟩
 | false=>exact hB _ _ _ _ _ (S.af a₁) h _ _ fun v s' R=>hQ v s' ⟨a₁.trans R.af,R.rep,fun q=>R.deep (a7A q).2⟩
theorem c0A {pes:PEs}{es:List Expr}{p:Pos}(hA:a5q G F lvl sc pes es):EvJ G F lvl sc (.list pes) (.List es p):=fun Γ σ oa s d S h Q E hQ=>by
 refine a0j (show (a3i F σ pes).bind _ = _ from h) fun ds hds h=>?_
 refine a0Q h (clear% h;fun hok Z1=>?_)
 subst Z1
 exact wpAny_List (hA _ _ _ _ _ S hds p _ _ fun vs s₁ a₁ r=>⟨r.length.symm ▸ a0H hok,hQ _ _ (.of (a₁.kf (Kf.push (c7G _))) ((S.af a₁).newList r (c7G _)))⟩)
theorem c3b {pes:PEs}{es:List Expr}{k:Nat}{p:Pos}(hA:a5q G F lvl sc pes es):EvJ G F lvl sc (.tup pes) (.Tuple es k p):=fun Γ σ oa s d S h Q E hQ=>by
 refine a0j (show (a3i F σ pes).bind _ = _ from h) fun ds hds h=>?_
 refine a0Q h (clear% h;fun hok Z1=>?_)
 subst Z1
 exact wpAny_Tuple (hA _ _ _ _ _ S hds p _ _ fun vs s₁ a₁ r=>⟨r.length.symm ▸ a0H hok,hQ _ _ (.of (a₁.kf (Kf.push (c7G _))) (.tup (vs:=vs) (S.af a₁).newNot ⟨_,c8a _ rfl,rfl,0,rfl⟩ (r.keep (c7G _) fun b o _ e=>c7P _ e)))⟩)
theorem c3c {op:CmpOp}{a b:PE}{l r:Expr}{p:Pos}(hA:EvJ G F lvl sc a l)(hB:EvJ G F lvl sc b r)(hm:behindInMarks op r=false):EvJ G F lvl sc (.cmp op a b) (.Compare l [op] [r] p):=fun Γ σ oa s d S h Q E hQ=>by
 refine a0j (show (evE F σ a).bind _ = _ from h) fun x hx h=>?_
 refine a0j h (clear% h;fun y hy h=>?_)
 refine a2v h (clear% h;fun q hq Z1=>?_)
 subst Z1
 exact wpAny_Compare1 (two S hA hB hx hy fun v w s' a r1 r2=>(b1K S.aok.units r1 r2 hq).then a hQ) hm
theorem b4L {a i:PE}{v' i':Expr}{p:Pos}(hA:EvJ G F lvl sc a v')(hB:EvJ G F lvl sc i i'):EvJ G F lvl sc (.idx a i) (.Subscript v' i' p):=fun Γ σ oa s d S h Q E hQ=>by
 refine a0j (show (evE F σ a).bind _ = _ from h) fun x hx h=>?_
 refine a0j h (clear% h;fun y hy h=>?_)
 exact Subscript_ (two S hA hB hx hy fun v w s' a r1 r2=>(c2O a.gst r1 r2 h).then a hQ)
theorem c0B:a8q G F lvl sc .no none:=fun Γ σ oa s o i S h hi Q E hQ=>by
 cases c7Q (show some none=some o from h)
 exact wpAny_evalPart_none (hQ _ s S.afR (c7Q (show some none=some i from hi) ▸ .none))
theorem b7E {a:PE}{e:Expr}(hA:EvJ G F lvl sc a e):a8q G F lvl sc (.yes a) (some e):=fun Γ σ oa s o i S h hi Q E hQ=>by
 refine a2v (show (evE F σ a).map some = _ from h) fun d hd Z1=>?_
 subst Z1
 refine a0j (show (d.asInt).bind _ = _ from hi) fun k hk h=>?_
 refine a0Q h (clear% h;fun _ Z1=>?_)
 subst Z1
 exact wpAny_evalPart_some (hA _ _ _ _ _ S hd _ _ fun v s' R=>R.rep.intP (P:=fun v=>Q v s') hk fun t=>hQ _ s' R.af (.int _ _))
theorem b1R {a:PE}{lo hi:PO}{v':Expr}{l u:Option Expr}{p q:Pos}(hA:EvJ G F lvl sc a v')(hL:a8q G F lvl sc lo l)(hU:a8q G F lvl sc hi u):EvJ G F lvl sc (.slice a lo hi) (.Subscript v' (.Slice l u none q) p):=fun Γ σ oa s d S h Q E hQ=>by
 refine a0j (show (evE F σ a).bind _ = _ from h) fun x hx h=>?_
 refine a0j h (clear% h;fun lo' hlo h=>?_)
 refine a0j h (clear% h;fun i hi1 h=>?_)
 refine a0j h (clear% h;fun hi' hhi h=>?_)
 refine a0j h (clear% h;fun j hj1 h=>?_)
 refine Subscript_ (hA _ _ _ _ _ S hx _ _ fun v s₁ R=>wpAny_Slice (hL _ _ _ _ _ _ (S.af R.af) hlo hi1 _ _ fun vl s₂ a₂ pl=>hU _ _ _ _ _ _ ((S.af R.af).af a₂) hhi hj1 _ _ fun vu s₃ a₃ pu=>wpAny_evalPart_none ?_))
 have A:=(R.af.trans a₂).trans a₃
 exact b7o pl pu (S.af A) (RepT.kp (S.af R.af) R.rep (a₂.trans a₃).kp) h _ _ fun v s' k r=>hQ _ _ (.of (A.kf k) r)
theorem c5I:KwJ G F lvl sc .no []:=fun Γ σ oa k h=>c7Q (show some none=some k from h) ▸ .no
theorem c3d {pe:PE}{e:Expr}{q:Pos}(hE:EvJ G F lvl sc pe e):KwJ G F lvl sc (.yes pe) [⟨some ("strict_mode":Str),e,q⟩]:=fun Γ σ oa k h=>by
 refine (a0P (show grd _ _ = _ from h)).elim fun hst h=>?_
 refine a2v h (clear% h;fun d hd Z1=>?_)
 subst Z1
 exact .yes d e q fun s S=>hst ▸ hE _ _ _ _ _ S hd
theorem b0R {f:Nat}{args:PEs}{kw:PO}{e:Expr}{es:List Expr}{ks:List Keyword}(hF:FOK G F lvl)(C:GCall sc (G.nm f) e es ks)(hA:a5q G F lvl sc args es)(hK:KwJ G F lvl sc kw ks)
  {as:List D} {k:Option D} {d:D} (S:St G Γ lvl sc σ oa s) (ha:a3i F σ args=some as) (hk:evK F σ kw=some k) (hf:F f as k=some d) {st:Bool}:Ev G Γ σ oa st (eval e Γ.env) s d:=by
 obtain⟨⟨p,q,rfl⟩,h1,h2,h3⟩:=C
 exact b7s S (hF _ _ _ _ hf) h1 h2 h3 (hK _ _ _ _ hk) (hA _ _ _ _ _ S ha)
theorem b7F {f:Nat}{args:PEs}{kw:PO}{e:Expr}{es:List Expr}{ks:List Keyword}(hF:FOK G F lvl)(C:GCall sc (G.nm f) e es ks)(hA:a5q G F lvl sc args es)(hK:KwJ G F lvl sc kw ks):EvJ G F lvl sc (.call f args kw) e:=fun Γ σ oa s d S h=>by
 refine a0j (show (a3i F σ args).bind _ = _ from h) fun as ha h=>?_
 refine a0j h (clear% h;fun k hk hf=>?_)
 exact b0R hF C hA hK S ha hk hf
theorem a5r {a:PE}{x:Expr}{pos:Pos}(hs:[x].all a0J=true)(hA:EvJ G F lvl sc a x)(S:St G Γ lvl sc σ oa s)(h:evE F σ a=some d){Q:List Value→Shared→Prop}
  (hQ:∀ v s',Af G s s'→RT G Γ σ oa s' v d→Q [v] s'):wpAny (model G.prog G.w) Γ.A (spliced (backTo pos (starEach [x] Γ.env))) Q E s:=
 c9e (hA _ _ _ _ _ S h _ _ fun v s₁ R=>c9d (hQ v s₁ R.af R.rep)) (a0s (a0i hs).1)
theorem a6d {a b:PE}{d₂:D}{x y:Expr}{pos:Pos}(hs:[x,y].all a0J=true)(hA:EvJ G F lvl sc a x)(hB:EvJ G F lvl sc b y)(S:St G Γ lvl sc σ oa s)(h:evE F σ a=some d)(h₂:evE F σ b=some d₂){Q:List Value→Shared→Prop}
  (hQ:∀ v w s',Af G s s'→RT G Γ σ oa s' v d→RT G Γ σ oa s' w d₂→Q [v,w] s'):wpAny (model G.prog G.w) Γ.A (spliced (backTo pos (starEach [x,y] Γ.env))) Q E s:=
 c9e (hA _ _ _ _ _ S h _ _ fun v s₁ R=>a5r (a0i hs).2 hB (S.af R.af) h₂ fun w s₂ a₂ r₂=>hQ v w s₂ (R.af.trans a₂) (RepT.kp (S.af R.af) R.rep a₂.kp) r₂) (a0s (a0i hs).1)
theorem b3a {a b c:PE}{d₂ d₃:D}{x y z:Expr}{pos:Pos}(hs:[x,y,z].all a0J=true)(hA:EvJ G F lvl sc a x)(hB:EvJ G F lvl sc b y)(hC:EvJ G F lvl sc c z)(S:St G Γ lvl sc σ oa s)(h:evE F σ a=some d)(h₂:evE F σ b=some d₂)(h₃:evE F σ c=some d₃){Q:List Value→Shared→Prop}
  (hQ:∀ v w u s',Af G s s'→RT G Γ σ oa s' v d→RT G Γ σ oa s' w d₂→RT G Γ σ oa s' u d₃→Q [v,w,u] s'):wpAny (model G.prog G.w) Γ.A (spliced (backTo pos (starEach [x,y,z] Γ.env))) Q E s:=
 c9e (hA _ _ _ _ _ S h _ _ fun v s₁ R=>a6d (a0i hs).2 hB hC (S.af R.af) h₂ h₃ fun w u s₂ a₂ r₂ r₃=>hQ v w u s₂ (R.af.trans a₂) (RepT.kp (S.af R.af) R.rep a₂.kp) r₂ r₃) (a0s (a0i hs).1)
end
end
section
noncomputable def PsJ (G:GC)(F:Fns)(lvl:Nat)(sc:a0h)(pes:PEs)(es:List Expr):Prop:=∀ (Γ:Ctx) (σ:Store) (oa:Nat→Addr) (s:Shared) (ds:List D) (p:List Str),St G Γ lvl sc σ oa s→a3i F σ pes=some ds→ds.mapM D.asStr=some p →
 ∀ (acc:Str) (Q:Str→Shared→Prop) (E:Value→Shared→Prop),acc.length+(p.map (·.length)).sum≤16777216→(∀ s',Af G s s'→Q (p.foldl (·++·) acc) s')→Joins (model G.prog G.w) Γ.A E (evalEach es Γ.env) acc Q s
section
variable {G:GC}{F:Fns}{lvl:Nat}{Γ:Ctx}{sc names:a0h}{σ σ₀ σ':Store}{oa:Nat→Addr}{s s':Shared}{va vb vc v:Value}{a b c d:D}{E:Value→Shared→Prop}
theorem fn1 {f:String}{a:PE}{e x:Expr}{u d:D}{st:Bool}(hB:GlobsOK G)(hf:a3T.contains f=true)(C:a1B sc f e [x])(hA:EvJ G F lvl sc a x)(S:St G Γ lvl sc σ oa s)(h:evE F σ a=some u)
  (k:∀ v s',St G Γ lvl sc σ oa s'→RT G Γ σ oa s' v u→Does G Γ σ oa (call (.builtin f) [v]) s' d):Ev G Γ σ oa st (eval e Γ.env) s d:=fun Q E hQ=>by
 obtain⟨⟨p,q,rfl⟩,h1,h2,h3⟩:=C
 exact a5F S h1 (hB.fns f (c9f.mp hf)) h2 h3 (a5r h3 hA S h fun v s₁ a₁ r=>(k v s₁ (S.af a₁) r).then a₁ hQ)
theorem fn2 {f:String}{a b:PE}{e x y:Expr}{u w d:D}{st:Bool}(hB:GlobsOK G)(hf:a3T.contains f=true)(C:a1B sc f e [x,y])(hA:EvJ G F lvl sc a x)(hA':EvJ G F lvl sc b y)(S:St G Γ lvl sc σ oa s)(h:evE F σ a=some u)(h':evE F σ b=some w)
  (k:∀ v v' s',St G Γ lvl sc σ oa s'→RT G Γ σ oa s' v u→RT G Γ σ oa s' v' w→Does G Γ σ oa (call (.builtin f) [v,v']) s' d):Ev G Γ σ oa st (eval e Γ.env) s d:=fun Q E hQ=>by
 obtain⟨⟨p,q,rfl⟩,h1,h2,h3⟩:=C
 exact a5F S h1 (hB.fns f (c9f.mp hf)) h2 h3 (a6d h3 hA hA' S h h' fun v w s₁ a₁ r r'=>(k v w s₁ (S.af a₁) r r').then a₁ hQ)
theorem ty1 {f:String}{a:PE}{e x:Expr}{u d:D}{st:Bool}(hB:GlobsOK G)(hf:a1P.contains f=true)(C:a1B sc f e [x])(hA:EvJ G F lvl sc a x)(S:St G Γ lvl sc σ oa s)(h:evE F σ a=some u)
  (k:∀ v s',St G Γ lvl sc σ oa s'→RT G Γ σ oa s' v u→Does G Γ σ oa (call (.type f) [v]) s' d):Ev G Γ σ oa st (eval e Γ.env) s d:=fun Q E hQ=>by
 obtain⟨⟨p,q,rfl⟩,h1,h2,h3⟩:=C
 exact a2n S h1 (hB.types f (c9f.mp hf)) h2 h3 (a5r h3 hA S h fun v s₁ a₁ r=>(k v s₁ (S.af a₁) r).then a₁ hQ)
theorem c3e {a:PE}{e x:Expr}(hB:GlobsOK G)(C:a1B sc "len" e [x])(hA:EvJ G F lvl sc a x):EvJ G F lvl sc (.len a) e:=fun Γ σ oa s d S h=>by
 refine a0j (show (evE F σ a).bind _ = _ from h) fun u hu h=>?_
 refine a0j h (clear% h;fun n hn h=>?_)
 refine a0Q h (clear% h;fun hok Z1=>?_)
 subst Z1
 exact fn1 hB rfl C hA S hu fun v s' S' r=>c2P r hn hok
theorem c3f {a:PE}{e x:Expr}(hB:GlobsOK G)(C:a1B sc "sum" e [x])(hA:EvJ G F lvl sc a x):EvJ G F lvl sc (.sum a) e:=fun Γ σ oa s d S h=>by
 refine a0j (show (evE F σ a).bind _ = _ from h) fun u hu h=>?_
 refine a0j h (clear% h;fun l hl h=>?_)
 refine a0j h (clear% h;fun p hp h=>?_)
 refine a0Q h (clear% h;fun hok Z1=>?_)
 subst Z1
 exact fn1 hB rfl C hA S hu fun v s' S' r=>c2R S' r hl hp hok
theorem b3b {a:PE}{e x:Expr}(hB:GlobsOK G)(C:a1B sc "bytes" e [x])(hA:EvJ G F lvl sc a x):EvJ G F lvl sc (.bytesOf a) e:=fun Γ σ oa s d S h=>by
 refine a0j (show (evE F σ a).bind _ = _ from h) fun u hu h=>?_
 refine a0j h (clear% h;fun l hl h=>?_)
 refine a0j h (clear% h;fun p hp h=>?_)
 refine a0Q h (clear% h;fun hok Z1=>?_)
 subst Z1
 exact ty1 hB rfl C hA S hu fun v s' S' r=>b2P S' r hl hp hok
theorem c3g {u d:D}{v:Value}(r:RT G Γ σ oa s v u)(h:c6W u=some d):Does G Γ σ oa (call (.type "type") [v]) s d:=fun Q E hQ=>by
 have go:∀ T,s.TypeIs v T→(Value.type T==Value.type "builtin_function_or_method")=false→d=.typ T→wpAny (model G.prog G.w) Γ.A (call (.type "type") [v]) Q E s:=fun T hT hnb e=>call_type_of hT hnb (hQ _ _ .refl (e ▸ .typ _))
 cases u with
 | str x g=>exact r.asStr.elim fun t q=>go "str" (q.1 ▸ rfl) (by decide) (c7Q h).symm
 | bytes x=>exact r.asBytes.elim fun t q=>go "bytes" (q ▸ PySem.W.typeIs_bytes _ _ _) (by decide) (c7Q h).symm
 | bool x=>exact go "bool" (r.asBool ▸ rfl) (by decide) (c7Q h).symm
 | _=>exact a0e h
theorem b4M {a:PE}{e x:Expr}(hB:GlobsOK G)(C:a1B sc "type" e [x])(hA:EvJ G F lvl sc a x):EvJ G F lvl sc (.typeOf a) e:=fun Γ σ oa s d S h=>by
 refine a0j (show (evE F σ a).bind _ = _ from h) fun u hu h=>?_
 exact ty1 hB rfl C hA S hu fun v s' S' r=>c3g r h
theorem c3h {a b:PE}{e x y:Expr}(hB:GlobsOK G)(C:a1B sc "max" e [x,y])(hA:EvJ G F lvl sc a x)(hA2:EvJ G F lvl sc b y):EvJ G F lvl sc (.max a b) e:=fun Γ σ oa s d S h=>by
 refine a0j (show (evE F σ a).bind _ = _ from h) fun u hu h=>?_
 refine a0j h (clear% h;fun w hw h=>?_)
 refine a0j h (clear% h;fun i hi h=>?_)
 refine a2v h (clear% h;fun j hj Z1=>?_)
 subst Z1
 exact fn2 hB rfl C hA hA2 S hu hw fun v v' s' S' r r'=>c2Q S' r r' hi hj
theorem b0S {o:Expr}{m:Str}{env:Env}{w:Sem Value}(h:b4D o=false):attributeBase o m env w=w:=by
 cases o with
 | Call f es ks p=>
  cases f with
  | Name x q=>
   cases es with
   | nil=>
    cases ks with
    | nil=>exact absurd h.symm c7I
    | cons=>rfl
   | cons=>rfl
  | _=>rfl
 | _=>rfl
theorem a6z {es:List Expr}{env:Env}{pos:Pos}(hs:es.all a0J=true):(backTo pos (starEach es env)).all (fun x=>!x.1)=true:=c8k.mpr fun x hx=>by
 have h1:=List.any_eq_false.mp (a1v (env:=env) (pos:=pos) hs) x hx
 cases hx1:x.1 with
 | true=>exact absurd hx1 h1
 | false=>rfl
theorem a4L {m:Str}{id:String}{e o:Expr}{es:List Expr}(slot:PySem.Slot "str" m id)(ty:typeOf (.builtin id)=pure (.type "method_descriptor"))(C:MCall m e o es)
  {a:PE} (hA:EvJ G F lvl sc a o) (S:St G Γ lvl sc σ oa s) {u:D} {x:Str} (h:evE F σ a=some u) (hx:u.asStr=some x) {Q:Value→Shared→Prop}
  (hQ:∀ t s₁ pos,Af G s s₁→wpAny (model G.prog G.w) Γ.A (spliced (backTo pos (starEach es Γ.env))) (fun vs s₂=>wpAny (model G.prog G.w) Γ.A (call (.builtin id) (.str x t :: vs)) Q E s₂) E s₁) :
  wpAny (model G.prog G.w) Γ.A (eval e Γ.env) Q E s:=by
 obtain⟨⟨apos,pos,rfl,hline⟩,hb,hs,hl⟩:=C
 refine wpAny_Call_method (b0S hb) ?_ hline PySem.F.plainAttrs_str slot ty (hA _ _ _ _ _ S h _ _ fun v s₁ R=>?_)
 ·have hp:=a6z (env:=Γ.env) (pos:=pos) hs
  rw [hp]
  exact c9c (p:=es.length<30) (c7F hl (by decide))
 ·refine (a4B hx).elim fun g Z1=>?_
  subst Z1
  refine (R.rep.asStr).elim fun t Z1=>Z1.elim (fun Z2 _=>?_)
  subst Z2
  exact⟨rfl,nofun,callWith_builtin (a1v hs) (a2O hs (hQ t s₁ pos R.af))⟩
theorem c5J {x:Str}{t:Tok}:RT G Γ σ oa s (.str x t) (.str x):=.deep (.str _ t _ nofun)
theorem c3i {m:Str}{id:String}{e o y:Expr}{a b:PE}{u w d:D}{x:Str}{st:Bool}(slot:PySem.Slot "str" m id)(ty:typeOf (.builtin id)=pure (.type "method_descriptor"))(C:MCall m e o [y])(hA:EvJ G F lvl sc a o)(hB:EvJ G F lvl sc b y)
  (S:St G Γ lvl sc σ oa s) (h:evE F σ a=some u) (hx:u.asStr=some x) (hw:evE F σ b=some w) (k:∀ t v s',St G Γ lvl sc σ oa s'→RT G Γ σ oa s' v w→Does G Γ σ oa (call (.builtin id) [.str x t,v]) s' d):Ev G Γ σ oa st (eval e Γ.env) s d:=fun Q E hQ=>
 a4L slot ty C hA S h hx fun t s₁ pos a₁=>a5r C.star hB (S.af a₁) hw fun v s₂ a₂ r=>(k t v s₂ ((S.af a₁).af a₂) r).then (a₁.trans a₂) hQ
theorem c0C {a b:PE}{e o y:Expr}(C:MCall (Str.ofString "join") e o [y])(hA:EvJ G F lvl sc a o)(hB:EvJ G F lvl sc b y):EvJ G F lvl sc (.join a b) e:=fun Γ σ oa s d S h=>by
 refine a0j (show (evE F σ a).bind _ = _ from h) fun u hu h=>?_
 refine a0j h (clear% h;fun w hw h=>?_)
 refine a0j h (clear% h;fun x hx h=>?_)
 refine a0j h (clear% h;fun l hl h=>?_)
 refine a0j h (clear% h;fun p hp h=>?_)
 refine a0Q h (clear% h;fun hok Z1=>?_)
 subst Z1
 exact c3i PySem.F.slot_str_join PySem.F.type_str_join C hA hB S hu hx hw fun t v s' S' r=>c0n c5J r rfl hl hp hok
theorem b7G {a b:PE}{e o y:Expr}(C:MCall (Str.ofString "split") e o [y])(hA:EvJ G F lvl sc a o)(hB:EvJ G F lvl sc b y):EvJ G F lvl sc (.split a b) e:=fun Γ σ oa s d S h=>by
 refine a0j (show (evE F σ a).bind _ = _ from h) fun u hu h=>?_
 refine a0j h (clear% h;fun w hw h=>?_)
 refine a0j h (clear% h;fun x hx h=>?_)
 refine a0j h (clear% h;fun y hy h=>?_)
 refine a0Q h (clear% h;fun hok Z1=>?_)
 subst Z1
 exact c3i PySem.F.slot_str_split PySem.F.type_str_split C hA hB S hu hx hw fun t v s' S' r=>b7q S' c5J r rfl hy hok
theorem a5J {a:PE}{e o:Expr}{u:D}{x:Str}{st:Bool}(C:MCall (Str.ofString "isascii") e o [])(hA:EvJ G F lvl sc a o)(S:St G Γ lvl sc σ oa s)(h:evE F σ a=some u)(hx:u.asStr=some x):Ev G Γ σ oa st (eval e Γ.env) s (.bool (Txt.isascii x)):=fun Q E hQ=>
 a4L PySem.F.slot_str_isascii PySem.F.type_str_isascii C hA S h hx fun t s₁ pos a₁=>c9d ((b2R (a:=.str x) (σ:=σ) (oa:=oa) c5J rfl).then a₁ hQ)
theorem b3c {a:PE}{e o:Expr}(C:MCall (Str.ofString "isascii") e o [])(hA:EvJ G F lvl sc a o):EvJ G F lvl sc (.isascii a) e:=fun Γ σ oa s d S h=>by
 refine a0j (show (evE F σ a).bind _ = _ from h) fun u hu h=>?_
 refine a2v h (clear% h;fun x hx Z1=>?_)
 subst Z1
 exact a5J C hA S hu hx
end
end
section
section
variable {G:GC}{F:Fns}{lvl:Nat}{Γ:Ctx}{sc names:a0h}{σ σ₀ σ':Store}{oa:Nat→Addr}{s s':Shared}{d:D}{E:Value→Shared→Prop}
theorem c3j {c:PE}(h:c.pv.isStr=true):∃ z,c=.str z:=by
 cases hv:c.pv with
 | str z=>exact⟨z,a7h hv⟩
 | _=>rw [hv] at h;exact absurd h c7I
theorem c3k {b:PE}{g:Bool}(h:b.pv.okOld g=true):(∃ z,b=.str z)∨∃ z,b=.var z∧g=true:=by
 cases hv:b.pv with
 | str z=>exact .inl ⟨z,a7h hv⟩
 | var z=>rw [hv] at h;exact .inr ⟨z,a7h hv,h⟩
 | _=>rw [hv] at h;exact absurd h c7I
theorem b4N {b c:PE}{x y:Expr}{v w:D}{z:Str}{q:Str×Bool}{pos:Pos}(hs:[x,y].all a0J=true)(S:St G Γ lvl sc σ oa s)(hr:b4g b c q.2=true)(mb:mE G.nm sc b x=true)(mc:mE G.nm sc c y=true)
  (hv:evE F σ b=some v) (hw:evE F σ c=some w) (hq:v.strG=some q) (hz:w.asStr=some z) {Q:List Value→Shared→Prop}
  (hQ:∀ t u s',Af G s s'→t≠0→u≠0→t≠u→Q [.str q.1 t,.str z u] s'):wpAny (model G.prog G.w) Γ.A (spliced (backTo pos (starEach [x,y] Γ.env))) Q E s:=by
 refine a0b hr (clear% hr;fun h1 h2=>?_)
 refine a0b hs (clear% hs;fun hs1 hs2=>?_)
 refine (c3j h1).elim fun zc Z1=>?_
 subst Z1
 refine (a4e mc).elim fun ky Z1=>Z1.elim (fun py Z2=>?_)
 subst Z2
 cases c7Q (show some (D.str zc)=some w from hw)
 cases c7Q (show some zc=some z from hz)
 have last:∀ t (s₁:Shared),Af G s s₁→t≠0→t<s₁.toks→wpAny (model G.prog G.w) Γ.A (spliced (backTo pos (starEach [.Constant (.str z) ky py] Γ.env))) (fun vs s₂=>Q (.str q.1 t :: vs) s₂) E s₁:=fun t s₁ a ht hlt=>
  c9e (wpAny_Constant_str (c9d (hQ t s₁.toks _ (a.kf (Kf.tok (c7T _))) ht (Nat.ne_of_gt a.gst.tok) (c8A hlt)))) (a0s (a0i hs2).1)
 rcases c3k h2 with⟨zb,rfl⟩ | ⟨zb,rfl,hg⟩
 ·refine (a4e mb).elim fun kx Z1=>Z1.elim (fun px Z2=>?_)
  subst Z2
  cases c7Q (show some (D.str zb)=some v from hv)
  have hq:(zb,false)=q:=c7Q hq
  refine c9e (wpAny_Constant_str ?_) (a0s hs1)
  have h:=last s.toks { s with toks:=s.toks+1 } (S.afR.kf (Kf.tok (c7T _))) (Nat.ne_of_gt S.gst.tok) (c8r _)
  rw [← hq] at h
  exact h
 ·refine a0b mb (clear% mb;fun hn hok=>?_)
  refine a0b hok (clear% hok;fun k1 k2=>?_)
  rw [a1r hn]
  refine a0j (show (σ.get zb).bind _ = _ from hv) fun sl hx hd=>?_
  refine c9e (c8I (S.read hx (fun vv sv=>?_) (a2w k2)) (a2w k1)) (a0s rfl)
  have r:=(a9x S hx hd sv).1
  rw [a3P hq] at r
  refine (r.asStr).elim fun t Z1=>Z1.elim (fun Z2 ht=>?_)
  subst Z2
  exact last t s S.afR (ht hg).1 (ht hg).2
theorem b3d {a b c:PE}{e o x y:Expr}(C:MCall (Str.ofString "replace") e o [x,y])(hA:EvJ G F lvl sc a o)(mb:mE G.nm sc b x=true)(mc:mE G.nm sc c y=true):EvJ G F lvl sc (.replace a b c) e:=fun Γ σ oa s d S h Q E hQ=>by
 refine a0j (show (evE F σ a).bind _ = _ from h) fun u hu h=>?_
 refine a0j h (clear% h;fun v hv h=>?_)
 refine a0j h (clear% h;fun w hw h=>?_)
 refine a0j h (clear% h;fun p hp h=>?_)
 refine a0j h (clear% h;fun q hq h=>?_)
 refine a0j h (clear% h;fun z hz h=>?_)
 refine a0Q h (clear% h;fun hok Z1=>?_)
 subst Z1
 refine a0b hok (clear% hok;fun hok hln=>?_)
 refine a0b hok (clear% hok;fun hr hne=>?_)
 exact a4L PySem.F.slot_str_replace PySem.F.type_str_replace C hA S hu hp fun t s₁ pos a₁=>b4N C.star (S.af a₁) hr mb mc hv hw hq hz fun t' u' s₂ a₂ h1 h2 h3=>(b2Q h1 h2 h3 hne hln).then (a₁.trans a₂) hQ
theorem b7H {e:Expr}(h:b0Q e=true):(∃ p,e=.FormattedValue (b4G e) (-1) none p)∨(b4G e=e∧∃ z k p,e=.Constant (.str z) k p):=by
 rcases or2 h with h | h
 ·refine a0b h (clear% h;fun h h3=>?_)
  refine a0b h (clear% h;fun h1 h2=>?_)
  have e1:e=.FormattedValue (vw e).a (vw e).i (vw e).st (vw e).pos:=a0A h1
  rw [c8d h2,c8W.mp h3] at e1
  exact .inl ⟨_,e1.trans (c7H (Expr.FormattedValue · _ _ _) (c7K h1).symm)⟩
 ·refine a0b h (clear% h;fun h1 h2=>?_)
  have e1:e=.Constant (vw e).k (vw e).n (vw e).pos:=a0A h1
  refine .inr ⟨c7M fun q=>?_,?_⟩
  ·exact absurd ((c7X h1).symm.trans (c7X q)) nofun
  ·cases hk:(vw e).k with
   | str z=>exact⟨z,_,_,hk ▸ e1⟩
   | _=>rw [hk] at h2;exact absurd h2 c7I
theorem c3l:PsJ G F lvl sc .nil []:=fun Γ σ oa s ds p S h hp acc Q E _ hQ=>by
 cases c7Q (show some []=some ds from h)
 cases a1u hp
 exact hQ s S.afR
theorem c0D {pe:PE}{pes:PEs}{e:Expr}{es:List Expr}(hx:b0Q e=true)(hE:EvJ G F lvl sc pe (b4G e))(hR:PsJ G F lvl sc pes es):PsJ G F lvl sc (.cons pe pes) (e :: es):=fun Γ σ oa s ds p S h hp acc Q E hle hQ=>by
 refine (a0P (show grd _ _ = _ from h)).elim fun _ h=>?_
 refine a0j h (clear% h;fun d hd h=>?_)
 refine a2v h (clear% h;fun ds' hds Z1=>?_)
 subst Z1
 obtain⟨y,p',hy,hp',rfl⟩:=a3R hp
 rw [c9g,c8y,← Nat.add_assoc] at hle
 have hlen:(acc++y).length=acc.length+y.length:=strLen_append ..
 have h1:(acc++y).length≤16777216:=hlen ▸ c7O (c8p ..) hle
 have fin:∀ t (s₁:Shared),Af G s s₁→∃ z t',Value.str y t=.str z t'∧(acc++z).length≤sizeLine∧Joins (model G.prog G.w) Γ.A E (evalEach es Γ.env) (acc++z) Q s₁:=fun t s₁ a₁=>
  ⟨y,t,rfl,c7V ▸ h1,hR _ _ _ _ _ _ (S.af a₁) hds hp' _ _ _ (hlen.symm ▸ hle) fun s' a=>hQ s' (a₁.trans a)⟩
 show wpAny _ _ (eval e Γ.env) _ _ s
 refine (a4B hy).elim fun g Z1=>?_
 subst Z1
 rcases b7H hx with⟨p,e1⟩ | ⟨e1,z,k,p,e2⟩
 ·rw [e1]
  refine wpAny_FormattedValue_plain (hE _ _ _ _ _ S hd _ _ fun v s₁ R=>?_)
  refine (R.rep.asStr).elim fun t Z1=>Z1.elim (fun Z2 _=>?_)
  subst Z2
  exact wpAny_formatField_str (fin _ _ R.af) (fin _ _ (R.af.kf (Kf.tok (c7T _)))) (c7O (c7O (Nat.le_add_left ..) (hlen ▸ h1)) (by decide))
 ·rw [e1] at hE
  exact hE _ _ _ _ _ S hd _ _ fun v s₁ R=>R.rep.asStr.elim fun t q=>q.1 ▸ fin _ _ R.af
theorem b7I (l:List Str)(acc:Str):(l.foldl (·++·) acc).length=acc.length+(l.map (·.length)).sum:=by
 induction l generalizing acc with
 | nil=>rfl
 | cons z l ih=>rw [c9h,ih,c9g,c8y,strLen_append,Nat.add_assoc]
theorem c0E {pes:PEs}{x y:Expr}{r:List Expr}{p:Pos}(hP:PsJ G F lvl sc pes (x :: y :: r)):EvJ G F lvl sc (.fstr pes) (.JoinedStr (x :: y :: r) p):=fun Γ σ oa s d S h Q E hQ=>by
 refine a0j (show (a3i F σ pes).bind _ = _ from h) fun l hl h=>?_
 refine a0j h (clear% h;fun ps hps h=>?_)
 refine a0Q h (clear% h;fun hok Z1=>?_)
 subst Z1
 have e:Str.empty.length+(ps.map (·.length)).sum=(ps.map (·.length)).sum:=c9a _
 refine wpAny_JoinedStr (hP _ _ _ _ _ _ S hl hps Str.empty _ _ (e.symm ▸ a2g hok) fun s' a=>⟨?_,hQ _ _ (.of (a.kf (Kf.tok (c7T _))) (.str _ _ _ nofun))⟩)
 rw [b7I,e]
 exact a0H hok
end
end
section
noncomputable def BsJ (G:GC)(F:Fns)(lvl:Nat)(sc:a0h)(op:BoolOp)(pes:PEs)(es:List Expr):Prop:=∀ (Γ:Ctx) (σ:Store) (oa:Nat→Addr) (s:Shared) (b:Bool),St G Γ lvl sc σ oa s→(match op with
  | .And=>c0d F σ pes
  | .Or=>c5B F σ pes)=some b→Tr G Γ.A (allTrue op es Γ.env) s b
section
variable {G:GC}{F:Fns}{lvl:Nat}{Γ:Ctx}{sc names:a0h}{σ σ₀ σ':Store}{oa:Nat→Addr}{s s₁ s':Shared}{E:Value→Shared→Prop}
theorem Tr.then {m:Sem Bool}{q:Bool}{Q:Bool→Shared→Prop}(h:Tr G Γ.A m s₁ q)(a:Af G s s₁)(hQ:∀ s',Af G s s'→Q q s'):wpAny (model G.prog G.w) Γ.A m Q E s₁:=h Q E fun s' b=>hQ s' (a.trans b)
theorem c3m {a:PE}{x:Expr}{p:Pos}(hA:TsJ G F lvl sc a x):TsJ G F lvl sc (.not a) (.UnaryOp .Not x p):=fun Γ σ oa s b S h Q E hQ=>by
 refine a2v (show (evT F σ a).map _ = _ from h) fun q hq Z1=>?_
 subst Z1
 exact wpAny_isTrue_Not (hA _ _ _ _ _ S hq _ _ fun s' a=>hQ s' a)
theorem c3n {t a b:PE}{t' a' b':Expr}{p:Pos}(hT:TsJ G F lvl sc t t')(hA:TsJ G F lvl sc a a')(hB:TsJ G F lvl sc b b'):TsJ G F lvl sc (.ite t a b) (.IfExp t' a' b' p):=fun Γ σ oa s b S h Q E hQ=>by
 refine a0j (show (evT F σ t).bind _ = _ from h) fun q hq h=>?_
 rw [arm_isTrue_IfExp]
 refine c8e (hT _ _ _ _ _ S hq _ _ fun s₁ a₁=>?_)
 cases q with
 | true=>exact (hA _ _ _ _ _ (S.af a₁) h).then a₁ hQ
 | false=>exact (hB _ _ _ _ _ (S.af a₁) h).then a₁ hQ
theorem c3o {op:BoolOp}:BsJ G F lvl sc op .nil []:=fun Γ σ oa s b S h Q E hQ=>by
 cases op with
 | And=>exact wpAny_allTrue_And_nil (c7Q (show some true=some b from h) ▸ hQ s S.afR)
 | Or=>exact wpAny_allTrue_Or_nil (c7Q (show some false=some b from h) ▸ hQ s S.afR)
theorem c0F {op:BoolOp}{pe:PE}{pes:PEs}{e:Expr}{es:List Expr}(hE:TsJ G F lvl sc pe e)(hR:BsJ G F lvl sc op pes es):BsJ G F lvl sc op (.cons pe pes) (e :: es):=fun Γ σ oa s b S h Q E hQ=>by
 cases op with
 | And=>
  refine a0j (show (evT F σ pe).bind _ = _ from h) fun q hq h=>?_
  refine wpAny_allTrue_And_cons (hE _ _ _ _ _ S hq _ _ fun s₁ a₁=>?_)
  cases q with
  | true=>exact (hR _ _ _ _ _ (S.af a₁) h).then a₁ hQ
  | false=>exact (c7Q (show some false=some b from h) ▸ hQ _ a₁:Q false s₁)
 | Or=>
  refine a0j (show (evT F σ pe).bind _ = _ from h) fun q hq h=>?_
  refine wpAny_allTrue_Or_cons (hE _ _ _ _ _ S hq _ _ fun s₁ a₁=>?_)
  cases q with
  | true=>exact (c7Q (show some true=some b from h) ▸ hQ _ a₁:Q true s₁)
  | false=>exact (hR _ _ _ _ _ (S.af a₁) h).then a₁ hQ
theorem c3p {pes:PEs}{es:List Expr}{p:Pos}(hA:BsJ G F lvl sc .And pes es):TsJ G F lvl sc (.and pes) (.BoolOp .And es p):=fun Γ σ oa s b S h Q E hQ=>wpAny_isTrue_BoolOp (hA _ _ _ _ _ S h _ _ hQ)
theorem c5K {pes:PEs}{es:List Expr}{p:Pos}(hA:BsJ G F lvl sc .Or pes es):TsJ G F lvl sc (.or pes) (.BoolOp .Or es p):=fun Γ σ oa s b S h Q E hQ=>wpAny_isTrue_BoolOp (hA _ _ _ _ _ S h _ _ hQ)
theorem c3q {op:CmpOp}{a b:PE}{l r:Expr}{p:Pos}(hA:EvJ G F lvl sc a l)(hB:EvJ G F lvl sc b r)(hm:behindInMarks op r=false):TsJ G F lvl sc (.cmp op a b) (.Compare l [op] [r] p):=fun Γ σ oa s q S h Q E hQ=>by
 refine a0j (show (evE F σ a).bind _ = _ from h) fun x hx h=>?_
 refine a0j h (clear% h;fun y hy h=>?_)
 exact wpAny_isTrue_Compare1 (two S hA hB hx hy fun v w s' a r1 r2=>b1K S.aok.units r1 r2 h _ _ fun s₃ k=>c7Y (n:=s₃.toks) (c7G _) (c8g fun ht=>hQ _ (a.kf k))) hm
theorem c0G {op op':CmpOp}{a b c:PE}{l m r:Expr}{p:Pos}(hA:EvJ G F lvl sc a l)(hB:EvJ G F lvl sc b m)(hC:EvJ G F lvl sc c r)(hm:lastMarks [op,op'] [m,r]=false):TsJ G F lvl sc (.cmp2 a op b op' c) (.Compare l [op,op'] [m,r] p):=fun Γ σ oa s q S h Q E hQ=>by
 refine a0j (show (evE F σ a).bind _ = _ from h) fun x hx h=>?_
 refine a0j h (clear% h;fun y hy h=>?_)
 refine a0j h (clear% h;fun t ht h=>?_)
 refine isTrue_chain (hA _ _ _ _ _ S hx _ _ fun v s₁ R=>?_) hm
 have S₁:=S.af R.af
 refine test_link (hB _ _ _ _ _ S₁ hy _ _ fun w s₂ R₂=>b1K S.aok.units (RepT.kp S₁ R.rep R₂.af.kp) R₂.rep ht _ _ fun s₃ k₃=>c8g ?_)
 have S₃:=(S₁.af R₂.af).kf k₃
 have a₃:=(R.af.trans R₂.af).kf k₃
 cases t with
 | false=>exact (c7Q (show some false=some q from h) ▸ hQ _ a₃:Q false s₃)
 | true=>
  refine a0j (show (evE F σ c).bind _ = _ from h) fun z hz h=>?_
  exact test_last (hC _ _ _ _ _ S₃ hz _ _ fun u s₄ R₄=>b1K S.aok.units (RepT.kp S₃ (RepT.kp (S₁.af R₂.af) R₂.rep k₃.kp) R₄.af.kp) R₄.rep h _ _ fun s' k=>c8g (hQ _ ((a₃.trans R₄.af).kf k)))
theorem c0H {b:Bool}{k:Nat}{p:Pos}:TsJ G F lvl sc (.bool b) (.Constant (.bool b) k p):=fun Γ σ oa s q S h Q E hQ=>
 wpAny_isTrue_value (wpAny_Constant_bool (c8g (c7Q (show some b=some q from h) ▸ hQ s S.afR)))
theorem a4M {e:Expr}{q:Bool}{d:D}{st:Bool}(he:PySem.isTrue e Γ.env (eval e Γ.env)=(do let v ← eval e Γ.env;standAt e.pos;holding [v] (truthy v)))
  (h:Ev G Γ σ oa st (eval e Γ.env) s d) (ht:a7s d=some q):Tr G Γ.A (PySem.isTrue e Γ.env (eval e Γ.env)) s q:=fun Q E hQ=>
 wpAny_isTrue_value (h _ E fun v s₁ R=>b7l R.rep ht _ _ fun s' kf=>hQ s' (R.af.kf kf)) he
theorem b3e {sl:Slot}{d:D}(h:sl.asTop=some d):sl.read=some d:=by
 cases sl with
 | val d=>exact h
 | own l=>exact h
 | ownD kv=>exact a0e h
 | meth y=>exact a0e h
theorem c0I {x:Nat}{p:Pos}(hk:b0O (G.nm x)=true):TsJ G F lvl sc (.var x) (.Name (G.nm x) p):=fun Γ σ oa s q S h=>by
 refine a0j (show (σ.get x).bind _ = _ from h) fun sl hx h=>?_
 refine a0j h (clear% h;fun d hd ht=>?_)
 exact a4M rfl (b4K (F:=F) hk _ _ _ _ _ S (show (σ.get x).bind _ = _ from hx ▸ b3e hd)) ht
theorem c0J {f:Nat}{args:PEs}{kw:PO}{e:Expr}{es:List Expr}{ks:List Keyword}(hF:FOK G F lvl)(C:GCall sc (G.nm f) e es ks)(hA:a5q G F lvl sc args es)(hK:KwJ G F lvl sc kw ks):TsJ G F lvl sc (.call f args kw) e:=fun Γ σ oa s b S h=>by
 refine a0j (show (a3i F σ args).bind _ = _ from h) fun as ha h=>?_
 refine a0j h (clear% h;fun k hk h=>?_)
 refine a0j h (clear% h;fun d hf ht=>?_)
 exact a4M (st:=true) (C.eq.elim fun p q=>q.elim fun q e=>e ▸ rfl) (b0R hF C hA hK S ha hk hf) ht
theorem c3r {a i:PE}{v' i':Expr}{p:Pos}(hA:EvJ G F lvl sc a v')(hB:EvJ G F lvl sc i i'):TsJ G F lvl sc (.idx a i) (.Subscript v' i' p):=fun Γ σ oa s b S h=>by
 refine a0j (show (evE F σ a).bind _ = _ from h) fun x hx h=>?_
 refine a0j h (clear% h;fun y hy h=>?_)
 refine a0j h (clear% h;fun d hd ht=>?_)
 exact a4M rfl (b4L hA hB _ _ _ _ _ S (show (evE F σ a).bind _ = _ by rw [hx];show (evE F σ i).bind _ = _;rw [hy];exact hd)) ht
theorem b3f {a:PE}{e o:Expr}(C:MCall (Str.ofString "isascii") e o [])(hA:EvJ G F lvl sc a o):TsJ G F lvl sc (.isascii a) e:=fun Γ σ oa s b S h=>by
 refine a0j (show (evE F σ a).bind _ = _ from h) fun u hu h=>?_
 refine a2v h (clear% h;fun x hx Z1=>?_)
 subst Z1
 exact a4M (st:=true) (C.eq.elim fun p q=>q.elim fun q e=>e.1 ▸ rfl) (a5J C hA S hu hx) rfl
theorem b7J {a:PE}{e x y:Expr}(hB:GlobsOK G)(C:a1B sc "isinstance" e [x,y])(hA:EvJ G F lvl sc a x)(hy:c0u sc "str" y=true):TsJ G F lvl sc (.isStr a) e:=fun Γ σ oa s b S h=>by
 refine a0j (show (evE F σ a).bind _ = _ from h) fun u hu h=>?_
 refine a2v h (clear% h;fun z hz Z1=>?_)
 subst Z1
 refine (a8o hy).elim fun Z1 hg'=>Z1.elim (fun p' Z2=>?_)
 subst Z2
 refine a4M (st:=true) (d:=.bool true) (C.eq.elim fun p q=>q.elim fun q e=>e ▸ rfl) (fn2 hB rfl C hA (b9y (F:=F) (n:="str") hB hg' (by decide)) S hu rfl fun v w s₁ S₁ r r₂=>?_) rfl
 rw [r₂.asTyp]
 exact r.strP (P:=fun v=>Does G Γ σ oa (call (.builtin "isinstance") [v,.type "str"]) s₁ (.bool true)) hz fun t Q E hQ=>IsiPair.str_str (hQ _ _ .refl (.bool _))
theorem c0K:b6Y G F lvl sc .nil []:=fun Γ σ oa s b S h Q E hQ=>c8f (c7Q (show some true=some b from h) ▸ hQ s S.afR)
theorem b4O {es:List Expr}{env:Env}{Q:Bool→Shared→Prop}{A:Around}(h:Q false s):wpAny (model G.prog G.w) A (forIn es false fun c r=>if r=true then do let ok ← PySem.isTrue c env (eval c env);pure (ForInStep.yield ok) else pure (ForInStep.yield r)) Q E s:=by
 induction es with
 | nil=>exact c8f h
 | cons e r ih=>rw [List.forIn_cons];exact c8e (c8f ih)
theorem b7K {pe:PE}{pes:PEs}{e:Expr}{es:List Expr}(hE:TsJ G F lvl sc pe e)(hR:b6Y G F lvl sc pes es):b6Y G F lvl sc (.cons pe pes) (e :: es):=fun Γ σ oa s b S h Q E hQ=>by
 refine a0j (show (evT F σ pe).bind _ = _ from h) fun q hq h=>?_
 unfold c5j
 rw [List.forIn_cons]
 refine c8e (c8e (hE _ _ _ _ _ S hq _ _ fun s₁ a₁=>c8f ?_))
 cases q with
 | true=>exact (hR _ _ _ _ _ (S.af a₁) h).then a₁ hQ
 | false=>exact b4O (c7Q (show some false=some b from h) ▸ hQ _ a₁)
end
end
section
section
variable {G:GC}{F:Fns}{lvl:Nat}{Γ:Ctx}{sc names:a0h}{σ σ₀ σ':Store}{oa:Nat→Addr}{s s₁ s':Shared}{v:Value}{d:D}{E:Value→Shared→Prop}
theorem Wk.re {st st':Bool}{ds:List D}{s₀ s₁ s₂:Shared}{I:Addr}{fp:List Addr}{P:Nat→Nat→Value→Prop}{Stt:Nat→Heap→Prop}(W:Wk G Γ σ oa st ds s₁ s₂ I fp P Stt)(k:Kp G s₀ s₁)(hst:st'=true→st=true):Wk G Γ σ oa st' ds s₀ s₂ I fp P Stt:=
 { W with
  strict:=fun q=>W.strict (hst q)
  newI:=⟨a7u k (W.old I W.fpI).2 W.newI.1,W.newI.2⟩ }
theorem Rep.notBad (h:RD G Γ σ oa s v d){ds:List D}(hd:a5S d=some ds):∀ a,v=.ref a→¬ Γ.bad a:=fun a e q=>by
 have go:∀ {P:Addr→Prop},(∃ a',v=.ref a'∧¬ a0k Γ σ oa a')→False:=fun h=>h.elim fun a' h=>h.2 (by
  have e':=h.1.symm.trans e
  injection e' with e'
  exact e' ▸ .inl q)
 rcases a0I hd with hd | hd
 ·rw [a2i hd] at h
  exact go (P:=fun _=>True) (h.view.elim fun a q=>q.elim fun _ q=>⟨a,q.1,q.2.1⟩)
 rcases a0I hd with hd | hd
 ·rw [a2m hd] at h
  exact go (P:=fun _=>True) (h.view.elim fun a q=>q.elim fun _ q=>⟨a,q.1,q.2.1⟩)
 rcases a0I hd with hd | hd
 ·refine a0j hd (clear% hd;fun x hx _=>?_)
  exact RepT.strP (P:=fun v=>v=.ref a→False) (.deep h) hx (fun t=>nofun) e
 ·refine a2v hd (clear% hd;fun x hx _=>?_)
  exact RepT.bytesP (P:=fun v=>v=.ref a→False) (.deep h) hx (fun t=>nofun) e
theorem Iter.then {st st':Bool}{ds:List D}(h:Iter G Γ σ oa st ds s₁ s₁ v)(a:Af G s s₁)(hst:st'=true→st=true){Q:Value→Shared→Prop}(hQ:∀ I fp P Stt s',Af G s s'→Wk G Γ σ oa st' ds s s' I fp P Stt→Q (.ref I) s'):wpAny (model G.prog G.w) Γ.A (pyIter v) Q E s₁:=
 h Q E fun I fp P Stt s' k W=>hQ I fp P Stt s' (a.kf k) (W.re a.kp hst)
theorem a6e {e:Expr}{ds:List D}{st:Bool}(S:St G Γ lvl sc σ oa s)(h:Ev G Γ σ oa true (eval e Γ.env) s d)(hi:a5S d=some ds):It G Γ σ oa st e s ds:=fun Q E hQ=>
 h _ E fun v s₁ R=>(b0M (st:=true) (S.af R.af) R.rep R.deep (Rep.notBad (R.deep rfl) hi) hi).then R.af (fun _=>rfl) hQ
theorem c0L {x:Nat}{p:Pos}(hk:b0O (G.nm x)=true):a3p G F lvl sc (.var x) (.Name (G.nm x) p):=fun Γ σ oa s ds S h Q E hQ=>by
 refine a0b hk (clear% hk;fun k1 k2=>?_)
 refine a0j (show (σ.get x).bind _ = _ from h) fun sl hx h=>?_
 refine a0j h (clear% h;fun d hd hi=>?_)
 refine c8I (S.read hx (fun v sv=>?_) (a2w k2)) (a2w k1)
 cases sl with
 | val d'=>
  cases c7Q hd
  exact (b0M (st:=true) S (.deep sv) (fun _=>sv) (Rep.notBad (s:=s) sv hi) hi).then S.afR (fun _=>rfl) hQ
 | own l=>
  cases c7Q hd
  obtain⟨rfl,vs,hp,r⟩:=sv
  refine (b0M (st:=false) S (.list hp.isList r) nofun (fun a e=>?_) hi).then S.afR (fun q=>?_) hQ
  ·injection e with e
   exact e ▸ S.ownBad x (a1e hx)
  ·have q:((σ.get x).bind Slot.asVal).isSome=true:=q
   rw [hx] at q
   exact absurd q c7I
 | ownD kv=>exact a0e hd
 | meth y=>exact a0e hd
theorem c3s {a i:PE}{v' i':Expr}{p:Pos}(hA:EvJ G F lvl sc a v')(hB:EvJ G F lvl sc i i'):a3p G F lvl sc (.idx a i) (.Subscript v' i' p):=fun Γ σ oa s ds S h=>by
 refine a0j (show (evE F σ a).bind _ = _ from h) fun x hx h=>?_
 refine a0j h (clear% h;fun y hy h=>?_)
 refine a0j h (clear% h;fun d hd hi=>?_)
 exact a6e S (b4L hA hB _ _ _ _ _ S (show (evE F σ a).bind _ = _ by rw [hx];show (evE F σ i).bind _ = _;rw [hy];exact hd)) hi
theorem b7L {a:PE}{lo hi:PO}{v':Expr}{l u:Option Expr}{p q:Pos}(hA:EvJ G F lvl sc a v')(hL:a8q G F lvl sc lo l)(hU:a8q G F lvl sc hi u):a3p G F lvl sc (.slice a lo hi) (.Subscript v' (.Slice l u none q) p):=fun Γ σ oa s ds S h=>by
 refine a0j (show (evE F σ a).bind _ = _ from h) fun x hx h=>?_
 refine a0j h (clear% h;fun lo' hlo h=>?_)
 refine a0j h (clear% h;fun i hi1 h=>?_)
 refine a0j h (clear% h;fun hi' hhi h=>?_)
 refine a0j h (clear% h;fun j hj1 h=>?_)
 refine a0j h (clear% h;fun d hd hit=>?_)
 refine a6e S (b1R hA hL hU _ _ _ _ _ S ?_) hit
 show (evE F σ a).bind _ = _
 rw [hx]
 show (evO F σ lo).bind _ = _
 rw [hlo]
 show (a3u lo').bind _ = _
 rw [hi1]
 show (evO F σ hi).bind _ = _
 rw [hhi]
 show (a3u hi').bind _ = _
 rw [hj1]
 exact hd
theorem c0M {f:Nat}{args:PEs}{kw:PO}{e:Expr}{es:List Expr}{ks:List Keyword}(hF:FOK G F lvl)(C:GCall sc (G.nm f) e es ks)(hA:a5q G F lvl sc args es)(hK:KwJ G F lvl sc kw ks):a3p G F lvl sc (.call f args kw) e:=fun Γ σ oa s ds S h=>by
 refine a0j (show (a3i F σ args).bind _ = _ from h) fun as ha h=>?_
 refine a0j h (clear% h;fun k hk h=>?_)
 refine a0j h (clear% h;fun d hf hit=>?_)
 exact a6e S (b0R hF C hA hK S ha hk hf) hit
theorem a7i (a b:Int):Builtin.Range.rangeSize a b 1=((b - a).toNat:Nat):=by
 rw [rangeSize_one]
 split <;> lia
structure RangeOk (a b c:Int)(ds:List D)(n:Nat):Prop where
 step:c=1∨c=-1
 size:Builtin.Range.rangeSize a b c=n
 small:Builtin.Range.small a b c=true
 eq:((List.range n).map fun (i:Nat)=>D.int (a+i*c))=ds
theorem a4m {a b c:Int}{ds:List D}(h:a6r a b c=some ds):∃ n,RangeOk a b c ds n:=by
 refine (a0P h).elim fun hc h=>?_
 refine a0b hc (clear% hc;fun hc h4=>?_)
 refine a0b hc (clear% hc;fun hc h3=>?_)
 refine a0b hc (clear% hc;fun h1 h2=>?_)
 have h1:=c7X h1
 have h2:=c7X h2
 have h3:=c7X h3
 have h4:=c7X h4
 by_cases hc1:c=1
 ·rw [c7K hc1] at h
  rw [hc1]
  refine⟨_,.inl rfl,a7i a b,small_one (by lia) (by lia) (by lia) (by lia),(c7H (fun f=>List.map f _) (funext fun i=>?_)).trans (c7Q h)⟩
  rw [Int.mul_one]
 ·rw [c7M hc1] at h
  by_cases hc2:c=-1∧a=9∧b=5
  ·rw [c7K hc2] at h
   obtain⟨hc,ha,hb⟩:=hc2
   rw [hc,ha,hb]
   exact⟨4,.inr rfl,by kernel_rfl,by kernel_rfl,c7Q h⟩
  ·rw [c7M hc2] at h
   exact a0e h
theorem a8r (S:St G Γ lvl sc σ oa s₁)(a:Af G s s₁){i j k:Int}{t u w:Tok}{tk:Nat}(ht:s₁.toks≤tk){ds:List D}{st:Bool}(h:a6r i j k=some ds){Q:Value→Shared→Prop}(hQ:∀ I fp P Stt s',Af G s s'→Wk G Γ σ oa st ds s s' I fp P Stt→Q (.ref I) s') :
  wpAny (model G.prog G.w) Γ.A (pyIter (.ref s₁.heap.objs.size)) Q E { s₁ with heap:=s₁.heap.push { cls:=.type "range",data:=.fields #[.int i t,.int j u,.int k w] },toks:=tk }:=by
 refine (a4m h).elim fun n R=>?_
 rw [← R.eq] at hQ
 have kf:Kf s₁ { s₁ with heap:=s₁.heap.push { cls:=.type "range",data:=.fields #[.int i t,.int j u,.int k w] },toks:=tk }:=Kf.push ht
 exact b2U (S.kf kf) (a.kp.kf kf) (IsRange.new _ _ _ _ _ _ _) R.size R.small _ _ fun I fp P Stt s' k' W=>hQ I fp P Stt s' ((a.kf kf).kf k') W
theorem b4P {a:PE}{e x:Expr}(hB:GlobsOK G)(C:a1B sc "range" e [x])(hA:EvJ G F lvl sc a x):a3p G F lvl sc (.range1 a) e:=fun Γ σ oa s ds S h Q E hQ=>by
 refine a0j (show (evE F σ a).bind _ = _ from h) fun u hu h=>?_
 refine a0j h (clear% h;fun i hi h=>?_)
 obtain⟨⟨p,q,rfl⟩,h1,h2,h3⟩:=C
 refine a2n S h1 (hB.types "range" (by decide)) h2 h3 (a5r h3 hA S hu fun v s₁ a₁ r=>?_)
 exact r.intP (P:=fun v=>wpAny _ _ (call (.type "range") [v]) _ E s₁) hi fun t=>call_range_1 (a8r (S.af a₁) a₁ (c8p _ 2) h hQ)
theorem b4Q {a b:PE}{e x y:Expr}(hB:GlobsOK G)(C:a1B sc "range" e [x,y])(hA:EvJ G F lvl sc a x)(hA2:EvJ G F lvl sc b y):a3p G F lvl sc (.range2 a b) e:=fun Γ σ oa s ds S h Q E hQ=>by
 refine a0j (show (evE F σ a).bind _ = _ from h) fun u hu h=>?_
 refine a0j h (clear% h;fun w hw h=>?_)
 refine a0j h (clear% h;fun i hi h=>?_)
 refine a0j h (clear% h;fun j hj h=>?_)
 obtain⟨⟨p,q,rfl⟩,h1,h2,h3⟩:=C
 refine a2n S h1 (hB.types "range" (by decide)) h2 h3 (a6d h3 hA hA2 S hu hw fun v v' s₁ a₁ r r'=>?_)
 exact RepT.ii (fun v v'=>wpAny _ _ (call (.type "range") [v,v']) _ E s₁) r r' hi hj fun t t'=>call_range_2 (a8r (S.af a₁) a₁ (c8p _ 1) h hQ)
theorem b4R {a b c:PE}{e x y z:Expr}(hB:GlobsOK G)(C:a1B sc "range" e [x,y,z])(hA:EvJ G F lvl sc a x)(hA2:EvJ G F lvl sc b y)(hA3:EvJ G F lvl sc c z):a3p G F lvl sc (.range3 a b c) e:=fun Γ σ oa s ds S h Q E hQ=>by
 refine a0j (show (evE F σ a).bind _ = _ from h) fun u hu h=>?_
 refine a0j h (clear% h;fun w hw h=>?_)
 refine a0j h (clear% h;fun o ho h=>?_)
 refine a0j h (clear% h;fun i hi h=>?_)
 refine a0j h (clear% h;fun j hj h=>?_)
 refine a0j h (clear% h;fun k hk h=>?_)
 obtain⟨⟨p,q,rfl⟩,h1,h2,h3⟩:=C
 refine (a4m h).elim fun n R=>?_
 have hk0:=R.step
 refine a2n S h1 (hB.types "range" (by decide)) h2 h3 (b3a h3 hA hA2 hA3 S hu hw ho fun v v' v'' s₁ a₁ r r' r''=>?_)
 exact RepT.ii (fun v v'=>wpAny _ _ (call (.type "range") [v,v',v'']) _ E s₁) r r' hi hj fun t t'=>r''.intP (P:=fun v''=>wpAny _ _ (call (.type "range") [_,_,v'']) _ E s₁) hk fun t''=>
  call_range_3 (by lia) (a8r (S.af a₁) a₁ (c7G _) h hQ) (Or.inl (PyProof.noPylong_small (by lia)))
theorem CompOut.done {Dd C:Addr}{r:List D}{h':Heap}(S:St G Γ lvl sc σ oa s)(O:CompOut G Γ σ oa s s' Dd C r)(k:∀ b o,b≠C→s'.heap.get? b=some o→h'.get? b=some o):Af G s { s' with heap:=h' }∧RD G Γ σ oa { s' with heap:=h' } (.ref Dd) (.list r):=by
 refine (O.ns).elim fun m hn=>?_
 refine (a6o hn).elim fun oC Z1=>Z1.elim (fun eC cC=>?_)
 obtain⟨vs,⟨n,hp⟩,rr⟩:=O.list
 have kp:=O.af.kp
 exact⟨⟨⟨fun b o hT e=>k b o (a0f O.newC e) (kp.heap b o hT e),kp.os,kp.toks,kp.gens⟩,a6n (tk:=s'.toks) O.af.gst k (a4l S O.newC) eC cC.ok (c7G _)⟩,
  .list (fun q=>(S.alloc _ q).elim fun o e=>a0f O.newD e rfl) ⟨_,k _ _ O.ne hp,rfl,n,rfl⟩ ((rr.keep (c7G _) fun b o hb=>k b o fun q=>hb (.inr (.inr q))).weaken fun b hb=>.inl hb)⟩
theorem c0N {elt':PE}{t:Tgt}{iter:PE}{ifs:PEs}{gs:PGs}{fv:List Nat}{elt t' iter':Expr}{ifs':List Expr}{gs':List Comprehension}{scope:Scope}{pos:Pos}
  (hs:a3A G.nm sc scope fv=true) (ht:a3z G.nm scope.names t t'=true) (hset:a4G iter'=true) (hasync:∀ g∈gs',g.is_async=0)
  (hI:a3p G F lvl sc iter iter') (hT:b6Y G F lvl (a4j sc scope.names) ifs ifs') (hG:GsJ G F lvl (a4j sc scope.names) scope.names elt' elt gs gs') :
  EvJ G F lvl sc (.comp fv elt' t iter ifs gs) (.ListComp elt (⟨t',iter',ifs',0⟩ :: gs') scope pos):=fun Γ σ oa s d S h Q E hQ=>by
 rw [eval_ListComp]
 have K:=a3S hs
 obtain⟨hc,hw⟩:=a6y (E:=E) (elt:=elt) (pos:=pos) hs ht hasync hI hT hG S h (RR:=fun acc C=>compPost (model G.prog G.w) Γ.A E none Q acc C) fun r Dd C s' e O=>
  O.ns.elim fun m hn=>⟨m,hn,fun h' hsb=>have D:=O.done S fun b o hb=>hsb.extBut b o hb;hQ _ _ (.of D.1 (e ▸ D.2))⟩
 exact wpAny_comprehension_free (use:=none) rfl (fun x=>a2P hset) hc K.kind (fun x hx hl=>(K.cons x hx).trans (c7H some hl)) hw
end
end
section
theorem a3E:PySem.Slot "bytes" "translate" "bytes.translate":=
 .of (owner:="bytes") (n:="translate") (by rw [c9j,c9k];kernel_rfl) (by decide +kernel) (by decide +kernel) (by decide +kernel)
  (by first | exact .inl (by decide +kernel) | exact .inr (by decide +kernel)) (by rw [c8h];kernel_rfl)
theorem a6A:typeOf (.builtin "bytes.translate")=pure (.type "method_descriptor"):=by show builtinType _ = _;rw [builtinType_eq_fast];kernel_rfl
theorem a5V:entryFor table "bytes.translate"=some Builtin.«bytes.translate»:=entryFor_of_tree (by kernel_rfl)
theorem a6B (a b:Value):argsOk "bytes.translate" ⟨[a,b],[]⟩:=by unfold argsOk;kernel_rfl
theorem a6C (a b:Value):checkBuiltinCall "bytes.maketrans" ⟨[a,b],[]⟩=pure ():=by kernel_rfl
theorem a6D:plainId "bytes.maketrans"=true:=by decide +kernel
theorem a6E:entryFor table "bytes.maketrans"=some Builtin.«bytes.maketrans»:=entryFor_of_tree (by kernel_rfl)
theorem b6Z (a b:Value):argsOk "bytes.maketrans" ⟨[a,b],[]⟩:=by unfold argsOk;kernel_rfl
noncomputable def a2D (f t:Array UInt8):Array UInt8:=(f.toList.zip t.toList).foldl (fun t (f,x)=>t.setIfInBounds f.toNat x) ((Array.range 256).map (·.toUInt8))
theorem b4S (l:List (UInt8×UInt8))(a:Array UInt8):(l.foldl (fun t (f,x)=>t.setIfInBounds f.toNat x) a).size=a.size:=by
 induction l generalizing a with
 | nil=>rfl
 | cons p r ih=>exact (ih _).trans Array.size_setIfInBounds
theorem a3F (f t:Array UInt8):(a2D f t).size=256:=(b4S _ _).trans (Array.size_map.trans Array.size_range)
section
variable {prog:Program}{w:World}{A:Around}{E:Value→Shared→Prop}{s:Shared}{f g b:Array UInt8}{t u:Tok}
theorem b7M (h:f.size=g.size):Meets (Builtin.«bytes.maketrans» ⟨[.bytes f t,.bytes g u],[]⟩) (fun _ R s=>R (.ok (.ret (.bytes (a2D f g) s.toks))) { s with toks:=s.toks+1 }):=by
 refine .of_wp fun prog w A R s hS=>?_
 show wpAny _ _ (Builtin.Bytes.bytesLike _ (.bytes f t) >>= fun r=>_) _ _ s
 refine c8e (wpAny_of_eq KBd.like_eq ?_)
 refine c8e (wpAny_of_eq KBd.like_eq ?_)
 have e:(f.size != g.size)=false:=by simp [h]
 simp only [e,c8S,if_false]
 show wpAny _ _ (mkBytes (a2D f g) >>= fun v=>ret v) _ _ _
 exact c8e (wpAny_mkBytes (c8f ⟨_,rfl,hS⟩) (by rw [a3F,c7V];decide))
theorem a7j {Q:Value→Shared→Prop}(h:f.size=g.size)(hQ:Q (.bytes (a2D f g) s.toks) { s with toks:=s.toks+1 }) :
  wpAny (model prog w) A (call (.builtin "bytes.maketrans") [.bytes f t,.bytes g u]) Q E s:=
 wpAny_call (codeAny_call_builtin a6D a6E (by
  rw [a6C]
  exact c8f (b7M h prog w A (wants Q E) s hQ)))
theorem b7N (h:g.size=256)(hb:b.size≤sizeLine):Meets (Builtin.«bytes.translate» ⟨[.bytes b t,.bytes g u],[]⟩)
  (fun _ R s=>∀ t' k,s.toks≤k→R (.ok (.ret (.bytes (b.map fun c=>g.getD c.toNat c) t'))) { s with toks:=k }):=by
 refine .of_wp fun prog w A R s hS=>?_
 unfold Builtin.«bytes.translate» Builtin.Bytes.translateM
 have e0:(Value.bytes g u==Value.none)=false:=rfl
 simp only [e0,c8S,if_false,List.any_nil,c8x,List.length_nil,List.head?_nil]
 rw [c7M (by decide)]
 refine c8e (wpAny_of_eq KBd.like_eq ?_)
 have e:(g.size != 256)=false:=by simp [h]
 simp only [e,c8S,if_false]
 refine c8e (c8f ?_)
 have e2:(b.filter fun x=>!(#[]:Array UInt8).contains x)=b:=by simp
 show wpAny _ _ (pure #[] >>= fun _=>_) _ _ s
 refine c8e (c8f ?_)
 refine c8e (c8f ?_)
 simp only [e2]
 split
 ·refine c8e (wpAny_rule ?_)
  refine c8e (c8f ?_)
  exact c8f ⟨_,rfl,by have:=hS t s.toks (c7G _);rw [show Array.map (fun c=>g.getD c.toNat c) b=b from by simpa using ‹(Array.map (fun c=>g.getD c.toNat c) b==b)=true›] at this;exact this⟩
 ·exact c8e (wpAny_mkBytes (c8f ⟨_,rfl,hS _ _ (c7T _)⟩) (by rw [Array.size_map];exact hb))
theorem a6F {Q:Value→Shared→Prop}(h:g.size=256)(hb:b.size≤16777216)(hQ:∀ t' k,s.toks≤k→Q (.bytes (b.map fun c=>g.getD c.toNat c) t') { s with toks:=k }) :
  wpAny (model prog w) A (call (.builtin "bytes.translate") [.bytes b t,.bytes g u]) Q E s:=
 call_meets a3E (typeIs_bytes _ _ _) a5V (a6B _ _) (b7N h (by rw [c7V];exact hb)) hQ
end
theorem b0T (c:Nat)(l:List (UInt8×UInt8))(a:Array UInt8)(d:UInt8)(hc:c<a.size)(h:a.getD c 0=d) :
  (l.foldl (fun t (f,x)=>t.setIfInBounds f.toNat x) a).getD c 0=l.foldl (fun (acc:UInt8) p=>if p.1.toNat=c then p.2 else acc) d:=by
 induction l generalizing a d with
 | nil=>exact h
 | cons p r ih=>
  obtain⟨f,x⟩:=p
  refine ih _ _ (Array.size_setIfInBounds.symm ▸ hc) ?_
  show (a.setIfInBounds f.toNat x).getD c 0=if f.toNat=c then x else d
  rw [c9l,Array.getElem?_setIfInBounds]
  by_cases e:f.toNat=c
  ·rw [c7K e,c7K e,c7K (e ▸ hc)];rfl
  ·rw [c7M e,c7M e,← c9l];exact h
theorem b0U (f g:Array UInt8)(c:UInt8):(a2D f g).getD c.toNat c=(f.toList.zip g.toList).foldl (fun (acc:UInt8) p=>if p.1=c then p.2 else acc) c:=by
 have hlt:=c.toNat_lt
 have hs:=a3F f g
 have e:(a2D f g).getD c.toNat c=(a2D f g).getD c.toNat 0:=by
  have:c.toNat<(a2D f g).size:=by rw [hs];exact hlt
  simp [Array.getD,this]
 rw [e]
 unfold a2D
 rw [b0T c.toNat _ _ c (by simp;exact hlt) (by
  have h2:c.toNat<((Array.range 256).map (·.toUInt8)).size:=by simp;exact hlt
  rw [Array.getD,dif_pos h2];simp)]
 congr 1
 funext acc p
 by_cases h:p.1=c
 ·simp [h]
 ·rw [c7M h,c7M fun q=>h (UInt8.toNat_inj.mp q)]
theorem b0V (b f g:Array UInt8):(b.map fun c=>(a2D f g).getD c.toNat c)=(a4a b.toList f.toList g.toList).toArray:=by
 have:b=b.toList.toArray:=by simp
 rw [this]
 simp only [a4a,List.map_toArray,b0U]
section
variable {G:GC}{F:Fns}{lvl:Nat}{Γ:Ctx}{sc:a0h}{σ:Store}{oa:Nat→Addr}{s s':Shared}
theorem a8s:typeOf (.type "bytes")=pure (.type "type"):=by first | rfl | kernel_rfl
theorem a6G:findCls [] (.type "bytes") (.type "type") (Str.ofString "maketrans")=some (.val (.builtin "bytes.maketrans")):=by kernel_rfl
theorem b3g:Manifest.isStub "bytes"=false:=by decide +kernel
theorem a5W:handedIn (.builtin "bytes.maketrans")=true:=by decide +kernel
theorem c0O {h:Heap}{L:Addr}{m}(hn:h.Ns L m):Fr { objs:=#[] } L h m:=⟨hn,fun b o e=>absurd e (by simp [Heap.get?]),c8z _⟩
theorem c0P:Frag.In [] ({ objs:=#[] }:Heap):=fun a o e=>absurd e (by simp)
theorem a8t {E:Value→Shared→Prop}(S:St G Γ lvl sc σ oa s){pl:Sem Bool}{Q:Value×List Value→Shared→Prop}(h:Q (.builtin "bytes.maketrans",[]) { s with toks:=s.toks+1 }) :
  wpAny (model G.prog G.w) Γ.A (getMethod (.type "bytes") (Str.ofString "maketrans") pl) Q E s:=by
 refine (S.slots).elim fun m Z1=>Z1.elim (fun hn _=>?_)
 refine method_type (K:=[]) (T:="bytes") (v:=.builtin "bytes.maketrans") (name:=Str.ofString "maketrans") (c0O hn) c0P ?_ ?_ ?_ ?_ ?_
 ·exact a8s
 ·exact b3g
 ·exact a6G
 ·exact a5W
 ·exact h
theorem a7k {E:Value→Shared→Prop}(S:St G Γ lvl sc σ oa s)(hB:GlobsOK G){e o y z:Expr}(C:MCall (Str.ofString "maketrans") e o [y,z])(ho:c0u sc "bytes" o=true){Q:Value→Shared→Prop}
  (h:∀ s₁ pos,Kf s s₁→wpAny (model G.prog G.w) Γ.A (spliced (backTo pos (starEach [y,z] Γ.env))) (fun vs s₂=>wpAny (model G.prog G.w) Γ.A (call (.builtin "bytes.maketrans") vs) Q E s₂) E s₁) :
  wpAny (model G.prog G.w) Γ.A (eval e Γ.env) Q E s:=by
 obtain⟨⟨apos,pos,rfl,hline⟩,_,hs,_⟩:=C
 refine (a8o ho).elim fun Z1 hg=>Z1.elim (fun p Z2=>?_)
 subst Z2
 rw [arm_eval_Call]
 refine c8e (c8I (S.glob (a3C hg).1 (hB.types "bytes" (by decide)) ?_) (by decide))
 refine c8e (c8J ?_)
 have hform:methodCallForm ([y,z].length+([]:List Keyword).length) (backTo pos (starEach [y,z] Γ.env)) (backToKw pos (keywordEach [] Γ.env))=true:=by
  unfold methodCallForm
  rw [show (backTo pos (starEach [y,z] Γ.env)).all (fun x=>!x.1)=true from a6z hs]
  rfl
 have hpos:methodCallPos true (.Name (Str.ofString "bytes") p) Γ.env apos pos=pure pos:=by
  unfold methodCallPos
  rw [hline]
  rfl
 unfold methodCall
 rw [hform]
 refine c8e (c8c (a8t S ?_))
 refine c8e (wpAny_of_eq hpos ?_)
 exact callWith_builtin (a1v hs) (a2O hs (h _ pos (Kf.tok (c7T _))))
theorem a8u {a b c:PE}{e o e' o' y z:Expr}(hB:GlobsOK G)(C:MCall (Str.ofString "translate") e o [e'])(C':MCall (Str.ofString "maketrans") e' o' [y,z])(ho:c0u sc "bytes" o'=true)
  (hA:EvJ G F lvl sc a o) (hY:EvJ G F lvl sc b y) (hZ:EvJ G F lvl sc c z):EvJ G F lvl sc (.btranslate a b c) e:=fun Γ σ oa s d S h Q E hQ=>by
 refine a0j (show (evE F σ a).bind _ = _ from h) fun u hu h=>?_
 refine a0j h (clear% h;fun v hv h=>?_)
 refine a0j h (clear% h;fun w hw h=>?_)
 refine a0j h (clear% h;fun bx hx h=>?_)
 refine a0j h (clear% h;fun by' hy h=>?_)
 refine a0j h (clear% h;fun bz hz h=>?_)
 refine a0Q h (clear% h;fun hok Z1=>?_)
 subst Z1
 refine a0b hok (clear% hok;fun hsz hok=>?_)
 obtain⟨⟨apos,pos,rfl,hline⟩,hb,hs,_⟩:=C
 refine wpAny_Call_method (b0S hb) (by rw [a6z hs];rfl) hline FB.plainAttrs_bytes a3E a6A (hA _ _ _ _ _ S hu _ _ fun v s₁ R=>?_)
 rw [a2X hx] at R
 refine (R.rep.asBytes).elim fun t Z1=>?_
 subst Z1
 refine⟨typeIs_bytes _ _ _,nofun,callWith_builtin (a1v hs) (a2O hs (c9e ?_ (a0s (a0i hs).1)))⟩
 refine a7k (S.af R.af) hB C' ho fun s₂ pos' k₂=>a6d C'.star hY hZ ((S.af R.af).kf k₂) hv hw fun v w s₃ a₃ r₁ r₂=>?_
 refine RepT.bb (fun v w=>wpAny _ _ (call (.builtin "bytes.maketrans") [v,w]) _ E s₃) r₁ r₂ hy hz fun t₁ t₂=>?_
 refine a7j (c7X hsz) (c9d (a6F (a3F _ _) (a2g hok) fun t' k hk=>?_))
 rw [b0V]
 exact hQ _ _ (.of (((R.af.kf k₂).trans a₃).kf (Kf.tok (c7O (c7T _) hk))) (.bytes _ _))
end
end
section
theorem c5L {β:Type}(f:Nat→β→Sem (ForInStep β))(a b:β)(l:List Nat)(h0:l=[]→a=b)(h1:l≠[]→∀ x,f x a=pure (.yield b))(h2:∀ x,f x b=pure (.done b)):forIn l a f=(pure b:Sem β):=by
 cases l with
 | nil=>rw [h0 rfl];rfl
 | cons x r=>
  rw [List.forIn_cons,h1 nofun]
  show (forIn r b f:Sem β) = _
  cases r with
  | nil=>rfl
  | cons y r=>rw [List.forIn_cons,h2];rfl
theorem b0W (l:List Nat)(acc:Array UInt8):l.foldl (fun acc y=>acc++([y.toUInt8]:List UInt8).toArray) acc=acc++(l.map fun c=>UInt8.ofNat c).toArray:=by
 induction l generalizing acc with
 | nil=>exact (Array.append_empty).symm
 | cons c r ih=>rw [c9h,ih];simp
theorem b3h (x:Str):Array.foldl (fun acc y=>acc++(Builtin._codecs.asciiCodec.bytesOf y).toArray) #[] x.cps=a2N x:=by
 rw [← Array.foldl_toList]
 show List.foldl (fun acc y=>acc++([y.toUInt8]:List UInt8).toArray) #[] x.cps.toList = _
 rw [b0W]
 simp [a2N]
open Builtin._codecs in
theorem b0X (id:String)(self:Value)(x:Str):∃ f:Nat→Nat×Array UInt8×Faults→Sem (ForInStep (Nat×Array UInt8×Faults)),encodeNarrow id asciiCodec none self x=(forIn [0:x.length] ((0,#[],{}):Nat×Array UInt8×Faults) f >>= fun r=>pure r.2.1) ∧
  (∀ n i out st,out.size≤sizeLine→x.cps[i]?=none→f n (i,out,st)=pure (.done (i,out,st))) ∧
  (∀ n i out st c,out.size≤sizeLine→x.cps[i]?=some c→asciiCodec.bad c=false→f n (i,out,st)=pure (.yield (i+((x.cps.extract i x.cps.size).findIdx? asciiCodec.bad).getD (x.cps.extract i x.cps.size).size,((x.cps.extract i x.cps.size).extract 0 (((x.cps.extract i x.cps.size).findIdx? asciiCodec.bad).getD (x.cps.extract i x.cps.size).size)).foldl (fun acc y=>acc++(asciiCodec.bytesOf y).toArray) out,st))):=by
 refine⟨_,rfl,fun n i out st h1 h2=>?_,fun n i out st c h1 h2 h3=>?_⟩
 ·refine (c7M (Nat.not_lt.mpr h1)).trans ?_
  rw [h2]
 ·refine (c7M (Nat.not_lt.mpr h1)).trans ?_
  rw [h2]
  exact c7K (by rw [h3];rfl)
theorem a7B (x:Str):(a2N x).size=x.length:=(c8b ..).trans ((c8u ..).trans Array.length_toList)
open Builtin._codecs in
theorem a9y (id:String)(self:Value)(x:Str)(hx:x.cps.all (·<128)=true)(hl:x.length≤sizeLine):encodeNarrow id asciiCodec none self x=pure (a2N x):=by
 have hbad:∀ c∈x.cps,asciiCodec.bad c=false:=fun c hc=>c8s (Nat.not_le.mpr (c7X (Array.all_eq_true_iff_forall_mem.mp hx c hc)))
 have hfind:x.cps.findIdx? asciiCodec.bad=none:=Array.findIdx?_eq_none_iff.mpr hbad
 obtain⟨f,e,hd,hy⟩:=b0X id self x
 rw [e,Std.Legacy.Range.forIn_eq_forIn_range']
 refine (c7H (· >>= _) (c5L (β:=Nat×Array UInt8×Faults) f _ (x.length,a2N x,{ }) _ (fun h=>?_) (fun hne n=>?_) fun n=>?_)).trans rfl
 ·have h0:x.length=0:=by
   have:=c7H List.length h
   simpa [Std.Legacy.Range.size] using this
  have e:x.cps=#[]:=Array.eq_empty_of_size_eq_zero h0
  unfold a2N
  rw [h0,e]
  rfl
 ·have hpos:0<x.cps.size:=Nat.pos_of_ne_zero fun q=>hne (by
   have h0:x.length=0:=q
   simp [h0,Std.Legacy.Range.size])
  rw [hy n 0 #[] {} x.cps[0] (c8z _) (c8K hpos) (hbad _ (Array.getElem_mem hpos)),Array.extract_size,hfind,Option.getD_none,Array.extract_size,b3h,c9a]
  rfl
 ·exact hd n _ _ _ (a7B x ▸ hl) (Array.getElem?_eq_none (c7G _))
open Builtin._codecs in
theorem b3i (id:String)(self:Value)(x:Str):encodeRoad id self x (Str.ofString "ascii") none=(do mkBytes (← encodeNarrow id asciiCodec none self x)):=by kernel_rfl
open Builtin._codecs in
theorem a9z (x:Str)(t u:Tok):Builtin.«str.encode» ⟨[.str x t,.str (Str.ofString "ascii") u],[]⟩=(do ret (← encodeRoad "str.encode" (.str x t) x (Str.ofString "ascii") none)):=by kernel_rfl
theorem a9A {x:Str}{t u:Tok}(hx:x.cps.all (·<128)=true)(hl:x.length≤sizeLine) :
  Meets (Builtin.«str.encode» ⟨[.str x t,.str (Str.ofString "ascii") u],[]⟩) (fun _ R s=>R (.ok (.ret (.bytes (a2N x) s.toks))) { s with toks:=s.toks+1 }):=by
 refine .of_wp fun prog w A R s hS=>?_
 rw [a9z,b3i,a9y _ _ _ hx hl]
 refine c8e (c8e (c8f (wpAny_mkBytes (c8f ⟨_,rfl,hS⟩) ?_)))
 exact a7B x ▸ hl
section
variable {G:GC}{F:Fns}{lvl:Nat}{Γ:Ctx}{sc:a0h}{σ:Store}{oa:Nat→Addr}{s s':Shared}
theorem b4T {a:PE}{e o y:Expr}(C:MCall (Str.ofString "encode") e o [y])(hA:EvJ G F lvl sc a o)(hy:isC (.str (Str.ofString "ascii")) y=true):EvJ G F lvl sc (.encode a) e:=fun Γ σ oa s d S h Q E hQ=>by
 refine a0j (show (evE F σ a).bind _ = _ from h) fun u hu h=>?_
 refine a0j h (clear% h;fun x hx h=>?_)
 refine a0Q h (clear% h;fun hok Z1=>?_)
 subst Z1
 refine a0b hok (clear% hok;fun h1 h2=>?_)
 refine (a4e hy).elim fun kn Z1=>Z1.elim (fun p Z2=>?_)
 subst Z2
 exact a4L PySem.F.slot_str_encode PySem.F.type_str_encode C hA S hu hx fun t s₁ pos a₁=>c9e (wpAny_Constant_str (c9d
  (call_meets PySem.F.slot_str_encode rfl PySem.F.entry_str_encode (PySem.F.args_str_encode_2 _ _) (a9A h1 (a0H h2)) (hQ _ _ (.of (a₁.kf (Kf.tok (c8p _ 2))) (.bytes _ _))))))
end
end
section
theorem LamTab.triples {h:Heap}{q:Str}{l:List Value}(x:LamTab h q l):TriplesOk l:=by
 induction x with
 | nil=>exact trivial
 | cons _ _ _ _ _ r _ _ ih=>exact ih
theorem LamTab.among {h:Heap}{q:Str}{l:List Value}(x:LamTab h q l)(pos:Pos):codeAmong pos l=none∨∃ c',codeAmong pos l=some (.ref c')∧CodeAt h c' (q++a7q pos.col):=by
 induction x with
 | nil=>exact .inl rfl
 | cons line col t u c' r hc _ ih=>
  show (if (line==pos.line&&col==pos.col)=true then some (.ref c') else codeAmong pos r)=none∨∃ c'',(if (line==pos.line&&col==pos.col)=true then some (.ref c') else codeAmong pos r)=some (.ref c'')∧_
  by_cases e:(line==pos.line&&col==pos.col)=true
  ·rw [c7K e]
   exact .inr ⟨c',rfl,c8d (a0i e).2 ▸ hc⟩
  ·rw [c7M e];exact ih
structure LamAt (h:Heap)(f c:Addr)(x t:Str)(params:Arguments)(body:Expr)(scope:Scope):Prop where
 out:∃ o qual pm cdv ctv,h.get? f=some o∧o.data=.func (kla_fn "<lambda>" qual params body scope [(t,c)] pm cdv ctv)∧h.CodeRec cdv qual
section
variable {G:GC}{F:Fns}{lvl:Nat}{Γ:Ctx}{sc:a0h}{σ:Store}{oa:Nat→Addr}{s s':Shared}{E:Value→Shared→Prop}
theorem a6H {h h':Heap}{P:Addr}{mg:Str→Option Value}(x:h.BuiltinsAt mg P)(k:∀ b o,h.get? b=some o→h'.get? b=some o):h'.BuiltinsAt mg P:=by
 obtain⟨bm,ob,h1,h2,h3,h4,h5,h6⟩:=x
 exact⟨bm,ob,h1,h2,h3,h4,k _ _ h5,h6⟩
theorem a5K {h h':Heap}{v:Value}{q:Str}(x:h.CodeRec v q)(k:∀ b o,h.get? b=some o→h'.get? b=some o):h'.CodeRec v q:=by
 obtain⟨c,oc,vs,t,h1,h2,h3⟩:=x
 exact⟨c,oc,vs,t,h1,k _ _ h2,h3⟩
theorem b0Y {h h':Heap}{c:Addr}{q:Str}(x:CodeAt h c q)(k:∀ b o,h.get? b=some o→h'.get? b=some o):CodeAt h' c q:=by
 obtain⟨o,vs,t,h1,h2,h3,h4⟩:=x
 exact⟨o,vs,t,k _ _ h1,h2,h3,h4⟩
theorem b4U {h:Heap}{c P:Addr}{ps:Array Value}{q:Str}(x:h.CodeRec (.ref c) q)(hc:h.IsCode c P ps)(ht:h.TableAt c P ps):CodeAt h c q:=by
 obtain⟨o,vs,_,_,_,_,_,_,_,e1,e2,_⟩:=CodeHd.of hc ht
 obtain⟨c',o',vs',t,e,g1,g2,g3⟩:=x
 cases e
 rw [e1] at g1
 cases g1
 exact⟨o,vs',t,e1,e2,g2,g3⟩
theorem b7O {M:Model}{A:Around}{name qual:Str}{params:Arguments}{body:Expr}{scope:Scope}{env:Env}{c P:Addr}{ps:Array Value}{pos:Pos}{firstLine:Nat}{mg:Str→Option Value}{p:Str×Addr}
  {E Q:Value→Shared→Prop} (hcl:closureFor scope env=pure [p]) (hge0:env.globals=mainGlobals) (hg:s.heap.Ns mainGlobals mg) (hcode:env.code=.ref c) (C:CodeHd s.heap c P) (hP:s.heap.get? P=some (tabObj ps)) (ht:TriplesOk ps.toList)
  (hnf:codeAmong pos ps.toList=none) (hgP:mainGlobals≠P) (hb:s.heap.BuiltinsAt mg P)
  (h:∀ c' ctv h' tk,Heap.ExtBut P s.heap h'→s.heap.objs.size≤c'→c'<h'.objs.size→CodeAt h' c' qual→h'.get? P=some (tabObj (ps++#[rawInt pos.line,rawInt pos.col,.ref c'])) →
   Q (.ref h'.objs.size) { s with heap:=h'.push (kla_obj name qual params body scope [p] ((mg "__name__").getD .none) c' ctv),toks:=tk }) :
  wpAny M A (makeFunction name qual params (.expr body) scope env [] [] [] pos firstLine) Q E s:=by
 rw [makeFunction_eq]
 simp only [List.zip_nil_right,List.filterMap_nil,List.isEmpty_nil,if_true,pure_bind]
 obtain⟨bm,ob,hbm,hne0,_,hneP,hbo,hcls,hdict,hdata⟩:=hb
 unfold makeTail
 rw [hcl,hge0]
 refine c8e (c8f ?_)
 simp only [List.isEmpty_cons,c8S,if_false]
 refine c8e (wpAny_newTextTuple ?_)
 have kp:∀ {o:Obj} b x,s.heap.get? b=some x→(s.heap.push o).get? b=some x:=fun b x e=>c7P _ e
 refine c8e (wpAny_functionCodeX hcode ((C.keeps kp).code (kp _ _ hP) ht) ((C.keeps kp).tab (kp _ _ hP)) hnf fun c' h' tk hx hge hlt _ hrec htb hP'=>?_)
 obtain⟨P',_,hc',ht'⟩:=hP'
 have hg':=(hg.push _).extBut hx hgP
 have hx':Heap.ExtBut P s.heap h':=fun b o hb' e=>hx b o hb' (c7P _ e)
 refine c8e (wpAny_builtinsFor hg' hbm hne0 (hx' _ _ hneP hbo) hcls hdict hdata ?_)
 refine c8e (wpAny_nsGet hg' ?_)
 exact c8e (c8f (wpAny_newObj_type (h c' _ h' tk hx' (c7O (by rw [c8B];lia) hge) hlt (b4U hrec hc' ht') htb.2) (by size_fits)))
theorem b7P {i:Bool}(S:St G Γ lvl sc σ oa s)(hl:a4A sc=some i){x t:Str}{c:Addr}(hc:Γ.env.cells.lookup t=some c){scope:Scope}(hn:scope.names=[(x,.local),(t,.free)])
  {params:Arguments} {body:Expr} {pos:Pos} (hp:a3D x params=true) (hcol:(pos.col==37)=false) {Q:Value→Shared→Prop}
  (hQ:∀ f s',Af G s s'→LamAt s'.heap f c x t params body scope→s.heap.get? f=none→Q (.ref f) s') :
  wpAny (model G.prog G.w) Γ.A (eval (.Lambda params body scope pos) Γ.env) Q E s:=by
 refine (S.code i hl).elim fun hcode hqual=>?_
 obtain⟨C,ps,hP,LT⟩:=G.lamAt i _ S.gst.tab
 have hcol':((pos.col:Int)==37)=false:=by simp only [c7N,ne_eq] at hcol ⊢;lia
 have hnote:a7q pos.col=("<lambda>":Str):=by unfold a7q;rw [hcol'];rfl
 refine (a4f hp).elim fun pp Z1=>?_
 subst Z1
 refine c7Y (n:=s.toks) (c7G _) ?_
 refine kla_eval rfl ?_
 have hcl:closureFor scope Γ.env=pure [(t,c)]:=by
  rw [a4J (fun y hy=>by
   rw [hn] at hy
   simp only [c8o,Prod.mk.injEq,reduceCtorEq,and_false,List.not_mem_nil,or_false,false_or,and_true] at hy
   subst hy;rw [hc];rfl),hn]
  simp only [a0V,hc]
  rfl
 rw [hqual]
 have hg:s.heap.Ns mainGlobals G.mg:=S.gst.gns
 have hb:s.heap.BuiltinsAt G.mg (G.lamP i):=a6H (G.bmain i) S.gst.base
 have hgP:mainGlobals≠G.lamP i:=fun q=>by
  obtain⟨o,es,ep,e,hd,_⟩:=hg
  rw [q,hP] at e;cases e;cases hd
 have keepB:∀ {h':Heap},Heap.ExtBut (G.lamP i) s.heap h'→∀ b o,G.g.get? b=some o→h'.get? b=some o:=fun hx b o e=>
  hx b o (fun q=>by rw [q,G.tabNew _ (G.lamIn i)] at e;cases e) (S.gst.base b o e)
 rcases LT.among pos with hnf | ⟨c',hf,hr⟩
 rotate_left
 ·rw [hnote] at hr
  refine kla_makeFunctionHit (mg:=G.mg) hcl S.globals hg hcode C hP LT.triples hf hb fun ctv h' tk hk hsz ht=>?_
  refine hQ _ _ ⟨⟨fun b o hbT e=>c7P _ (hk b o e),rfl,ht,fun i y e=>e⟩,⟨c7O S.gst.tok ht,fun b o e=>c7P _ (hk _ _ (S.gst.base _ _ e)),G.mono _ _ (fun b o _ _ _ e=>c7P _ (hk b o e)) S.gst.tab,S.gst.bare⟩⟩
   ⟨_,_,_,_,_,c8a _ rfl,rfl,a5K hr.rec' fun b o e=>c7P _ (hk _ _ e)⟩ ?_
  exact Heap.get?_none_of_le hsz
 ·refine b7O (mg:=G.mg) hcl S.globals hg hcode C hP LT.triples hnf hgP hb fun c' ctv h' tk hx hge hlt hrec htb ht=>?_
  have hx':Heap.ExtBut (G.lamP i) s.heap (h'.push (kla_obj "<lambda>" (G.lamQ i++"<lambda>") { posonlyargs:=[],args:=[{ arg:=x,annotation:=none,pos:=pp }],vararg:=none,kwonlyargs:=[],kw_defaults:=[],kwarg:=none,defaults:=[] } body scope [(t,c)] ((G.mg "__name__").getD .none) c' ctv)):=
   fun b o hb e=>c7P _ (hx b o hb e)
  have hrec':=b0Y hrec fun b o e=>c7P (kla_obj "<lambda>" (G.lamQ i++"<lambda>") { posonlyargs:=[],args:=[{ arg:=x,annotation:=none,pos:=pp }],vararg:=none,kwonlyargs:=[],kw_defaults:=[],kwarg:=none,defaults:=[] } body scope [(t,c)] ((G.mg "__name__").getD .none) c' ctv) e
  refine hQ _ _ ⟨⟨fun b o hbT e=>hx' b o (fun q=>hbT (q ▸ G.lamIn i)) e,rfl,ht,fun i y e=>e⟩,⟨c7O S.gst.tok ht,keepB hx',G.lamPut i _ _ ps c' pos S.gst.tab hP hx' (c7P _ htb) (hnote ▸ hrec'),S.gst.bare⟩⟩
   ⟨_,_,_,_,_,c8a _ rfl,rfl,hrec'.rec'⟩ ?_
  exact Heap.get?_none_of_le (c7O hge (Nat.le_of_lt hlt))
end
section
variable {prog:Program}{w:World}{A:Around}{E:Value→Shared→Prop}{s:Shared}
theorem b7Q {f c:Addr}{x t:Str}{params:Arguments}{p1 p2 p3:Pos}{scope:Scope}(hA:A.depth+2<recursionLimit)(hlim:s.heap.NoLimit)
  (L:LamAt s.heap f c x t params (.Subscript (.Name t p1) (.Name x p2) p3) scope) (hp:a3D x params=true) (hs:a8p x t scope=true) (ot:b0O t=true) (ox:b0O x=true)
  {v₀ v:Value} (hc:s.heap.IsCell c (some v₀)) {i:Int} {u:Tok}
  (hitem:∀ (A':Around) (E':Value→Shared→Prop) (s':Shared) (Q':Value→Shared→Prop),(∀ b o,s.heap.get? b=some o→s'.heap.get? b=some o)→Q' v s' →
   wpAny (model prog w) A' (subscriptTail (.Name t p1) (.Name x p2) v₀ (.int i u)) Q' E' s')
  {Q:Value→Shared→Prop} (hQ:∀ s',Kf s s'→Q v s'):wpAny (model prog w) A (call (.ref f) [.int i u]) Q E s:=by
 refine (a4f hp).elim fun pp Z1=>?_
 subst Z1
 obtain⟨o,qual,pm,cdv,ctv,ho,hd,hrec⟩:=L.out
 refine a0b hs (clear% hs;fun hs hx=>?_)
 refine a0b hs (clear% hs;fun hs hxt=>?_)
 refine a0b hs (clear% hs;fun hs hco=>?_)
 refine a0b hs (clear% hs;fun hs hgen=>?_)
 refine a0b hs (clear% hs;fun hk hnm=>?_)
 cases c8d hx
 have hk:=c8d hk
 have hnm:=c8d hnm
 refine a0b ox (clear% ox;fun ox1 ox2=>?_)
 refine a0b ot (clear% ot;fun ot1 ot2=>?_)
 have lx:scope.names.lookup ⟨#[106]⟩=some .local:=by rw [hnm];rfl
 have lt:scope.names.lookup t=some .free:=by
  rw [hnm,c7J,c7N.mpr (fun q=>c7N.mp (a2w hxt) q.symm),c7J,c7R]
 refine wpAny_call (kla_callFunE (Nat.lt_of_succ_lt (Nat.lt_of_succ_lt hA)) ho hd (a2w hco) (a2w hgen) rfl hrec ?_)
 have hb:bindArgs (kla_fn "<lambda>" qual { posonlyargs:=[],args:=[{ arg:=⟨#[106]⟩,annotation:=none,pos:=pp }],vararg:=none,kwonlyargs:=[],kw_defaults:=[],kwarg:=none,defaults:=[] }
   (.Subscript (.Name t p1) (.Name ⟨#[106]⟩ p2) p3) scope [(t,c)] pm cdv ctv) ⟨[.int i u],[]⟩=pure [(⟨#[106]⟩,.int i u)]:=by kernel_rfl
 rw [hb]
 refine c8f (wpAny_newFunctionEnv ?_ ?_ (fun h₁ hns hsb=>⟨hlim.fresh _ hsb,?_⟩) hk)
 ·intro y hy
  show y.2≠.cell
  rw [show scope.names = _ from hnm] at hy
  exact (c8o.mp hy).elim (fun e=>e ▸ nofun) fun hy=>(c8C.mp hy) ▸ nofun
 ·intro y hy
  rw [c8C] at hy;subst hy;exact lx
 have hk₁:∀ b o,s.heap.get? b=some o→h₁.get? b=some o:=fun b o e=>hsb.extBut b o (c8A (c7Z e)) (c7P _ e)
 refine kla_codeExpr ?_
 have hcell:h₁.IsCell c (some v₀):=by obtain⟨oc,e,d⟩:=hc;exact⟨oc,hk₁ _ _ e,d⟩
 refine Subscript_ (c8I (wpAny_loadName_free hk lt (by show List.lookup t [(t,c)]=some c;rw [c7J,c7R]) hcell ?_ (a2w ot2)) (a2w ot1))
 refine c8I (wpAny_loadName_local (v:=.int i u) hk lx hns rfl ?_) (a2w ox1)
 refine hitem _ _ _ _ hk₁ ?_
 exact hQ _ ⟨hk₁,rfl,c8p _ _,rfl⟩
end
end
section
section
variable (O:KeyOrd)(key:Nat→O.α)(n:Nat)
noncomputable abbrev b4V:Nat→Nat→(Bool→Shared→Prop)→Shared→Prop:=fun i j C s=>i<n∧j<n∧C (O.blt (key i) (key j)) s
noncomputable def KP (p:Array Nat)(i:Nat):O.α:=key (p.getD i 0)
noncomputable def SoP (p:Array Nat)(k:Nat):Prop:=∀ i j,i≤j→j<k→O.kle (KP O key p i) (KP O key p j)
noncomputable def NiP (p:Array Nat)(k:Nat):Prop:=∀ i j,i≤j→j<k→O.kle (KP O key p j) (KP O key p i)
end
structure PB (n:Nat)(p:Array Nat):Prop where
 perm:p.Perm (List.toArray (List.range n))
section
variable {O:KeyOrd}{key:Nat→O.α}{n:Nat}{p:Array Nat}{s:Shared}
theorem PB.size (h:PB n p):p.size=n:=by have:=h.perm.size_eq;simpa using this
theorem PB.lt (h:PB n p)(hn:0<n)(k:Nat):p.getD k 0<n:=by
 by_cases hk:k<p.size
 ·have e:p.getD k 0=p[k]:=by simp [Array.getD,hk]
  rw [e]
  have hm:p[k]∈p.toList:=by simp
  have:=(Array.perm_iff_toList_perm.mp h.perm).mem_iff.mp hm
  simpa using this
 ·have e:p.getD k 0=0:=by simp [Array.getD,hk]
  rw [e];exact hn
theorem PB.rev (h:PB n p)(i j:Nat):PB n (kas_rev p i j):=⟨(mirror_perm _ _ _ _).trans h.perm⟩
theorem PB.bub (h:PB n p)(k d:Nat):PB n (bubble p k d):=⟨(bubble_perm _ _ _).trans h.perm⟩
theorem a4N {xs ys:Array Nat}{i j:Nat}(h:xs[i]?=ys[j]?):KP O key xs i=KP O key ys j:=by
 unfold KP;rw [c9l,c9l,h]
theorem a9B {xs:Array Nat}{src d:Nat}(hs:src<xs.size)(hd:d≤src)(k:Nat) :
  KP O key (bubble xs src d) k=if k=src - d then KP O key xs src else if src - d<k∧k≤src then KP O key xs (k - 1) else KP O key xs k:=by
 have e:=getElem?_bubble hs d hd k
 by_cases h1:k=src - d
 ·rw [c7K h1] at e ⊢;exact a4N e
 ·rw [c7M h1] at e ⊢
  by_cases h2:src - d<k∧k≤src
  ·rw [c7K h2] at e ⊢;exact a4N e
  ·rw [c7M h2] at e ⊢;exact a4N e
theorem b4W {xs:Array Nat}{i j:Nat}(hj:j≤xs.size)(k:Nat) :
  KP O key (kas_rev xs i j) k=if i≤k∧k<j then KP O key xs (i+j - 1 - k) else KP O key xs k:=by
 have e:=getElem?_mirror_all (i:=i) hj k
 by_cases h1:i≤k∧k<j
 ·rw [c7K h1] at e ⊢;exact a4N e
 ·rw [c7M h1] at e ⊢;exact a4N e
theorem a1Q {xs:Array Nat}{i j:Nat}(hj:j≤xs.size)(heq:∀ k,i≤k→k<j→KP O key xs k=KP O key xs (j - 1))(k:Nat) :
  KP O key (kas_rev xs i j) k=KP O key xs k:=by
 rw [b4W hj]
 split
 ·rw [heq _ (by lia) (by lia),heq k (by lia) (by lia)]
 ·rfl
theorem c0Q {nrem:Nat}{Q:Nat→Shared→Prop}(hp:PB n p)(hn:nrem≤n):∀ (f a:Nat),a+f=nrem→1≤a→SoP O key p a →
  (∀ m,a≤m→m≤nrem→SoP O key p m→(m=nrem∨O.klt (KP O key p m) (KP O key p (m - 1)))→Q m s)→(kas_asc p f a).kasWp (b4V O key n) Q s
 | 0,a,e,h1,hs,h=>h a (c7G _) (by lia) hs (.inl (by lia))
 | f+1,a,e,h1,hs,h=>by
  have h0:0<n:=by lia
  refine⟨hp.lt h0 _,hp.lt h0 _,?_⟩
  show (if O.blt (KP O key p a) (KP O key p (a - 1))=true then KasT.ret a else kas_asc p f (a+1)).kasWp _ Q s
  cases hl:O.blt (KP O key p a) (KP O key p (a - 1)) with
  | true=>
   rw [c7K rfl]
   exact h a (c7G _) (by lia) hs (.inr hl)
  | false=>
   rw [c7M (by simp)]
   refine c0Q hp hn f (a+1) (by lia) (by lia) (fun i j hij hj=>?_) fun m hm=>h m (by lia)
   by_cases hjx:j<a
   ·exact hs i j hij hjx
   ·have hj':j=a:=by lia
    subst hj'
    by_cases hi':i=j
    ·subst hi';exact c9m _
    ·exact KeyOrd.kle_trans (hs i (j - 1) (by lia) (by lia)) hl
theorem b4X {m nrem:Nat}{Q:Nat×Array Nat→Shared→Prop}(hp:PB n p)(hn:nrem≤n)(h1:1≤m)(hm:m≤nrem)(hs:NiP O key p m)
  (h:∀ k p',PB n p'→1≤k→k≤nrem→SoP O key p' k→Q (k,p') s):(kas_tail3 m nrem p).kasWp (b4V O key n) Q s:=by
 unfold kas_tail3
 rw [KasT.kasWp_bind]
 have hsz:m≤p.size:=by rw [hp.size];lia
 refine c0Q (hp.rev 0 m) hn _ m (by lia) h1 (fun i j hij hj=>?_) fun k hk1 hk2 hsk _=>h k _ (hp.rev 0 m) (by lia) hk2 hsk
 rw [b4W hsz,b4W hsz,c7K (by lia),c7K (by lia)]
 exact hs _ _ (by lia) (by lia)
theorem b1S {nrem:Nat}{Q:Array Nat×Nat×Nat→Shared→Prop}(hn:nrem≤n):∀ (f:Nat) (p:Array Nat) (x neq:Nat),PB n p→x+f=nrem→1≤x→NiP O key p x→neq+1≤x →
  (∀ i,x - (neq+1)≤i→i<x→KP O key p i=KP O key p (x - 1)) →
  (∀ p' m q,PB n p'→x≤m→m≤nrem→NiP O key p' m→q+1≤m→(∀ i,m - (q+1)≤i→i<m→KP O key p' i=KP O key p' (m - 1))→Q (p',m,q) s) →
  (kas_desc f p x neq).kasWp (b4V O key n) Q s
 | 0,p,x,neq,hp,e,h1,hs,hq,he,h=>h p x neq hp (c7G _) (by lia) hs hq he
 | f+1,p,x,neq,hp,e,h1,hs,hq,he,h=>by
  have h0:0<n:=by lia
  have hsz:x≤p.size:=by rw [hp.size];lia
  refine⟨hp.lt h0 _,hp.lt h0 _,?_⟩
  show (if O.blt (KP O key p x) (KP O key p (x - 1))=true then (if neq > 0 then kas_desc f (kas_rev p (x - (neq+1)) x) (x+1) 0 else kas_desc f p (x+1) 0)
   else KasT.ask (p.getD (x - 1) 0) (p.getD x 0) fun d=>if d=true then KasT.ret (p,x,neq) else kas_desc f p (x+1) (neq+1)).kasWp _ Q s
  cases hl:O.blt (KP O key p x) (KP O key p (x - 1)) with
  | true=>
   rw [c7K rfl]
   have step1:∀ xs:Array Nat,(∀ k,KP O key xs k=KP O key p k)→NiP O key xs (x+1):=by
    intro xs hk i j hij hj
    rw [hk,hk]
    by_cases hjx:j<x
    ·exact hs i j hij hjx
    ·have hj':j=x:=by lia
     subst hj'
     by_cases hi':i=j
     ·subst hi';exact c9m _
     ·exact KeyOrd.kle_trans (KeyOrd.kle_of_klt hl) (hs i (j - 1) (by lia) (by lia))
   by_cases hneq:neq > 0
   ·rw [c7K hneq]
    exact b1S hn f _ (x+1) 0 (hp.rev _ _) (by lia) (by lia) (step1 _ (a1Q hsz he)) (by lia) (fun i h1 h2=>by congr 1;lia) fun p' m q hp' hm=>h p' m q hp' (by lia)
   ·rw [c7M hneq]
    exact b1S hn f _ (x+1) 0 hp (by lia) (by lia) (step1 _ fun _=>rfl) (by lia) (fun i h1 h2=>by congr 1;lia) fun p' m q hp' hm=>h p' m q hp' (by lia)
  | false=>
   rw [c7M (by simp)]
   refine⟨hp.lt h0 _,hp.lt h0 _,?_⟩
   show (if O.blt (KP O key p (x - 1)) (KP O key p x)=true then KasT.ret (p,x,neq) else kas_desc f p (x+1) (neq+1)).kasWp _ Q s
   cases hg:O.blt (KP O key p (x - 1)) (KP O key p x) with
   | true=>
    rw [c7K rfl]
    exact h p x neq hp (c7G _) (by lia) hs hq he
   | false=>
    rw [c7M (by simp)]
    have heqx:KP O key p x=KP O key p (x - 1):=KeyOrd.kle_antisymm hg hl
    refine b1S hn f p (x+1) (neq+1) hp (by lia) (by lia) (fun i j hij hj=>?_) (by lia) (fun i h1 h2=>?_) fun p' m q hp' hm=>h p' m q hp' (by lia)
    ·by_cases hjx:j<x
     ·exact hs i j hij hjx
     ·have hj':j=x:=by lia
      subst hj'
      by_cases hi':i=j
      ·subst hi';exact c9m _
      ·rw [heqx];exact hs i (j - 1) (by lia) (by lia)
    ·rw [show x+1 - 1=x by lia]
     by_cases hix:i=x
     ·subst hix;rfl
     ·rw [heqx];exact he i (by lia) (by lia)
theorem a7C {m nrem:Nat}{Q:Nat×Array Nat→Shared→Prop}(hp:PB n p)(hn:nrem≤n)(hm:m+1≤nrem)(hs:NiP O key p (m+1))
  (h:∀ k p',PB n p'→1≤k→k≤nrem→SoP O key p' k→Q (k,p') s):(kas_descPart m nrem p).kasWp (b4V O key n) Q s:=by
 unfold kas_descPart
 rw [KasT.kasWp_bind]
 refine b1S hn _ p (m+1) 0 hp (by lia) (by lia) hs (by lia) (fun i h1 h2=>by congr 1;lia) fun p' k q hp' hk1 hk2 hs' hq he=>?_
 have hsz:k≤p'.size:=by rw [hp'.size];lia
 show (if q > 0 then kas_tail3 k nrem (kas_rev p' (k - (q+1)) k) else kas_tail3 k nrem p').kasWp _ Q s
 by_cases hneq:q > 0
 ·rw [c7K hneq]
  refine b4X (hp'.rev _ _) hn (by lia) hk2 (fun i j hij hj=>?_) h
  rw [a1Q hsz he,a1Q hsz he]
  exact hs' i j hij hj
 ·rw [c7M hneq]
  exact b4X hp' hn (by lia) hk2 hs' h
theorem c0R {nrem:Nat}{Q:Nat×Array Nat→Shared→Prop}(hp:PB n p)(hn:nrem≤n)(h1:1≤nrem)
  (h:∀ k p',PB n p'→1≤k→k≤nrem→SoP O key p' k→Q (k,p') s):(kas_count nrem p).kasWp (b4V O key n) Q s:=by
 unfold kas_count
 rw [KasT.kasWp_bind]
 have h0:0<n:=by lia
 refine c0Q hp hn _ 1 (by lia) (c7G _) (fun i j hij hj=>by have:i=j:=(by lia);subst this;exact c9m _) fun m hm1 hm2 hsm hor=>?_
 by_cases hnn:m=nrem
 ·rw [c7K (by simpa using hnn)]
  exact h m p hp hm1 hm2 hsm
 ·rw [c7M (by simpa using hnn)]
  have hlt:O.klt (KP O key p m) (KP O key p (m - 1)):=hor.resolve_left hnn
  by_cases hgt:m > 1
  ·rw [c7K hgt]
   refine⟨hp.lt h0 _,hp.lt h0 _,?_⟩
   show (if O.blt (KP O key p 0) (KP O key p (m - 1))=true then KasT.ret (m,p) else kas_descPart m nrem (kas_rev p 0 m)).kasWp _ Q s
   cases hrose:O.blt (KP O key p 0) (KP O key p (m - 1)) with
   | true=>rw [c7K rfl];exact h m p hp hm1 hm2 hsm
   | false=>
    rw [c7M (by simp)]
    have hsz:m≤p.size:=by rw [hp.size];lia
    have hall:∀ k,0≤k→k<m→KP O key p k=KP O key p (m - 1):=by
     intro k _ hk
     have a1:=hsm 0 k (by lia) hk
     have a2:=hsm k (m - 1) (by lia) (by lia)
     exact KeyOrd.kle_antisymm a2 (KeyOrd.kle_trans hrose a1)
    refine a7C (hp.rev _ _) hn (by lia) (fun i j hij hj=>?_) h
    rw [a1Q hsz hall,a1Q hsz hall]
    by_cases hjn:j<m
    ·rw [hall i (by lia) (by lia),hall j (by lia) hjn];exact c9m _
    ·have hj':j=m:=by lia
     subst hj'
     by_cases hi':i=j
     ·subst hi';exact c9m _
     ·rw [hall i (by lia) (by lia)];exact KeyOrd.kle_of_klt hlt
  ·rw [c7M hgt]
   have hn1':m=1:=by lia
   subst hn1'
   refine a7C hp hn (by lia) (fun i j hij hj=>?_) h
   by_cases hi':i=j
   ·subst hi';exact c9m _
   ·have hi0:i=0:=by lia
    have hj1:j=1:=by lia
    subst hi0;subst hj1
    exact KeyOrd.kle_of_klt hlt
theorem b0Z {k:Nat}{Q:Nat→Shared→Prop}(hp:PB n p)(hk:k<n)(hs:SoP O key p k):∀ (f l r:Nat),r - l≤f→l≤r→r≤k →
  (∀ i,i<l→O.kle (KP O key p i) (KP O key p k))→(∀ i,r≤i→i<k→O.klt (KP O key p k) (KP O key p i)) →
  (∀ l,l≤k→(∀ i,i<l→O.kle (KP O key p i) (KP O key p k))→(∀ i,l≤i→i<k→O.klt (KP O key p k) (KP O key p i))→Q l s)→(kas_place p k f l r).kasWp (b4V O key n) Q s
 | 0,l,r,hf,hlr,hrk,hlo,hhi,h=>by
  have:l=r:=by lia
  subst this
  exact h l hrk hlo hhi
 | f+1,l,r,hf,hlr,hrk,hlo,hhi,h=>by
  have h0:0<n:=by lia
  unfold kas_place
  by_cases hge:l ≥ r
  ·rw [c7K hge]
   have:l=r:=by lia
   subst this
   exact h l hrk hlo hhi
  ·rw [c7M hge]
   refine⟨hp.lt h0 _,hp.lt h0 _,?_⟩
   show (if O.blt (KP O key p k) (KP O key p ((l+r) / 2))=true then kas_place p k f l ((l+r) / 2) else kas_place p k f ((l+r) / 2+1) r).kasWp _ Q s
   cases hless:O.blt (KP O key p k) (KP O key p ((l+r) / 2)) with
   | true=>
    rw [c7K rfl]
    refine b0Z hp hk hs f l ((l+r) / 2) (by lia) (by lia) (by lia) hlo (fun i h1 h2=>?_) h
    exact KeyOrd.klt_of_klt_of_kle hless (hs _ _ h1 h2)
   | false=>
    rw [c7M (by simp)]
    refine b0Z hp hk hs f ((l+r) / 2+1) r (by lia) (by lia) hrk (fun i h1=>?_) hhi h
    exact KeyOrd.kle_trans (hs i ((l+r) / 2) (by lia) (by lia)) (show O.kle _ _ from hless)
theorem c3t {Q:Array Nat→Shared→Prop}:∀ (f:Nat) (p:Array Nat) (k:Nat),PB n p→k+f=n→SoP O key p k→(∀ p',PB n p'→SoP O key p' n→Q p' s)→(kas_bin f p k).kasWp (b4V O key n) Q s
 | 0,p,k,hp,e,hs,h=>h p hp (by rw [show n=k by lia];exact hs)
 | f+1,p,k,hp,e,hs,h=>by
  unfold kas_bin
  rw [KasT.kasWp_bind]
  have hk:k<n:=by lia
  refine b0Z hp hk hs k 0 k (by lia) (by lia) (c7G _) (fun i hi=>by lia) (fun i h1 h2=>by lia) fun l hlk hlo hhi=>?_
  refine c3t f _ (k+1) (hp.bub _ _) (by lia) (fun i j hij hj=>?_) h
  have hks:k<p.size:=by rw [hp.size];exact hk
  rw [a9B hks (by lia),a9B hks (by lia),show k - (k - l)=l by lia]
  repeat' split
  all_goals first
   | (exfalso;lia)
   | exact c9m _
   | exact hlo _ (by lia)
   | exact KeyOrd.kle_of_klt (hhi _ (by lia) (by lia))
   | exact hs _ _ (by lia) (by lia)
theorem b1T {Q:Array Nat→Shared→Prop}(h1:1≤n)(h:∀ p',PB n p'→SoP O key p' n→Q p' s):(kas_sort n).kasWp (b4V O key n) Q s:=by
 unfold kas_sort
 rw [KasT.kasWp_bind]
 refine c0R ⟨Array.Perm.refl _⟩ (c7G _) h1 fun k p' hp' hk1 hk2 hs'=>?_
 show (if k<n then kas_bin (n - max k 1) p' (max k 1) else KasT.ret p').kasWp _ Q s
 by_cases hk:k<n
 ·rw [c7K hk]
  exact c3t _ p' (max k 1) hp' (by lia) (by rw [show max k 1=k by lia];exact hs') h
 ·rw [c7M hk]
  exact h p' hp' (by rw [show n=k by lia];exact hs')
theorem a6I {α:Type}{lt:Nat→Nat→Bool}{Q:α→Shared→Prop}{s:Shared}(hlt:∀ i j,lt i j=O.blt (key i) (key j)):∀ (t:KasT α),t.kasWp (b4V O key n) Q s→Q (kasRun lt t) s
 | .ret a,h=>h
 | .ask i j k,h=>by
  unfold kasRun
  rw [hlt]
  exact a6I hlt _ h.2.2
theorem b1U {α:Type}{lt:Nat→Nat→Bool}{cmp:Nat→Nat→(Bool→Shared→Prop)→Shared→Prop}{Q Q':α→Shared→Prop}{s:Shared}(hlt:∀ i j,lt i j=O.blt (key i) (key j))
  (hc:∀ i j (C:Bool→Shared→Prop),i<n→j<n→C (O.blt (key i) (key j)) s→cmp i j C s):∀ (t:KasT α),t.kasWp (b4V O key n) Q s→Q' (kasRun lt t) s→t.kasWp cmp Q' s
 | .ret a,_,h=>h
 | .ask i j k,h,h'=>by
  refine hc i j _ h.1 h.2.1 (b1U hlt hc _ h.2.2 ?_)
  unfold kasRun at h'
  rw [hlt] at h'
  exact h'
end
theorem a5L:∀ a:List UInt8,a1m a a=false
 | []=>rfl
 | a :: r=>by simp [a1m,a5L r]
theorem a4n:∀ a b c:List UInt8,a1m a b=true→a1m b c=true→a1m a c=true
 | [],[],_,h,_=>by simp [a1m] at h
 | [],_ :: _,[],_,h=>by simp [a1m] at h
 | [],_ :: _,_ :: _,_,_=>rfl
 | _ :: _,[],_,h,_=>by simp [a1m] at h
 | _ :: _,_ :: _,[],_,h=>by simp [a1m] at h
 | x :: a,y :: b,z :: c,h1,h2=>by
  simp only [a1m] at h1 h2 ⊢
  by_cases e1:x<y
  ·by_cases e2:y<z
   ·rw [c7K (UInt8.lt_trans e1 e2)]
   ·rw [c7M e2] at h2
    by_cases e3:y=z
    ·subst e3;rw [c7K e1]
    ·rw [c7M e3] at h2;cases h2
  ·rw [c7M e1] at h1
   by_cases e1':x=y
   ·subst e1'
    rw [c7K rfl] at h1
    by_cases e2:x<z
    ·rw [c7K e2]
    ·rw [c7M e2] at h2 ⊢
     by_cases e3:x=z
     ·subst e3;rw [c7K rfl] at h2 ⊢;exact a4n a b c h1 h2
     ·rw [c7M e3] at h2;cases h2
   ·rw [c7M e1'] at h1;cases h1
theorem a2Z:∀ a b:List UInt8,a1m a b=false→a1m b a=false→a=b
 | [],[],_,_=>rfl
 | [],_ :: _,h,_=>by simp [a1m] at h
 | _ :: _,[],_,h=>by simp [a1m] at h
 | x :: a,y :: b,h1,h2=>by
  simp only [a1m] at h1 h2
  by_cases e1:x<y
  ·rw [c7K e1] at h1;cases h1
  ·rw [c7M e1] at h1
   by_cases e2:y<x
   ·rw [c7K e2] at h2;cases h2
   ·have:x=y:=UInt8.le_antisymm (UInt8.not_lt.mp e2) (UInt8.not_lt.mp e1)
    subst this
    rw [c7K rfl] at h1
    rw [c7M e2,c7K rfl] at h2
    rw [a2Z a b h1 h2]
noncomputable def a4o:KeyOrd where
 α:=List UInt8
 blt:=a1m
 irrefl:=a5L
 trans:=a4n
 negTrans a b c h:=by
  by_cases e:a1m a b=true
  ·exact .inl e
  ·right
   have e:a1m a b=false:=by simpa using e
   cases e2:a1m b a with
   | true=>exact a4n b a c e2 h
   | false=>rw [← a2Z a b e e2];exact h
 total:=a2Z
end
section
theorem a4O:PySem.Slot "bytes" "__lt__" "bytes.__lt__":=
 .of (owner:="bytes") (n:="__lt__") (by rw [c9j,c9k];kernel_rfl) (by decide +kernel) (by decide +kernel) (by decide +kernel)
  (by first | exact .inl (by decide +kernel) | exact .inr (by decide +kernel)) (by rw [c8h];kernel_rfl)
theorem a7l:entryFor table "bytes.__lt__"=some Builtin.«bytes.__lt__»:=entryFor_of_tree (by kernel_rfl)
theorem a8v (a b:Value):argsOk "bytes.__lt__" ⟨[a,b],[]⟩:=by unfold argsOk;kernel_rfl
theorem b1V:∀ a b:List UInt8,(Builtin.Bytes.order a b==.lt)=a1m a b
 | [],[] | [],_ :: _ | _ :: _,[]=>rfl
 | x :: a,y :: b=>by
  simp only [Builtin.Bytes.order,a1m]
  by_cases h1:x<y
  ·simp [h1]
  ·by_cases h2:x > y
   ·have:x≠y:=fun e=>by subst e;exact absurd h2 (UInt8.lt_irrefl _)
    simp [h1,h2,this]
   ·have:x=y:=UInt8.le_antisymm (UInt8.not_lt.mp h2) (UInt8.not_lt.mp h1)
    simp [this,b1V a b]
section
variable {prog:Program}{w:World}{A:Around}{E:Value→Shared→Prop}{s:Shared}
theorem a8w {b c:Array UInt8}{t u:Tok}{Q:Value→Shared→Prop}(h:Q (.bool (a1m b.toList c.toList)) s):wpAny (model prog w) A (call (.builtin "bytes.__lt__") [.bytes b t,.bytes c u]) Q E s:=by
 refine wpAny_call_entry a4O (typeIs_bytes s b t) a7l ?_ (a8v _ _)
 show wpAny _ _ (isInstance (.bytes c u) (.type "bytes") >>= fun r=>_) _ E s
 refine c8e (wpAny_isInstance (typeIs_bytes s c u) F.sub_bytes_bytes ?_)
 exact c8f ⟨_,rfl,by rw [← b1V] at h;exact h⟩
theorem b7R {b c:Array UInt8}{t u:Tok}{Q:Bool→Shared→Prop}(h:Q (a1m b.toList c.toList) s):wpAny (model prog w) A (keyLt' oneType' (.bytes b t) (.bytes c u)) Q E s:=by
 rw [keyLt'_oneType,oneLt'_eq]
 simp only [if_true]
 refine c8e (wpAny_cRoomFor_byValue rfl ?_)
 refine c8e (wpAny_callSpecialIfBound?_slot (typeIs_bytes s b t) a4O (a8w ?_))
 exact c8g h
theorem a8x {r:Addr}{a b c:Int}{t u v:Tok}{n:Nat}{R:List Value→Shared→Prop}(hh:A.handled=none)(hr:IsRange s.heap r a b c t u v)(hsmall:Builtin.Range.small a b c=true)
  (hn:Builtin.Range.rangeSize a b c=n) (hlen:n≤2 ^ 24)
  (h:∀ (h':Heap) (tk:Nat) (acc:Array Value),(∀ b o,s.heap.get? b=some o→h'.get? b=some o)→ItemsOf (fun i v=>∃ t,v=.int (a+i*c) t) acc n→R acc.toList { s with heap:=h',toks:=tk }) :
  wpAny (model prog w) A (collect (.ref r)) R E s:=by
 unfold collect
 refine c8e (wpAny_runValue (codeAny_builtin entry_proto_collect' ?_))
 rw [Around.under_plainId PySem.F.plain_proto_collect _]
 show wpAny _ A.in1 (newList [] >>= fun l=>again (.builtin "list.__iadd__" ⟨[l,.ref r],[]⟩)) _ _ s
 refine c8e (wpAny_newObj_type ?_)
 refine c8f ⟨plainId_quiet PySem.F.plain_list_iadd _,codeAny_builtin entry_list_iadd' ?_⟩
 rw [Around.under_plainId PySem.F.plain_list_iadd _]
 have hS₁:(s.heap.push { cls:=.type "list",data:=.seq ([]:List Value).toArray }).get? s.heap.objs.size=some { cls:=.type "list",data:=.seq #[] }:=c8a _ rfl
 show wpAny _ A.in1 (Builtin.List.listExtendWith (.ref s.heap.objs.size) (.ref r) (.ref s.heap.objs.size)) _ _ _
 have key:=wpAny_extend_range (A:=A) (prog:=prog) (w:=w) (s:={ s with heap:=s.heap.push { cls:=.type "list",data:=.seq ([]:List Value).toArray } })
  (R:=fun (q:Result) (s':Shared)=>∃ (h':Heap) (tk:Nat) (acc':Array Value) (c':Nat),q=.ok (.ret (.ref s.heap.objs.size))∧s'={ s with heap:=h',toks:=tk } ∧
   (∀ b o,s.heap.get? b=some o→h'.get? b=some o)∧h'.get? s.heap.objs.size=some { cls:=.type "list",dict:=none,data:=.seq acc' c',slots:=#[] }∧ItemsOf (fun i v=>∃ t,v=.int (a+i*c) t) acc' n)
  hh (c7P _ hr) hsmall hn hlen s.heap.objs.size (.ref s.heap.objs.size) 0 hS₁
  (fun h' tk acc' c' hk hS' hacc=>⟨h',tk,acc',c',rfl,rfl,fun b o e=>hk b o (c8A (c7Z e)) (c7P _ e),hS',hacc⟩)
 refine c8H key (fun fin s' x=>?_) fun e s' x=>?_
 ·cases fin with
  | done f=>
   obtain⟨h',tk,acc',c',e,rfl,hk,hS',hacc⟩:=x
   cases e
   show wpAny _ A (load s.heap.objs.size >>= _) _ _ _
   refine c8e (wpAny_load hS' ?_)
   exact c8f (h h' tk acc' hk hacc)
  | again c₁=>
   refine⟨x.1,codeAny_mono x.2 fun q s₂ y=>?_⟩
   obtain⟨h',tk,acc',c',rfl,rfl,hk,hS',hacc⟩:=y
   show wpAny _ A (load s.heap.objs.size >>= _) _ _ _
   refine c8e (wpAny_load hS' ?_)
   exact c8f (h h' tk acc' hk hacc)
 ·obtain⟨_,_,_,_,e',_⟩:=x
  cases e'
noncomputable def sortIdx (keys:Nat→Array UInt8)(n:Nat):List Nat:=
 if n<2 then List.range n else (kasRun (fun i j=>a1m (keys i).toList (keys j).toList) (kas_sort n)).toList
theorem b7S {a kS:Addr}{vs:List Value}{n e e1:Nat}{keys:Nat→Array UInt8}{kt:Nat→Tok}{P:PySem.Fin→Shared→Prop}(hvs:vs.length=n)(h64:n<64)
  (ha:s.heap.get? a=some (seqObj "list" #[] e1)) (hk:s.heap.get? kS=some (seqObj "list" (((List.range n).map fun i=>Value.bytes (keys i) (kt i))).toArray e)) (hne:kS≠a)
  (h:∀ h' c,(∀ b o,b≠a→b≠kS→s.heap.get? b=some o→h'.get? b=some o)→h'.get? a=some (seqObj "list" ((sortIdx keys n).map fun i=>vs.getD i Value.none).toArray c)→P (.done (.ret .none)) { s with heap:=h' }) :
  wpAny (model prog w) A (ksk_end a false vs.toArray e1 (.ref kS) (((List.range n).map fun i=>Value.bytes (keys i) (kt i))).toArray) P E s:=by
 have hkl:((List.range n).map fun i=>Value.bytes (keys i) (kt i)).length=vs.length:=by simp [hvs]
 have hkg:∀ i,i<n→((List.range n).map fun i=>Value.bytes (keys i) (kt i)).getD i Value.none=Value.bytes (keys i) (kt i):=fun i hi=>by simp [hi]

 have tail:∀ st:SortSt,(arrOf st).map (·.2)=((sortIdx keys n).map fun i=>vs.getD i Value.none).toArray→failedOf st=none→(sortIdx keys n).length=n→wpAny (model prog w) A (ksk_tail a false e1 (.ref kS) st) P E s:=by
  intro st hst hf hlen
  unfold ksk_tail
  simp only [c8S,if_false,hst]
  generalize hout:((sortIdx keys n).map fun i=>vs.getD i Value.none).toArray=out at h ⊢
  have hsz:out.size=n:=by rw [← hout];simp [hlen]
  have s1:=Heap.SameBut.update s.heap kS (Obj.mapSeq fun _=>(#[]:Array Value))
  have na1:(s.heap.update kS (Obj.mapSeq fun _=>(#[]:Array Value))).get? a=some (seqObj "list" #[] e1):=(s1.2 a hne.symm).trans ha
  have s2:=Heap.SameBut.update (s.heap.update kS (Obj.mapSeq fun _=>(#[]:Array Value))) a (Obj.mapSeq fun _=>out)
  have hc2:=get?_update_seq na1 (fun _=>out)
  refine c8e (listUpdate_at hk rfl ?_ (by rw [c7V];simp;lia) (c8z _))
  refine c8e (wpAny_letGo ?_)
  refine c8e (seqEpoch_at na1 rfl ?_)
  refine c8e (listUpdate_at na1 rfl ?_ (c8z _) (by rw [hsz,c7V];lia))
  rw [hf]
  simp only [bne_self_eq_false,c8S,if_false]
  exact c8f (h _ _ (fun b o h1 h2 e=>(s2.2 b h1).trans ((s1.2 b h2).trans e)) hc2)
 unfold ksk_end
 dsimp only
 rw [c7M (by simp)]
 by_cases h2:vs.toArray.size<2
 ·rw [c7K h2,c7K h2]
  refine c8e (c8f ?_)
  rw [StateT.run_pure]
  refine c8e (c8f ?_)
  dsimp only
  have hn2:n<2:=by simpa [hvs] using h2
  refine tail _ ?_ rfl (by simp [sortIdx,hn2])
  show ((if false=true then ((List.toArray ((List.range n).map fun i=>Value.bytes (keys i) (kt i))).zip vs.toArray).reverse else (List.toArray ((List.range n).map fun i=>Value.bytes (keys i) (kt i))).zip vs.toArray).map (·.2)) = _
  simp only [c8S,if_false,sortIdx,c7K hn2]
  apply Array.ext_getElem?
  intro i
  by_cases hi:i<n
  ·simp [hi,hvs,c8n,show i<vs.length by lia]
  ·simp [hi,hvs,c8X,show vs.length≤i by lia]
 ·rw [c7M h2,c7M h2]
  have hn2:2≤n:=by simpa [hvs] using h2
  refine c8e (kas_kind (T:=.type "bytes") (by simp;exact hn2) (fun v hv=>?_) (by decide) (by decide) ?_)
  ·refine (c9n.mp hv).elim fun i Z1=>Z1.elim (fun _ Z2=>?_)
   subst Z2
   exact Looks.of_pure rfl
  have hit:((List.toArray ((List.range n).map fun i=>Value.bytes (keys i) (kt i))).zip vs.toArray).size=n:=by simp [hvs]
  have est:SortSt.mk' oneType' (if false=true then ((List.toArray ((List.range n).map fun i=>Value.bytes (keys i) (kt i))).zip vs.toArray).reverse else (List.toArray ((List.range n).map fun i=>Value.bytes (keys i) (kt i))).zip vs.toArray) #[] 7 none =
    kas_st oneType' ((List.toArray ((List.range n).map fun i=>Value.bytes (keys i) (kt i))).zip vs.toArray) (List.toArray (List.range n)):=by
   simp only [c8S,if_false]
   unfold kas_st
   have:=kas_range ((List.toArray ((List.range n).map fun i=>Value.bytes (keys i) (kt i))).zip vs.toArray)
   rw [hit] at this
   rw [this]
  rw [est]
  have hO:∀ i j,(fun i j=>a1m (keys i).toList (keys j).toList) i j=a4o.blt ((fun i=>(keys i).toList) i) ((fun i=>(keys i).toList) j):=fun _ _=>rfl
  have run:=kas_runs (prog:=prog) (w:=w) (A:=A) (E:=E) (κ:=oneType') (it:=(List.toArray ((List.range n).map fun i=>Value.bytes (keys i) (kt i))).zip vs.toArray) (n:=n) (s:=s)
   (Q:=fun _ st' s'=>s'=s∧(arrOf st').map (·.2)=((sortIdx keys n).map fun i=>vs.getD i Value.none).toArray∧failedOf st'=none∧(sortIdx keys n).length=n)
   (G:=fun p s'=>s'=s∧p.toList=sortIdx keys n) hn2 h64
   (fun p' st' s' a1 a2 a3 a4=>by
    refine a4.elim (clear% a4;fun Z1 a5=>?_)
    subst Z1
    refine⟨rfl,?_,a3,by rw [← a5];simpa using a1⟩
    rw [a2,Array.map_map,← a5]
    apply Array.toList_inj.mp
    simp only [Array.toList_map,List.toList_toArray]
    refine c9o fun i _=>?_
    show (kas_item _ i).2 = _
    rw [kat_item hkl])
   (b1U (O:=a4o) (key:=fun i=>(keys i).toList) (n:=n) (Q:=fun _ _=>True) hO (fun i j C hi hj hC=>by
    unfold kas_cmp
    rw [kat_item hkl,kat_item hkl,hkg i hi,hkg j hj]
    exact b7R hC) _ (b1T (by lia) fun _ _ _=>trivial) ⟨rfl,by unfold sortIdx;rw [c7M (by lia)]⟩)
  refine c8e (c8H run ?_ fun _ _ e=>e)
  rintro⟨⟨⟩,st'⟩ s' ⟨rfl,a1,a2,a3⟩
  exact tail st' a1 a2 a3
end
end
section
structure Kx (a:Addr)(s s':Shared):Prop where
 heap:∀ b o,b≠a→s.heap.get? b=some o→s'.heap.get? b=some o
 os:s'.os=s.os
 toks:s.toks≤s'.toks
 gens:s'.gens=s.gens
section
variable {prog:Program}{w:World}{A:Around}{E:Value→Shared→Prop}{s:Shared}
theorem b4Y {a f:Addr}{vs:List Value}{n c₀:Nat}{keys:Nat→Array UInt8}{kt:Nat→Tok}{P:PySem.Fin→Shared→Prop}(hvs:vs.length=n)(h64:n<64)
  (ho:s.heap.get? a=some (seqObj "list" vs.toArray c₀))
  (hf:∀ i v s',vs[i]?=some v→Kx a s s'→∀ Q':Value→Shared→Prop,(∀ s'',Kf s' s''→Q' (.bytes (keys i) (kt i)) s'')→wpAny (model prog w) A (call (.ref f) [v]) Q' (fun _ _=>False) s')
  (h:∀ s' c,Kx a s s'→s'.heap.get? a=some (seqObj "list" ((sortIdx keys n).map fun i=>vs.getD i Value.none).toArray c)→P (.done (.ret .none)) s') :
  wpAny (model prog w) A (ksk_tree a (.ref f) false) P E s:=by
 have ha:a<s.heap.objs.size:=c7Z ho
 have hsz:vs.toArray.size=n:=by simp [hvs]
 have s1:=Heap.SameBut.update s.heap a (Obj.mapSeq fun _=>(#[]:Array Value))
 have ho1:=get?_update_seq ho fun _=>(#[]:Array Value)
 generalize (if (#[]:Array Value).size==vs.toArray.size then c₀ else c₀+1)=e1 at ho1
 unfold ksk_tree
 refine c8e (listItems_at ho rfl ?_)
 refine c8e (listUpdate_at ho rfl ?_ (by rw [hsz,c7V];lia) (c8z _))
 refine c8e (seqEpoch_at ho1 rfl ?_)
 refine c8e (wpAny_newTuple ?_ (by show vs.toArray.toList.length≤_;simp [hvs];rw [c7V];lia))
 refine c8e (wpAny_newList ?_ (c8z _))
 refine c8c ?_
 generalize hH:((s.heap.update a (Obj.mapSeq fun _=>(#[]:Array Value))).push { cls:=.type "tuple",data:=.seq vs.toArray.toList.toArray })=H
 have hHs:H.objs.size=s.heap.objs.size+1:=by rw [← hH,c8B,Heap.size_update]
 have oldH:∀ b o,b≠a→s.heap.get? b=some o→H.get? b=some o:=fun b o hb e=>by
  rw [← hH];exact c7P _ ((s1.2 b hb).trans e)
 have aH:H.get? a=some (seqObj "list" #[] e1):=by rw [← hH];exact c7P _ ho1
 have hka:H.objs.size≠a:=Nat.ne_of_gt (by rw [hHs];exact Nat.lt_succ_of_lt ha)
 have newk:∀ b o,s.heap.get? b=some o→b≠H.objs.size:=fun b o e=>c8A (Nat.lt_trans (c7Z e) (by rw [hHs];exact c8r _))
 let ks:List Value:=(List.range n).map fun i=>Value.bytes (keys i) (kt i)
 unfold ksk_rest
 refine c8e (wpAny_rule ?_)
 rw [← Array.forIn_toList,List.toList_toArray]
 refine c8e (ksk_fold (fun i s'=>Kx a s s'∧s'.heap.get? a=some (seqObj "list" #[] e1)∧∃ e,s'.heap.get? H.objs.size=some (seqObj "list" (ks.take i).toArray e)) vs 0 _
  ⟨⟨fun b o hb e=>c7P _ (oldH b o hb e),rfl,c7G _,rfl⟩,c7P _ aH,0,(show (H.push { cls:=.type "list",data:=.seq ([]:List Value).toArray }).get? H.objs.size=some _ from c8a _ rfl)⟩ ?step ?done)
 case step=>
  rintro j x s' hx ⟨kx,ka,e,kk⟩
  simp only [c9a] at kk ⊢
  have hj:j<n:=by rw [← hvs];exact (c8D.mp hx).1
  refine c8e (wpAny_attempt (c8H (hf j x s' hx kx (fun v s''=>v=.bytes (keys j) (kt j)∧Kf s' s'') fun s'' k=>⟨rfl,k⟩) (fun v s'' he=>?_) fun _ _ hF=>hF.elim))
  refine he.elim (clear% he;fun Z1 k=>?_)
  subst Z1
  dsimp only
  have kk':=k.heap _ _ kk
  have hkz:(ks.take j).toArray.size=j:=by simp [ks];lia
  have s2:=Heap.SameBut.update s''.heap H.objs.size (Obj.mapSeq (·.push (.bytes (keys j) (kt j))))
  have hc2:=get?_update_seq kk' (·.push (.bytes (keys j) (kt j)))
  refine c8e (listUpdate_at kk' rfl ?_ (by rw [hkz,c7V];lia) (by rw [Array.size_push,hkz,c7V];lia))
  have e3:(ks.take j).toArray.push (.bytes (keys j) (kt j))=(ks.take (j+1)).toArray:=by
   rw [List.take_add_one]
   simp [ks,hj]
  rw [e3] at hc2
  refine c8f ⟨rfl,⟨fun b o hb e=>?_,k.os.trans kx.os,c7O kx.toks k.toks,k.gens.trans kx.gens⟩,?_,⟨_,hc2⟩⟩
  ·exact (s2.2 b (newk b o e)).trans (k.heap _ _ (kx.heap b o hb e))
  ·exact (s2.2 a hka.symm).trans (k.heap _ _ ka)
 case done=>
  rintro s' ⟨kx,ka,e,kk⟩
  have ek:ks.take (0+vs.length)=ks:=List.take_of_length_le (by simp [ks,hvs])
  rw [ek] at kk
  dsimp only
  refine c8e (listItems_at kk rfl ?_)
  refine b7S hvs h64 ka kk hka fun h' c hk hc=>h _ c ⟨fun b o hb e=>hk b o hb (newk b o e) (kx.heap b o hb e),kx.os,kx.toks,kx.gens⟩ hc
theorem b3j {r f:Addr}{n:Nat}{m:Int}{t u v:Tok}{keys:Nat→Array UInt8}{kt:Nat→Tok}{Q:Value→Shared→Prop}(hh:A.handled=none)(hr:IsRange s.heap r 0 m 1 t u v)(hsmall:Builtin.Range.small 0 m 1=true)
  (hn:Builtin.Range.rangeSize 0 m 1=n) (h64:n<64)
  (hf:∀ i s' k,i<n→Kf s s'→∀ Q':Value→Shared→Prop,(∀ s'',Kf s' s''→Q' (.bytes (keys i) (kt i)) s'')→wpAny (model prog w) A.in1.in1 (call (.ref f) [.int i k]) Q' (fun _ _=>False) s')
  (hQ:∀ D s' vs,Kf s s'→s.heap.get? D=none→s'.heap.IsList D (List.toArray vs)→IntsAre vs ((sortIdx keys n).map fun i=>((i:Nat):Int))→Q (.ref D) s')
  (hin:∀ i∈sortIdx keys n,i<n) :
  wpAny (model prog w) A (call (.builtin "sorted") [.ref r] [(Str.ofString "key",.ref f)]) Q E s:=by
 refine c7Y (n:=s.toks) (c7G _) ?_
 refine call_function_entry_kw kind_sorted plain_sorted entry_sorted (ksk_s1 _ _) ?_
 unfold Builtin.«sorted»
 refine c8e (m:=checkCount "sorted" 1 1 _) (c8f ?_)
 refine c8e (c7Y (n:=s.toks) (c7G _) (a8x (A:=A.in1) hh hr hsmall hn (by lia) fun h' tk acc hk hacc htk=>?_))
 have hl:acc.toList.length=n:=by rw [Array.length_toList];exact hacc.1
 refine c8e (wpAny_newList ?_ (by rw [hl,c7V];lia))
 have hoL:(h'.push { cls:=.type "list",data:=.seq acc.toList.toArray }).get? h'.objs.size=some (seqObj "list" acc.toList.toArray 0):=c8a _ rfl
 have hD:s.heap.get? h'.objs.size=none:=by
  cases e:s.heap.get? h'.objs.size with
  | none=>rfl
  | some o=>exact absurd (c7Z (hk _ _ e)) (Nat.lt_irrefl _)
 have newD:∀ b o,s.heap.get? b=some o→b≠h'.objs.size:=fun b o e q=>by rw [q,hD] at e;cases e
 refine c8e (c8c (wpAny_call_entry_kw slot_list_sort ⟨_,hoL,rfl⟩ entry_list_sort ?body (ksk_l1 _ _)))
 case body=>
  rw [ksk_t1]
  refine b4Y (s:={ s with heap:=h'.push { cls:=.type "list",data:=.seq acc.toList.toArray },toks:=tk }) (keys:=keys) (kt:=kt) hl h64 hoL (fun i v s' hv kx Q' hq=>?_) fun s' c kx hc=>?_
  ·have hi:i<n:=by rw [← hl];exact (c8D.mp hv).1
   refine (hacc.2 i v (by rw [← Array.getElem?_toList];exact hv)).elim fun k Z1=>?_
   subst Z1
   rw [show (0:Int)+i*1=i by lia]
   exact hf i s' k hi ⟨fun b o e=>kx.heap b o (newD b o e) (c7P _ (hk _ _ e)),kx.os,c7O htk kx.toks,kx.gens⟩ Q' hq
  ·refine⟨_,rfl,c8f ⟨_,rfl,fun _=>?_⟩⟩
   refine hQ _ s' _ ⟨fun b o e=>kx.heap b o (newD b o e) (c7P _ (hk _ _ e)),kx.os,c7O htk kx.toks,kx.gens⟩ hD ⟨_,hc,rfl,c,rfl⟩ ?_
   have go:∀ l:List Nat,(∀ i∈l,i<n)→IntsAre (l.map fun i=>acc.toList.getD i Value.none) (l.map fun i=>((i:Nat):Int)):=by
    intro l
    induction l with
    | nil=>intro _;exact .nil
    | cons i l ih=>
     intro hl'
     have hi:=hl' i c8L
     have hia:i<acc.size:=by rw [hacc.1];exact hi
     refine (hacc.2 i acc[i] (by simp [hia])).elim fun k hk'=>?_
     have e:acc.toList.getD i Value.none=.int i k:=by
      rw [show acc.toList.getD i Value.none=acc[i] by simp [hia],hk',show (0:Int)+i*1=i by lia]
     rw [c9g,c9g,e]
     exact .cons _ _ (ih fun j hj=>hl' j (c8O _ hj))
   exact go _ hin
theorem a7D {keys:Nat→Array UInt8}{n:Nat}(i:Nat)(hi:i∈sortIdx keys n):i<n:=by
 unfold sortIdx at hi
 split at hi
 ·simpa using hi
 ·rename_i h
  let s0:Shared:={}
  have:=a6I (O:=a4o) (key:=fun i=>(keys i).toList) (n:=n) (Q:=fun p _=>PB n p) (s:=s0) (lt:=fun i j=>a1m (keys i).toList (keys j).toList) (fun _ _=>rfl) _ (b1T (by lia) fun p' hp _=>hp)
  have hp:=(Array.perm_iff_toList_perm.mp this.perm).mem_iff.mp hi
  simpa using hp
end
end
section
theorem a9C {α:Type}{O:KeyOrd}{key:Nat→O.α}{n:Nat}{lt lt':Nat→Nat→Bool}{Q:α→Shared→Prop}{s:Shared}(hlt:∀ i j,lt i j=O.blt (key i) (key j))
  (he:∀ i j,i<n→j<n→lt' i j=lt i j) (t:KasT α) (h:t.kasWp (b4V O key n) Q s):kasRun lt' t=kasRun lt t:=by
 induction t with
 | ret a=>rfl
 | ask i j k ih=>
  show kasRun lt' (k (lt' i j))=kasRun lt (k (lt i j))
  rw [he i j h.1 h.2.1]
  refine ih _ ?_
  rw [hlt]
  exact h.2.2
noncomputable def b3k (keys:Nat→Array UInt8)(n:Nat):List (List UInt8×D):=(List.range n).map fun (i:Nat)=>((keys i).toList,D.int (i:Int))
theorem a8y {keys:Nat→Array UInt8}{n i:Nat}(hi:i<n):(b3k keys n).getD i ([],.none)=((keys i).toList,D.int i):=by
 rw [c8m]
 unfold b3k
 rw [c8M,c9p hi]
 rfl
theorem a9D {keys:Nat→Array UInt8}{n:Nat}:b7f (b3k keys n)=(sortIdx keys n).map fun (i:Nat)=>D.int (i:Int):=by
 have hl:(b3k keys n).length=n:=(c8u ..).trans c8v
 have hm:∀ i∈sortIdx keys n,i<n:=fun i hi=>a7D i hi
 unfold b7f
 rw [hl]
 unfold sortIdx at hm ⊢
 by_cases h:n<2
 ·rw [c7K h,c7K h]
  unfold b3k
  rw [c8E]
  rfl
 ·rw [c7M h] at hm
  rw [c7M h,c7M h]
  have e:=a9C (O:=a4o) (key:=fun i=>(keys i).toList) (n:=n) (s:=({}:Shared)) (lt:=fun i j=>a1m (keys i).toList (keys j).toList)
   (lt':=fun i j=>a1m ((b3k keys n).getD i ([],.none)).1 ((b3k keys n).getD j ([],.none)).1)
   (Q:=fun _ _=>True) (fun _ _=>rfl) (fun i j hi hj=>by
    show a1m _ _=a1m _ _
    rw [a8y hi,a8y hj]) _ (b1T (n:=n) (c7O (by decide) (Nat.not_lt.mp h)) fun _ _ _=>trivial)
  rw [e]
  exact c9o fun i hi=>by rw [a8y (hm i hi)]
section
variable {G:GC}{F:Fns}{lvl:Nat}{Γ:Ctx}{sc:a0h}{σ:Store}{oa:Nat→Addr}{s s':Shared}
noncomputable def c3u (h:Heap)(va:Value)(i:Nat)(b:Array UInt8)(tk:Tok):Prop:=∀ (prog:Program) (w:World) (A:Around) (E:Value→Shared→Prop) (s:Shared) (Q:Value→Shared→Prop) (value slice:Expr) (u:Tok),(∀ b o,h.get? b=some o→s.heap.get? b=some o)→Q (.bytes b tk) s →
   wpAny (model prog w) A (subscriptTail value slice va (.int i u)) Q E s
theorem a9E {prog:Program}{w:World}{value slice:Expr}{o i:Value}{T id:String}{A:Around}{s:Shared}{E Q:Value→Shared→Prop}(hT:s.TypeIs o T)(hl:typeLookup (.type T) "__getitem__"=pure (some (.builtin id)))
  (hg:wpAny (model prog w) A (getItem o i) Q E s):wpAny (model prog w) A (subscriptTail value slice o i) Q E s:=by
 refine (a3y slice o i).elim fun ops hs=>?_
 exact tail_any hT hl hg hs
theorem b3l {C:RC}{B:Addr→Prop}{h:Heap}{n:Nat}{va:Value}{d:D}{i:Nat}{b:Array UInt8}(ha:Rep C B h n va d)(hd:a4C d (.int i)=some (.bytes b)):∃ tk,c3u h va i b tk:=by
 rcases a0I hd with hd | hd
 ·refine a0j hd (clear% hd;fun l hl hd=>?_)
  refine a0j (show (b0B i l.length).bind (l[·]?) = _ from hd) fun j hj hd=>?_
  rw [a2i hl] at ha
  obtain⟨a,vs,rfl,_,hl,rl⟩:=ha.view
  have I:=a5p hj
  refine (rl.get j _ hd).elim fun v Z1=>Z1.elim (fun hv rv=>?_)
  refine (rv.view).elim fun tk Z1=>?_
  subst Z1
  refine⟨tk,fun prog w A E s Q value slice u hk hQ=>?_⟩
  have hl':=a3q hl fun o=>hk _ o
  exact a9E hl'.typeIs slot_list_getitem.lookup (wpAny_getItem_list hl' (c8t i) I.hi' (x:=.bytes b tk) (by rw [I.pos (c8t i),c8q];exact hv) hQ)
 rcases a0I hd with hd | hd
 ·refine a0j hd (clear% hd;fun l hl hd=>?_)
  refine a0j (show (b0B i l.length).bind (l[·]?) = _ from hd) fun j hj hd=>?_
  rw [a2m hl] at ha
  obtain⟨a,vs,rfl,_,hl,rl⟩:=ha.view
  have I:=a5p hj
  refine (rl.get j _ hd).elim fun v Z1=>Z1.elim (fun hv rv=>?_)
  refine (rv.view).elim fun tk Z1=>?_
  subst Z1
  rw [← rl.length] at I
  refine⟨tk,fun prog w A E s Q value slice u hk hQ=>?_⟩
  have hl':=a8b hl fun o=>hk _ o
  exact a9E hl'.typeIs slot_tuple_getitem.lookup (getItem_tuple hl' I.lo' I.hi' (j:=j) I.seq ((c8q ..).trans hv) hQ)
 rcases a0I hd with hd | hd
 ·refine a0j hd (clear% hd;fun l hl hd=>?_)
  refine a2v (show b7e l i = _ from hd) fun c _ e=>?_
  cases e
 ·refine a0j hd (clear% hd;fun l hl hd=>?_)
  exact a0e hd
theorem a8z {t:Nat}{σ₀:Store}(h:a3w σ [t]=some σ₀):∃ d,σ.get t=some (.val d)∧σ₀=[(t,.val d)]:=by
 unfold a3w at h
 rw [c8i] at h
 refine a0j h (clear% h;fun p hp h=>?_)
 refine a0j h (clear% h;fun q hq h=>?_)
 cases c7Q (show some []=some q from hq)
 refine a0j hp (clear% hp;fun sl hs hp=>?_)
 refine a2v hp (clear% hp;fun d hd Z1=>?_)
 subst Z1
 exact⟨d,(a6s hd) ▸ hs,(c7Q h).symm⟩
theorem b7T {σ₀:Store}{x:Nat}{ev:Store→Option D}{items:List D}{keys:List (List UInt8×D)}(h:b1G σ₀ x ev items=some keys) :
  keys.length=items.length∧∀ (j:Nat) (d:D),items[j]?=some d→∃ σ' v b,a3o σ₀ (.one x) d=some σ'∧ev σ'=some v∧v.asBytes=some b∧keys[j]?=some (b.toList,d):=by
 induction items generalizing keys with
 | nil=>cases a1u h;exact⟨rfl,fun j d e=>nomatch e⟩
 | cons d ds ih=>
  obtain⟨k,r,hk,hr,rfl⟩:=a3R h
  refine (ih hr).elim fun i1 i2=>?_
  refine⟨c7H (·+1) i1,fun j d' e=>?_⟩
  cases j with
  | zero=>
   cases c7Q e
   refine a0j hk (clear% hk;fun σ' h1 hk=>?_)
   refine a0j hk (clear% hk;fun v h2 hk=>?_)
   refine a2v hk (clear% hk;fun b h3 Z1=>?_)
   subst Z1
   exact⟨σ',v,b,h1,h2,h3,rfl⟩
  | succ j=>exact i2 j d' e
theorem c3v {t x:Nat}{d:D}{σ':Store}{i v:D}(hb:a3o [(t,.val d)] (.one x) i=some σ')(hv:evE F σ' (.idx (.var t) (.var x))=some v):a4C d i=some v:=by
 refine (a0P hb).elim fun hn hb=>?_
 refine a0Q (show grd (noMeth [(t,Slot.val d)] x) (some (Store.set [(t,Slot.val d)] x (.val i)))=some σ' from hb) fun _ hb=>?_
 have hxt:t≠x:=fun q=>by
  have h1:(Store.get [(t,Slot.val d)] x).isNone=true:=(a0i hn).1
  rw [← q,a0R,c7R] at h1
  exact c7I h1
 have e1:σ'.get t=some (.val d):=by rw [← hb,Store.get_set,c7M hxt,a0R,c7R];rfl
 have e2:σ'.get x=some (.val i):=by rw [← hb,Store.get_set,c7K rfl]
 refine a0j (show ((σ'.get t).bind Slot.read).bind _ = _ from hv) fun a ha h=>?_
 refine a0j (show ((σ'.get x).bind Slot.read).bind _ = _ from h) fun b hb h=>?_
 rw [e1] at ha
 rw [e2] at hb
 cases c7Q (show some d=some a from ha)
 cases c7Q (show some i=some b from hb)
 exact h
theorem b7U {t x n:Nat}{d:D}{keys:List (List UInt8×D)}(h:b1G [(t,.val d)] x (fun σ'=>evE F σ' (.idx (.var t) (.var x))) ((List.range n).map fun (i:Nat)=>.int (0+i*1))=some keys) :
  ∃ kb:Nat→Array UInt8,keys=b3k kb n∧∀ j,j<n→a4C d (.int (j:Int))=some (.bytes (kb j)):=by
 refine (b7T h).elim fun hl hg=>?_
 have hl:keys.length=n:=hl.trans ((c8u ..).trans c8v)
 have hk:∀ j,j<n→∃ b,a4C d (.int (j:Int))=some (.bytes b)∧keys[j]?=some (b.toList,.int (j:Int)):=fun j hj=>by
  obtain⟨σ',v,b,h1,h2,h3,h4⟩:=hg j (.int (j:Int)) (by rw [c8M,c9p hj];exact c7H (fun i=>some (D.int i)) ((Int.zero_add _).trans (Int.mul_one _)))
  exact⟨b,a2X h3 ▸ c3v h1 h2,h4⟩
 refine⟨fun j=>((a4C d (.int (j:Int))).bind D.asBytes).getD #[],List.ext_getElem? fun j=>?_,fun j hj=>?_⟩
 ·unfold b3k
  by_cases hj:j<n
  ·refine (hk j hj).elim fun b Z1=>Z1.elim (fun h1 h2=>?_)
   rw [h2,c8M,c9p hj]
   show _=some ((((a4C d (.int (j:Int))).bind D.asBytes).getD #[]).toList,_)
   rw [h1]
   rfl
  ·rw [c8X (hl ▸ Nat.not_lt.mp hj),c8X (by rw [c8u,c8v];exact Nat.not_lt.mp hj)]
 ·refine (hk j hj).elim fun b Z1=>Z1.elim (fun h1 _=>?_)
  show a4C d (.int (j:Int))=some (D.bytes (((a4C d (.int (j:Int))).bind D.asBytes).getD #[]))
  rw [h1]
  rfl
end
end
section
structure SKE (nm:Nat→Str)(sc:a0h)(fv:List Nat)(x:Nat)(body:PE)(e a L:Expr)(t:Nat):Prop where
 fv:fv=[t]
 body:body=.idx (.var t) (.var x)
 call:∃ q,GCall sc ("sorted":Str) e [a] [⟨some ("key":Str),L,q⟩]
 lam:LamE nm sc t x L (vw L).ps (vw L).sc
theorem b9z {k:Keyword}{n:Option Str}(h:k.arg=n):k=⟨n,k.value,k.pos⟩:=by
 cases k
 exact h ▸ rfl
theorem c0S {nm:Nat→Str}{sc:a0h}{fv:List Nat}{x:Nat}{body:PE}{e:Expr}(h:c7a nm sc fv x body e=true):∃ t,SKE nm sc fv x body e (arg e 0) (c5H e) t:=by
 refine a0b h (clear% h;fun h h5=>?_)
 refine a0b h (clear% h;fun h h4=>?_)
 refine a0b h (clear% h;fun h h3=>?_)
 refine a0b h (clear% h;fun h1 h2=>?_)
 have C:=b0P h1
 rw [es1 (d:=e) (c8d h2),es1 (d:=(⟨none,e,default⟩:Keyword)) (c8d h3)] at C
 cases hs:b4H fv x body with
 | none=>rw [hs] at h5;exact absurd h5 c7I
 | some t=>
  rw [hs] at h5
  refine (b4I hs).elim fun e1 e2=>?_
  refine⟨t,e1,e2,⟨((vw e).ks.getD 0 ⟨none,e,default⟩).pos,?_⟩,b7A h5⟩
  have hk:(vw e).ks.headD ⟨none,e,default⟩=(vw e).ks.getD 0 ⟨none,e,default⟩:=by cases (vw e).ks <;> rfl
  rw [hk] at h4
  have e3:(vw e).ks.getD 0 ⟨none,e,default⟩=⟨some ("key":Str),c5H e,((vw e).ks.getD 0 ⟨none,e,default⟩).pos⟩:=(b9z (c8d h4)).trans (c7H (fun v=>Keyword.mk _ v _) (c7H Keyword.value hk.symm))
  exact e3 ▸ C
section
variable {G:GC}{F:Fns}{lvl:Nat}{Γ:Ctx}{sc:a0h}{σ:Store}{oa:Nat→Addr}{s s':Shared}
theorem St.cellOf (S:St G Γ lvl sc σ oa s){t:Nat}{d:D}(hd:σ.get t=some (.val d))(hc:sc.lookup (G.nm t)=some .cell):∃ c v,Γ.env.cells.lookup (G.nm t)=some c∧s.heap.IsCell c (some v)∧RD G Γ σ oa s v d:=by
 refine (S.slots).elim fun m Z1=>Z1.elim (fun _ hm=>?_)
 refine (hm t _ hd).elim fun v Z1=>Z1.elim (fun hv sv=>?_)
 cases hv with
 | loc h1=>rw [hc] at h1;cases h1
 | cel c _ h2 h3=>exact⟨c,v,h2,h3,sv⟩
theorem b1a {b:PE}{e y:Expr}{u:D}{i:Int}(hB:GlobsOK G)(C:a1B sc "range" e [y])(hA:EvJ G F lvl sc b y)(S:St G Γ lvl sc σ oa s)(hu:evE F σ b=some u)(hi:u.asInt=some i)
  {Q:Value→Shared→Prop} {E:Value→Shared→Prop} (hQ:∀ r s' t u v,Af G s s'→IsRange s'.heap r 0 i 1 t u v→Q (.ref r) s'):wpAny (model G.prog G.w) Γ.A (eval e Γ.env) Q E s:=by
 obtain⟨⟨p,q,rfl⟩,h1,h2,h3⟩:=C
 refine a2n S h1 (hB.types "range" (by decide)) h2 h3 (a5r h3 hA S hu fun v s₁ a₁ r=>?_)
 exact r.intP (P:=fun v=>wpAny _ _ (call (.type "range") [v]) _ E s₁) hi fun t=>call_range_1 (hQ _ _ _ _ _ (a₁.kf (Kf.push (c8p _ 2))) (IsRange.new _ _ _ _ _ _ _))
theorem a9F {b:PE}{fv:List Nat}{x t:Nat}{body:PE}{e e' y L:Expr}(hB:GlobsOK G)(K:SKE G.nm sc fv x body e e' L t)(C:a1B sc "range" e' [y])(hA:EvJ G F lvl sc b y):a3p G F lvl sc (.sortedKey (.range1 b) fv x body) e:=fun Γ σ oa s ds S h Q E hQ=>by
 obtain⟨rfl,rfl,⟨kq,⟨p,q',rfl⟩,g1,g2,g3⟩,KL⟩:=K
 refine a0j (show (evI F σ (.range1 b)).bind _ = _ from h) fun items hit h=>?_
 refine a0j h (clear% h;fun σ₀ hσ h=>?_)
 refine a0j h (clear% h;fun keys hkeys h=>?_)
 refine a0Q h (clear% h;fun h64 Z1=>?_)
 subst Z1
 refine a0j (show (evE F σ b).bind _ = _ from hit) fun u hu hit=>?_
 refine a0j hit (clear% hit;fun i hi hit=>?_)
 refine (a4m hit).elim fun n R=>?_
 refine (a8z hσ).elim fun d Z1=>Z1.elim (fun hd Z2=>?_)
 subst Z2
 rw [← R.eq] at hkeys
 refine (b7U hkeys).elim fun kb Z1=>Z1.elim (fun Z2 hkb=>?_)
 subst Z2
 have h64:n<64:=by
  have h:=c7U h64
  unfold b3k at h
  rw [c8u,c8v] at h
  exact h
 rw [a9D] at hQ
 obtain⟨c,v₀,hc,hcv,rv⟩:=S.cellOf hd KL.cell
 obtain⟨⟨lp,lp1,lp2,lq,eL,hcol⟩,hp,hsc,ot,ox,hlam,_⟩:=KL
 have hnm:(vw L).sc.names=[(G.nm x,.local),(G.nm t,.free)]:=c8d (a0i (a0i (a0i (a0i (a0i hsc).1).1).1).1).2
 refine a6e S (d:=.list ((sortIdx kb n).map fun (j:Nat)=>D.int (j:Int))) (fun Q' E' hQ'=>?_) rfl Q E hQ
 refine wpAny_Call_Name_kw (c8I (S.glob g1 (hB.fns "sorted" (by decide)) ?_) g2)
 refine callWith_builtin_kwB (a1v g3) rfl (a6c g3 rfl (c9e ?_ (a0s (a0i g3).1)))
 refine b1a hB C hA S hu hi fun rr s₁ t1 t2 t3 a₁ hr=>c9d ?_
 have S₁:=S.af a₁
 show wpAny _ _ (evalAll [(do let v ← eval L Γ.env;standAt q';pure v)]) _ _ s₁
 rw [eL]
 refine wpAny_evalAll_cons (c8e (b7P S₁ hlam hc hnm hp hcol fun f s₂ a₂ hL hnew=>c8e (c8J (c8f (wpAny_evalAll_nil ?_)))))
 have S₂:=S₁.af a₂
 have rv₂:RD G Γ σ oa s₂ v₀ d:=Rep.kp S₁ (Rep.kp S rv a₁.kp) a₂.kp
 have hcv₂:s₂.heap.IsCell c (some v₀):=by
  refine hcv.elim (clear% hcv;fun o Z1=>Z1.elim (fun eo ed=>?_))
  exact⟨o,a9j S (a₁.trans a₂).kp _ o (a1W ed nofun) eo,ed⟩
 have hr₂:IsRange s₂.heap rr 0 i 1 t1 t2 t3:=a₂.kp.heap _ _ (fun q=>(G.tabGet _ a₁.gst.tab rr q).elim fun ps' ht=>by
  have hr':s₁.heap.get? rr = _:=hr
  rw [hr'] at ht
  cases ht) hr
 have hitem:∀ j,∃ tk,j<n→c3u s₂.heap v₀ j (kb j) tk:=fun j=>by
  by_cases hj:j<n
  ·exact (b3l rv₂ (hkb j hj)).elim fun tk ht=>⟨tk,fun _=>ht⟩
  ·exact⟨0,fun q=>absurd q hj⟩
 have hkt:=fun j=>Classical.choose_spec (hitem j)
 refine b3j (A:=Γ.A) (keys:=kb) (kt:=fun j=>Classical.choose (hitem j)) (n:=n) S.aok.1 hr₂ R.small R.size h64 (fun j s' k hj kf Q'' hq=>?_) (fun Dd s' vs kf hD hl hI=>?_) fun j hj=>a7D j hj
 ·obtain⟨o,qual,pm,cdv,ctv,ho,hod,hrec⟩:=hL.out
  refine b7Q ?_ ((G.lim.keeps a₂.gst.base).keeps kf.heap) ⟨o,qual,pm,cdv,ctv,kf.heap _ _ ho,hod,a5K hrec kf.heap⟩ hp hsc ot ox (v₀:=v₀) (v:=.bytes (kb j) _) (hcv₂.elim fun oc q=>⟨oc,kf.heap _ _ q.1,q.2⟩) (fun A' E' s'' Q₃ hk hQ₃=>?_) fun s'' k'=>hq s'' k'
  ·have h:=S.aok.2.1
   show Γ.A.depth+2<_
   exact c7W (c7O (c8G (by decide:2≤20) _) (c8F (c8p _ lvl) _)) h
  ·exact hkt j hj _ _ A' E' s'' Q₃ _ _ k (fun b o e=>hk b o (kf.heap b o e)) hQ₃
 ·refine hQ' _ s' (.of ((a₁.trans a₂).kf kf) (.list (fun q=>(S₂.alloc _ q).elim fun o e=>a0f hD e rfl) hl ?_))
  have h:=b4u (C:=rc G Γ) (B:=a0k Γ σ oa) (h:=s'.heap) (n:=s'.toks) hI
  rw [c8E] at h
  exact h
end
end
section
section
variable (G:GC)(F:Fns)(lvl:Nat)
noncomputable def M1 (pe:PE):Prop:=∀ (sc:a0h) (e:Expr),(mE G.nm sc pe e=true→EvJ G F lvl sc pe e)∧(mT G.nm sc pe e=true→TsJ G F lvl sc pe e)∧(mI G.nm sc pe e=true→a3p G F lvl sc pe e)
noncomputable def M2 (pes:PEs):Prop:=∀ (sc:a0h) (es:List Expr),(mEs G.nm sc pes es=true→es.all a0J=true→a5q G F lvl sc pes es)∧(c2A G.nm sc pes es=true→b6Y G F lvl sc pes es)∧(mPs G.nm sc pes es=true→PsJ G F lvl sc pes es) ∧
 (mBs G.nm sc pes es=true→∀ op,BsJ G F lvl sc op pes es)
noncomputable def M3 (po:PO):Prop:=∀ (sc:a0h),(∀ ks,mKw G.nm sc po ks=true→KwJ G F lvl sc po ks)∧∀ o,mO G.nm sc po o=true→a8q G F lvl sc po o
noncomputable def M4 (pgs:PGs):Prop:=∀ (sc names:a0h) (gs:List Comprehension),mGs G.nm sc names pgs gs=true→(∀ g∈gs,g.is_async=0)∧((∀ x,a3j names x=true→a3j sc x=true)→∀ elt' elt,EvJ G F lvl sc elt' elt→GsJ G F lvl sc names elt' elt pgs gs)
end
section
variable {G:GC}{F:Fns}{lvl:Nat}
theorem no {P:Prop}(h:false=true):P:=absurd h c7I
theorem b9A:M2 G F lvl .nil:=fun sc es=>
 ⟨fun h _=>c8V.mp h ▸ args_nil,fun h=>c8V.mp h ▸ c0K,fun h=>c8V.mp h ▸ c3l,fun h op=>c8V.mp h ▸ c3o⟩
theorem b4Z {pe:PE}{pes:PEs}(h1:M1 G F lvl pe)(h2:M2 G F lvl pes):M2 G F lvl (.cons pe pes):=fun sc es=>by
 cases es with
 | nil=>exact⟨fun h=>no (a0i (a0i h).1).1,fun h=>no (a0i (a0i h).1).1,fun h=>no (a0i (a0i (a0i h).1).1).1,fun h=>no (a0i (a0i h).1).1⟩
 | cons e es=>
  refine (h1 sc e).elim fun a1 Z1=>Z1.elim (fun a2 _=>?_)
  obtain⟨b1,b2,b3,b4⟩:=h2 sc es
  exact⟨fun h hs=>args_cons (a0i hs).1 (a1 (a0i (a0i h).1).2) (b1 (a0i h).2 (a0i hs).2),fun h=>b7K (a2 (a0i (a0i h).1).2) (b2 (a0i h).2),
   fun h=>c0D (a0i (a0i (a0i h).1).1).2 ((h1 sc (b4G e)).1 (a0i (a0i h).1).2) (b3 (a0i h).2),fun h op=>c0F (a2 (a0i (a0i h).1).2) (b4 (a0i h).2 op)⟩
theorem c5M:M3 G F lvl .no:=fun sc=>⟨fun ks h=>c8V.mp h ▸ c5I,fun o h=>c8W.mp h ▸ c0B⟩
theorem c3w {pe:PE}(h1:M1 G F lvl pe):M3 G F lvl (.yes pe):=fun sc=>⟨fun ks h=>by
 refine a0b h (clear% h;fun h h3=>?_)
 refine a0b h (clear% h;fun h2 h4=>?_)
 have e1:=es1 (d:=(⟨none,default,default⟩:Keyword)) (c8d h2)
 cases ks with
 | nil=>cases h2
 | cons k r=>
  rw [e1]
  show KwJ G F lvl sc _ [k]
  rw [b9z (k:=k) (c8d h4)]
  exact c3d ((h1 sc k.value).1 h3),fun o h=>by
 cases o with
 | none=>exact no (a0i (a:=(none:Option Expr).isSome) (b:=mE G.nm sc pe default) h).1
 | some e=>exact b7E ((h1 sc e).1 (a0i (a:=(some e).isSome) (b:=mE G.nm sc pe e) h).2)⟩
theorem b9B:M4 G F lvl .nil:=fun sc names gs h=>by
 rw [c8V.mp h]
 exact⟨nofun,fun _ elt' elt hE=>c2V hE⟩
theorem b5a {t:Tgt}{iter:PE}{ifs:PEs}{pgs:PGs}(h1:M1 G F lvl iter)(h2:M2 G F lvl ifs)(h3:M4 G F lvl pgs):M4 G F lvl (.cons t iter ifs pgs):=fun sc names gs h=>by
 refine a0b h (clear% h;fun h k6=>?_)
 refine a0b h (clear% h;fun h k5=>?_)
 refine a0b h (clear% h;fun h k4=>?_)
 refine a0b h (clear% h;fun h k3=>?_)
 refine a0b h (clear% h;fun k1 k2=>?_)
 cases gs with
 | nil=>cases k1
 | cons g gs=>
  obtain⟨t',i',f',a⟩:=g
  have k1:a=0:=c8d k1
  subst k1
  refine (h3 sc names gs k6).elim fun b1 b2=>?_
  exact⟨fun g hg=>(c8o.mp hg).elim (fun q=>q ▸ rfl) (b1 g),fun hsub elt' elt hE=>c0x k4 hsub k2 b1 ((h1 sc i').2.2 k3) ((h2 sc f').2.1 k5) (b2 hsub elt' elt hE)⟩
section
variable {pe:PE}
theorem m1E (hT:∀ sc e,mT G.nm sc pe e=false)(hI:∀ sc e,mI G.nm sc pe e=false)(h:∀ sc e,mE G.nm sc pe e=true→EvJ G F lvl sc pe e):M1 G F lvl pe:=fun sc e=>⟨h sc e,fun q=>no ((hT sc e).symm.trans q),fun q=>no ((hI sc e).symm.trans q)⟩
theorem c5k (hI:∀ sc e,mI G.nm sc pe e=false)(h:∀ sc e,mE G.nm sc pe e=true→EvJ G F lvl sc pe e)(h':∀ sc e,mT G.nm sc pe e=true→TsJ G F lvl sc pe e):M1 G F lvl pe:=fun sc e=>⟨h sc e,h' sc e,fun q=>no ((hI sc e).symm.trans q)⟩
theorem m1T (hE:∀ sc e,mE G.nm sc pe e=false)(hI:∀ sc e,mI G.nm sc pe e=false)(h:∀ sc e,mT G.nm sc pe e=true→TsJ G F lvl sc pe e):M1 G F lvl pe:=fun sc e=>⟨fun q=>no ((hE sc e).symm.trans q),h sc e,fun q=>no ((hI sc e).symm.trans q)⟩
theorem m1I (hE:∀ sc e,mE G.nm sc pe e=false)(hT:∀ sc e,mT G.nm sc pe e=false)(h:∀ sc e,mI G.nm sc pe e=true→a3p G F lvl sc pe e):M1 G F lvl pe:=fun sc e=>⟨fun q=>no ((hE sc e).symm.trans q),fun q=>no ((hT sc e).symm.trans q),h sc e⟩
theorem m1N (hE:∀ sc e,mE G.nm sc pe e=false)(hT:∀ sc e,mT G.nm sc pe e=false)(hI:∀ sc e,mI G.nm sc pe e=false):M1 G F lvl pe:=m1I hE hT fun sc e q=>no ((hI sc e).symm.trans q)
end
noncomputable abbrev ff:∀ (_:a0h) (_:Expr),false=false:=fun _ _=>rfl
section
variable (hF:FOK G F lvl)(hB:GlobsOK G){a b c t i:PE}{es:PEs}{lo hi:PO}(A:M1 G F lvl a)(B:M1 G F lvl b)(C:M1 G F lvl c)(T:M1 G F lvl t)(I:M1 G F lvl i)(Es:M2 G F lvl es)(Lo:M3 G F lvl lo)(Hi:M3 G F lvl hi)
theorem a1H {J:Expr→Prop}{e e':Expr}(h:e=e')(k:J e'):J e:=h.symm ▸ k
theorem c3x:M1 G F lvl .none:=m1E ff ff fun sc e h=>(a4e h).elim fun _ q=>q.elim fun _ q=>a1H q c0y
theorem c3y (x:Bool):M1 G F lvl (.bool x):=c5k ff (fun sc e h=>(a4e h).elim fun _ q=>q.elim fun _ q=>a1H q c0z) fun sc e h=>(a4e h).elim fun _ q=>q.elim fun _ q=>a1H q c0H
theorem c5N (x:Int):M1 G F lvl (.int x):=m1E ff ff fun sc e h=>(a4e h).elim fun _ q=>q.elim fun _ q=>a1H q c2W
theorem c5O (x:Str):M1 G F lvl (.str x):=m1E ff ff fun sc e h=>(a4e h).elim fun _ q=>q.elim fun _ q=>a1H q c2X
theorem c0T (x:List UInt8):M1 G F lvl (.bytes x):=m1E ff ff fun sc e h=>(a4e h).elim fun _ q=>q.elim fun _ q=>a1H q b7D
theorem c5P (x:Nat):M1 G F lvl (.var x):=fun sc e=>⟨fun h=>a1H (a1r (a0i h).1) (b4K (a0i h).2),fun h=>a1H (a1r (a0i h).1) (c0I (a0i h).2),fun h=>a1H (a1r (a0i h).1) (c0L (a0i h).2)⟩
include hB in
theorem c5Q (n:String):M1 G F lvl (.typ n):=m1E ff ff fun sc e h=>(a8o (a0i h).1).1.elim fun _ q=>a1H q (b9y hB (a8o (a0i h).1).2 (a0i h).2)
include A B in
theorem c5R (op:Operator):M1 G F lvl (.bin op a b):=m1E ff ff fun sc e h=>by
 refine a0b h (clear% h;fun h h4=>?_)
 refine a0b h (clear% h;fun h h3=>?_)
 refine a0b h (clear% h;fun h1 h2=>?_)
 exact a1H (J:=EvJ G F lvl sc _) (a0A h1) (c8d h2 ▸ c2Y ((A sc _).1 h3) ((B sc _).1 h4))
include A in
theorem c5S:M1 G F lvl (.neg a):=m1E ff ff fun sc e h=>by
 refine a0b h (clear% h;fun h h3=>?_)
 refine a0b h (clear% h;fun h1 h2=>?_)
 exact a1H (J:=EvJ G F lvl sc _) (a0A h1) ((c8d h2).symm ▸ c2Z ((A sc _).1 h3))
include A in
theorem c5T:M1 G F lvl (.not a):=m1T ff ff fun sc e h=>by
 refine a0b h (clear% h;fun h h3=>?_)
 refine a0b h (clear% h;fun h1 h2=>?_)
 exact a1H (J:=TsJ G F lvl sc _) (a0A h1) ((c8d h2).symm ▸ c3m ((A sc _).2.1 h3))
include Es in
theorem c5U:M1 G F lvl (.and es):=m1T ff ff fun sc e h=>by
 refine a0b h (clear% h;fun h h3=>?_)
 refine a0b h (clear% h;fun h1 h2=>?_)
 exact a1H (J:=TsJ G F lvl sc _) (a0A h1) ((c8d h2).symm ▸ c3p ((Es sc _).2.2.2 h3 _))
include Es in
theorem c7w:M1 G F lvl (.or es):=m1T ff ff fun sc e h=>by
 refine a0b h (clear% h;fun h h3=>?_)
 refine a0b h (clear% h;fun h1 h2=>?_)
 exact a1H (J:=TsJ G F lvl sc _) (a0A h1) ((c8d h2).symm ▸ c5K ((Es sc _).2.2.2 h3 _))
include T A B in
theorem c5V:M1 G F lvl (.ite t a b):=c5k ff (fun sc e h=>by
 refine a0b h (clear% h;fun h h4=>?_)
 refine a0b h (clear% h;fun h h3=>?_)
 refine a0b h (clear% h;fun h1 h2=>?_)
 exact a1H (J:=EvJ G F lvl sc _) (a0A h1) (c3a ((T sc _).2.1 h2) ((A sc _).1 h3) ((B sc _).1 h4))) fun sc e h=>by
 refine a0b h (clear% h;fun h h4=>?_)
 refine a0b h (clear% h;fun h h3=>?_)
 refine a0b h (clear% h;fun h1 h2=>?_)
 exact a1H (J:=TsJ G F lvl sc _) (a0A h1) (c3n ((T sc _).2.1 h2) ((A sc _).2.1 h3) ((B sc _).2.1 h4))
include Es in
theorem c3z:M1 G F lvl (.list es):=m1E ff ff fun sc e h=>a1H (J:=EvJ G F lvl sc _) (a0A (a0i (a0i h).1).1) (c0A ((Es sc _).1 (a0i h).2 (a0i (a0i h).1).2))
include Es in
theorem c5W:M1 G F lvl (.tup es):=m1E ff ff fun sc e h=>a1H (J:=EvJ G F lvl sc _) (a0A (a0i (a0i h).1).1) (c3b ((Es sc _).1 (a0i h).2 (a0i (a0i h).1).2))
include A B in
theorem c5X (op:CmpOp):M1 G F lvl (.cmp op a b):=c5k ff (fun sc e h=>(a4K (a0i (a0i h).1).1).1.elim fun _ q=>a1H (J:=EvJ G F lvl sc _) q (c3c ((A sc _).1 (a0i (a0i h).1).2) ((B sc _).1 (a0i h).2) (a4K (a0i (a0i h).1).1).2))
 fun sc e h=>(a4K (a0i (a0i h).1).1).1.elim fun _ q=>a1H (J:=TsJ G F lvl sc _) q (c3q ((A sc _).1 (a0i (a0i h).1).2) ((B sc _).1 (a0i h).2) (a4K (a0i (a0i h).1).1).2)
include A B C in
theorem c3A (op op':CmpOp):M1 G F lvl (.cmp2 a op b op' c):=m1T ff ff fun sc e h=>by
 refine a0b h (clear% h;fun h h4=>?_)
 refine a0b h (clear% h;fun h h3=>?_)
 refine a0b h (clear% h;fun h1 h2=>?_)
 exact (a9v h1).1.elim fun _ q=>a1H (J:=TsJ G F lvl sc _) q (c0G ((A sc _).1 h2) ((B sc _).1 h3) ((C sc _).1 h4) (a9v h1).2)
include A I in
theorem c5Y:M1 G F lvl (.idx a i):=fun sc e=>⟨fun h=>a1H (J:=EvJ G F lvl sc _) (a0A (a0i (a0i h).1).1) (b4L ((A sc _).1 (a0i (a0i h).1).2) ((I sc _).1 (a0i h).2)),
 fun h=>a1H (J:=TsJ G F lvl sc _) (a0A (a0i (a0i h).1).1) (c3r ((A sc _).1 (a0i (a0i h).1).2) ((I sc _).1 (a0i h).2)),fun h=>a1H (J:=a3p G F lvl sc _) (a0A (a0i (a0i h).1).1) (c3s ((A sc _).1 (a0i (a0i h).1).2) ((I sc _).1 (a0i h).2))⟩
include hB A in
theorem c5Z:M1 G F lvl (.len a):=m1E ff ff fun sc e h=>c3e hB (c0t (a0i h).1) ((A sc _).1 (a0i h).2)
include hB A in
theorem c6a:M1 G F lvl (.sum a):=m1E ff ff fun sc e h=>c3f hB (c0t (a0i h).1) ((A sc _).1 (a0i h).2)
include hB A in
theorem b5b:M1 G F lvl (.bytesOf a):=m1E ff ff fun sc e h=>b3b hB (c0t (a0i h).1) ((A sc _).1 (a0i h).2)
include hB A in
theorem b7V:M1 G F lvl (.typeOf a):=m1E ff ff fun sc e h=>b4M hB (c0t (a0i h).1) ((A sc _).1 (a0i h).2)
include hB A B in
theorem c6b:M1 G F lvl (.max a b):=m1E ff ff fun sc e h=>c3h hB (c5G (a0i (a0i h).1).1) ((A sc _).1 (a0i (a0i h).1).2) ((B sc _).1 (a0i h).2)
include A B in
theorem c3B:M1 G F lvl (.join a b):=m1E ff ff fun sc e h=>c0C (c2z (a0i (a0i h).1).1) ((A sc _).1 (a0i (a0i h).1).2) ((B sc _).1 (a0i h).2)
include A B in
theorem c0U:M1 G F lvl (.split a b):=m1E ff ff fun sc e h=>b7G (c2z (a0i (a0i h).1).1) ((A sc _).1 (a0i (a0i h).1).2) ((B sc _).1 (a0i h).2)
include A in
theorem b5c:M1 G F lvl (.replace a b c):=m1E ff ff fun sc e h=>by
 refine a0b h (clear% h;fun h h4=>?_)
 refine a0b h (clear% h;fun h h3=>?_)
 refine a0b h (clear% h;fun h1 h2=>?_)
 exact b3d (c6Z h1) ((A sc _).1 h2) h3 h4
include A in
theorem b5d:M1 G F lvl (.isascii a):=c5k ff (fun sc e h=>b3c (c6Y (a0i h).1) ((A sc _).1 (a0i h).2)) fun sc e h=>b3f (c6Y (a0i h).1) ((A sc _).1 (a0i h).2)
include hB A in
theorem c0V:M1 G F lvl (.isStr a):=m1T ff ff fun sc e h=>b7J hB (c5G (a0i (a0i h).1).1) ((A sc _).1 (a0i (a0i h).1).2) (a0i h).2
include A in
theorem b7W:M1 G F lvl (.encode a):=m1E ff ff fun sc e h=>b4T (c2z (a0i (a0i h).1).1) ((A sc _).1 (a0i (a0i h).1).2) (a0i h).2
include hB A B C in
theorem a9G:M1 G F lvl (.btranslate a b c):=m1E ff ff fun sc e h=>by
 refine a0b h (clear% h;fun h h6=>?_)
 refine a0b h (clear% h;fun h h5=>?_)
 refine a0b h (clear% h;fun h h4=>?_)
 refine a0b h (clear% h;fun h h3=>?_)
 refine a0b h (clear% h;fun h1 h2=>?_)
 exact a8u hB (c2z h1) (c6Z h2) h3 ((A sc _).1 h4) ((B sc _).1 h5) ((C sc _).1 h6)
include A Lo Hi in
theorem c0W:M1 G F lvl (.slice a lo hi):=fun sc e=>by
 have K:b2Z e=true→∀ {J:Expr→Prop},(∀ p q,J (.Subscript (vw e).a (.Slice (vw (vw e).b).lo (vw (vw e).b).hi none q) p))→J e:=fun h J k=>(b7y h).elim fun p r=>r.elim fun q r=>a1H r (k p q)
 have S:(b2Z e&&mE G.nm sc a (vw e).a&&mO G.nm sc lo (vw (vw e).b).lo&&mO G.nm sc hi (vw (vw e).b).hi)=true→b2Z e=true∧EvJ G F lvl sc a (vw e).a∧a8q G F lvl sc lo (vw (vw e).b).lo∧a8q G F lvl sc hi (vw (vw e).b).hi:=fun h=>by
  refine a0b h (clear% h;fun h h4=>?_)
  refine a0b h (clear% h;fun h h3=>?_)
  refine a0b h (clear% h;fun h1 h2=>?_)
  exact⟨h1,(A sc _).1 h2,(Lo sc).2 _ h3,(Hi sc).2 _ h4⟩
 exact⟨fun h=>K (S h).1 (J:=EvJ G F lvl sc _) fun _ _=>b1R (S h).2.1 (S h).2.2.1 (S h).2.2.2,fun h=>no h,fun h=>K (S h).1 (J:=a3p G F lvl sc _) fun _ _=>b7L (S h).2.1 (S h).2.2.1 (S h).2.2.2⟩
include hF Es in
theorem c3C (f:Nat){kw:PO}(Kw:M3 G F lvl kw):M1 G F lvl (.call f es kw):=fun sc e=>by
 have K:(c0s sc (G.nm f) e&&mEs G.nm sc es (vw e).es&&mKw G.nm sc kw (vw e).ks)=true→GCall sc (G.nm f) e (vw e).es (vw e).ks∧a5q G F lvl sc es (vw e).es∧KwJ G F lvl sc kw (vw e).ks:=fun h=>
  have c:=b0P (a0i (a0i h).1).1
  ⟨c,(Es sc _).1 (a0i (a0i h).1).2 c.star,(Kw sc).1 _ (a0i h).2⟩
 exact⟨fun h=>b7F hF (K h).1 (K h).2.1 (K h).2.2,fun h=>c0J hF (K h).1 (K h).2.1 (K h).2.2,fun h=>c0M hF (K h).1 (K h).2.1 (K h).2.2⟩
include A I Es in
theorem c3D (fv:List Nat)(t:Tgt){gs:PGs}(Gs:M4 G F lvl gs):M1 G F lvl (.comp fv a t i es gs):=m1E ff ff fun sc e h=>by
 refine a0b h (clear% h;fun h h7=>?_)
 refine a0b h (clear% h;fun h h6=>?_)
 refine a0b h (clear% h;fun h h5=>?_)
 refine a0b h (clear% h;fun h h4=>?_)
 refine a0b h (clear% h;fun h h3=>?_)
 refine a0b h (clear% h;fun h1 h2=>?_)
 refine (Gs _ _ _ h6).elim fun g1 g2=>?_
 exact (a9w h1).elim fun _ q=>a1H (J:=EvJ G F lvl sc _) q (c0N h2 h4 (a0i h1).2 g1 ((I _ _).2.2 h3) ((Es _ _).2.1 h5) (g2 (fun x=>a6x) _ _ ((A _ _).1 h7)))
include Es in
theorem c3E:M1 G F lvl (.fstr es):=m1E ff ff fun sc e h=>by
 refine a0b h (clear% h;fun h h3=>?_)
 refine a0b h (clear% h;fun h1 h2=>?_)
 have q:e=.JoinedStr (vw e).es (vw e).pos:=a0A h1
 have P:=(Es sc _).2.2.1 h3
 refine a1H (J:=EvJ G F lvl sc _) q ?_
 match (vw e).es,h2,P with
 | x :: y :: r,_,P=>exact c0E P
include hB A in
theorem b7X:M1 G F lvl (.range1 a):=m1I ff ff fun sc e h=>b4P hB (c0t (a0i h).1) ((A sc _).1 (a0i h).2)
include hB A B in
theorem b7Y:M1 G F lvl (.range2 a b):=m1I ff ff fun sc e h=>b4Q hB (c5G (a0i (a0i h).1).1) ((A sc _).1 (a0i (a0i h).1).2) ((B sc _).1 (a0i h).2)
include hB A B C in
theorem b7Z:M1 G F lvl (.range3 a b c):=m1I ff ff fun sc e h=>by
 refine a0b h (clear% h;fun h h4=>?_)
 refine a0b h (clear% h;fun h h3=>?_)
 refine a0b h (clear% h;fun h1 h2=>?_)
 exact b4R hB (c7v h1) ((A sc _).1 h2) ((B sc _).1 h3) ((C sc _).1 h4)
noncomputable def c7x (e:PE):PE:=match e.pv with
 | .r1 a=>a
 | _=>e
noncomputable def N1 (G:GC)(F:Fns)(lvl:Nat)(pe:PE):Prop:=isR1 pe=true→M1 G F lvl (c7x pe)
theorem n1 {pe:PE}(h:isR1 pe=false):N1 G F lvl pe:=fun q=>no (h.symm.trans q)
include hB in
theorem b1b (fv:List Nat)(x:Nat)(N:N1 G F lvl a):M1 G F lvl (.sortedKey a fv x b):=m1I ff ff fun sc e h=>by
 refine a0b h (clear% h;fun h h3=>?_)
 refine a0b h (clear% h;fun h1 h2=>?_)
 have A:=N h1
 refine (c0w h1).elim fun d q=>?_
 rw [q] at h3 A ⊢
 exact (c0S h2).elim fun t K=>a9F hB K (c0t (a0i (b:=mE G.nm sc d _) h3).1) ((A sc _).1 (a0i (a:=isG sc "range" 1 _) h3).2)
end
theorem a9H (hF:FOK G F lvl)(hB:GlobsOK G)(pe:PE):M1 G F lvl pe∧N1 G F lvl pe:=
 PE.rec (motive_1:=fun pe=>M1 G F lvl pe∧N1 G F lvl pe) (motive_2:=M2 G F lvl) (motive_3:=M3 G F lvl) (motive_4:=M4 G F lvl) (⟨c3x,n1 rfl⟩) (fun x=>⟨c3y x,n1 rfl⟩) (fun x=>⟨c5N x,n1 rfl⟩) (fun x=>⟨c5O x,n1 rfl⟩) (fun x=>⟨c0T x,n1 rfl⟩) (fun x=>⟨c5P x,n1 rfl⟩) (fun x=>⟨c5Q hB x,n1 rfl⟩) (fun op _ _ A B=>⟨c5R A.1 B.1 op,n1 rfl⟩) (fun _ A=>⟨c5S A.1,n1 rfl⟩) (fun _ _ _ T A B=>⟨c5V A.1 B.1 T.1,n1 rfl⟩) (fun _ Es=>⟨c5U Es,n1 rfl⟩) (fun _ Es=>⟨c7w Es,n1 rfl⟩) (fun _ A=>⟨c5T A.1,n1 rfl⟩) (fun _ Es=>⟨c3z Es,n1 rfl⟩) (fun _ Es=>⟨c5W Es,n1 rfl⟩) (fun op _ _ A B=>⟨c5X A.1 B.1 op,n1 rfl⟩) (fun _ op _ op' _ A B C=>⟨c3A A.1 B.1 C.1 op op',n1 rfl⟩) (fun _ _ A I=>⟨c5Y A.1 I.1,n1 rfl⟩) (fun _ _ _ A L U=>⟨c0W A.1 L U,n1 rfl⟩) (fun fv _ t _ _ _ A I Es Gs=>⟨c3D A.1 I.1 Es fv t Gs,n1 rfl⟩) (fun f _ _ Es Kw=>⟨c3C hF Es f Kw,n1 rfl⟩) (fun _ A=>⟨c5Z hB A.1,n1 rfl⟩) (fun _ A=>⟨c6a hB A.1,n1 rfl⟩) (fun _ _ A B=>⟨c6b hB A.1 B.1,n1 rfl⟩) (fun _ A=>⟨b5b hB A.1,n1 rfl⟩) (fun _ A=>⟨b7V hB A.1,n1 rfl⟩) (fun _ A=>⟨c0V hB A.1,n1 rfl⟩) (fun _ A=>⟨b7X hB A.1,fun _=>A.1⟩) (fun _ _ A B=>⟨b7Y hB A.1 B.1,n1 rfl⟩) (fun _ _ _ A B C=>⟨b7Z hB A.1 B.1 C.1,n1 rfl⟩) (fun _ _=>⟨m1N ff ff ff,n1 rfl⟩) (fun _ fv x _ A _=>⟨b1b hB fv x A.2,n1 rfl⟩) (fun _ _ _ A _ _=>⟨b5c A.1,n1 rfl⟩) (fun _ _ A B=>⟨c3B A.1 B.1,n1 rfl⟩) (fun _ _ A B=>⟨c0U A.1 B.1,n1 rfl⟩) (fun _ A=>⟨b5d A.1,n1 rfl⟩) (fun _ A=>⟨b7W A.1,n1 rfl⟩) (fun _ _ _ A B C=>⟨a9G hB A.1 B.1 C.1,n1 rfl⟩) (fun _ Es=>⟨c3E Es,n1 rfl⟩) b9A (fun _ _ A B=>b4Z A.1 B) c5M (fun _ A=>c3w A.1) b9B (fun t _ _ _ A B C=>b5a A.1 B C) pe
theorem b5e (hF:FOK G F lvl)(hB:GlobsOK G)(pes:PEs):M2 G F lvl pes:=
 PEs.rec (motive_1:=fun _=>True) (motive_2:=M2 G F lvl) (motive_3:=fun _=>True) (motive_4:=fun _=>True) trivial (fun _=>trivial) (fun _=>trivial) (fun _=>trivial) (fun _=>trivial) (fun _=>trivial) (fun _=>trivial) (fun _ _ _ _ _=>trivial) (fun _ _=>trivial) (fun _ _ _ _ _ _=>trivial) (fun _ _=>trivial) (fun _ _=>trivial) (fun _ _=>trivial) (fun _ _=>trivial) (fun _ _=>trivial) (fun _ _ _ _ _=>trivial) (fun _ _ _ _ _ _ _ _=>trivial) (fun _ _ _ _=>trivial) (fun _ _ _ _ _ _=>trivial) (fun _ _ _ _ _ _ _ _ _ _=>trivial) (fun _ _ _ _ _=>trivial) (fun _ _=>trivial) (fun _ _=>trivial) (fun _ _ _ _=>trivial) (fun _ _=>trivial) (fun _ _=>trivial) (fun _ _=>trivial) (fun _ _=>trivial) (fun _ _ _ _=>trivial) (fun _ _ _ _ _ _=>trivial) (fun _ _=>trivial) (fun _ _ _ _ _ _=>trivial) (fun _ _ _ _ _ _=>trivial) (fun _ _ _ _=>trivial) (fun _ _ _ _=>trivial) (fun _ _=>trivial) (fun _ _=>trivial) (fun _ _ _ _ _ _=>trivial) (fun _ _=>trivial) b9A (fun pe _ _ B=>b4Z (a9H hF hB pe).1 B) trivial (fun _ _=>trivial) trivial (fun _ _ _ _ _ _ _=>trivial) pes
theorem c3F (hF:FOK G F lvl)(hB:GlobsOK G)(pgs:PGs):M4 G F lvl pgs:=
 PGs.rec (motive_1:=fun _=>True) (motive_2:=fun _=>True) (motive_3:=fun _=>True) (motive_4:=M4 G F lvl) trivial (fun _=>trivial) (fun _=>trivial) (fun _=>trivial) (fun _=>trivial) (fun _=>trivial) (fun _=>trivial) (fun _ _ _ _ _=>trivial) (fun _ _=>trivial) (fun _ _ _ _ _ _=>trivial) (fun _ _=>trivial) (fun _ _=>trivial) (fun _ _=>trivial) (fun _ _=>trivial) (fun _ _=>trivial) (fun _ _ _ _ _=>trivial) (fun _ _ _ _ _ _ _ _=>trivial) (fun _ _ _ _=>trivial) (fun _ _ _ _ _ _=>trivial) (fun _ _ _ _ _ _ _ _ _ _=>trivial) (fun _ _ _ _ _=>trivial) (fun _ _=>trivial) (fun _ _=>trivial) (fun _ _ _ _=>trivial) (fun _ _=>trivial) (fun _ _=>trivial) (fun _ _=>trivial) (fun _ _=>trivial) (fun _ _ _ _=>trivial) (fun _ _ _ _ _ _=>trivial) (fun _ _=>trivial) (fun _ _ _ _ _ _=>trivial) (fun _ _ _ _ _ _=>trivial) (fun _ _ _ _=>trivial) (fun _ _ _ _=>trivial) (fun _ _=>trivial) (fun _ _=>trivial) (fun _ _ _ _ _ _=>trivial) (fun _ _=>trivial) trivial (fun _ _ _ _=>trivial) trivial (fun _ _=>trivial) b9B (fun _ iter ifs _ _ _ C=>b5a (a9H hF hB iter).1 (b5e hF hB ifs) C) pgs
theorem b3m (hF:FOK G F lvl)(hB:GlobsOK G)(pe:PE){sc:a0h}{e:Expr}(h:mE G.nm sc pe e=true):EvJ G F lvl sc pe e:=((a9H hF hB pe).1 sc e).1 h
theorem c5l (hF:FOK G F lvl)(hB:GlobsOK G)(pe:PE){sc:a0h}{e:Expr}(h:mT G.nm sc pe e=true):TsJ G F lvl sc pe e:=((a9H hF hB pe).1 sc e).2.1 h
theorem c7b (hF:FOK G F lvl)(hB:GlobsOK G)(pe:PE){sc:a0h}{e:Expr}(h:mI G.nm sc pe e=true):a3p G F lvl sc pe e:=((a9H hF hB pe).1 sc e).2.2 h
theorem c6c (hF:FOK G F lvl)(hB:GlobsOK G)(pes:PEs){sc:a0h}{es:List Expr}(h:mEs G.nm sc pes es=true)(hs:es.all a0J=true):a5q G F lvl sc pes es:=(b5e hF hB pes sc es).1 h hs
theorem c3G (hF:FOK G F lvl)(hB:GlobsOK G)(pes:PEs){sc:a0h}{es:List Expr}(h:c2A G.nm sc pes es=true):b6Y G F lvl sc pes es:=(b5e hF hB pes sc es).2.1 h
end
end
section
structure Goes (G:GC)(Γ:Ctx)(lvl:Nat)(sc:a0h)(W:Nat→Bool)(σ:Store)(oa:Nat→Addr)(s:Shared)(σ':Store)(oa':Nat→Addr)(s':Shared):Prop where
 st:St G Γ lvl sc σ' oa' s'
 step:Step G Γ W σ oa s σ' oa' s'
noncomputable def c0X (G:GC)(Γ:Ctx)(lvl:Nat)(sc:a0h)(W:Nat→Bool)(σ:Store)(oa:Nat→Addr)(s:Shared)(out:Out)(f:Flow)(s':Shared):Prop:=match out with
 | .next σ'=>f=.next∧∃ oa',Goes G Γ lvl sc W σ oa s σ' oa' s'
 | .brk σ'=>f=.brk∧∃ oa',Goes G Γ lvl sc W σ oa s σ' oa' s'
 | .cont σ'=>f=.cont∧∃ oa',Goes G Γ lvl sc W σ oa s σ' oa' s'
 | .ret d=>∃ v,f=.ret v∧(∃ σ' oa',Goes G Γ lvl sc W σ oa s σ' oa' s')∧Rep (rc G Γ) Γ.bad s'.heap s'.toks v d
noncomputable def Runs (G:GC)(Γ:Ctx)(lvl:Nat)(sc:a0h)(W:Nat→Bool)(σ:Store)(oa:Nat→Addr)(s:Shared)(out:Out)(m:Sem Flow):Prop:=
 ∀ (Q:Flow→Shared→Prop) (E:Value→Shared→Prop),(∀ f s',c0X G Γ lvl sc W σ oa s out f s'→Q f s')→wpAny (model G.prog G.w) Γ.A m Q E s
section
variable (G:GC)(F:Fns)(lvl fuel:Nat)(sc:a0h)
noncomputable def SJ (ps:PS)(st:Stmt):Prop:=∀ (Γ:Ctx) (W:Nat→Bool) (σ:Store) (oa:Nat→Addr) (s:Shared) (out:Out),(∀ x,c0e ps x=true→W x=true)→St G Γ lvl sc σ oa s→evS F fuel σ ps=some out →
 Runs G Γ lvl sc W σ oa s out (exec st Γ.env)
noncomputable def SsJ (ps:List PS)(st:List Stmt):Prop:=∀ (Γ:Ctx) (W:Nat→Bool) (σ:Store) (oa:Nat→Addr) (s:Shared) (out:Out),(∀ x,a4D ps x=true→W x=true)→St G Γ lvl sc σ oa s→a0C F fuel σ ps=some out →
 Runs G Γ lvl sc W σ oa s out (execs st Γ.env)
end
section
variable {G:GC}{F:Fns}{lvl fuel:Nat}{Γ:Ctx}{W:Nat→Bool}{sc names:a0h}{σ σ₀ σ':Store}{oa oa':Nat→Addr}{s s' s₁:Shared}{out:Out}{f:Flow}
theorem Goes.refl (S:St G Γ lvl sc σ oa s):Goes G Γ lvl sc W σ oa s σ oa s:=⟨S,.refl⟩
theorem Goes.trans {σ₂:Store}{oa₂:Nat→Addr}(a:Goes G Γ lvl sc W σ oa s σ' oa' s₁)(b:Goes G Γ lvl sc W σ' oa' s₁ σ₂ oa₂ s'):Goes G Γ lvl sc W σ oa s σ₂ oa₂ s':=⟨b.st,a.step.trans a.st b.step⟩
theorem Goes.af (S:St G Γ lvl sc σ oa s)(a:Af G s s₁):Goes G Γ lvl sc W σ oa s σ oa s₁:=⟨S.af a,.ofKp a.kp⟩
theorem Goes.behind (T:Goes G Γ lvl sc W σ oa s σ' oa' s₁)(O:c0X G Γ lvl sc W σ' oa' s₁ out f s'):c0X G Γ lvl sc W σ oa s out f s':=by
 cases out with
 | ret d=>exact O.elim fun v O=>⟨v,O.1,O.2.1.elim fun σ₂ h=>h.elim fun oa₂ h=>⟨σ₂,oa₂,T.trans h⟩,O.2.2⟩
 | _=>exact⟨O.1,O.2.elim fun oa₂ h=>⟨oa₂,T.trans h⟩⟩
theorem Runs.behind {m:Sem Flow}{Q:Flow→Shared→Prop}{E:Value→Shared→Prop}(h:Runs G Γ lvl sc W σ' oa' s₁ out m)(T:Goes G Γ lvl sc W σ oa s σ' oa' s₁)(hQ:∀ f s',c0X G Γ lvl sc W σ oa s out f s'→Q f s'):wpAny (model G.prog G.w) Γ.A m Q E s₁:=h Q E fun f s' O=>hQ f s' (T.behind O)
theorem a1X {Q:Flow→Shared→Prop}(hQ:∀ f s',c0X G Γ lvl sc W σ oa s (.next σ') f s'→Q f s')(T:Goes G Γ lvl sc W σ oa s σ' oa' s'):Q .next s':=hQ _ _ ⟨rfl,_,T⟩
theorem c3H:SsJ G F lvl fuel sc [] []:=fun Γ W σ oa s out _ S h Q E hQ=>wpAny_execs_nil (hQ _ s (c7Q (show some (Out.next σ)=some out from h) ▸ ⟨rfl,oa,.refl S⟩))
theorem c0Y {p:PS}{ps:List PS}{st:Stmt}{ss:List Stmt}(hE:SJ G F lvl fuel sc p st)(hR:SsJ G F lvl fuel sc ps ss):SsJ G F lvl fuel sc (p :: ps) (st :: ss):=fun Γ W σ oa s out hW S h Q E hQ=>by
 refine a0j (show (evS F fuel σ p).bind _ = _ from h) fun o h1 h=>?_
 refine wpAny_execs_cons (hE _ _ _ _ _ _ (fun x hx=>hW x (c9b.mpr (.inl hx))) S h1 _ _ fun f s₁ O=>?_)
 cases o with
 | next σ₁=>
  refine O.elim (clear% O;fun e Z1=>Z1.elim (fun oa₁ T=>?_))
  rw [e]
  exact (hR _ _ _ _ _ _ (fun x hx=>hW x (c9b.mpr (.inr hx))) T.st h).behind T hQ
 | ret d=>
  have q:=hQ f s₁ (c7Q h ▸ O)
  refine O.elim (clear% O;fun v Z1=>Z1.elim (fun e _=>?_))
  rw [e] at q ⊢
  exact q
 | _=>
  have q:=hQ f s₁ (c7Q h ▸ O)
  rw [O.1] at q ⊢
  exact q
theorem b1W {f:Nat→Bool}{x:Nat}:(σ.only f).get x=bif f x then σ.get x else none:=by
 induction σ with
 | nil=>show none=bif f x then none else none;cases f x <;> rfl
 | cons p r ih=>
  show Store.get (List.filter _ (p :: r)) x = _
  rw [c9q,a0R]
  by_cases hx:x=p.1
  ·rw [c7L.mpr hx,cond_true,← hx]
   cases hf:f x with
   | true=>rw [c7K rfl,a0R,c7L.mpr hx];rfl
   | false=>rw [c7M c7I];rw [hf] at ih;exact ih
  ·rw [c7N.mpr hx,cond_false]
   cases f p.1 with
   | true=>rw [c7K rfl,a0R,c7N.mpr hx];exact ih
   | false=>rw [c7M c7I];exact ih
theorem b1X {f:Nat→Bool}{x:Nat}{sl:Slot}(h:(σ.only f).get x=some sl):σ.get x=some sl:=by
 rw [b1W] at h
 cases hf:f x with
 | true=>rw [hf] at h;exact h
 | false=>rw [hf] at h;exact a0e h
theorem c0Z {xs:List Nat}{ps:List PS}{ss:List Stmt}(hR:SsJ G F lvl fuel sc ps ss):SsJ G F lvl fuel sc (.drop xs :: ps) ss:=fun Γ W σ oa s out hW S h Q E hQ=>by
 refine a0j (show (evS F fuel σ (.drop xs)).bind _ = _ from h) fun o h1 h=>?_
 refine a0Q h1 (clear% h1;fun hc h1=>?_)
 rw [← h1] at h
 have S₁:St G Γ lvl sc (σ.only fun y=>!(xs.contains y)) oa s:=S.forget (fun x sl=>b1X) fun x hx=>by
  unfold Store.isOwn at hx ⊢
  rw [b1W]
  cases q:xs.contains x with
  | false=>exact hx
  | true=>exact absurd hx (ne_true_of_eq_false (a2w (c8k.mp hc x (c9f.mp q))))
 exact (hR _ _ _ _ _ _ (fun x hx=>hW x (c9b.mpr (.inr hx))) S₁ h).behind ⟨S₁,⟨fun _ _ _ _ e=>e,rfl,c7G _,fun _ _ e=>e,fun x hx=>(a2K hx).elim fun sl q=>.inl ⟨x,(a1e (b1X q.1)).trans q.2,rfl⟩,fun _ _=>rfl⟩⟩ hQ
theorem c1a {ps:List PS}{ss:List Stmt}:SsJ G F lvl fuel sc (.fail :: ps) ss:=fun Γ W σ oa s out hW S h=>a0e (show none=some out from h)
theorem c3I {st:Stmt}:SJ G F lvl fuel sc .fail st:=fun Γ W σ oa s out hW S h=>a0e (show none=some out from h)
theorem c6d {p:Pos}:SJ G F lvl fuel sc .brk (.Break p):=fun Γ W σ oa s out hW S h Q E hQ=>wpAny_Break (hQ _ s (c7Q (show some (Out.brk σ)=some out from h) ▸ ⟨rfl,oa,.refl S⟩))
theorem c3J {p:Pos}:SJ G F lvl fuel sc .cont (.Continue p):=fun Γ W σ oa s out hW S h Q E hQ=>wpAny_Continue (hQ _ s (c7Q (show some (Out.cont σ)=some out from h) ▸ ⟨rfl,oa,.refl S⟩))
theorem b8a {t:PE}{t':Expr}{m:Option Expr}{p:Pos}(hT:TsJ G F lvl sc t t'):SJ G F lvl fuel sc (.assert t) (.Assert t' m p):=fun Γ W σ oa s out hW S h Q E hQ=>by
 refine a0j (show (evT F σ t).bind _ = _ from h) fun b hb h=>?_
 refine a0Q h (clear% h;fun hb1 h=>?_)
 exact wpAny_Assert_holds (hT _ _ _ _ _ S hb _ _ fun s₁ a=>⟨hb1,hQ _ _ (h ▸ ⟨rfl,oa,.af S a⟩)⟩)
theorem c6e {t:PE}{a b:List PS}{t':Expr}{a' b':List Stmt}{p:Pos}(hT:TsJ G F lvl sc t t')(hA:SsJ G F lvl fuel sc a a')(hB:SsJ G F lvl fuel sc b b'):SJ G F lvl fuel sc (.ifs t a b) (.If t' a' b' p):=fun Γ W σ oa s out hW S h Q E hQ=>by
 refine a0j (show (evT F σ t).bind _ = _ from h) fun q hq h=>?_
 refine wpAny_If (hT _ _ _ _ _ S hq _ _ fun s₁ af=>?_)
 cases q with
 | true=>exact (hA _ _ _ _ _ _ (fun x hx=>hW x (c9b.mpr (.inl hx))) (S.af af) h).behind (.af S af) hQ
 | false=>exact (hB _ _ _ _ _ _ (fun x hx=>hW x (c9b.mpr (.inr hx))) (S.af af) h).behind (.af S af) hQ
theorem c6f {body:List PS}{body':List Stmt}{h₀:ExceptHandler}{hs:List ExceptHandler}{p:Pos}(hA:SsJ G F lvl fuel sc body body'):SJ G F lvl fuel sc (.try body) (.Try body' (h₀ :: hs) [] [] p):=fun Γ W σ oa s out hW S h Q E hQ=>by
 refine a0j (show (a0C F fuel σ body).bind _ = _ from h) fun o hd h=>?_
 refine wpAny_Try_except (hA _ _ _ _ _ _ hW S hd _ _ fun f s₁ O=>?_)
 cases o with
 | ret d=>
  have q:=hQ f s₁ (c7Q h ▸ O)
  refine O.elim (clear% O;fun v Z1=>Z1.elim (fun e _=>?_))
  rw [e] at q ⊢
  exact q
 | next σ₁=>
  have q:=hQ f s₁ (c7Q h ▸ O)
  rw [O.1] at q ⊢
  exact wpAny_execs_nil q
 | _=>exact a0e h
theorem a7E {α:Type}{l:List (Nat×α)}{n:Nat}{c:α}(h:l.lookup n=some c):(n,c)∈l:=by
 induction l with
 | nil=>exact a0e h
 | cons p r ih=>
  obtain⟨k,v⟩:=p
  rw [c7J] at h
  cases hb:n==k with
  | true=>rw [hb] at h;rw [c7L.mp hb,← c7Q h];exact c8L
  | false=>rw [hb] at h;exact c8O _ (ih h)
theorem a7F {x:Nat}{sl:Slot}(h:(freezeAll σ).get x=some sl):∃ sl₀,σ.get x=some sl₀∧sl₀.freeze=some sl:=by
 refine (List.mem_filterMap.mp (show (x,sl)∈σ.filterMap _ from a7E h)).elim fun p Z1=>Z1.elim (fun _ hp=>?_)
 refine a0j hp (clear% hp;fun sl₀ h0 hp=>?_)
 refine a2v hp (clear% hp;fun sl' h1 hp=>?_)
 refine (Prod.mk.inj hp).elim fun e1 e2=>?_
 exact⟨sl₀,e1 ▸ h0,e2 ▸ h1⟩
theorem Slot.freeze_no {sl₀ sl:Slot}(h:sl₀.freeze=some sl):sl.isOwn=false:=by
 cases sl₀ with
 | meth=>exact a0e h
 | _=>exact c7Q h ▸ rfl
theorem a7G {x:Nat}:(freezeAll σ).isOwn x=false:=by
 cases e:(freezeAll σ).isOwn x with
 | false=>rfl
 | true=>
  refine (a2K e).elim fun sl Z1=>Z1.elim (fun h1 h2=>?_)
  refine (a7F h1).elim fun sl₀ Z1=>Z1.elim (fun _ h=>?_)
  exact (sl₀.freeze_no h).symm.trans h2 |>.symm
theorem St.freezeAll (S:St G Γ lvl sc σ oa s):St G Γ lvl sc (Mine.freezeAll σ) oa s:=by
 have own:∀ x {P:Prop},(Mine.freezeAll σ).isOwn x=true→P:=fun x P h=>absurd (a7G.symm.trans h) c7I
 have all:∀ b,a0k Γ (Mine.freezeAll σ) oa b→Γ.bad b:=fun b hb=>hb.elim id fun h=>h.elim fun x h=>own x h.1
 have all':∀ b,a0k Γ (Mine.freezeAll σ) oa b→a0k Γ σ oa b:=fun b hb=>.inl (all b hb)
 refine S.move Γ.st Γ.bad S.gst S.badT S.badL S.badC (fun x=>own x) (fun x y h=>own x h) (fun a ha=>S.alloc a (all' a ha)) (fun _ _ _ _ e=>e) fun x sl hx=>?_
 refine (a7F hx).elim fun sl₀ Z1=>Z1.elim (fun h0 hf=>?_)
 refine⟨sl₀,h0,fun v sv=>?_⟩
 cases sl₀ with
 | val d=>exact c7Q hf ▸ Rep.weaken sv all'
 | own l=>
  obtain⟨e,vs,hp,r⟩:=sv
  exact c7Q hf ▸ (e ▸ .list (fun q=>S.ownBad x (a1e h0) (all _ q)) hp.isList (r.weaken all'):Rep _ _ _ _ _ _)
 | ownD kv=>
  refine sv.elim (clear% sv;fun e hm=>?_)
  refine (hm.map).elim fun m Z1=>Z1.elim (fun h1 h2=>?_)
  exact c7Q hf ▸ (e ▸ .dict (fun q=>S.ownBad x (a1e h0) (all _ q)) h1 h2:Rep _ _ _ _ _ _)
 | meth z=>exact a0e hf
theorem c6g {e:PE}{e':Expr}{p:Pos}(hE:EvJ G F lvl sc e e'):SJ G F lvl fuel sc (.ret e) (.Return (some e') p):=fun Γ W σ oa s out hW S h Q E hQ=>by
 refine (a0P h).elim fun hst h=>?_
 refine a2v h (clear% h;fun d hd h=>?_)
 have own:∀ x {P:Prop},(Mine.freezeAll σ).isOwn x=true→P:=fun x P h=>absurd (a7G.symm.trans h) c7I
 exact wpAny_Return_some (hE _ _ _ _ _ S.freezeAll hd _ _ fun v s₁ R=>hQ _ _ (h ▸ ⟨v,rfl,⟨_,oa,S.freezeAll.af R.af,fun b o hT _ e=>R.af.kp.heap b o hT e,R.af.kp.os,R.af.kp.toks,R.af.kp.gens,fun x=>own x,fun _ _=>rfl⟩,
  (R.deep hst).weaken fun b hb=>.inl hb⟩))
end
end
section
noncomputable def a2E (e:Expr):Bool:=isT e .comp||isT e .oth
section
variable {G:GC}{F:Fns}{lvl fuel:Nat}{Γ:Ctx}{W:Nat→Bool}{sc names:a0h}{σ σ₀ σ':Store}{oa oa':Nat→Addr}{s s' s₁ s₂:Shared}{E:Value→Shared→Prop}
theorem a4P {v:Expr}{t:Option Expr}{n:Nat}{env:Env}(h:a2E v=false):swapsWith v t n env=pure false:=by
 cases v <;> first | exact rfl | exact absurd h.symm c7I
theorem c6h {x:Nat}{e:PE}{v':Expr}{p q:Pos}(hv:a5T e=none)(hc:a2E v'=false)(hst:a3j sc (G.nm x)=true)(hE:EvJ G F lvl sc e v'):SJ G F lvl fuel sc (.asg x false e) (.Assign [.Name (G.nm x) q] v' p):=fun Γ W σ oa s out hW S h Q E hQ=>by
 refine (a0P h).elim fun hm h=>?_
 rw [hv] at h
 refine (a0P (show grd (strict σ e) _=some out from h)).elim fun hs h=>?_
 refine a2v h (clear% h;fun d hd h=>?_)
 rw [← h] at hQ
 refine wpAny_Assign_Name (hE _ _ _ _ _ S hd _ _ fun v s₁ R=>?_) (a4P hc)
 exact (S.af R.af).store (W:=W) (a1J hst) hm (R.deep hs) fun s₂ S₂ k₂ t=>a1X hQ ((Goes.af S R.af).trans ⟨S₂,t⟩)
theorem c3K {x y:Nat}{p q r:Pos}(hst:a3j sc (G.nm x)=true)(hk:b0O (G.nm y)=true):SJ G F lvl fuel sc (.asg x false (.var y)) (.Assign [.Name (G.nm x) q] (.Name (G.nm y) r) p):=fun Γ W σ oa s out hW S h Q E hQ=>by
 refine a0b hk (clear% hk;fun k1 k2=>?_)
 refine (a0P h).elim fun hm h=>?_
 refine a0j (show (σ.get y).bind _=some out from h) fun sl hsl h=>?_

 have go:∀ (σ₁:Store) (d:D),Goes G Γ lvl sc W σ oa s σ₁ oa s→σ₁.get y=some (.val d)→noMeth σ₁ x=true→out=.next (σ₁.set x (.val d))→wpAny (model G.prog G.w) Γ.A (exec (.Assign [.Name (G.nm x) q] (.Name (G.nm y) r) p) Γ.env) Q E s:=fun σ₁ d T hg hm e=>by
  rw [e] at hQ
  refine wpAny_Assign_Name (c8I (T.st.read hg (fun v sv=>?_) (a2w k2)) (a2w k1)) rfl
  exact T.st.store (W:=W) (a1J hst) hm sv fun s₂ S₂ k₂ t=>a1X hQ (T.trans ⟨S₂,t⟩)
 rcases a0I h with h | h
 ·refine a0j h (clear% h;fun l hl h=>?_)
  refine a0Q h (clear% h;fun hmy h=>?_)
  rw [a3v hl] at hsl
  refine (S.freeze (W:=W) hsl hmy).elim fun S₁ t₁=>?_
  exact go _ _ ⟨S₁,t₁⟩ (by rw [Store.get_set,c7K rfl]) (a1w rfl hm) h.symm
 ·refine a2v h (clear% h;fun d hd h=>?_)
  exact go _ _ (.refl S) (hsl.trans (c7H some (a6s hd))) hm h.symm
theorem b5f {x:Nat}{a:Addr}{sl:Slot}(S:St G Γ lvl sc σ oa s)(af:Af G s s₁)(ha:s.heap.get? a=none)(hal:∃ o,s₁.heap.get? a=some o)(hst:a3j sc (G.nm x)=true)(hm:noMeth σ x=true)(hW:W x=true)
  (N:NewV G Γ σ oa s₁.heap s₁.toks a sl) {Q:Unit→Shared→Prop} (hQ:∀ s',Goes G Γ lvl sc W σ oa s (σ.set x sl) (b7c oa x a) s'→Q () s') :
  wpAny (model G.prog G.w) Γ.A (storeName Γ.env (G.nm x) (.ref a)) Q E s₁:=
 (S.plusKp ha af.kp af.gst hal).storeNew S.badT S.badL S.badC (fun q=>(S.alloc _ (.inl q)).elim fun o e=>a0f ha e rfl) (a4l S ha) (a1J hst) hm N fun s' S' k'=>hQ s' ⟨S',.ofNew af.kp k' ha hW⟩
theorem c3L {x:Nat}{pes:PEs}{es:List Expr}{p q r:Pos}(hst:a3j sc (G.nm x)=true)(hA:a5q G F lvl sc pes es):SJ G F lvl fuel sc (.asg x true (.list pes)) (.Assign [.Name (G.nm x) q] (.List es r) p):=fun Γ W σ oa s out hW S h Q E hQ=>by
 refine (a0P h).elim fun hm h=>?_
 refine a2v (show ((evE F σ (.list pes)).bind D.ownOf).map _=some out from h) fun sl h e=>?_
 refine a0j h (clear% h;fun d h hsl=>?_)
 refine a0j (show (a3i F σ pes).bind _ = _ from h) fun ds hds h=>?_
 refine a0Q h (clear% h;fun hok h=>?_)
 rw [← h] at hsl
 rw [← e,← (c7Q hsl:Slot.own ds=sl)] at hQ
 refine wpAny_Assign_Name (wpAny_List (hA _ _ _ _ _ S hds r _ _ fun vs s₁ a₁ rr=>⟨rr.length.symm ▸ a0H hok,?_⟩)) rfl
 have hn:s.heap.get? s₁.heap.objs.size=none:=a7u a₁.kp ((S.af a₁).gst.tab |> fun t q=>(G.tabGet _ t _ q).elim fun ps e=>a0f (fresh (c7G _)) e rfl) (fresh (c7G _))
 exact b5f (sl:=.own ds) S (a₁.kf (Kf.push (c7G _))) hn ⟨_,c8a _ rfl⟩ hst hm (hW x (c9b.mpr (.inl (c7R x)))) ⟨vs,⟨0,c8a _ rfl⟩,
  rr.plus (P:=(·=s₁.heap.objs.size)) (fun _ q=>q ▸ fresh (c7G _)) (c7G _) fun _ _ e=>c7P _ e⟩ fun s' T=>a1X hQ T
noncomputable def b5g (own:Bool)(r:List D):Slot:=match own with
 | true=>.own r
 | false=>.val (.list r)
noncomputable def oaL (own:Bool)(oa:Nat→Addr)(x:Nat)(a:Addr):Nat→Addr:=match own with
 | true=>b7c oa x a
 | false=>oa
theorem a7H {own:Bool}{x:Nat}{a:Addr}{r:List D}{vs:List Value}(S:St G (Γ.plus a) lvl sc σ oa s)(hT:∀ t∈G.T,Γ.bad t)(hL:Γ.bad Γ.env.locals)(hC:∀ x c,Γ.env.cells.lookup x=some c→Γ.bad c)(nb:¬ a0k Γ σ oa a)(ga:G.g.get? a=none)
  (hp:s.heap.PlainList a vs.toArray) (rr:RepL (rc G Γ) (a0k (Γ.plus a) σ oa) s.heap s.toks vs r) (hst:a3j sc (G.nm x)=true) (hm:noMeth σ x=true)
  {Q:Unit→Shared→Prop} (hQ:∀ s',St G Γ lvl sc (σ.set x (b5g own r)) (oaL own oa x a) s'→Kt G Γ x s s'→Q () s'):wpAny (model G.prog G.w) Γ.A (storeName Γ.env (G.nm x) (.ref a)) Q E s:=by
 cases own with
 | true=>exact S.storeNew hT hL hC (fun q=>nb (.inl q)) ga (a1J hst) hm (sl:=.own r) ⟨vs,hp,rr⟩ hQ
 | false=>
  refine hp.elim (clear% hp;fun n hp=>?_)
  have S₀:St G Γ lvl sc σ oa s:=S.doneBut hT hL hC (fun q=>nb (.inl q)) ga hp nofun (fun _ _ _ e=>e) (c7G _)
  exact S₀.store (W:=fun _=>true) (a1J hst) hm (.list nb ⟨_,hp,rfl,n,rfl⟩ (rr.weaken fun b hb=>a0K.mpr (.inl hb))) fun s' S' k _=>hQ s' S' k
theorem a9I {own:Bool}{x:Nat}{a:Addr}{r:List D}(k₁:Kp G s₁ s)(k:Kt G Γ x s s')(ha:s₁.heap.get? a=none)(hW:W x=true):Step G Γ W σ oa s₁ (σ.set x (b5g own r)) (oaL own oa x a) s':=by
 cases own with
 | true=>exact .ofNew k₁ k ha hW
 | false=>exact k.stepNo rfl k₁
theorem b5h {own:Bool}{x:Nat}{Dd C:Addr}{r:List D}(S:St G Γ lvl sc σ oa s)(O:CompOut G Γ σ oa s s' Dd C r)(hst:a3j sc (G.nm x)=true)(hm:noMeth σ x=true)(hW:W x=true){Q:Flow→Shared→Prop}
  (hQ:∀ s₂,Goes G Γ lvl sc W σ oa s (σ.set x (b5g own r)) (oaL own oa x Dd) s₂→Q .next s₂) :
  compPost (model G.prog G.w) Γ.A E none (fun v s₁=>wpAny (model G.prog G.w) Γ.A (storeName Γ.env (G.nm x) v) (fun _=>Q .next) E s₁) (.ref Dd) C (.ok .next) s':=by
 refine (O.ns).elim fun m hn=>?_
 refine (O.list).elim fun vs Z1=>Z1.elim (fun hp rr=>?_)
 refine⟨m,hn,fun h' hsb=>?_⟩
 have k:∀ b o,b≠C→s'.heap.get? b=some o→h'.get? b=some o:=fun b o hb=>hsb.extBut b o hb
 have af:=(O.done S k).1
 have hp':h'.PlainList Dd vs.toArray:=hp.elim fun n e=>⟨n,k _ _ O.ne e⟩
 exact a7H (Q:=fun _=>Q .next) (S.plusKp O.newD af.kp af.gst (hp'.elim fun n e=>⟨_,e⟩)) S.badT S.badL S.badC (fun q=>(S.alloc _ q).elim fun o e=>a0f O.newD e rfl) (a4l S O.newD) hp'
  ((rr.keep (c7G _) fun b o hb=>k b o fun q=>hb (.inr (.inr q))).weaken fun b hb=>(a0K.mp hb).imp id .inl) hst hm fun s₂ S₂ k₂=>hQ s₂ ⟨S₂,a9I af.kp k₂ O.newD hW⟩
theorem b3n {own:Bool}{x:Nat}{q:Pos}{Dd C:Addr}{r:List D}(S:St G Γ lvl sc σ oa s)(O:CompOut G Γ σ oa s s' Dd C r)(hst:a3j sc (G.nm x)=true)(hm:noMeth σ x=true)(hW:W x=true){Q:Flow→Shared→Prop}
  (hQ:∀ s₂,Goes G Γ lvl sc W σ oa s (σ.set x (b5g own r)) (oaL own oa x Dd) s₂→Q .next s₂) :
  compPost (model G.prog G.w) Γ.A E (some (assign (.Name (G.nm x) q) Γ.env)) (fun _ s'=>Q .next s') (.ref Dd) C (.ok .next) s':=by
 refine (O.ns).elim fun m hn=>?_
 refine (a6o hn).elim fun oC Z1=>Z1.elim (fun eC cC=>?_)
 refine (O.list).elim fun vs Z1=>Z1.elim (fun hp rr=>?_)
 have al:∀ {b},s.heap.get? b=none→¬ a0k Γ σ oa b:=fun hb q=>(S.alloc _ q).elim fun o e=>a0f hb e rfl
 have nC:¬ Γ.bad C:=fun q=>al O.newC (.inl q)
 have SD:St G ((Γ.plus C).plus Dd) lvl sc σ oa s':=S.barKp (s':=s') (fun b=>(Γ.bad b∨b=C)∨b=Dd) (fun _ h=>.inl (.inl h)) (fun b hb=>hb.elim (fun hb=>hb.elim .inl fun hb=>.inr (hb ▸ ⟨O.newC,_,eC⟩)) fun hb=>.inr (hb ▸ ⟨O.newD,hp.elim fun n e=>⟨_,e⟩⟩)) O.af.kp O.af.gst
 refine wpAny_assign_Name (a7H (Γ:=Γ.plus C) (own:=own) SD (fun t ht=>.inl (S.badT t ht)) (.inl S.badL) (fun y c e=>.inl (S.badC y c e)) (fun h=>(a0K.mp h).elim (al O.newD) O.ne) (a4l S O.newD) hp
  (rr.weaken fun b hb=>(a0K.mp hb).elim (fun h=>(a0K.mp h).imp id .inr) fun h=>.inr (.inl h)) hst hm fun s₂ S₂ k₂=>?_)
 have k₂:Kt G Γ x s' s₂:=⟨k₂.heap,k₂.os,k₂.toks,k₂.gens⟩
 have kC:∀ o,s'.heap.get? C=some o→s₂.heap.get? C=some o:=fun o=>k₂.heap C o (fun p=>nC (p ▸ S.badL)) fun p=>nC (S.badC _ _ p)
 refine⟨m,hn.at' kC,fun h' hsb=>?_⟩
 have k:∀ b o,b≠C→s₂.heap.get? b=some o→h'.get? b=some o:=fun b o hb=>hsb.extBut b o hb
 exact hQ _ ⟨S₂.doneBut S.badT S.badL S.badC nC (a4l S O.newC) (kC _ eC) cC.ok k (c7G _),(a9I O.af.kp k₂ O.newD hW).butP (P:=(·=C)) (fun _ p=>p ▸ O.newC) k (c7G _)⟩
theorem c3M {x:Nat}{own:Bool}{elt':PE}{t:Tgt}{iter:PE}{ifs:PEs}{gs:PGs}{fv:List Nat}{elt t' iter':Expr}{ifs':List Expr}{gs':List Comprehension}{scope:Scope}{pos p q:Pos}(hst:a3j sc (G.nm x)=true)
  (hs:a3A G.nm sc scope fv=true) (ht:a3z G.nm scope.names t t'=true) (hset:a4G iter'=true) (hasync:∀ g∈gs',g.is_async=0)
  (hI:a3p G F lvl sc iter iter') (hT:b6Y G F lvl (a4j sc scope.names) ifs ifs') (hG:GsJ G F lvl (a4j sc scope.names) scope.names elt' elt gs gs') :
  SJ G F lvl fuel sc (.asg x own (.comp fv elt' t iter ifs gs)) (.Assign [.Name (G.nm x) q] (.ListComp elt (⟨t',iter',ifs',0⟩ :: gs') scope pos) p):=fun Γ W σ oa s out hW S h Q E hQ=>by
 refine (a0P h).elim fun hm h=>?_
 have K:=a3S hs
 have hWx:W x=true:=hW x (c9b.mpr (.inl (c7R x)))

 have key:∃ d,evE F σ (.comp fv elt' t iter ifs gs)=some d∧∀ r,d=.list r→out=.next (σ.set x (b5g own r)):=by
  cases own with
  | true=>
   refine a2v (show ((evE F σ (.comp fv elt' t iter ifs gs)).bind D.ownOf).map _=some out from h) fun sl h e=>?_
   refine a0j h (clear% h;fun d hd hsl=>?_)
   exact⟨d,hd,fun r q=>by rw [q] at hsl;exact (e.symm.trans (c7H (fun sl=>Out.next (σ.set x sl)) (c7Q hsl).symm))⟩
  | false=>
   refine a2v (show (evE F σ (.comp fv elt' t iter ifs gs)).map _=some out from h) fun d hd e=>?_
   exact⟨d,hd,fun r q=>e.symm.trans (q ▸ rfl)⟩
 refine key.elim (clear% key;fun d Z1=>Z1.elim (fun hd hout=>?_))
 have hns:∀ x∈scope.names,x.2=.local→scope.names.lookup x.1=some .local:=fun x hx hl=>(K.cons x hx).trans (c7H some hl)
 obtain⟨sw,hsw⟩:∃ b,swapsWith (.ListComp elt (⟨t',iter',ifs',0⟩ :: gs') scope pos) (some (.Name (G.nm x) q)) p.line Γ.env=pure b:=⟨_,rfl⟩
 cases sw with
 | false=>
  refine wpAny_Assign_Name ?_ hsw
  rw [eval_ListComp]
  obtain⟨hc,hw⟩:=a6y (E:=E) (elt:=elt) (pos:=pos) hs ht hasync hI hT hG S hd (RR:=fun acc C=>compPost (model G.prog G.w) Γ.A E none (fun v s₁=>wpAny (model G.prog G.w) Γ.A (storeName Γ.env (G.nm x) v) (fun _=>Q .next) E s₁) acc C)
   fun r Dd C s' e O=>b5h S O hst hm hWx fun s₂ T=>hQ _ _ (hout r e ▸ ⟨rfl,_,T⟩)
  exact wpAny_comprehension_free (use:=none) rfl (fun x=>a2P hset) hc K.kind hns hw
 | true=>
  rw [exec_Assign_Name_used _ _ _ _ hsw]
  refine c8e (c8J (c8e ?_))
  obtain⟨hc,hw⟩:=a6y (E:=E) (elt:=elt) (pos:=pos) hs ht hasync hI hT hG S hd (RR:=fun acc C=>compPost (model G.prog G.w) Γ.A E (some (assign (.Name (G.nm x) q) Γ.env)) (fun _ s'=>Q .next s') acc C)
   fun r Dd C s' e O=>b3n S O hst hm hWx fun s₂ T=>hQ _ _ (hout r e ▸ ⟨rfl,_,T⟩)
  show wpAny _ Γ.A (do let _ ← comprehension (.ListComp elt (⟨t',iter',ifs',0⟩ :: gs') scope pos) scope Γ.env _ (newList []) false (eval iter' Γ.env) (some (assign (.Name (G.nm x) q) Γ.env))) _ _ s
  exact c8e (c8H (wpAny_comprehension_free (use:=some (assign (.Name (G.nm x) q) Γ.env)) (Q:=fun _ s'=>Q .next s') rfl (fun x=>a2P hset) hc K.kind hns hw) (fun _ s' hq=>c8f (c8f hq)) fun _ _ e=>e)
end
end
section
noncomputable def b5i (v:Expr):Bool:=!(isT v .tup)||!((vw v).es.all (constantsAlone 8))||(vw v).es.all (foldedForSure 8)
section
variable {G:GC}{F:Fns}{lvl fuel:Nat}{Γ:Ctx}{W:Nat→Bool}{sc names:a0h}{σ σ₀ σ':Store}{oa oa':Nat→Addr}{s s' s₁:Shared}{v:Value}{d:D}{E:Value→Shared→Prop}
theorem a9J {nm:Nat→Str}{f:Expr→Option Str}(hf:∀ y p z,f (.Name y p)=some z→y=z){xs:List Nat}{ts:List Expr}(h:Tgts nm sc xs ts):(ts.filterMap f).length≤ts.length∧((ts.filterMap f).length=ts.length→ts.filterMap f=xs.map nm):=by
 induction h with
 | nil=>exact⟨c7G _,fun _=>rfl⟩
 | @cons x xs es p h r ih=>
  cases e:f (.Name (nm x) p) with
  | none=>
   rw [List.filterMap_cons_none e]
   exact⟨Nat.le_succ_of_le ih.1,fun q=>absurd ih.1 (Nat.not_le_of_lt (Nat.lt_of_succ_le (c8w q.symm)))⟩
  | some y=>
   rw [c9r e,← hf _ _ _ e]
   exact⟨Nat.succ_le_succ ih.1,fun q=>c7H (nm x :: ·) (ih.2 (Nat.succ.inj q))⟩
noncomputable def a9K (names:List Str)(m:Sem (Option (List Str))):Prop:=∃ r,m=pure r∧(r=none∨r=some names)
theorem a3G {names:List Str}:a9K names (pure none):=⟨_,rfl,.inl rfl⟩
theorem a6J {names:List Str}{c:Prop}[Decidable c]{a b:Sem (Option (List Str))}(h1:c→a9K names a)(h2:¬ c→a9K names b):a9K names (if c then a else b):=by
 by_cases h:c
 ·rw [c7K h];exact h1 h
 ·rw [c7M h];exact h2 h
theorem b8b {α:Type}{c:Bool}{a b:α}(h:(if c=true then some a else none)=some b):a=b:=by
 cases c with
 | true=>exact c7Q h
 | false=>exact a0e h
theorem a8A {xs:List Nat}{ts:List Expr}{v':Expr}{k:Nat}{q:Pos}{env:Env}(ht:Tgts G.nm sc xs ts)(hok:b5i v'=true):a9K (xs.map G.nm) (swappedStores [.Tuple ts k q] v' env):=by
 cases hv:isT v' .tup with
 | false=>cases v' <;> first | exact a3G | exact absurd hv.symm c7I
 | true=>
  have e:v'=.Tuple (vw v').es (vw v').n (vw v').pos:=a0A hv
  have hok:(!(isT v' .tup)||!((vw v').es.all (constantsAlone 8))||(vw v').es.all (foldedForSure 8))=true:=hok
  rw [hv] at hok
  rw [e]
  generalize (vw v').es=vs at hok
  refine a6J (fun _=>a3G) fun _=>a6J (fun _=>a3G) fun _=>a6J (fun _=>a3G) fun h3=>a6J (fun _=>a3G) fun h4=>a6J (fun h5=>?_) fun _=>?_
  ·rcases or2 hok with h | h
   ·exact absurd (a2w h) (fun p=>c7I (p.symm.trans h5))
   ·exact absurd h h4
  ·refine⟨_,rfl,.inr (c7H some ((a9J (fun y p z h=>b8b h) ht).2 ?_))⟩
   exact c7X (p:=_ = _) (Bool.not_eq_false _ ▸ fun h=>h3 (c9b.mpr (.inl (bne_iff_ne.mpr (of_decide_eq_false h)))))
noncomputable def a2F (l:List (Nat×D))(σ:Store):Store:=l.foldl (fun σ p=>σ.set p.1 (.val p.2)) σ
theorem b5j {l:List (Nat×D)}{y:Nat}:(l.foldr (fun p σ=>σ.set p.1 (.val p.2)) σ).get y=((l.lookup y).map Slot.val).or (σ.get y):=by
 induction l with
 | nil=>rfl
 | cons p r ih=>
  show (Store.set (List.foldr _ σ r) p.1 (.val p.2)).get y=((List.lookup y ((p.1,p.2) :: r)).map _).or _
  rw [Store.get_set,c7J]
  by_cases q:y=p.1
  ·rw [c7K q,c7L.mpr q];rfl
  ·rw [c7M q,c7N.mpr q];exact ih
theorem b5k {l:List (Nat×D)}{y:Nat}(hn:(l.map (·.1)).Nodup):(a2F l σ).get y=((l.lookup y).map Slot.val).or (σ.get y):=by
 induction l generalizing σ with
 | nil=>rfl
 | cons p r ih=>
  refine (List.nodup_cons.mp hn).elim fun h1 h2=>?_
  show (a2F r (σ.set p.1 (.val p.2))).get y=((List.lookup y ((p.1,p.2) :: r)).map _).or _
  rw [ih h2,c7J,Store.get_set]
  by_cases q:y=p.1
  ·rw [c7K q,c7L.mpr q]
   cases e:r.lookup y with
   | none=>rfl
   | some c=>exact absurd (show p.1∈_ from q ▸ (List.mem_map_of_mem (f:=(·.1)) (a7E e):y∈_)) h1
  ·rw [c7M q,c7N.mpr q]
theorem RepL.reverse {C:RC}{B:Addr→Prop}{h:Heap}{n:Nat}{vs:List Value}{ds:List D}(r:RepL C B h n vs ds):RepL C B h n vs.reverse ds.reverse:=by
 induction ds generalizing vs with
 | nil=>rw [show vs=[] from c9s.mp r.length];exact .nil
 | cons d ds ih=>
  obtain⟨v',vs',rfl,a,r⟩:=r.view
  rw [List.reverse_cons,List.reverse_cons]
  exact (ih r).snoc a
theorem b5l {xs:List Nat}{vs:List Value}{ds:List D}(hst:∀ x∈xs,a3j sc (G.nm x)=true)(S:St G Γ lvl sc σ oa s)(hl:xs.length=ds.length)(hmeth:∀ x∈xs,noMeth σ x=true)
  (r:RL G Γ σ oa s vs ds) {Q:Unit→Shared→Prop} (h:∀ s',Goes G Γ lvl sc W σ oa s (a2F (xs.zip ds) σ) oa s'→Q () s') :
  wpAny (model G.prog G.w) Γ.A (assignInOrder ((xs.map G.nm).map fun n=>bindName Γ.env n) vs) Q E s:=by
 induction xs generalizing σ s vs ds with
 | nil=>
  cases ds with
  | cons _ _=>cases hl
  | nil=>exact c8f (h s (.refl S))
 | cons x xs ih=>
  cases ds with
  | nil=>cases hl
  | cons d ds=>
   obtain⟨v',vs',rfl,a,r⟩:=r.view
   have h1:=hmeth x c8L
   show wpAny _ _ (_ >>= fun _=>assignInOrder ((xs.map G.nm).map fun n=>bindName Γ.env n) vs') _ _ _
   refine c8e (c8c (wpAny_bindName (S.store (W:=W) (a1J (hst x c8L)) h1 a fun s₁ S₁ k₁ t₁=>?_)))
   have r₁:RL G Γ (σ.set x (.val d)) oa s₁ vs' ds:=r.chg ⟨k₁.toks,fun b o hb=>k₁.heap b o (fun q=>hb (.inl (q ▸ S.badL))) (fun q=>hb (.inl (S.badC _ _ q))),fun b _ hb _ q=>hb ((a3r (sl:=.val d) S rfl h1).all b q)⟩
   exact ih (fun y hy=>hst y (c8O _ hy)) S₁ (Nat.succ.inj hl) (fun y hy=>a1w rfl (hmeth y (c8O _ hy))) r₁ fun s' T=>h s' (Goes.trans ⟨S₁,t₁⟩ T)
theorem c1b {nm:Nat→Str}{xs:List Nat}{ts:List Expr}(h:Tgts nm sc xs ts):∀ x∈xs,a3j sc (nm x)=true:=by
 induction h with
 | nil=>exact fun x hx=>nomatch hx
 | cons p h r ih=>exact fun y hy=>(c8o.mp hy).elim (fun e=>e ▸ h) (ih y)
theorem c3N {xs:List Nat}{e:PE}{ts:List Expr}{v':Expr}{k:Nat}{p q:Pos}(ht:a4H G.nm sc xs ts=true)(hnd:xs.Nodup)(hok:b5i v'=true)(hc:a2E v'=false)(hE:EvJ G F lvl sc e v'):SJ G F lvl fuel sc (.asgT xs e) (.Assign [.Tuple ts k q] v' p):=fun Γ W σ oa s out hW S h Q E hQ=>by
 refine a0j (show (evE F σ e).bind _=some out from h) fun d hd h=>?_
 refine a2v h (clear% h;fun σ₁ hb h=>?_)
 rw [← h] at hQ
 refine a0j (show d.asTup.bind _=some σ₁ from hb) fun ds hds hb'=>?_
 refine a0Q hb' (clear% hb';fun hc1 hb'=>?_)
 refine a0b hc1 (clear% hc1;fun hl hm=>?_)
 have hl:=c7X hl
 have T:=a9q ht
 refine (a8A (G:=G) (env:=Γ.env) (k:=k) (q:=q) T hok).elim fun rr Z1=>Z1.elim (fun hr hcase=>?_)
 have hs:swapsWithSole [.Tuple ts k q] v' p.line Γ.env=pure false:=(a4P hc:swapsWith v' (some (.Tuple ts k q)) p.line Γ.env=pure false)
 rcases hcase with e | e
 ·rw [e] at hr
  refine PyProof.Rows.Assign_Tuple (hE _ _ _ _ _ S hd _ _ fun v s₁ R=>?_) hs hr
  exact a6t (W:=W) (S.af R.af) (t:=.many xs) (e:=.Tuple ts k q) (show a3z G.nm sc (.many xs) (.Tuple ts k q)=true from ht) (R.rep.rep (a2m hds ▸ rfl)) hb fun s₂ S₂ _ t=>a1X hQ ((Goes.af S R.af).trans ⟨S₂,t⟩)
 ·rw [e] at hr
  refine PyProof.Rows.Assign_Tuple_swapped (hE _ _ _ _ _ S hd _ _ fun v s₁ R=>?_) hs hr
  have r:=R.rep
  rw [a2m hds] at r
  obtain⟨a,vs,ev,_,hi,rl⟩:=r.asTup
  rw [ev,show (xs.map G.nm).length=vs.toArray.size from (c8u G.nm).trans (hl.trans rl.length.symm)]
  refine PyProof.Rows.unpackItems_tuple S.aok.1 hi fun h' he=>?_
  have kf:Kf s₁ { s₁ with heap:=h' }:=⟨fun b o e=>he b o (c8A (c7Z e)) e,rfl,c7G _,rfl⟩
  have af:=R.af.kf kf
  rw [← List.map_reverse]
  refine b5l (W:=W) (fun x hx=>c1b T x (List.mem_reverse.mp hx)) (S.af af) (by rw [List.length_reverse,List.length_reverse];exact hl) (fun x hx=>c8k.mp hm x (List.mem_reverse.mp hx)) (rl.keep (c7G _) fun b o _ e=>kf.heap b o e).reverse fun s₃ T₃=>?_
  have eg:∀ y,Store.get σ₁ y=(a2F (xs.reverse.zip ds.reverse) σ).get y:=fun y=>by
   rw [List.zip_eq_zipWith,← List.reverse_zipWith hl,← List.zip_eq_zipWith]
   unfold a2F
   rw [List.foldl_reverse,b5j,← hb']
   exact b5k ((c7H List.Nodup (List.map_fst_zip (c8w hl))).mpr hnd)
  have eo:∀ y,Store.isOwn σ₁ y=(a2F (xs.reverse.zip ds.reverse) σ).isOwn y:=fun y=>c7H (fun o=>(Option.map Slot.isOwn o).getD false) (eg y)
  have t:=(Step.ofKp (W:=W) af.kp).trans (S.af af) T₃.step
  exact a1X hQ ⟨T₃.st.forget (fun y sl hy=>(eg y).symm.trans hy) fun y hy=>(eo y).trans hy,t.heap,t.os,t.toks,t.gens,fun y hy=>t.own y ((eo y).symm.trans hy),t.addr⟩
end
end
section
section
variable {G:GC}{F:Fns}{lvl fuel:Nat}{Γ:Ctx}{W:Nat→Bool}{sc names:a0h}{σ σ₀ σ':Store}{oa oa₀ oa':Nat→Addr}{s s₀ s' s₁:Shared}{v:Value}{d:D}{E:Value→Shared→Prop}
theorem a3k {A:Around}{R:Result→Shared→Prop}{target:Expr}{it:Value}{body orelse:List Stmt}{env:Env}{E:Value→Shared→Prop}(hE:E=notedBy (model G.prog G.w) A env fun e s'=>R (.error e) s')
  (turn:wpAny (model G.prog G.w) A (pyNext it) (fun r s₁=>match r with
   | none=>wpAny (model G.prog G.w) A (execs orelse env) (fun f s₃=>R (.ok f) s₃) E s₁
   | some v=>wpAny (model G.prog G.w) A (letOwnedTupleGo target it v) (fun _ s₁'=>
     wpAny (model G.prog G.w) A (assign target env v) (fun _ s₂=>wpAny (model G.prog G.w) A (execs body env) (fun f s₃=>match f with
      | .next | .cont=>codeAny (model G.prog G.w) A (.forLoop target it body orelse env) R s₃
      | .brk=>R (.ok .next) s₃
      | .ret v=>R (.ok (.ret v)) s₃) E s₂) E s₁') E s₁) E s) :
  codeAny (model G.prog G.w) A (.forLoop target it body orelse env) R s:=by
 refine codeAny_of_tree ?_
 show wpAny _ A ((forTurn target it body orelse env).onRaise (fun x=>do noteFrame x env;theTreesLotGoes x)) _ _ s
 refine wpAny_noted ?_
 unfold forTurn
 rw [← hE]
 refine c8e (c8J (c8e (wpAny_onRaise (c8H turn (fun r s₁ h₁=>?_) fun _ _ h'=>c8J h'))))
 cases r with
 | none=>exact c8f ⟨rfl,codeAny_block (hE ▸ h₁)⟩
 | some v=>
  refine c8e (c8H h₁ (fun _ s₁' h₁'=>c8e (c8H h₁' (fun _ s₂ h₂=>c8e (c8H h₂ (fun f s₃ h₃=>?_) fun _ _ h'=>h')) fun _ _ h'=>h')) fun _ _ h'=>h')
  cases f with
  | next=>exact c8f ⟨rfl,h₃⟩
  | cont=>exact c8f ⟨rfl,h₃⟩
  | brk=>exact c8f h₃
  | ret v=>exact c8f h₃
theorem a8B (S:St G Γ lvl sc σ oa s){b:Addr}(h:Mut Γ σ oa b):a0k Γ σ oa b:=h.elim (fun h=>.inl (h ▸ S.badL)) fun h=>h.elim (fun h=>h.elim fun x h=>.inl (S.badC x b h)) fun h=>h.elim fun x h=>.inr ⟨x,h⟩
theorem Step.badOf (t:Step G Γ W σ oa s σ' oa' s'){b:Addr}{o:Obj}(hb:¬ a0k Γ σ oa b)(e:s.heap.get? b=some o):¬ a0k Γ σ' oa' b:=fun q=>q.elim (fun q=>hb (.inl q)) fun q=>q.elim fun x q=>(t.own x q.1).elim (fun h=>h.elim fun y h=>hb (.inr ⟨y,h.1,q.2.trans h.2⟩)) fun h=>a0f h e q.2
theorem Step.mutOf (t:Step G Γ W σ oa s σ' oa' s'){b:Addr}{o:Obj}(hb:¬ Mut Γ σ oa b)(e:s.heap.get? b=some o):¬ Mut Γ σ' oa' b:=fun q=>q.elim (fun q=>hb (.inl q)) fun q=>q.elim (fun q=>hb (.inr (.inl q))) fun q=>q.elim fun x q=>(t.own x q.1).elim (fun h=>h.elim fun y h=>hb (.inr (.inr ⟨y,h.1,q.2.trans h.2⟩))) fun h=>a0f h e q.2
theorem Step.chg {n:Nat}(S:St G Γ lvl sc σ oa s)(t:Step G Γ W σ oa s σ' oa' s'){n':Nat}(hn:n≤n'):Chg (a0k Γ σ oa) (a0k Γ σ' oa') s.heap s'.heap n n':=
 ⟨hn,fun b o hb=>t.heap b o (fun q=>hb (.inl (S.badT b q))) (fun q=>hb (a8B S q)),fun b o hb e=>t.badOf hb e⟩
theorem Rep.step (r:RD G Γ σ oa s v d)(S:St G Γ lvl sc σ oa s)(t:Step G Γ W σ oa s σ' oa' s'):RD G Γ σ' oa' s' v d:=Rep.chg (t.chg S t.toks) r
theorem Rep.stepN {n:Nat}(r:Rep (rc G Γ) (a0k Γ σ oa) s.heap n v d)(S:St G Γ lvl sc σ oa s)(t:Step G Γ W σ oa s σ' oa' s'):Rep (rc G Γ) (a0k Γ σ' oa') s'.heap n v d:=Rep.chg (t.chg S (c7G _)) r
theorem b3o {t:PE}{t':Expr}{body:List Stmt}{pb:List PS}(hT:TsJ G F lvl sc t t')(hB:SsJ G F lvl fuel sc pb body)(hW:∀ x,a4D pb x=true→W x=true){R:Result→Shared→Prop}{out:Out}
  (hR:∀ f s',c0X G Γ lvl sc W σ₀ oa₀ s₀ out f s'→R (.ok f) s') (n:Nat) (T:Goes G Γ lvl sc W σ₀ oa₀ s₀ σ oa s) (h:a1I (evT F · t) (a0C F fuel · pb) n σ=some out) :
  codeAny (model G.prog G.w) Γ.A (.whileLoop t' body [] Γ.env) R s:=by
 induction n generalizing σ oa s with
 | zero=>exact a0e h
 | succ n ih=>
  refine a0j (show (evT F σ t).bind _=some out from h) fun b hq h=>?_
  refine codeAny_of_tree ?_
  show wpAny _ Γ.A ((whileTurn t' body [] Γ.env).onRaise (fun x=>do noteFrame x Γ.env;theTreesLotGoes x)) _ _ s
  refine wpAny_noted ?_
  unfold whileTurn
  refine c8e (hT _ _ _ _ _ T.st hq _ _ fun s₁ a=>?_)
  have T₁:=T.trans (.af T.st a)
  cases b with
  | false=>exact c8e (wpAny_execs_nil (c8f (hR _ _ (c7Q h ▸ ⟨rfl,oa,T₁⟩))))
  | true=>
   refine a0j h (clear% h;fun o hb h=>?_)
   refine c8e (hB _ _ _ _ _ _ hW T₁.st hb _ _ fun f s₃ O=>?_)
   have O:=T₁.behind O
   cases o with
   | next σ₃=>
    refine O.elim (clear% O;fun e Z1=>Z1.elim (fun oa₃ T₃=>?_))
    rw [e]
    exact c8f ⟨rfl,ih T₃ h⟩
   | cont σ₃=>
    refine O.elim (clear% O;fun e Z1=>Z1.elim (fun oa₃ T₃=>?_))
    rw [e]
    exact c8f ⟨rfl,ih T₃ h⟩
   | brk σ₃=>
    refine O.elim (clear% O;fun e T₃=>?_)
    rw [e]
    exact c8f (hR _ _ (c7Q h ▸ ⟨rfl,T₃⟩))
   | ret d=>
    have q:=hR _ _ (c7Q h ▸ O)
    refine O.elim (clear% O;fun v Z1=>Z1.elim (fun e _=>?_))
    rw [e] at q ⊢
    exact c8f q
theorem c1c {t:PE}{t':Expr}{body:List Stmt}{pb:List PS}{p:Pos}(hT:TsJ G F lvl sc t t')(hB:SsJ G F lvl fuel sc pb body):SJ G F lvl fuel sc (.while t pb) (.While t' body [] p):=fun Γ W σ oa s out hW S h Q E hQ=>
 wpAny_While (b3o (W:=W) hT hB hW (fun f s' O=>hQ f s' O) fuel (.refl S) h)
end
end
section
section
variable {G:GC}{F:Fns}{lvl fuel:Nat}{Γ:Ctx}{W:Nat→Bool}{sc names:a0h}{σ σ₀ σ':Store}{oa oa₀ oa':Nat→Addr}{s s₀ s' s₁:Shared}{va vb v:Value}{a b d:D}{E:Value→Shared→Prop}
theorem a9L {op:Operator}{f:Int→Int→Option Int}(ha:RT G Γ σ oa s va a)(hb:RT G Γ σ oa s vb b)(h:b0C a b f=some d)
  (hf:∀ x y z t u,f x y=some z→Does G Γ σ oa (inplaceOp op (.int x t) (.int y u)) s (.int z)):Does G Γ σ oa (inplaceOp op va vb) s d:=by
 refine a0j h (clear% h;fun x hx h1=>?_)
 refine a0j h1 (clear% h1;fun y hy h2=>?_)
 refine a2v h2 (clear% h2;fun z hz h=>?_)
 exact h ▸ RepT.ii (fun v w=>Does G Γ σ oa (inplaceOp op v w) s (.int z)) ha hb hx hy fun t u=>hf x y z t u hz
theorem a7I {op:Operator}(ha:RT G Γ σ oa s va a)(hb:RT G Γ σ oa s vb b)(h:c2G op a b=some d):Does G Γ σ oa (inplaceOp op va vb) s d:=by
 cases op with
 | Add=>
  rcases a0I (show (b0C a b fun x y=>some (x+y)).or (c5g a b fun x y=>grd (a0O (x.length+y.length)) (some (.str (x++y))))=some d from h) with h | h
  ·exact a9L ha hb h fun x y z t u h=>(c7Q h:x+y=z) ▸ .int fun Q E hQ=>P.iadd_int fun ht=>hQ _ _ ht
  ·refine a0j h (clear% h;fun x hx h=>?_)
   refine a0j h (clear% h;fun y hy h=>?_)
   refine a0Q h (clear% h;fun hc h=>?_)
   exact h ▸ RepT.ss (fun v w=>Does G Γ σ oa (inplaceOp .Add v w) s _) ha hb hx hy fun t u=>.str fun Q E hQ=>SB.iadd (fun t' k ht=>hQ _ _ ht) (a0H hc)
 | Mult=>exact a9L ha hb h fun x y z t u h=>(c5f h).2 ▸ .int fun Q E hQ=>P.imul_int (fun ht=>hQ _ _ ht) (b1I (c5f h).1)
 | _=>exact a0e (show none=some d from h)
theorem c6i {x:Nat}{op:Operator}{e:PE}{e':Expr}{p q:Pos}(hst:a3j sc (G.nm x)=true)(hk:b0O (G.nm x)=true)(hE:EvJ G F lvl sc e e'):SJ G F lvl fuel sc (.aug x op e) (.AugAssign (.Name (G.nm x) q) op e' p):=fun Γ W σ oa s out hW S h Q E hQ=>by
 refine a0j (show (σ.get x).bind _=some out from h) fun sl hx h=>?_
 refine a0j h (clear% h;fun a ha h=>?_)
 refine a0j h (clear% h;fun b hb h=>?_)
 refine (a0P h).elim fun hm h=>?_
 refine a2v h (clear% h;fun d hd h=>?_)
 rw [← h] at hQ
 refine wpAny_AugAssign_Name (S.read (hx.trans (c7H some (a6s ha))) (fun va sv=>?_) (a2w (a0i hk).2))
 refine hE _ _ _ _ _ S hb _ _ fun vb s₁ R=>?_
 have S₁:=S.af R.af
 exact a7I (RepT.kp S (.deep sv) R.af.kp) R.rep hd _ _ fun v s₂ kf r=>(S₁.kf kf).store (W:=W) (a1J hst) hm r fun s₃ S₃ _ t=>a1X hQ ((Goes.af S (R.af.kf kf)).trans ⟨S₃,t⟩)
theorem b1Y {x:Nat}{sl:Slot}(S:St G Γ lvl sc σ oa s)(hx:σ.get x=some sl):∃ v,SlotV G Γ σ oa s.heap s.toks x v sl:=S.slots.elim fun m h=>(h.2 x sl hx).elim fun v q=>⟨v,q.2⟩
theorem a6f (S:St G Γ lvl sc σ oa s){x:Nat}{l:List D}(hx:σ.get x=some (.own l)):∃ vs:List Value,s.heap.PlainList (oa x) vs.toArray∧RL G Γ σ oa s vs l:=(b1Y S hx).elim fun v h=>h.2
theorem b8c (S:St G Γ lvl sc σ oa s){x:Nat}{kv:List (Str×Int)}(hx:σ.get x=some (.ownD kv)):OwnDict G s.heap (oa x) kv:=(b1Y S hx).elim fun v h=>h.2
theorem b1Z (S:St G Γ lvl sc σ oa s){x:Nat}{l l':List D}(hx:σ.get x=some (.own l)){vs:List Value}{h':Heap}(hp:h'.PlainList (oa x) vs.toArray)(hs:Heap.SameBut (oa x) s.heap h')(r:RL G Γ σ oa s vs l') :
  Goes G Γ lvl sc W σ oa s (σ.set x (.own l')) oa { s with heap:=h' }:=by
 have k:∀ b o,b≠oa x→s.heap.get? b=some o→h'.get? b=some o:=fun b o hb e=>hs.extBut b o hb e
 have T:=S.ownT (W:=W) (tk:=s.toks) (sl:=.own l') hx rfl rfl k (hp.elim fun n e=>⟨_,e⟩) (c7G _) ⟨rfl,vs,hp,r.keep (c7G _) fun b o hb e=>k b o (fun q=>hb (.inr ⟨x,a1e hx,q⟩)) e⟩
 exact⟨T.1,T.2⟩
theorem b5m (S:St G Γ lvl sc σ oa s){x:Nat}{l:List D}(hx:σ.get x=some (.own l)){vs:List Value}{h':Heap}(rl:RL G Γ σ oa s vs l)(rv:RD G Γ σ oa s v d)(hp:h'.PlainList (oa x) (vs.toArray.push v))(hs:Heap.SameBut (oa x) s.heap h') :
  Goes G Γ lvl sc W σ oa s (σ.set x (.own (l++[d]))) oa { s with heap:=h' }:=
 b1Z (vs:=vs++[v]) S hx (List.push_toArray vs v ▸ hp) hs (rl.snoc rv)
theorem b2a {vs:List Value}{l:List D}(rl:RL G Γ σ oa s vs l)(hok:a0O l.length=true):vs.toArray.size≤sizeLine:=c7O (c8w (show vs.toArray.size=l.length from rl.length)) (a0H hok)
theorem c6j {x:Nat}{e:PE}{e':Expr}{p q r u:Pos}(hk:b0O (G.nm x)=true)(hline:(q.endLine==r.line)=true)(hs:a0J e'=true)(hE:EvJ G F lvl sc e e'):SJ G F lvl fuel sc (.app x e) (.Expr (.Call (.Attribute (.Name (G.nm x) u) (Str.ofString "append") q) [e'] [] r) p):=fun Γ W σ oa s out hW S h Q E hQ=>by
 refine a0j (show (σ.get x).bind _=some out from h) fun sl hx h=>?_
 refine a0j h (clear% h;fun l hl h=>?_)
 refine a0j h (clear% h;fun d hd h=>?_)
 refine a0Q h (clear% h;fun hc h=>?_)
 rw [← h] at hQ
 have hx:=hx.trans (c7H some (a3v hl))
 have htr:backTo r (starEach [e'] Γ.env)=[(false,eval e' Γ.env)]:=by rw [a0s hs];rfl
 refine wpAny_Expr_any ?_ (by unfold interactive;rw [S.kind];rfl) rfl
 refine wpAny_Call_append (b0S rfl) (by rw [htr];rfl) hline htr (c8I (S.read hx (fun v sv=>?_) (a2w (a0i hk).2)) (a2w (a0i hk).1))
 obtain⟨rfl,vs,⟨n,hp⟩,rl⟩:=sv
 refine⟨oa x,vs.toArray,rfl,⟨_,n,hp,rfl,rfl,rfl⟩,hE _ _ _ _ _ S hd _ _ fun v s₁ R=>?_⟩
 have S₁:=S.af R.af
 refine (a6f S₁ hx).elim fun vs₁ Z1=>Z1.elim (fun hp₁ rl₁=>?_)
 exact wpAny_list_append_plain hp₁ (fun h' hl hsb=>a1X hQ ((Goes.af S R.af).trans (b5m S₁ hx rl₁ (R.deep (a0i hc).1) hl hsb))) (b2a rl₁ (a0i hc).2)
theorem a8C {A:Around}{l:Addr}{items:Array Value}{k:Int}{j:Nat}{t:Tok}{v:Value}{Q:Unit→Shared→Prop}(hl:s.heap.PlainList l items)(hk:k=(j:Int))(hfit:k<2 ^ 63)(hj:j<items.size)
  (hQ:∀ h',h'.PlainList l (items.setIfInBounds j v)→Heap.SameBut l s.heap h'→Q () { s with heap:=h' }):wpAny (model G.prog G.w) A (setItem (.ref l) (.int k t) v) Q E s:=by
 have hL:=hl.isList
 refine hl.elim (clear% hl;fun n ho=>?_)
 unfold setItem
 try with_reducible refine c8c ?_
 first | refine c8e (c8f ?_) | skip
 refine c8e (wpAny_sequenceKey hL.typeIs (by decide) (c8e (wpAny_callSpecial?_slot (name:=Str.ofString "__setitem__") hL.typeIs slot_list_setitem
  (wpAny_call_entry slot_list_setitem hL.typeIs entry_list_setitem ?_ (args_list_setitem _ _ _)))))
 show wpAny _ _ (Builtin.List.listSubscript? (.int k t) >>= _) _ _ s
 refine c8e (wpAny_listSubscript_int (fitsIndex_of (hk ▸ c8t j) hfit) ?_)
 rw [hk]
 show wpAny _ _ ((seqItemAt l j >>= fun r=>pure (r.map (j,·))) >>= _) _ _ s
 refine c8e (c8e (wpAny_seqItemAt ho rfl (c8f ?_)))
 rw [c8K hj]
 show wpAny _ _ (setSeqItemAt l j v >>= _) _ _ s
 refine c8e (wpAny_setSeqItemAt ho rfl ?_)
 have hf:(s.heap.update l (Obj.mapSeq (·.setIfInBounds j v))).PlainList l (items.setIfInBounds j v):=⟨_,Heap.get?_update_self _ ho rfl⟩
 first
  | exact c8e (c8f (c8f ⟨.none,rfl,c8f (hQ _ hf (Heap.SameBut.update ..))⟩))
  | exact c8f ⟨.none,rfl,c8f (hQ _ hf (Heap.SameBut.update ..))⟩
theorem RepL.set {C:RC}{B:Addr→Prop}{h:Heap}{n:Nat}{vs:List Value}{ds:List D}(r:RepL C B h n vs ds)(rv:Rep C B h n v d)(i:Nat):RepL C B h n (vs.set i v) (ds.set i d):=by
 induction ds generalizing vs i with
 | nil=>rw [show vs=[] from c9s.mp r.length];exact .nil
 | cons d ds ih=>
  obtain⟨v',vs',rfl,a,r⟩:=r.view
  cases i with
  | zero=>exact .cons rv r
  | succ i=>exact .cons a (ih r i)
theorem KV.length {a:List (Str×Value)}{b:List (Str×Int)}(h:KV a b):a.length=b.length:=by
 induction h with
 | nil=>rfl
 | cons _ _ _ _ ih=>exact c7H (·+1) ih
theorem KV.stay {a:List (Str×Value)}{b:List (Str×Int)}(h:KV a b){k:Str}(v:Value)(hk:k ∉ a.map (·.1)):KV (a.map fun kv=>if kv.1=k then (kv.1,v) else kv) b:=by
 induction h with
 | nil=>exact .nil
 | cons z j u h ih=>
  refine (not_or.mp fun q=>hk (c8o.mpr q)).elim fun h1 h2=>?_
  rw [c9g,c7M (Ne.symm h1)]
  exact .cons _ _ _ (ih h2)
theorem b5n {k y:Str}{j i:Int}{r:List (Str×Int)}(h:¬ y=k):a0E ((y,j) :: r) k i=(y,j) :: a0E r k i:=c7M fun q=>h (c7L.mp q).symm
theorem KV.new {a:List (Str×Value)}{b:List (Str×Int)}(h:KV a b){k:Str}(i:Int)(t:Tok)(q:¬ a.any (fun kv=>decide (kv.1=k))=true):KV (a++[(k,.int i t)]) (a0E b k i):=by
 induction h with
 | nil=>exact .cons _ _ _ .nil
 | cons y j u h ih=>
  rw [b5n fun e=>q (c9b.mpr (.inl (c9c e)))]
  exact .cons _ _ _ (ih fun p=>q (c9b.mpr (.inr p)))
theorem KV.old {a:List (Str×Value)}{b:List (Str×Int)}(h:KV a b)(hn:(a.map (·.1)).Nodup){k:Str}(i:Int)(t:Tok)(q:a.any (fun kv=>decide (kv.1=k))=true):KV (a.map fun kv=>if kv.1=k then (kv.1,.int i t) else kv) (a0E b k i):=by
 induction h with
 | nil=>exact absurd q c7I
 | @cons y j u a b h ih=>
  refine (List.nodup_cons.mp hn).elim fun n1 n2=>?_
  by_cases e:y=k
  ·rw [c9g,c7K e,show a0E ((y,j) :: b) k i=(y,i) :: b from c7K (c7L.mpr e.symm)]
   exact .cons _ _ _ (h.stay _ (e ▸ n1))
  ·rw [c9g,c7M e,b5n e]
   exact .cons _ _ _ (ih n2 ((or2 q).resolve_left fun p=>e (c7X p)))
theorem KV.stored {a:List (Str×Value)}{b:List (Str×Int)}(h:KV a b)(hn:(a.map (·.1)).Nodup)(k:Str)(i:Int)(t:Tok):KV (PySem.stored a k (.int i t)) (a0E b k i):=by
 unfold PySem.stored
 by_cases q:a.any (fun kv=>decide (kv.1=k))=true
 ·rw [c7K q];exact h.old hn i t q
 ·rw [c7M q];exact h.new i t q
theorem c3O {x:Nat}{i e:PE}{i' e':Expr}{p q u:Pos}(hk:b0O (G.nm x)=true)(hc:a2E e'=false)(hI:EvJ G F lvl sc i i')(hE:EvJ G F lvl sc e e'):SJ G F lvl fuel sc (.asgI x i e) (.Assign [.Subscript (.Name (G.nm x) u) i' q] e' p):=fun Γ W σ oa s out hW S h Q E hQ=>by
 refine a0j (show (σ.get x).bind _=some out from h) fun sl hx h=>?_
 refine a0j h (clear% h;fun ui hi h=>?_)
 refine a0j h (clear% h;fun d hd h=>?_)
 refine a0j h (clear% h;fun kv hkv h=>?_)
 refine a0j h (clear% h;fun k hks h=>?_)
 refine a0j h (clear% h;fun j hj h=>?_)
 refine a0Q h (clear% h;fun hok h=>?_)
 rw [← h] at hQ
 have hx:=hx.trans (c7H some (b2I hkv))
 refine wpAny_Assign_Subscript (hE _ _ _ _ _ S hd _ _ fun v s₁ R=>?_) (a4P hc)
 have S₁:=S.af R.af
 refine c8I (S₁.read hx (fun w sv=>?_) (a2w (a0i hk).2)) (a2w (a0i hk).1)
 rw [sv.1]
 refine hI _ _ _ _ _ S₁ hi _ _ fun vi s₂ R₂=>?_
 have S₂:=S₁.af R₂.af
 refine (b8c S₂ hx).elim fun kvs Z1=>Z1.elim (fun hdict hkv=>?_)
 have hnod:(kvs.map (·.1)).Nodup:=hdict.elim fun _ h=>h.elim fun _ h=>h.elim fun _ h=>h.2.2.2.2.2
 refine R.rep.intP (P:=fun v=>wpAny _ _ (setItem _ vi v) _ E s₂) hj fun t=>R₂.rep.strP (P:=fun vi=>wpAny _ _ (setItem _ vi _) _ E s₂) hks fun t'=>?_
 refine wpAny_setItem_pairs (k:=k) (c7R k) hdict (fun h' hd' hsb=>?_) (c7O (c8w hkv.length) (c7O (c7T _) (a0H hok)))
 have T:=S₂.ownT (W:=W) (sl:=.ownD (a0E kv k j)) hx rfl rfl (fun b o hb e=>hsb.extBut b o hb e) (hd'.elim fun o h=>h.elim fun _ h=>h.elim fun _ h=>⟨o,h.1⟩) (c7T _) ⟨rfl,_,hd',hkv.stored hnod k j t⟩
 exact a1X hQ ((Goes.af S (R.af.trans R₂.af)).trans ⟨T.1,T.2⟩)
noncomputable def a8D (e:Expr):Bool:=!(isT e .slc)
theorem b1c {i:Expr}(h:a8D i=true)(ov iv new:Value):augStore i ov iv new=(do holding [new,ov,iv] (setItem ov iv new);release [new,ov,iv] [];pure .next):=by
 cases i <;> first | exact rfl | exact absurd h c7I
theorem c3P {x:Nat}{i:PE}{op:Operator}{e:PE}{i' e':Expr}{p q u:Pos}(hk:b0O (G.nm x)=true)(hns:a8D i'=true)(hI:EvJ G F lvl sc i i')(hE:EvJ G F lvl sc e e'):SJ G F lvl fuel sc (.augI x i op e) (.AugAssign (.Subscript (.Name (G.nm x) u) i' q) op e' p):=fun Γ W σ oa s out hW S h Q E hQ=>by
 refine a0j (show (σ.get x).bind _=some out from h) fun sl hx h=>?_
 refine a0j h (clear% h;fun ui hi h=>?_)
 refine a0j h (clear% h;fun b hb h=>?_)
 refine a0j h (clear% h;fun l hl h=>?_)
 refine a0j h (clear% h;fun k hks h=>?_)
 refine a0j h (clear% h;fun j hj h=>?_)
 refine a0j h (clear% h;fun a ha h=>?_)
 refine a2v h (clear% h;fun d hd h=>?_)
 rw [← h] at hQ
 have hx:=hx.trans (c7H some (a3v hl))
 refine (a0P hj).elim fun h0 hj=>?_
 have hI0:=a5p hj
 have hjk:k=(j:Int):=(hI0.pos (c7X h0) ▸ (Int.toNat_of_nonneg (c7X h0)).symm)
 have hfit:(j:Int)<2 ^ 63:=hjk ▸ hI0.hi'
 have hlt:j<l.length:=Int.ofNat_lt.mp (hjk ▸ hI0.hi)
 refine wpAny_AugAssign_SubscriptAny (c8I (S.read hx (fun w sv=>?_) (a2w (a0i hk).2)) (a2w (a0i hk).1)) (fun ov iv new=>b1c hns ov iv new)
 rw [sv.1]
 refine hI _ _ _ _ _ S hi _ _ fun vi s₁ R=>R.rep.intP (P:=fun vi=>wpAny _ _ (getItem _ vi) (fun old s₃=>wpAny _ _ _ (fun v s₄=>wpAny _ _ (inplaceOp op old v) (fun new s₅=>wpAny _ _ (setItem _ vi new) _ E s₅) E s₄) E s₃) E s₁) hks fun t=>?_
 rw [hjk]
 have S₁:=S.af R.af
 refine (a6f S₁ hx).elim fun vs Z1=>Z1.elim (fun hp rl=>?_)
 refine (rl.get j a ha).elim fun vo Z1=>Z1.elim (fun hvo ro=>?_)
 refine wpAny_getItem_list hp.isList (c8t j) hfit (x:=vo) (c8q.trans hvo) ?_
 refine hE _ _ _ _ _ S₁ hb _ _ fun vb s₂ R₂=>?_
 have S₂:=S₁.af R₂.af
 refine a7I (.deep (ro.kp S₁ R₂.af.kp)) R₂.rep hd _ _ fun v s₃ kf r=>?_
 have S₃:=S₂.kf kf
 refine (a6f S₃ hx).elim fun vs₃ Z1=>Z1.elim (fun hp₃ rl₃=>?_)
 refine a8C hp₃ rfl hfit (c7F hlt (c8w rl₃.length.symm)) fun h' hl hsb=>?_
 rw [List.setIfInBounds_toArray] at hl
 exact a1X hQ ((Goes.af S ((R.af.trans R₂.af).kf kf)).trans (b1Z (l':=l.set j d) (vs:=vs₃.set j v) S₃ hx hl hsb (rl₃.set r _)))
end
end
section
namespace FA
theorem lk_list_append:typeLookup (.type "list") "append"=pure (some (.builtin "list.append")):=by rw [c9j,c9k];kernel_rfl
theorem ty_list_append:typeOf (.builtin "list.append")=pure (.type "method_descriptor"):=by show builtinType _ = _;rw [builtinType_eq_fast];kernel_rfl
theorem slot_md_get:PySem.Slot "method_descriptor" "__get__" "method_descriptor.__get__":=
 .of (owner:="method_descriptor") (n:="__get__") (by rw [c9j,c9k];kernel_rfl) (by decide +kernel) (by decide +kernel) (by decide +kernel)
  (by first | exact .inl (by decide +kernel) | exact .inr (by decide +kernel)) (by rw [c8h];kernel_rfl)
theorem no_md_set:typeLookup (.type "method_descriptor") "__set__"=pure none:=by rw [c9j,c9k];kernel_rfl
theorem no_md_delete:typeLookup (.type "method_descriptor") "__delete__"=pure none:=by rw [c9j,c9k];kernel_rfl
theorem entry_md_get:entryFor table "method_descriptor.__get__"=some Builtin.«method_descriptor.__get__»:=entryFor_of_tree (by kernel_rfl)
theorem args_md_get (a b c:Value):argsOk "method_descriptor.__get__" ⟨[a,b,c],[]⟩:=by unfold argsOk;kernel_rfl
theorem no_list_getattr:typeLookup (.type "list") "__getattr__"=pure none:=by rw [c9j,c9k];kernel_rfl
theorem a9M:(".".intercalate ("list.append".cutAt '.').dropLast)="list":=by
 have e0:"list.append".cutAt '.'=["list","append"]:=by first | rfl | decide +kernel
 rw [e0];decide +kernel
theorem sub_list_list:isSubtype (.type "list") (.type (".".intercalate ("list.append".cutAt '.').dropLast))=pure true:=by
 rw [a9M,c8h];kernel_rfl
theorem sub_list_module:isSubtype (.type "list") (.type "module")=pure false:=by rw [c8h];kernel_rfl
end FA
section
variable {prog:Program}{w:World}{A:Around}{E:Value→Shared→Prop}{h:Heap}{g:Array GenState}{d:Drawn}{t:Nat}{os:OsState}{a:Addr}{o:Obj}
theorem b3p {R:Result→Shared→Prop}(hx:h.get? a=some o)(hc:o.cls=.type "list")(hq:R (.ok (.ret (.ref h.objs.size))) ⟨h.push (a4i a),g,d,t,os⟩) :
  codeAny (model prog w) A (.call (.builtin "method_descriptor.__get__") ⟨[.builtin "list.append",.ref a,.type "list"],[]⟩) R ⟨h,g,d,t,os⟩:=by
 have hT:(⟨h,g,d,t,os⟩:Shared).TypeIs (.ref a) "list":=⟨_,hx,hc⟩
 have hT5:(⟨h,g,d,t,os⟩:Shared).TypeIs (.builtin "list.append") "method_descriptor":=FA.ty_list_append
 have f8:=FA.sub_list_list
 refine codeAny_call_builtin FA.slot_md_get.plain FA.entry_md_get (FA.slot_md_get.check _ _ _ _ _ _ _ _ hT5 (FA.args_md_get _ _ _) ?_)
 repeat (any_goals (first | assumption | wp_step))
theorem a9N {tk:Tok}{Q:Fin→Shared→Prop}{xs:Array Value}{n:Nat}(hx:h.get? a=some { cls:=.type "list",data:=.seq xs n })(hq:Q (.done (.ret (.ref h.objs.size))) ⟨h.push (a4i a),g,d,t,os⟩) :
  wpAny (model prog w) A (Builtin.«object.__getattribute__» ⟨[.ref a,.str "append" tk],[]⟩) Q E ⟨h,g,d,t,os⟩:=by
 have hT:(⟨h,g,d,t,os⟩:Shared).TypeIs (.ref a) "list":=⟨_,hx,rfl⟩
 have hT5:(⟨h,g,d,t,os⟩:Shared).TypeIs (.builtin "list.append") "method_descriptor":=FA.ty_list_append
 have f4:=FA.lk_list_append
 have f5:=FA.ty_list_append
 have f6:=FA.slot_md_get.lookup
 have f7:=FA.no_md_set
 have f8:=FA.no_md_delete
 have f9:=FA.no_list_getattr
 repeat (any_goals (first | assumption | wp_step))
 refine b3p hx rfl ?_
 repeat (any_goals (first | assumption | wp_step))
theorem b1d {tk:Tok}{R:Result→Shared→Prop}{xs:Array Value}{n:Nat}(hx:h.get? a=some { cls:=.type "list",data:=.seq xs n })(hq:R (.ok (.ret (.ref h.objs.size))) ⟨h.push (a4i a),g,d,t,os⟩) :
  codeAny (model prog w) A (.call (.builtin "list.__getattribute__") ⟨[.ref a,.str "append" tk],[]⟩) R ⟨h,g,d,t,os⟩:=
 codeAny_call_builtin c9t.plain PySem.F.entry_list_ga (c9t.check _ _ _ _ _ _ _ _ (show (⟨h,g,d,t,os⟩:Shared).TypeIs (.ref a) "list" from⟨_,hx,rfl⟩) (PySem.F.args_list_getattribute_2 _ _) (a9N hx hq))
theorem b5o {tk:Tok}{Q:Value→Shared→Prop}{xs:Array Value}{n:Nat}(hx:h.get? a=some { cls:=.type "list",data:=.seq xs n })(hq:Q (.ref h.objs.size) ⟨h.push (a4i a),g,d,t,os⟩) :
  wpAny (model prog w) A (getAttrBy (.ref a) (.str "append" tk) true true) Q E ⟨h,g,d,t,os⟩:=by
 have hT:(⟨h,g,d,t,os⟩:Shared).TypeIs (.ref a) "list":=⟨_,hx,rfl⟩
 have f2:=c9t.lookup
 have f3:=c9t.bind (.ref a)
 have f9:=FA.no_list_getattr
 repeat (any_goals (first | assumption | wp_step))
 refine b1d hx ?_
 repeat (any_goals (first | assumption | wp_step))
theorem a9O {m:Addr}{v:Value}{Q:Value→Shared→Prop}{xs:Array Value}{s:Shared}(hm:s.heap.get? m=some (a4i a))(hl:s.heap.PlainList a xs)(hsz:xs.size≤sizeLine)
  (hQ:∀ h',h'.PlainList a (xs.push v)→Heap.SameBut a s.heap h'→Q .none { s with heap:=h' }):wpAny (model prog w) A (call (.ref m) [v]) Q E s:=by
 refine hl.elim (clear% hl;fun n ho=>?_)
 have hT:s.TypeIs (.ref a) "list":=⟨_,ho,rfl⟩
 refine wpAny_call (codeAny_of_tree ?_)
 show wpAny _ A.in1 (callAny (.ref m) ⟨[v],[]⟩) _ _ s
 simp only [callAny]
 refine c8e (wpAny_load hm ?_)
 have hchk:wpAny (model prog w) A.in1 (checkBoundCall "list.append" ⟨[.ref a,v],[]⟩) (fun _ s'=>s'=s) (fun _ _=>False) s:=by
  have f1:=FA.sub_list_module
  repeat (any_goals (first | assumption | wp_step))
  rfl
 show wpAny _ _ (do checkBoundCall "list.append" ⟨[.ref a,v],[]⟩;again (.builtin "list.append" ⟨[.ref a,v],[]⟩)) _ _ s
 refine c8e (c8H hchk (fun _ s' e=>?_) fun _ _ f=>f.elim)
 rw [show s'=s from e]
 refine c8f ⟨Code.quiet_builtin _ (by decide +kernel),codeAny_builtin entry_list_append ?_⟩
 show wpAny _ _ (updateSeq a (·.push v) >>= fun _=>ret .none) _ _ s
 refine c8e ?_
 refine wpAny_updateSeq ho rfl (c8f (hQ _ ⟨n+1,?_⟩ (Heap.SameBut.update ..)))
 rw [Heap.get?_update_self _ ho (by rw [Obj.mapSeq_push_plain];rfl),Obj.mapSeq_push_plain]
end
section
variable {G:GC}{F:Fns}{lvl fuel:Nat}{Γ:Ctx}{W:Nat→Bool}{sc names:a0h}{σ σ₀ σ':Store}{oa oa₀ oa':Nat→Addr}{s s₀ s' s₁:Shared}{v:Value}{d:D}{E:Value→Shared→Prop}
theorem c3Q {x y:Nat}{p q r u:Pos}(hst:a3j sc (G.nm x)=true)(hk:b0O (G.nm y)=true):SJ G F lvl fuel sc (.getm x y) (.Assign [.Name (G.nm x) q] (.Attribute (.Name (G.nm y) u) (Str.ofString "append") r) p):=fun Γ W σ oa s out hW S h Q E hQ=>by
 refine a0j (show (σ.get y).bind _=some out from h) fun sl hx h=>?_
 refine a0j h (clear% h;fun l hl h=>?_)
 refine a0Q h (clear% h;fun hc h=>?_)
 refine a0b hc (clear% hc;fun hm hne=>?_)
 have hne:x≠y:=bne_iff_ne.mp hne
 rw [← h] at hQ
 have hl:=hx.trans (c7H some (a3v hl))
 refine wpAny_Assign_Name (Attribute_name (c8I (S.read hl (fun v sv=>?_) (a2w (a0i hk).2)) (a2w (a0i hk).1))) rfl
 obtain⟨rfl,vs,⟨n,hp⟩,_⟩:=sv
 unfold getAttr
 refine c7Y (n:=s.toks) (c7G _) (c8e (wpAny_mkText ?_))
 refine b5o (a:=oa y) hp fun ht=>?_
 have kf:Kf s { s with heap:=s.heap.push (a4i (oa y)),toks:=s.toks+1 }:=Kf.push (c7T _)
 have T:=a3r (sl:=.meth y) S rfl hm
 have nb:¬ a0k Γ (σ.set x (.meth y)) oa s.heap.objs.size:=fun q=>S.newNot (T.all _ q)
 refine (S.kf kf).storeG (sl:=.meth y) (a1J hst) (a3r (S.kf kf) rfl hm) (fun h' tk ht k=>⟨?_,_,rfl,nb,k _ _ (fun q=>nb (.inl (q ▸ S.badL))) (fun q=>nb (.inl (S.badC _ _ q))) (c8a _ rfl)⟩) fun s₂ S₂ k=>a1X hQ ⟨S₂,k.stepNo rfl kf.kp⟩
 rw [a4z,c7M (Ne.symm hne)]
 exact a1e hl
theorem c3R {y:Nat}{e:PE}{e':Expr}{p q u:Pos}(hk:b0O (G.nm y)=true)(hs:a0J e'=true)(hE:EvJ G F lvl sc e e'):SJ G F lvl fuel sc (.appV y e) (.Expr (.Call (.Name (G.nm y) u) [e'] [] q) p):=fun Γ W σ oa s out hW S h Q E hQ=>by
 refine a0j (show (σ.get y).bind _=some out from h) fun sl hy h=>?_
 refine a0j h (clear% h;fun x hx h=>?_)
 refine a0j h (clear% h;fun sl' hx' h=>?_)
 refine a0j h (clear% h;fun l hl h=>?_)
 refine a0j h (clear% h;fun d hd h=>?_)
 refine a0Q h (clear% h;fun hc h=>?_)
 rw [← h] at hQ
 have hy:=hy.trans (c7H some (b2J hx))
 have hx:=hx'.trans (c7H some (a3v hl))
 have hst:[e'].all a0J=true:=c8N.mpr ⟨hs,rfl⟩
 refine wpAny_Expr_any ?_ (by unfold interactive;rw [S.kind];rfl) rfl
 refine wpAny_Call_Name_kw (c8I (S.read hy (fun v sv=>?_) (a2w (a0i hk).2)) (a2w (a0i hk).1))
 obtain⟨hox,m,rfl,hb,hm⟩:=sv
 unfold callWith
 refine c8e (c8c (a2O hst (c9e (hE _ _ _ _ _ S hd _ _ fun v s₁ R=>c9d (c8e (c8J ?_))) (a0s hs))))
 have S₁:=S.af R.af
 have hm₁:=a9i S R.af.kp _ _ hb hm
 refine (a6f S₁ hx).elim fun vs₁ Z1=>Z1.elim (fun hp₁ rl₁=>?_)
 rw [show (backTo q (starEach [e'] Γ.env)).any (·.1)=false from a1v hst]
 refine c8e (m:=keeperOf (.ref m)) ?_
 unfold keeperOf
 refine c8e (wpAny_load hm₁ (c8f ?_))
 show wpAny _ _ ((call (.ref m) [v] >>= fun r=>holding [r] point >>= fun _=>pure r)) _ _ s₁
 refine c8e (a9O hm₁ hp₁ (b2a rl₁ (a0i hc).2) fun h' hl hsb=>?_)
 exact c8e (c8c (wpAny_point (c8f (a1X hQ ((Goes.af S R.af).trans (b5m S₁ hx rl₁ (R.deep (a0i hc).1) hl hsb))))))
end
end
section
structure Wkr (G:GC)(A:Around)(Ch:Addr→Prop)(fp:List Addr)(target:Expr)(it:Value)(n:Nat)(P:Nat→Nat→Value→Prop)(Stt:Nat→Heap→Prop)(wrap:Nat→D→D):Prop where
 frame:∀ i h h',Stt i h→(∀ b∈fp,∀ o,h.get? b=some o→h'.get? b=some o)→Stt i h'
 alive:∀ i h,Stt i h→∀ c,Ch c→∃ o,h.get? c=some o∧a8c o
 done:∀ (s:Shared) (Q:Option Value→Shared→Prop) (E:Value→Shared→Prop),Stt n s.heap→(∀ h' tk,(∀ b o,¬ Ch b→s.heap.get? b=some o→h'.get? b=some o)→Q none { s with heap:=h',toks:=tk })→wpAny (model G.prog G.w) A (pyNext it) Q E s
 item:∀ (i:Nat) (C:RC) (B:Addr→Prop) (s:Shared) (d:D) (N:Shared→Prop) (Q:Value→Shared→Prop) (E:Value→Shared→Prop),i<n→1≤s.toks→Stt i s.heap→(∀ a,B a→∃ o,s.heap.get? a=some o)→(∀ c,Ch c→B c) →
  (∀ tk v,s.toks≤tk→P i tk v→Rep C B s.heap tk v d)→(∀ v h' tk,s.toks≤tk→Stt (i+1) h'→(∀ b o,¬ Ch b→s.heap.get? b=some o→h'.get? b=some o)→Rep C B h' tk v (wrap i d)→Q v { s with heap:=h',toks:=tk }) →
  wpAny (model G.prog G.w) A (pyNext it) (fun r s₁=>match r with
   | none=>N s₁
   | some v=>wpAny (model G.prog G.w) A (letOwnedTupleGo target it v) (fun _ s₂=>Q v s₂) E s₁) E s
section
variable {G:GC}{F:Fns}{lvl fuel:Nat}{Γ:Ctx}{W:Nat→Bool}{sc names:a0h}{σ σ₀ σ':Store}{oa oa₀ oa':Nat→Addr}{s s₀ s' s₁:Shared}{v:Value}{d:D}{E:Value→Shared→Prop}
structure ForI (G:GC)(Γ:Ctx)(lvl:Nat)(sc:a0h)(W:Nat→Bool)(Ch:Addr→Prop)(fp:List Addr)(P:Nat→Nat→Value→Prop)(Stt:Nat→Heap→Prop)(σ₀:Store)(oa₀:Nat→Addr)(s₀:Shared)(i:Nat)(ds:List D)(σ:Store)(oa:Nat→Addr)(s:Shared):Prop where
 st:St G (Γ.plusP Ch) lvl sc σ oa s
 stt:Stt i s.heap
 fp:∀ b∈fp,(∃ o,s.heap.get? b=some o)∧b ∉ G.T∧¬ Mut Γ σ oa b
 step:Step G Γ W σ₀ oa₀ s₀ σ oa s
 coming:b9w G (Γ.plusP Ch) σ oa P i ds s
theorem b5p {Ch:Addr→Prop}{fp:List Addr}{it:Value}{P:Nat→Nat→Value→Prop}{Stt:Nat→Heap→Prop}{wrap:Nat→D→D}{n:Nat}{t:Tgt}{target:Expr}{body:List Stmt}{pb:List PS}(S₀:St G Γ lvl sc σ₀ oa₀ s₀)(hI0:∀ a,Ch a→s₀.heap.get? a=none)
  (K:Wkr G Γ.A Ch fp target it n P Stt wrap) (ht:a3z G.nm sc t target=true) (hB:SsJ G F lvl fuel sc pb body) (hW:∀ x,a4D pb x=true→W x=true) {R:Result→Shared→Prop} {out:Out} (hR:∀ f s',c0X G Γ lvl sc W σ₀ oa₀ s₀ out f s'→R (.ok f) s')
  (ds:List D) (i:Nat) (hn:i+ds.length=n) (I:ForI G Γ lvl sc W Ch fp P Stt σ₀ oa₀ s₀ i ds σ oa s)
  (h:a5U (fun σ d=>(a1c σ t d).bind fun σ'=>a0C F fuel σ' pb) σ ((ds.zipIdx i).map fun p=>wrap p.2 p.1)=some out) :
  codeAny (model G.prog G.w) Γ.A (.forLoop target it body [] Γ.env) R s:=by
 have nI:∀ a,Ch a→¬ Γ.bad a:=fun a ha q=>(S₀.alloc _ (.inl q)).elim fun o e=>a0f (hI0 a ha) e rfl
 have gI:∀ a,Ch a→G.g.get? a=none:=fun a ha=>a4l S₀ (hI0 a ha)
 have down:∀ {i:Nat} {σ:Store} {oa:Nat→Addr} {s:Shared},St G (Γ.plusP Ch) lvl sc σ oa s→Stt i s.heap→∀ {h':Heap} {tk:Nat},(∀ b o,¬ Ch b→s.heap.get? b=some o→h'.get? b=some o)→s.toks≤tk→St G Γ lvl sc σ oa { s with heap:=h',toks:=tk }:=
  fun S st _ _ k ht=>S.doneP S₀.badT S₀.badL S₀.badC nI gI (K.alive _ _ st) k ht
 induction ds generalizing i σ oa s with
 | nil=>
  have hn:i=n:=hn
  exact a3k rfl (c7Y (n:=s.toks) (c7G _) (K.done _ _ _ (hn ▸ I.stt) fun h' tk k htk=>wpAny_execs_nil (hR _ _ (c7Q (show some (Out.next σ)=some out from h) ▸ ⟨rfl,oa,down I.st I.stt k htk,I.step.butP hI0 k htk⟩))))
 | cons d ds ih=>
  refine a0j (show ((a1c σ t (wrap i d)).bind fun σ'=>a0C F fuel σ' pb).bind _=some out from h) fun o h1 h=>?_
  refine a0j h1 (clear% h1;fun σ' hb h1=>?_)
  refine a3k rfl (K.item i (rc G Γ) (a0k (Γ.plusP Ch) σ oa) s d _ _ _ (hn ▸ Nat.lt_add_of_pos_right (Nat.succ_pos _)) I.st.gst.tok I.stt I.st.alloc (fun c hc=>.inl (.inr hc)) (fun tk v htk hp=>I.coming 0 tk v d htk hp rfl) fun v h₁ tk₁ htk₁ st₁ k₁ rv=>?_)
  have S₁:St G (Γ.plusP Ch) lvl sc σ oa { s with heap:=h₁,toks:=tk₁ }:=I.st.butP (fun _=>.inr) (fun q=>nI _ q S₀.badL) (fun y c e q=>nI _ q (S₀.badC y c e)) gI (K.alive _ _ I.stt) k₁ (fun a ha=>(K.alive _ _ st₁ a ha).elim fun o e=>⟨o,e.1⟩) htk₁
  have fp₁:∀ b∈fp,(∃ o,h₁.get? b=some o)∧b ∉ G.T∧¬ Mut Γ σ oa b:=fun b hb=>⟨by
   by_cases q:Ch b
   ·exact (K.alive _ _ st₁ b q).elim fun o e=>⟨o,e.1⟩
   ·exact (I.fp b hb).1.elim fun o e=>⟨o,k₁ b o q e⟩,(I.fp b hb).2⟩
  refine a6t (Γ:=Γ.plusP Ch) (W:=W) S₁ ht rv hb fun s₂ S₂ _ t₂=>?_
  have after:∀ {σ₃:Store} {oa₃:Nat→Addr} {s₃:Shared},Goes G (Γ.plusP Ch) lvl sc W σ' oa s₂ σ₃ oa₃ s₃→ForI G Γ lvl sc W Ch fp P Stt σ₀ oa₀ s₀ (i+1) ds σ₃ oa₃ s₃:=fun {σ₃ oa₃ s₃} T₃=>by
   have t:=t₂.trans S₂ T₃.step
   have kfp:∀ b∈fp,∀ o,h₁.get? b=some o→s₃.heap.get? b=some o:=fun b hb o e=>t.heap b o (fp₁ b hb).2.1 (fp₁ b hb).2.2 e
   refine⟨T₃.st,K.frame _ _ _ st₁ kfp,fun b hb=>?_,(I.step.butP hI0 k₁ htk₁).trans (down I.st I.stt k₁ htk₁) t.bar,fun j tk v d htk hp hd=>?_⟩
   ·obtain⟨⟨o,e⟩,h2,h3⟩:=fp₁ b hb
    exact⟨⟨o,kfp b hb o e⟩,h2,t.bar.mutOf h3 e⟩
   ·have r:=I.coming (j+1) tk v d (c7O htk₁ (c7O t.toks htk)) (by rw [Nat.add_comm j 1,← Nat.add_assoc];exact hp) hd
    exact Rep.stepN (Γ:=Γ.plusP Ch) (s:={ s with heap:=h₁,toks:=tk₁ }) (r.keep (c7G _) fun b o hb=>k₁ b o fun q=>hb (.inl (.inr q))) S₁ t
  have fin:∀ {σ₃:Store} {oa₃:Nat→Addr} {s₃:Shared},Goes G (Γ.plusP Ch) lvl sc W σ' oa s₂ σ₃ oa₃ s₃→Goes G Γ lvl sc W σ₀ oa₀ s₀ σ₃ oa₃ s₃:=fun T₃=>⟨down T₃.st (after T₃).stt (fun _ _ _ e=>e) (c7G _),(after T₃).step⟩
  refine hB (Γ.plusP Ch) _ _ _ _ _ hW S₂ h1 _ _ fun f s₃ O=>?_
  cases o with
  | next σ₃=>
   refine O.elim (clear% O;fun e Z1=>Z1.elim (fun oa₃ T₃=>?_))
   rw [e]
   exact ih (i+1) ((Nat.succ_add_eq_add_succ ..).trans hn) (after T₃) h
  | cont σ₃=>
   refine O.elim (clear% O;fun e Z1=>Z1.elim (fun oa₃ T₃=>?_))
   rw [e]
   exact ih (i+1) ((Nat.succ_add_eq_add_succ ..).trans hn) (after T₃) h
  | brk σ₃=>
   refine O.elim (clear% O;fun e Z1=>Z1.elim (fun oa₃ T₃=>?_))
   rw [e]
   exact hR _ _ (c7Q h ▸ ⟨rfl,oa₃,fin T₃⟩)
  | ret d=>
   obtain⟨v,e,⟨σ₃,oa₃,T₃⟩,r⟩:=O
   rw [e]
   exact hR _ _ (c7Q h ▸ ⟨v,rfl,⟨σ₃,oa₃,fin T₃⟩,r.weaken fun b hb=>.inl hb⟩)
theorem c3S (ds:List D)(i:Nat):((ds.zipIdx i).map fun p=>p.1)=ds:=by
 induction ds generalizing i with
 | nil=>rfl
 | cons d r ih=>exact c7H (d :: ·) (ih (i+1))
theorem c3T {ds:List D}{st:Bool}{I:Addr}{fp:List Addr}{P:Nat→Nat→Value→Prop}{Stt:Nat→Heap→Prop}(W:Wk G Γ σ oa st ds s s' I fp P Stt)(target:Expr):Wkr G Γ.A (·=I) fp target (.ref I) ds.length P Stt (fun _ d=>d) where
 frame:=W.walks.frame
 alive:=fun i h st c hc=>(W.iter i h st).elim fun o q=>⟨o,hc ▸ q.1,q.2.ok⟩
 done:=W.walks.done
 item:=fun i C B s d N Q E hi h1 st hB hc hP hQ=>c7Y (n:=s.toks) (c7G _) (W.walks.item i s _ _ hi h1 st fun v h' tk hv st' k ht=>a5G (W.iter _ _ st') (hQ v h' tk ht st' k ((hP tk v ht hv).keep (c7G _) fun b o hb=>k b o fun q=>hb (hc b q))))
theorem c6k {t:Tgt}{iter:PE}{pb:List PS}{target iter':Expr}{body:List Stmt}{p:Pos}(ht:a3z G.nm sc t target=true)(hset:a4G iter'=true)(hI:a3p G F lvl sc iter iter')(hB:SsJ G F lvl fuel sc pb body) :
  SJ G F lvl fuel sc (.for t iter pb) (.For target iter' body [] p):=fun Γ W σ oa s out hW S h Q E hQ=>by
 refine (a0P h).elim fun hok h=>?_
 refine a0j h (clear% h;fun items hit h=>?_)
 refine wpAny_For (hI _ _ _ _ _ S hit _ _ fun I fp P Stt s₂ a₂ K=>?_) (fun x=>a2P hset)
 have hIn:=K.newI.1
 refine b5p (W:=W) S (Ch:=(·=I)) (fun a ha=>ha ▸ hIn) (c3T K target) ht hB (fun x hx=>hW x (c9b.mpr (.inr hx))) (fun f s' O=>hQ f s' O) items 0 (c9a _)
  ⟨S.plusKp hIn a₂.kp a₂.gst (K.old I K.fpI).1,K.start,fun b hb=>⟨(K.old b hb).1,(K.old b hb).2,fun q=>K.strict hok b hb (a8B S q)⟩,.ofKp a₂.kp,fun j tk v d htk hp hd=>?_⟩ ((c7H (a5U _ σ) (c3S items 0)).trans h)
 exact (K.rep j tk v d htk (c9a j ▸ hp) hd).weaken fun b hb=>a0K.mp hb
structure EnumS (l e it:Addr)(items:Array Value)(i:Nat)(h:Heap):Prop where
 enm:∃ old,IsEnum h e it i old
 it:h.IsListIter it l i
 list:h.IsList l items
theorem b8d {A:Around}(hh:A.handled=none){e it l:Addr}{items:Array Value}{elts:List Expr}{k:Nat}{pos:Pos}(hne:e≠it)(hle:l≠e)(hli:l≠it) :
  Wkr G A (fun b=>b=e∨b=it) [e,it,l] (.Tuple elts k pos) (.ref e) items.size (fun i _ v=>items[i]?=some v) (EnumS l e it items) (fun i d=>.tup [.int i,d]) where
 frame:=fun i h h' st hk=>⟨st.enm.elim fun old x=>⟨old,hk e (.head _) _ x⟩,st.it.at fun o x=>hk it (.tail _ (.head _)) o x,st.list.at fun o x=>hk l (.tail _ (.tail _ (.head _))) o x⟩
 alive:=fun i h st c hc=>hc.elim (fun q=>q ▸ st.enm.elim fun old x=>⟨_,x,fun _ _=>⟨nofun,fun q=>absurd (Value.type.inj q) (by decide)⟩⟩) fun q=>q ▸ st.it.elim fun o x=>⟨o,x.1,fun _ _=>x.2.1 ▸ ⟨nofun,fun q=>absurd (Value.type.inj q) (by decide)⟩⟩
 done:=fun s Q E st hQ=>st.enm.elim fun old x=>wpAny_pyNext_enum_end hh x st.it st.list (Array.getElem?_eq_none (c7G _)) fun h' hk=>hQ h' s.toks fun b o hb eb=>hk b o (fun q=>hb (.inr q)) eb
 item:=fun i C B s d N Q E hi _ st hB hc hP hQ=>by
  obtain⟨⟨old,x⟩,h2,h3⟩:=st
  refine wpAny_pyNext_enum_item x h2 h3 (c8K hi) hne fun h' hout hit' hT hsz hk=>?_
  have rv:=hP s.toks items[i] (c7G _) (c8K hi)
  refine wpAny_letOwnedTupleGo_enum hout fun h'' hE hs=>?_
  have kk:∀ b o,¬ (b=e∨b=it)→s.heap.get? b=some o→h''.get? b=some o:=fun b o hb eb=>hs.extBut b o (fun q=>hb (.inl q)) (hk b o (fun q=>hb (.inl q)) (fun q=>hb (.inr q)) eb)
  have nT:¬ B s.heap.objs.size:=fun q=>(hB _ q).elim fun o eo=>Nat.lt_irrefl _ (c7Z eo)
  refine hQ _ h'' (s.toks+1) (c7T _) ⟨⟨_,hE⟩,hit'.at fun o eo=>hs.extBut it o (Ne.symm hne) eo,h3.at fun o eo=>hs.extBut l o hle (hk l o hle hli eo)⟩ kk ?_
  exact .tup (vs:=[.int i s.toks,items[i]]) nT ⟨_,hs.extBut _ _ (Nat.ne_of_gt (c7Z x)) hT,rfl,0,rfl⟩ (.cons (.int _ _) (.cons (rv.keep (c7T _) fun b o hb=>kk b o fun q=>hb (hc b q)) .nil))
theorem b5q {xs:List Nat}{a:PE}{pb:List PS}{elts:List Expr}{k:Nat}{pos:Pos}{e x:Expr}{body:List Stmt}{p:Pos}(hB0:GlobsOK G)(C:a1B sc "enumerate" e [x])(hset:a4G e=true)(ht:a4H G.nm sc xs elts=true)(hA:EvJ G F lvl sc a x)(hB:SsJ G F lvl fuel sc pb body) :
  SJ G F lvl fuel sc (.for (.many xs) (.enum a) pb) (.For (.Tuple elts k pos) e body [] p):=fun Γ W σ oa s out hW S h Q E hQ=>by
 refine (a0P (show grd (forOk σ (.enum a)) _=some out from h)).elim fun hok h=>?_
 refine a0j h (clear% h;fun ds hit h=>?_)
 refine a0j (show (evE F σ a).bind _=some ds from hit) fun u hu hit=>?_
 refine a0j hit (clear% hit;fun l hl hit=>?_)
 refine a0Q hit (clear% hit;fun hst hit=>?_)
 rw [← hit] at h
 obtain⟨⟨q,r,rfl⟩,g1,g2,g3⟩:=C
 refine wpAny_For ?_ (fun x=>a2P hset)
 refine a2n S g1 (hB0.types "enumerate" (by decide)) g2 g3 (c9e (hA _ _ _ _ _ S hu _ _ fun v s₁ R=>c9d ?_) (a0s (a0i g3).1))
 have rs:=R.deep hst
 rw [a2i hl] at rs
 obtain⟨la,vs,rfl,nbl,hL,rl⟩:=rs.view
 have S₁:=S.af R.af
 refine call_enumerate_list hL fun h' hE hI hsz hk=>wpAny_pyIter_enum hE ?_
 have hlt:la<s₁.heap.objs.size:=hL.elim fun o q=>c7Z q.1
 have kf:Kf s₁ { s₁ with heap:=h' }:=⟨hk,rfl,c7G _,rfl⟩
 have nn:∀ b,b=s₁.heap.objs.size+1∨b=s₁.heap.objs.size→s₁.heap.get? b=none:=fun b q=>fresh (q.elim (fun q=>q ▸ c7T _) fun q=>q ▸ c7G _)
 have TT:∀ b,b=s₁.heap.objs.size+1∨b=s₁.heap.objs.size→b ∉ G.T:=fun b q p=>(G.tabGet _ R.af.gst.tab _ p).elim fun ps e=>a0f (nn b q) e rfl
 have al:∀ b,b=s₁.heap.objs.size+1∨b=s₁.heap.objs.size→∃ o,h'.get? b=some o:=fun b q=>q.elim (fun q=>q ▸ ⟨_,hE⟩) fun q=>q ▸ hI.elim fun o x=>⟨o,x.1⟩
 have hL':h'.IsList la vs.toArray:=a3q hL fun o=>hk _ o
 have nm:∀ b,b=s₁.heap.objs.size+1∨b=s₁.heap.objs.size→(∃ o,h'.get? b=some o)∧b ∉ G.T∧¬ Mut Γ σ oa b:=fun b q=>⟨al b q,TT b q,fun p=>(S₁.alloc _ (a8B S p)).elim fun o e=>a0f (nn b q) e rfl⟩
 refine b5p (W:=W) S (Ch:=fun b=>b=s₁.heap.objs.size+1∨b=s₁.heap.objs.size) (fp:=[s₁.heap.objs.size+1,s₁.heap.objs.size,la]) (t:=.many xs) (fun b q=>a7u R.af.kp (TT b q) (nn b q)) (b8d (items:=vs.toArray) S.aok.1 (Nat.succ_ne_self _) (c8A (Nat.lt_succ_of_lt hlt)) (c8A hlt))
  (show a3z G.nm sc (.many xs) (.Tuple elts k pos)=true from ht) hB (fun x hx=>hW x (c9b.mpr (.inr hx))) (fun f s' O=>hQ f s' O) l 0 ((c9a _).trans rl.length.symm)
  ⟨S₁.plusP nn kf.kp (kf.gst R.af.gst) al,⟨⟨_,hE⟩,hI,hL'⟩,fun b hb=>?_,.ofKp (R.af.kp.kf kf),fun j tk v d htk hp hd=>?_⟩ h
 ·rcases c8o.mp hb with q | hb
  ·exact nm b (.inl q)
  ·rcases c8o.mp hb with q | hb
   ·exact nm b (.inr q)
   ·rw [c8C.mp hb]
    exact⟨hL'.elim fun o q=>⟨o,q.1⟩,fun q=>nbl (.inl (S.badT _ q)),fun q=>nbl (a8B S q)⟩
 ·refine (rl.get j d hd).elim fun v' Z1=>Z1.elim (fun hv' r=>?_)
  have hp:vs.toArray[0+j]?=some v:=hp
  rw [c9a,c8q,hv'] at hp
  exact c7Q hp ▸ r.chg ⟨htk,fun b o _=>hk b o,fun b o hb e q=>(a0K.mp q).elim hb fun q=>a0f (nn b q) e rfl⟩
end
end
section
section
variable {G:GC}{F:Fns}{lvl fuel:Nat}{Γ:Ctx}{W:Nat→Bool}{sc names:a0h}{σ σ₀ σ':Store}{oa oa₀ oa':Nat→Addr}{s s₀ s' s₁:Shared}{v:Value}{d:D}{E:Value→Shared→Prop}
theorem fm3 {f:Expr→Option Str}{a b c:Expr}{x y z:Str}(h1:f a=some x)(h2:f b=some y)(h3:f c=some z):[a,b,c].filterMap f=[x,y,z]:=by
 rw [c9r h1,c9r h2,c9r h3]
 rfl
theorem c6l {l:List Str}{x y z:Str}(e:l=[x,y,z])(hd:([x,y,z]:List Str).eraseDups.length=3):¬ (l.length != 3||l.eraseDups.length != l.length)=true:=by
 rw [e,hd]
 exact c7I
theorem b5r {na nb nc:Str}{p1 p2 p3 q1 q2 q3 q q':Pos}{k k' kn:Nat}{env:Env}(hb:env.blockKind=.function)(h1:env.kindOf na=some .local)(h2:env.kindOf nb=some .local)(h3:env.kindOf nc=some .local)(l2:p2.line=p1.line)(l3:p3.line=p1.line)
  (hd:([na,nb,nc]:List Str).eraseDups.length=3) :
  swappedStores [.Tuple [.Name na p1,.Name nb p2,.Name nc p3] k q] (.Tuple [.Constant .none kn q1,.Dict [] [] q2,.List [] q3] k' q') env=pure (some [na,nb,nc]):=by
 have f:∀ {n:Str} {p:Pos},env.kindOf n=some .local→p.line=p1.line→(env.kindOf n==some .local&&p.line==p1.line)=true:=fun hn hl=>c8N.mpr ⟨c7L.mpr hn,c7L.mpr hl⟩
 refine (c7M ?_).trans ((c7M nofun).trans ((c7M ?_).trans ((c7M nofun).trans ((c7M nofun).trans (c7H (fun l=>pure (some l)) (fm3 (c7K (f h1 rfl)) (c7K (f h2 l2)) (c7K (f h3 l3))))))))
 ·rw [hb];exact c7I
 ·exact c6l (fm3 (c7K (f h1 rfl)) (c7K (f h2 l2)) (c7K (f h3 l3))) hd
theorem b5s {x y z:Nat}{p1 p2 p3 q1 q2 q3 q q' p:Pos}{k k' kn:Nat}(h1:sc.lookup (G.nm x)=some .local)(h2:sc.lookup (G.nm y)=some .local)(h3:sc.lookup (G.nm z)=some .local)(l2:p2.line=p1.line)(l3:p3.line=p1.line)
  (hdup:([G.nm x,G.nm y,G.nm z]:List Str).eraseDups.length=3) :
  SJ G F lvl fuel sc (.asgRows x y z) (.Assign [.Tuple [.Name (G.nm x) p1,.Name (G.nm y) p2,.Name (G.nm z) p3] k q] (.Tuple [.Constant .none kn q1,.Dict [] [] q2,.List [] q3] k' q') p):=fun Γ W σ oa s out hW S h Q E hQ=>by
 refine a0Q (show grd (noMeth σ x&&noMeth σ y&&noMeth σ z) _=some out from h) fun hc h=>?_
 rw [← h] at hQ
 refine a0b hc (clear% hc;fun hc mz=>?_)
 refine a0b hc (clear% hc;fun mx my=>?_)
 have hbk:Γ.env.blockKind=.function:=by unfold Env.blockKind;rw [S.kind];rfl
 refine PyProof.Rows.Assign_Tuple_swapped ?_ rfl (b5r hbk (S.kindOf h1) (S.kindOf h2) (S.kindOf h3) l2 l3 hdup)
 refine wpAny_Tuple (c9e (wpAny_Constant_none (c9e (wpAny_Dict_empty (c9e (wpAny_List (c9d ⟨c8z _,c9d ⟨by show 3≤sizeLine;rw [c7V];decide,?_⟩⟩)))))))

 generalize hD:s.heap.objs.size=Da
 have e1:(s.heap.push { cls:=.type "dict",data:=.dict #[] }).objs.size=Da+1:=by rw [c8B,hD]
 generalize hh1:s.heap.push { cls:=.type "dict",data:=.dict #[] }=H1 at e1 ⊢
 have e2:(H1.push { cls:=.type "list",data:=.seq ([]:List Value).toArray }).objs.size=Da+2:=by rw [c8B,e1]
 rw [show (Shared.mk H1 s.gens s.drawn s.toks s.os).heap.objs.size=Da+1 from e1]
 generalize hh2:H1.push { cls:=.type "list",data:=.seq ([]:List Value).toArray }=H2 at e2 ⊢
 rw [show (Shared.mk H2 s.gens s.drawn s.toks s.os).heap.objs.size=Da+2 from e2]
 generalize hh3:H2.push { cls:=.type "tuple",data:=.seq [Value.none,Value.ref Da,Value.ref (Da+1)].toArray }=H3
 have k1:∀ b o,s.heap.get? b=some o→H1.get? b=some o:=fun b o e=>hh1 ▸ c7P _ e
 have k2:∀ b o,H1.get? b=some o→H2.get? b=some o:=fun b o e=>hh2 ▸ c7P _ e
 have k3:∀ b o,H2.get? b=some o→H3.get? b=some o:=fun b o e=>hh3 ▸ c7P _ e
 have gD:H3.get? Da=some { cls:=.type "dict",data:=.dict #[] }:=k3 _ _ (k2 _ _ (by rw [← hh1,← hD];exact c8a _ rfl))
 have gL:H3.get? (Da+1)=some { cls:=.type "list",data:=.seq ([]:List Value).toArray }:=k3 _ _ (by rw [← hh2,← e1];exact c8a _ rfl)
 have gT:IsTup H3 (Da+2) #[Value.none,Value.ref Da,Value.ref (Da+1)]:=⟨_,by rw [← hh3,← e2];exact c8a _ rfl,rfl,0,rfl⟩
 refine PyProof.Rows.unpackItems_tuple (s:=⟨H3,s.gens,s.drawn,s.toks,s.os⟩) (items:=#[Value.none,Value.ref Da,Value.ref (Da+1)]) S.aok.1 gT fun h' he=>?_
 have k4:∀ b o,H3.get? b=some o→h'.get? b=some o:=fun b o e=>he b o (c8A (c7Z e)) e
 have kf:Kf s ⟨h',s.gens,s.drawn,s.toks,s.os⟩:=⟨fun b o e=>k4 _ _ (k3 _ _ (k2 _ _ (k1 _ _ e))),rfl,c7G _,rfl⟩
 have nD:s.heap.get? Da=none:=fresh (c8w hD)
 have nL:s.heap.get? (Da+1)=none:=fresh (hD ▸ c7T _)
 have bD:¬ Γ.bad Da:=fun q=>(S.alloc _ (.inl q)).elim fun o e=>a0f nD e rfl
 have bL:¬ Γ.bad (Da+1):=fun q=>(S.alloc _ (.inl q)).elim fun o e=>a0f nL e rfl
 have S₁:St G ((Γ.plus Da).plus (Da+1)) lvl sc σ oa ⟨h',s.gens,s.drawn,s.toks,s.os⟩:=S.barKp (s':=⟨h',s.gens,s.drawn,s.toks,s.os⟩) (fun b=>(Γ.bad b∨b=Da)∨b=Da+1) (fun _ h=>.inl (.inl h)) (fun b h=>h.elim (fun h=>h.elim .inl fun h=>.inr (h ▸ ⟨nD,_,k4 _ _ gD⟩)) fun h=>.inr (h ▸ ⟨nL,_,k4 _ _ gL⟩)) kf.kp (kf.gst S.gst)
 have ne:Da+1≠Da:=Nat.succ_ne_self _
 show wpAny _ _ (assignInOrder [bindName Γ.env (G.nm z),bindName Γ.env (G.nm y),bindName Γ.env (G.nm x)] [Value.ref (Da+1),Value.ref Da,Value.none]) _ _ _
 refine c8e (c8c (wpAny_bindName (S₁.storeNew (Γ:=Γ.plus Da) (sl:=.own []) (fun t ht=>.inl (S.badT t ht)) (.inl S.badL) (fun x c h=>.inl (S.badC x c h)) (fun q=>q.elim bL ne) (a4l S nL) (.inl h3) mz ⟨[],⟨0,k4 _ _ gL⟩,.nil⟩ fun s₂ S₂ kt₂=>?_)))
 have gD₂:s₂.heap.get? Da=some { cls:=.type "dict",data:=.dict #[] }:=kt₂.heap _ _ (fun q=>bD (q ▸ S.badL)) (fun q=>bD (S.badC _ _ q)) (k4 _ _ gD)
 refine c8e (c8c (wpAny_bindName (S₂.storeNew (sl:=.ownD []) S.badT S.badL S.badC bD (a4l S nD) (.inl h2) (a1w rfl my) ⟨[],⟨_,#[],0,gD₂,⟨rfl,rfl,rfl⟩,rfl,fun _ he=>(Array.not_mem_empty _ he).elim,Pairs.nil,List.nodup_nil⟩,.nil⟩ fun s₃ S₃ kt₃=>?_)))
 refine c8e (c8c (wpAny_bindName (S₃.store (W:=W) (.inl h1) (a1w rfl (a1w rfl mx)) .none fun s₄ S₄ kt₄ t₄=>c8f (a1X hQ ⟨S₄,fun b o hT hM e=>?_,kt₄.os.trans (kt₃.os.trans (kt₂.os.trans kf.os)),c7O kf.toks (c7O kt₂.toks (c7O kt₃.toks kt₄.toks)),
  fun i w e=>(c7H (·[i]?) (kt₄.gens.trans (kt₃.gens.trans kt₂.gens))).trans e,fun w hw=>?_,fun w hw=>?_⟩))))
 ·have nl:b≠Γ.env.locals:=fun q=>hM (.inl q)
  have nc:∀ u,Γ.env.cells.lookup u≠some b:=fun u q=>hM (.inr (.inl ⟨_,q⟩))
  exact kt₄.heap _ _ nl (nc _) (kt₃.heap _ _ nl (nc _) (kt₂.heap _ _ nl (nc _) (kf.heap _ _ e)))
 ·rcases a5l (a2l rfl hw).2 with⟨q,_⟩ | ⟨q,hw⟩
  ·rw [q,a3s];exact .inr nD
  ·rw [a3t q]
   rcases a5l hw with⟨q,_⟩ | ⟨q,hw⟩
   ·rw [q,a3s];exact .inr nL
   ·rw [a3t q];exact .inl ⟨w,hw,rfl⟩
 ·have nW:∀ u,c0e (.asgRows x y z) u=true→w≠u:=fun u hu q=>c7I (hw.symm.trans (hW w (q ▸ hu)))
  rw [a3t (nW y (c9b.mpr (.inl (c9b.mpr (.inr (c7R y)))))),a3t (nW z (c9b.mpr (.inr (c7R z))))]
end
end
section
inductive Ts where
 | asg | aug | exp | ifs | for | while | ret | brk | cont | assert | try | oth
 deriving DecidableEq
structure VS where
 tag:Ts
 pos:Pos
 t:Expr:=default
 v:Expr:=default
 op:Operator:=.Add
 es:List Expr:=[]
 a:List Stmt:=[]
 b:List Stmt:=[]
 o:Option Expr:=none
 hs:List ExceptHandler:=[]
 fin:List Stmt:=[]
noncomputable def vs (st:Stmt):VS:=match st with
 | .Assign ts v p=>{ tag:=.asg,pos:=p,es:=ts,v:=v }
 | .AugAssign t o v p=>{ tag:=.aug,pos:=p,t:=t,op:=o,v:=v }
 | .Expr e p=>{ tag:=.exp,pos:=p,v:=e }
 | .If t a b p=>{ tag:=.ifs,pos:=p,t:=t,a:=a,b:=b }
 | .For t i a b p=>{ tag:=.for,pos:=p,t:=t,v:=i,a:=a,b:=b }
 | .While t a b p=>{ tag:=.while,pos:=p,t:=t,a:=a,b:=b }
 | .Return o p=>{ tag:=.ret,pos:=p,o:=o }
 | .Break p=>{ tag:=.brk,pos:=p }
 | .Continue p=>{ tag:=.cont,pos:=p }
 | .Assert t o p=>{ tag:=.assert,pos:=p,t:=t,o:=o }
 | .Try a hs b fin p=>{ tag:=.try,pos:=p,a:=a,hs:=hs,b:=b,fin:=fin }
 | _=>{ tag:=.oth,pos:=default }
noncomputable def IsS (st:Stmt)(w:VS):Ts→Prop
 | .asg=>st=.Assign w.es w.v w.pos
 | .aug=>st=.AugAssign w.t w.op w.v w.pos
 | .exp=>st=.Expr w.v w.pos
 | .ifs=>st=.If w.t w.a w.b w.pos
 | .for=>st=.For w.t w.v w.a w.b w.pos
 | .while=>st=.While w.t w.a w.b w.pos
 | .ret=>st=.Return w.o w.pos
 | .brk=>st=.Break w.pos
 | .cont=>st=.Continue w.pos
 | .assert=>st=.Assert w.t w.o w.pos
 | .try=>st=.Try w.a w.hs w.b w.fin w.pos
 | .oth=>True
theorem c7y (st:Stmt):IsS st (vs st) (vs st).tag:=by
 cases st with
 | _=>first | exact rfl | exact trivial
noncomputable def isS (st:Stmt)(t:Ts):Bool:=decide ((vs st).tag=t)
theorem a2o {st:Stmt}{t:Ts}(h:isS st t=true):IsS st (vs st) t:=c7X h ▸ c7y st
noncomputable def tg (st:Stmt):Expr:=(vs st).es.getD 0 default
noncomputable def is1 (st:Stmt):Bool:=isS st .asg&&(vs st).es.length==1
theorem a7J {st:Stmt}(h:is1 st=true):∃ p,st=.Assign [tg st] (vs st).v p:=by
 have e:st=.Assign (vs st).es (vs st).v (vs st).pos:=a2o (a0i h).1
 rw [es1 (d:=default) (c8d (a0i h).2)] at e
 exact⟨_,e⟩
noncomputable def c6m (own:Bool)(e:PE)(v:Expr):Bool:=match e.pv with
 | .comp=>true
 | .lst=>true
 | .var _=>!own
 | _=>!own&&!(a2E v)
theorem b8e {e a:PE}(h:e.pv.asEnm=some a):e=.enum a:=by
 cases hv:e.pv with
 | enm b=>rw [hv] at h;exact c7Q h ▸ a7h hv
 | _=>rw [hv] at h;exact a0e h
noncomputable def Tgt.asMany:Tgt→Option (List Nat)
 | .many xs=>some xs
 | .one _=>none
noncomputable def c7c (nm:Nat→Str)(sc:a0h)(t:Tgt)(iter:PE)(target iter':Expr):Bool:=match iter.pv.asEnm with
 | some a=>isT target .tup&&a4H nm sc (t.asMany.getD []) (vw target).es&&isG sc "enumerate" 1 iter'&&mE nm sc a (arg iter' 0)&&t.asMany.isSome
 | none=>a4G iter'&&mI nm sc iter iter'&&a3z nm sc t target
noncomputable def c6n (nm:Nat→Str)(sc:a0h)(x y z:Nat)(t v:Expr):Bool:=
 isT t .tup&&(vw t).es.length==3&&isN nm x (arg t 0)&&isN nm y (arg t 1)&&isN nm z (arg t 2) &&
 (isT v .tup&&(vw v).es.length==3&&isC .none (arg v 0)&&(isT (arg v 1) .dict&&(vw (arg v 1)).os.isEmpty&&(vw (arg v 1)).es.isEmpty)&&(isT (arg v 2) .list&&(vw (arg v 2)).es.isEmpty)) &&
 (sc.lookup (nm x)==some .local&&sc.lookup (nm y)==some .local&&sc.lookup (nm z)==some .local)&&(vw (arg t 1)).pos.line==(vw (arg t 0)).pos.line&&(vw (arg t 2)).pos.line==(vw (arg t 0)).pos.line&&([nm x,nm y,nm z]:List Str).eraseDups.length==3
inductive PSV where
 | fail | drop (xs:List Nat) | oth
noncomputable def PS.psv:PS→PSV
 | .fail=>.fail
 | .drop xs=>.drop xs
 | _=>.oth
noncomputable def PSV.is (p:PS):PSV→Prop
 | .fail=>p=.fail
 | .drop xs=>p=.drop xs
 | .oth=>True
theorem c3U (p:PS):p.psv.is p:=by
 cases p with
 | _=>first | exact rfl | exact trivial
mutual
noncomputable def mS (nm:Nat→Str)(sc:a0h)(ps:PS)(st:Stmt):Bool:=match ps with
 | .asg x own e=>is1 st&&isN nm x (tg st)&&a3j sc (nm x)&&c6m own e (vs st).v&&mE nm sc e (vs st).v
 | .asgT xs e=>is1 st&&isT (tg st) .tup&&a4H nm sc xs (vw (tg st)).es&&decide xs.Nodup&&b5i (vs st).v&&!(a2E (vs st).v)&&mE nm sc e (vs st).v
 | .asgI x i e=>is1 st&&isT (tg st) .sub&&b4E nm x (vw (tg st)).a&&!(a2E (vs st).v)&&mE nm sc i (vw (tg st)).b&&mE nm sc e (vs st).v
 | .aug x op e=>isS st .aug&&b4E nm x (vs st).t&&a3j sc (nm x)&&op==(vs st).op&&mE nm sc e (vs st).v
 | .augI x i op e=>isS st .aug&&isT (vs st).t .sub&&b4E nm x (vw (vs st).t).a&&a8D (vw (vs st).t).b&&op==(vs st).op&&mE nm sc i (vw (vs st).t).b&&mE nm sc e (vs st).v
 | .app x e=>isS st .exp&&isM "append" 1 (vs st).v&&b4E nm x (b0D (vs st).v)&&mE nm sc e (arg (vs st).v 0)
 | .appV x e=>isS st .exp&&isT (vs st).v .call&&b4E nm x (vw (vs st).v).a&&(vw (vs st).v).es.length==1&&(vw (vs st).v).ks.isEmpty&&a0J (arg (vs st).v 0)&&mE nm sc e (arg (vs st).v 0)
 | .getm x y=>is1 st&&isN nm x (tg st)&&a3j sc (nm x)&&isT (vs st).v .attr&&(vw (vs st).v).id==("append":Str)&&b4E nm y (vw (vs st).v).a
 | .ifs t a b=>isS st .ifs&&mT nm sc t (vs st).t&&mSs nm sc a (vs st).a&&mSs nm sc b (vs st).b
 | .for t iter pb=>isS st .for&&(vs st).b.isEmpty&&c7c nm sc t iter (vs st).t (vs st).v&&mSs nm sc pb (vs st).a
 | .while t pb=>isS st .while&&(vs st).b.isEmpty&&mT nm sc t (vs st).t&&mSs nm sc pb (vs st).a
 | .ret e=>isS st .ret&&(vs st).o.isSome&&mE nm sc e ((vs st).o.getD default)
 | .brk=>isS st .brk
 | .cont=>isS st .cont
 | .assert t=>isS st .assert&&mT nm sc t (vs st).t
 | .try pb=>isS st .try&&!(vs st).hs.isEmpty&&(vs st).b.isEmpty&&(vs st).fin.isEmpty&&mSs nm sc pb (vs st).a
 | .asgRows x y z=>is1 st&&c6n nm sc x y z (tg st) (vs st).v
 | _=>false
noncomputable def mSs (nm:Nat→Str)(sc:a0h)(ps:List PS)(ss:List Stmt):Bool:=match ps with
 | []=>ss.isEmpty
 | p :: ps=>match p.psv with
  | .fail=>true
  | .drop _=>mSs nm sc ps ss
  | .oth=>!ss.isEmpty&&mS nm sc p (ss.headD (.Pass default))&&mSs nm sc ps ss.tail
end
section
variable {G:GC}{F:Fns}{lvl fuel:Nat}
theorem a2G {sc:a0h}{ps:PS}{st st':Stmt}(h:st=st')(k:SJ G F lvl fuel sc ps st'):SJ G F lvl fuel sc ps st:=h.symm ▸ k
theorem c3V (hF:FOK G F lvl)(hB:GlobsOK G){sc:a0h}{x:Nat}{own:Bool}{e:PE}{v:Expr}{p q:Pos}(hst:a3j sc (G.nm x)=true)(ha:c6m own e v=true)(h:mE G.nm sc e v=true):SJ G F lvl fuel sc (.asg x own e) (.Assign [.Name (G.nm x) q] v p):=by
 have other:a5T e=none→(!own&&!(a2E v))=true→SJ G F lvl fuel sc (.asg x own e) (.Assign [.Name (G.nm x) q] v p):=fun hv h'=>by
  rw [a2w (a0i h').1]
  exact c6h hv (a2w (a0i h').2) hst (b3m hF hB e h)
 unfold c6m at ha
 cases hv:e.pv with
 | comp=>
  obtain⟨fv,elt,t,iter,ifs,gs,e1⟩:=a7h hv
  rw [e1] at h ⊢
  refine a0b (show (isComp v&&a3A G.nm sc (vw v).sc fv&&mI G.nm sc iter (gHd v).iter&&a3z G.nm (vw v).sc.names t (gHd v).target&&c2A G.nm (a4j sc (vw v).sc.names) ifs (gHd v).ifs&&mGs G.nm (a4j sc (vw v).sc.names) (vw v).sc.names gs (vw v).gs.tail&&mE G.nm (a4j sc (vw v).sc.names) elt (vw v).a)=true from h) fun h h7=>?_
  refine a0b h (clear% h;fun h h6=>?_)
  refine a0b h (clear% h;fun h h5=>?_)
  refine a0b h (clear% h;fun h h4=>?_)
  refine a0b h (clear% h;fun h h3=>?_)
  refine a0b h (clear% h;fun h1 h2=>?_)
  refine (c3F hF hB gs _ _ _ h6).elim fun g1 g2=>?_
  refine (a9w h1).elim fun p' q'=>?_
  exact a2G (c7H (fun v=>Stmt.Assign _ v _) q') (c3M hst h2 h4 (a0i h1).2 g1 (c7b hF hB iter h3) (c3G hF hB ifs h5) (g2 (fun x=>a6x) _ _ (b3m hF hB elt h7)))
 | lst=>
  refine (a7h hv).elim fun es e1=>?_
  cases own with
  | true=>
   rw [e1] at h ⊢
   refine a0b (show (isT v .list&&(vw v).es.all a0J&&mEs G.nm sc es (vw v).es)=true from h) fun h' h3=>?_
   exact a2G (c7H (fun v=>Stmt.Assign _ v _) (a0A (a0i h').1)) (c3L hst (c6c hF hB es h3 (a0i h').2))
  | false=>
   have h':mE G.nm sc (.list es) v=true:=e1 ▸ h
   have ht:isT v .list=true:=(a0i (a0i (show (isT v .list&&(vw v).es.all a0J&&mEs G.nm sc es (vw v).es)=true from h')).1).1
   exact other (show e.pv.asVar=none from hv ▸ rfl) (show (true&&!(a2E v))=true from by unfold a2E isT;rw [c7X ht];rfl)
 | var y=>
  rw [hv] at ha
  have e1:e=.var y:=a7h hv
  rw [a2w ha,e1]
  rw [e1] at h
  exact a2G (c7H (fun v=>Stmt.Assign _ v _) (a1r (a0i h).1)) (c3K hst (a0i h).2)
 | _=>rw [hv] at ha;exact other (show e.pv.asVar=none from hv ▸ rfl) ha
noncomputable def R1 (G:GC)(F:Fns)(lvl fuel:Nat)(ps:PS):Prop:=∀ (sc:a0h) (st:Stmt),mS G.nm sc ps st=true→SJ G F lvl fuel sc ps st
noncomputable def R2 (G:GC)(F:Fns)(lvl fuel:Nat)(ps:List PS):Prop:=∀ (sc:a0h) (ss:List Stmt),mSs G.nm sc ps ss=true→SsJ G F lvl fuel sc ps ss
theorem c3W:R2 G F lvl fuel []:=fun sc ss h=>c8V.mp h ▸ c3H
theorem c1d {p:PS}{ps:List PS}(h1:R1 G F lvl fuel p)(h2:R2 G F lvl fuel ps):R2 G F lvl fuel (p :: ps):=fun sc ss h=>by
 have h:(match p.psv with
  | .fail=>true
  | .drop _=>mSs G.nm sc ps ss
  | .oth=>!ss.isEmpty&&mS G.nm sc p (ss.headD (.Pass default))&&mSs G.nm sc ps ss.tail)=true:=h
 have hp:=c3U p
 cases hv:p.psv with
 | fail=>rw [hv] at hp;exact (show p=.fail from hp) ▸ c1a
 | drop xs=>rw [hv] at hp h;exact (show p=.drop xs from hp) ▸ c0Z (h2 sc ss h)
 | oth=>
  rw [hv] at h
  cases ss with
  | nil=>exact absurd (a0i (a0i h).1).1 c7I
  | cons s ss=>exact c0Y (h1 sc s (a0i (a0i h).1).2) (h2 sc ss (a0i h).2)
section
variable (hF:FOK G F lvl)(hB:GlobsOK G)
include hF hB
theorem c6o (x:Nat)(own:Bool)(e:PE):R1 G F lvl fuel (.asg x own e):=fun sc st h=>by
 refine a0b h (clear% h;fun h h5=>?_)
 refine a0b h (clear% h;fun h h4=>?_)
 refine a0b h (clear% h;fun h h3=>?_)
 refine a0b h (clear% h;fun h1 h2=>?_)
 refine (a7J h1).elim fun p e1=>?_
 rw [a1r h2] at e1
 exact a2G e1 (c3V hF hB h3 h4 h5)
theorem c3X (xs:List Nat)(e:PE):R1 G F lvl fuel (.asgT xs e):=fun sc st h=>by
 refine a0b h (clear% h;fun h h7=>?_)
 refine a0b h (clear% h;fun h h6=>?_)
 refine a0b h (clear% h;fun h h5=>?_)
 refine a0b h (clear% h;fun h h4=>?_)
 refine a0b h (clear% h;fun h h3=>?_)
 refine a0b h (clear% h;fun h1 h2=>?_)
 refine (a7J h1).elim fun p e1=>?_
 rw [show tg st=.Tuple (vw (tg st)).es (vw (tg st)).n (vw (tg st)).pos from a0A h2] at e1
 exact a2G e1 (c3N h3 (c7X h4) h5 (a2w h6) (b3m hF hB e h7))
theorem c3Y (x:Nat)(i e:PE):R1 G F lvl fuel (.asgI x i e):=fun sc st h=>by
 refine a0b h (clear% h;fun h h6=>?_)
 refine a0b h (clear% h;fun h h5=>?_)
 refine a0b h (clear% h;fun h h4=>?_)
 refine a0b h (clear% h;fun h h3=>?_)
 refine a0b h (clear% h;fun h1 h2=>?_)
 refine (a7J h1).elim fun p e1=>?_
 have e2:tg st=.Subscript (vw (tg st)).a (vw (tg st)).b (vw (tg st)).pos:=a0A h2
 rw [a1r (a0i h3).1] at e2
 rw [e2] at e1
 exact a2G e1 (c3O (a0i h3).2 (a2w h4) (b3m hF hB i h5) (b3m hF hB e h6))
theorem c6p (x:Nat)(op:Operator)(e:PE):R1 G F lvl fuel (.aug x op e):=fun sc st h=>by
 refine a0b h (clear% h;fun h h5=>?_)
 refine a0b h (clear% h;fun h h4=>?_)
 refine a0b h (clear% h;fun h h3=>?_)
 refine a0b h (clear% h;fun h1 h2=>?_)
 have e1:st=.AugAssign (vs st).t (vs st).op (vs st).v (vs st).pos:=a2o h1
 rw [a1r (a0i h2).1,← c8d h4] at e1
 exact a2G e1 (c6i h3 (a0i h2).2 (b3m hF hB e h5))
theorem c3Z (x:Nat)(i:PE)(op:Operator)(e:PE):R1 G F lvl fuel (.augI x i op e):=fun sc st h=>by
 refine a0b h (clear% h;fun h h7=>?_)
 refine a0b h (clear% h;fun h h6=>?_)
 refine a0b h (clear% h;fun h h5=>?_)
 refine a0b h (clear% h;fun h h4=>?_)
 refine a0b h (clear% h;fun h h3=>?_)
 refine a0b h (clear% h;fun h1 h2=>?_)
 have e1:st=.AugAssign (vs st).t (vs st).op (vs st).v (vs st).pos:=a2o h1
 have e2:(vs st).t=.Subscript (vw (vs st).t).a (vw (vs st).t).b (vw (vs st).t).pos:=a0A h2
 rw [a1r (a0i h3).1] at e2
 rw [e2,← c8d h5] at e1
 exact a2G e1 (c3P (a0i h3).2 h4 (b3m hF hB i h6) (b3m hF hB e h7))
theorem c6q (x:Nat)(e:PE):R1 G F lvl fuel (.app x e):=fun sc st h=>by
 refine a0b h (clear% h;fun h h4=>?_)
 refine a0b h (clear% h;fun h h3=>?_)
 refine a0b h (clear% h;fun h1 h2=>?_)
 have e1:st=.Expr (vs st).v (vs st).pos:=a2o h1
 have C:=c2z h2
 obtain⟨r,q,e2,hl⟩:=C.eq
 rw [a1r (a0i h3).1] at e2
 rw [e2] at e1
 exact a2G e1 (c6j (a0i h3).2 hl (a0i C.star).1 (b3m hF hB e h4))
theorem c4a (x:Nat)(e:PE):R1 G F lvl fuel (.appV x e):=fun sc st h=>by
 refine a0b h (clear% h;fun h h7=>?_)
 refine a0b h (clear% h;fun h h6=>?_)
 refine a0b h (clear% h;fun h h5=>?_)
 refine a0b h (clear% h;fun h h4=>?_)
 refine a0b h (clear% h;fun h h3=>?_)
 refine a0b h (clear% h;fun h1 h2=>?_)
 have e1:st=.Expr (vs st).v (vs st).pos:=a2o h1
 have e2:(vs st).v=.Call (vw (vs st).v).a (vw (vs st).v).es (vw (vs st).v).ks (vw (vs st).v).pos:=a0A h2
 rw [a1r (a0i h3).1,es1 (d:=(vs st).v) (c8d h4),c8V.mp h5] at e2
 rw [e2] at e1
 exact a2G e1 (c3R (a0i h3).2 h6 (b3m hF hB e h7))
theorem c6r (e:PE):R1 G F lvl fuel (.ret e):=fun sc st h=>by
 refine a0b h (clear% h;fun h h3=>?_)
 refine a0b h (clear% h;fun h1 h2=>?_)
 have e1:st=.Return (vs st).o (vs st).pos:=a2o h1
 cases ho:(vs st).o with
 | none=>rw [ho] at h2;exact absurd h2 c7I
 | some v=>
  rw [ho] at e1 h3
  exact a2G e1 (c6g (b3m hF hB e h3))
theorem b8f (t:PE):R1 G F lvl fuel (.assert t):=fun sc st h=>a2G (a2o (a0i h).1:st=.Assert _ _ _) (b8a (c5l hF hB t (a0i h).2))
theorem c6s (t:PE){a b:List PS}(A:R2 G F lvl fuel a)(B:R2 G F lvl fuel b):R1 G F lvl fuel (.ifs t a b):=fun sc st h=>by
 refine a0b h (clear% h;fun h h4=>?_)
 refine a0b h (clear% h;fun h h3=>?_)
 refine a0b h (clear% h;fun h1 h2=>?_)
 exact a2G (a2o h1:st=.If _ _ _ _) (c6e (c5l hF hB t h2) (A _ _ h3) (B _ _ h4))
theorem c1e (t:PE){a:List PS}(A:R2 G F lvl fuel a):R1 G F lvl fuel (.while t a):=fun sc st h=>by
 refine a0b h (clear% h;fun h h4=>?_)
 refine a0b h (clear% h;fun h h3=>?_)
 refine a0b h (clear% h;fun h1 h2=>?_)
 have e1:st=.While (vs st).t (vs st).a (vs st).b (vs st).pos:=a2o h1
 rw [c8V.mp h2] at e1
 exact a2G e1 (c1c (c5l hF hB t h3) (A _ _ h4))
theorem c6t (t:Tgt)(iter:PE){a:List PS}(A:R2 G F lvl fuel a):R1 G F lvl fuel (.for t iter a):=fun sc st h=>by
 refine a0b h (clear% h;fun h h4=>?_)
 refine a0b h (clear% h;fun h h3=>?_)
 refine a0b h (clear% h;fun h1 h2=>?_)
 have e1:st=.For (vs st).t (vs st).v (vs st).a (vs st).b (vs st).pos:=a2o h1
 rw [c8V.mp h2] at e1
 unfold c7c at h3
 cases hv:iter.pv.asEnm with
 | none=>
  rw [hv] at h3
  refine a0b h3 (clear% h3;fun h3 k3=>?_)
  exact a2G e1 (c6k k3 (a0i h3).1 (c7b hF hB iter (a0i h3).2) (A _ _ h4))
 | some b=>
  rw [hv] at h3
  refine a0b h3 (clear% h3;fun h3 k5=>?_)
  refine a0b h3 (clear% h3;fun h3 k4=>?_)
  refine a0b h3 (clear% h3;fun h3 k3=>?_)
  refine a0b h3 (clear% h3;fun k1 k2=>?_)
  cases t with
  | one x=>exact absurd k5 c7I
  | many xs=>
   rw [show (vs st).t=.Tuple (vw (vs st).t).es (vw (vs st).t).n (vw (vs st).t).pos from a0A k1] at e1
   rw [b8e hv]
   have C:=c0t k3
   exact a2G e1 (b5q hB C (C.eq.elim fun p q=>q.elim fun q e=>e ▸ rfl) k2 (b3m hF hB b k4) (A _ _ h4))
end
theorem c4b (x y:Nat):R1 G F lvl fuel (.getm x y):=fun sc st h=>by
 refine a0b h (clear% h;fun h h6=>?_)
 refine a0b h (clear% h;fun h h5=>?_)
 refine a0b h (clear% h;fun h h4=>?_)
 refine a0b h (clear% h;fun h h3=>?_)
 refine a0b h (clear% h;fun h1 h2=>?_)
 refine (a7J h1).elim fun p e1=>?_
 have e2:(vs st).v=.Attribute (vw (vs st).v).a (vw (vs st).v).id (vw (vs st).v).pos:=a0A h4
 rw [a1r (a0i h6).1,c8d h5] at e2
 rw [a1r h2,e2] at e1
 exact a2G e1 (c3Q h3 (a0i h6).2)
theorem c6u {a:List PS}(A:R2 G F lvl fuel a):R1 G F lvl fuel (.try a):=fun sc st h=>by
 refine a0b h (clear% h;fun h h5=>?_)
 refine a0b h (clear% h;fun h h4=>?_)
 refine a0b h (clear% h;fun h h3=>?_)
 refine a0b h (clear% h;fun h1 h2=>?_)
 have e1:st=.Try (vs st).a (vs st).hs (vs st).b (vs st).fin (vs st).pos:=a2o h1
 rw [c8V.mp h3,c8V.mp h4] at e1
 cases hh:(vs st).hs with
 | nil=>rw [hh] at h2;exact absurd h2 c7I
 | cons h₀ hs=>
  rw [hh] at e1
  exact a2G e1 (c6f (A _ _ h5))
theorem b5t (x y z:Nat):R1 G F lvl fuel (.asgRows x y z):=fun sc st h=>by
 refine a0b h (clear% h;fun h1 h=>?_)
 refine (a7J h1).elim fun p e1=>?_
 refine a0b h (clear% h;fun h l3=>?_)
 refine a0b h (clear% h;fun h l2=>?_)
 refine a0b h (clear% h;fun h l1=>?_)
 refine a0b h (clear% h;fun h hk=>?_)
 refine a0b hk (clear% hk;fun hk k3=>?_)
 refine a0b hk (clear% hk;fun k1 k2=>?_)
 refine a0b h (clear% h;fun h hv=>?_)
 refine a0b h (clear% h;fun h t5=>?_)
 refine a0b h (clear% h;fun h t4=>?_)
 refine a0b h (clear% h;fun h t3=>?_)
 refine a0b h (clear% h;fun t1 t2=>?_)
 refine a0b hv (clear% hv;fun hv v5=>?_)
 refine a0b hv (clear% hv;fun hv v4=>?_)
 refine a0b hv (clear% hv;fun hv v3=>?_)
 refine a0b hv (clear% hv;fun v1 v2=>?_)
 have et:tg st=.Tuple (vw (tg st)).es (vw (tg st)).n (vw (tg st)).pos:=a0A t1
 rw [es3 (d:=tg st) (c8d t2)] at et
 have ev:(vs st).v=.Tuple (vw (vs st).v).es (vw (vs st).v).n (vw (vs st).v).pos:=a0A v1
 rw [es3 (d:=(vs st).v) (c8d v2)] at ev
 refine (a4e v3).elim fun kn Z1=>Z1.elim (fun q1 c1=>?_)
 have c2:arg (vs st).v 1=.Dict (vw (arg (vs st).v 1)).os (vw (arg (vs st).v 1)).es (vw (arg (vs st).v 1)).pos:=a0A (a0i (a0i v4).1).1
 rw [c8V.mp (a0i (a0i v4).1).2,c8V.mp (a0i v4).2] at c2
 have c3:arg (vs st).v 2=.List (vw (arg (vs st).v 2)).es (vw (arg (vs st).v 2)).pos:=a0A (a0i v5).1
 rw [c8V.mp (a0i v5).2] at c3
 have ev:(vs st).v=.Tuple [arg (vs st).v 0,arg (vs st).v 1,arg (vs st).v 2] (vw (vs st).v).n (vw (vs st).v).pos:=ev
 have et:tg st=.Tuple [arg (tg st) 0,arg (tg st) 1,arg (tg st) 2] (vw (tg st)).n (vw (tg st)).pos:=et
 rw [c1,c2,c3] at ev
 rw [a1r t3,a1r t4,a1r t5] at et
 rw [et,ev] at e1
 exact a2G e1 (b5s (c8d k1) (c8d k2) (c8d k3) (c8d l1) (c8d l2) (c8d l3))
theorem c7z {p:PS}(h:∀ sc st,mS G.nm sc p st=false):R1 G F lvl fuel p:=fun sc st q=>absurd ((h sc st).symm.trans q) c7I
theorem c1f (hF:FOK G F lvl)(hB:GlobsOK G)(ps:List PS){ss:List Stmt}{sc:a0h}(h:mSs G.nm sc ps ss=true):SsJ G F lvl fuel sc ps ss:=
 PS.rec_1 (motive_1:=R1 G F lvl fuel) (motive_2:=R2 G F lvl fuel) (c6o hF hB) (c3X hF hB) (c3Y hF hB) (c6p hF hB) (c3Z hF hB) (c6q hF hB) (c4a hF hB) c4b
  (fun t _ _=>c6s hF hB t) (fun t iter _=>c6t hF hB t iter) (fun t _=>c1e hF hB t) (c6r hF hB) (fun sc st h=>a2G (a2o h:st=.Break _) c6d) (fun sc st h=>a2G (a2o h:st=.Continue _) c3J) (b8f hF hB) (fun _=>c6u)
  (fun sc st h=>c3I) b5t (fun _=>c7z fun _ _=>rfl) c3W (fun _ _=>c1d) ps sc ss h
end
end
section
section
variable {G:GC}{F:Fns}{lvl fuel:Nat}{s s':Shared}{A:Around}{B:Addr→Prop}{E:Value→Shared→Prop}
noncomputable def a5s (h:Heap)(scope:Scope):Heap:=pushCells (h.push { cls:=.type "frame",data:=.dict #[] }) scope.names
noncomputable def a9P (h:Heap)(scope:Scope)(qual:Str)(func:Option Addr)(code:Value):Env:=
 newEnv scope h.objs.size mainGlobals (cellsFrom (h.objs.size+1) scope.names []) qual func code none builtinsNs
noncomputable def b5u (h:Heap)(scope:Scope)(qual:Str)(func:Option Addr)(code:Value)(A:Around)(st:Addr)(B:Addr→Prop):Ctx:=
 ⟨A,a9P h scope qual func code,st,fun a=>B a∨(h.get? a=none∧∃ o,(a5s h scope).get? a=some o)⟩
theorem a9Q (h:Heap)(scope:Scope):CellsOk (a5s h scope) (h.objs.size+1) (cellsFrom (h.objs.size+1) scope.names []):=by
 have ok:=cellsFrom_ok scope.names (h.push { cls:=.type "frame",data:=.dict #[] }) (h.objs.size+1) [] ⟨fun _ _ hm=>(nomatch hm),List.Pairwise.nil⟩ (by rw [c8B];exact c7G _)
 rw [c8B] at ok
 exact ok
theorem a6g {h:Heap}{scope:Scope}{x:Str}{c:Addr}(e:(cellsFrom (h.objs.size+1) scope.names []).lookup x=some c):(a5s h scope).IsCell c none∧h.objs.size+1≤c:=(a9Q h scope).empty x c (mem_of_lookup e)
theorem b9C (s:Shared)(scope:Scope):Kf s { s with heap:=a5s s.heap scope }:=⟨fun b o e=>pushCells_keeps _ _ b o (c7P _ e),rfl,c7G _,rfl⟩
theorem b2b {a:Addr}(g:GSt G s)(ha:s.heap.get? a=none):G.g.get? a=none:=by
 cases e:G.g.get? a with
 | none=>rfl
 | some o=>exact absurd rfl (a0f ha (g.base _ _ e))
theorem a8E {scope:Scope}{qual:Str}{func:Option Addr}{code:Value}{b:Addr}{h:Heap}{o:Obj}(e:h.get? b=some o) :
  b≠(a9P h scope qual func code).locals∧∀ y,(a9P h scope qual func code).cells.lookup y≠some b:=
 ⟨fun q=>Nat.lt_irrefl _ (q ▸ c7Z e),fun y hy=>Nat.lt_irrefl _ (c7F (c7Z e) (Nat.le_of_succ_le (a6g (h:=h) (scope:=scope) hy).2))⟩
structure ScOK (G:GC)(scope:Scope)(code:Value)(qual:Str):Prop where
 kind:scope.kind=.function
 cons:∀ p∈scope.names,scope.names.lookup p.1=some p.2
 free:∀ p∈scope.names,p.2≠.free
 lam:∀ i,a4A scope.names=some i→code=.ref (G.lamC i)∧qual=G.lamQ i
theorem b5v {scope:Scope}{qual:Str}{func:Option Addr}{code:Value}{st:Addr}{oa:Nat→Addr}(g:GSt G s)(hA:AOk lvl A)(K:ScOK G scope code qual)(hT:∀ t∈G.T,B t)(hB:∀ a,B a→∃ o,s.heap.get? a=some o) :
  St G (b5u s.heap scope qual func code A st B) lvl scope.names [] oa { s with heap:=a5s s.heap scope }:=by
 have kf:=b9C s scope
 have lO:(a5s s.heap scope).get? s.heap.objs.size=some { cls:=.type "frame",data:=.dict #[] }:=pushCells_keeps _ _ _ _ (c8a _ rfl)
 have newL:=fresh (c7G s.heap.objs.size)
 have newC:∀ {x c},(cellsFrom (s.heap.objs.size+1) scope.names []).lookup x=some c→s.heap.get? c=none:=fun e=>fresh (Nat.le_of_succ_le (a6g e).2)
 exact {
  aok:=hA
  kind:=K.kind
  names:=rfl
  code:=K.lam
  globals:=rfl
  builtins:=rfl
  newL:=b2b g newL
  newC:=fun x c hc=>b2b g (newC hc)
  cellInj:=fun x y c hx hy=>name_of_addr (a9Q s.heap scope).apart (mem_of_lookup hx) (mem_of_lookup hy)
  gst:=kf.gst g
  badT:=fun t ht=>.inl (hT t ht)
  badL:=.inr ⟨newL,_,lO⟩
  badC:=fun x c hc=>.inr ⟨newC hc,(a6g hc).1.elim fun o q=>⟨o,q.1⟩⟩
  own:=fun x hx=>absurd hx c7I
  ownInj:=fun x y hx=>absurd hx c7I
  alloc:=fun b hb=>hb.elim (fun hb=>hb.elim (fun hb=>(hB b hb).elim fun o e=>⟨o,kf.heap _ _ e⟩) fun hb=>hb.2) fun h=>h.elim fun x h=>absurd h.1 c7I
  cellAt:=fun x hx=>hx.elim (fun hx=>(a4I (n:=s.heap.objs.size+1) (mem_of_lookup hx)).elim fun c' hc'=>(a2Y hc').elim fun c hc=>⟨c,none,hc,(a6g hc).1⟩) fun hx=>absurd rfl (K.free _ (mem_of_lookup hx))
  slots:=⟨_,(Heap.Ns.new s.heap (.type "frame")).keeps (pushCells_keeps _ _),fun x sl h=>a0e h⟩ }
structure Ks (Γ:Ctx)(s s':Shared):Prop where
 heap:∀ b o,b≠Γ.env.locals→(∀ y,Γ.env.cells.lookup y≠some b)→s.heap.get? b=some o→s'.heap.get? b=some o
 os:s'.os=s.os
 toks:s.toks≤s'.toks
 gens:s'.gens=s.gens
theorem a9R {Γ:Ctx}{sc:a0h}{oa:Nat→Addr}(f:Str×Value→PUnit→Sem (ForInStep PUnit))(hf:∀ n v u,f (n,v) u=(do storeName Γ.env n v;pure (.yield ⟨⟩)))
  (xs:List Nat) (vs:List Value) (ds:List D) (σ:Store) (s:Shared) {Q:PUnit→Shared→Prop} (S:St G Γ lvl sc σ oa s) (hm:∀ y,noMeth σ y=true)
  (hk:∀ x∈xs,sc.lookup (G.nm x)=some .local∨sc.lookup (G.nm x)=some .cell) (R:RL G Γ σ oa s vs ds) (hl:xs.length=vs.length)
  (h:∀ s',St G Γ lvl sc (a2F (xs.zip ds) σ) oa s'→Ks Γ s s'→Q ⟨⟩ s'):wpAny (model G.prog G.w) Γ.A (forIn ((xs.map G.nm).zip vs) ⟨⟩ f) Q E s:=by
 induction xs generalizing vs ds σ s with
 | nil=>exact c8f (h s S ⟨fun _ _ _ _ e=>e,rfl,c7G _,rfl⟩)
 | cons x xs ih=>
  cases vs with
  | nil=>cases hl
  | cons v vs=>
   cases ds with
   | nil=>exact absurd R.length (Nat.succ_ne_zero _)
   | cons d ds=>
    obtain⟨v',vs',e,r,R⟩:=R.view
    obtain⟨rfl,rfl⟩:=List.cons.inj e
    rw [c9g,List.zip_cons_cons,List.forIn_cons,hf]
    refine c8e (c8e (S.store (W:=fun _=>true) (hk x c8L) (hm x) r fun s₁ S₁ K _=>c8f ?_))
    have R₁:RL G Γ (σ.set x (.val d)) oa s₁ vs ds:=R.chg ⟨K.toks,fun b o hb=>K.heap b o (fun q=>hb (.inl (q ▸ S.badL))) (fun q=>hb (.inl (S.badC _ _ q))),fun b _ hb _ q=>hb ((a3r (sl:=.val d) S rfl (hm x)).all b q)⟩
    exact ih vs ds _ s₁ S₁ (fun y=>a1w rfl (hm y)) (fun y hy=>hk y (c8O _ hy)) R₁ (Nat.succ.inj hl) fun s' S' k=>h s' S' ⟨fun b o h1 h2 e=>k.heap b o h1 h2 (K.heap b o h1 (h2 _) e),k.os.trans K.os,c7O K.toks k.toks,k.gens.trans K.gens⟩
theorem AOk.in1 {A:Around}(h:AOk (lvl+1) A):AOk lvl A.in1:=by
 refine h.elim (clear% h;fun h1 Z1=>Z1.elim (fun h2 h3=>?_))
 refine⟨h1,c7W (c8F (c8G (c7T _) _) _) h2,?_⟩
 show A.units+1+8*lvl+200<_
 rw [Nat.add_assoc A.units]
 exact c7W (c8F (c8G (c7O (c8w (Nat.add_comm 1 _)) (c8G (by decide:1≤8) _)) _) _) h3
theorem St.around {Γ:Ctx}{sc:a0h}{σ:Store}{oa:Nat→Addr}(S:St G Γ lvl sc σ oa s){A:Around}(h:AOk lvl A):St G { Γ with A:=A } lvl sc σ oa s:=
 { S with aok:=h,slots:=S.slots }
theorem c1g {scope:Scope}{qual:Str}{func:Option Addr}{code:Value}{st:Addr}{oa:Nat→Addr}{xs:List Nat}{vs:List Value}{ds:List D}(g:GSt G s)(hA:AOk (lvl+1) A)(K:ScOK G scope code qual)
  (hT:∀ t∈G.T,B t) (hB:∀ a,B a→∃ o,s.heap.get? a=some o) (hk:∀ x∈xs,scope.names.lookup (G.nm x)=some .local∨scope.names.lookup (G.nm x)=some .cell)
  (hl:xs.length=vs.length) (R:RepL ⟨G.prog,G.w,st⟩ B s.heap s.toks vs ds) {Q:Env→Shared→Prop}
  (hQ:∀ s',St G (b5u s.heap scope qual func code (A.deeper (a9P s.heap scope qual func code)) st B) lvl scope.names (a2F (xs.zip ds) []) oa s'→Kf s s'→Q (a9P s.heap scope qual func code) s') :
  wpAny (model G.prog G.w) A.in1 (newFunctionEnv scope mainGlobals [] ((xs.map G.nm).zip vs) qual func code none builtinsNs) Q E s:=by
 have kf:=b9C s scope
 have S:=b5v (st:=st) (oa:=oa) (func:=func) g hA.in1 K hT hB
 simp only [newFunctionEnv,Option.isSome_none,c8S,if_false]
 refine c8e (wpAny_alloc ?_)
 refine c8e (wpAny_layCells _ (fun name kind cells=>by cases kind==NameKind.cell <;> rfl) _ _ _ _ ?_)
 rw [show ({ s with heap:=s.heap.push { cls:=.type "frame",data:=.dict #[] } }:Shared).heap.objs.size=s.heap.objs.size+1 from c8B ..]
 refine c8e (a9R (Γ:=b5u s.heap scope qual func code A.in1 st B) _ (fun _ _ _=>rfl) xs vs ds [] _ S (fun _=>rfl) hk ?_ hl fun s' S₁ k=>c8f (hQ s' (S₁.around hA.deeper) ⟨fun b o e=>k.heap b o (a8E e).1 (a8E e).2 (kf.heap b o e),k.os,k.toks,k.gens⟩))
 exact R.chg ⟨c7G _,fun b o _=>kf.heap b o,fun b o hb e q=>q.elim (fun q=>q.elim hb fun q=>a0f q.1 e rfl) fun h=>h.elim fun x h=>absurd h.1 c7I⟩
structure Kb (G:GC)(Γ:Ctx)(s s':Shared):Prop where
 heap:∀ b o,b ∉ G.T→b≠Γ.env.locals→(∀ y,Γ.env.cells.lookup y≠some b)→s.heap.get? b=some o→s'.heap.get? b=some o
 os:s'.os=s.os
 toks:s.toks≤s'.toks
 gens:∀ (i:Nat) (x:GenState),s.gens[i]?=some x→s'.gens[i]?=some x
 gst:GSt G s'
structure FdOK (G:GC)(f:Nat)(a:Addr)(o:Obj)(fd:FuncData)(body:List Stmt)(xs:List Nat):Prop where
 mg:G.mg (G.nm f)=some (.ref a)
 get:G.g.get? a=some o
 data:o.data=.func fd
 co:fd.scope.isCoroutine=false
 gen:fd.scope.isGenerator=false
 body:fd.body=.stmts body
 code:G.g.CodeRec fd.code fd.qualname
 clo:fd.closure=[]
 gl:fd.globals=mainGlobals
 bu:fd.builtins=builtinsNs
 sc:ScOK G fd.scope fd.code (fd.qualname++".<locals>.")
 par:∀ x∈xs,fd.scope.names.lookup (G.nm x)=some .local∨fd.scope.names.lookup (G.nm x)=some .cell
noncomputable def c1h (G:GC)(fd:FuncData)(xs:List Nat)(args:List D)(kw:Option D)(ds:List D):Prop:=
 ∀ (B:Addr→Prop) (st:Addr) (s:Shared) (vs:List Value) (kws:List (Str×Value)),GSt G s→RepL ⟨G.prog,G.w,st⟩ B s.heap s.toks vs args→b7r ⟨G.prog,G.w,st⟩ B s.heap s.toks kws kw →
  ∃ vs',BindsTo s fd ⟨vs,kws⟩ ((xs.map G.nm).zip vs')∧xs.length=vs'.length∧RepL ⟨G.prog,G.w,st⟩ B s.heap s.toks vs' ds
noncomputable def b5w (G:GC)(Γ:Ctx)(s:Shared)(d:D)(m:Sem Flow):Prop:=
 ∀ (Q:Flow→Shared→Prop) (E:Value→Shared→Prop),(∀ fl v s',(fl=.ret v∨(fl=.next∧v=.none))→Kb G Γ s s'→Rep (rc G Γ) Γ.bad s'.heap s'.toks v d→Q fl s')→wpAny (model G.prog G.w) Γ.A m Q E s
theorem a6K {f:Nat}{a:Addr}{o:Obj}{fd:FuncData}{body:List Stmt}{xs:List Nat}{args ds:List D}{kw:Option D}{d:D}(K:FdOK G f a o fd body xs)(hbind:c1h G fd xs args kw ds)
  (hb:∀ (Γ:Ctx) (oa:Nat→Addr) (s:Shared),St G Γ lvl fd.scope.names (a2F (xs.zip ds) []) oa s→b5w G Γ s d (execs body Γ.env)):c2y G (lvl+1) f args kw d:=by
 refine⟨a,o,fd,K.mg,K.get,K.data,fun A B st s vs kws Q E hA g hT hB R KW hQ=>?_⟩
 obtain⟨vs',hbt,hl,R'⟩:=hbind B st s vs kws g R KW
 refine wpAny_call (codeAny_call_function (c7W (c7O (c8p _ _) (c8p _ _)) hA.2.1) (g.base _ _ K.get) K.data K.co K.gen K.body (K.code.keeps g.base) (hbt _ _ _ _ ?_))
 rw [K.clo,K.gl,K.bu]
 refine c1g (oa:=fun _=>0) g hA K.sc hT hB K.par hl R' fun s₁ S₁ kf=>⟨g.lim.keeps kf.heap,codeAny_func (hb _ _ _ S₁ _ _ fun fl v s' hfl K' r=>?_)⟩
 have kp:Kp G s s':=⟨fun b o hbT e=>K'.heap b o hbT (a8E e).1 (a8E e).2 (kf.heap b o e),K'.os.trans kf.os,c7O kf.toks K'.toks,fun i x e=>K'.gens i x ((c7H (·[i]?) kf.gens).trans e)⟩
 have q:=hQ v s' ⟨kp,K'.gst⟩ (r.weaken fun b hb=>.inl hb)
 rcases hfl with e | ⟨e,e'⟩
 ·rw [e];exact q
 ·rw [e];exact e' ▸ q
theorem a8F {l:List (Nat×D)}{x:Nat}{P:Prop}(h:Store.isOwn (a2F l []) x=true):P:=absurd (a7v l h) c7I
theorem b8g {f:Nat}{a:Addr}{o:Obj}{fd:FuncData}{body:List Stmt}{ps:List PS}{xs:List Nat}{args ds:List D}{kw:Option D}{d:D}{out:Out}(K:FdOK G f a o fd body xs)(hbind:c1h G fd xs args kw ds)
  (hb:SsJ G F lvl fuel fd.scope.names ps body) (hev:a0C F fuel (a2F (xs.zip ds) []) ps=some out) (hout:out=.ret d∨∃ σ',out=.next σ'∧d=.none):c2y G (lvl+1) f args kw d:=by
 refine a6K K hbind fun Γ oa s S Q E hQ=>hb _ (fun _=>true) _ _ _ _ (fun _ _=>rfl) S hev _ _ fun fl s' O=>?_
 have kb:∀ {σ' oa'},Goes G Γ lvl fd.scope.names (fun _=>true) (a2F (xs.zip ds) []) oa s σ' oa' s'→Kb G Γ s s':=fun T=>
  ⟨fun b o hbT h1 h2 e=>T.step.heap b o hbT (fun q=>q.elim h1 fun q=>q.elim (fun q=>q.elim h2) fun q=>q.elim fun x h=>a8F h.1) e,T.step.os,T.step.toks,T.step.gens,T.st.gst⟩
 rcases hout with e | ⟨σ',e,e'⟩
 ·rw [e] at O
  obtain⟨v,e,⟨σ',oa',T⟩,r⟩:=O
  exact hQ _ v s' (.inl e) (kb T) r
 ·rw [e] at O
  refine O.elim (clear% O;fun e Z1=>Z1.elim (fun oa' T=>?_))
  exact hQ _ .none s' (.inr ⟨e,rfl⟩) (kb T) (e' ▸ .none)
end
end
section
theorem c1i {σ:Store}{x:Nat}{sl:Slot}(h:∀ p∈σ,p.1≠x):σ.set x sl=σ++[(x,sl)]:=by
 induction σ with
 | nil=>rfl
 | cons p r ih=>
  show (bif x==p.1 then (p.1,sl) :: r else p :: Store.set r x sl) = _
  rw [c7N.mpr (Ne.symm (h p c8L)),ih fun q hq=>h q (c8O _ hq)]
  rfl
theorem b8h {l:List (Nat×D)}{σ:Store}(hn:(l.map (·.1)).Nodup)(hd:∀ p∈σ,∀ q∈l,p.1≠q.1):a2F l σ=σ++l.map fun p=>(p.1,Slot.val p.2):=by
 induction l generalizing σ with
 | nil=>exact (c8T _).symm
 | cons p l ih=>
  refine (List.nodup_cons.mp hn).elim fun h1 h2=>?_
  show a2F l (σ.set p.1 (.val p.2)) = _
  rw [c1i fun q hq=>hd q hq p c8L,ih h2 fun q hq r hr=>?_,c8U]
  ·rfl
  ·rcases c8P.mp hq with hq | hq
   ·exact hd q hq r (c8O _ hr)
   ·rw [c8C.mp hq]
    exact fun e=>h1 (c9n.mpr ⟨r,hr,e.symm⟩)
theorem b8i {ks:List Nat}{k:D}:ks.zip (ks.map fun _=>k)=ks.map fun x=>(x,k):=by
 induction ks with
 | nil=>rfl
 | cons a r ih=>exact c7H ((a,k) :: ·) ih
theorem b5x {xs ks:List Nat}{pos:List D}{k:D}(hn:(xs++ks).Nodup)(hl:pos.length=xs.length) :
  a2F ((xs++ks).zip (pos++ks.map fun _=>k)) []=(xs.zip pos++ks.map (fun x=>(x,k))).map fun p=>(p.1,Slot.val p.2):=by
 rw [b8h ((c7H List.Nodup (List.map_fst_zip (c8w (by rw [c8Y,c8Y,c8u,hl])))).mpr hn) fun p hp=>absurd hp List.not_mem_nil,List.zip_append hl.symm,b8i]
 rfl
structure DefAt (G:GC)(f:Nat)(params kwonly:List Nat)(dflt:List D)(P:a0h→List Stmt→Bool):Prop where
 nd:(params++kwonly).Nodup
 out:∃ (a:Addr) (o:Obj) (fd:FuncData) (body:List Stmt),FdOK G f a o fd body (params++kwonly)∧P fd.scope.names body=true ∧
  ∀ (args:List D) (kw:Option D),(kw=none∨kwonly≠[])→(args++dflt.drop (args.length+dflt.length - params.length)).length=params.length→c1h G fd (params++kwonly) args kw (args++dflt.drop (args.length+dflt.length - params.length)++kwonly.map fun _=>kw.getD (.bool false))
noncomputable def a8G (G:GC)(df:Def):Prop:=DefAt G df.f df.params df.kwonly df.dflt fun sc body=>mSs G.nm sc df.body body
end
section
theorem a9S:isSubtype (.type "KeyError") (.type "LookupError")=pure true:=by rw [c8h];kernel_rfl
section
variable {prog:Program}{w:World}{A:Around}{E:Value→Shared→Prop}{s:Shared}
theorem b2c {d:Addr}{f:Int→Option Value}{c:Nat}{y:Str}{tk:Tok}{Q:Builtin.Str.Mapped→Shared→Prop}(hm:Heap.MapOf (PySem.intKind prog w) s.heap d f)(hv:f c=some (.str y tk))
  (h:∀ s',Kf s s'→Q (.text y) s'):wpAny (model prog w) A (Builtin.Str.tableLookup (.ref d) c) Q E s:=by
 unfold Builtin.Str.tableLookup
 refine c8e (wpAny_attempt (c8e (wpAny_mkInt ?_)))
 refine wpAny_getItem_of (intKind_is prog w c _) hm hv ?_
 dsimp only
 refine c8e (m:=asInt? _) (c8f ?_)
 refine c8e (m:=asStr? _) (c8f ?_)
 exact c8f (h _ (Kf.tok (by show s.toks≤s.toks+1+1;lia)))
theorem b5y {d:Addr}{f:Int→Option Value}{c:Nat}{Q:Builtin.Str.Mapped→Shared→Prop}(hh:A.handled=none)(hd:(d==sysModules)=false)(hm:Heap.MapOf (PySem.intKind prog w) s.heap d f)(hv:f c=none)
  (h:∀ s',Kf s s'→Q .keep s'):wpAny (model prog w) A (Builtin.Str.tableLookup (.ref d) c) Q E s:=by
 unfold Builtin.Str.tableLookup
 refine c8e (wpAny_attempt (c8e (wpAny_mkInt ?_)))
 refine wpAny_getItem_missing_of (intKind_is prog w c _) hd hh hm hv fun h' e he=>?_
 dsimp only
 obtain⟨ob,t,h1,h2,h3⟩:=he.there
 refine c8e (wpAny_isInstance (T:="KeyError") ⟨ob,h1,h2⟩ a9S ?_)
 rw [c7K rfl]
 refine c8e (wpAny_rule ?_)
 exact c8f (h _ ⟨he.keeps,rfl,(by show s.toks≤s.toks+1+1;lia),rfl⟩)
theorem a6L {M:Model}{α:Type}{c:Prop}[Decidable c]{a b:Sem α}{Q:α→Shared→Prop}(hc:¬ c)(h:wpAny M A b Q E s):wpAny M A (if c then a else b) Q E s:=by rw [c7M hc];exact h
theorem b5z {M:Model}{α:Type}{c:Prop}[Decidable c]{a b:Sem α}{Q:α→Shared→Prop}(hc:c)(h:wpAny M A a Q E s):wpAny M A (if c then a else b) Q E s:=by rw [c7K hc];exact h
theorem a9T {M:Model}{α β:Type}{c:α}{b:β}{f:α→β→Sem (ForInStep β)}{Q:β→Shared→Prop}(h:wpAny M A (f c b) (fun r=>Q r.value) E s):wpAny M A (forIn #[c] b f) Q E s:=by
 rw [← Array.forIn_toList,List.forIn_cons]
 refine c8e (c8H h (fun r s₁ h₁=>?_) fun _ _ e=>e)
 cases r with
 | done b=>exact c8f h₁
 | yield b=>exact c8f h₁
theorem a8H {d:Addr}{f:Int→Option Value}{c:Nat}{t tk:Tok}{Q:PySem.Fin→Shared→Prop}(hm:Heap.MapOf (PySem.intKind prog w) s.heap d f)(hv:f c=some (.str ⟨#[92,c]⟩ tk))(hc:c<128)
  (h:∀ s' u,Kf s s'→Q (.done (.ret (.str ⟨#[92,c]⟩ u))) s'):wpAny (model prog w) A (Builtin.«str.translate» ⟨[.str ⟨#[c]⟩ t,.ref d],[]⟩) Q E s:=by
 unfold Builtin.«str.translate»
 refine c8e (wpAny_of_eq (a:=(.str ⟨#[c]⟩ t,⟨#[c]⟩,.ref d)) rfl ?_)
 refine a6L c7I (c8e (a9T ?_))
 have hf:(#[c]:Array Nat).all (fun x=>decide (x<128))=true:=by simp [hc]
 refine a6L (c:=Builtin.Str.tooLong 0=true) (by decide) (b5z hf ?_)
 refine c8e (b2c hm hv fun s₁ k₁=>?_)
 refine c8e (m:=pure none) (c8f ?_)
 refine c8e (wpAny_rule ?_)
 refine a6L c7I ?_
 refine c8e (b2c (a6b hm fun o e=>k₁.heap _ _ e) hv fun s₂ k₂=>?_)
 refine c8f ?_
 refine a6L (c:=Builtin.Str.tooLong 2=true) (by decide) ?_
 refine c8e (wpAny_mkStr (E:=E) (c8f (E:=E) (h _ _ ((k₁.trans k₂).trans (Kf.tok (c7T _))))) ?_)
 show (2:Nat)≤sizeLine
 rw [c7V];decide
theorem a7m {d:Addr}{f:Int→Option Value}{c:Nat}{t:Tok}{Q:PySem.Fin→Shared→Prop}(hh:A.handled=none)(hd:(d==sysModules)=false)(hm:Heap.MapOf (PySem.intKind prog w) s.heap d f)(hv:f c=none)(hc:c<128)
  (h:∀ s' u,Kf s s'→Q (.done (.ret (.str ⟨#[c]⟩ u))) s'):wpAny (model prog w) A (Builtin.«str.translate» ⟨[.str ⟨#[c]⟩ t,.ref d],[]⟩) Q E s:=by
 unfold Builtin.«str.translate»
 refine c8e (wpAny_of_eq (a:=(.str ⟨#[c]⟩ t,⟨#[c]⟩,.ref d)) rfl ?_)
 refine a6L c7I (c8e (a9T ?_))
 have hf:(#[c]:Array Nat).all (fun x=>decide (x<128))=true:=by simp [hc]
 refine a6L (c:=Builtin.Str.tooLong 0=true) (by decide) (b5z hf ?_)
 refine c8e (b5y hh hd hm hv fun s₁ k₁=>?_)
 refine c8f ?_
 refine a6L (c:=Builtin.Str.tooLong 1=true) (by decide) ?_
 refine c8e (wpAny_mkStr (E:=E) (c8f (E:=E) (h _ _ (k₁.trans (Kf.tok (c7T _))))) ?_)
 show (1:Nat)≤sizeLine
 rw [c7V];decide
end
end
section
theorem a7K:mroOf (.type "object")=pure [.type "object"]:=by rw [mroOf_type];kernel_rfl
theorem a5t:typeLookup (.type "object") "__new__"=pure (some (.builtin "object.__new__")):=by rw [c9j,c9k];kernel_rfl
theorem a5u:PySem.Slot "object" "__init__" "object.__init__":=
 .of (owner:="object") (n:="__init__") (by rw [c9j,c9k];kernel_rfl) (by decide +kernel) (by decide +kernel) (by decide +kernel)
  (by first | exact .inl (by decide +kernel) | exact .inr (by decide +kernel)) (by rw [c8h];kernel_rfl)
theorem a8I:TypeCalled "object" "object.__new__" "object.__init__":=
 ⟨by decide +kernel,by decide +kernel,⟨_,_,a7K⟩,madeBy_type a7K a5t (by decide +kernel),by decide +kernel,by rw [c8h];kernel_rfl,a5u⟩
theorem a6M:checkTypeCall "object" ⟨[],[]⟩=pure ():=by kernel_rfl
theorem a7n:checkBuiltinCall "object.__new__" ⟨[.type "object"],[]⟩=pure ():=by kernel_rfl
theorem a3l:plainId "object.__new__"=true:=by decide +kernel
theorem a4Q:entryFor table "object.__init__"=some Builtin.«object.__init__»:=entryFor_of_tree (by kernel_rfl)
theorem a5v (a:Value):argsOk "object.__init__" ⟨[a],[]⟩:=by unfold argsOk;kernel_rfl
theorem b1e:Bind.madeHere "object.__new__" (.type "object")=pure ():=by kernel_rfl
theorem a7o:typeHasDict (.type "object")=false:=by decide +kernel
section
variable {prog:Program}{w:World}{A:Around}{E:Value→Shared→Prop}{s:Shared}
noncomputable def a8J:Obj:={ cls:=.type "object",data:=.plain }
theorem a6N {Q₁:Value→Shared→Prop}(h:Q₁ (.ref s.heap.objs.size) { s with heap:=s.heap.push a8J }) :
  codeAny (model prog w) A (.call (.builtin "object.__new__") ⟨[.type "object"],[]⟩) (wants Q₁ E) s:=by
 refine codeAny_of_tree ?_
 show wpAny _ A.in1 (do checkBuiltinCall "object.__new__" ⟨[.type "object"],[]⟩;again (.builtin "object.__new__" ⟨[.type "object"],[]⟩)) _ _ s
 refine c8e (wpAny_of_eq a7n (c8f ⟨plainId_quiet a3l _,codeAny_builtin PySem.F.entry_object_new ?_⟩))
 rw [Around.under_plainId a3l _]
 unfold Builtin.«object.__new__»
 refine c8e (wpAny_of_eq (a:=true) (by first | rfl | kernel_rfl) ?_)
 simp only [Bool.not_true,c8S,if_false]
 rw [c7M (by decide +kernel)]
 refine c8e (wpAny_of_eq b1e ?_)
 simp only [List.isEmpty_nil,Bool.not_true,Bool.or_false,c8S,if_false,a7o]
 refine c8e (c8f ?_)
 refine c8e (wpAny_newObj_type ?_)
 rw [c7M (by decide +kernel)]
 exact c8f h
theorem b1f {Q:Value→Shared→Prop}(h:Q (.ref s.heap.objs.size) { s with heap:=s.heap.push a8J }):wpAny (model prog w) A (call (.type "object") []) Q E s:=by
 refine callType_codes (Q₁:=fun obj s₁=>obj=.ref s.heap.objs.size∧s₁={ s with heap:=s.heap.push a8J }) a8I a6M a4Q (a6N ⟨rfl,rfl⟩) fun obj s₁ h₁=>?_
 refine h₁.elim (clear% h₁;fun Z1 Z2=>?_)
 subst Z1
 subst Z2
 refine⟨⟨_,c8a _ rfl,rfl⟩,a5v _,?_⟩
 unfold Builtin.«object.__init__»
 dsimp only
 rw [c7M (by decide)]
 exact c8f ⟨rfl,h⟩
end
end
section
noncomputable def a1f:List Nat:=[40,41,91,93,123,125,63,42,43,45,124,94,36,92,46,38,126,35,32,9,10,13,11,12]
structure EscOK (G:GC):Prop where
 out:∃ (d:Addr) (f:Int→Option Value),b9u G ("_special_chars_map":Str) (.ref d)∧(d==sysModules)=false∧Heap.MapOf (PySem.intKind G.prog G.w) G.g d f ∧
  ∀ c:Nat,c<128→(a1f.contains c=true→∃ tk,f c=some (.str ⟨#[92,c]⟩ tk))∧(a1f.contains c=false→f c=none)
noncomputable def b5A (x:Str):Option Str:=match x.cps.toList with
 | [c]=>grd (decide (c<128)) (some (bif a1f.contains c then ⟨#[92,c]⟩ else ⟨#[c]⟩))
 | _=>none
theorem b5B {x y:Str}(h:b5A x=some y):∃ c,x=⟨#[c]⟩∧c<128∧y=bif a1f.contains c then ⟨#[92,c]⟩ else ⟨#[c]⟩:=by
 obtain⟨⟨l⟩⟩:=x
 cases l with
 | nil=>exact a0e (show none=some y from h)
 | cons c r=>
  cases r with
  | nil=>
   refine a0Q (show grd (decide (c<128)) (some _)=some y from h) fun h1 h2=>?_
   exact⟨c,rfl,c7X h1,h2.symm⟩
  | cons=>exact a0e (show none=some y from h)
noncomputable def b8j (st:Stmt):Expr:=(vs st).o.getD default
noncomputable def c1j (nm:Nat→Str)(p:Nat)(sc:a0h)(st r:Stmt):Bool:=
 isS st .ifs&&mT nm sc (.isStr (.var p)) (vs st).t&&(isS r .ret&&(vs r).o.isSome&&isM "translate" 1 (b8j r)&&mE nm sc (.var p) (b0D (b8j r))&&isT (arg (b8j r) 0) .name&&(vw (arg (b8j r) 0)).id==("_special_chars_map":Str))&&a7x sc ("_special_chars_map":Str)
noncomputable def a5w (nm:Nat→Str)(p:Nat)(sc:a0h)(body:List Stmt):Bool:=match body with
 | []=>false
 | st :: _=>!(vs st).a.isEmpty&&c1j nm p sc st ((vs st).a.headD (.Pass default))
section
variable {G:GC}{F:Fns}{lvl:Nat}{Γ:Ctx}{sc:a0h}{σ:Store}{oa:Nat→Addr}{s s':Shared}
theorem Af.kb {Γ:Ctx}(a:Af G s s'):Kb G Γ s s':=⟨fun b o h _ _ e=>a.kp.heap b o h e,a.kp.os,a.kp.toks,a.kp.gens,a.gst⟩
theorem b2d:FOK G (fun _ _ _=>none) lvl:=fun _ _ _ _ h=>a0e h
theorem c4c {r:Stmt}(h:(isS r .ret&&(vs r).o.isSome)=true):∃ p,r=.Return (some (b8j r)) p:=by
 have e:r=.Return (vs r).o (vs r).pos:=a2o (a0i h).1
 unfold b8j
 cases ho:(vs r).o with
 | none=>have h2:=(a0i h).2;rw [ho] at h2;exact absurd h2 c7I
 | some v=>rw [ho] at e;exact⟨_,e⟩
theorem b1g {p:Nat}{d:D}:Store.get (a2F ([p].zip [d]) []) p=some (.val d):=by
 show Store.get [(p,Slot.val d)] p = _
 rw [a0R,c7R]
 rfl
theorem c1k (hB:GlobsOK G)(hE:EscOK G){p:Nat}{body:List Stmt}(h:a5w G.nm p sc body=true){x y:Str}{g:Bool}(hx:b5A x=some y)(S:St G Γ lvl sc (a2F ([p].zip [.str x g]) []) oa s):b5w G Γ s (.str y) (execs body Γ.env):=fun Q E hQ=>by
 cases body with
 | nil=>exact absurd h c7I
 | cons st rest=>
  refine a0b (show (!(vs st).a.isEmpty&&c1j G.nm p sc st ((vs st).a.headD (.Pass default)))=true from h) fun h0 h=>?_
  cases ha:(vs st).a with
  | nil=>rw [ha] at h0;exact absurd h0 c7I
  | cons r b=>
   rw [ha] at h
   refine a0b (show c1j G.nm p sc st r=true from h) fun h k5=>?_
   refine a0b h (clear% h;fun h hr=>?_)
   refine a0b h (clear% h;fun h1 h2=>?_)
   refine a0b hr (clear% hr;fun hr k4=>?_)
   refine a0b hr (clear% hr;fun hr k3=>?_)
   refine a0b hr (clear% hr;fun hr k2=>?_)
   refine a0b hr (clear% hr;fun hr k1=>?_)
   have e1:st=.If (vs st).t (vs st).a (vs st).b (vs st).pos:=a2o h1
   rw [ha] at e1
   refine (c4c hr).elim fun pr e2=>?_
   rw [e1,e2]
   refine wpAny_execs_cons (wpAny_If (c5l (lvl:=lvl) b2d hB (.isStr (.var p)) h2 _ _ _ _ true S (show ((evE _ _ (.var p)).bind fun u=>u.asStr.map fun _=>true)=some true from by rw [show evE (fun _ _ _=>none) (a2F ([p].zip [D.str x g]) []) (.var p)=some (.str x g) from by show (Store.get _ p).bind _ = _;rw [b1g];rfl];rfl) _ _ fun s₁ a₁=>?_))
   have S₁:=S.af a₁
   obtain⟨d,fm,hg,hd,hm,hf⟩:=hE.out
   have e3:arg (b8j r) 0=.Name (vw (arg (b8j r) 0)).id (vw (arg (b8j r) 0)).pos:=a0A k3
   rw [c8d k4] at e3
   refine (a3C k5).elim fun k6 k7=>?_
   refine wpAny_execs_cons (wpAny_Return_some (a4L PySem.F.slot_str_translate PySem.F.type_str_translate (c2z k1) (b3m (F:=fun _ _ _=>none) b2d hB (.var p) k2) S₁ (u:=.str x g) (by show (Store.get _ p).bind _ = _;rw [b1g];rfl) (x:=x) rfl fun tk s₂ pos a₂=>?_))
   have a:=a₁.trans a₂
   rw [e3]
   refine c9e (c8I ((S.af a).glob k6 hg (c9d ?_)) k7)
   obtain⟨c,ex,hlt,ey⟩:=b5B hx
   have hm₂:Heap.MapOf (PySem.intKind G.prog G.w) s₂.heap d fm:=a6b hm fun o e=>a.gst.base _ _ e
   refine (hf c hlt).elim fun f1 f2=>?_
   rw [ex]
   rw [ey] at hQ
   refine wpAny_call_entry PySem.F.slot_str_translate rfl PySem.F.entry_str_translate ?_ (PySem.F.args_str_translate_2 _ _)
   cases hsp:a1f.contains c with
   | true=>
    rw [hsp] at hQ
    refine (f1 hsp).elim fun tk' htk=>?_
    exact a8H hm₂ htk hlt fun s' u k=>⟨_,rfl,hQ _ _ s' (.inl rfl) (a.kf k).kb (.str _ _ _ nofun)⟩
   | false=>
    rw [hsp] at hQ
    exact a7m S.aok.1 hd hm₂ (f2 hsp) hlt fun s' u k=>⟨_,rfl,hQ _ _ s' (.inl rfl) (a.kf k).kb (.str _ _ _ nofun)⟩
theorem c4d (hB:GlobsOK G)(hE:EscOK G){f p:Nat}(h:DefAt G f [p] [] [] (a5w G.nm p)){x y:Str}{g:Bool}(hx:b5A x=some y):c2y G (lvl+1) f [.str x g] none (.str y):=by
 obtain⟨nd,a,o,fd,body,K,hb,hbind⟩:=h
 exact a6K K (hbind [.str x g] none (.inl rfl) rfl) fun Γ oa s S=>c1k hB hE hb hx S
end
end
section
structure Ids where
 esc:Nat
 tr:Nat
 tr1:Nat
 join:Nat
 pat:Nat
 star:Nat
 parts:Nat
 escP:Nat
noncomputable def a9U (I:Ids):List PS:=[.asg I.parts false (.call I.tr1 (.cons (.var I.pat) (.cons (.var I.star) (.cons (.str ⟨#[46]⟩) .nil))) .no),.ret (.call I.join (.cons (.var I.parts) (.cons (.var I.star) .nil)) .no)]
noncomputable def a7L (nm:Nat→Str)(I:Ids)(sc:a0h)(body:List Stmt):Bool:=match body with
 | []=>false
 | s1 :: rest=>is1 s1&&isN nm I.star (tg s1)&&isG sc "object" 0 (vs s1).v&&a3j sc (nm I.star)&&mSs nm sc (a9U I) rest&&(I.pat != I.star)&&(I.star != I.parts)
noncomputable def b1h (args:List D)(kw:Option D):Option (Str×Bool):=match args with
 | [d]=>grd kw.isNone d.strG
 | _=>none
theorem a9V {args:List D}{kw:Option D}{x:Str×Bool}(h:b1h args kw=some x):args=[.str x.1 x.2]∧kw=none:=by
 cases args with
 | nil=>exact a0e h
 | cons d r=>
  cases r with
  | nil=>
   refine (a0P h).elim fun h1 h2=>?_
   exact⟨c7H (fun d=>[d]) (a3P h2),c8W.mp h1⟩
  | cons=>exact a0e h
noncomputable def Out.res:Out→Option D
 | .ret d=>some d
 | .next _=>some .none
 | _=>none
theorem c1l {o:Out}{d:D}(h:o.res=some d):o=.ret d∨∃ σ',o=.next σ'∧d=.none:=by
 cases o with
 | ret e=>exact .inl (c7H Out.ret (c7Q h))
 | next σ=>exact .inr ⟨σ,rfl,(c7Q h).symm⟩
 | _=>exact a0e h
noncomputable def b1i (df:Def)(args:List D):List D:=args++df.dflt.drop (args.length+df.dflt.length - df.params.length)
noncomputable def a4R (df:Def)(args:List D)(kw:Option D):Store:=(df.params.zip (b1i df args)++df.kwonly.map (fun x=>(x,kw.getD (.bool false)))).map fun p=>(p.1,Slot.val p.2)
noncomputable def runG (I:Ids)(tab:List Def)(fuel:Nat):Nat→Fns
 | 0=>fun _ _ _=>none
 | n+1=>fun f args kw=>
  bif f==I.esc then (b1h args kw).bind fun x=>(b5A x.1).map fun y=>.str y
  else bif f==I.tr then (b1h args kw).bind fun x=>(runG I tab fuel n I.tr1 [.str x.1 x.2,.star,.str ⟨#[46]⟩] none).bind fun d=>(runG I tab fuel n I.join [d,.star] none).bind fun r=>r.strG.map fun y=>.str y.1
  else (tab.find? (fun d=>d.f==f)).bind fun df=>grd (decide ((b1i df args).length=df.params.length)&&(kw.isNone||!df.kwonly.isEmpty)) ((a0C (runG I tab fuel n) fuel (a4R df args kw) df.body).bind Out.res)
structure ObjOK (G:GC):Prop where
 out:b9u G ("object":Str) (.type "object")
section
variable {G:GC}{F:Fns}{lvl fuel:Nat}{Γ:Ctx}{sc:a0h}{σ:Store}{oa:Nat→Addr}{s s':Shared}
theorem St.restar (S:St G Γ lvl sc σ oa s)(hσ:∀ x sl,σ.get x=some sl→∃ y g,sl=.val (.str y g))(a:Addr):St G (Γ.bar a Γ.bad) lvl sc σ oa s:=
 S.move a Γ.bad S.gst S.badT S.badL S.badC S.own S.ownInj S.alloc (fun _ _ _ _ e=>e) fun x sl hx=>⟨sl,hx,fun v sv=>by
  refine (hσ x sl hx).elim fun y Z1=>Z1.elim (fun g e=>?_)
  rw [e] at sv ⊢
  refine (Rep.view sv).elim fun t Z1=>Z1.elim (fun e q=>?_)
  exact e ▸ .str _ t _ q⟩
theorem c7d {x:Nat}{d:D}(h:σ.get x=some (.val d)):evE F σ (.var x)=some d∧strict σ (.var x)=true:=
 ⟨by show (σ.get x).bind _ = _;rw [h];rfl,by show ((σ.get x).bind _).isSome=true;rw [h];rfl⟩
theorem c5m {x:Nat}{d:D}{es:PEs}{l:List D}(h:σ.get x=some (.val d))(hl:a3i F σ es=some l):a3i F σ (.cons (.var x) es)=some (d :: l):=by
 show grd (strict σ (.var x)) ((evE F σ (.var x)).bind fun d=>(a3i F σ es).map fun l=>d :: l) = _
 rw [(c7d (F:=F) h).1,(c7d (F:=F) h).2,hl]
 rfl
theorem a7M {x:Nat}{d:D}(h:σ.get x=some (.val d)):(freezeAll σ).get x=some (.val d):=by
 have go:∀ l:Store,(l.lookup x).isSome=true→Store.get (l.filterMap fun p=>(σ.get p.1).bind fun s=>s.freeze.map fun s'=>(p.1,s')) x=some (.val d):=fun l hl=>by
  induction l with
  | nil=>exact absurd hl c7I
  | cons p r ih=>
   by_cases q:x=p.1
   ·rw [c9r (b:=(p.1,.val d)) (by rw [← q,h];rfl),a0R,c7L.mpr q]
    rfl
   ·have hl:((p :: r:Store).lookup x).isSome=true:=hl
    rw [show (p :: r:Store)=(p.1,p.2) :: r from rfl,c7J,c7N.mpr q] at hl
    cases e:(σ.get p.1).bind fun s=>s.freeze.map fun s'=>(p.1,s') with
    | none=>rw [List.filterMap_cons_none (f:=fun p:Nat×Slot=>(σ.get p.1).bind fun s=>s.freeze.map fun s'=>(p.1,s')) e];exact ih hl
    | some w=>
     obtain⟨s,_,e'⟩:=bnd e
     obtain⟨s',_,e'⟩:=mpd e'
     rw [c9r (f:=fun p:Nat×Slot=>(σ.get p.1).bind fun s=>s.freeze.map fun s'=>(p.1,s')) e,a0R,← e',c7N.mpr q]
     exact ih hl
 exact go σ (by rw [show σ.lookup x=some (.val d) from h];rfl)
theorem c6v {I:Ids}{x y:Str}{g g':Bool}{d:D}(h1:F I.tr1 [.str x g,.star,.str ⟨#[46]⟩] none=some d)(h2:F I.join [d,.star] none=some (.str y g'))(hp:σ.get I.pat=some (.val (.str x g)))(hs:σ.get I.star=some (.val .star))(hm:noMeth σ I.parts=true)(hn:I.star≠I.parts) :
  a0C F fuel σ (a9U I)=some (.ret (.str y g')):=by
 have a1:evE F σ (.call I.tr1 (.cons (.var I.pat) (.cons (.var I.star) (.cons (.str ⟨#[46]⟩) .nil))) .no)=some d:=by
  show (a3i F σ _).bind _ = _
  rw [c5m hp (c5m hs (rfl:a3i F σ (.cons (.str ⟨#[46]⟩) .nil)=some [.str ⟨#[46]⟩]))]
  exact h1
 have s1:evS F fuel σ (.asg I.parts false (.call I.tr1 (.cons (.var I.pat) (.cons (.var I.star) (.cons (.str ⟨#[46]⟩) .nil))) .no))=some (.next (σ.set I.parts (.val d))):=by
  show grd (noMeth σ I.parts) (grd true ((evE F σ _).map _)) = _
  rw [hm,a1]
  rfl
 have s2:evS F fuel (σ.set I.parts (.val d)) (.ret (.call I.join (.cons (.var I.parts) (.cons (.var I.star) .nil)) .no))=some (.ret (.str y g')):=by
  show grd true (((a3i F (freezeAll (σ.set I.parts (.val d))) _).bind _).map _) = _
  rw [c5m (a7M ((Store.get_set ..).trans (c7K rfl))) (c5m (a7M ((Store.get_set ..).trans ((c7M hn).trans hs))) rfl)]
  show Option.map _ (F I.join [d,.star] none) = _
  rw [h2]
  rfl
 show (evS F fuel σ _).bind _ = _
 rw [s1]
 show (evS F fuel _ _).bind _ = _
 rw [s2]
 rfl
theorem c4e (hF:FOK G F lvl)(hB:GlobsOK G)(hO:ObjOK G){I:Ids}{body:List Stmt}(h:a7L G.nm I sc body=true){x y:Str}{g g':Bool}{d:D}
  (h1:F I.tr1 [.str x g,.star,.str ⟨#[46]⟩] none=some d) (h2:F I.join [d,.star] none=some (.str y g')) (S:St G Γ lvl sc (a2F ([I.pat].zip [.str x g]) []) oa s):b5w G Γ s (.str y) (execs body Γ.env):=fun Q E hQ=>by
 cases body with
 | nil=>exact absurd h c7I
 | cons s1 rest=>
  refine a0b (show (is1 s1&&isN G.nm I.star (tg s1)&&isG sc "object" 0 (vs s1).v&&a3j sc (G.nm I.star)&&mSs G.nm sc (a9U I) rest&&(I.pat != I.star)&&(I.star != I.parts))=true from h) fun h k7=>?_
  refine a0b h (clear% h;fun h k6=>?_)
  refine a0b h (clear% h;fun h k5=>?_)
  refine a0b h (clear% h;fun h k4=>?_)
  refine a0b h (clear% h;fun h k3=>?_)
  refine (a7J (a0i h).1).elim fun p e1=>?_
  refine (a6v k3).elim fun C hl=>?_
  rw [es0 hl] at C
  obtain⟨⟨po,pc,e2⟩,g1,g2,_⟩:=C
  rw [a1r (a0i h).2,e2] at e1
  rw [e1]
  refine wpAny_execs_cons (wpAny_Assign_Name ?_ (a4P rfl))
  refine a2n S g1 hO.out g2 rfl (c9d (b1f ?_))
  have kf:Kf s { s with heap:=s.heap.push a8J }:=Kf.push (c7G _)
  have S₁:=(S.kf kf).restar (fun z sl hz=>by
   rw [show a2F ([I.pat].zip [D.str x g]) []=[(I.pat,.val (.str x g))] from rfl,a0R] at hz
   cases q:z==I.pat with
   | true=>rw [q] at hz;exact⟨_,_,(c7Q hz).symm⟩
   | false=>rw [q] at hz;exact a0e hz) s.heap.objs.size
  refine S₁.store (W:=fun _=>true) (d:=.star) (a1J k4) rfl (.star (fun q=>S.newNot q) (c8a _ rfl)) fun s₂ S₂ _ T₂=>?_
  have hev:a0C F 100 (Store.set (a2F ([I.pat].zip [.str x g]) []) I.star (.val .star)) (a9U I)=some (.ret (.str y g')):=
   c6v h1 h2 ((Store.get_set ..).trans ((c7M (bne_iff_ne.mp k6)).trans b1g)) ((Store.get_set ..).trans (c7K rfl)) (a1w rfl rfl) (bne_iff_ne.mp k7)
  refine c1f hF hB (a9U I) k5 (Γ.bar s.heap.objs.size Γ.bad) (fun _=>true) _ _ _ _ (fun _ _=>rfl) S₂ hev _ _ fun f s' O=>?_
  obtain⟨v,e,⟨σ',oa',T⟩,r⟩:=O
  refine hQ _ v s' (.inl e) ⟨fun b ob hbT q1 q2 eb=>?_,T.step.os.trans (T₂.os.trans kf.os),c7O kf.toks (c7O T₂.toks T.step.toks),fun i z ez=>T.step.gens i z (T₂.gens i z ((c7H (·[i]?) kf.gens).trans ez)),T.st.gst⟩ ?_
  ·exact T.step.heap b ob hbT (fun q=>q.elim q1 fun q=>q.elim (fun q=>q.elim q2) fun q=>q.elim fun z h=>a8F (a2l rfl h.1).2) (T₂.heap b ob hbT (fun q=>q.elim q1 fun q=>q.elim (fun q=>q.elim q2) fun q=>q.elim fun z h=>a8F h.1) (kf.heap _ _ eb))
  ·refine (r.view).elim fun t Z1=>Z1.elim (fun e _=>?_)
   exact e ▸ .str _ t _ nofun
theorem c6w (hF:FOK G F lvl)(hB:GlobsOK G)(hO:ObjOK G){I:Ids}(h:DefAt G I.tr [I.pat] [] [] (a7L G.nm I)){x y:Str}{g g':Bool}{d:D}
  (h1:F I.tr1 [.str x g,.star,.str ⟨#[46]⟩] none=some d) (h2:F I.join [d,.star] none=some (.str y g')):c2y G (lvl+1) I.tr [.str x g] none (.str y):=by
 obtain⟨nd,a,o,fd,body,K,hb,hbind⟩:=h
 exact a6K K (hbind [.str x g] none (.inl rfl) rfl) fun Γ oa s S=>c4e hF hB hO hb h1 h2 S
theorem c1m {I:Ids}{tab:List Def}(hB:GlobsOK G)(hE:EscOK G)(hO:ObjOK G)(he:DefAt G I.esc [I.escP] [] [] (a5w G.nm I.escP))(htr:DefAt G I.tr [I.pat] [] [] (a7L G.nm I))(ht:∀ df∈tab,a8G G df)(n:Nat):FOK G (runG I tab fuel n) n:=by
 induction n with
 | zero=>exact fun f args kw d h=>a0e h
 | succ n ih=>
  intro f args kw d h
  have h:(bif f==I.esc then (b1h args kw).bind fun x=>(b5A x.1).map fun y=>D.str y
   else bif f==I.tr then (b1h args kw).bind fun x=>(runG I tab fuel n I.tr1 [.str x.1 x.2,.star,.str ⟨#[46]⟩] none).bind fun d=>(runG I tab fuel n I.join [d,.star] none).bind fun r=>r.strG.map fun y=>D.str y.1
   else (tab.find? (fun d=>d.f==f)).bind fun df=>grd (decide ((b1i df args).length=df.params.length)&&(kw.isNone||!df.kwonly.isEmpty)) ((a0C (runG I tab fuel n) fuel (a4R df args kw) df.body).bind Out.res))=some d:=h
  cases b1:f==I.esc with
  | true=>
   rw [b1] at h
   refine a0j (show (b1h args kw).bind _=some d from h) fun x hx h=>?_
   refine a2v h (clear% h;fun y hy h=>?_)
   refine (a9V hx).elim fun ea ek=>?_
   rw [c8d b1,ea,ek,← h]
   exact c4d hB hE he hy
  | false=>
   rw [b1] at h
   cases b2:f==I.tr with
   | true=>
    rw [b2] at h
    refine a0j (show (b1h args kw).bind _=some d from h) fun x hx h=>?_
    refine a0j h (clear% h;fun d1 h1 h=>?_)
    refine a0j h (clear% h;fun r h2 h=>?_)
    refine a2v h (clear% h;fun y hy h=>?_)
    refine (a9V hx).elim fun ea ek=>?_
    rw [a3P hy] at h2
    rw [c8d b2,ea,ek,← h]
    exact c6w ih hB hO htr h1 h2
   | false=>
    rw [b2] at h
    refine a0j (show (tab.find? (fun d=>d.f==f)).bind _=some d from h) fun df hf h=>?_
    refine (a0P h).elim fun hc h=>?_
    refine a0j h (clear% h;fun o he ho=>?_)
    obtain⟨nd,a,ob,fd,body,K,hm,hbind⟩:=ht df (List.mem_of_find?_eq_some hf)
    have hl:=c7X (a0i hc).1
    have hff:(df.f==f)=true:=by have q:=List.find?_some hf;exact q
    rw [← c8d hff]
    refine b8g K (hbind args kw ((or2 (a0i hc).2).imp c8W.mp fun q e=>?_) hl) (c1f ih hB df.body hm) ((c7H (fun σ=>a0C _ fuel σ df.body) (b5x nd hl)).trans he) (c1l ho)
    rw [e] at q
    exact c7I q
end
end
section
noncomputable def b3q:Value→Option Addr
 | .ref a=>some a
 | _=>none
theorem a6O {v:Value}{a:Addr}(h:b3q v=some a):v=.ref a:=by
 cases v with
 | ref b=>exact c7H Value.ref (c7Q h)
 | _=>exact a0e h
noncomputable def b9D:Data→Option FuncData
 | .func fd=>some fd
 | _=>none
theorem b3r {d:Data}{fd:FuncData}(h:b9D d=some fd):d=.func fd:=by
 cases d with
 | func b=>exact c7H Data.func (c7Q h)
 | _=>exact a0e h
noncomputable def b2e:Data→Option (Array Value)
 | .fields vs=>some vs
 | _=>none
theorem a9W {d:Data}{vs:Array Value}(h:b2e d=some vs):d=.fields vs:=by
 cases d with
 | fields b=>exact c7H Data.fields (c7Q h)
 | _=>exact a0e h
noncomputable def b5C:Value→Option Str
 | .str x _=>some x
 | _=>none
theorem a7N {v:Value}{x:Str}(h:b5C v=some x):∃ t,v=.str x t:=by
 cases v with
 | str y t=>exact⟨t,c7H (Value.str · t) (c7Q h)⟩
 | _=>exact a0e h
noncomputable def b5D:FuncBody→Option (List Stmt)
 | .stmts b=>some b
 | _=>none
theorem b1j {d:FuncBody}{b:List Stmt}(h:b5D d=some b):d=.stmts b:=by
 cases d with
 | stmts b=>exact c7H FuncBody.stmts (c7Q h)
 | _=>exact a0e h
noncomputable def c2B (K:Frag)(a:Addr):Option FuncData:=(K.lookup a).bind fun o=>b9D o.data
noncomputable def b9E (K:Frag)(v:Value):Option Str:=(b3q v).bind fun c=>(K.lookup c).bind fun o=>(b2e o.data).bind fun vs=>vs[1]?.bind b5C
theorem b3s {K:Frag}{v:Value}{q:Str}{h:Heap}(X:K.In h)(e:b9E K v=some q):h.CodeRec v q:=by
 refine a0j e (clear% e;fun c h1 e=>?_)
 refine a0j e (clear% e;fun o h2 e=>?_)
 refine a0j e (clear% e;fun vs h3 e=>?_)
 refine a0j e (clear% e;fun w h4 e=>?_)
 refine (a7N e).elim fun t e=>?_
 exact⟨c,o,vs,t,a6O h1,X _ _ h2,a9W h3,h4.trans (c7H some e)⟩
noncomputable def c4f (K:Frag)(nm:Nat→Str)(lamC:Bool→Addr)(lamQ:Bool→Str)(ps:List Nat)(P:a0h→List Stmt→Bool)(fd:FuncData):Bool:=
 !fd.scope.isCoroutine&&!fd.scope.isGenerator&&(b5D fd.body).any (P fd.scope.names)&&b9E K fd.code==some fd.qualname&&fd.closure.isEmpty&&fd.globals==mainGlobals&&fd.builtins==builtinsNs&&fd.scope.kind==.function &&
 fd.scope.names.all (fun p=>fd.scope.names.lookup p.1==some p.2&&p.2 != .free)&&(a4A fd.scope.names).all (fun i=>b3q fd.code==some (lamC i)&&fd.qualname++".<locals>."==lamQ i) &&
 ps.all (fun x=>fd.scope.names.lookup (nm x)==some .local||fd.scope.names.lookup (nm x)==some .cell)
noncomputable def a9X (K:Frag)(nm:Nat→Str)(lamC:Bool→Addr)(lamQ:Bool→Str)(f:Nat)(a:Addr)(params kwonly:List Nat)(P:a0h→List Stmt→Bool):Bool:=
 ((nsIn K mainGlobals (nm f)).bind fun o=>o.bind b3q)==some a&&(c2B K a).any (c4f K nm lamC lamQ (params++kwonly) P)&&decide (params++kwonly).Nodup
theorem a6P {α:Type}{o:Option α}{p:α→Bool}(h:o.any p=true):∃ x,o=some x∧p x=true:=by
 cases o with
 | none=>exact absurd h c7I
 | some x=>exact⟨x,rfl,h⟩
theorem c6x {G:GC}{K:Frag}(X:K.In G.g){f:Nat}{a:Addr}{ps:List Nat}{P:a0h→List Stmt→Bool}(h1:((nsIn K mainGlobals (G.nm f)).bind fun o=>o.bind b3q)=some a){fd:FuncData}(hfd:c2B K a=some fd)(h:c4f K G.nm G.lamC G.lamQ ps P fd=true) :
  ∃ o body,FdOK G f a o fd body ps∧P fd.scope.names body=true:=by
 refine a0j h1 (clear% h1;fun ov hns h1=>?_)
 refine a0j h1 (clear% h1;fun v hv h1=>?_)
 rw [hv,a6O h1] at hns
 refine a0j hfd (clear% hfd;fun o ho hd=>?_)
 refine a0b h (clear% h;fun h c11=>?_)
 refine a0b h (clear% h;fun h c10=>?_)
 refine a0b h (clear% h;fun h c9=>?_)
 refine a0b h (clear% h;fun h c8=>?_)
 refine a0b h (clear% h;fun h c7=>?_)
 refine a0b h (clear% h;fun h c6=>?_)
 refine a0b h (clear% h;fun h c5=>?_)
 refine a0b h (clear% h;fun h c4=>?_)
 refine a0b h (clear% h;fun h c3=>?_)
 refine a0b h (clear% h;fun c1 c2=>?_)
 refine (a6P c3).elim fun body Z1=>Z1.elim (fun hb hP=>?_)
 refine⟨o,body,⟨mg_of X G.gns hns,X _ _ ho,b3r hd,a2w c1,a2w c2,b1j hb,b3s X (c8d c4),c8V.mp c5,c8d c6,c8d c7,⟨c8d c8,fun p hp=>c8d (a0i (c8k.mp c9 p hp)).1,fun p hp=>bne_iff_ne.mp (a0i (c8k.mp c9 p hp)).2,fun i hl=>?_⟩,fun x hx=>(or2 (c8k.mp c11 x hx)).imp c8d c8d⟩,hP⟩
 rw [hl] at c10
 refine a0b (show (b3q fd.code==some (G.lamC i)&&fd.qualname++".<locals>."==G.lamQ i)=true from c10) fun d1 d2=>?_
 exact⟨a6O (c8d d1),c8d d2⟩
noncomputable def c1n (K:Frag)(G:GC)(fd:FuncData)(params kwonly:List Nat)(dflt:List D):Prop:=
 ∀ (args:List D) (kw:Option D) (B:Addr→Prop) (st:Addr) (s:Shared) (vs:List Value) (kws:List (Str×Value)),K.In s.heap→(kw=none∨kwonly≠[])→(args++dflt.drop (args.length+dflt.length - params.length)).length=params.length →
  RepL ⟨G.prog,G.w,st⟩ B s.heap s.toks vs args→b7r ⟨G.prog,G.w,st⟩ B s.heap s.toks kws kw →
  ∃ vs',(∀ S,peek K S (bindArgs fd ⟨vs,kws⟩)=some (((params++kwonly).map G.nm).zip vs'))∧(params++kwonly).length=vs'.length ∧
   RepL ⟨G.prog,G.w,st⟩ B s.heap s.toks vs' (args++dflt.drop (args.length+dflt.length - params.length)++kwonly.map fun _=>kw.getD (.bool false))
theorem a8K {G:GC}{K:Frag}(X:K.In G.g){f:Nat}{a:Addr}{params kwonly:List Nat}{dflt:List D}{P:a0h→List Stmt→Bool}(hc:a9X K G.nm G.lamC G.lamQ f a params kwonly P=true)
  (hb:∀ fd,c2B K a=some fd→c1n K G fd params kwonly dflt):DefAt G f params kwonly dflt P:=by
 refine a0b hc (clear% hc;fun hc h3=>?_)
 refine a0b hc (clear% hc;fun h1 h2=>?_)
 refine (a6P h2).elim fun fd Z1=>Z1.elim (fun hfd h2=>?_)
 obtain⟨o,body,F,hP⟩:=c6x X (c8d h1) hfd h2
 refine⟨c7X h3,a,o,fd,body,F,hP,fun args kw hkw hlen B st s vs kws g R KW=>?_⟩
 have Xs:K.In s.heap:=X.keeps g.base
 obtain⟨vs',e1,e2,e3⟩:=hb fd hfd args kw B st s vs kws Xs hkw hlen R KW
 exact⟨vs',kp_binds Xs e1,e2,e3⟩
theorem a4p {G:GC}{K:Frag}(X:K.In G.g){f:Nat}{a:Addr}{params:List Nat}{P:a0h→List Stmt→Bool}(hc:a9X K G.nm G.lamC G.lamQ f a params [] P=true)
  (hb:∀ vs:List Value,vs.length=params.length→∀ S,(c2B K a).bind (fun fd=>peek K S (bindArgs fd ⟨vs,[]⟩))=some ((params.map G.nm).zip vs)):DefAt G f params [] [] P:=by
 refine a8K X hc fun fd hfd args kw B st s vs kws Xs hkw hlen R KW=>?_
 rw [hkw.resolve_right fun h=>h rfl] at KW ⊢
 rw [List.drop_nil,c8T] at hlen ⊢
 have hl:vs.length=params.length:=R.length.trans hlen
 rw [show kws=[] from KW,c8T]
 exact⟨vs,fun S=>(show peek K S (bindArgs fd ⟨vs,[]⟩) = _ from by have:=hb vs hl S;rw [hfd] at this;exact this),hl.symm,(c8T args).symm ▸ R⟩
end
section
theorem LamTab.mono {h h':Heap}{q:Str}{l:List Value}(x:LamTab h q l)(k:∀ c r,CodeAt h c r→CodeAt h' c r):LamTab h' q l:=by
 induction x with
 | nil=>exact .nil
 | cons line col t u c' r hc _ ih=>exact .cons line col t u c' r (k _ _ hc) ih
theorem LamTab.snoc {h:Heap}{q:Str}{l:List Value}(x:LamTab h q l)(a b:Int){c:Addr}(hc:CodeAt h c (q++a7q b)):LamTab h q (l++[rawInt a,rawInt b,.ref c]):=by
 induction x with
 | nil=>exact .cons a b _ _ c [] hc .nil
 | cons line col t u c' r hc' _ ih=>exact .cons line col t u c' _ hc' ih
theorem CodeAt.mono {h h':Heap}{c:Addr}{q:Str}(x:CodeAt h c q)(k:∀ o vs,o.data=.fields vs→o.cls=.type "code"→h.get? c=some o→h'.get? c=some o):CodeAt h' c q:=by
 obtain⟨o,vs,t,g1,g2,g3,g4⟩:=x
 exact⟨o,vs,t,k o vs g3 g2 g1,g2,g3,g4⟩
theorem a4q {h h':Heap}{c p:Addr}(x:CodeHd h c p)(k:∀ o vs,o.data=.fields vs→o.cls=.type "code"→h.get? c=some o→h'.get? c=some o):CodeHd h' c p:=by
 obtain⟨o,vs,a1,a2,a3,a4,a5,a6,a7,e1,e2,e3,r⟩:=x
 exact⟨o,vs,a1,a2,a3,a4,a5,a6,a7,k o vs e3 e2 e1,e2,e3,r⟩
noncomputable def b8k (C P:Bool→Addr)(Q:Bool→Str)(h:Heap):Prop:=∀ i,CodeHd h (C i) (P i)∧∃ ps,h.get? (P i)=some (tabObj ps)∧LamTab h (Q i) ps.toList
noncomputable def c7A (prog:Program)(w:World)(g:Heap)(mg mb:Str→Option Value)(nm:Nat→Str)(nmInj:∀ i j,nm i=nm j→i=j)(C P:Bool→Addr)(Q:Bool→Str)(hPQ:∀ i j,P i=P j→Q i=Q j)
  (gns:g.Ns mainGlobals mg) (bns:g.Ns builtinsNs mb) (lim:g.NoLimit) (bm:∀ i,g.BuiltinsAt mg (P i)) (nw:∀ i,g.get? (P i)=none):GC where
 prog:=prog
 w:=w
 g:=g
 T:=[P false,P true]
 tabOk:=b8k C P Q
 tabGet:=fun h H t ht=>by
  rcases c8o.mp ht with rfl | ht
  ·obtain⟨_,ps,h2,_⟩:=H false;exact⟨_,h2⟩
  ·rw [c8C] at ht;subst ht;obtain⟨_,ps,h2,_⟩:=H true;exact⟨_,h2⟩
 mono:=fun h h' k H i=>by
  obtain⟨hd,ps,h2,l⟩:=H i
  exact⟨a4q hd fun o vs d c=>k _ o vs d (.inr c),ps,k _ _ _ rfl (.inl rfl) h2,l.mono fun c q x=>x.mono fun o vs d c=>k _ o vs d (.inr c)⟩
 tabNew:=fun t ht=>by
  rcases c8o.mp ht with rfl | ht
  ·exact nw _
  ·rw [c8C] at ht;subst ht;exact nw _
 nm:=nm
 nmInj:=nmInj
 mg:=mg
 mb:=mb
 gns:=gns
 bns:=bns
 lim:=lim
 lamC:=C
 lamP:=P
 lamQ:=Q
 lamIn:=fun i=>by cases i <;> simp
 lamAt:=fun i h H=>H i
 lamPut:=fun i h h' ps c' pos H hP hx hP' hc j=>by
  have old:∀ {c:Addr} (o:Obj) (vs:Array Value),o.data=.fields vs→o.cls=.type "code"→h.get? c=some o→h'.get? c=some o:=fun {c} o _ _ ho e=>hx _ _ (fun q=>by rw [q,hP] at e;rw [← c7Q e] at ho;cases ho) e
  obtain⟨hd,ps',h2,l⟩:=H j
  refine⟨a4q hd old,?_⟩
  have l':LamTab h' (Q j) ps'.toList:=l.mono fun c q x=>x.mono old
  by_cases q:P j=P i
  ·rw [q,hP] at h2
   cases h2
   rw [q]
   refine⟨_,hP',?_⟩
   rw [Array.toList_append]
   exact l'.snoc _ _ (hPQ _ _ q ▸ hc)
  ·exact⟨ps',hx _ _ q h2,l'⟩
 bmain:=bm
section
variable {G:GC}{lvl:Nat}{s:Shared}
theorem b5E {sx x:Nat}{d:D}{sl:Slot}(h:Store.get [(sx,.val d)] x=some sl):x=sx∧sl=.val d:=by
 rw [a0R] at h
 cases q:x==sx with
 | true=>rw [q] at h;exact⟨c8d q,(c7Q h).symm⟩
 | false=>rw [q] at h;exact a0e h
theorem a8L {sx x:Nat}{d:D}{P:Prop}(h:Store.isOwn [(sx,.val d)] x=true):P:=by
 refine (a2K h).elim fun sl Z1=>Z1.elim (fun h1 h2=>?_)
 rw [(b5E h1).2] at h2
 exact absurd h2 c7I
theorem b5F {L fa:Addr}{cd:Value}{name:Str}{scope:Scope}{m:Str→Option Value}{sx:Nat}{v:Value}{d:D}{A:Around}(g:GSt G s)(F:Fr G.g L s.heap m)(hkind:scope.kind=.function)
  (hcell:∀ x,scope.names.lookup x≠some .cell∧scope.names.lookup x≠some .free) (hlam:a4A scope.names=none) (hx:scope.names.lookup (G.nm sx)=some .local) (hm:m (G.nm sx)=some v) (hA:AOk lvl A)
  (R:Rep ⟨G.prog,G.w,0⟩ (fun b=>b∈G.T∨b=L) s.heap s.toks v d) :
  St G ⟨A,envOf name scope L fa cd,0,fun b=>b∈G.T∨b=L⟩ lvl scope.names [(sx,.val d)] (fun _=>0) s where
 aok:=hA
 kind:=hkind
 names:=rfl
 code:=fun i q=>a0e (hlam.symm.trans q)
 globals:=rfl
 builtins:=rfl
 newL:=Heap.get?_none_of_le F.above
 newC:=fun x c hc=>a0e hc
 cellInj:=fun x y c hc=>a0e hc
 gst:=g
 badT:=fun t ht=>.inl ht
 badL:=.inr rfl
 badC:=fun x c hc=>a0e hc
 own:=fun x hx=>a8L hx
 ownInj:=fun x y hx=>a8L hx
 alloc:=fun a ha=>ha.elim (fun ha=>ha.elim (fun ha=>(G.tabGet _ g.tab a ha).elim fun ps e=>⟨_,e⟩) fun q=>(a6o F.ns).elim fun o e=>⟨o,q ▸ e.1⟩) fun h=>h.elim fun x h=>a8L h.1
 cellAt:=fun x hx=>hx.elim (fun h=>absurd h (hcell x).1) fun h=>absurd h (hcell x).2
 slots:=⟨m,F.ns,fun x sl hx'=>by
  refine (b5E hx').elim fun e1 e2=>?_
  rw [e1,e2]
  exact⟨v,.loc hx hm,R.weaken fun b hb=>hb.elim id fun h=>h.elim fun y h=>a8L h.1⟩⟩
end
end
section
noncomputable def nmL (tab:List (List Nat))(i:Nat):List Nat:=(tab[i]?).getD [1114112+i]
noncomputable def c6y (tab:List (List Nat))(i:Nat):Str:=⟨⟨nmL tab i⟩⟩
theorem c1o {tab:List (List Nat)}(h1:tab.Nodup)(h2:tab.all (fun l=>l.all (·<1114112))=true){i j:Nat}(h:nmL tab i=nmL tab j):i=j:=by
 have no:∀ {i j:Nat} {l:List Nat},tab[i]?=some l→l≠[1114112+j]:=fun {i j l} e q=>by
  have p:=c8k.mp h2 l (c8Z e)
  rw [q] at p
  exact absurd (c7X (a0i (a:=decide (1114112+j<1114112)) p).1) (Nat.not_lt.mpr (c8p _ _))
 unfold nmL at h
 cases e1:tab[i]? with
 | none=>
  cases e2:tab[j]? with
  | none=>rw [e1,e2] at h;exact Nat.add_left_cancel (List.head_eq_of_cons_eq h)
  | some l=>rw [e1,e2] at h;exact absurd h.symm (no e2)
 | some l=>
  cases e2:tab[j]? with
  | none=>rw [e1,e2] at h;exact absurd h (no e1)
  | some l'=>
   rw [e1,e2] at h
   have h:l=l':=h
   exact (List.getElem?_inj (c8D.mp e1).1 h1).mp (e1.trans (h ▸ e2.symm))
theorem b8l {tab:List (List Nat)}(h1:tab.Nodup)(h2:tab.all (fun l=>l.all (·<1114112))=true)(i j:Nat)(h:c6y tab i=c6y tab j):i=j:=c1o h1 h2 (c7H (fun s=>s.cps.toList) h)
theorem c1p {G:GC}{I:Ids}{tab:List Def}{fuel n:Nat}(hB:GlobsOK G)(hE:EscOK G)(hO:ObjOK G)(he:DefAt G I.esc [I.escP] [] [] (a5w G.nm I.escP))(htr:DefAt G I.tr [I.pat] [] [] (a7L G.nm I))(ht:∀ df∈tab,a8G G df)
  {x:Nat} {body:List Stmt} {ps:List PS} {scope:Scope} (hm:mSs G.nm scope.names ps body=true)
  {L fa:Addr} {cd:Value} {name:Str} {m:Str→Option Value} {s:Shared} {v:Value} {d r:D} {A:Around} (g:GSt G s) (F:Fr G.g L s.heap m) (hkind:scope.kind=.function)
  (hcell:∀ y,scope.names.lookup y≠some .cell∧scope.names.lookup y≠some .free) (hlam:a4A scope.names=none) (hx:scope.names.lookup (G.nm x)=some .local) (hmx:m (G.nm x)=some v) (hA:AOk n A)
  (R:Rep ⟨G.prog,G.w,0⟩ (fun b=>b∈G.T∨b=L) s.heap s.toks v d) (hev:a0C (runG I tab fuel n) fuel [(x,.val d)] ps=some (.ret r))
  {Q:Flow→Shared→Prop} {E:Value→Shared→Prop} (hQ:∀ v s' m',Rep ⟨G.prog,G.w,0⟩ (fun b=>b∈G.T∨b=L) s'.heap s'.toks v r→Fr G.g L s'.heap m'→s'.os=s.os→GSt G s'→Q (.ret v) s') :
  wpAny (model G.prog G.w) A (execs body (envOf name scope L fa cd)) Q E s:=by
 have S:=b5F (fa:=fa) (cd:=cd) (name:=name) g F hkind hcell hlam hx hmx hA R
 refine c1f (c1m hB hE hO he htr ht n) hB ps hm ⟨A,envOf name scope L fa cd,0,fun b=>b∈G.T∨b=L⟩ (fun _=>true) _ _ _ _ (fun _ _=>rfl) S hev _ _ fun f s' O=>?_
 obtain⟨v',e,⟨σ',oa',T⟩,R'⟩:=O
 refine (T.st.slots).elim fun m' Z1=>Z1.elim (fun hns _=>?_)
 exact e ▸ hQ _ _ m' R' ⟨hns,T.st.gst.base,F.above⟩ T.step.os T.st.gst
end
section
noncomputable def c6z:List (List Nat):=[[115],[116],[100,97,116,97],[120],[99],[97,115,99,105,105,95,100,97,116,97],[95,97,115,99,105,105,95,98,117,102,102,101,114],[115,116,114,105,99,116,95,109,111,100,101],[95,116,114,117,116,104],[111,117,116],[113,117,97,100,95,112,111,115],[108,101,102,116,99,104,97,114],[112,97,100,115],[105],[116,104,105,115,95,99,104],[95,98,54,52,95,118,97,108,117,101],[95,98,121,116,101,115,95,102,114,111,109,95,100,101,99,111,100,101,95,100,97,116,97],[97,108,116,99,104,97,114,115],[118,97,108,105,100,97,116,101],[97,50,98,95,98,97,115,101,54,52],[114,101,115],[97,100,100],[110],[112,97,116],[83,84,65,82],[81,85,69,83,84,73,79,78,95,77,65,82,75],[101,115,99,97,112,101],[105,110,112],[102,105,120,101,100],[116,101,120,116],[99,101,108,108,115],[107],[115,99,114,105,112,116],[114,101,97,100,101,114,115],[99,101,108,108],[115,105,103,110,115],[108,101,102,116],[114,101,115,116],[115,105,122,101],[115,105,103,110],[114,101,97,100,101,114],[115,101,101,110],[95,108,97,119,95,108,101,116,116,101,114,115],[108,111,111,115,101],[111,110,101],[116,119,111],[115,111,109,101],[116,101,120,116,115],[112,108,97,99,101],[119,97,121],[95,101,115,99,97,112,101,95,99,100,97,116,97],[95,101,115,99,97,112,101,95,99,100,97,116,97,95,99,49,52,110],[95,101,115,99,97,112,101,95,97,116,116,114,105,98],[95,101,115,99,97,112,101,95,97,116,116,114,105,98,95,99,49,52,110],[95,101,115,99,97,112,101,95,97,116,116,114,105,98,95,104,116,109,108],[116,111,108,100],[108,101,116,116,101,114,115],[102,105,108,108],[111,99,116,101,116,115],[98,54,52,100,101,99,111,100,101],[95,108,97,119,95,119,114,105,116,116,101,110],[108,97,115,116],[114,111,119,115],[102,105,114,115,116,115],[106],[116,117,114,110,101,100],[102,117,108,108],[101,120,112,114,101,115,115,105,111,110],[116,114,97,110,115,108,97,116,101],[112,105,101,99,101,115],[111,116,104,101,114,115],[97,104,101,97,100],[112,111,119,101,114,115],[112,111,119,101,114],[104,97,108,102],[109,111,114,101],[108,101,115,115],[119,111,114,116,104],[116,97,98,108,101],[112,108,97,99,101,115],[116,111,112],[114,111,119],[112,97,114,116,101,100],[116,104,105,110,103],[116,104,105,110,103,115],[103,114,111,119,110],[115,101,116,115],[99,111,117,110,116],[102,101,119,101,114],[119,97,121,115],[112,114,111,100,117,99,116],[95,108,97,119,95,112,97,114,116,101,100],[105,110,110,101,114],[95,108,97,119,95,99,111,117,110,116],[111,117,116,101,114],[95,108,97,119,95,100,114,97,119,110],[95,108,97,119,95,116,101,120,116,115],[95,108,97,119,95,116,111,108,100],[95,108,97,119,95,114,111,119,115],[102,111,117,110,100],[95,108,97,119,95,116,117,114,110,101,100],[95,108,97,119,95,116,97,98,108,101,115],[95,108,97,119,95,119,111,114,116,104],[95,108,97,119,95,112,114,111,100,117,99,116],[95,108,97,119,95,108,111,111,115,101],[95,116,114,97,110,115,108,97,116,101],[95,106,111,105,110,95,116,114,97,110,115,108,97,116,101,100,95,112,97,114,116,115],[112,97,114,116,115],[112,97,116,116,101,114,110],[108,97,119]]
noncomputable def a1x:List PS:=[(.ifs (.isStr (.var 0)) [(.try [(.ret (.encode (.var 0)))])] []),.fail]
noncomputable def a7p:List PS:=[(.asg 1 false (.typeOf (.var 2))),(.ifs (.cmp .Is (.var 1) (.typ "str")) [(.ifs (.not (.isascii (.var 2) )) [.fail] []),(.ret (.encode (.var 2)))] []),(.ifs (.cmp .Is (.var 1) (.typ "bytes")) [(.ret (.var 2))] []),.fail]
noncomputable def c1q:List PS:=[(.asg 1 false (.typeOf (.var 3))),(.ifs (.or (.cons (.cmp .Is (.var 3) .none) (.cons (.cmp .Is (.var 1) (.typ "bool")) (.cons (.cmp .Is (.var 1) (.typ "int")) (.cons (.cmp .Is (.var 1) (.typ "float")) (.cons (.cmp .Is (.var 1) (.typ "complex")) (.cons (.cmp .Is (.var 1) (.typ "str")) (.cons (.cmp .Is (.var 1) (.typ "bytes")) (.cons (.cmp .Is (.var 1) (.typ "bytearray")) (.cons (.cmp .Is (.var 1) (.typ "list")) (.cons (.cmp .Is (.var 1) (.typ "tuple")) (.cons (.cmp .Is (.var 1) (.typ "dict")) (.cons (.cmp .Is (.var 1) (.typ "set")) (.cons (.cmp .Is (.var 1) (.typ "frozenset")) (.cons (.cmp .Is (.var 1) (.typ "range")) .nil))))))))))))))) [(.ret (.ite (.var 3) (.bool true) (.bool false)))] []),.fail]
noncomputable def b1k:List PS:=[(.ifs (.cmp2 (.int 65) .LtE (.var 4) .LtE (.int 90)) [(.ret (.bin .Sub (.var 4) (.int 65)))] []),(.ifs (.cmp2 (.int 97) .LtE (.var 4) .LtE (.int 122)) [(.ret (.bin .Sub (.var 4) (.int 71)))] []),(.ifs (.cmp2 (.int 48) .LtE (.var 4) .LtE (.int 57)) [(.ret (.bin .Add (.var 4) (.int 4)))] []),(.ifs (.cmp .Eq (.var 4) (.int 43)) [(.ret (.int 62))] []),(.ifs (.cmp .Eq (.var 4) (.int 47)) [(.ret (.int 63))] []),(.ret (.int 64))]
noncomputable def a1R:List PS:=[(.asg 5 false (.call 6 (.cons (.var 2) .nil) .no)),(.asg 7 false (.call 8 (.cons (.var 7) .nil) .no)),(.asg 9 true (.list .nil)),(.asg 10 false (.int 0)),(.asg 11 false (.int 0)),(.asg 12 false (.int 0)),(.asg 13 false (.int 0)),(.for (.one 14) (.var 5) [(.ifs (.cmp .Eq (.var 14) (.int 61)) [(.asg 12 false (.bin .Add (.var 12) (.int 1))),(.ifs (.and (.cons (.cmp .GtE (.var 10) (.int 2)) (.cons (.cmp .LtE (.bin .Add (.var 10) (.var 12)) (.int 4)) .nil))) [(.asg 13 false (.bin .Add (.var 13) (.int 1))),.cont] []),(.ifs (.not (.var 7)) [(.asg 13 false (.bin .Add (.var 13) (.int 1))),.cont] []),(.ifs (.cmp .Eq (.var 10) (.int 1)) [.brk] []),(.ifs (.and (.cons (.cmp .Eq (.var 10) (.int 0)) (.cons (.cmp .Eq (.var 13) (.int 0)) .nil))) [.fail] []),.fail] []),(.asg 14 false (.call 15 (.cons (.var 14) .nil) .no)),(.ifs (.cmp .GtE (.var 14) (.int 64)) [(.ifs (.var 7) [.fail] []),(.asg 13 false (.bin .Add (.var 13) (.int 1))),.cont] []),(.ifs (.and (.cons (.var 12) (.cons (.var 7) .nil))) [(.ifs (.cmp .Eq (.bin .Add (.var 10) (.var 12)) (.int 4)) [.fail] []),.fail] []),(.asg 12 false (.int 0)),(.ifs (.cmp .Eq (.var 10) (.int 0)) [(.asg 10 false (.int 1)),(.asg 11 false (.var 14))] [(.ifs (.cmp .Eq (.var 10) (.int 1)) [(.asg 10 false (.int 2)),(.app 9 (.bin .BitOr (.bin .LShift (.var 11) (.int 2)) (.bin .RShift (.var 14) (.int 4)))),(.asg 11 false (.bin .BitAnd (.var 14) (.int 15)))] [(.ifs (.cmp .Eq (.var 10) (.int 2)) [(.asg 10 false (.int 3)),(.app 9 (.bin .BitOr (.bin .LShift (.var 11) (.int 4)) (.bin .RShift (.var 14) (.int 2)))),(.asg 11 false (.bin .BitAnd (.var 14) (.int 3)))] [(.asg 10 false (.int 0)),(.app 9 (.bin .BitOr (.bin .LShift (.var 11) (.int 6)) (.var 14))),(.asg 11 false (.int 0))])])]),(.asg 13 false (.bin .Add (.var 13) (.int 1)))]),(.ifs (.cmp .Eq (.var 10) (.int 1)) [.fail] []),(.ifs (.and (.cons (.cmp .NotEq (.var 10) (.int 0)) (.cons (.cmp .Lt (.bin .Add (.var 10) (.var 12)) (.int 4)) .nil))) [.fail] []),(.ret (.bytesOf (.var 9)))]
noncomputable def a2p:List PS:=[(.asg 0 false (.call 16 (.cons (.var 0) .nil) .no)),(.ifs (.cmp .IsNot (.var 17) .none) [(.asg 17 false (.call 16 (.cons (.var 17) .nil) .no)),(.assert (.cmp .Eq (.len (.var 17)) (.int 2))),(.asg 0 false (.btranslate (.var 0) (.var 17) (.bytes [43,47])))] []),(.ret (.call 19 (.cons (.var 0) .nil) (.yes (.var 18))))]
noncomputable def b1l:List PS:=[(.asg 20 true (.list .nil)),.getm 21 20,(.asgT [13,22] (.tup (.cons (.int 0) (.cons (.len (.var 23)) .nil)))),(.while (.cmp .Lt (.var 13) (.var 22)) [(.asg 4 false (.idx (.var 23) (.var 13))),(.asg 13 false (.bin .Add (.var 13) (.int 1))),(.ifs (.cmp .Eq (.var 4) (.str ⟨#[42]⟩)) [(.ifs (.or (.cons (.not (.var 20)) (.cons (.cmp .IsNot (.idx (.var 20) (.neg (.int 1))) (.var 24)) .nil))) [(.appV 21 (.var 24))] [])] [(.ifs (.cmp .Eq (.var 4) (.str ⟨#[63]⟩)) [(.appV 21 (.var 25))] [(.ifs (.cmp .Eq (.var 4) (.str ⟨#[91]⟩)) [.fail] [(.appV 21 (.call 26 (.cons (.var 4) .nil) .no))])])])]),(.assert (.cmp .Eq (.var 13) (.var 22))),(.ret (.var 20))]
noncomputable def a3a:List PS:=[(.asg 20 true (.list .nil)),.getm 21 20,(.asgT [13,22] (.tup (.cons (.int 0) (.cons (.len (.var 27)) .nil)))),(.while (.and (.cons (.cmp .Lt (.var 13) (.var 22)) (.cons (.cmp .IsNot (.idx (.var 27) (.var 13)) (.var 24)) .nil))) [(.appV 21 (.idx (.var 27) (.var 13))),(.aug 13 .Add (.int 1))]),(.while (.cmp .Lt (.var 13) (.var 22)) [(.assert (.cmp .Is (.idx (.var 27) (.var 13)) (.var 24))),(.aug 13 .Add (.int 1)),(.ifs (.cmp .Eq (.var 13) (.var 22)) [(.appV 21 (.str ⟨#[46,42]⟩)),.brk] []),(.assert (.cmp .IsNot (.idx (.var 27) (.var 13)) (.var 24))),(.asg 28 true (.list .nil)),(.while (.and (.cons (.cmp .Lt (.var 13) (.var 22)) (.cons (.cmp .IsNot (.idx (.var 27) (.var 13)) (.var 24)) .nil))) [(.app 28 (.idx (.var 27) (.var 13))),(.aug 13 .Add (.int 1))]),(.asg 28 false (.join (.str ⟨#[]⟩) (.var 28))),(.ifs (.cmp .Eq (.var 13) (.var 22)) [(.appV 21 (.str ⟨#[46,42]⟩)),(.appV 21 (.var 28))] [(.appV 21 (.fstr (.cons (.str ⟨#[40,63,62,46,42,63]⟩) (.cons (.var 28) (.cons (.str ⟨#[41]⟩) .nil)))))])]),(.assert (.cmp .Eq (.var 13) (.var 22))),.drop [21],(.asg 20 false (.join (.str ⟨#[]⟩) (.var 20))),(.ret (.fstr (.cons (.str ⟨#[40,63,115,58]⟩) (.cons (.var 20) (.cons (.str ⟨#[41,92,90]⟩) .nil)))))]
noncomputable def a4g:List PS:=[(.try [(.ifs (.cmp .In (.str ⟨#[38]⟩) (.var 29)) [(.asg 29 false (.replace (.var 29) (.str ⟨#[38]⟩) (.str ⟨#[38,97,109,112,59]⟩)))] []),(.ifs (.cmp .In (.str ⟨#[60]⟩) (.var 29)) [(.asg 29 false (.replace (.var 29) (.str ⟨#[60]⟩) (.str ⟨#[38,108,116,59]⟩)))] []),(.ifs (.cmp .In (.str ⟨#[62]⟩) (.var 29)) [(.asg 29 false (.replace (.var 29) (.str ⟨#[62]⟩) (.str ⟨#[38,103,116,59]⟩)))] []),(.ret (.var 29))])]
noncomputable def a3H:List PS:=[(.try [(.ifs (.cmp .In (.str ⟨#[38]⟩) (.var 29)) [(.asg 29 false (.replace (.var 29) (.str ⟨#[38]⟩) (.str ⟨#[38,97,109,112,59]⟩)))] []),(.ifs (.cmp .In (.str ⟨#[60]⟩) (.var 29)) [(.asg 29 false (.replace (.var 29) (.str ⟨#[60]⟩) (.str ⟨#[38,108,116,59]⟩)))] []),(.ifs (.cmp .In (.str ⟨#[62]⟩) (.var 29)) [(.asg 29 false (.replace (.var 29) (.str ⟨#[62]⟩) (.str ⟨#[38,103,116,59]⟩)))] []),(.ifs (.cmp .In (.str ⟨#[34]⟩) (.var 29)) [(.asg 29 false (.replace (.var 29) (.str ⟨#[34]⟩) (.str ⟨#[38,113,117,111,116,59]⟩)))] []),(.ifs (.cmp .In (.str ⟨#[13]⟩) (.var 29)) [(.asg 29 false (.replace (.var 29) (.str ⟨#[13]⟩) (.str ⟨#[38,35,49,51,59]⟩)))] []),(.ifs (.cmp .In (.str ⟨#[10]⟩) (.var 29)) [(.asg 29 false (.replace (.var 29) (.str ⟨#[10]⟩) (.str ⟨#[38,35,49,48,59]⟩)))] []),(.ifs (.cmp .In (.str ⟨#[9]⟩) (.var 29)) [(.asg 29 false (.replace (.var 29) (.str ⟨#[9]⟩) (.str ⟨#[38,35,48,57,59]⟩)))] []),(.ret (.var 29))])]
noncomputable def a2e:List PS:=[(.try [(.ifs (.cmp .In (.str ⟨#[38]⟩) (.var 29)) [(.asg 29 false (.replace (.var 29) (.str ⟨#[38]⟩) (.str ⟨#[38,97,109,112,59]⟩)))] []),(.ifs (.cmp .In (.str ⟨#[62]⟩) (.var 29)) [(.asg 29 false (.replace (.var 29) (.str ⟨#[62]⟩) (.str ⟨#[38,103,116,59]⟩)))] []),(.ifs (.cmp .In (.str ⟨#[34]⟩) (.var 29)) [(.asg 29 false (.replace (.var 29) (.str ⟨#[34]⟩) (.str ⟨#[38,113,117,111,116,59]⟩)))] []),(.ret (.var 29))])]
noncomputable def a2q:List PS:=[(.try [(.ifs (.cmp .In (.str ⟨#[38]⟩) (.var 29)) [(.asg 29 false (.replace (.var 29) (.str ⟨#[38]⟩) (.str ⟨#[38,97,109,112,59]⟩)))] []),(.ifs (.cmp .In (.str ⟨#[60]⟩) (.var 29)) [(.asg 29 false (.replace (.var 29) (.str ⟨#[60]⟩) (.str ⟨#[38,108,116,59]⟩)))] []),(.ifs (.cmp .In (.str ⟨#[62]⟩) (.var 29)) [(.asg 29 false (.replace (.var 29) (.str ⟨#[62]⟩) (.str ⟨#[38,103,116,59]⟩)))] []),(.ifs (.cmp .In (.str ⟨#[13]⟩) (.var 29)) [(.asg 29 false (.replace (.var 29) (.str ⟨#[13]⟩) (.str ⟨#[38,35,120,68,59]⟩)))] []),(.ret (.var 29))])]
noncomputable def a2f:List PS:=[(.try [(.ifs (.cmp .In (.str ⟨#[38]⟩) (.var 29)) [(.asg 29 false (.replace (.var 29) (.str ⟨#[38]⟩) (.str ⟨#[38,97,109,112,59]⟩)))] []),(.ifs (.cmp .In (.str ⟨#[60]⟩) (.var 29)) [(.asg 29 false (.replace (.var 29) (.str ⟨#[60]⟩) (.str ⟨#[38,108,116,59]⟩)))] []),(.ifs (.cmp .In (.str ⟨#[34]⟩) (.var 29)) [(.asg 29 false (.replace (.var 29) (.str ⟨#[34]⟩) (.str ⟨#[38,113,117,111,116,59]⟩)))] []),(.ifs (.cmp .In (.str ⟨#[9]⟩) (.var 29)) [(.asg 29 false (.replace (.var 29) (.str ⟨#[9]⟩) (.str ⟨#[38,35,120,57,59]⟩)))] []),(.ifs (.cmp .In (.str ⟨#[10]⟩) (.var 29)) [(.asg 29 false (.replace (.var 29) (.str ⟨#[10]⟩) (.str ⟨#[38,35,120,65,59]⟩)))] []),(.ifs (.cmp .In (.str ⟨#[13]⟩) (.var 29)) [(.asg 29 false (.replace (.var 29) (.str ⟨#[13]⟩) (.str ⟨#[38,35,120,68,59]⟩)))] []),(.ret (.var 29))])]
noncomputable def a4r:List PS:=[(.asg 30 true (.list (.cons (.int 310) (.cons (.int 261) (.cons (.int 144) (.cons (.int 309) (.cons (.int 34) (.cons (.int 203) (.cons (.int 17518) .nil))))))))),(.for (.many [31,3]) (.enum (.slice (.var 32) .no (.yes (.int 60)))) [(.augI 30 (.bin .Mod (.var 31) (.int 7)) .Add (.bin .Mod (.var 3) (.int 1000000)))]),(.asg 33 true (.list .nil)),(.for (.one 34) (.slice (.var 30) .no (.yes (.bin .Add (.int 1) (.bin .Mod (.idx (.var 30) (.int 6)) (.int 6))))) [(.app 33 (.tup (.cons (.bin .Mod (.var 34) (.int 5)) (.cons (.bin .Add (.idx (.str ⟨#[60,62,34,9,10,13,45,46]⟩) (.bin .Mod (.bin .FloorDiv (.var 34) (.int 5)) (.int 8))) (.idx (.str ⟨#[60,62,34,9,10,13,45,46]⟩) (.bin .Mod (.bin .FloorDiv (.var 34) (.int 40)) (.int 8)))) .nil))))]),(.asgT [35,36,37] (.tup (.cons (.str ⟨#[]⟩) (.cons (.str ⟨#[38,60,62,34,9,10,13,45,46]⟩) (.cons (.bin .FloorDiv (.idx (.var 30) (.int 6)) (.int 6)) .nil))))),(.for (.one 38) (.range3 (.int 9) (.int 5) (.neg (.int 1))) [(.asg 39 false (.idx (.var 36) (.bin .Mod (.var 37) (.var 38)))),(.asgT [35,36,37] (.tup (.cons (.bin .Add (.var 35) (.var 39)) (.cons (.replace (.var 36) (.var 39) (.str ⟨#[]⟩)) (.cons (.bin .FloorDiv (.var 37) (.var 38)) .nil)))))]),(.ret (.tup (.cons (.var 33) (.cons (.var 35) .nil))))]
noncomputable def a8M:List PS:=[(.ifs (.cmp .In (.var 39) (.idx (.list (.cons (.str ⟨#[38,60,62]⟩) (.cons (.str ⟨#[38,60,62,13]⟩) (.cons (.str ⟨#[38,60,62,34,13,10,9]⟩) (.cons (.str ⟨#[38,60,34,13,10,9]⟩) (.cons (.str ⟨#[38,62,34]⟩) .nil)))))) (.idx (.var 40) (.int 0)))) [(.ret (.ite (.cmp .Eq (.var 39) (.str ⟨#[38]⟩)) (.int 3) (.ite (.cmp .Eq (.var 39) (.str ⟨#[34]⟩)) (.int 4) (.int 2))))] []),(.ret (.ite (.cmp .In (.var 39) (.idx (.var 40) (.int 1))) (.int 1) (.int 0)))]
noncomputable def a6Q:List PS:=[(.asg 41 false (.comp [35] (.comp [40] (.var 39) (.one 39) (.var 35) (.cons (.cmp .Gt (.call 42 (.cons (.var 40) (.cons (.var 39) .nil)) .no) (.int 0)) .nil) .nil) (.one 40) (.var 33) .nil .nil)),(.asg 43 true (.list .nil)),(.for (.one 44) (.var 35) [(.for (.one 45) (.var 35) [(.ifs (.and (.cons (.cmp .NotEq (.var 44) (.var 45)) (.cons (.cmp .Eq (.comp [44,45] (.var 46) (.one 46) (.var 41) (.cons (.and (.cons (.cmp .In (.var 44) (.var 46)) (.cons (.cmp .In (.var 45) (.var 46)) .nil))) .nil) .nil) (.list .nil)) .nil))) [(.app 43 (.bin .Add (.var 44) (.var 45)))] [])])]),(.ret (.var 43))]
noncomputable def b1m:List PS:=[(.asg 47 false (.list (.cons (.tup (.cons (.str ⟨#[]⟩) (.cons (.var 35) .nil))) .nil))),(.for (.one 48) (.range1 (.len (.var 35))) [(.asg 47 false (.comp [] (.tup (.cons (.bin .Add (.var 29) (.idx (.var 37) (.var 31))) (.cons (.bin .Add (.slice (.var 37) .no (.yes (.var 31))) (.slice (.var 37) (.yes (.bin .Add (.var 31) (.int 1))) .no)) .nil))) (.many [29,37]) (.var 47) .nil (.cons (.one 31) (.range1 (.len (.var 37))) .nil .nil)))]),(.ret (.comp [] (.var 29) (.many [29,37]) (.var 47) .nil .nil))]
noncomputable def a3b:List PS:=[(.ifs (.cmp .Eq (.var 49) (.int 0)) [(.ret (.call 50 (.cons (.var 29) .nil) .no))] []),(.ifs (.cmp .Eq (.var 49) (.int 1)) [(.ret (.call 51 (.cons (.var 29) .nil) .no))] []),(.ifs (.cmp .Eq (.var 49) (.int 2)) [(.ret (.call 52 (.cons (.var 29) .nil) .no))] []),(.ifs (.cmp .Eq (.var 49) (.int 3)) [(.ret (.call 53 (.cons (.var 29) .nil) .no))] []),(.ret (.call 54 (.cons (.var 29) .nil) .no))]
noncomputable def a7O:List PS:=[(.asg 55 false (.comp [] (.bytes []) (.one 29) (.var 47) .nil .nil)),(.for (.one 40) (.var 33) [(.asg 56 false (.sum (.comp [40] (.call 42 (.cons (.var 40) (.cons (.var 39) .nil)) .no) (.one 39) (.var 35) .nil .nil))),(.asg 57 false (.bin .Mult (.str ⟨#[65]⟩) (.bin .Mod (.neg (.var 56)) (.int 4)))),(.asg 58 false (.call 59 (.cons (.call 60 (.cons (.idx (.var 40) (.int 0)) (.cons (.bin .Add (.join (.var 57) (.var 47)) (.var 57)) .nil)) .no) (.cons (.idx (.var 40) (.int 1)) .nil)) .no)),(.asg 38 false (.bin .Mult (.bin .FloorDiv (.bin .Add (.var 56) (.len (.var 57))) (.int 4)) (.int 3))),(.ifs (.cmp .NotEq (.len (.var 58)) (.bin .Mult (.var 38) (.len (.var 47)))) [(.ret .none)] []),(.asg 55 false (.comp [55,58,38] (.bin .Add (.idx (.var 55) (.var 31)) (.slice (.var 58) (.yes (.bin .Mult (.var 31) (.var 38))) (.yes (.bin .Add (.bin .Mult (.var 31) (.var 38)) (.var 38))))) (.one 31) (.range1 (.len (.var 47))) .nil .nil))]),(.ret (.var 55))]
noncomputable def a5x:List PS:=[(.asgRows 61 62 63),(.for (.one 31) (.sortedKey (.range1 (.len (.var 47))) [55] 64 (.idx (.var 55) (.var 64))) [(.ifs (.cmp .NotEq (.idx (.var 55) (.var 31)) (.var 61)) [(.asg 61 false (.idx (.var 55) (.var 31))),(.app 63 (.idx (.var 47) (.var 31)))] []),(.asgI 62 (.idx (.var 47) (.var 31)) (.len (.var 63)))]),(.ret (.tup (.cons (.var 62) (.cons (.var 63) .nil))))]
noncomputable def a5M:List PS:=[(.asgT [65,66] (.tup (.cons (.comp [] (.int 0) (.one 29) (.var 63) .nil .nil) (.cons (.int 0) .nil)))),(.for (.one 64) (.range1 (.int 4)) [(.for (.one 31) (.range2 (.bin .Add (.var 64) (.int 1)) (.int 4)) [(.asg 67 false (.call 68 (.cons (.bin .Add (.bin .Add (.bin .Add (.bin .Add (.str ⟨#[42]⟩) (.idx (.var 35) (.var 64))) (.str ⟨#[42]⟩)) (.idx (.var 35) (.var 31))) (.str ⟨#[42]⟩)) .nil) .no)),(.asg 69 false (.split (.replace (.slice (.var 67) (.yes (.int 10)) (.yes (.neg (.int 6)))) (.str ⟨#[92]⟩) (.str ⟨#[]⟩)) (.str ⟨#[41,40,63,62,46,42,63]⟩))),(.ifs (.or (.cons (.cmp .NotEq (.bin .Add (.slice (.var 67) .no (.yes (.int 10))) (.slice (.var 67) (.yes (.neg (.int 6))) .no)) (.str ⟨#[40,63,115,58,40,63,62,46,42,63,41,46,42,41,92,90]⟩)) (.cons (.cmp .NotEq (.len (.var 69)) (.int 2)) .nil))) [(.ret .none)] []),(.asg 70 false (.join (.str ⟨#[]⟩) (.comp [35,64,31] (.var 39) (.one 39) (.var 35) (.cons (.cmp .NotIn (.var 39) (.list (.cons (.idx (.var 35) (.var 64)) (.cons (.idx (.var 35) (.var 31)) .nil)))) .nil) .nil))),(.ifs (.cmp .NotEq (.idx (.var 62) (.bin .Add (.bin .Add (.idx (.var 35) (.var 64)) (.idx (.var 35) (.var 31))) (.var 70))) (.idx (.var 62) (.bin .Add (.bin .Add (.idx (.var 35) (.var 31)) (.idx (.var 35) (.var 64))) (.var 70)))) [(.asg 71 false (.comp [69] (.cmp .In (.idx (.var 69) (.int 1)) (.idx (.split (.var 29) (.idx (.var 69) (.int 0))) (.neg (.int 1)))) (.one 29) (.var 63) .nil .nil)),(.asg 65 false (.comp [71,65,66] (.ite (.idx (.var 71) (.var 13)) (.bin .Add (.bin .Add (.idx (.var 65) (.var 13)) (.var 66)) (.int 1)) (.idx (.var 65) (.var 13))) (.one 13) (.range1 (.len (.var 63))) .nil .nil)),(.asg 66 false (.bin .Add (.bin .Mult (.int 2) (.var 66)) (.int 1)))] [])])]),(.ret (.tup (.cons (.var 65) (.cons (.var 66) .nil))))]
noncomputable def a5N:List PS:=[(.asg 72 false (.list (.cons (.int 1) .nil))),(.for (.one 31) (.range1 (.int 6)) [(.asg 72 false (.bin .Add (.var 72) (.comp [] (.bin .Mult (.int 2) (.var 73)) (.one 73) (.var 72) .nil .nil)))]),(.asg 74 false (.comp [] (.var 46) (.one 46) (.var 65) (.cons (.cmp .Eq (.bin .Mod (.var 46) (.int 2)) (.int 1)) .nil) .nil)),(.asg 75 false (.comp [74,72,66] (.comp [72,44,66] (.bin .Add (.idx (.var 72) (.bin .BitXor (.var 44) (.var 45))) (.idx (.var 72) (.bin .BitXor (.bin .BitXor (.var 66) (.var 44)) (.var 45)))) (.one 45) (.var 74) .nil .nil) (.one 44) (.var 74) .nil .nil)),(.asg 76 false (.comp [74,72,66] (.comp [72,44,66] (.bin .Sub (.idx (.var 72) (.bin .BitXor (.var 44) (.var 45))) (.idx (.var 72) (.bin .BitXor (.bin .BitXor (.var 66) (.var 44)) (.var 45)))) (.one 45) (.var 74) .nil .nil) (.one 44) (.var 74) .nil .nil)),(.ret (.tup (.cons (.var 75) (.cons (.var 76) .nil))))]
noncomputable def a4s:List PS:=[(.asgT [77,61] (.tup (.cons (.int 1) (.cons (.int 1) .nil)))),(.while (.cmp .NotEq (.var 78) (.list .nil)) [(.asg 79 false (.comp [78] (.var 31) (.one 31) (.range1 (.len (.var 78))) (.cons (.cmp .NotEq (.idx (.idx (.var 78) (.var 31)) (.int 0)) (.int 0)) .nil) .nil)),(.ifs (.cmp .Eq (.var 79) (.list .nil)) [(.ret (.int 0))] []),(.asgT [80,37] (.tup (.cons (.idx (.var 78) (.idx (.var 79) (.int 0))) (.cons (.bin .Add (.slice (.var 78) .no (.yes (.idx (.var 79) (.int 0)))) (.slice (.var 78) (.yes (.bin .Add (.idx (.var 79) (.int 0)) (.int 1))) .no)) .nil)))),(.asg 77 false (.bin .Mult (.var 77) (.bin .Pow (.neg (.int 1)) (.idx (.var 79) (.int 0))))),(.asg 78 false (.comp [80,61] (.comp [80,81,61] (.bin .FloorDiv (.bin .Sub (.bin .Mult (.idx (.var 80) (.int 0)) (.idx (.var 81) (.var 4))) (.bin .Mult (.idx (.var 81) (.int 0)) (.idx (.var 80) (.var 4)))) (.var 61)) (.one 4) (.range2 (.int 1) (.len (.var 80))) .nil .nil) (.one 81) (.var 37) .nil .nil)),(.asg 61 false (.idx (.var 80) (.int 0)))]),(.ret (.bin .Mult (.var 77) (.var 61)))]
noncomputable def a5O:List PS:=[(.asg 82 false (.list (.cons (.list .nil) .nil))),(.for (.one 83) (.var 84) [(.asg 85 true (.list .nil)),(.for (.one 86) (.var 82) [(.app 85 (.bin .Add (.var 86) (.list (.cons (.var 83) .nil)))),(.for (.one 31) (.range1 (.len (.var 86))) [(.ifs (.cmp .Eq (.comp [83,43] (.var 44) (.one 44) (.idx (.var 86) (.var 31)) .nil (.cons (.one 45) (.var 83) (.cons (.cmp .NotIn (.bin .Add (.var 44) (.var 45)) (.var 43)) .nil) .nil)) (.list .nil)) [(.app 85 (.bin .Add (.bin .Add (.slice (.var 86) .no (.yes (.var 31))) (.list (.cons (.bin .Add (.idx (.var 86) (.var 31)) (.var 83)) .nil))) (.slice (.var 86) (.yes (.bin .Add (.var 31) (.int 1))) .no)))] [])])]),(.asg 82 false (.var 85))]),(.ret (.comp [82] (.len (.comp [38] (.var 86) (.one 86) (.var 82) (.cons (.cmp .Eq (.len (.var 86)) (.var 38)) .nil) .nil)) (.one 38) (.range1 (.bin .Add (.len (.var 84)) (.int 1))) .nil .nil))]
noncomputable def b1n:List PS:=[(.asg 87 false (.int 0)),(.for (.one 38) (.range2 (.max (.var 88) (.int 1)) (.len (.var 89))) [(.asg 90 false (.int 1)),(.for (.one 31) (.range2 (.int 2) (.bin .Add (.bin .Sub (.var 38) (.var 88)) (.int 1))) [(.aug 90 .Mult (.var 31))]),(.aug 87 .Add (.bin .Mult (.bin .Mult (.bin .Pow (.neg (.int 1)) (.bin .Sub (.bin .Sub (.len (.var 89)) (.int 1)) (.var 38))) (.var 90)) (.idx (.var 89) (.var 38))))]),(.ret (.var 87))]
noncomputable def a4S:List PS:=[(.asg 90 false (.int 1)),(.for (.one 31) (.range1 (.int 16)) [(.asg 46 false (.comp [31,35] (.idx (.var 35) (.var 64)) (.one 64) (.range1 (.int 4)) (.cons (.cmp .Eq (.bin .Mod (.bin .FloorDiv (.var 31) (.bin .Pow (.int 2) (.var 64))) (.int 2)) (.int 1)) .nil) .nil)),(.ifs (.cmp .Gt (.len (.var 46)) (.int 1)) [(.asg 89 false (.call 91 (.cons (.var 46) (.cons (.var 43) .nil)) .no)),(.asg 92 false (.comp [46,43] (.bin .Add (.var 44) (.var 45)) (.one 44) (.var 46) .nil (.cons (.one 45) (.var 46) (.cons (.and (.cons (.cmp .Lt (.var 44) (.var 45)) (.cons (.cmp .NotIn (.bin .Add (.var 44) (.var 45)) (.var 43)) .nil))) .nil) .nil))),(.ifs (.cmp .NotEq (.call 93 (.cons (.var 89) (.cons (.int 1) .nil)) .no) (.int 0)) [(.asg 94 false (.call 91 (.cons (.bin .Add (.list (.cons (.join (.str ⟨#[]⟩) (.var 46)) .nil)) (.comp [46] (.var 39) (.one 39) (.var 35) (.cons (.cmp .NotIn (.var 39) (.var 46)) .nil) .nil)) (.cons (.var 43) .nil)) .no)),(.aug 90 .Mult (.bin .Pow (.bin .Sub (.int 1) (.bin .Pow (.int 4) (.len (.var 92)))) (.bin .Mult (.call 93 (.cons (.var 89) (.cons (.int 2) .nil)) .no) (.call 93 (.cons (.var 94) (.cons (.int 0) .nil)) .no))))] [])] [])]),(.ret (.var 90))]
noncomputable def b5G:List PS:=[(.asgT [33,35] (.call 95 (.cons (.var 32) .nil) .no)),(.asg 47 false (.call 96 (.cons (.var 35) .nil) .no)),(.asg 55 false (.call 97 (.cons (.var 33) (.cons (.var 35) (.cons (.var 47) .nil))) .no)),(.ifs (.cmp .Is (.var 55) .none) [(.ret (.bool false))] []),(.asgT [62,63] (.call 98 (.cons (.var 55) (.cons (.var 47) .nil)) .no)),(.asg 99 false (.call 100 (.cons (.var 35) (.cons (.var 62) (.cons (.var 63) .nil))) .no)),(.ifs (.cmp .Is (.var 99) .none) [(.ret (.bool false))] []),(.asgT [75,76] (.call 101 (.cons (.idx (.var 99) (.int 0)) (.cons (.idx (.var 99) (.int 1)) .nil)) .no)),(.ret (.cmp .Eq (.bin .Mult (.call 102 (.cons (.var 75) .nil) .no) (.call 102 (.cons (.var 76) .nil) .no)) (.call 103 (.cons (.var 35) (.cons (.call 104 (.cons (.var 33) (.cons (.var 35) .nil)) .no) .nil)) .no)))]
noncomputable def a0t:List Def:=[
 ⟨16,[0],[],[],a1x⟩,
 ⟨6,[2],[],[],a7p⟩,
 ⟨8,[3],[],[],c1q⟩,
 ⟨15,[4],[],[],b1k⟩,
 ⟨19,[2],[7],[],a1R⟩,
 ⟨59,[0,17,18],[],[.none,.bool false],a2p⟩,
 ⟨105,[23,24,25],[],[],b1l⟩,
 ⟨106,[27,24],[],[],a3a⟩,
 ⟨50,[29],[],[],a4g⟩,
 ⟨52,[29],[],[],a3H⟩,
 ⟨54,[29],[],[],a2e⟩,
 ⟨51,[29],[],[],a2q⟩,
 ⟨53,[29],[],[],a2f⟩,
 ⟨95,[32],[],[],a4r⟩,
 ⟨42,[40,39],[],[],a8M⟩,
 ⟨104,[33,35],[],[],a6Q⟩,
 ⟨96,[35],[],[],b1m⟩,
 ⟨60,[49,29],[],[],a3b⟩,
 ⟨97,[33,35,47],[],[],a7O⟩,
 ⟨98,[55,47],[],[],a5x⟩,
 ⟨100,[35,62,63],[],[],a5M⟩,
 ⟨101,[65,66],[],[],a5N⟩,
 ⟨102,[78],[],[],a4s⟩,
 ⟨91,[84,43],[],[],a5O⟩,
 ⟨93,[89,88],[],[],b1n⟩,
 ⟨103,[35,43],[],[],a4S⟩,
 ⟨109,[32],[],[],b5G⟩]
noncomputable def ids:Ids:=⟨26,68,105,106,23,24,107,108⟩
noncomputable def c7e:Nat:=109
end
section
noncomputable def c5n (p:Program)(w:World)(n₀:Nat)(ann:Option Value):Nat→SharedT→Thread→Option SharedT
 | 0,_,_=>none
 | n+1,s,t=>match through t with
  | true=>some s
  | false=>match stepOk n₀ ann t with
   | false=>none
   | true=>match stepT (denote treeTable) p w s t with
    | some (s',t')=>c5n p w n₀ ann n s' t'
    | none=>none
theorem b5H {p:Program}{w:World}{n₀:Nat}{ann:Option Value}:∀ (n:Nat) (s s':SharedT) (t:Thread),c5n p w n₀ ann n s t=some s'→topRun treeTable p w n₀ ann n s.abs t=some s'.abs
 | 0,_,_,_,h=>nomatch (show none=some _ from h)
 | n+1,s,s',t,h=>by
  unfold topRun
  unfold c5n at h
  cases h1:through t with
  | true=>rw [h1] at h;rw [c7Q h]
  | false=>
   rw [h1] at h
   cases h2:stepOk n₀ ann t with
   | false=>rw [h2] at h;cases h
   | true=>
    rw [h2] at h
    cases h3:stepT (denote treeTable) p w s t with
    | none=>rw [h3] at h;cases h
    | some r=>
     rw [h3] at h
     dsimp only
     rw [stepT_spec h3]
     exact b5H n _ _ _ h
noncomputable def b2f:List Obj→BT→Nat→Option (BT×Nat)
 | [],t,n=>some (t,n)
 | o :: r,t,n=>match (t.ins n o).get n with
  | some _=>b2f r (t.ins n o) (n+1)
  | none=>none
theorem a9Y {life:Life}:∀ (l:List Obj) (t:BT) (n:Nat) (t':BT) (n':Nat) (h:Heap),b2f l t n=some (t',n')→absHeap t n life=h→absHeap t' n' life=l.foldl Heap.push h
 | [],t,n,t',n',h,e,r=>by cases e;exact r
 | o :: l,t,n,t',n',h,e,r=>by
  unfold b2f at e
  cases h1:(t.ins n o).get n with
  | none=>rw [h1] at e;cases e
  | some q=>
   rw [h1] at e
   exact a9Y l _ _ _ _ _ e (by rw [absHeap_ins (by rw [h1];rfl),r])
theorem b2g {life:Life}:∀ (l:List Obj) (a:List Obj),l.foldl Heap.push ⟨a.toArray,life⟩=⟨(a++l).toArray,life⟩
 | [],a=>by rw [c8T];rfl
 | o :: l,a=>by
  rw [c9h,show Heap.push ⟨a.toArray,life⟩ o=⟨(a++[o]).toArray,life⟩ from by simp [Heap.push],b2g l,c8U];rfl
noncomputable def toT (s:Shared):Option SharedT:=(b2f s.heap.objs.toList .nil 0).map fun x=>{ tree:=x.1,n:=x.2,life:=s.heap.life,gens:=s.gens,drawn:=s.drawn,toks:=s.toks,os:=s.os }
theorem c1r {s:Shared}{t:SharedT}(h:toT s=some t):t.abs=s:=by
 obtain⟨⟨a,b⟩,h1,rfl⟩:=Option.map_eq_some_iff.mp h
 have:=(a9Y (life:=s.heap.life) _ _ _ _ _ ⟨#[],s.heap.life⟩ h1 rfl).trans (b2g _ [])
 simp only [SharedT.abs,this]
 rfl
noncomputable def c7f (p:Program)(w:World)(N:Nat):Option Shared:=(fencedOpening treeTable p w N).bind fun s₀=>match s₀.heap.isNs mainGlobals&&s₀.gens.size==0 with
 | true=>(toT s₀).bind fun t₀=>(c5n p w s₀.heap.objs.size (s₀.heap.nsMap mainGlobals "__annotations__") N t₀ (topStub p)).bind fun t₁=>
  match staticsOk (importedModules p.main.body) s₀.heap t₁.abs.heap&&namesBound p t₁.abs.heap&&gensDone t₁.abs&&laidKept s₀.heap t₁.abs.heap with
  | true=>some t₁.abs
  | false=>none
 | false=>none
theorem c1s {p:Program}{w:World}{N:Nat}{s:Shared}(h:c7f p w N=some s):openEnds treeTable p w N=some s:=by
 obtain⟨s₀,h1,h2⟩:=Option.bind_eq_some_iff.mp h
 unfold openEnds
 rw [h1,Option.bind_some]
 unfold topFrom
 cases h3:s₀.heap.isNs mainGlobals&&s₀.gens.size==0 with
 | false=>rw [h3] at h2;cases h2
 | true=>
  rw [h3] at h2
  obtain⟨t₀,h4,h5⟩:=Option.bind_eq_some_iff.mp h2
  obtain⟨t₁,h6,h7⟩:=Option.bind_eq_some_iff.mp h5
  have:=b5H _ _ _ _ h6
  rw [c1r h4] at this
  dsimp only
  rw [this,Option.bind_some]
  cases h8:staticsOk (importedModules p.main.body) s₀.heap t₁.abs.heap&&namesBound p t₁.abs.heap&&gensDone t₁.abs&&laidKept s₀.heap t₁.abs.heap with
  | false=>rw [h8] at h7;cases h7
  | true=>rw [h8] at h7;exact h7
noncomputable abbrev c4g (q:Program):Shared→Bool:=fun s=>xlAt q [] s&&recOk [] s
noncomputable def seenE (p q:Program)(loose:List Str)(as ts:List Addr)(w:World)(N:Nat):=(c7f p w N).map fun s=>(openSeen q loose (importedModules p.main.body) (c4g q) true s,as.map s.heap.get?,ts.map s.heap.get?)
noncomputable def goodE (q:Program)(loose:List Str)(K:Params→Frag)(ts:List Addr)(w:World):=some (openGood q loose,(K w.params).map (fun p=>some p.2),ts.map fun _=>some (tabObj #[]))
theorem c1t {p q:Program}{loose:List Str}{K:Params→Frag}{as ts:List Addr}{e:∀ P,as=(K P).map (·.1)}{N:Nat}{r1 r2:String}
  (h:∀ (w:World) (a b:Bool),seenE p q loose as ts ((w.withFollow r1 a).withFollow r2 b) N=goodE q loose K ts ((w.withFollow r1 a).withFollow r2 b)):LeftO p q loose (c4g q) (kmHook K as e ts).obs (kmHook K as e ts).val N:=by
 have go:∀ w,seenE p q loose as ts w N=goodE q loose K ts w→(openEnds treeTable p w N).map (fun s=>(openSeen q loose (importedModules p.main.body) (c4g q) true s,(kmHook K as e ts).obs s))=some (openGood q loose,(kmHook K as e ts).val w):=fun w h=>by
  obtain⟨s,h1,h2⟩:=Option.map_eq_some_iff.mp h
  rw [c1s h1]
  exact c7H some h2
 intro w
 refine go w (byRow2 r2 (P:=fun w=>seenE p q loose as ts w N=goodE q loose K ts w) ?_ ?_ w)
 ·exact byRow2 r1 (P:=fun w=>seenE p q loose as ts (w.withFollow r2 false) N=goodE q loose K ts (w.withFollow r2 false)) (fun w=>h w false false) (fun w=>h w true false)
 ·exact byRow2 r1 (P:=fun w=>seenE p q loose as ts (w.withFollow r2 true) N=goodE q loose K ts (w.withFollow r2 true)) (fun w=>h w false true) (fun w=>h w true true)
lay_quick Mine.seenE Mine.goodE
end
section
noncomputable abbrev S (s:String):Str:=Str.ofString s
noncomputable def fnO (i c:Nat)(m:Str)(t:Nat)(dv kv:Value):Obj:=match PySem.Challenge.pw_kt0036_04.main.body[i]? with
 | some (.FunctionDef name args body _ _ _ scope _ _ _)=>{ cls:=.type "function",data:=.func { name:=name,qualname:=name,params:=args,body:=.stmts body,scope:=scope,globals:=3,closure:=[],defaults:=dv,kwdefaults:=kv,pyModule:=.str m t,code:=.ref c } }
 | _=>default
noncomputable def cdO (n:Str)(k:Nat)(l p q r s:Nat)(a b c d e f g:Value)(x y:Nat):Obj:={ cls:=.type "code",data:=.fields #[.str n k,.str n (k+1),.str (S "/claim/cut.py") (k+2),.int l 0,.int p 0,.int q 0,.int r 0,.int s 0,a,b,.int 276 0,c,d,e,f,g,.int x 0,.int l 0,.str (S "/claim/cut.py") y] }
noncomputable def kE (P:Params)(k:Str)(t:Nat)(v:Value):DictEntry:={ hash:=PyData.keyHash P k,key:=.str k t,val:=v }
noncomputable def iE (k t:Nat)(s:Str)(u:Nat):DictEntry:={ hash:=k,key:=.int k t,val:=.str s u }
noncomputable def KH (P:Params):Frag:=[
 (3,{ cls:=.type "dict",data:=Data.dict #[kE P (S "__name__") 165 (.str (S "law_kt0036_04") 651),kE P (S "__doc__") 166 (.none),kE P (S "__package__") 167 (.none),kE P (S "__loader__") 168 (.builtin "__main__.__loader__#opaque"),kE P (S "__spec__") 169 (.none),kE P (S "__annotations__") 170 (.ref 6),kE P (S "__builtins__") 171 (.ref 4),kE P (S "__file__") 173 (.str (S "/claim/cut.py") 172),kE P (S "__cached__") 174 (.none),kE P (S "_sre") 275 (.ref 12),kE P (S "_wall") 288 (.ref 38),kE P (S "bytes_types") 291 (.ref 39),kE P (S "_bytes_from_decode_data") 298 (.ref 46),kE P (S "Error") 318 (.ref 56),kE P (S "_ascii_buffer") 326 (.ref 66),kE P (S "_truth") 334 (.ref 73),kE P (S "_b64_value") 341 (.ref 80),kE P (S "a2b_base64") 357 (.ref 88),kE P (S "b64decode") 368 (.ref 96),kE P (S "_twin_re_1") 408 (.ref 101),kE P (S "translate") 417 (.ref 108),kE P (S "_special_chars_map") 565 (.ref 110),kE P (S "escape") 572 (.ref 120),kE P (S "_translate") 593 (.ref 127),kE P (S "_join_translated_parts") 606 (.ref 134),kE P (S "_raise_serialization_error") 615 (.ref 141),kE P (S "_escape_cdata") 622 (.ref 148),kE P (S "_escape_attrib") 629 (.ref 155),kE P (S "_escape_attrib_html") 636 (.ref 162),kE P (S "_escape_cdata_c14n") 643 (.ref 169),kE P (S "_escape_attrib_c14n") 650 (.ref 176),kE P (S "_law_drawn") 669 (.ref 183),kE P (S "_law_letters") 677 (.ref 190),kE P (S "_law_loose") 683 (.ref 195),kE P (S "_law_texts") 689 (.ref 200),kE P (S "_law_written") 697 (.ref 207),kE P (S "_law_told") 703 (.ref 212),kE P (S "_law_rows") 716 (.ref 219),kE P (S "_law_turned") 722 (.ref 224),kE P (S "_law_tables") 728 (.ref 229),kE P (S "_law_worth") 734 (.ref 234),kE P (S "_law_parted") 740 (.ref 239),kE P (S "_law_count") 752 (.ref 246),kE P (S "_law_product") 758 (.ref 251),kE P (S "law") 774 (.ref 258)] 45 }),
 (37,cdO (S "_wall") 282 2 1 0 0 3 (.ref 32) (.bool true) (.ref 33) .none (.ref 34) (.ref 35) (.ref 36) 286 287),
 (38,fnO 1 37 (S "__main__") 164 .none .none),
 (45,cdO (S "_bytes_from_decode_data") 292 7 1 0 0 3 (.ref 40) (.bool true) (.ref 41) .none (.ref 42) (.ref 43) (.ref 44) 296 297),
 (46,fnO 4 45 (S "cpy313.base64") 289 .none .none),
 (65,cdO (S "_ascii_buffer") 319 22 1 0 0 3 (.ref 60) (.bool true) (.ref 61) .none (.ref 62) (.ref 63) (.ref 64) 324 325),
 (66,fnO 7 65 (S "binascii") 299 .none .none),
 (72,cdO (S "_truth") 327 33 1 0 0 3 (.ref 67) (.bool true) (.ref 68) .none (.ref 69) (.ref 70) (.ref 71) 332 333),
 (73,fnO 8 72 (S "binascii") 299 .none .none),
 (79,cdO (S "_b64_value") 335 38 1 0 0 3 (.ref 74) (.bool true) (.ref 75) .none (.ref 76) (.ref 77) (.ref 78) 339 340),
 (80,fnO 9 79 (S "binascii") 299 .none .none),
 (81,{ cls:=.type "dict",data:=Data.dict #[kE P (S "strict_mode") 342 (.bool false)] 1 }),
 (87,cdO (S "a2b_base64") 343 50 1 1 1 3 (.ref 82) (.bool true) (.ref 83) .none (.ref 84) (.ref 85) (.ref 86) 355 356),
 (88,fnO 10 87 (S "binascii") 299 .none (.ref 81)),
 (89,{ cls:=.type "tuple",data:=Data.seq #[.none,.bool false] }),
 (95,cdO (S "b64decode") 360 105 3 0 0 3 (.ref 90) (.bool true) (.ref 91) .none (.ref 92) (.ref 93) (.ref 94) 366 367),
 (96,fnO 12 95 (S "cpy313.base64") 358 (.ref 89) .none),
 (107,cdO (S "translate") 409 114 1 0 0 3 (.ref 102) (.bool true) (.ref 103) .none (.ref 104) (.ref 105) (.ref 106) 415 416),
 (108,fnO 15 107 (S "cpy313.fnmatch") 369 .none .none),
 (110,{ cls:=.type "dict",data:=Data.dict #[iE 40 421 (S "\\(") 425,iE 41 427 (S "\\)") 431,iE 91 433 (S "\\[") 437,iE 93 439 (S "\\]") 443,iE 123 445 (S "\\{") 449,iE 125 451 (S "\\}") 455,iE 63 457 (S "\\?") 461,iE 42 463 (S "\\*") 467,iE 43 469 (S "\\+") 473,iE 45 475 (S "\\-") 479,iE 124 481 (S "\\|") 485,iE 94 487 (S "\\^") 491,iE 36 493 (S "\\$") 497,iE 92 499 (S "\\\\") 503,iE 46 505 (S "\\.") 509,iE 38 511 (S "\\&") 515,iE 126 517 (S "\\~") 521,iE 35 523 (S "\\#") 527,iE 32 529 (S "\\ ") 533,iE 9 535 (S "\\\t") 539,iE 10 541 (S "\\\n") 545,iE 13 547 (S "\\\x0d") 551,iE 11 553 (S "\\\x0b") 557,iE 12 559 (S "\\\x0c") 563] 24 }),
 (119,cdO (S "escape") 566 120 1 0 0 3 (.ref 114) (.bool true) (.ref 115) .none (.ref 116) (.ref 117) (.ref 118) 570 571),
 (120,fnO 18 119 (S "re") 418 .none .none),
 (126,cdO (S "_translate") 575 127 3 0 0 3 (.ref 121) (.bool true) (.ref 122) .none (.ref 123) (.ref 124) (.ref 125) 591 592),
 (127,fnO 20 126 (S "cpy313.fnmatch") 573 .none .none),
 (133,cdO (S "_join_translated_parts") 594 189 2 0 0 3 (.ref 128) (.bool true) (.ref 129) .none (.ref 130) (.ref 131) (.ref 132) 604 605),
 (134,fnO 21 133 (S "cpy313.fnmatch") 573 .none .none),
 (140,cdO (S "_raise_serialization_error") 609 217 1 0 0 3 (.ref 135) (.bool true) (.ref 136) .none (.ref 137) (.ref 138) (.ref 139) 613 614),
 (141,fnO 23 140 (S "cpy313.xml.etree.ElementTree") 607 .none .none),
 (147,cdO (S "_escape_cdata") 616 219 1 0 0 3 (.ref 142) (.bool true) (.ref 143) .none (.ref 144) (.ref 145) (.ref 146) 620 621),
 (148,fnO 24 147 (S "cpy313.xml.etree.ElementTree") 607 .none .none),
 (154,cdO (S "_escape_attrib") 623 230 1 0 0 3 (.ref 149) (.bool true) (.ref 150) .none (.ref 151) (.ref 152) (.ref 153) 627 628),
 (155,fnO 25 154 (S "cpy313.xml.etree.ElementTree") 607 .none .none),
 (161,cdO (S "_escape_attrib_html") 630 249 1 0 0 3 (.ref 156) (.bool true) (.ref 157) .none (.ref 158) (.ref 159) (.ref 160) 634 635),
 (162,fnO 26 161 (S "cpy313.xml.etree.ElementTree") 607 .none .none),
 (168,cdO (S "_escape_cdata_c14n") 637 260 1 0 0 3 (.ref 163) (.bool true) (.ref 164) .none (.ref 165) (.ref 166) (.ref 167) 641 642),
 (169,fnO 27 168 (S "cpy313.xml.etree.ElementTree") 607 .none .none),
 (175,cdO (S "_escape_attrib_c14n") 644 273 1 0 0 3 (.ref 170) (.bool true) (.ref 171) .none (.ref 172) (.ref 173) (.ref 174) 648 649),
 (176,fnO 28 175 (S "cpy313.xml.etree.ElementTree") 607 .none .none),
 (182,cdO (S "_law_drawn") 653 291 1 0 0 3 (.ref 177) (.bool true) (.ref 178) .none (.ref 179) (.ref 180) (.ref 181) 667 668),
 (183,fnO 30 182 (S "law_kt0036_04") 651 .none .none),
 (189,cdO (S "_law_letters") 670 303 2 0 0 3 (.ref 184) (.bool true) (.ref 185) .none (.ref 186) (.ref 187) (.ref 188) 675 676),
 (190,fnO 31 189 (S "law_kt0036_04") 651 .none .none),
 (194,cdO (S "_law_loose") 678 307 2 0 0 3 (.ref 191) (.bool true) (.ref 192) .none .none .none (.ref 193) 681 682),
 (195,fnO 32 194 (S "law_kt0036_04") 651 .none .none),
 (199,cdO (S "_law_texts") 684 315 1 0 0 3 (.ref 196) (.bool true) (.ref 197) .none .none .none (.ref 198) 687 688),
 (200,fnO 33 199 (S "law_kt0036_04") 651 .none .none),
 (206,cdO (S "_law_written") 690 320 2 0 0 3 (.ref 201) (.bool true) (.ref 202) .none (.ref 203) (.ref 204) (.ref 205) 695 696),
 (207,fnO 34 206 (S "law_kt0036_04") 651 .none .none),
 (211,cdO (S "_law_told") 698 330 3 0 0 3 (.ref 208) (.bool true) (.ref 209) .none .none .none (.ref 210) 701 702),
 (212,fnO 35 211 (S "law_kt0036_04") 651 .none .none),
 (218,cdO (S "_law_rows") 704 341 2 0 0 3 (.ref 213) (.bool true) (.ref 214) .none (.ref 215) (.ref 216) (.ref 217) 714 715),
 (219,fnO 36 218 (S "law_kt0036_04") 651 .none .none),
 (223,cdO (S "_law_turned") 717 349 3 0 0 3 (.ref 220) (.bool true) (.ref 221) .none .none .none (.ref 222) 720 721),
 (224,fnO 37 223 (S "law_kt0036_04") 651 .none .none),
 (228,cdO (S "_law_tables") 723 363 2 0 0 3 (.ref 225) (.bool true) (.ref 226) .none .none .none (.ref 227) 726 727),
 (229,fnO 38 228 (S "law_kt0036_04") 651 .none .none),
 (233,cdO (S "_law_worth") 729 371 1 0 0 3 (.ref 230) (.bool true) (.ref 231) .none .none .none (.ref 232) 732 733),
 (234,fnO 39 233 (S "law_kt0036_04") 651 .none .none),
 (238,cdO (S "_law_parted") 735 382 2 0 0 3 (.ref 235) (.bool true) (.ref 236) .none .none .none (.ref 237) 738 739),
 (239,fnO 40 238 (S "law_kt0036_04") 651 .none .none),
 (245,cdO (S "_law_count") 741 393 2 0 0 3 (.ref 240) (.bool true) (.ref 241) .none (.ref 242) (.ref 243) (.ref 244) 750 751),
 (246,fnO 41 245 (S "law_kt0036_04") 651 .none .none),
 (250,cdO (S "_law_product") 753 401 2 0 0 3 (.ref 247) (.bool true) (.ref 248) .none .none .none (.ref 249) 756 757),
 (251,fnO 42 250 (S "law_kt0036_04") 651 .none .none),
 (257,cdO (S "law") 759 412 1 0 0 3 (.ref 252) (.bool true) (.ref 253) .none (.ref 254) (.ref 255) (.ref 256) 772 773),
 (258,fnO 43 257 (S "law_kt0036_04") 651 .none .none)]
noncomputable def KA:List Addr:=[3,37,38,45,46,65,66,72,73,79,80,81,87,88,89,95,96,107,108,110,119,120,126,127,133,134,140,141,147,148,154,155,161,162,168,169,175,176,182,183,189,190,194,195,199,200,206,207,211,212,218,219,223,224,228,229,233,234,238,239,245,246,250,251,257,258]
end
section
noncomputable def q04:Program:=PySem.W.view PySem.Challenge.pw_kt0036_04 [0,1,3,4,6,7,8,9,14,15,17,18,20,21,23,24,25,26,27,28,30,31,32,33,34,35,36,37,38,39,40,41,42,43]
noncomputable def a1Y:List Str:=[S "bytes_types",S "a2b_base64",S "b64decode",S "_twin_re_1",S "_special_chars_map"]
theorem c7B (w:World):seenE PySem.Challenge.pw_kt0036_04 q04 a1Y KA [122,214] ((w.withFollow "comprehension-iter-twice" false).withFollow "special-get-raises" false) 5230=goodE q04 a1Y KH [122,214] ((w.withFollow "comprehension-iter-twice" false).withFollow "special-get-raises" false):=by
 rw [PySem.W.Fast.te9581644899039172855,PySem.W.Fast.te15965131416259893120];kernel_rfl
theorem c7C (w:World):seenE PySem.Challenge.pw_kt0036_04 q04 a1Y KA [122,214] ((w.withFollow "comprehension-iter-twice" false).withFollow "special-get-raises" true) 5230=goodE q04 a1Y KH [122,214] ((w.withFollow "comprehension-iter-twice" false).withFollow "special-get-raises" true):=by
 rw [PySem.W.Fast.te9581644899039172855,PySem.W.Fast.te15965131416259893120];kernel_rfl
theorem c7D (w:World):seenE PySem.Challenge.pw_kt0036_04 q04 a1Y KA [122,214] ((w.withFollow "comprehension-iter-twice" true).withFollow "special-get-raises" false) 5230=goodE q04 a1Y KH [122,214] ((w.withFollow "comprehension-iter-twice" true).withFollow "special-get-raises" false):=by
 rw [PySem.W.Fast.te9581644899039172855,PySem.W.Fast.te15965131416259893120];kernel_rfl
theorem c7E (w:World):seenE PySem.Challenge.pw_kt0036_04 q04 a1Y KA [122,214] ((w.withFollow "comprehension-iter-twice" true).withFollow "special-get-raises" true) 5230=goodE q04 a1Y KH [122,214] ((w.withFollow "comprehension-iter-twice" true).withFollow "special-get-raises" true):=by
 rw [PySem.W.Fast.te9581644899039172855,PySem.W.Fast.te15965131416259893120];kernel_rfl
theorem c4h (w:World)(a b:Bool):seenE PySem.Challenge.pw_kt0036_04 q04 a1Y KA [122,214] ((w.withFollow "comprehension-iter-twice" a).withFollow "special-get-raises" b) 5230=goodE q04 a1Y KH [122,214] ((w.withFollow "comprehension-iter-twice" a).withFollow "special-get-raises" b):=by
 cases a <;> cases b
 ·exact c7B w
 ·exact c7C w
 ·exact c7D w
 ·exact c7E w
theorem c4i:LeftO PySem.Challenge.pw_kt0036_04 q04 a1Y (c4g q04) (kmHook KH KA (fun _=>by rfl) [122,214]).obs (kmHook KH KA (fun _=>by rfl) [122,214]).val 5230:=c1t (r1:="comprehension-iter-twice") (r2:="special-get-raises") c4h
theorem c4j:PySem.Challenge.rw_kt0036_04.wellSaid=true:=by kernel_rfl
end
section
noncomputable def C04 (i:Bool):Addr:=bif i then 126 else 218
noncomputable def P04 (i:Bool):Addr:=bif i then 122 else 214
noncomputable def Q04 (i:Bool):Str:=bif i then "_translate.<locals>." else "_law_rows.<locals>."
noncomputable def a5X:Nat→Str:=c6y c6z
theorem b8m:∀ i j,a5X i=a5X j→i=j:=b8l (by decide +kernel) (by kernel_rfl)
noncomputable def a6R:List (Def×Addr):=a0t.zip [46,66,73,80,88,96,127,134,148,155,162,169,176,183,190,195,200,207,212,219,224,229,234,239,246,251,258]
theorem c1u:a6R.map (·.1)=a0t:=by kernel_rfl
noncomputable def grp (n:Nat):List (Def×Addr):=a6R.filter fun p=>p.1.kwonly.isEmpty&&p.1.dflt.isEmpty&&p.1.params.length==n
theorem c1v:(a6R.all fun p=>(p.1.kwonly.isEmpty&&p.1.dflt.isEmpty&&Nat.blt p.1.params.length 5&&Nat.blt 0 p.1.params.length)||p.1.f==19||p.1.f==59)=true:=by kernel_rfl
noncomputable def a4T (P:Params)(S:Setting)(vs:List Value)(kws:List (Str×Value))(a:Addr):Option (List (Str×Value)):=(c2B (KH P) a).bind fun fd=>peek (KH P) S (bindArgs fd ⟨vs,kws⟩)
theorem c6A (P:Params)(S:Setting)(a:Value):(grp 1).map (fun p=>a4T P S [a] [] p.2)=(grp 1).map fun p=>some ((p.1.params.map a5X).zip [a]):=by kernel_rfl
theorem c6B (P:Params)(S:Setting)(a b:Value):(grp 2).map (fun p=>a4T P S [a,b] [] p.2)=(grp 2).map fun p=>some ((p.1.params.map a5X).zip [a,b]):=by kernel_rfl
theorem c6C (P:Params)(S:Setting)(a b c:Value):(grp 3).map (fun p=>a4T P S [a,b,c] [] p.2)=(grp 3).map fun p=>some ((p.1.params.map a5X).zip [a,b,c]):=by kernel_rfl
theorem c6D (P:Params)(S:Setting)(a b c d:Value):(grp 4).map (fun p=>a4T P S [a,b,c,d] [] p.2)=(grp 4).map fun p=>some ((p.1.params.map a5X).zip [a,b,c,d]):=by kernel_rfl
theorem c1w (P:Params):(a6R.all fun p=>a9X (KH P) a5X C04 Q04 p.1.f p.2 p.1.params p.1.kwonly fun sc body=>mSs a5X sc p.1.body body)=true:=by kernel_rfl
theorem c1x (P:Params):a9X (KH P) a5X C04 Q04 26 120 [108] [] (a5w a5X 108)=true:=by kernel_rfl
theorem c4k (P:Params):a9X (KH P) a5X C04 Q04 68 108 [23] [] (a7L a5X ids)=true:=by kernel_rfl
end
section
section
variable {G:GC}{P:Params}(X:(KH P).In G.g)(hn:G.nm=a5X)(hC:G.lamC=C04)(hQ:G.lamQ=Q04)
theorem b3t {p:Def×Addr}(hp:p∈a6R)(h1:p.1.kwonly=[])(h2:p.1.dflt=[])(h5:p.1.params.length<5)(h0:0<p.1.params.length){vs:List Value}(hl:vs.length=p.1.params.length)(S:Setting):a4T P S vs [] p.2=some ((p.1.params.map a5X).zip vs):=by
 have mem:p∈grp vs.length:=c9u.mpr ⟨hp,by rw [h1,h2,hl];exact c7R _⟩
 match vs,mem,hl with
 | [],_,hl=>exact absurd h0 (Nat.not_lt.mpr (c8w hl.symm))
 | [a],mem,_=>exact List.map_inj_left.mp (c6A P S a) p mem
 | [a,b],mem,_=>exact List.map_inj_left.mp (c6B P S a b) p mem
 | [a,b,c],mem,_=>exact List.map_inj_left.mp (c6C P S a b c) p mem
 | [a,b,c,d],mem,_=>exact List.map_inj_left.mp (c6D P S a b c d) p mem
 | _ :: _ :: _ :: _ :: _ :: _,_,hl=>exact absurd (hl ▸ h5) (Nat.not_lt.mpr (Nat.le_add_left 5 _))
theorem c7g (P:Params)(S:Setting)(v k:Value):(a4T P S [v] [] 88,a4T P S [v] [(("strict_mode":Str),k)] 88)=(some (([2,7].map a5X).zip [v,.bool false]),some (([2,7].map a5X).zip [v,k])):=by kernel_rfl
theorem c6E (P:Params)(S:Setting)(a b c:Value):(a4T P S [a] [] 96,a4T P S [a,b] [] 96,a4T P S [a,b,c] [] 96)=(some (([0,17,18].map a5X).zip [a,.none,.bool false]),some (([0,17,18].map a5X).zip [a,b,.bool false]),some (([0,17,18].map a5X).zip [a,b,c])):=by kernel_rfl
theorem b8n (P:Params)(S:Setting)(v:Value):a4T P S [v] [] 120=some (([108].map a5X).zip [v]):=by kernel_rfl
theorem c1y (P:Params)(S:Setting)(v:Value):a4T P S [v] [] 108=some (([23].map a5X).zip [v]):=by kernel_rfl
theorem b2h:(a6R.filter fun p=>p.1.f==19||p.1.f==59)=[(⟨19,[2],[7],[],a1R⟩,88),(⟨59,[0,17,18],[],[.none,.bool false],a2p⟩,96)]:=by kernel_rfl
theorem c4l {a l:List D}{n:Nat}(h:(a++l).length=n):a.length≤n:=h ▸ c8Y ▸ c8p _ _
theorem a6S {a:Addr}{fd:FuncData}(hfd:c2B (KH P) a=some fd){vs:List Value}{kws:List (Str×Value)}{S:Setting}{r:List (Str×Value)}(h:a4T P S vs kws a=some r):peek (KH P) S (bindArgs fd ⟨vs,kws⟩)=some r:=by
 unfold a4T at h
 rw [hfd] at h
 exact h
theorem c1z {K:Frag}{G:GC}{fd:FuncData}{x y:Nat}(e1:∀ a S,peek K S (bindArgs fd ⟨[a],[]⟩)=some (([x,y].map G.nm).zip [a,.bool false]))(e2:∀ a k S,peek K S (bindArgs fd ⟨[a],[(("strict_mode":Str),k)]⟩)=some (([x,y].map G.nm).zip [a,k])):c1n K G fd [x] [y] []:=by
 intro args kw B st s vs kws Xs hkw hlen R KW
 rw [List.drop_nil,c8T] at hlen ⊢
 refine (List.length_eq_one_iff.mp hlen).elim fun a Z1=>?_
 subst Z1
 obtain⟨v,vs',rfl,r,R'⟩:=R.view
 obtain rfl:=c9s.mp R'.length
 cases kw with
 | none=>exact (show kws=[] from KW) ▸ ⟨[v,.bool false],fun S=>e1 v S,rfl,R.append (.cons (.bool false) .nil)⟩
 | some k=>
  refine KW.elim (clear% KW;fun kv Z1=>Z1.elim (fun e rk=>?_))
  exact e ▸ ⟨[v,kv],fun S=>e2 v kv S,rfl,R.append (.cons rk .nil)⟩
theorem c1A {K:Frag}{G:GC}{fd:FuncData}{x y z:Nat}(e1:∀ a S,peek K S (bindArgs fd ⟨[a],[]⟩)=some (([x,y,z].map G.nm).zip [a,.none,.bool false]))(e2:∀ a b S,peek K S (bindArgs fd ⟨[a,b],[]⟩)=some (([x,y,z].map G.nm).zip [a,b,.bool false]))
  (e3:∀ a b c S,peek K S (bindArgs fd ⟨[a,b,c],[]⟩)=some (([x,y,z].map G.nm).zip [a,b,c])):c1n K G fd [x,y,z] [] [.none,.bool false]:=by
 intro args kw B st s vs kws Xs hkw hlen R KW
 rw [hkw.resolve_right fun h=>h rfl] at KW ⊢
 rw [show kws=[] from KW]
 cases args with
 | nil=>exact absurd hlen (by decide:¬ 2=3)
 | cons a args=>
  obtain⟨v,vs',rfl,r,R'⟩:=R.view
  cases args with
  | nil=>
   obtain rfl:=c9s.mp R'.length
   exact⟨[v,.none,.bool false],fun S=>e1 v S,rfl,R.append (.cons .none (.cons (.bool false) .nil))⟩
  | cons b args=>
   obtain⟨v',vs'',rfl,r',R''⟩:=R'.view
   cases args with
   | nil=>
    obtain rfl:=c9s.mp R''.length
    exact⟨[v,v',.bool false],fun S=>e2 v v' S,rfl,R.append (.cons (.bool false) .nil)⟩
   | cons d args=>
    obtain⟨v'',vs3,rfl,r'',R3⟩:=R''.view
    cases args with
    | nil=>
     obtain rfl:=c9s.mp R3.length
     exact⟨[v,v',v''],fun S=>e3 v v' v'' S,rfl,R.append .nil⟩
    | cons f args=>exact absurd (c4l hlen) (Nat.not_le_of_lt (Nat.le_add_left 4 args.length))
include X hn hC hQ
theorem b5I {p:Def×Addr}(hp:p∈a6R)(h1:p.1.kwonly=[])(h2:p.1.dflt=[])(h5:p.1.params.length<5)(h0:0<p.1.params.length):a8G G p.1:=by
 have c:=c8k.mp (c1w P) p hp
 unfold a8G
 rw [h1,h2,hn]
 rw [h1] at c
 exact a4p X (by rw [hn,hC,hQ];exact c) fun vs hl S=>by rw [hn];exact b3t hp h1 h2 h5 h0 hl S
theorem b9F:a8G G ⟨19,[2],[7],[],a1R⟩:=by
 have hp:=(c9u.mp (b2h ▸ c8L:(_:Def×Addr)∈a6R.filter fun p=>p.1.f==19||p.1.f==59)).1
 have c:=c8k.mp (c1w P) _ hp
 unfold a8G
 rw [hn]
 exact a8K X (by rw [hn,hC,hQ];exact c) fun fd hfd=>c1z (fun a S=>by rw [hn];exact a6S hfd (c7H Prod.fst (c7g P S a a))) fun a k S=>by rw [hn];exact a6S hfd (c7H Prod.snd (c7g P S a k))
theorem b9G:a8G G ⟨59,[0,17,18],[],[.none,.bool false],a2p⟩:=by
 have hp:=(c9u.mp (b2h ▸ c8O _ c8L:(_:Def×Addr)∈a6R.filter fun p=>p.1.f==19||p.1.f==59)).1
 have c:=c8k.mp (c1w P) _ hp
 unfold a8G
 rw [hn]
 exact a8K X (by rw [hn,hC,hQ];exact c) fun fd hfd=>c1A (fun a S=>by rw [hn];exact a6S hfd (c7H Prod.fst (c6E P S a a a))) (fun a b S=>by rw [hn];exact a6S hfd (c7H (fun q=>q.2.1) (c6E P S a b a))) fun a b d S=>by rw [hn];exact a6S hfd (c7H (fun q=>q.2.2) (c6E P S a b d))
theorem c1B:DefAt G ids.esc [ids.escP] [] [] (a5w G.nm ids.escP):=by
 rw [hn]
 exact a4p X (by rw [hn,hC,hQ];exact c1x P) fun vs hl S=>by
  refine (List.length_eq_one_iff.mp hl).elim fun v e=>?_
  rw [hn,e]
  exact b8n P S v
theorem c4m:DefAt G ids.tr [ids.pat] [] [] (a7L G.nm ids):=by
 rw [hn]
 exact a4p X (by rw [hn,hC,hQ];exact c4k P) fun vs hl S=>by
  refine (List.length_eq_one_iff.mp hl).elim fun v e=>?_
  rw [hn,e]
  exact c1y P S v
theorem c4n:∀ df∈a0t,a8G G df:=fun df h=>by
 rw [← c1u] at h
 refine (c9n.mp h).elim fun p Z1=>Z1.elim (fun hp e=>?_)
 rw [← e]
 have g:=c8k.mp c1v p hp
 rcases or2 g with g | g59
 ·rcases or2 g with g | g19
  ·refine a0b g (clear% g;fun g g4=>?_)
   refine a0b g (clear% g;fun g g3=>?_)
   refine a0b g (clear% g;fun g1 g2=>?_)
   exact b5I X hn hC hQ hp (c8V.mp g1) (c8V.mp g2) (c7U g3) (c7U g4)
  ·have m:p∈a6R.filter fun p=>p.1.f==19||p.1.f==59:=c9u.mpr ⟨hp,c9b.mpr (.inl g19)⟩
   rw [b2h] at m
   rcases c8o.mp m with q | m
   ·rw [q];exact b9F X hn hC hQ
   ·rw [c8C.mp m];exact b9G X hn hC hQ
 ·have m:p∈a6R.filter fun p=>p.1.f==19||p.1.f==59:=c9u.mpr ⟨hp,c9b.mpr (.inr g59)⟩
  rw [b2h] at m
  rcases c8o.mp m with q | m
  ·rw [q];exact b9F X hn hC hQ
  ·rw [c8C.mp m];exact b9G X hn hC hQ
end
end
section
noncomputable def a5P:Array DictEntry:=(a1f.zipIdx.map fun p=>({ hash:=(p.1:Int),key:=.int p.1 (421+6*p.2),val:=.str ⟨#[92,p.1]⟩ (425+6*p.2) }:DictEntry)).toArray
noncomputable def c4o:Value→Option Int
 | .int k _=>some k
 | _=>none
theorem c4p {v:Value}{k:Int}(h:c4o v=some k):∃ t,v=.int k t:=by
 cases v with
 | int j t=>exact⟨t,c7H (Value.int · t) (c7Q h)⟩
 | _=>exact a0e h
noncomputable def b9H (e:DictEntry):Bool:=(c4o e.key).any fun k=>e.hash==hashInt k&&Value.isInt k e.key
theorem b5J {e:DictEntry}(h:b9H e=true):∃ k,Value.isInt k e.key=true∧e.hash=hashInt k:=by
 refine (a6P h).elim fun k Z1=>Z1.elim (fun h1 h2=>?_)
 exact⟨k,(a0i h2).2,c8d (a0i h2).1⟩
noncomputable def b5K (c:Nat):Bool:=bif a1f.contains c then (findBy Value.isInt a5P (c:Int)).any (fun v=>b5C v==some ⟨#[92,c]⟩) else (findBy Value.isInt a5P (c:Int)).isNone
theorem b5L {c:Nat}(h:b5K c=true):(a1f.contains c=true→∃ tk,findBy Value.isInt a5P (c:Int)=some (.str ⟨#[92,c]⟩ tk))∧(a1f.contains c=false→findBy Value.isInt a5P (c:Int)=none):=by
 unfold b5K at h
 refine⟨fun q=>?_,fun q=>?_⟩
 ·rw [q] at h
  refine (a6P h).elim fun v Z1=>Z1.elim (fun h1 h2=>?_)
  refine (a7N (c8d h2)).elim fun t e=>?_
  exact⟨t,h1.trans (c7H some e)⟩
 ·rw [q] at h
  exact c8W.mp h
theorem c1C:(List.range 128).all b5K=true:=by kernel_rfl
theorem c1D:a5P.toList.all b9H=true:=by kernel_rfl
theorem c1E (P:Params):(KH P).lookup 110=some { cls:=.type "dict",data:=.dict a5P 24 }:=by kernel_rfl
theorem c1F (P:Params):nsIn (KH P) mainGlobals "_special_chars_map"=some (some (.ref 110)):=by kernel_rfl
noncomputable def c4q:Value→Option String
 | .builtin n=>some n
 | _=>none
theorem b5M {v:Value}{n:String}(h:c4q v=some n):v=.builtin n:=by
 cases v with
 | builtin m=>exact c7H Value.builtin (c7Q h)
 | _=>exact a0e h
noncomputable def c1G:Value→Option String
 | .type n=>some n
 | _=>none
theorem a9Z {v:Value}{n:String}(h:c1G v=some n):v=.type n:=by
 cases v with
 | type m=>exact c7H Value.type (c7Q h)
 | _=>exact a0e h
noncomputable def a8N (P:Params)(f:Value→Option String)(n:String):Bool:=(nsIn (KH P) mainGlobals (Str.ofString n)).any (·.isNone)&&((bootBuiltins (Str.ofString n)).bind f)==some n&&Str.ofString n != ("__name__":Str)
theorem a6T (P:Params):(a3T.all (a8N P c4q)&&a1P.all (a8N P c1G)&&a8N P c1G "object")=true:=by kernel_rfl
section
variable {G:GC}{P:Params}(X:(KH P).In G.g)(hb:∀ x:Str,x≠"__name__"→G.mb x=bootBuiltins x)
include X
theorem c1H:EscOK G:=⟨110,findBy Value.isInt a5P,.inl (mg_of X G.gns (c1F P)),by decide +kernel,⟨_,a5P,24,X _ _ (c1E P),⟨rfl,rfl,rfl⟩,rfl,fun e he=>b5J (c8k.mp c1D e (Array.mem_toList_iff.mpr he)),fun k=>rfl⟩,fun c hc=>b5L (c8k.mp c1C c (c8l.mpr hc))⟩
include hb
theorem b1o {f:Value→Option String}{n:String}(h:a8N P f n=true):∃ v,f v=some n∧b9u G (Str.ofString n) v:=by
 refine a0b h (clear% h;fun h h3=>?_)
 refine a0b h (clear% h;fun h1 h2=>?_)
 refine (a6P h1).elim fun o Z1=>Z1.elim (fun e1 e2=>?_)
 refine a0j (c8d h2) fun v e3 e4=>?_
 exact⟨v,e4,.inr ⟨mg_none_of X G.gns (e1.trans (c7H some (c8W.mp e2))),(hb _ (bne_iff_ne.mp h3)).trans e3⟩⟩
theorem c1I:GlobsOK G:=
 ⟨fun n hn=>(b1o X hb (c8k.mp (a0i (a0i (a6T P)).1).1 n hn)).elim fun v h=>b5M h.1 ▸ h.2,fun n hn=>(b1o X hb (c8k.mp (a0i (a0i (a6T P)).1).2 n hn)).elim fun v h=>a9Z h.1 ▸ h.2⟩
theorem c6F:ObjOK G:=⟨(b1o X hb (a0i (a6T P)).2).elim fun v h=>a9Z h.1 ▸ h.2⟩
end
end
section
noncomputable def c1J:Prop:=∀ l:List Int,l.length≤63→∃ fuel n,n≤20∧a0C (runG ids a0t fuel n) fuel [(32,.val (.list (l.map .int)))] b5G=some (.ret (.bool true))
theorem b0a {α β:Type}[BEq α][LawfulBEq α]{x:α}{y:β}{l:List (α×β)}(h:l.lookup x=some y):(x,y)∈l:=by
 induction l with
 | nil=>exact a0e h
 | cons p l ih=>
  obtain⟨a,b⟩:=p
  rw [c7J] at h
  cases e:x==a with
  | true=>rw [e] at h;rw [c8d e,← c7Q h];exact c8L
  | false=>rw [e] at h;exact c8O _ (ih h)
theorem c6G {p:Program}{lo:List Str}{em:ExcName→Option Value}{g:Heap}{mg mb:Str→Option Value}(T:Top p lo em mg mb g){a:Addr}(ha:g.get? a=none):g.BuiltinsAt mg a:=by
 obtain⟨bm,ob,b1,b2,b3,b4,b5,b6⟩:=T.bmain
 have hne:bm≠mainGlobals:=fun q=>by
  obtain⟨o,es,ep,ho,hd,_⟩:=T.g
  rw [← q,b3] at ho
  rw [← c7Q ho,b6] at hd
  cases hd
 exact⟨bm,ob,b1,b2,hne,a0f ha b3,b3,b4,b5,b6⟩
theorem b8o {C:RC}{B:Addr→Prop}{h:Heap}{n:Nat}{vs:List Value}{ns:List Int}(I:IntsAre vs ns):RepL C B h n vs (ns.map .int):=by
 induction I with
 | nil=>exact .nil
 | cons k t r ih=>exact .cons (.int _ _) ih
theorem c6H (hlaw:c1J){prog p:Program}{lo:List Str}{em:ExcName→Option Value}{w:World}{g:Heap}{s:Shared}{mg mb m:Str→Option Value}{vs:List Value}{ns:List Int}{a L fa:Addr}{cd:Value}{name:Str}
  {scope:Scope} {body:List Stmt} {A:Around}
  (X:(KH w.params).In g) (T:Top p lo em mg mb g) (F:Fr g L s.heap m) (hmx:m (a5X 32)=some (.ref a)) (c1:CodeHd g 126 122) (c2:CodeHd g 218 214) (N:News g L s.heap [(122,tabObj #[]),(214,tabObj #[])])
  (hl:g.IsList a vs.toArray) (hI:IntsAre vs ns) (hg:s.gens=#[]) (htok:1≤s.toks) (hlen:¬ (63:Int)<(ns.length:Int)) (hA:AOk 20 A)
  (hm:mSs a5X scope.names b5G body=true) (hkind:scope.kind=.function) (hcell:scope.names.all (fun q=>q.2 != .cell&&q.2 != .free)=true) (hlam:a4A scope.names=none)
  (hx:scope.names.lookup (a5X 32)=some .local) {Q:Flow→Shared→Prop} {E:Value→Shared→Prop}
  (hQ:∀ s' m',Fr g L s'.heap m'→s'.os=s.os→s'.gens=#[]→GrownAll [(126,122),(218,214)] s'.heap→Q (.ret (.bool true)) s') :
  wpAny (model prog w) A (execs body (envOf name scope L fa cd)) Q E s:=by
 obtain⟨fuel,n,hn20,hev⟩:=hlaw ns (Int.ofNat_le.mp (Int.not_lt.mp hlen))
 have n1:=N _ (.head _)
 have n2:=N _ (.tail _ (.head _))
 have nw:∀ i,g.get? (P04 i)=none:=fun i=>by cases i;exact n2.2.2;exact n1.2.2
 have cc:∀ i,CodeHd g (C04 i) (P04 i):=fun i=>by cases i;exact c2;exact c1
 have nt:∀ i,s.heap.get? (P04 i)=some (tabObj #[]):=fun i=>by cases i;exact n2.1;exact n1.1
 have nl:∀ i,P04 i≠L:=fun i=>by cases i;exact n2.2.1;exact n1.2.1
 let G:GC:=c7A prog w g mg mb a5X b8m C04 P04 Q04 (fun i j e=>by cases i <;> cases j <;> first | rfl | exact absurd e (by decide)) T.g T.b T.nolimit (fun i=>c6G T (nw i)) nw
 have hgst:GSt G s:=⟨htok,F.keep,fun i=>⟨a4q (cc i) fun o vs _ _=>F.keep _ o,_,nt i,.nil⟩,hg⟩
 refine c1p (G:=G) (I:=ids) (tab:=a0t) (fuel:=fuel) (n:=n) (x:=32) (d:=.list (ns.map .int)) (r:=.bool true) (v:=.ref a) (m:=m) (c1I X T.builtins) (c1H X) (c6F X T.builtins) (c1B X rfl rfl rfl) (c4m X rfl rfl rfl) (c4n X rfl rfl rfl)
  hm hgst F hkind (fun y=>?_) hlam hx hmx ?_ (.list ?_ (a3q hl fun o=>F.keep _ _) (b8o hI)) hev fun v s' m' R F' hos g'=>?_
 ·exact⟨fun q=>absurd (bne_iff_ne.mp (a0i (c8k.mp hcell _ (b0a q))).1) fun h=>h rfl,fun q=>absurd (bne_iff_ne.mp (a0i (c8k.mp hcell _ (b0a q))).2) fun h=>h rfl⟩
 ·exact hA.mono hn20
 ·exact fun q=>hl.elim fun o e=>q.elim (fun q=>(c8o.mp q).elim (fun q=>a0f (nw false) e.1 q) fun q=>a0f (nw true) e.1 (c8C.mp q)) fun q=>a0f (Heap.get?_none_of_le F.above) e.1 q
 ·have e:v=.bool true:=R.view
  exact e ▸ hQ s' m' F' hos g'.bare ⟨G.tabGet _ g'.tab 122 (.tail _ (.head _)),G.tabGet _ g'.tab 214 (.head _),trivial⟩
end
section
theorem top04 (hlaw:c1J):PySem.Challenge.rw_kt0036_04.Holds:=by
 w_on
 refine holds_law c4j fun said=>?_
 refine holds_open (q:=q04) (loose:=a1Y) (Xt:=c4g q04) (XP:=XL q04 []) (Yf:=Hook.obs (kmHook KH KA (fun _=>by rfl) [122,214])) (Ya:=Hook.val (kmHook KH KA (fun _=>by rfl) [122,214])) (YP:=Hook.says (kmHook KH KA (fun _=>by rfl) [122,214])) (N:=5230) c4i (Hook.of _) (Hook.keeps _)
  (fun s e=>xl_of s (c8N.mp e).1) XL.keeps (by rfl) (by rfl) (by rfl) (fun s e=>recFacts_of (c8N.mp e).2) (by rfl) (by first | assumption | decide +kernel) (by decide +kernel) ⟨rfl,rfl,rfl,rfl,rfl,by decide +kernel⟩ ?hw ?hc
 case hw=>w_witness2
 intro w s₀ s₁ mg mb G Y fa o pm cd doc dV kV ho hd hcd hD hmg hg args vals as hpre hlay hrd hwl hlo
 have KX:=km_in_of Y
 km_tabs Y
 have X:=(Ground.X G).1
 have V:=(Ground.X G).2
 refine Ground.open G ?_
 intro T B D TE TW
 try (refine guard_noD D (by decide +kernel) ?_;clear D)
 have hT9:TabsAt ([(126,122),(218,214)]:List (Addr×Addr)) _:=List.forall_mem_cons.mpr ⟨⟨codeHd_of_K (c:=126) (P:=122) KX (by kernel_rfl),hT8 122 (.head _)⟩,List.forall_mem_cons.mpr ⟨⟨codeHd_of_K (c:=218) (P:=214) KX (by kernel_rfl),hT8 214 (.tail _ (.head _))⟩,fun _ h=>nomatch h⟩⟩
 clear hmg
 wrow_args hpre hlay hrd hwl hlo
 all_goals (
  first | refine callC_kw (enter_call ?_) | refine enter_call ?_
  w_top on
  kn_posts
  w_call any ho hd hcd hD T F
  clear hd
  kn_ghosts F T
  k_drop
  skip)
 refine c6H hlaw (by assumption) (by assumption) (by assumption) ?_ (by assumption) (by assumption) (by assumption) (by assumption) (by assumption) (by assumption) (by simp) (by assumption) ?_ (by kernel_rfl) rfl (by kernel_rfl) (by kernel_rfl) (by kernel_rfl) fun s' m' F hos hg hgr=>?_
 ·kernel_rfl
 ·exact⟨rfl,by show 1+claimMargin+1+20+20<recursionLimit;decide,by show 4+3+8*20+200<cLine;decide⟩
 ·refine⟨goodW_bool F hg (raisesW_false ?_) ?_ hos,hgr⟩
  ·wrow_none_raised
  ·kc_post
end
section
namespace LA
noncomputable def a2Q:Nat→(Nat→Int)→Int
 | 0,_=>0
 | n+1,f=>a2Q n f+f n
theorem a1a {n:Nat}{f g:Nat→Int}(h:∀ i,i<n→f i=g i):a2Q n f=a2Q n g:=by
 induction n with
 | zero=>rfl
 | succ n ih=>simp only [a2Q];rw [ih fun i hi=>h i (by lia),h n (by lia)]
theorem a6h {n:Nat}{f:Nat→Int}:a2Q n (fun i=>- f i)=- a2Q n f:=by
 induction n with
 | zero=>rfl
 | succ n ih=>simp only [a2Q];rw [ih];lia
theorem b2i {n:Nat}{f g:Nat→Int}:a2Q n (fun i=>f i+g i)=a2Q n f+a2Q n g:=by
 induction n with
 | zero=>rfl
 | succ n ih=>simp only [a2Q];rw [ih];lia
theorem a6i {n:Nat}{f:Nat→Int}(a:Int):a2Q n (fun i=>a*f i)=a*a2Q n f:=by
 induction n with
 | zero=>simp [a2Q]
 | succ n ih=>simp only [a2Q];rw [ih,Int.mul_add]
theorem b0b {n:Nat}{f:Nat→Int}(h:∀ i,i<n→f i=0):a2Q n f=0:=by
 induction n with
 | zero=>rfl
 | succ n ih=>simp only [a2Q];rw [ih fun i hi=>h i (by lia),h n (by lia)];rfl
theorem b3u {n:Nat}{f:Nat→Int}(h:∀ i,0<i→i<n+1→f i=0):a2Q (n+1) f=f 0:=by
 induction n with
 | zero=>simp [a2Q]
 | succ n ih=>
  rw [a2Q,ih fun i h1 h2=>h i h1 (by lia),h (n+1) (by lia) (by lia)];lia
theorem b5N {n r:Nat}{f g:Nat→Int}(hr:r+1<n)(h:∀ i,i<n→i≠r→i≠r+1→g i=- f i)(h1:g r=- f (r+1))(h2:g (r+1)=- f r):a2Q n g=- a2Q n f:=by
 induction n with
 | zero=>lia
 | succ n ih=>
  by_cases e:n=r+1
  ·subst e
   simp only [a2Q]
   rw [a1a (g:=fun i=>- f i) fun i hi=>h i (by lia) (by lia) (by lia),a6h,h1,h2]
   lia
  ·simp only [a2Q]
   rw [ih (by lia) fun i hi=>h i (by lia),h n (by lia) (by lia) (by lia)]
   lia
noncomputable def skip (i a:Nat):Nat:=if a<i then a else a+1
theorem a1K {i a:Nat}(h:a<i):skip i a=a:=c7K h
theorem a2r {i a:Nat}(h:i≤a):skip i a=a+1:=c7M (Nat.not_lt.mpr h)
noncomputable abbrev Mat:=Nat→Nat→Int
noncomputable def a1l (M:Mat)(i:Nat):Mat:=fun a b=>M (skip i a) (b+1)
noncomputable def sgn (i:Nat):Int:=(-1) ^ i
theorem a4U (i:Nat):sgn (i+1)=- sgn i:=by unfold sgn;rw [Int.pow_succ];lia
noncomputable def det:Nat→Mat→Int
 | 0,_=>1
 | n+1,M=>a2Q (n+1) fun i=>sgn i*M i 0*det n (a1l M i)
theorem a0D:∀ {n:Nat} {M N:Mat},(∀ i j,i<n→j<n→M i j=N i j)→det n M=det n N
 | 0,_,_,_=>rfl
 | n+1,M,N,h=>by
  simp only [det]
  refine a1a fun i hi=>?_
  rw [h i 0 hi (by lia),a0D (n:=n) (M:=a1l M i) (N:=a1l N i) fun a b ha hb=>?_]
  unfold a1l skip
  exact h _ _ (by split <;> lia) (by lia)
noncomputable def a0B (M:Mat)(r:Nat):Mat:=fun i j=>if i=r then M (r+1) j else if i=r+1 then M r j else M i j
theorem a1L:∀ {n r:Nat} {M:Mat},r+1<n→det n (a0B M r)=- det n M
 | 0,_,_,h=>by lia
 | n+1,r,M,h=>by
  simp only [det]
  refine b5N h (fun i hin h1 h2=>?_) ?_ ?_
  ·have e0:a0B M r i 0=M i 0:=by unfold a0B;rw [c7M h1,c7M h2]
   rw [e0]
   by_cases hi:i<r
   ·have:det n (a1l (a0B M r) i)=det n (a0B (a1l M i) (r - 1)):=a0D fun a b _ _=>by
     show a0B M r (skip i a) (b+1) = _
     unfold a0B a1l
     rw [a2r (i:=i) (a:=r - 1+1) (by lia),a2r (i:=i) (a:=r - 1) (by lia)]
     by_cases q:a<i
     ·rw [a1K q,c7M (by lia),c7M (by lia),c7M (by lia),c7M (by lia)]
     ·rw [a2r (i:=i) (a:=a) (by lia)]
      by_cases q1:a=r - 1
      ·rw [c7K (by lia),c7K q1];congr 1;lia
      ·by_cases q2:a=r - 1+1
       ·rw [c7M (by lia),c7K (by lia),c7M q1,c7K q2];congr 1;lia
       ·rw [c7M (by lia),c7M (by lia),c7M q1,c7M q2]
    rw [this,a1L (by lia),Int.mul_neg]
   ·have hi2:r+1<i:=by lia
    have:det n (a1l (a0B M r) i)=det n (a0B (a1l M i) r):=a0D fun a b _ _=>by
     show a0B M r (skip i a) (b+1) = _
     unfold a0B a1l
     rw [a1K (i:=i) (a:=r+1) (by lia),a1K (i:=i) (a:=r) (by lia)]
     by_cases q:a<i
     ·rw [a1K q]
     ·rw [a2r (i:=i) (a:=a) (by lia),c7M (by lia),c7M (by lia),c7M (by lia),c7M (by lia)]
    rw [this,a1L (by lia),Int.mul_neg]
  ·have e0:a0B M r r 0=M (r+1) 0:=by unfold a0B;rw [c7K rfl]
   have:det n (a1l (a0B M r) r)=det n (a1l M (r+1)):=a0D fun a b _ _=>by
    show a0B M r (skip r a) (b+1)=M (skip (r+1) a) (b+1)
    unfold a0B
    by_cases q:a<r
    ·rw [a1K q,a1K (i:=r+1) (a:=a) (by lia),c7M (by lia),c7M (by lia)]
    ·rw [a2r (i:=r) (a:=a) (by lia),c7M (by lia)]
     by_cases q1:a=r
     ·rw [c7K (by lia),a1K (by lia),q1]
     ·rw [c7M (by lia),a2r (by lia)]
   rw [e0,this,a4U,Int.neg_mul,Int.neg_mul,Int.neg_neg]
  ·have e0:a0B M r (r+1) 0=M r 0:=by unfold a0B;rw [c7M (by lia),c7K rfl]
   have:det n (a1l (a0B M r) (r+1))=det n (a1l M r):=a0D fun a b _ _=>by
    show a0B M r (skip (r+1) a) (b+1)=M (skip r a) (b+1)
    unfold a0B
    by_cases q:a<r
    ·rw [a1K q,a1K (i:=r+1) (a:=a) (by lia),c7M (by lia),c7M (by lia)]
    ·rw [a2r (i:=r) (a:=a) (by lia)]
     by_cases q1:a=r
     ·rw [a1K (by lia),c7K q1,q1]
     ·rw [a2r (by lia),c7M (by lia),c7M (by lia)]
   rw [e0,this,a4U,Int.neg_mul,Int.neg_mul]
noncomputable def a1o (M:Mat)(r:Nat)(v:Nat→Int):Mat:=fun i j=>if i=r then v j else M i j
theorem a7P:∀ {n r:Nat} {M:Mat} {u v:Nat→Int} {a b:Int},r<n→det n (a1o M r fun j=>a*u j+b*v j)=a*det n (a1o M r u)+b*det n (a1o M r v)
 | 0,_,_,_,_,_,_,h=>by lia
 | n+1,r,M,u,v,a,b,h=>by
  simp only [det]
  rw [← a6i,← a6i,← b2i]
  refine a1a fun i hi=>?_
  by_cases e:i=r
  ·subst e
   have e0:∀ w:Nat→Int,a1o M i w i 0=w 0:=fun w=>by unfold a1o;rw [c7K rfl]
   have e1:∀ w:Nat→Int,det n (a1l (a1o M i w) i)=det n (a1l M i):=fun w=>a0D fun a b _ _=>by
    show a1o M i w (skip i a) (b+1)=M (skip i a) (b+1)
    unfold a1o
    by_cases q:a<i
    ·rw [a1K q,c7M (by lia)]
    ·rw [a2r (by lia),c7M (by lia)]
   rw [e0,e0,e0,e1,e1,e1]
   generalize det n (a1l M i)=d
   generalize sgn i=s
   generalize u 0=x
   generalize v 0=y
   rw [Int.mul_add,Int.add_mul]
   congr 1
   ·rw [← c9v,← c9v,c9w s a,c9v a s x]
   ·rw [← c9v,← c9v,c9w s b,c9v b s y]
  ·have e0:∀ w:Nat→Int,a1o M r w i 0=M i 0:=fun w=>by unfold a1o;rw [c7M e]
   have hn:0<n:=by lia
   have e1:∀ w:Nat→Int,det n (a1l (a1o M r w) i)=det n (a1o (a1l M i) (if r<i then r else r - 1) fun j=>w (j+1)):=fun w=>a0D fun a b _ _=>by
    show a1o M r w (skip i a) (b+1)=a1o (a1l M i) (if r<i then r else r - 1) (fun j=>w (j+1)) a b
    unfold a1o a1l
    by_cases q:a<i
    ·rw [a1K q]
     by_cases q1:r<i
     ·rw [c7K q1]
     ·rw [c7M q1,c7M (by lia),c7M (by lia)]
    ·rw [a2r (by lia)]
     by_cases q1:r<i
     ·rw [c7K q1,c7M (by lia),c7M (by lia)]
     ·rw [c7M q1]
      by_cases q2:a+1=r
      ·rw [c7K q2,c7K (by lia)]
      ·rw [c7M q2,c7M (by lia)]
   rw [e0,e0,e0,e1,e1,e1,a7P (by split <;> lia)]
   generalize det n (a1o _ _ _)=d1
   generalize det n (a1o _ _ _)=d2
   generalize sgn i*M i 0=s
   rw [Int.mul_add,← c9v,← c9v,c9w s a,c9w s b,c9v,c9v]
theorem b5O {n r:Nat}{M:Mat}(h:r+1<n)(e:∀ j,M r j=M (r+1) j):det n M=0:=by
 have h1:=a1L (M:=M) h
 have h2:det n (a0B M r)=det n M:=a0D fun i j _ _=>by
  unfold a0B
  split
  ·rename_i q;subst q;exact (e j).symm
  ·split
   ·rename_i q;subst q;exact e j
   ·rfl
 lia
theorem a6U {n:Nat}:∀ {r:Nat} {M:Mat},0<r→r<n→(∀ j,M 0 j=M r j)→det n M=0
 | 0,_,h,_,_=>by lia
 | 1,M,_,h,e=>b5O h e
 | r+2,M,_,h,e=>by
  have h1:=a1L (M:=M) (r:=r+1) (n:=n) (by lia)
  have h2:=a6U (n:=n) (r:=r+1) (M:=a0B M (r+1)) (by lia) (by lia) fun j=>by
   unfold a0B
   rw [c7M (by lia),c7M (by lia),c7K rfl]
   exact e j
  lia
noncomputable def elim (M:Mat):Mat:=fun i j=>M 0 0*M (i+1) (j+1) - M (i+1) 0*M 0 (j+1)
theorem b8p (n:Nat)(M:Mat):M 0 0 ^ n*det (n+1) M=M 0 0*det n (elim M):=by
 have step:∀ k,k≤n→det (n+1) (fun i j=>if 0<i∧i≤k then M 0 0*M i j - M i 0*M 0 j else M i j)=M 0 0 ^ k*det (n+1) M:=by
  intro k
  induction k with
  | zero=>
   intro _
   rw [Int.pow_zero,Int.one_mul]
   exact a0D fun i j _ _=>by rw [c7M (by lia)]
  | succ k ih=>
   intro hk
   have e1:det (n+1) (fun i j=>if 0<i∧i≤k+1 then M 0 0*M i j - M i 0*M 0 j else M i j) =
     det (n+1) (a1o (fun i j=>if 0<i∧i≤k then M 0 0*M i j - M i 0*M 0 j else M i j) (k+1) fun j=>M 0 0*M (k+1) j+(- M (k+1) 0)*M 0 j):=a0D fun i j _ _=>by
    unfold a1o
    by_cases q:i=k+1
    ·subst q
     rw [c7K (by lia),c7K rfl]
     show _=M 0 0*M (k+1) j+- M (k+1) 0*M 0 j
     rw [Int.neg_mul,Int.sub_eq_add_neg]
    ·rw [c7M q]
     show _=if 0<i∧i≤k then M 0 0*M i j - M i 0*M 0 j else M i j
     by_cases q2:0<i∧i≤k
     ·rw [c7K (by lia),c7K q2]
     ·rw [c7M (by lia),c7M q2]
   rw [e1,a7P (by lia)]
   have e2:det (n+1) (a1o (fun i j=>if 0<i∧i≤k then M 0 0*M i j - M i 0*M 0 j else M i j) (k+1) fun j=>M (k+1) j)=M 0 0 ^ k*det (n+1) M:=by
    rw [← ih (by lia)]
    refine a0D fun i j _ _=>?_
    unfold a1o
    by_cases q:i=k+1
    ·subst q;rw [c7K rfl];show _=if 0<k+1∧k+1≤k then _ else _;rw [c7M (by lia)]
    ·rw [c7M q]
   have e3:det (n+1) (a1o (fun i j=>if 0<i∧i≤k then M 0 0*M i j - M i 0*M 0 j else M i j) (k+1) fun j=>M 0 j)=0:=
    a6U (r:=k+1) (by lia) (by lia) fun j=>by
     unfold a1o
     rw [c7M (by lia),c7K rfl]
     show (if 0<0∧0≤k then _ else M 0 j)=M 0 j
     rw [c7M (by lia)]
   rw [e2,e3,Int.mul_zero,Int.add_zero,Int.pow_succ,c9w (M 0 0 ^ k) (M 0 0),c9v]
 rw [← step n (c7G n)]
 simp only [det]
 rw [b3u fun i h1 h2=>?_]
 ·have:sgn 0=1:=rfl
  rw [this,Int.one_mul,c7M (by lia)]
  congr 1
  refine a0D fun i j hi _=>?_
  unfold a1l skip elim
  rw [c7M (by lia)]
  show (if 0<i+1∧i+1≤n then M 0 0*M (i+1) (j+1) - M (i+1) 0*M 0 (j+1) else M (i+1) (j+1)) = _
  rw [c7K (by lia)]
 ·rw [c7K (by lia),c9w (M i 0),Int.sub_self,Int.mul_zero,Int.zero_mul]
theorem b0c (c:Int):∀ (n:Nat) (M:Mat),det n (fun i j=>c*M i j)=c ^ n*det n M
 | 0,_=>by simp [det]
 | n+1,M=>by
  simp only [det]
  rw [← a6i]
  refine a1a fun i _=>?_
  have:det n (a1l (fun i j=>c*M i j) i)=c ^ n*det n (a1l M i):=b0c c n (a1l M i)
  rw [this,Int.pow_succ]
  generalize det n (a1l M i)=d
  generalize sgn i=s
  generalize M i 0=m
  generalize c ^ n=p
  rw [show s*(c*m)*(p*d)=(p*c)*(s*m*d) from by
   rw [c9w p c,c9v s,c9v c m,c9v c p,← c9v s c,c9w s c,c9v c s]
   congr 1
   rw [← c9v m p d,c9w m p,c9v p m d,← c9v s p,c9w s p,c9v p s,← c9v s m d]]
end LA
end
section
namespace LA
theorem b0d {i:Nat}:∀ {n:Nat} {h:Nat→Int},i≤n→a2Q (n+1) h=h i+a2Q n fun j=>h (skip i j)
 | 0,h,hi=>by
  obtain rfl:i=0:=by lia
  simp [a2Q]
 | n+1,h,hi=>by
  rw [a2Q]
  by_cases e:i=n+1
  ·subst e
   have:a2Q (n+1) (fun j=>h (skip (n+1) j))=a2Q (n+1) h:=a1a fun j hj=>by rw [a1K hj]
   rw [this]
   lia
  ·rw [b0d (n:=n) (i:=i) (by lia)]
   simp only [a2Q]
   rw [a2r (i:=i) (a:=n) (by lia)]
   lia
theorem a6V {n:Nat}:∀ {m:Nat} {f:Nat→Nat→Int},a2Q n (fun i=>a2Q m fun k=>f i k)=a2Q m fun k=>a2Q n fun i=>f i k
 | 0,f=>by simp only [a2Q];exact b0b fun _ _=>rfl
 | m+1,f=>by simp only [a2Q];rw [b2i,a6V]
noncomputable def a4h (i k:Nat):Nat:=if k<i then k else k - 1
theorem b1p (i j:Nat):a4h i (skip i j)=j:=by
 unfold a4h skip
 repeat' split
 all_goals lia
noncomputable def a8O (n:Nat)(M:Mat)(u v:Nat→Int)(i k:Nat):Int:=
 if k=i then 0 else sgn i*sgn (a4h i k)*(u i*v k)*det n fun a b=>M (skip i (skip (a4h i k) a)) (b+2)
theorem b5P (n:Nat)(M:Mat):det (n+2) M=a2Q (n+2) fun i=>a2Q (n+2) fun k=>a8O n M (fun i=>M i 0) (fun i=>M i 1) i k:=by
 simp only [det]
 refine a1a fun i hi=>?_
 rw [b0d (i:=i) (n:=n+1) (by lia),← a6i]
 have e0:a8O n M (fun i=>M i 0) (fun i=>M i 1) i i=0:=by unfold a8O;rw [c7K rfl]
 rw [e0,Int.zero_add]
 refine a1a fun j hj=>?_
 unfold a8O
 rw [c7M (by unfold skip;split <;> lia),b1p]
 show sgn i*M i 0*(sgn j*M (skip i j) 1*det n (a1l (a1l M i) j))=sgn i*sgn j*(M i 0*M (skip i j) 1)*det n (a1l (a1l M i) j)
 generalize det n (a1l (a1l M i) j)=d
 simp only [c9v]
 rw [← c9v (M i 0) (sgn j),c9w (M i 0) (sgn j)]
 simp only [c9v]
theorem b3v (n:Nat)(M:Mat)(u v:Nat→Int)(i k:Nat):a8O n M v u i k=- a8O n M u v k i:=by
 unfold a8O
 by_cases e:k=i
 ·rw [c7K e,c7K e.symm];rfl
 ·rw [c7M e,c7M fun q=>e q.symm]
  have e1:det n (fun a b=>M (skip i (skip (a4h i k) a)) (b+2))=det n (fun a b=>M (skip k (skip (a4h k i) a)) (b+2)):=a0D fun a b _ _=>by
   congr 1
   unfold skip a4h
   repeat' split
   all_goals lia
  have e2:sgn i*sgn (a4h i k)=- (sgn k*sgn (a4h k i)):=by
   unfold a4h
   by_cases q:k<i
   ·rw [c7K q,c7M (by lia)]
    obtain⟨m,rfl⟩:∃ m,i=m+1:=⟨i - 1,by lia⟩
    rw [a4U,Nat.add_sub_cancel,Int.neg_mul,c9w]
   ·rw [c7M q,c7K (by lia)]
    obtain⟨m,rfl⟩:∃ m,k=m+1:=⟨k - 1,by lia⟩
    rw [a4U,Nat.add_sub_cancel,Int.neg_mul,c9w,Int.neg_neg]
  rw [e1,e2,c9w (v i) (u k)]
  simp only [Int.neg_mul]
noncomputable def a1Z (M:Mat)(c:Nat):Mat:=fun i j=>if j=c then M i (c+1) else if j=c+1 then M i c else M i j
theorem a6W:∀ {c n:Nat} {M:Mat},c+1<n→det n (a1Z M c)=- det n M
 | _,0,_,h=>by lia
 | 0,1,_,h=>by lia
 | 0,n+2,M,h=>by
  rw [b5P,b5P]
  have e:∀ i k,a8O n (a1Z M 0) (fun i=>a1Z M 0 i 0) (fun i=>a1Z M 0 i 1) i k=- a8O n M (fun i=>M i 0) (fun i=>M i 1) k i:=fun i k=>by
   rw [← b3v]
   rfl
  rw [a1a fun i _=>a1a fun k _=>e i k,a1a fun i _=>a6h,a6h,a6V]
 | c+1,n+1,M,h=>by
  simp only [det]
  rw [← a6h]
  refine a1a fun i _=>?_
  have e0:a1Z M (c+1) i 0=M i 0:=by unfold a1Z;rw [c7M (by lia),c7M (by lia)]
  have e1:det n (a1l (a1Z M (c+1)) i)=det n (a1Z (a1l M i) c):=a0D fun a b _ _=>by
   show a1Z M (c+1) (skip i a) (b+1) = _
   unfold a1Z a1l
   by_cases q1:b=c
   ·rw [c7K (by lia),c7K q1]
   ·by_cases q2:b=c+1
    ·rw [c7M (by lia),c7K (by lia),c7M q1,c7K q2]
    ·rw [c7M (by lia),c7M (by lia),c7M q1,c7M q2]
  rw [e0,e1,a6W (by lia),Int.mul_neg]
noncomputable def b2j {α:Type}(f:α→α→Int)(d:α)(l:List α):Mat:=fun i j=>f (l.getD i d) (l.getD j d)
noncomputable def sw (r i:Nat):Nat:=if i=r then r+1 else if i=r+1 then r else i
theorem b1q {α:Type}(d x y:α)(l:List α):∀ (pre:List α) (i:Nat),(pre++x :: y :: l).getD i d=(pre++y :: x :: l).getD (sw pre.length i) d
 | [],0=>rfl
 | [],1=>rfl
 | [],i+2=>by simp [sw]
 | a :: pre,0=>by simp [sw]
 | a :: pre,i+1=>by
  have:=b1q d x y l pre i
  have e:sw (a :: pre).length (i+1)=sw pre.length i+1:=by
   simp only [sw,c8x]
   repeat' split
   all_goals lia
  rw [e]
  simpa using this
theorem b5Q {α:Type}{f:α→α→Int}{d x y:α}{l pre:List α}:det (pre++x :: y :: l).length (b2j f d (pre++x :: y :: l))=det (pre++y :: x :: l).length (b2j f d (pre++y :: x :: l)):=by
 have hn:(pre++x :: y :: l).length=(pre++y :: x :: l).length:=by simp
 have hr:pre.length+1<(pre++y :: x :: l).length:=by simp
 rw [hn]
 have:det (pre++y :: x :: l).length (b2j f d (pre++x :: y :: l))=det (pre++y :: x :: l).length (a1Z (a0B (b2j f d (pre++y :: x :: l)) pre.length) pre.length):=a0D fun i j _ _=>by
  unfold b2j
  rw [b1q d x y l pre i,b1q d x y l pre j]
  generalize pre.length=r
  unfold a1Z a0B sw
  repeat' split
  all_goals first | rfl | lia
 rw [this,a6W hr,a1L hr,Int.neg_neg]
theorem b0e {α:Type}{f:α→α→Int}{d:α}{l l':List α}(h:l.Perm l'):∀ pre:List α,det (pre++l).length (b2j f d (pre++l))=det (pre++l').length (b2j f d (pre++l')):=by
 induction h with
 | nil=>intro pre;rfl
 | cons x _ ih=>intro pre;have:=ih (pre++[x]);simpa only [c8U,List.singleton_append] using this
 | swap x y l=>intro pre;exact b5Q
 | trans _ _ ih1 ih2=>intro pre;exact (ih1 pre).trans (ih2 pre)
theorem b8q {α:Type}{f:α→α→Int}{d:α}{l l':List α}(h:l.Perm l'):det l.length (b2j f d l)=det l'.length (b2j f d l'):=b0e h []
end LA
end
section
namespace LA
noncomputable def mv (p:Nat)(M:Mat):Mat:=fun i j=>match i with
 | 0=>M p j
 | i+1=>M (skip p i) j
theorem b9I:∀ {p n:Nat} {M:Mat},p<n→det n (mv p M)=sgn p*det n M
 | 0,n,M,h=>by
  have:det n (mv 0 M)=det n M:=a0D fun i j _ _=>by cases i <;> rfl
  rw [this];simp [sgn]
 | p+1,n,M,h=>by
  have:det n (mv (p+1) M)=det n (mv p (a0B M p)):=a0D fun i j _ _=>by
   cases i with
   | zero=>show M (p+1) j=a0B M p p j;unfold a0B;rw [c7K rfl]
   | succ i=>
    show M (skip (p+1) i) j=a0B M p (skip p i) j
    unfold a0B skip
    repeat' split
    all_goals first | rfl | lia | (congr 1;lia)
  rw [this,b9I (by lia),a1L h,a4U,Int.neg_mul,Int.mul_neg]
noncomputable def step (p:Nat)(l:Int)(M:Mat):Mat:=fun i j=>(M p 0*M (skip p i) (j+1) - M (skip p i) 0*M p (j+1)).fdiv l
noncomputable def c2C (n:Nat)(l:Int)(M:Mat):Prop:=∀ (r:Nat) (ρ γ:Nat→Nat),(∀ i,i≤r→ρ i<n∧γ i<n)→l ^ r ∣ det (r+1) fun i j=>M (ρ i) (γ j)
theorem b8r (n:Nat)(M:Mat):c2C n 1 M:=fun r ρ γ _=>by rw [Int.one_pow];exact Int.one_dvd _
theorem c4r (M:Mat):det 2 M=M 0 0*M 1 1 - M 1 0*M 0 1:=by
 simp [det,a2Q,sgn,a1l,skip,Int.sub_eq_add_neg,Int.neg_mul]
theorem b8s {n p:Nat}{l:Int}{M:Mat}(G:c2C (n+1) l M)(hp:p<n+1){i j:Nat}(hi:i<n)(hj:j<n) :
  l*step p l M i j=M p 0*M (skip p i) (j+1) - M (skip p i) 0*M p (j+1):=by
 have h:=G 1 (fun k=>if k=0 then p else skip p i) (fun k=>if k=0 then 0 else j+1) fun k hk=>by
  constructor
  ·split
   ·exact hp
   ·unfold skip;split <;> lia
  ·split <;> lia
 rw [c4r,Int.pow_one] at h
 simp only [c7K,Nat.one_ne_zero,if_false] at h
 unfold step
 refine h.elim (clear% h;fun q e=>?_)
 rw [e]
 by_cases hl:l=0
 ·rw [hl];simp
 ·rw [Int.mul_fdiv_cancel_left _ hl]
theorem b2k {n p r:Nat}{l:Int}{M:Mat}(G:c2C (n+1) l M)(hp:p<n+1){ρ γ:Nat→Nat}(h:∀ i,i<r→ρ i<n∧γ i<n) :
  M p 0 ^ r*det (r+1) (fun i j=>mv p M (match i with | 0=>0 | i+1=>ρ i+1) (match j with | 0=>0 | j+1=>γ j+1))=M p 0*(l ^ r*det r fun i j=>step p l M (ρ i) (γ j)):=by
 have e:=b8p r (fun i j=>mv p M (match i with | 0=>0 | i+1=>ρ i+1) (match j with | 0=>0 | j+1=>γ j+1))
 rw [show (mv p M 0 0)=M p 0 from rfl] at e
 rw [e,← b0c]
 congr 1
 refine a0D fun i j hi hj=>?_
 show M p 0*M (skip p (ρ i)) (γ j+1) - M (skip p (ρ i)) 0*M p (γ j+1) = _
 rw [b8s G hp (h i hi).1 (h j hj).2]
theorem a2a {a b c:Int}(ha:a≠0)(h:a*b=a*c):b=c:=Int.eq_of_mul_eq_mul_left ha h
theorem b5R {n p:Nat}{l:Int}{M:Mat}(hl:l≠0)(G:c2C (n+1) l M)(hp:p<n+1)(ha:M p 0≠0):c2C n (M p 0) (step p l M):=fun r ρ γ h=>by
 have e:=b2k (r:=r+1) G hp (ρ:=ρ) (γ:=γ) fun i hi=>h i (by lia)
 have hin:∀ i,i≤r+1→(match i with | 0=>p | i+1=>skip p (ρ i))<n+1∧(match i with | 0=>0 | i+1=>γ i+1)<n+1:=fun i hi=>by
  cases i with
  | zero=>exact⟨hp,Nat.succ_pos n⟩
  | succ i=>have:=h i (by lia);exact⟨by show skip p (ρ i)<n+1;unfold skip;split <;> lia,by show γ i+1<n+1;lia⟩
 refine (G (r+1) _ _ hin).elim fun q hq=>?_
 have e2:det (r+1+1) (fun i j=>mv p M (match i with | 0=>0 | i+1=>ρ i+1) (match j with | 0=>0 | j+1=>γ j+1))=l ^ (r+1)*q:=by
  rw [← hq]
  refine a0D fun i j _ _=>?_
  cases i <;> rfl
 rw [e2] at e
 refine⟨q,?_⟩
 have hp1:l ^ (r+1)≠0:=Int.pow_ne_zero hl
 refine a2a hp1 (a2a ha ?_)
 rw [← e,Int.pow_succ]
 simp only [Int.mul_left_comm,c9w,c9v]
noncomputable def b7a (n:Nat)(M:Mat):List Nat:=(List.range n).filter fun k=>M k 0 != 0
noncomputable def bar:Nat→Mat→Int→Int→Int
 | 0,_,w,l=>w*l
 | n+1,M,w,l=>match b7a (n+1) M with
  | []=>0
  | p :: _=>bar n (step p l M) (w*(-1) ^ p) (M p 0)
theorem b0f {n:Nat}{M:Mat}(h:∀ k,k<n+1→M k 0=0):det (n+1) M=0:=by
 simp only [det]
 exact b0b fun i hi=>by rw [h i hi,Int.mul_zero,Int.zero_mul]
theorem b8t {n:Nat}{M:Mat}(h:b7a n M=[]){k:Nat}(hk:k<n):M k 0=0:=by
 unfold b7a at h
 rw [List.filter_eq_nil_iff] at h
 have:=h k (c8l.mpr hk)
 simpa using this
theorem col0_cons {n p:Nat}{r:List Nat}{M:Mat}(h:b7a n M=p :: r):p<n∧M p 0≠0:=by
 have:p∈b7a n M:=by rw [h];exact .head _
 unfold b7a at this
 rw [c9u,c8l] at this
 exact⟨this.1,by simpa using this.2⟩
theorem b5S:∀ {n:Nat} {M:Mat} {w l:Int},l≠0→c2C n l M→l*(w*det n M)=bar n M w l*l ^ n
 | 0,M,w,l,_,_=>by simp [det,bar,c9w]
 | n+1,M,w,l,hl,G=>by
  unfold bar
  split
  ·rename_i e
   rw [b0f fun k hk=>b8t e hk];simp
  ·rename_i p r e
   refine (col0_cons e).elim fun hp ha=>?_
   have ih:=b5S (w:=w*(-1) ^ p) ha (b5R hl G hp ha)
   have e1:=b2k (r:=n) G hp (ρ:=fun i=>i) (γ:=fun i=>i) fun i hi=>⟨hi,hi⟩
   have e2:det (n+1) (fun i j=>mv p M (match i with | 0=>0 | i+1=>i+1) (match j with | 0=>0 | j+1=>j+1))=sgn p*det (n+1) M:=by
    rw [← b9I hp]
    refine a0D fun i j _ _=>?_
    cases i <;> cases j <;> rfl
   rw [e2] at e1
   generalize bar n (step p l M) (w*(-1) ^ p) (M p 0)=R at ih ⊢
   have hs:sgn p*sgn p=1:=by
    unfold sgn
    rw [← Int.pow_add,← Nat.two_mul,Int.pow_mul]
    simp [Int.one_pow]
   rw [show ((-1:Int) ^ p)=sgn p from rfl] at ih
   have e3:M p 0 ^ n*(sgn p*det (n+1) M)=M p 0*(l ^ n*det n (step p l M)):=e1
   generalize det (n+1) M=X at e3 ⊢
   generalize det n (step p l M)=D at e3 ih
   generalize M p 0=a at *
   generalize sgn p=s at *
   refine a2a (Int.pow_ne_zero (m:=n) ha) ?_
   rw [Int.pow_succ]
   generalize l ^ n=L at *
   generalize a ^ n=A at *
   grind
end LA
end
section
namespace LA
theorem b5T {n:Nat}{M:Mat}:bar n M 1 1=det n M:=by
 have:=b5S (w:=1) (l:=1) (by decide) (b8r n M)
 simp [Int.one_pow] at this
 exact this.symm
theorem b8u {α:Type}{f:α→α→Int}{d:α}{l l':List α}(h:l.Perm l'):bar l.length (b2j f d l) 1 1=bar l'.length (b2j f d l') 1 1:=by
 rw [b5T,b5T,b8q h]
noncomputable abbrev Tab:=List (List Int)
noncomputable def c1K (t:Tab):Mat:=fun i j=>(t.getD i []).getD j 0
noncomputable def a2H (p:Nat)(l:Int)(t:Tab):Tab:=(t.take p++t.drop (p+1)).map fun row=>(List.range (t.length - 1)).map fun c=>((t.getD p []).getD 0 0*row.getD (c+1) 0 - row.getD 0 0*(t.getD p []).getD (c+1) 0).fdiv l
noncomputable def b4c (t:Tab):List Nat:=(List.range t.length).filter fun k=>(t.getD k []).getD 0 0 != 0
noncomputable def a8P:Nat→Tab→Int→Int→Int
 | 0,_,w,l=>w*l
 | n+1,t,w,l=>match b4c t with
  | []=>0
  | p :: _=>a8P n (a2H p l t) (w*(-1) ^ p) ((t.getD p []).getD 0 0)
theorem a4V {α:Type}(d:α):∀ (p:Nat) (t:List α) (i:Nat),p<t.length→(t.take p++t.drop (p+1)).getD i d=t.getD (skip p i) d
 | _,[],i,h=>by simp at h
 | 0,a :: t,i,_=>by simp [skip]
 | p+1,a :: t,0,h=>by simp [skip]
 | p+1,a :: t,i+1,h=>by
  have:=a4V d p t i (by simpa using h)
  have e:skip (p+1) (i+1)=skip p i+1:=by unfold skip;(repeat' split) <;> lia
  rw [e]
  simpa using this
theorem stepL_len {p:Nat}{l:Int}{t:Tab}(h:p<t.length):(a2H p l t).length=t.length - 1:=by
 simp [a2H];lia
theorem b8v {p i j:Nat}{l:Int}{t:Tab}(h:p<t.length)(hi:i<t.length - 1)(hj:j<t.length - 1):c1K (a2H p l t) i j=step p l (c1K t) i j:=by
 have e:(a2H p l t)[i]?=some ((List.range (t.length - 1)).map fun c=>((t.getD p []).getD 0 0*((t.take p++t.drop (p+1)).getD i []).getD (c+1) 0 - ((t.take p++t.drop (p+1)).getD i []).getD 0 0*(t.getD p []).getD (c+1) 0).fdiv l):=by
  unfold a2H
  rw [c8M]
  have:i<(t.take p++t.drop (p+1)).length:=by simp;lia
  rw [c8n this,c9x,c8m (i:=i),c8n this]
  rfl
 unfold c1K step
 rw [c8m (i:=i),e,Option.getD_some,c8m (i:=j),c8M,c9p hj,c9x,Option.getD_some,a4V [] p t i h]
theorem colL_eq {n:Nat}{t:Tab}(h:t.length=n):b4c t=b7a n (c1K t):=by subst h;rfl
theorem a4W:∀ {n:Nat} {M N:Mat} {w l:Int},(∀ i j,i<n→j<n→M i j=N i j)→bar n M w l=bar n N w l
 | 0,_,_,_,_,_=>rfl
 | n+1,M,N,w,l,h=>by
  have e:b7a (n+1) M=b7a (n+1) N:=by
   unfold b7a
   refine List.filter_congr fun k hk=>?_
   rw [h k 0 (c8l.mp hk) (by lia)]
  unfold bar
  rw [e]
  split
  ·rfl
  ·rename_i p r e'
   refine (col0_cons e').elim fun hp _=>?_
   rw [h p 0 hp (by lia)]
   refine a4W fun i j hi hj=>?_
   unfold step
   rw [h p 0 hp (by lia),h (skip p i) (j+1) (by unfold skip;split <;> lia) (by lia),h (skip p i) 0 (by unfold skip;split <;> lia) (by lia),h p (j+1) hp (by lia)]
theorem b1r:∀ {n:Nat} {t:Tab} {w l:Int},t.length=n→a8P n t w l=bar n (c1K t) w l
 | 0,_,_,_,_=>rfl
 | n+1,t,w,l,h=>by
  unfold a8P bar
  rw [colL_eq h]
  split
  ·rename_i e;try simp only [e]
  ·rename_i p r e
   try simp only [e]
   refine (col0_cons e).elim fun hp _=>?_
   have hp':p<t.length:=by lia
   rw [b1r (by rw [stepL_len hp',h];rfl)]
   exact a4W fun i j hi hj=>b8v hp' (by lia) (by lia)
noncomputable def a1C {α:Type}(f:α→α→Int)(l:List α):Tab:=l.map fun x=>l.map fun y=>f x y
theorem b2l {α:Type}{f:α→α→Int}{d:α}{l:List α}{i j:Nat}(hi:i<l.length)(hj:j<l.length):c1K (a1C f l) i j=b2j f d l i j:=by
 unfold c1K a1C b2j
 simp [c8m,c8M,c8n hi,c8n hj]
theorem barL_perm {α:Type}{f:α→α→Int}{l l':List α}(h:l.Perm l'):a8P l.length (a1C f l) 1 1=a8P l'.length (a1C f l') 1 1:=by
 cases l with
 | nil=>rw [List.nil_perm.mp h]
 | cons d r=>
  rw [b1r (by simp [a1C]),b1r (by simp [a1C]),a4W (fun i j hi hj=>b2l (d:=d) hi hj),a4W (N:=b2j f d l') (fun i j hi hj=>b2l (d:=d) hi hj),b8u h]
end LA
end
section
namespace LA
noncomputable def a0o:List (Nat×Nat):=[(0,1),(0,2),(0,3),(1,2),(1,3),(2,3)]
noncomputable def nl (g:List Bool)(i j:Nat):Bool:=(a0o.zip g).any fun p=>p.2&&((p.1.1==i&&p.1.2==j)||(p.1.1==j&&p.1.2==i))
noncomputable def c5o (l:List (List Nat×List Nat)):List (List Nat×List Nat):=l.flatMap fun p=>(List.range p.2.length).map fun k=>(p.1++[p.2.getD k 0],p.2.take k++p.2.drop (k+1))
noncomputable def perms:List (List Nat):=(c5o (c5o (c5o (c5o [([],[0,1,2,3])])))).map (·.1)
noncomputable def behind (t:List Nat)(i j:Nat):Bool:=t.idxOf i<t.idxOf j
noncomputable def a1s (g:List Bool)(t:List Nat):Nat×Nat:=(a0o.zip g).foldl (fun a p=>if p.2 then (if behind t p.1.1 p.1.2 then a.1+a.2+1 else a.1,2*a.2+1) else a) (0,0)
noncomputable def a2x (g:List Bool):Nat:=(a0o.zip g).foldl (fun a p=>if p.2 then 2*a+1 else a) 0
noncomputable def b3w (g:List Bool):List Nat:=((perms.map fun t=>(a1s g t).1).eraseDups)
noncomputable def half (g:List Bool):List Nat:=(b3w g).filter (· % 2==1)
noncomputable def a3Y:List Int:=(List.range 6).foldl (fun l _=>l++l.map (2*·)) [1]
noncomputable def a4t (full x y:Nat):Int:=a3Y.getD (x ^^^ y) 0+a3Y.getD ((full ^^^ x) ^^^ y) 0
noncomputable def a4X (full x y:Nat):Int:=a3Y.getD (x ^^^ y) 0 - a3Y.getD ((full ^^^ x) ^^^ y) 0
noncomputable def b3x (f:Nat→Nat→Int)(l:List Nat):Int:=a8P l.length (a1C f l) 1 1
noncomputable abbrev c2D:=List (List Nat)
noncomputable def lo (g:List Bool)(i j:Nat):Bool:=i != j&&!(nl g i j)
noncomputable def joins (g:List Bool)(a b:List Nat):Bool:=a.all fun i=>b.all fun j=>lo g i j
noncomputable def a6j (g:List Bool)(thing:List Nat)(sets:c2D):List c2D:=
 (sets++[thing]) :: ((List.range sets.length).filter fun k=>joins g (sets.getD k []) thing).map fun k=>sets.take k++[sets.getD k []++thing]++sets.drop (k+1)
noncomputable def b0g (g:List Bool)(things:c2D):List c2D:=things.foldl (fun l thing=>l.flatMap (a6j g thing)) [[]]
noncomputable def a4Y (g:List Bool)(things:c2D):List Int:=(List.range (things.length+1)).map fun (n:Nat)=>(((b0g g things).filter fun s=>s.length==n).length:Int)
noncomputable def c6I (n:Nat):Int:=(List.range n).foldl (fun a (k:Nat)=>a*(k+1)) 1
noncomputable def a0W (ways:List Int)(fewer:Nat):Int:=((List.range ways.length).filter fun n=>max fewer 1≤n).foldl (fun a n=>a+(-1) ^ (ways.length - 1 - n)*c6I (n - fewer)*ways.getD n 0) 0
noncomputable def a0r (k:Nat):List Nat:=(List.range 4).filter fun j=>k / 2 ^ j % 2==1
noncomputable def a2s (g:List Bool)(some:List Nat):Nat:=((a0o.zip g).filter fun p=>p.2&&some.contains p.1.1&&some.contains p.1.2).length
noncomputable def a1i (g:List Bool)(k:Nat):Int:=
 let some:=a0r k
 if 1<some.length then
  let ways:=a4Y g (some.map ([·]))
  if a0W ways 1 != 0 then
   let outer:=a4Y g (some :: ((List.range 4).filter fun j=>!(some.contains j)).map ([·]))
   (1 - 4 ^ a2s g some) ^ (a0W ways 2*a0W outer 0).toNat
  else 1
 else 1
noncomputable def a3U (g:List Bool):Int:=(List.range 16).foldl (fun a k=>a*a1i g k) 1
noncomputable def c4s (g:List Bool)(k:Nat):Bool:=
 let some:=a0r k
 let ways:=a4Y g (some.map ([·]))
 a0W ways 1==0||(decide (0≤a0W ways 2*a0W (a4Y g (some :: ((List.range 4).filter fun j=>!(some.contains j)).map ([·]))) 0)&&decide (a0W ways 2*a0W (a4Y g (some :: ((List.range 4).filter fun j=>!(some.contains j)).map ([·]))) 0<100))
noncomputable def a0F:List (List Bool):=[false,true].flatMap fun a=>[false,true].flatMap fun b=>[false,true].flatMap fun c=>[false,true].flatMap fun d=>[false,true].flatMap fun e=>[false,true].map fun f=>[a,b,c,d,e,f]
noncomputable def c7h (g:List Bool):Bool:=b3x (a4t (a2x g)) (half g)*b3x (a4X (a2x g)) (half g)==a3U g
theorem b8w:a0F.all c7h=true:=by decide +kernel
theorem c5p:(a0F.all fun g=>(List.range 16).all fun k=>(a0r k).length≤1||c4s g k)=true:=by decide +kernel
theorem graphs_all (a b c d e f:Bool):[a,b,c,d,e,f]∈a0F:=by
 revert a b c d e f;decide +kernel
theorem law_plain (a b c d e f:Bool){l:List Nat}(h:l.Perm (half [a,b,c,d,e,f])) :
  b3x (a4t (a2x [a,b,c,d,e,f])) l*b3x (a4X (a2x [a,b,c,d,e,f])) l=a3U [a,b,c,d,e,f]:=by
 have:=c8k.mp b8w _ (graphs_all a b c d e f)
 unfold b3x
 rw [barL_perm h,barL_perm h]
 unfold c7h b3x at this
 simpa using this
end LA
end
section
theorem a0T {n:Nat}(h:n≤16777216):a0O n=true:=Nat.ble_eq_true_of_le h
theorem a1g {α β γ:Type}{f:α→Option β}{e:γ→α}{g:γ→β}{l:List γ}(h:∀ x∈l,f (e x)=some (g x)):(l.map e).mapM f=some (l.map g):=by
 induction l with
 | nil=>rfl
 | cons a l ih=>rw [c9g,c8i,h a (.head _),ih fun x hx=>h x (.tail _ hx)];rfl
theorem c5q {α β:Type}{f:α→Option β}{g:α→β}{l:List α}(h:∀ x∈l,f x=some (g x)):l.mapM f=some (l.map g):=by
 have q:=a1g (e:=id) (f:=f) (g:=g) (l:=l) h
 rw [List.map_id] at q
 exact q
theorem b9J {k:Int}{i n:Nat}(h:(if k<0 then k+n else k)=(i:Int))(hi:i<n):seqIndex? k n=some i:=by
 unfold seqIndex?
 show (if (decide (0≤if k<0 then k+(n:Int) else k)&&decide ((if k<0 then k+(n:Int) else k)<n))=true then some (if k<0 then k+(n:Int) else k).toNat else none)=some i
 rw [h,c7K (c8N.mpr ⟨c9c (c8t i),c9c (Int.ofNat_lt.mpr hi)⟩)]
 rfl
theorem c4t {i n:Nat}(h:i<n):seqIndex? (i:Int) n=some i:=b9J (c7M (Int.not_lt.mpr (c8t i))) h
theorem b8x {n:Nat}(h:0<n):seqIndex? (-1) n=some (n - 1):=b9J (by rw [c7K (by decide),Int.ofNat_sub h,Int.add_comm];rfl) (Nat.sub_lt h Nat.one_pos)
theorem a8Q {i n:Nat}(h:i<n)(hn:n≤16777216):b0B (i:Int) n=some i:=(a0n (a0T hn)).trans (c4t h)
theorem c4u {n:Nat}(h:0<n)(hn:n≤16777216):b0B (-1) n=some (n - 1):=(a0n (a0T hn)).trans (b8x h)
theorem c4v {α:Type}{k:Int}{n i:Nat}{f:Nat→Option α}(hi:b0B k n=some i):(b0B k n).bind f=f i:=by rw [hi];rfl
theorem a8R {α:Type}{l:List α}{i:Nat}{d:α}(h:l[i]?=some d):i<l.length:=(c8D.mp h).1
theorem a2b {α:Type}{x y:Option α}{a:α}(h:x=some a):x.or y=some a:=by rw [h];rfl
theorem b3y {l:List D}{k:Int}{i:Nat}{d:D}(hi:b0B k l.length=some i)(h:l[i]?=some d):a4C (.list l) (.int k)=some d:=a2b ((c4v hi).trans h)
theorem a1D {l:List D}{i:Nat}{d:D}(h:l[i]?=some d)(hn:l.length≤16777216):a4C (.list l) (.int (i:Int))=some d:=b3y (a8Q (a8R h) hn) h
theorem c5r {l:List D}{i:Nat}{d:D}(h:l[i]?=some d)(hn:l.length≤16777216):a4C (.tup l) (.int (i:Int))=some d:=a2b (x:=(b0B (i:Int) l.length).bind (l[·]?)) ((c4v (a8Q (a8R h) hn)).trans h)
theorem a4Z {s:Str}{g:Bool}{i:Nat}{c:Nat}(h:s.cps[i]?=some c)(hn:s.length≤16777216):a4C (.str s g) (.int (i:Int))=some (.str ⟨#[c]⟩ true):=by
 refine a2b (x:=b7e s i) ?_
 show Option.map _ ((b0B (i:Int) s.length).bind _) = _
 rw [a8Q (show i<s.length from (Array.getElem?_eq_some_iff.mp h).1) hn]
 show Option.map _ (s.cps[i]?) = _
 rw [h]
 rfl
theorem b2m {n i:Nat}:clipAt n (i:Int)=min i n:=by
 unfold clipAt
 rw [c7M (Int.not_lt.mpr (c8t i)),Int.max_eq_right (Int.le_min.mpr ⟨c8t i,c8t n⟩)]
 by_cases h:i≤n
 ·rw [Int.min_eq_left (Int.ofNat_le.mpr h),Nat.min_eq_left h];rfl
 ·rw [Int.min_eq_right (Int.ofNat_le.mpr (Nat.le_of_not_le h)),Nat.min_eq_right (Nat.le_of_not_le h)];rfl
theorem a8S {n i:Nat}(h:i≤n):clipAt n (i:Int)=i:=b2m.trans (Nat.min_eq_left h)
theorem c4w {n i:Nat}(h:n≤i):clipAt n (i:Int)=n:=b2m.trans (Nat.min_eq_right h)
theorem b5U {α:Type}{l:List α}{i:Nat}(h:i≤l.length):cut l none (some (i:Int))=l.take i:=by
 show (l.drop 0).take (clipAt l.length i - 0) = _
 rw [a8S h,List.drop_zero,Nat.sub_zero]
theorem b2n {α:Type}{l:List α}{i:Nat}(h:i≤l.length):cut l (some (i:Int)) none=l.drop i:=by
 show (l.drop (clipAt l.length i)).take (l.length - clipAt l.length i) = _
 rw [a8S h,List.take_of_length_le (c8w List.length_drop)]
theorem c1L {α:Type}{l:List α}{i j:Nat}(h:i≤j)(hj:j≤l.length):cut l (some (i:Int)) (some (j:Int))=(l.drop i).take (j - i):=by
 show (l.drop (clipAt l.length i)).take (clipAt l.length j - clipAt l.length i) = _
 rw [a8S (c7O h hj),a8S hj]
theorem b5V (k:Int):a3u (some (.int k))=grd (decide (-(2 ^ 62)<k)&&decide (k<2 ^ 62)) (some (some k)):=by kernel_rfl
theorem a1M {i:Nat}(h:i≤16777216):a3u (some (.int (i:Int)))=some (some (i:Int)):=by
 have h1:-(2 ^ 62)<(i:Int):=by lia
 have h2:(i:Int)<2 ^ 62:=by lia
 rw [b5V,a0n (c8N.mpr ⟨c9c h1,c9c h2⟩)]
theorem a5y {l:List D}{lo hi:Option Int}(h:l.length≤16777216):a6q (.list l) lo hi=some (.list (cut l lo hi)):=a2b (a0n (a0T h))
theorem c7i {s:Str}{g:Bool}{lo hi:Option Int}(h:s.length≤16777216):a6q (.str s g) lo hi=some (.str ⟨(cut s.cps.toList lo hi).toArray⟩):=a2b (x:=grd (a0O s.length) _) (a0n (a0T h))
theorem b8y {s:Array UInt8}{lo hi:Option Int}(h:s.size≤16777216):a6q (.bytes s) lo hi=some (.bytes (cut s.toList lo hi).toArray):=a0n (x:=some (D.bytes (cut s.toList lo hi).toArray)) (a0T h)
theorem b2o {a b:Nat}(ha:a<2 ^ 30)(hb:b<2 ^ 30):a6r (a:Int) (b:Int) 1=some ((List.range (b - a)).map fun (i:Nat)=>.int ((a+i:Nat):Int)):=by
 have low:∀ n:Nat,decide (-(2 ^ 30)<(n:Int))=true:=fun n=>c9c (Int.lt_of_lt_of_le (by decide) (c8t n))
 have up:∀ {n:Nat},n<2 ^ 30→decide ((n:Int)<2 ^ 30)=true:=fun h=>c9c (Int.ofNat_lt.mpr h)
 refine (a0n (c8N.mpr ⟨c8N.mpr ⟨c8N.mpr ⟨low a,up ha⟩,low b⟩,up hb⟩)).trans ((c7K rfl).trans ?_)
 rw [show ((b:Int) - (a:Int)).toNat=b - a from Int.toNat_sub b a]
 exact c7H some (c9o fun i _=>c7H D.int (Int.natCast_add a i).symm)
theorem b3z {b:Nat}(hb:b<2 ^ 30):a6r 0 (b:Int) 1=some ((List.range b).map fun (i:Nat)=>.int (i:Int)):=by
 refine (b2o (a:=0) (by decide) hb).trans (c7H some (c9o fun i _=>?_))
 rw [c9a]
theorem c5s {α β:Type}(g:α→β)(l:List α):(l.map fun d=>[g d]).flatten=l.map g:=by
 induction l with
 | nil=>rfl
 | cons a l ih=>exact c7H (g a :: ·) ih
theorem b5W {α β:Type}(g:α→β)(p:α→Bool)(l:List α):(l.map fun d=>bif p d then [g d] else []).flatten=(l.filter p).map g:=by
 induction l with
 | nil=>rfl
 | cons a l ih=>
  rw [c9g,List.flatten_cons,ih,c9q]
  cases p a <;> rfl
section
variable {F:Fns}{fuel:Nat}{σ σ' σ₀:Store}{d:D}
theorem a0X {α:Type}{fv:List Nat}{elt iter:PE}{ifs:PEs}{t:Tgt}{xs:List α}{f g:α→D}{p:α→Bool}(hi:evI F σ iter=some (xs.map f))(hr:a0S σ fv=some σ₀)
  (hb:∀ x∈xs,∃ σ',a3o σ₀ t (f x)=some σ'∧b1H F σ' ifs=some (p x)∧(p x=true→strict σ' elt=true∧evE F σ' elt=some (g x))) (hl:xs.length≤16777216) :
  evE F σ (.comp fv elt t iter ifs .nil)=some (.list ((xs.filter p).map g)):=by
 show (evI F σ iter).bind _ = _
 rw [hi]
 show (a0S σ fv).bind _ = _
 rw [hr]
 show (List.mapM (m:=Option) _ (xs.map f)).bind _ = _
 rw [a1g (g:=fun x=>bif p x then [g x] else []) fun x hx=>by
  obtain⟨σ',h1,h2,h3⟩:=hb x hx
  show (a3o σ₀ t (f x)).bind _ = _
  rw [h1]
  show (b1H F σ' ifs).bind _ = _
  rw [h2]
  cases hp:p x with
  | false=>rfl
  | true=>
   refine (h3 hp).elim fun h4 h5=>?_
   show grd (strict σ' elt) ((evE F σ' elt).map _) = _
   rw [h4,h5]
   rfl]
 show grd (a0O (List.length (List.flatten _))) (some (D.list (List.flatten _))) = _
 rw [b5W,a0n (a0T (c7O (c8w (c8u g)) (c7O (c9y _ _) hl)))]
theorem a1b {α:Type}{fv:List Nat}{elt iter:PE}{t:Tgt}{xs:List α}{f g:α→D}(hi:evI F σ iter=some (xs.map f))(hr:a0S σ fv=some σ₀)
  (hb:∀ x∈xs,∃ σ',a3o σ₀ t (f x)=some σ'∧strict σ' elt=true∧evE F σ' elt=some (g x)) (hl:xs.length≤16777216):evE F σ (.comp fv elt t iter .nil .nil)=some (.list (xs.map g)):=by
 have h:=a0X (ifs:=.nil) (p:=fun _=>true) hi hr (fun x hx=>(hb x hx).elim fun σ' h=>⟨σ',h.1,rfl,fun _=>h.2⟩) hl
 rw [List.filter_eq_self.mpr fun _ _=>rfl] at h
 exact h
theorem c5t {fv:List Nat}{elt iter:PE}{t:Tgt}{items:List D}{g:D→D}(hi:evI F σ iter=some items)(hr:a0S σ fv=some σ₀)
  (hb:∀ d∈items,∃ σ',a3o σ₀ t d=some σ'∧strict σ' elt=true∧evE F σ' elt=some (g d)) (hl:items.length≤16777216):evE F σ (.comp fv elt t iter .nil .nil)=some (.list (items.map g)):=
 a1b (f:=id) (by rw [List.map_id];exact hi) hr hb hl
theorem b1s {fv:List Nat}{elt iter:PE}{ifs:PEs}{t:Tgt}{items:List D}{g:D→D}{p:D→Bool}(hi:evI F σ iter=some items)(hr:a0S σ fv=some σ₀)
  (hb:∀ d∈items,∃ σ',a3o σ₀ t d=some σ'∧b1H F σ' ifs=some (p d)∧(p d=true→strict σ' elt=true∧evE F σ' elt=some (g d))) (hl:items.length≤16777216) :
  evE F σ (.comp fv elt t iter ifs .nil)=some (.list ((items.filter p).map g)):=a0X (f:=id) (by rw [List.map_id];exact hi) hr hb hl
theorem a0c {α β:Type}{x:Option α}{a:α}{f:α→Option β}{o:Option β}(h:x=some a)(k:f a=o):x.bind f=o:=by rw [h];exact k
theorem a1h {α β:Type}{x:Option α}{a:α}{f:α→β}{b:β}(h:x=some a)(k:f a=b):x.map f=some b:=by rw [h,← k];rfl
theorem a3I {α:Type}{c:Bool}{x:Option α}{o:Option α}(h:c=true)(k:x=o):grd c x=o:=by rw [h];exact k
theorem a0L {f:Nat}{args:PEs}{as:List D}(h1:a3i F σ args=some as)(h2:F f as none=some d):evE F σ (.call f args .no)=some d:=by
 show (a3i F σ args).bind _ = _
 rw [h1]
 exact h2
theorem b8z {ps:PS}{r:List PS}{o:Option Out}(h:evS F fuel σ ps=some (.next σ'))(k:a0C F fuel σ' r=o):a0C F fuel σ (ps :: r)=o:=by
 show (evS F fuel σ ps).bind _ = _
 rw [h]
 exact k
theorem a0d {ps:PS}{r:List PS}(h:evS F fuel σ ps=some (.next σ')):a0C F fuel σ (ps :: r)=a0C F fuel σ' r:=b8z h rfl
theorem a3J {ps:PS}{r:List PS}{o:Out}(h:evS F fuel σ ps=some o)(hn:∀ σ',o≠.next σ'):a0C F fuel σ (ps :: r)=some o:=by
 show (evS F fuel σ ps).bind _ = _
 rw [h]
 cases o <;> first | rfl | exact absurd rfl (hn _)
theorem a8T {body:Store→D→Option Out}{r:List D}{σ'':Option Out}(e:body σ d=some (.next σ')∨body σ d=some (.cont σ'))(h:a5U body σ' r=σ''):a5U body σ (d :: r)=σ'':=by
 show (body σ d).bind _ = _
 rcases e with e | e
 ·rw [e];exact h
 ·rw [e];exact h
theorem c6J {body:Store→D→Option Out}(P:List D→Store→Prop){items:List D}{σ:Store}(h:P items σ)(k:∀ d r σ,P (d :: r) σ→∃ σ',(body σ d=some (.next σ')∨body σ d=some (.cont σ'))∧P r σ') :
  ∃ σ',a5U body σ items=some (.next σ')∧P [] σ':=by
 induction items generalizing σ with
 | nil=>exact⟨σ,rfl,h⟩
 | cons d r ih=>
  refine (k d r σ h).elim fun σ' Z1=>Z1.elim (fun e h'=>?_)
  refine (ih h').elim fun σ'' Z1=>Z1.elim (fun e2 h''=>?_)
  exact⟨σ'',a8T e e2,h''⟩
theorem b2p {test:Store→Option Bool}{body:Store→Option Out}{n:Nat}(h:test σ=some false):a1I test body (n+1) σ=some (.next σ):=by
 show (test σ).bind _ = _
 rw [h]
 rfl
theorem a7Q {test:Store→Option Bool}{body:Store→Option Out}{n:Nat}{o:Option Out}(h:test σ=some true)(e:body σ=some (.next σ'))(k:a1I test body n σ'=o):a1I test body (n+1) σ=o:=by
 show (test σ).bind _ = _
 rw [h]
 show (body σ).bind _ = _
 rw [e]
 exact k
theorem b5X {test:Store→Option Bool}{body:Store→Option Out}{n:Nat}(h:test σ=some true)(e:body σ=some (.ret d)):a1I test body (n+1) σ=some (.ret d):=by
 show (test σ).bind _ = _
 rw [h]
 show (body σ).bind _ = _
 rw [e]
 rfl
theorem c4x {test:Store→Option Bool}{body:Store→Option Out}(P:Nat→Store→Prop){n fuel:Nat}{σ:Store}(hf:n<fuel)(h:P n σ)
  (k:∀ n σ,P (n+1) σ→test σ=some true∧∃ σ',body σ=some (.next σ')∧P n σ') (h0:∀ σ,P 0 σ→test σ=some false):∃ σ',a1I test body fuel σ=some (.next σ')∧P 0 σ':=by
 induction n generalizing fuel σ with
 | zero=>
  cases fuel with
  | zero=>cases hf
  | succ fuel=>exact⟨σ,b2p (h0 σ h),h⟩
 | succ n ih=>
  cases fuel with
  | zero=>cases hf
  | succ fuel=>
   obtain⟨e1,σ',e2,h'⟩:=k n σ h
   refine (ih (Nat.lt_of_succ_lt_succ hf) h').elim fun σ'' Z1=>Z1.elim (fun e3 h''=>?_)
   exact⟨σ'',a7Q e1 e2 e3,h''⟩
end
theorem c4y {n f:Nat}{args:List D}{kw:Option D}{df:Def}{fuel:Nat}(hf:a0t.find? (fun d=>d.f==f)=some df)(h1:(f==26)=false)(h2:(f==68)=false)(hc:(decide ((b1i df args).length=df.params.length)&&(kw.isNone||!df.kwonly.isEmpty))=true) :
  runG ids a0t fuel (n+1) f args kw=(a0C (runG ids a0t fuel n) fuel (a4R df args kw) df.body).bind Out.res:=by
 show (bif f==26 then _ else bif f==68 then _ else (a0t.find? (fun d=>d.f==f)).bind _) = _
 rw [h1,h2,hf]
 exact a0n hc
theorem b1t {n f:Nat}{args:List D}{kw:Option D}{df:Def}{fuel:Nat}{d:D}{σ:Store}{ps:List PS}(hf:a0t.find? (fun d=>d.f==f)=some df)(h1:(f==26)=false)(h2:(f==68)=false)(hc:(decide ((b1i df args).length=df.params.length)&&(kw.isNone||!df.kwonly.isEmpty))=true)
  (hσ:a4R df args kw=σ) (hb:df.body=ps) (h:a0C (runG ids a0t fuel n) fuel σ ps=some (.ret d)):runG ids a0t fuel (n+1) f args kw=some d:=by
 rw [c4y hf h1 h2 hc,hσ,hb,h]
 rfl
theorem a2c {n f:Nat}{args:List D}{df:Def}{d:D}{fuel:Nat}(hf:a0t.find? (fun d=>d.f==f)=some df)(h1:f≠26)(h2:f≠68)(hd:df.dflt=[])(hk:df.kwonly=[])(hl:args.length=df.params.length)
  (h:a0C (runG ids a0t fuel n) fuel ((df.params.zip args).map fun p=>(p.1,Slot.val p.2)) df.body=some (.ret d)):runG ids a0t fuel (n+1) f args none=some d:=by
 have e:b1i df args=args:=by unfold b1i;rw [hd,List.drop_nil,c8T]
 refine b1t hf (c7N.mpr h1) (c7N.mpr h2) (by rw [e,hl,c9c rfl];rfl) ?_ rfl h
 unfold a4R
 rw [e,hk,List.map_nil,c8T]
end
section
section
variable {F:Fns}{fuel:Nat}{σ σ' σ₀:Store}{a b i x y z d:D}{ea eb ec:PE}
theorem a0G (h1:evE F σ ea=some x)(h2:evE F σ eb=some y)(h3:a4C x y=some z):evE F σ (.idx ea eb)=some z:=by
 show (evE F σ ea).bind _ = _;exact a0c h1 (a0c h2 h3)
theorem a0l {op:Operator}(h1:evE F σ ea=some x)(h2:evE F σ eb=some y)(h3:a2M op x y=some z):evE F σ (.bin op ea eb)=some z:=by
 show (evE F σ ea).bind _ = _;exact a0c h1 (a0c h2 h3)
theorem a0Y {op:CmpOp}{q:Bool}(h1:evE F σ ea=some x)(h2:evE F σ eb=some y)(h3:a6p op x y=some q):evT F σ (.cmp op ea eb)=some q:=by
 show (evE F σ ea).bind _ = _;exact a0c h1 (a0c h2 h3)
theorem a2z {n:Nat}(h1:evE F σ ea=some x)(h2:c2v x=some n)(hn:n≤16777216):evE F σ (.len ea)=some (.int n):=by
 show (evE F σ ea).bind _ = _;exact a0c h1 (a0c h2 (a0n (a0T hn)))
theorem a5a {e:PE}{q:Bool}(h:evT F σ e=some q):b1H F σ (.cons e .nil)=some q:=by
 show (evT F σ e).bind _ = _;exact a0c h (by cases q <;> rfl)
theorem a1E {n:Nat}(h:evE F σ ea=some (.int n))(hn:n<2 ^ 30):evI F σ (.range1 ea)=some ((List.range n).map fun (i:Nat)=>.int (i:Int)):=by
 show (evE F σ ea).bind _ = _;exact a0c h (a0c rfl (b3z hn))
theorem b0h {m n:Nat}(h1:evE F σ ea=some (.int m))(h2:evE F σ eb=some (.int n))(hm:m<2 ^ 30)(hn:n<2 ^ 30):evI F σ (.range2 ea eb)=some ((List.range (n - m)).map fun (i:Nat)=>.int ((m+i:Nat):Int)):=by
 show (evE F σ ea).bind _ = _;exact a0c h1 (a0c h2 (a0c rfl (a0c rfl (b2o hm hn))))
theorem a2t {d:D}{e:PE}{r:List PS}(h1:strict (freezeAll σ) e=true)(h2:evE F (freezeAll σ) e=some d):a0C F fuel σ (.ret e :: r)=some (.ret d):=
 a3J (show grd _ _ = _ from a3I h1 (a1h h2 rfl)) nofun
theorem a5b {x:Nat}{e:PE}{d:D}(hn:noMeth σ x=true)(hv:a5T e=none)(hs:strict σ e=true)(h:evE F σ e=some d):evS F fuel σ (.asg x false e)=some (.next (σ.set x (.val d))):=by
 show grd _ (match a5T e with
  | some y=>(σ.get y).bind (b9t σ x y)
  | none=>grd (strict σ e) ((evE F σ e).map fun d=>.next (σ.set x (.val d)))) = _
 rw [hn,hv,hs,h]
 rfl
theorem a0U {t:PE}{A B:List PS}{q:Bool}(h:evT F σ t=some q):evS F fuel σ (.ifs t A B)=a0C F fuel σ (if q then A else B):=by
 show (evT F σ t).bind _ = _;exact a0c h (by cases q <;> rfl)
end
open LA (Tab a2H b4c a8P a1C skip)
noncomputable def rowD (r:List Int):D:=.list (r.map .int)
noncomputable def tabD (t:Tab):D:=.list (t.map rowD)
noncomputable def stW (t:Tab)(w l:Int)(X:Store):Store:=(78,.val (tabD t)) :: (77,.val (.int w)) :: (61,.val (.int l)) :: X
noncomputable def a5Y:List PS:=match a4s with
 | [_,.while _ b,_]=>b
 | _=>[]
noncomputable def IsX (X:Store):Prop:=X=[]∨∃ x1 x2 x3,X=[(79,.val x1),(80,.val x2),(37,.val x3)]
theorem b5Y {α β:Type}{f:α→β}{l:List α}{i:Nat}{d:α}(h:i<l.length):(l.map f)[i]?=some (f (l.getD i d)):=by
 rw [c8M,c8m,c8n h]
 rfl
theorem a5c {r:List Int}{j:Nat}(h:j<r.length)(hn:r.length≤16777216):a4C (rowD r) (.int (j:Int))=some (.int (r.getD j 0)):=a1D (b5Y h) (c7O (c8w (c8u ..)) hn)
theorem b9K {t:Tab}{i:Nat}(h:i<t.length)(hn:t.length≤16777216):a4C (tabD t) (.int (i:Int))=some (rowD (t.getD i [])):=a1D (b5Y h) (c7O (c8w (c8u ..)) hn)
theorem b9L {y:Int}{c:Nat}(h0:y≠0)(hy:y.natAbs<2 ^ c):y.natAbs.log2<c:=(Nat.log2_lt (Int.natAbs_ne_zero.mpr h0)).mpr hy
theorem b5Z {x:Int}{b:Nat}(h:x.natAbs<2 ^ b):Builtin.Int.intBits x≤b:=by
 unfold Builtin.Int.intBits
 by_cases hx:(x==0)=true
 ·rw [c7K hx];exact c8z _
 ·rw [c7M hx];exact b9L (fun q=>hx (c7L.mpr q)) h
theorem a8U {x y:Int}(h:a2L x y=true):a2M .Mult (.int x) (.int y)=some (.int (x*y)):=a2b (a1h (x:=grd (a2L x y) (some (x*y))) (a0n h) rfl)
theorem b1u {x y:Int}(h0:0≤y)(h:(Builtin.Int.intBits x:Int)*y≤2 ^ 27):a2M .Pow (.int x) (.int y)=some (.int (x ^ y.toNat)):=
 a1h (x:=grd (decide (0≤y)&&decide ((Builtin.Int.intBits x:Int)*y≤2 ^ 27)) (some (x ^ y.toNat))) (a0n (c8N.mpr ⟨c9c h0,c9c h⟩)) rfl
theorem a3K {x y:Int}{b c:Nat}(hx:x.natAbs<2 ^ b)(hy:y.natAbs<2 ^ c)(h:b+c≤1000000):a2M .Mult (.int x) (.int y)=some (.int (x*y)):=
 a8U (c9b.mpr (.inr (c9c (c7O (Nat.add_le_add (b5Z hx) (b5Z hy)) h))))
theorem b6a {x y:Int}{c:Nat}(hy:y.natAbs<2 ^ c)(hc:c≤8000):Builtin.divisionGoesByPylong x y=false:=by
 have h:(if (y==0)=true then 0 else y.natAbs.log2 / 30+1)≤300:=by
  by_cases h:(y==0)=true
  ·rw [c7K h];exact c8z _
  ·rw [c7M h]
   have:=b9L (fun q=>h (c7L.mpr q)) hy
   lia
 unfold Builtin.divisionGoesByPylong
 exact Bool.and_eq_false_iff.mpr (.inl (c8s (Nat.not_lt.mpr h)))
theorem b9M {x y:Int}{c:Nat}(h0:y≠0)(hy:y.natAbs<2 ^ c)(hc:c≤8000):a2M .FloorDiv (.int x) (.int y)=some (.int (x.fdiv y)):=
 a1h (x:=grd (!(decide (y=0)||Builtin.divisionGoesByPylong x y)) (some (x.fdiv y))) (a0n (by rw [c8s h0,b6a hy hc];rfl)) rfl
theorem c4z {p:Nat}(h:p≤1000):a2M .Pow (.int (-1)) (.int (p:Int))=some (.int ((-1) ^ p)):=by
 have e:Builtin.Int.intBits (-1)=1:=by decide +kernel
 exact b1u (c8t p) (by rw [e];lia)
theorem a6X (p:Nat):((-1:Int) ^ p).natAbs=1:=by rw [Int.natAbs_pow];exact Nat.one_pow p
structure Okt (t:Tab)(n b:Nat):Prop where
 len:t.length=n
 rows:∀ r∈t,r.length=n
 small:∀ r∈t,∀ x∈r,x.natAbs<2 ^ b
theorem a0M {α:Type}{l:List α}{i:Nat}{d:α}(h:i<l.length):l.getD i d∈l:=by
 rw [c8m,c8n h,Option.getD_some];exact List.getElem_mem h
theorem Okt.row {t:Tab}{n b i:Nat}(h:Okt t n b)(hi:i<n):(t.getD i []).length=n:=h.rows _ (a0M (by rw [h.len];exact hi))
theorem Okt.at {t:Tab}{n b i j:Nat}(h:Okt t n b)(hi:i<n)(hj:j<n):((t.getD i []).getD j 0).natAbs<2 ^ b:=
 h.small _ (a0M (by rw [h.len];exact hi)) _ (a0M (by rw [h.row hi];exact hj))
section
variable {F:Fns}{fuel:Nat}
theorem c1M {t:Tab}{n:Nat}(h:t.length=n):c2v (tabD t)=some n:=c7H some ((c8u ..).trans h)
theorem c1N {r:List Int}{n:Nat}(h:r.length=n):c2v (rowD r)=some n:=c7H some ((c8u ..).trans h)
noncomputable def ePl:PE:=match a5Y with
 | .asg _ _ e :: _=>e
 | _=>.none
theorem b0i {t:Tab}{n b:Nat}{w l:Int}{X:Store}(ok:Okt t (n+1) b)(hn:n<1000):evE F (stW t w l X) ePl=some (.list ((b4c t).map fun (k:Nat)=>.int (k:Int))):=by
 have hlen:t.length=n+1:=ok.len
 have e:evE F (stW t w l X) ePl=some (.list ((((List.range (n+1)).map fun (i:Nat)=>D.int (i:Int)).filter fun d=>match d with | .int i=>(t.getD i.toNat []).getD 0 0 != 0 | _=>false).map id)):=by
  show evE F (stW t w l X) (.comp [78] (.var 31) (.one 31) (.range1 (.len (.var 78))) (.cons (.cmp .NotEq (.idx (.idx (.var 78) (.var 31)) (.int 0)) (.int 0)) .nil) .nil) = _
  refine b1s (σ₀:=[(78,.val (tabD t))]) (g:=id) (a1E (a2z (x:=tabD t) (by kernel_rfl) (c1M hlen) (by lia)) (by lia)) (by kernel_rfl) (fun d hd=>?_) (by simp;lia)
  refine (c9n.mp hd).elim fun i Z1=>Z1.elim (fun hi Z2=>?_)
  subst Z2
  have hi:=c8l.mp hi
  refine⟨[(78,.val (tabD t)),(31,.val (.int i))],by kernel_rfl,?_,fun _=>⟨by kernel_rfl,by kernel_rfl⟩⟩
  refine a5a (a0Y (x:=.int ((t.getD i []).getD 0 0)) (y:=.int 0) (a0G (a0G (x:=tabD t) (y:=.int i) (by kernel_rfl) (by kernel_rfl) (b9K (by lia) (by lia))) (y:=.int 0) (by kernel_rfl) (a5c (j:=0) (by rw [ok.row hi];lia) (by rw [ok.row hi];lia))) (by kernel_rfl) ?_)
  exact rfl
 rw [e]
 unfold b4c
 rw [hlen,List.map_id,List.filter_map]
 simp [Function.comp_def]
end
end
section
open LA (Tab a2H b4c a8P a1C skip)
section
variable {F:Fns}{fuel:Nat}{σ:Store}{d x y z:D}{ea eb ec:PE}
theorem a3c {lo hi:PO}{l h:Option D}{l' h':Option Int}(h1:evE F σ ea=some x)(h2:evO F σ lo=some l)(h3:evO F σ hi=some h)(h4:a3u l=some l')(h5:a3u h=some h')(h6:a6q x l' h'=some z) :
  evE F σ (.slice ea lo hi)=some z:=by show (evE F σ ea).bind _ = _;exact a0c h1 (a0c h2 (a0c h4 (a0c h3 (a0c h5 h6))))
theorem a7R:a3i F σ .nil=some []:=rfl
theorem a2d {e:PE}{es:PEs}{l:List D}(s1:strict σ e=true)(h1:evE F σ e=some x)(h2:a3i F σ es=some l):a3i F σ (.cons e es)=some (x :: l):=by
 show grd _ ((evE F σ e).bind _) = _;exact a3I s1 (a0c h1 (a1h h2 rfl))
theorem c4A {es:PEs}{l:List D}(h:a3i F σ es=some l)(hl:l.length≤16777216):evE F σ (.tup es)=some (.tup l):=by
 show (a3i F σ es).bind _ = _;exact a0c h (a0n (a0T hl))
theorem b6b {es:PEs}{l:List D}(h:a3i F σ es=some l)(hl:l.length≤16777216):evE F σ (.list es)=some (.list l):=by
 show (a3i F σ es).bind _ = _;exact a0c h (a0n (a0T hl))
theorem a4u (s1:strict σ ea=true)(s2:strict σ eb=true)(h1:evE F σ ea=some x)(h2:evE F σ eb=some y):evE F σ (.tup (.cons ea (.cons eb .nil)))=some (.tup [x,y]):=
 c4A (a2d s1 h1 (a2d s2 h2 a7R)) (by decide:2≤16777216)
theorem a5Q (h1:evE F σ ea=some x):evO F σ (.yes ea)=some (some x):=by show (evE F σ ea).map _ = _;exact a1h h1 rfl
theorem a3L {xs:List Nat}{e:PE}{ds:List D}{σ':Store}(h:evE F σ e=some (.tup ds))(h2:a1c σ (.many xs) (.tup ds)=some σ'):evS F fuel σ (.asgT xs e)=some (.next σ'):=by
 show (evE F σ e).bind _ = _;exact a0c h (a1h h2 rfl)
theorem a3M {l m:List D}(h:l.length+m.length≤16777216):a2M .Add (.list l) (.list m)=some (.list (l++m)):=a2b (x:=grd (a0O (l.length+m.length)) _) (a0n (a0T h))
noncomputable def c5u:PE:=match a5Y with
 | [_,_,.asgT _ e,_,_,_]=>e
 | _=>.none
theorem c4B {t:Tab}{n b p:Nat}{q:List Nat}{w l:Int}{Y:Store}(ok:Okt t (n+1) b)(hn:n<1000)(hp:p<n+1)(hq:q.length<1000) :
  evE F (stW t w l ((79,.val (.list ((p :: q).map fun (k:Nat)=>.int (k:Int)))) :: Y)) c5u=some (.tup [rowD (t.getD p []),tabD (t.take p++t.drop (p+1))]):=by
 have hlen:t.length=n+1:=ok.len
 have hlD:(t.map rowD).length=n+1:=by rw [c8u,hlen]
 generalize hσ:stW t w l ((79,.val (.list ((p :: q).map fun (k:Nat)=>.int (k:Int)))) :: Y)=σ
 have v78:evE F σ (.var 78)=some (tabD t):=by subst hσ;kernel_rfl
 have v79:evE F σ (.idx (.var 79) (.int 0))=some (.int (p:Int)):=by
  have:evE F σ (.var 79)=some (.list ((p :: q).map fun (k:Nat)=>.int (k:Int))):=by subst hσ;kernel_rfl
  refine a0G this (y:=.int 0) (by kernel_rfl) ?_
  exact a1D (i:=0) (by simp) (by simp;lia)
 have e1:evE F σ (.idx (.var 78) (.idx (.var 79) (.int 0)))=some (rowD (t.getD p [])):=a0G v78 v79 (b9K (by lia) (by lia))
 have e2:evE F σ (.slice (.var 78) .no (.yes (.idx (.var 79) (.int 0))))=some (tabD (t.take p)):=by
  refine a3c v78 (l:=none) (by kernel_rfl) (a5Q v79) (l':=none) rfl (a1M (by lia)) ?_
  unfold tabD
  rw [a5y (by lia),b5U (by lia),List.map_take]
 have e3:evE F σ (.slice (.var 78) (.yes (.bin .Add (.idx (.var 79) (.int 0)) (.int 1))) .no)=some (tabD (t.drop (p+1))):=by
  refine a3c v78 (a5Q (a0l v79 (y:=.int 1) (by kernel_rfl) (z:=.int ((p+1:Nat):Int)) rfl)) (h:=none) (by kernel_rfl) (a1M (by lia)) (h':=none) rfl ?_
  unfold tabD
  rw [a5y (by lia),b2n (by lia),List.map_drop]
 refine a4u (by kernel_rfl) (by kernel_rfl) e1 (a0l e2 e3 ?_)
 unfold tabD
 rw [a3M (by simp;lia),c9z]
noncomputable def c4C:PE:=match a5Y with
 | [_,_,_,_,.asg _ _ e,_]=>e
 | _=>.none
theorem c4D {t:Tab}{n b c p:Nat}{w l:Int}{P:D}(ok:Okt t (n+1) b)(hn:n<1000)(hp:p<n+1)(hb:b≤100000)(hl0:l≠0)(hl:l.natAbs<2 ^ c)(hc:n=0∨c≤8000) :
  evE F (stW t w l [(79,.val P),(80,.val (rowD (t.getD p []))),(37,.val (tabD (t.take p++t.drop (p+1))))]) c4C=some (tabD (a2H p l t)):=by
 have hlen:t.length=n+1:=ok.len
 generalize htop:t.getD p []=top
 have htl:top.length=n+1:=by rw [← htop];exact ok.row hp
 have htm:top∈t:=by rw [← htop];exact a0M (by lia)
 generalize hrest:t.take p++t.drop (p+1)=rest
 have hrl:rest.length=n:=by rw [← hrest];simp;lia
 have hrm:∀ r∈rest,r∈t:=fun r hr=>by
  rw [← hrest,c8P] at hr
  rcases hr with hr | hr
  ·exact List.mem_of_mem_take hr
  ·exact List.mem_of_mem_drop hr
 have e:evE F (stW t w l [(79,.val P),(80,.val (rowD top)),(37,.val (tabD rest))]) c4C=some (.list (rest.map fun r=>rowD ((List.range n).map fun c=>(top.getD 0 0*r.getD (c+1) 0 - r.getD 0 0*top.getD (c+1) 0).fdiv l))):=by
  show evE F _ (.comp [80,61] (.comp [80,81,61] (.bin .FloorDiv (.bin .Sub (.bin .Mult (.idx (.var 80) (.int 0)) (.idx (.var 81) (.var 4))) (.bin .Mult (.idx (.var 81) (.int 0)) (.idx (.var 80) (.var 4)))) (.var 61)) (.one 4) (.range2 (.int 1) (.len (.var 80))) .nil .nil) (.one 81) (.var 37) .nil .nil) = _
  refine a1b (xs:=rest) (f:=rowD) (σ₀:=[(80,.val (rowD top)),(61,.val (.int l))]) (by kernel_rfl) (by kernel_rfl) (fun r hr=>?_) (by lia)
  have hrlen:r.length=n+1:=ok.rows r (hrm r hr)
  refine⟨[(80,.val (rowD top)),(61,.val (.int l)),(81,.val (rowD r))],by kernel_rfl,by kernel_rfl,?_⟩
  have:=a1b (F:=F) (σ:=[(80,.val (rowD top)),(61,.val (.int l)),(81,.val (rowD r))]) (fv:=[80,81,61]) (elt:=.bin .FloorDiv (.bin .Sub (.bin .Mult (.idx (.var 80) (.int 0)) (.idx (.var 81) (.var 4))) (.bin .Mult (.idx (.var 81) (.int 0)) (.idx (.var 80) (.var 4)))) (.var 61))
   (iter:=.range2 (.int 1) (.len (.var 80))) (t:=.one 4) (xs:=List.range n) (f:=fun i=>.int ((1+i:Nat):Int)) (g:=fun c=>.int ((top.getD 0 0*r.getD (c+1) 0 - r.getD 0 0*top.getD (c+1) 0).fdiv l))
   (σ₀:=[(80,.val (rowD top)),(81,.val (rowD r)),(61,.val (.int l))]) ?_ (by kernel_rfl) (fun i hi=>?_) (by simp;lia)
  ·rw [this];unfold rowD;rw [c8E];rfl
  ·have:=b0h (F:=F) (σ:=[(80,.val (rowD top)),(61,.val (.int l)),(81,.val (rowD r))]) (ea:=.int 1) (eb:=.len (.var 80)) (m:=1) (n:=n+1) (by kernel_rfl) (a2z (x:=rowD top) (by kernel_rfl) (c1N htl) (by lia)) (by lia) (by lia)
   simpa using this
  ·have hi:=c8l.mp hi
   have sm:∀ r∈t,∀ j,j<n+1→(r.getD j 0).natAbs<2 ^ b:=fun r hr j hj=>ok.small r hr _ (a0M (by rw [ok.rows r hr];exact hj))
   generalize hσ:[(80,Slot.val (rowD top)),(81,.val (rowD r)),(61,.val (.int l)),(4,.val (.int ((1+i:Nat):Int)))]=σ₁
   refine⟨σ₁,by subst hσ;kernel_rfl,by kernel_rfl,?_⟩
   have v80:evE F σ₁ (.var 80)=some (rowD top):=by subst hσ;kernel_rfl
   have v81:evE F σ₁ (.var 81)=some (rowD r):=by subst hσ;kernel_rfl
   have v4:evE F σ₁ (.var 4)=some (.int ((1+i:Nat):Int)):=by subst hσ;kernel_rfl
   have v61:evE F σ₁ (.var 61)=some (.int l):=by subst hσ;kernel_rfl
   have v0:evE F σ₁ (.int 0)=some (.int ((0:Nat):Int)):=by kernel_rfl
   have a1:evE F σ₁ (.bin .Mult (.idx (.var 80) (.int 0)) (.idx (.var 81) (.var 4)))=some (.int (top.getD 0 0*r.getD (1+i) 0)):=
    a0l (a0G v80 v0 (a5c (by lia) (by lia))) (a0G v81 v4 (a5c (by lia) (by lia))) (a3K (sm top htm 0 (by lia)) (sm r (hrm r hr) (1+i) (by lia)) (by lia))
   have a2:evE F σ₁ (.bin .Mult (.idx (.var 81) (.int 0)) (.idx (.var 80) (.var 4)))=some (.int (r.getD 0 0*top.getD (1+i) 0)):=
    a0l (a0G v81 v0 (a5c (by lia) (by lia))) (a0G v80 v4 (a5c (by lia) (by lia))) (a3K (sm r (hrm r hr) 0 (by lia)) (sm top htm (1+i) (by lia)) (by lia))
   rw [Nat.add_comm i 1]
   exact a0l (a0l a1 a2 (z:=.int (top.getD 0 0*r.getD (1+i) 0 - r.getD 0 0*top.getD (1+i) 0)) rfl) v61 (b9M hl0 hl (by lia))
 rw [e]
 unfold tabD a2H
 rw [hrest,htop,hlen,c8E]
 rfl
end
end
section
open LA (Tab a2H b4c a8P a1C skip)
section
variable {F:Fns}{fuel:Nat}
theorem b3A {x y:Int}{m:Nat}(hx:x.natAbs<m)(hy:y.natAbs<m):(x - y).natAbs<2*m:=c7W (Int.natAbs_sub_le x y) (by rw [Nat.two_mul];exact Nat.add_lt_add hx hy)
theorem b8A {t:Tab}{n b p:Nat}{l:Int}(ok:Okt t (n+1) b)(hp:p<n+1):Okt (a2H p l t) n (2*b+1):=by
 have hlen:t.length=n+1:=ok.len
 refine⟨by rw [LA.stepL_len (by lia),hlen];rfl,fun r hr=>?_,fun r hr x hx=>?_⟩
 ·unfold a2H at hr
  refine (c9n.mp hr).elim fun r' Z1=>Z1.elim (fun _ Z2=>?_)
  subst Z2
  simp [hlen]
 ·unfold a2H at hr
  refine (c9n.mp hr).elim fun r' Z1=>Z1.elim (fun hr' Z2=>?_)
  subst Z2
  refine (c9n.mp hx).elim fun i Z1=>Z1.elim (fun hi Z2=>?_)
  subst Z2
  have hi:=c8l.mp hi
  rw [hlen] at hi
  have hm:r'∈t:=by
   rw [c8P] at hr'
   rcases hr' with h | h
   ·exact List.mem_of_mem_take h
   ·exact List.mem_of_mem_drop h
  have sm:∀ r∈t,∀ j,j<n+1→(r.getD j 0).natAbs<2 ^ b:=fun r hr j hj=>ok.small r hr _ (a0M (by rw [ok.rows r hr];exact hj))
  have htm:t.getD p []∈t:=a0M (by lia)
  refine c7W (Int.natAbs_fdiv_le_natAbs _ _) ?_
  have h1:=sm _ htm 0 (by lia)
  have h2:=sm _ hm (i+1) (by lia)
  have h3:=sm _ hm 0 (by lia)
  have h4:=sm _ htm (i+1) (by lia)
  generalize (t.getD p []).getD 0 0=a at *
  generalize r'.getD (i+1) 0=c at *
  generalize r'.getD 0 0=d at *
  generalize (t.getD p []).getD (i+1) 0=e at *
  have q1:(a*c).natAbs<2 ^ b*2 ^ b:=by rw [Int.natAbs_mul];exact Nat.mul_lt_mul'' h1 h2
  have q2:(d*e).natAbs<2 ^ b*2 ^ b:=by rw [Int.natAbs_mul];exact Nat.mul_lt_mul'' h3 h4
  have q3:(2:Nat) ^ (2*b+1)=2*(2 ^ b*2 ^ b):=by rw [Nat.pow_succ,Nat.two_mul b,Nat.pow_add,Nat.mul_comm]
  rw [q3]
  exact b3A q1 q2
theorem c7j {x:Nat}{s s':Slot}{r:Store}:Store.set ((x,s) :: r) x s'=(x,s') :: r:=by simp [Store.set]
theorem b3B {t:Tab}{n b c p:Nat}{q:List Nat}{w l:Int}{X:Store}(hX:IsX X)(ok:Okt t (n+1) b)(hn:n<1000)(hcol:b4c t=p :: q)(hp:p<n+1)(hb:b≤100000)(hl0:l≠0)(hl:l.natAbs<2 ^ c)(hc:n=0∨c≤8000)(hw:w.natAbs=1) :
  ∃ X',IsX X'∧a0C F fuel (stW t w l X) a5Y=some (.next (stW (a2H p l t) (w*(-1) ^ p) ((t.getD p []).getD 0 0) X')):=by
 have hlen:t.length=n+1:=ok.len
 have hq:q.length<1000:=by
  have:(b4c t).length≤n+1:=by
   unfold b4c
   refine c7O (c9y _ _) ?_
   rw [c8v,hlen];lia
  rw [hcol] at this
  simp at this;lia
 generalize hP:D.list ((p :: q).map fun (k:Nat)=>D.int (k:Int))=P
 refine⟨[(79,.val P),(80,.val (rowD (t.getD p []))),(37,.val (tabD (t.take p++t.drop (p+1))))],.inr ⟨_,_,_,rfl⟩,?_⟩
 show a0C F fuel _ [.asg 79 false ePl,.ifs (.cmp .Eq (.var 79) (.list .nil)) [.ret (.int 0)] [],.asgT [80,37] c5u,.asg 77 false (.bin .Mult (.var 77) (.bin .Pow (.neg (.int 1)) (.idx (.var 79) (.int 0)))),.asg 78 false c4C,.asg 61 false (.idx (.var 80) (.int 0))] = _
 have s1:∃ Y,(Y=[]∨∃ x2 x3,Y=[(80,.val x2),(37,.val x3)])∧evS F fuel (stW t w l X) (.asg 79 false ePl)=some (.next (stW t w l ((79,.val P) :: Y))):=by
  have pe:=b0i (F:=F) (w:=w) (l:=l) (X:=X) ok hn
  rw [hcol,hP] at pe
  rcases hX with rfl | ⟨x1,x2,x3,rfl⟩
  ·exact⟨[],.inl rfl,(a5b (by kernel_rfl) (by kernel_rfl) (by kernel_rfl) pe).trans (by kernel_rfl)⟩
  ·exact⟨[(80,.val x2),(37,.val x3)],.inr ⟨_,_,rfl⟩,(a5b (by kernel_rfl) (by kernel_rfl) (by kernel_rfl) pe).trans (by kernel_rfl)⟩
 refine s1.elim (clear% s1;fun Y Z1=>Z1.elim (fun hY s1=>?_))
 rw [a0d s1]
 have s2:evS F fuel (stW t w l ((79,.val P) :: Y)) (.ifs (.cmp .Eq (.var 79) (.list .nil)) [.ret (.int 0)] [])=some (.next (stW t w l ((79,.val P) :: Y))):=by
  rw [a0U (q:=false) (a0Y (x:=P) (y:=.list []) (by kernel_rfl) (by kernel_rfl) (by rw [← hP];rfl))]
  rfl
 rw [a0d s2]
 have s3:evS F fuel (stW t w l ((79,.val P) :: Y)) (.asgT [80,37] c5u)=some (.next (stW t w l [(79,.val P),(80,.val (rowD (t.getD p []))),(37,.val (tabD (t.take p++t.drop (p+1))))])):=by
  have pe:=c4B (F:=F) (w:=w) (l:=l) (Y:=Y) (q:=q) ok hn hp hq
  rw [hP] at pe
  generalize rowD (t.getD p [])=r1 at *
  generalize tabD (t.take p++t.drop (p+1))=r2 at *
  rcases hY with rfl | ⟨x2,x3,rfl⟩
  ·exact a3L pe (by kernel_rfl)
  ·exact a3L pe (by kernel_rfl)
 rw [a0d s3]
 have v79:∀ σ,evE F σ (.var 79)=some P→evE F σ (.idx (.var 79) (.int 0))=some (.int (p:Int)):=fun σ h=>by
  refine a0G h (y:=.int 0) (by kernel_rfl) ?_
  rw [← hP]
  exact a1D (i:=0) (by simp) (by simp;lia)
 have s4:evS F fuel (stW t w l [(79,.val P),(80,.val (rowD (t.getD p []))),(37,.val (tabD (t.take p++t.drop (p+1))))]) (.asg 77 false (.bin .Mult (.var 77) (.bin .Pow (.neg (.int 1)) (.idx (.var 79) (.int 0))))) =
   some (.next (stW t (w*(-1) ^ p) l [(79,.val P),(80,.val (rowD (t.getD p []))),(37,.val (tabD (t.take p++t.drop (p+1))))])):=by
  refine (a5b (d:=.int (w*(-1) ^ p)) (by kernel_rfl) (by kernel_rfl) (by kernel_rfl) ?_).trans (by kernel_rfl)
  refine a0l (x:=.int w) (by kernel_rfl) (a0l (x:=.int (-1)) (by kernel_rfl) (v79 _ (by kernel_rfl)) (c4z (by lia))) (a3K (b:=1) (c:=1) (by lia) (by rw [a6X];decide) (by lia))
 rw [a0d s4]
 have s5:=c4D (F:=F) (w:=w*(-1) ^ p) (P:=P) ok hn hp hb hl0 hl hc
 have s5':evS F fuel (stW t (w*(-1) ^ p) l [(79,.val P),(80,.val (rowD (t.getD p []))),(37,.val (tabD (t.take p++t.drop (p+1))))]) (.asg 78 false c4C) =
   some (.next (stW (a2H p l t) (w*(-1) ^ p) l [(79,.val P),(80,.val (rowD (t.getD p []))),(37,.val (tabD (t.take p++t.drop (p+1))))])):=
  (a5b (by kernel_rfl) (by kernel_rfl) (by kernel_rfl) s5).trans (by kernel_rfl)
 rw [a0d s5']
 have s6:evS F fuel (stW (a2H p l t) (w*(-1) ^ p) l [(79,.val P),(80,.val (rowD (t.getD p []))),(37,.val (tabD (t.take p++t.drop (p+1))))]) (.asg 61 false (.idx (.var 80) (.int 0))) =
   some (.next (stW (a2H p l t) (w*(-1) ^ p) ((t.getD p []).getD 0 0) [(79,.val P),(80,.val (rowD (t.getD p []))),(37,.val (tabD (t.take p++t.drop (p+1))))])):=by
  refine (a5b (d:=.int ((t.getD p []).getD 0 0)) (by kernel_rfl) (by kernel_rfl) (by kernel_rfl) ?_).trans (by kernel_rfl)
  exact a0G (x:=rowD (t.getD p [])) (by kernel_rfl) (y:=.int ((0:Nat):Int)) (by kernel_rfl) (a5c (by rw [ok.row hp];lia) (by rw [ok.row hp];lia))
 rw [a0d s6]
 rfl
theorem b3C {t:Tab}{n b:Nat}{w l:Int}{X:Store}(hX:IsX X)(ok:Okt t (n+1) b)(hn:n<1000)(hcol:b4c t=[]):a0C F fuel (stW t w l X) a5Y=some (.ret (.int 0)):=by
 show a0C F fuel _ [.asg 79 false ePl,.ifs (.cmp .Eq (.var 79) (.list .nil)) [.ret (.int 0)] [],.asgT [80,37] c5u,.asg 77 false (.bin .Mult (.var 77) (.bin .Pow (.neg (.int 1)) (.idx (.var 79) (.int 0)))),.asg 78 false c4C,.asg 61 false (.idx (.var 80) (.int 0))] = _
 have pe:=b0i (F:=F) (w:=w) (l:=l) (X:=X) ok hn
 rw [hcol] at pe
 have s1:∃ σ,evE F σ (.var 79)=some (.list [])∧evS F fuel (stW t w l X) (.asg 79 false ePl)=some (.next σ):=by
  rcases hX with rfl | ⟨x1,x2,x3,rfl⟩
  ·exact⟨stW t w l [(79,.val (.list []))],by kernel_rfl,(a5b (by kernel_rfl) (by kernel_rfl) (by kernel_rfl) pe).trans (by kernel_rfl)⟩
  ·exact⟨stW t w l [(79,.val (.list [])),(80,.val x2),(37,.val x3)],by kernel_rfl,(a5b (by kernel_rfl) (by kernel_rfl) (by kernel_rfl) pe).trans (by kernel_rfl)⟩
 refine s1.elim (clear% s1;fun σ Z1=>Z1.elim (fun h79 s1=>?_))
 rw [a0d s1]
 refine a3J (o:=.ret (.int 0)) ?_ (fun _ h=>by cases h)
 rw [a0U (q:=true) (a0Y (x:=.list []) (y:=.list []) h79 (by kernel_rfl) rfl)]
 exact a2t (by kernel_rfl) (by kernel_rfl)
theorem a7S:∀ {n fuel':Nat} {t:Tab} {b c:Nat} {w l:Int} {X:Store},IsX X→Okt t n b→n<fuel'→(b+1)*2 ^ n≤2 ^ 15→2*c≤b+1→l≠0→l.natAbs<2 ^ c→w.natAbs=1→n≤12 →
  (∃ w' l' X',IsX X'∧a1I (evT F · (.cmp .NotEq (.var 78) (.list .nil))) (a0C F fuel · a5Y) fuel' (stW t w l X)=some (.next (stW [] w' l' X'))∧w'*l'=a8P n t w l∧w'.natAbs=1∧l'.natAbs<2 ^ 40000) ∨
  (a1I (evT F · (.cmp .NotEq (.var 78) (.list .nil))) (a0C F fuel · a5Y) fuel' (stW t w l X)=some (.ret (.int 0))∧a8P n t w l=0)
 | 0,fuel'+1,t,b,c,w,l,X,hX,ok,hf,hb,hc,hl0,hl,hw,hn=>by
  obtain rfl:t=[]:=c9s.mp ok.len
  left
  refine⟨w,l,X,hX,?_,rfl,hw,c7F hl (Nat.pow_le_pow_right (by decide) (by simp at hb;lia))⟩
  have:evT F (stW [] w l X) (.cmp .NotEq (.var 78) (.list .nil))=some false:=a0Y (x:=.list []) (y:=.list []) (by kernel_rfl) (by kernel_rfl) rfl
  exact b2p this
 | n+1,fuel'+1,t,b,c,w,l,X,hX,ok,hf,hb,hc,hl0,hl,hw,hn=>by
  have hne:evT F (stW t w l X) (.cmp .NotEq (.var 78) (.list .nil))=some true:=by
   refine a0Y (x:=tabD t) (y:=.list []) (by kernel_rfl) (by kernel_rfl) ?_
   have:=ok.len
   cases t with
   | nil=>cases this
   | cons a r=>rfl
  have h2n:2≤2 ^ (n+1):=by rw [Nat.pow_succ];have:=Nat.one_le_two_pow (n:=n);lia
  have hb15:b+1≤2 ^ 14:=by
   have:(b+1)*2≤(b+1)*2 ^ (n+1):=Nat.mul_le_mul_left _ h2n
   lia
  cases hcol:b4c t with
  | nil=>
   right
   refine⟨?_,by unfold a8P;rw [hcol]⟩
   exact b5X hne (b3C hX ok (by lia) hcol)
  | cons p q=>
   have hpc:=LA.col0_cons ((LA.colL_eq ok.len).symm.trans hcol)
   refine hpc.elim (clear% hpc;fun hp ha=>?_)
   obtain⟨X',hX',e⟩:=b3B (F:=F) (fuel:=fuel) hX ok (by lia) hcol hp (by lia) hl0 hl (by
    by_cases h0:n=0
    ·exact .inl h0
    ·right
     obtain⟨k,rfl⟩:∃ k,n=k+1:=⟨n - 1,by lia⟩
     have h4:4≤2 ^ (k+1+1):=by rw [Nat.pow_succ,Nat.pow_succ];have:=Nat.one_le_two_pow (n:=k);lia
     have:(b+1)*4≤(b+1)*2 ^ (k+1+1):=Nat.mul_le_mul_left _ h4
     lia) hw
   have hbar:a8P (n+1) t w l=a8P n (a2H p l t) (w*(-1) ^ p) ((t.getD p []).getD 0 0):=by
    conv=>lhs;unfold a8P
    rw [hcol]
   have hb2:(2*b+1+1)*2 ^ n≤2 ^ 15:=by
    rw [Nat.pow_succ] at hb
    have:(2*b+1+1)*2 ^ n=(b+1)*(2 ^ n*2):=by rw [Nat.mul_comm (2 ^ n) 2,← Nat.mul_assoc];congr 1;lia
    lia
   have ih:=a7S (n:=n) (fuel':=fuel') (t:=a2H p l t) (b:=2*b+1) (c:=b) (w:=w*(-1) ^ p) (l:=(t.getD p []).getD 0 0) hX' (b8A ok hp) (by lia)
    hb2 (by lia) ha (ok.at hp (by lia)) (by rw [Int.natAbs_mul,a6X,hw]) (by lia)
   rw [hbar]
   have hstep:a1I (evT F · (.cmp .NotEq (.var 78) (.list .nil))) (a0C F fuel · a5Y) (fuel'+1) (stW t w l X)=a1I (evT F · (.cmp .NotEq (.var 78) (.list .nil))) (a0C F fuel · a5Y) fuel' (stW (a2H p l t) (w*(-1) ^ p) ((t.getD p []).getD 0 0) X'):=by
    exact a7Q hne e rfl
   rw [hstep]
   exact ih
theorem b0j {m:Nat}{fuel:Nat}(hf:12<fuel){t:Tab}{n:Nat}(ok:Okt t n 7)(hn:n≤12):runG ids a0t fuel (m+1) 102 [tabD t] none=some (.int (a8P n t 1 1)):=by
 refine a2c (df:=⟨102,[78],[],[],a4s⟩) rfl (by decide) (by decide) rfl rfl rfl ?_
 show a0C _ fuel [(78,.val (tabD t))] [.asgT [77,61] (.tup (.cons (.int 1) (.cons (.int 1) .nil))),.while (.cmp .NotEq (.var 78) (.list .nil)) a5Y,.ret (.bin .Mult (.var 77) (.var 61))] = _
 have s1:evS (runG ids a0t fuel m) fuel [(78,.val (tabD t))] (.asgT [77,61] (.tup (.cons (.int 1) (.cons (.int 1) .nil))))=some (.next (stW t 1 1 [])):=by kernel_rfl
 rw [a0d s1]
 rcases a7S (F:=runG ids a0t fuel m) (fuel:=fuel) (n:=n) (fuel':=fuel) (t:=t) (b:=7) (c:=1) (w:=1) (l:=1) (.inl rfl) ok (by lia) (by
   have:(2:Nat) ^ n≤2 ^ 12:=Nat.pow_le_pow_right (by decide) hn
   lia) (by lia) (by decide) (by decide) rfl hn with⟨w',l',X',hX',e,he,hw',hl'⟩ | ⟨e,he⟩
 ·have e':evS (runG ids a0t fuel m) fuel (stW t 1 1 []) (.while (.cmp .NotEq (.var 78) (.list .nil)) a5Y)=some (.next (stW [] w' l' X')):=e
  rw [a0d e',← he]
  have hX2:∃ Z,freezeAll (stW [] w' l' X')=stW [] w' l' Z:=by
   rcases hX' with rfl | ⟨x1,x2,x3,rfl⟩
   ·exact⟨[],by kernel_rfl⟩
   ·exact⟨[(79,.val x1),(80,.val x2),(37,.val x3)],by kernel_rfl⟩
  refine hX2.elim (clear% hX2;fun Z hZ=>?_)
  refine a2t (by rw [hZ];kernel_rfl) ?_
  rw [hZ]
  exact a0l (x:=.int w') (y:=.int l') (by kernel_rfl) (by kernel_rfl) (a3K (b:=1) (c:=40000) (by lia) hl' (by lia))
 ·have e':evS (runG ids a0t fuel m) fuel (stW t 1 1 []) (.while (.cmp .NotEq (.var 78) (.list .nil)) a5Y)=some (.ret (.int 0)):=e
  rw [he]
  exact a3J e' fun _ h=>by cases h
end
end
section
noncomputable def NM (σ:Store):Prop:=∀ p∈σ,∀ y,p.2≠.meth y
theorem NM.no {σ:Store}(h:NM σ)(x:Nat):noMeth σ x=true:=c8k.mpr fun p hp=>by
 have q:=h p hp
 cases hs:p.2 with
 | meth y=>exact absurd hs (q y)
 | _=>rfl
theorem NM.nil:NM []:=fun _ h=>nomatch h
theorem NM.cons {σ:Store}{x:Nat}{s:Slot}(hs:∀ y,s≠.meth y)(h:NM σ):NM ((x,s) :: σ):=fun p hp=>(c8o.mp hp).elim (fun e=>e ▸ hs) (h p)
theorem NM.set {σ:Store}(h:NM σ){x:Nat}{s:Slot}(hs:∀ y,s≠.meth y):NM (σ.set x s):=by
 induction σ with
 | nil=>exact NM.nil.cons hs
 | cons p r ih=>
  have hr:NM r:=fun q hq=>h q (.tail _ hq)
  show NM (bif x==p.1 then (p.1,s) :: r else p :: Store.set r x s)
  cases x==p.1 with
  | true=>exact hr.cons hs
  | false=>exact (ih hr).cons (h _ (.head _))
theorem NM.val {σ:Store}(h:NM σ){x:Nat}{d:D}:NM (σ.set x (.val d)):=h.set nofun
theorem NM.own {σ:Store}(h:NM σ){x:Nat}{l:List D}:NM (σ.set x (.own l)):=h.set nofun
theorem a0Z {σ:Store}{x:Nat}{s s':Slot}(h:σ.get x=some s)(hs:s.freeze=some s'):(freezeAll σ).get x=some s':=by
 have go:∀ l:Store,(l.lookup x).isSome=true→Store.get (l.filterMap fun p:Nat×Slot=>(σ.get p.1).bind fun s=>s.freeze.map fun s'=>(p.1,s')) x=some s':=fun l hl=>by
  induction l with
  | nil=>exact absurd hl c7I
  | cons p r ih=>
   by_cases q:x=p.1
   ·rw [c9r (b:=(p.1,s')) (by rw [← q,h];exact a1h hs rfl),a0R,c7L.mpr q]
    rfl
   ·have hl:((p :: r:Store).lookup x).isSome=true:=hl
    rw [show (p :: r:Store)=(p.1,p.2) :: r from rfl,c7J,c7N.mpr q] at hl
    cases e:(σ.get p.1).bind fun s=>s.freeze.map fun s'=>(p.1,s') with
    | none=>rw [List.filterMap_cons_none (f:=fun p:Nat×Slot=>(σ.get p.1).bind fun s=>s.freeze.map fun s'=>(p.1,s')) e];exact ih hl
    | some w=>
     obtain⟨s,_,e'⟩:=bnd e
     obtain⟨s',_,e'⟩:=mpd e'
     rw [c9r (f:=fun p:Nat×Slot=>(σ.get p.1).bind fun s=>s.freeze.map fun s'=>(p.1,s')) e,a0R,← e',c7N.mpr q]
     exact ih hl
 exact go σ (by rw [show σ.lookup x=some s from h];rfl)
section
variable {F:Fns}{fuel:Nat}{σ σ' σ₀:Store}{d x y z:D}{ea eb ec:PE}
theorem a0g {k:Nat}(h:σ.get k=some (.val d)):evE F σ (.var k)=some d:=by show (σ.get k).bind _ = _;exact a0c h rfl
theorem a8V {k:Nat}{l:List D}(h:σ.get k=some (.own l)):evE F σ (.var k)=some (.list l):=by show (σ.get k).bind _ = _;exact a0c h rfl
theorem a0u {k:Nat}{e:PE}(hn:NM σ)(hv:a5T e=none)(hs:strict σ e=true)(h:evE F σ e=some d):evS F fuel σ (.asg k false e)=some (.next (σ.set k (.val d))):=a5b (hn.no k) hv hs h
theorem b1v {k:Nat}{es:PEs}{l:List D}(hn:NM σ)(h:evE F σ (.list es)=some (.list l)):evS F fuel σ (.asg k true (.list es))=some (.next (σ.set k (.own l))):=by
 show grd _ (((evE F σ (.list es)).bind D.ownOf).map _) = _;exact a3I (hn.no k) (a1h (a0c h rfl) rfl)
theorem c1O {k y:Nat}{l:List D}(hn:NM σ)(h:σ.get y=some (.own l)):evS F fuel σ (.asg k false (.var y))=some (.next ((σ.set y (.val (.list l))).set k (.val (.list l)))):=by
 show grd _ ((σ.get y).bind _) = _;exact a3I (hn.no k) (a0c h (a2b (x:=grd _ _) (a0n (hn.no y))))
theorem b8B {k y:Nat}(hn:NM σ)(h:σ.get y=some (.val d)):evS F fuel σ (.asg k false (.var y))=some (.next (σ.set k (.val d))):=by
 show grd _ ((σ.get y).bind _) = _;exact a3I (hn.no k) (a0c h rfl)
theorem a7T {k:Nat}{e:PE}{l:List D}(h:σ.get k=some (.own l))(he:evE F σ e=some d)(hs:strict σ e=true)(hl:l.length≤16777216):evS F fuel σ (.app k e)=some (.next (σ.set k (.own (l++[d])))):=by
 show (σ.get k).bind _ = _;exact a0c h (a0c (a:=l) rfl (a0c he (a0n (c8N.mpr ⟨hs,a0T hl⟩))))
theorem a1p {k:Nat}(hn:NM σ):a1c σ (.one k) d=some (σ.set k (.val d)):=a0n (hn.no k)
theorem a8W {e:PE}(hs:strict σ e=true)(h:evE F σ e=some d):evE F σ (.list (.cons e .nil))=some (.list [d]):=b6b (a2d hs h a7R) (by decide:1≤16777216)
theorem a0p {k:Nat}(h:σ.get k=some (.val d)):strict σ (.var k)=true:=by show ((σ.get k).bind _).isSome=true;rw [h];rfl
theorem a2A {t:Tgt}{iter:PE}{body:List PS}{items:List D}{o:Option Out}(h1:forOk σ iter=true)(h2:evI F σ iter=some items)(h3:a5U (fun σ d=>(a1c σ t d).bind fun σ'=>a0C F fuel σ' body) σ items=o):evS F fuel σ (.for t iter body)=o:=by
 show grd _ ((evI F σ iter).bind _) = _;exact a3I h1 (a0c h2 h3)
theorem c1P {a:Nat}{p:Slot}(ha:σ.get a=some p)(hp:∀ y,p≠.meth y):(σ.get a).bind (Slot.keep a)=some (a,p):=by
 rw [ha]
 cases p with
 | meth y=>exact absurd rfl (hp y)
 | _=>rfl
theorem a3d {a:Nat}{p:Slot}{r:List Nat}(ha:σ.get a=some p)(hp:∀ y,p≠.meth y)(hr:a0S σ r=some σ'):a0S σ (a :: r)=some ((a,p) :: σ'):=by
 unfold a0S at hr ⊢
 rw [c8i,c1P ha hp,hr]
 rfl
theorem a2R {a:Nat}{p:Slot}(ha:σ.get a=some p)(hp:∀ y,p≠.meth y):a0S σ [a]=some [(a,p)]:=a3d ha hp rfl
theorem a3N {a b:Nat}{p q:Slot}(ha:σ.get a=some p)(hb:σ.get b=some q)(hp:∀ y,p≠.meth y)(hq:∀ y,q≠.meth y):a0S σ [a,b]=some [(a,p),(b,q)]:=a3d ha hp (a2R hb hq)
theorem b2q {α β:Type}{fv:List Nat}{elt iter iter2:PE}{ifs2:PEs}{t t2:Tgt}{xs:List α}{ys:α→List β}{f:α→D}{f2:α→β→D}{g:α→β→D}{p:α→β→Bool}(hi:evI F σ iter=some (xs.map f))(hr:a0S σ fv=some σ₀)
  (hb:∀ x∈xs,∃ σ',a3o σ₀ t (f x)=some σ'∧evI F σ' iter2=some ((ys x).map (f2 x))∧∀ y∈ys x,∃ σ'',a3o σ' t2 (f2 x y)=some σ''∧b1H F σ'' ifs2=some (p x y)∧(p x y=true→strict σ'' elt=true∧evE F σ'' elt=some (g x y)))
  (hl:(xs.flatMap fun x=>((ys x).filter (p x)).map (g x)).length≤16777216):evE F σ (.comp fv elt t iter .nil (.cons t2 iter2 ifs2 .nil))=some (.list (xs.flatMap fun x=>((ys x).filter (p x)).map (g x))):=by
 show (evI F σ iter).bind _ = _
 refine a0c hi ?_
 show (a0S σ fv).bind _ = _
 refine a0c hr ?_
 show (List.mapM (m:=Option) _ (xs.map f)).bind _ = _
 refine a0c (a1g (g:=fun x=>((ys x).filter (p x)).map (g x)) fun x hx=>?_) ?_
 ·obtain⟨σ',h1,h2,h3⟩:=hb x hx
  show (a3o σ₀ t (f x)).bind _ = _
  refine a0c h1 ?_
  show (evI F σ' iter2).bind _ = _
  refine a0c h2 ?_
  show Option.map _ (List.mapM (m:=Option) _ ((ys x).map (f2 x))) = _
  refine a1h (a1g (g:=fun y=>bif p x y then [g x y] else []) fun y hy=>?_) (b5W ..)
  obtain⟨σ'',k1,k2,k3⟩:=h3 y hy
  show (a3o σ' t2 (f2 x y)).bind _ = _
  refine a0c k1 ?_
  show (b1H F σ'' ifs2).bind _ = _
  refine a0c k2 ?_
  cases hp:p x y with
  | false=>rfl
  | true=>
   refine (k3 hp).elim fun k4 k5=>?_
   show grd (strict σ'' elt) ((evE F σ'' elt).map _) = _
   exact a3I k4 (a1h k5 rfl)
 ·rw [← List.flatMap_def]
  exact a0n (a0T hl)
end
end
section
noncomputable abbrev WS:=List Nat×Bool
noncomputable def rnd (sig:Nat→Nat)(p:WS):D:=.str ⟨(p.1.map sig).toArray⟩ p.2
noncomputable def a0v (sig:Nat→Nat)(s:List WS):D:=.list (s.map (rnd sig))
theorem a4v {α:Type}{f:α→D}{l:List α}{n:Nat}(h:l.length=n):c2v (.list (l.map f))=some n:=c7H some ((c8u ..).trans h)
theorem a1t {F:Fns}{σ:Store}{k:Nat}{d:D}{ds:List D}(h:σ.get k=some (.val d))(hd:a5S d=some ds):evI F σ (.var k)=some ds:=by show (σ.get k).bind _ = _;exact a0c h hd
theorem c1Q (a b:Nat):((a:Int)==(b:Int))=(a==b):=by rw [c8j,c7L,c7L];exact Int.ofNat_inj
theorem b0k {a b:Nat}:a6p .Eq (.int (a:Int)) (.int (b:Int))=some (a==b):=c7H some (c1Q a b)
theorem b9N {a b:Nat}:a6p .Gt (.int (a:Int)) (.int (b:Int))=some (decide (b<a)):=c7H some (decide_eq_decide.mpr Int.ofNat_lt)
theorem c7k {a b:Nat}:a6p .Lt (.int (a:Int)) (.int (b:Int))=some (decide (a<b)):=c7H some (decide_eq_decide.mpr Int.ofNat_lt)
theorem a2I {l:List Nat}:(⟨l.toArray⟩:Str).length=l.length:=by simp [Str.length]
theorem c1R {a b:List Nat}:((⟨a.toArray⟩:Str)++⟨b.toArray⟩)=⟨(a++b).toArray⟩:=by
 show (⟨a.toArray++b.toArray⟩:Str) = _
 rw [List.append_toArray]
theorem b8C {f:Nat→Nat}{l:List Nat}:(⟨(l.map f).toArray⟩:Str).length=l.length:=a2I.trans (c8u ..)
theorem b2r {x y:Str}{g g':Bool}(h:x.length+y.length≤16777216):a2M .Add (.str x g) (.str y g')=some (.str (x++y)):=by
 show (grd (a0O (x.length+y.length)) (some (D.str (x++y)))).or _ = _
 exact a2b (a0n (a0T h))
theorem b2s {a b:List Nat}{g g':Bool}(h:a.length+b.length≤16777216):a2M .Add (.str ⟨a.toArray⟩ g) (.str ⟨b.toArray⟩ g')=some (.str ⟨(a++b).toArray⟩):=
 (b2r (by rw [a2I,a2I];exact h)).trans (by rw [c1R])
theorem a4w {sig:Nat→Nat}{p q:WS}(h:p.1.length+q.1.length≤16777216):a2M .Add (rnd sig p) (rnd sig q)=some (rnd sig (p.1++q.1,false)):=by
 refine (b2s (by rw [c8u,c8u];exact h)).trans ?_
 rw [← c9z]
 rfl
theorem a2B {sig:Nat→Nat}{p:WS}(hs:∀ i,sig i<128):a5S (rnd sig p)=some (p.1.map fun i=>rnd sig ([i],false)):=by
 refine a2b (x:=grd ((p.1.map sig).toArray.all (·<128)) (some (a8d ⟨(p.1.map sig).toArray⟩))) (a3I ?_ (c7H some (c8E ..)))
 rw [← Array.all_toList]
 exact c8k.mpr fun x hx=>(c9n.mp hx).elim fun i h=>h.2 ▸ c9c (hs i)
theorem c5v {α:Type}{body:Store→D→Option Out}{f:α→D}(P:List α→Store→Prop){xs done:List α}{σ:Store}(h:P done σ)
  (k:∀ done x σ,x∈xs→P done σ→∃ σ',(body σ (f x)=some (.next σ')∨body σ (f x)=some (.cont σ'))∧P (done++[x]) σ'):∃ σ',a5U body σ (xs.map f)=some (.next σ')∧P (done++xs) σ':=by
 induction xs generalizing done σ with
 | nil=>exact⟨σ,rfl,(c8T done).symm ▸ h⟩
 | cons x xs ih=>
  refine (k done x σ (.head _) h).elim fun σ' Z1=>Z1.elim (fun e h'=>?_)
  refine (ih h' fun d y σ hy=>k d y σ (.tail _ hy)).elim fun σ'' Z1=>Z1.elim (fun e2 h''=>?_)
  exact⟨σ'',a8T e e2,by rw [c8U] at h'';exact h''⟩
theorem a1F {α:Type}{body:Store→D→Option Out}{f:α→D}(P:List α→Store→Prop){all:List α}{σ:Store}(h0:P [] σ)
  (k:∀ done x rest σ,done++x :: rest=all→P done σ→∃ σ',(body σ (f x)=some (.next σ')∨body σ (f x)=some (.cont σ'))∧P (done++[x]) σ'):∃ σ',a5U body σ (all.map f)=some (.next σ')∧P all σ':=by
 have aux:∀ (xs done:List α) (σ:Store),done++xs=all→P done σ→∃ σ',a5U body σ (xs.map f)=some (.next σ')∧P all σ':=fun xs=>by
  induction xs with
  | nil=>exact fun done σ e h=>⟨σ,rfl,e ▸ (c8T done).symm ▸ h⟩
  | cons x xs ih=>
   intro done σ e h
   refine (k done x xs σ e h).elim fun σ' Z1=>Z1.elim (fun e1 h'=>?_)
   refine (ih (done++[x]) σ' (by rw [c8U];exact e) h').elim fun σ'' Z1=>Z1.elim (fun e2 h''=>?_)
   exact⟨σ'',a8T e1 e2,h''⟩
 exact aux all [] σ rfl h0
noncomputable def a2S (lo:Nat→Nat→Bool)(a b:List Nat):Bool:=a.all fun i=>b.all fun j=>lo i j
noncomputable def a0x (lo:Nat→Nat→Bool)(thing:WS)(s:List WS):List (List WS):=
 (s++[thing]) :: ((List.range s.length).filter fun k=>a2S lo (s.getD k ([],false)).1 thing.1).map fun k=>s.take k++[((s.getD k ([],false)).1++thing.1,false)]++s.drop (k+1)
theorem a5d {lo:Nat→Nat→Bool}{thing:WS}{s:List WS}:(a0x lo thing s).length≤s.length+1:=by
 unfold a0x
 rw [c8x,c8u]
 have:=c9y (fun k=>a2S lo (s.getD k ([],false)).1 thing.1) (List.range s.length)
 rw [c8v] at this
 lia
section
variable {F:Fns}{fuel:Nat}{sig:Nat→Nat}{lo:Nat→Nat→Bool}{loose:List D}
noncomputable def a3e (sig:Nat→Nat)(lo:Nat→Nat→Bool)(loose:List D):Prop:=∀ i j,i<4→j<4→∀ g,inD (.str ⟨#[sig i,sig j]⟩ g) (.list loose)=some (lo i j)
noncomputable def a6Y:PE:=.comp [83,43] (.var 44) (.one 44) (.idx (.var 86) (.var 31)) .nil (.cons (.one 45) (.var 83) (.cons (.cmp .NotIn (.bin .Add (.var 44) (.var 45)) (.var 43)) .nil) .nil)
theorem b9O {s:List WS}{k:Nat}(hk:k<s.length)(hl:s.length≤16777216):a4C (a0v sig s) (.int (k:Int))=some (rnd sig (s.getD k ([],false))):=a1D (b5Y hk) (c7O (c8w (c8u ..)) hl)
theorem c4E {α:Type}{f:α→Nat}{l:List α}{k:Nat}(h:∀ x∈l,f x≤k):(l.map f).sum≤l.length*k:=by
 induction l with
 | nil=>exact c8z _
 | cons a r ih=>
  rw [c9g,c8y,c8x,Nat.add_mul,Nat.one_mul,Nat.add_comm]
  exact Nat.add_le_add (ih fun x hx=>h x (.tail _ hx)) (h a (.head _))
theorem b8D (hs:∀ i,sig i<128)(HL:a3e sig lo loose){σ:Store}{thing:WS}{s:List WS}{k:Nat}(h83:σ.get 83=some (.val (rnd sig thing)))(h43:σ.get 43=some (.val (.list loose)))(h86:σ.get 86=some (.val (a0v sig s)))
  (h31:σ.get 31=some (.val (.int (k:Int)))) (hk:k<s.length) (hl:s.length≤1000) (h4:∀ p∈s,(∀ x∈p.1,x<4)∧p.1.length≤1000) (ht:(∀ x∈thing.1,x<4)∧thing.1.length≤1000) :
  evT F σ (.cmp .Eq a6Y (.list .nil))=some (a2S lo (s.getD k ([],false)).1 thing.1):=by
 have hm:s.getD k ([],false)∈s:=a0M hk
 generalize hp:s.getD k ([],false)=p at *
 have hp4:=h4 p hm
 have e:evE F σ a6Y=some (.list (p.1.flatMap fun x=>(thing.1.filter fun y=>!(lo x y)).map fun _=>rnd sig ([x],false))):=by
  refine b2q (σ₀:=[(83,.val (rnd sig thing)),(43,.val (.list loose))]) (xs:=p.1) (ys:=fun _=>thing.1) (f:=fun x=>rnd sig ([x],false)) (f2:=fun _ y=>rnd sig ([y],false)) (g:=fun x _=>rnd sig ([x],false)) (p:=fun x y=>!(lo x y)) ?_ (a3N h83 h43 (fun _=>by simp) (fun _=>by simp)) (fun x hx=>?_) ?_
  ·show (evE F σ (.var 86)).bind _ = _
   exact a0c (a0g h86) (a0c (a0g h31) (a0c (b9O hk (c7O hl (by decide))) (hp ▸ a2B hs)))
  ·refine⟨[(83,.val (rnd sig thing)),(43,.val (.list loose)),(44,.val (rnd sig ([x],false)))],by kernel_rfl,?_,fun y hy=>?_⟩
   ·exact (by kernel_rfl:evI F [(83,.val (rnd sig thing)),(43,.val (.list loose)),(44,.val (rnd sig ([x],false)))] (.var 83)=a5S (rnd sig thing)).trans (a2B hs)
   ·refine⟨[(83,.val (rnd sig thing)),(43,.val (.list loose)),(44,.val (rnd sig ([x],false))),(45,.val (rnd sig ([y],false)))],by kernel_rfl,?_,fun _=>⟨by kernel_rfl,by kernel_rfl⟩⟩
    refine a5a (a0Y (x:=rnd sig ([x]++[y],false)) (y:=.list loose) (a0l (by kernel_rfl) (by kernel_rfl) (a4w (p:=([x],false)) (q:=([y],false)) (by simp))) (by kernel_rfl) ?_)
    exact a1h (HL x y (hp4.1 x hx) (ht.1 y hy) false) rfl
  ·rw [List.length_flatMap]
   exact c7O (c4E fun x _=>c7O (c8w (c8u ..)) (c7O (c9y _ _) ht.2)) (c7O (Nat.mul_le_mul_right 1000 hp4.2) (by decide))
 refine a0Y e (y:=.list []) (by kernel_rfl) ?_
 have key:(p.1.flatMap fun x=>(thing.1.filter fun y=>!(lo x y)).map fun _=>rnd sig ([x],false)).isEmpty=a2S lo p.1 thing.1:=by
  unfold a2S
  rw [c8j]
  simp [List.filter_eq_nil_iff]
 rw [← key]
 cases (p.1.flatMap fun x=>(thing.1.filter fun y=>!(lo x y)).map fun _=>rnd sig ([x],false)) <;> rfl
end
end
section
theorem a0a {σ:Store}{x y:Nat}{s:Slot}(h:y≠x):(σ.set x s).get y=σ.get y:=by rw [Store.get_set,c7M h]
theorem a0m {σ:Store}{x:Nat}{s:Slot}:(σ.set x s).get x=some s:=by rw [Store.get_set,c7K rfl]
section
variable {F:Fns}{fuel:Nat}{sig:Nat→Nat}{lo:Nat→Nat→Bool}{loose:List D}
structure PI (sig:Nat→Nat)(loose:List D)(σ:Store)(things:D)(L:List (List WS))(acc:List (List WS)):Prop where
 nm:NM σ
 g43:σ.get 43=some (.val (.list loose))
 g84:σ.get 84=some (.val things)
 g82:σ.get 82=some (.val (.list (L.map (a0v sig))))
 g85:σ.get 85=some (.own (acc.map (a0v sig)))
noncomputable def mkX (thing:WS)(s:List WS)(k:Nat):List WS:=s.take k++[((s.getD k ([],false)).1++thing.1,false)]++s.drop (k+1)
noncomputable def eMk:PE:=.bin .Add (.bin .Add (.slice (.var 86) .no (.yes (.var 31))) (.list (.cons (.bin .Add (.idx (.var 86) (.var 31)) (.var 83)) .nil))) (.slice (.var 86) (.yes (.bin .Add (.var 31) (.int 1))) .no)
theorem c6K {σ:Store}{thing:WS}{s:List WS}{k:Nat}(h83:σ.get 83=some (.val (rnd sig thing)))(h86:σ.get 86=some (.val (a0v sig s)))
  (h31:σ.get 31=some (.val (.int (k:Int)))) (hk:k<s.length) (hl:s.length≤1000) (h4:∀ p∈s,p.1.length≤1000) (ht:thing.1.length≤1000):evE F σ eMk=some (a0v sig (mkX thing s k)):=by
 have hm:=h4 _ (a0M (d:=([],false)) hk)
 have e1:evE F σ (.slice (.var 86) .no (.yes (.var 31)))=some (a0v sig (s.take k)):=by
  refine a3c (a0g h86) (l:=none) (by kernel_rfl) (a5Q (a0g h31)) (l':=none) rfl (a1M (by lia)) ?_
  unfold a0v
  rw [a5y (by simp;lia),b5U (by simp;lia),List.map_take]
 have e2:evE F σ (.list (.cons (.bin .Add (.idx (.var 86) (.var 31)) (.var 83)) .nil))=some (a0v sig [((s.getD k ([],false)).1++thing.1,false)]):=
  a8W (by kernel_rfl) (a0l (a0G (a0g h86) (a0g h31) (b9O hk (by lia))) (a0g h83) (a4w (by lia)))
 have e3:evE F σ (.slice (.var 86) (.yes (.bin .Add (.var 31) (.int 1))) .no)=some (a0v sig (s.drop (k+1))):=by
  refine a3c (a0g h86) (a5Q (a0l (a0g h31) (y:=.int 1) (by kernel_rfl) (z:=.int ((k+1:Nat):Int)) rfl)) (h:=none) (by kernel_rfl) (a1M (by lia)) (h':=none) rfl ?_
  unfold a0v
  rw [a5y (by simp;lia),b2n (by simp;lia),List.map_drop]
 have hd:(s.drop (k+1)).length≤1000:=by rw [List.length_drop];lia
 have ht':(s.take k).length≤1000:=by rw [List.length_take];lia
 refine a0l (a0l e1 e2 (z:=a0v sig (s.take k++[((s.getD k ([],false)).1++thing.1,false)])) ?_) e3 ?_
 ·unfold a0v;rw [a3M (by rw [c8u,c8u,c9A];lia),c9z]
 ·unfold a0v mkX;rw [a3M (by rw [c8u,c8u,c8Y,c9A];lia),c9z (l₂:=s.drop (k+1))]
theorem b3D (hs:∀ i,sig i<128)(HL:a3e sig lo loose){σ:Store}{things:D}{L acc:List (List WS)}{thing:WS}{s:List WS}(I:PI sig loose σ things L acc)(h83:σ.get 83=some (.val (rnd sig thing)))(h86:σ.get 86=some (.val (a0v sig s)))
  (hl:s.length≤1000) (h4:∀ p∈s,(∀ x∈p.1,x<4)∧p.1.length≤1000) (ht:(∀ x∈thing.1,x<4)∧thing.1.length≤1000) (hacc:acc.length≤1000000) :
  ∃ σ',evS F fuel σ (.for (.one 31) (.range1 (.len (.var 86))) [.ifs (.cmp .Eq a6Y (.list .nil)) [.app 85 eMk] []])=some (.next σ') ∧
   PI sig loose σ' things L (acc++((List.range s.length).filter fun k=>a2S lo (s.getD k ([],false)).1 thing.1).map (mkX thing s))∧σ'.get 83=some (.val (rnd sig thing)):=by
 let body:Store→D→Option Out:=fun σ d=>(a1c σ (.one 31) d).bind fun σ'=>a0C F fuel σ' [.ifs (.cmp .Eq a6Y (.list .nil)) [.app 85 eMk] []]
 obtain⟨σ',e,I',h83',h86'⟩:=a1F (body:=body) (f:=fun (k:Nat)=>D.int (k:Int)) (all:=List.range s.length) (σ:=σ)
  (fun done σ=>PI sig loose σ things L (acc++(done.filter fun k=>a2S lo (s.getD k ([],false)).1 thing.1).map (mkX thing s))∧σ.get 83=some (.val (rnd sig thing))∧σ.get 86=some (.val (a0v sig s)))
  ⟨by simpa using I,h83,h86⟩ fun done k rest σ hd ⟨I,h83,h86⟩=>by
   have hk:k∈List.range s.length:=by rw [← hd];simp
   have hk:=c8l.mp hk
   have hdl:done.length≤1000:=by
    have:=c7H List.length hd
    simp at this;lia
   have I₁:PI sig loose (σ.set 31 (.val (.int (k:Int)))) things L (acc++(done.filter fun k=>a2S lo (s.getD k ([],false)).1 thing.1).map (mkX thing s)):=
    ⟨I.nm.val,(a0a (by decide)).trans I.g43,(a0a (by decide)).trans I.g84,(a0a (by decide)).trans I.g82,(a0a (by decide)).trans I.g85⟩
   have k83:(σ.set 31 (.val (.int (k:Int)))).get 83=some (.val (rnd sig thing)):=(a0a (by decide)).trans h83
   have k86:(σ.set 31 (.val (.int (k:Int)))).get 86=some (.val (a0v sig s)):=(a0a (by decide)).trans h86
   have k31:(σ.set 31 (.val (.int (k:Int)))).get 31=some (.val (.int (k:Int))):=a0m
   have hb:body σ (.int (k:Int))=a0C F fuel (σ.set 31 (.val (.int (k:Int)))) [.ifs (.cmp .Eq a6Y (.list .nil)) [.app 85 eMk] []]:=by
    show ((a1c σ (.one 31) (.int (k:Int))).bind fun σ'=>a0C F fuel σ' _) = _
    rw [a1p I.nm];rfl
   rw [hb]
   generalize σ.set 31 (.val (.int (k:Int)))=σ₁ at *
   have tj:=b8D (F:=F) hs HL k83 I₁.g43 k86 k31 hk hl h4 ht
   have hifs:=a0U (F:=F) (fuel:=fuel) (A:=[.app 85 eMk]) (B:=[]) tj
   cases hj:a2S lo (s.getD k ([],false)).1 thing.1 with
   | false=>
    rw [hj] at hifs
    refine⟨σ₁,.inl ((a0d hifs).trans rfl),?_,k83,k86⟩
    rw [List.filter_append,c9q,hj]
    simpa using I₁
   | true=>
    rw [hj] at hifs
    have hfl:=c9y (fun k=>a2S lo (s.getD k ([],false)).1 thing.1) done
    have ap:=a7T (F:=F) (fuel:=fuel) (k:=85) (e:=eMk) I₁.g85 (c6K k83 k86 k31 hk hl (fun p hp=>(h4 p hp).2) ht.2) (by kernel_rfl) (by rw [c8u,c8Y,c8u];lia)
    have hifs':evS F fuel σ₁ (.ifs (.cmp .Eq a6Y (.list .nil)) [.app 85 eMk] [])=some (.next (σ₁.set 85 (.own (List.map (a0v sig) (acc++List.map (mkX thing s) (List.filter (fun k=>a2S lo (s.getD k ([],false)).1 thing.1) done))++[a0v sig (mkX thing s k)])))):=
     hifs.trans ((a0d ap).trans rfl)
    refine⟨_,.inl ((a0d hifs').trans rfl),⟨I₁.nm.own,(a0a (by decide)).trans I₁.g43,(a0a (by decide)).trans I₁.g84,(a0a (by decide)).trans I₁.g82,?_⟩,(a0a (by decide)).trans k83,(a0a (by decide)).trans k86⟩
    rw [a0m,List.filter_append,c9q,hj]
    simp
 refine⟨σ',a2A (by kernel_rfl) (a1E (a2z (x:=a0v sig s) (a0g h86) (a4v rfl) (by lia)) (by lia)) e,by simpa using I',h83'⟩
end
end
section
noncomputable def LX (lo:Nat→Nat→Bool)(ths:List WS):List (List WS):=ths.foldl (fun L th=>L.flatMap (a0x lo th)) [[]]
structure Inv (n:Nat)(L:List (List WS)):Prop where
 len:L.length≤6 ^ n
 each:∀ s∈L,s.length≤n∧∀ p∈s,(∀ x∈p.1,x<4)∧p.1.length≤4*n
theorem a2h {α β:Type}{f:α→List β}{k:Nat}:∀ {l:List α},(∀ x∈l,(f x).length≤k)→(l.flatMap f).length≤l.length*k
 | [],_=>by simp
 | a :: l,h=>by
  rw [c9B,c8Y,c8x,Nat.add_mul]
  have h1:=h a (.head _)
  have h2:=a2h (l:=l) fun x hx=>h x (.tail _ hx)
  lia
theorem Inv.step {n:Nat}{L:List (List WS)}{lo:Nat→Nat→Bool}{th:WS}(h:Inv n L)(hn:n≤4)(ht:(∀ x∈th.1,x<4)∧th.1.length≤4):Inv (n+1) (L.flatMap (a0x lo th)):=by
 refine⟨?_,fun s hs=>?_⟩
 ·have:=a2h (l:=L) (f:=a0x lo th) (k:=6) fun s hs=>c7O a5d (by have:=(h.each s hs).1;lia)
  have:=h.len
  rw [Nat.pow_succ]
  lia
 ·refine (List.mem_flatMap.mp hs).elim fun s0 Z1=>Z1.elim (fun hs0 hs=>?_)
  refine (h.each s0 hs0).elim fun h1 h2=>?_
  unfold a0x at hs
  rcases c8o.mp hs with rfl | hs
  ·refine⟨by simp;lia,fun p hp=>?_⟩
   rcases c8P.mp hp with hp | hp
   ·have:=h2 p hp;exact⟨this.1,by lia⟩
   ·rw [c8C] at hp;subst hp;exact⟨ht.1,by lia⟩
  ·refine (c9n.mp hs).elim fun k Z1=>Z1.elim (fun hk Z2=>?_)
   subst Z2
   have hk:=c8l.mp (c9u.mp hk).1
   have hm:=h2 _ (a0M (d:=([],false)) hk)
   refine⟨by simp;lia,fun p hp=>?_⟩
   rcases c8P.mp hp with hp | hp
   ·rcases c8P.mp hp with hp | hp
    ·have:=h2 p (List.mem_of_mem_take hp);exact⟨this.1,by lia⟩
    ·rw [c8C] at hp;subst hp
     refine⟨fun x hx=>?_,by rw [c8Y];lia⟩
     rcases c8P.mp hx with hx | hx
     ·exact hm.1 x hx
     ·exact ht.1 x hx
   ·have:=h2 p (List.mem_of_mem_drop hp);exact⟨this.1,by lia⟩
theorem b1w {lo:Nat→Nat→Bool}{ths:List WS}{th:WS}:LX lo (ths++[th])=(LX lo ths).flatMap (a0x lo th):=by simp [LX]
theorem a6k {α:Type}{P:List α→Prop}(h0:P [])(h1:∀ r a,P r→P (r++[a]))(l:List α):P l:=by
 have:∀ l:List α,P l.reverse:=by
  intro l
  induction l with
  | nil=>exact h0
  | cons a r ih=>rw [List.reverse_cons];exact h1 _ _ ih
 have:=this l.reverse
 rwa [List.reverse_reverse] at this
theorem b9P {lo:Nat→Nat→Bool}:∀ {ths:List WS},ths.length≤5→(∀ t∈ths,(∀ x∈t.1,x<4)∧t.1.length≤4)→Inv ths.length (LX lo ths):=by
 intro ths
 refine a6k (P:=fun ths:List WS=>ths.length≤5→(∀ t∈ths,(∀ x∈t.1,x<4)∧t.1.length≤4)→Inv ths.length (LX lo ths)) (fun _ _=>⟨by simp [LX],fun s hs=>by simp [LX] at hs;subst hs;simp⟩) (fun r a ih hl h=>?_) ths
 rw [c8Y,c9A] at hl ⊢
 rw [b1w]
 exact (ih (by lia) fun t ht=>h t (c8R _ ht)).step (by lia) (h a (by simp))
section
variable {F:Fns}{fuel:Nat}{sig:Nat→Nat}{lo:Nat→Nat→Bool}{loose:List D}
noncomputable def b8E:List PS:=[.app 85 (.bin .Add (.var 86) (.list (.cons (.var 83) .nil))),.for (.one 31) (.range1 (.len (.var 86))) [.ifs (.cmp .Eq a6Y (.list .nil)) [.app 85 eMk] []]]
theorem b8F (hs:∀ i,sig i<128)(HL:a3e sig lo loose){σ:Store}{things:D}{L:List (List WS)}{n:Nat}{thing:WS}(hI:Inv n L)(hn:n≤4)(I:PI sig loose σ things L [])(h83:σ.get 83=some (.val (rnd sig thing)))
  (ht:(∀ x∈thing.1,x<4)∧thing.1.length≤4):∃ σ',evS F fuel σ (.for (.one 86) (.var 82) b8E)=some (.next σ')∧PI sig loose σ' things L (L.flatMap (a0x lo thing)):=by
 let body:Store→D→Option Out:=fun σ d=>(a1c σ (.one 86) d).bind fun σ'=>a0C F fuel σ' b8E
 have h6:6 ^ n≤6 ^ 4:=Nat.pow_le_pow_right (by decide) hn
 have hLl:=hI.len
 obtain⟨σ',e,I',h83'⟩:=a1F (body:=body) (f:=a0v sig) (all:=L) (σ:=σ) (fun done σ=>PI sig loose σ things L (done.flatMap (a0x lo thing))∧σ.get 83=some (.val (rnd sig thing))) ⟨by simpa using I,h83⟩ fun done s rest σ hd ⟨I,h83⟩=>by
  have hsm:s∈L:=by rw [← hd];simp
  refine (hI.each s hsm).elim fun hsl hsp=>?_
  have hacc:(done.flatMap (a0x lo thing)).length≤10000:=by
   have h1:=a2h (l:=done) (f:=a0x lo thing) (k:=6) fun s' hs'=>c7O a5d (by have:=(hI.each s' (by rw [← hd];exact c8R _ hs')).1;lia)
   have h2:done.length≤L.length:=by rw [← hd];simp
   lia
  have hb:body σ (a0v sig s)=a0C F fuel (σ.set 86 (.val (a0v sig s))) b8E:=by
   show ((a1c σ (.one 86) _).bind fun σ'=>a0C F fuel σ' _) = _
   rw [a1p I.nm];rfl
  rw [hb]
  have I₁:PI sig loose (σ.set 86 (.val (a0v sig s))) things L (done.flatMap (a0x lo thing)):=
   ⟨I.nm.val,(a0a (by decide)).trans I.g43,(a0a (by decide)).trans I.g84,(a0a (by decide)).trans I.g82,(a0a (by decide)).trans I.g85⟩
  have k83:(σ.set 86 (.val (a0v sig s))).get 83=some (.val (rnd sig thing)):=(a0a (by decide)).trans h83
  have k86:(σ.set 86 (.val (a0v sig s))).get 86=some (.val (a0v sig s)):=a0m
  generalize σ.set 86 (.val (a0v sig s))=σ₁ at *
  have e1:evE F σ₁ (.bin .Add (.var 86) (.list (.cons (.var 83) .nil)))=some (a0v sig (s++[thing])):=by
   refine a0l (a0g k86) (a8W (a0p k83) (a0g k83)) ?_
   unfold a0v
   rw [a3M (by simp;lia),c9z];rfl
  have ap:=a7T (F:=F) (fuel:=fuel) (k:=85) I₁.g85 e1 (by kernel_rfl) (by rw [c8u];lia)
  have I₂:PI sig loose (σ₁.set 85 (.own (List.map (a0v sig) (List.flatMap (a0x lo thing) done)++[a0v sig (s++[thing])]))) things L (done.flatMap (a0x lo thing)++[s++[thing]]):=
   ⟨I₁.nm.own,(a0a (by decide)).trans I₁.g43,(a0a (by decide)).trans I₁.g84,(a0a (by decide)).trans I₁.g82,by rw [a0m,c9z];rfl⟩
  have m83:(σ₁.set 85 (.own (List.map (a0v sig) (List.flatMap (a0x lo thing) done)++[a0v sig (s++[thing])]))).get 83=some (.val (rnd sig thing)):=(a0a (by decide)).trans k83
  have m86:(σ₁.set 85 (.own (List.map (a0v sig) (List.flatMap (a0x lo thing) done)++[a0v sig (s++[thing])]))).get 86=some (.val (a0v sig s)):=(a0a (by decide)).trans k86
  generalize σ₁.set 85 (.own (List.map (a0v sig) (List.flatMap (a0x lo thing) done)++[a0v sig (s++[thing])]))=σ₂ at *
  obtain⟨σ₃,e3,I₃,h83₃⟩:=b3D (F:=F) (fuel:=fuel) hs HL I₂ m83 m86 (by lia) (fun p hp=>⟨(hsp p hp).1,by have:=(hsp p hp).2;lia⟩) ⟨ht.1,by lia⟩ (by rw [c8Y,c9A];lia)
  refine⟨σ₃,.inl ?_,?_,h83₃⟩
  ·show a0C F fuel σ₁ [_,_] = _
   rw [a0d ap,a0d e3];rfl
  ·rw [c9C]
   have:[s].flatMap (a0x lo thing)=[s++[thing]]++((List.range s.length).filter fun k=>a2S lo (s.getD k ([],false)).1 thing.1).map (mkX thing s):=by
    simp [a0x,mkX]
   rw [this,← c8U]
   exact I₃
 exact⟨σ',a2A (a0p I.g82) (a1t I.g82 rfl) e,I'⟩
noncomputable def b8G:List PS:=[.asg 85 true (.list .nil),.for (.one 86) (.var 82) b8E,.asg 82 false (.var 85)]
structure PO' (sig:Nat→Nat)(loose:List D)(σ:Store)(things:D)(L:List (List WS)):Prop where
 nm:NM σ
 g43:σ.get 43=some (.val (.list loose))
 g84:σ.get 84=some (.val things)
 g82:σ.get 82=some (.val (.list (L.map (a0v sig))))
theorem b3E (hs:∀ i,sig i<128)(HL:a3e sig lo loose){σ:Store}{ths:List WS}(hl:ths.length≤5)(h4:∀ t∈ths,(∀ x∈t.1,x<4)∧t.1.length≤4)(I:PO' sig loose σ (a0v sig ths) [[]]) :
  ∃ σ',evS F fuel σ (.for (.one 83) (.var 84) b8G)=some (.next σ')∧PO' sig loose σ' (a0v sig ths) (LX lo ths):=by
 let body:Store→D→Option Out:=fun σ d=>(a1c σ (.one 83) d).bind fun σ'=>a0C F fuel σ' b8G
 obtain⟨σ',e,I'⟩:=a1F (body:=body) (f:=rnd sig) (all:=ths) (σ:=σ) (fun done σ=>PO' sig loose σ (a0v sig ths) (LX lo done)) (by simpa [LX] using I) fun done th rest σ hd I=>by
  have hth:=h4 th (by rw [← hd];simp)
  have hdl:done.length≤4:=by have:=c7H List.length hd;simp at this;lia
  have hInv:=b9P (lo:=lo) (ths:=done) (by lia) fun t ht=>h4 t (by rw [← hd];exact c8R _ ht)
  have hb:body σ (rnd sig th)=a0C F fuel (σ.set 83 (.val (rnd sig th))) b8G:=by
   show ((a1c σ (.one 83) _).bind fun σ'=>a0C F fuel σ' _) = _
   rw [a1p I.nm];rfl
  rw [hb]
  have nm₁:NM (σ.set 83 (.val (rnd sig th))):=I.nm.val
  have a1:=b1v (F:=F) (fuel:=fuel) (k:=85) (es:=.nil) (l:=[]) nm₁ (by kernel_rfl)
  have I₂:PI sig loose ((σ.set 83 (.val (rnd sig th))).set 85 (.own [])) (a0v sig ths) (LX lo done) []:=
   ⟨nm₁.own,(a0a (by decide)).trans ((a0a (by decide)).trans I.g43),(a0a (by decide)).trans ((a0a (by decide)).trans I.g84),(a0a (by decide)).trans ((a0a (by decide)).trans I.g82),a0m⟩
  have k83:((σ.set 83 (.val (rnd sig th))).set 85 (.own [])).get 83=some (.val (rnd sig th)):=(a0a (by decide)).trans a0m
  generalize (σ.set 83 (.val (rnd sig th))).set 85 (.own [])=σ₂ at *
  refine (b8F (F:=F) (fuel:=fuel) hs HL hInv hdl I₂ k83 hth).elim fun σ₃ Z1=>Z1.elim (fun e3 I₃=>?_)
  have a4:=c1O (F:=F) (fuel:=fuel) (k:=82) (y:=85) I₃.nm I₃.g85
  refine⟨(σ₃.set 85 (.val (.list (List.map (a0v sig) (List.flatMap (a0x lo th) (LX lo done)))))).set 82 (.val (.list (List.map (a0v sig) (List.flatMap (a0x lo th) (LX lo done))))),.inl ?_,?_⟩
  ·show a0C F fuel _ [_,_,_] = _
   rw [a0d a1,a0d e3,a0d a4];rfl
  ·exact⟨I₃.nm.val.val,(a0a (by decide)).trans ((a0a (by decide)).trans I₃.g43),(a0a (by decide)).trans ((a0a (by decide)).trans I₃.g84),by rw [a0m,b1w]⟩
 exact⟨σ',a2A (a0p I.g84) (a1t I.g84 rfl) e,I'⟩
noncomputable def b3F (lo:Nat→Nat→Bool)(ths:List WS):List Int:=(List.range (ths.length+1)).map fun (n:Nat)=>(((LX lo ths).filter fun s=>s.length==n).length:Int)
theorem a7U {m:Nat}(hs:∀ i,sig i<128)(HL:a3e sig lo loose){ths:List WS}(hl:ths.length≤5)(h4:∀ t∈ths,(∀ x∈t.1,x<4)∧t.1.length≤4) :
  runG ids a0t fuel (m+1) 91 [a0v sig ths,.list loose] none=some (.list ((b3F lo ths).map .int)):=by
 refine a2c (df:=⟨91,[84,43],[],[],a5O⟩) rfl (by decide) (by decide) rfl rfl rfl ?_
 generalize runG ids a0t fuel m=F
 show a0C F fuel [(84,.val (a0v sig ths)),(43,.val (.list loose))] [.asg 82 false (.list (.cons (.list .nil) .nil)),.for (.one 83) (.var 84) b8G,.ret (.comp [82] (.len (.comp [38] (.var 86) (.one 86) (.var 82) (.cons (.cmp .Eq (.len (.var 86)) (.var 38)) .nil) .nil)) (.one 38) (.range1 (.bin .Add (.len (.var 84)) (.int 1))) .nil .nil)] = _
 have a1:evS F fuel [(84,.val (a0v sig ths)),(43,.val (.list loose))] (.asg 82 false (.list (.cons (.list .nil) .nil)))=some (.next [(84,.val (a0v sig ths)),(43,.val (.list loose)),(82,.val (.list [.list []]))]):=by kernel_rfl
 rw [a0d a1]
 refine (b3E (F:=F) (fuel:=fuel) (lo:=lo) (σ:=[(84,.val (a0v sig ths)),(43,.val (.list loose)),(82,.val (.list [.list []]))]) hs HL hl h4 ⟨((NM.nil.cons (fun _=>by simp)).cons (fun _=>by simp)).cons (fun _=>by simp),by kernel_rfl,by kernel_rfl,by kernel_rfl⟩).elim fun σ' Z1=>Z1.elim (fun e I=>?_)
 rw [a0d e]
 have hInv:=b9P (lo:=lo) hl h4
 have h6:6 ^ ths.length≤6 ^ 5:=Nat.pow_le_pow_right (by decide) hl
 have hLl:(LX lo ths).length≤7776:=c7O hInv.len h6
 have f82:=a0Z I.g82 (s':=.val (.list ((LX lo ths).map (a0v sig)))) rfl
 have f84:=a0Z I.g84 (s':=.val (a0v sig ths)) rfl
 refine a2t (by kernel_rfl) ?_
 generalize freezeAll σ'=τ at *
 have:=a1b (F:=F) (σ:=τ) (fv:=[82]) (elt:=.len (.comp [38] (.var 86) (.one 86) (.var 82) (.cons (.cmp .Eq (.len (.var 86)) (.var 38)) .nil) .nil)) (t:=.one 38) (iter:=.range1 (.bin .Add (.len (.var 84)) (.int 1))) (xs:=List.range (ths.length+1)) (f:=fun (n:Nat)=>.int (n:Int))
  (g:=fun (n:Nat)=>.int (((LX lo ths).filter fun s=>s.length==n).length:Int)) (σ₀:=[(82,.val (.list ((LX lo ths).map (a0v sig))))]) ?_ (a2R f82 fun _=>by simp) (fun n hn=>?_) (by simp;lia)
 ·rw [this];unfold b3F;rw [c8E];rfl
 ·refine a1E (a0l (a2z (n:=ths.length) (a0g f84) (a4v rfl) (by lia)) (y:=.int 1) (by kernel_rfl) rfl) (by lia)
 ·refine⟨[(82,.val (.list ((LX lo ths).map (a0v sig)))),(38,.val (.int (n:Int)))],by kernel_rfl,by kernel_rfl,?_⟩
  refine a2z (x:=.list (((LX lo ths).filter fun s=>s.length==n).map (a0v sig))) ?_ (a4v rfl) (by
   have:=c9y (fun s:List WS=>s.length==n) (LX lo ths)
   lia)
  refine a0X (xs:=LX lo ths) (f:=a0v sig) (σ₀:=[(38,.val (.int (n:Int)))]) (by kernel_rfl) (by kernel_rfl) (fun s hs=>?_) (by lia)
  refine⟨[(38,.val (.int (n:Int))),(86,.val (a0v sig s))],by kernel_rfl,?_,fun _=>⟨by kernel_rfl,by kernel_rfl⟩⟩
  refine a5a (a0Y (x:=.int (s.length:Int)) (y:=.int (n:Int)) (a2z (x:=a0v sig s) (by kernel_rfl) (a4v rfl) (by have:=(hInv.each s hs).1;lia)) (by kernel_rfl) ?_)
  exact b0k
end
end
section
open LA (nl lo a4Y a0W a0r a2s a1i a0F a0o b0g a6j c2D)
theorem b2t {s:List WS}{k:Nat}:(s.getD k ([],false)).1=(s.map (·.1)).getD k []:=by
 rw [c8m,c8m,c8M]
 cases s[k]? <;> rfl
theorem b0l {g:List Bool}{th:WS}{s:List WS}:(a0x (lo g) th s).map (·.map (·.1))=a6j g th.1 (s.map (·.1)):=by
 unfold a0x a6j
 rw [c9g,c9z,c8E,c8u]
 congr 1
 have:(fun k=>a2S (lo g) (s.getD k ([],false)).1 th.1)=fun k=>LA.joins g ((s.map (·.1)).getD k []) th.1:=by
  funext k
  rw [b2t];rfl
 rw [this]
 refine c9o fun k _=>?_
 simp [Function.comp,b2t,List.map_take,List.map_drop]
 cases s[k]? <;> rfl
theorem c4F {g:List Bool}{ths:List WS}:(LX (lo g) ths).map (·.map (·.1))=b0g g (ths.map (·.1)):=by
 refine a6k (P:=fun ths:List WS=>(LX (lo g) ths).map (·.map (·.1))=b0g g (ths.map (·.1))) rfl (fun r a ih=>?_) ths
 rw [b1w]
 unfold b0g at ih ⊢
 rw [c9z,List.foldl_append,← ih]
 simp only [c9g,List.map_nil,c9h,List.foldl_nil]
 generalize LX (lo g) r=L
 induction L with
 | nil=>rfl
 | cons s L ih=>rw [c9B,c9z,ih,b0l];rfl
theorem b2u {g:List Bool}{ths:List WS}:b3F (lo g) ths=a4Y g (ths.map (·.1)):=by
 unfold b3F a4Y
 rw [c8u,← c4F]
 refine c9o fun n _=>?_
 rw [List.filter_map,c8u]
 congr 3
 funext s
 simp
noncomputable def a3Z (g:List Bool)(k:Nat):List Int:=a4Y g ((a0r k).map ([·]))
noncomputable def a5z (g:List Bool)(k:Nat):List Int:=a4Y g (a0r k :: ((List.range 4).filter fun j=>!((a0r k).contains j)).map ([·]))
noncomputable def isInt (d:Option D)(i:Int):Bool:=match d with
 | some (.int j)=>j==i
 | _=>false
theorem a8X {d:Option D}{i:Int}(h:isInt d i=true):d=some (.int i):=by
 unfold isInt at h
 split at h
 ·rw [c7L] at h;rw [h]
 ·cases h
noncomputable def a2T (g:List Bool)(k:Nat):Int:=(List.range k).foldl (fun a k=>a*a1i g k) 1
noncomputable def c4G (x y:Int):Bool:=decide (0≤y∧(Builtin.Int.intBits x:Int)*y≤2 ^ 27)
noncomputable def a5A:List (List Int):=[[0,1],[0,1,1],[0,1,3,1],[0,1,7,6,1],[0,0,1],[0,0,2,1],[0,0,4,5,1],[0,0,1,1],[0,0,2,4,1],
 [0,0,0,1],[0,0,0,3,1],[0,0,1,3,1],[0,0,0,2,1],[0,0,1,2,1],[0,0,0,1,1],[0,0,0,0,1]]
theorem b6c (fuel m:Nat):(a5A.all fun w=>(List.range 3).all fun f=>isInt (runG ids a0t fuel (m+1) 93 [.list (w.map .int),.int (f:Nat)] none) (a0W w f))=true:=by kernel_rfl
theorem a6Z {fuel m f:Nat}{w:List Int}(hw:w∈a5A)(hf:f<3):runG ids a0t fuel (m+1) 93 [.list (w.map .int),.int (f:Int)] none=some (.int (a0W w f)):=
 a8X (c8k.mp (c8k.mp (b6c fuel m) w hw) f (c8l.mpr hf))
noncomputable def a8Y (g:List Bool)(k:Nat):Bool:=
 let w1:=a3Z g k
 let c1:=a0W w1 1
 a5A.contains w1&&(c1==0||(
  let w2:=a5z g k
  let c2:=a0W w1 2
  let c0:=a0W w2 0
  a5A.contains w2&&a2L c2 c0&&c4G (1 - 4 ^ a2s g (a0r k)) (c2*c0)&&a2L (a2T g k) (a1i g k)))
theorem b6d:(a0F.all fun g=>(List.range 16).all fun k=>decide ((a0r k).length≤1)||a8Y g k)=true:=by decide +kernel
structure Arith (g:List Bool)(k:Nat):Prop where
 w1:a3Z g k∈a5A
 rest:a0W (a3Z g k) 1≠0→a5z g k∈a5A∧a2L (a0W (a3Z g k) 2) (a0W (a5z g k) 0)=true∧c4G (1 - 4 ^ a2s g (a0r k)) (a0W (a3Z g k) 2*a0W (a5z g k) 0)=true∧a2L (a2T g k) (a1i g k)=true
theorem b8H {g:List Bool}{k:Nat}(hg:g∈a0F)(hk:k<16)(h1:1<(a0r k).length):Arith g k:=by
 have h:=c8k.mp (c8k.mp b6d g hg) k (c8l.mpr hk)
 have h2:a8Y g k=true:=by
  rw [Bool.or_eq_true,c9i] at h
  rcases h with h | h
  ·lia
  ·exact h
 unfold a8Y at h2
 simp only [c7S,Bool.or_eq_true,c9f,c7L] at h2
 refine⟨h2.1,fun hc=>?_⟩
 rcases h2.2 with h | h
 ·exact absurd h hc
 ·exact⟨h.1.1.1,h.1.1.2,h.1.2,h.2⟩
noncomputable def b0m (lt lo:Nat→Nat→Bool)(some:List Nat):List (Nat×Nat):=some.flatMap fun a=>(some.filter fun b=>lt a b&&!(lo a b)).map fun b=>(a,b)
noncomputable def b2v (lo:Nat→Nat→Bool):List Nat→Nat
 | []=>0
 | a :: r=>(r.filter fun b=>!(lo a b)).length+b2v lo r
noncomputable def b9Q (lt lo:Nat→Nat→Bool)(a:Nat)(l:List Nat):Nat:=(l.filter fun b=>lt a b&&!(lo a b)).length
theorem b3G {lt lo:Nat→Nat→Bool}{l:List Nat}:(b0m lt lo l).length=(l.map fun a=>b9Q lt lo a l).sum:=by
 unfold b0m b9Q
 rw [List.length_flatMap]
 congr 1
 refine c9o fun a _=>?_
 rw [c8u]
theorem a8Z {lt lo:Nat→Nat→Bool}{a x:Nat}{r:List Nat}:b9Q lt lo x (a :: r)=(if lt x a&&!(lo x a) then 1 else 0)+b9Q lt lo x r:=by
 unfold b9Q
 rw [c9q]
 split <;> simp <;> lia
theorem a7V {lt lo:Nat→Nat→Bool}{a:Nat}:∀ {r:List Nat},(∀ x∈r,x≠a∧(lt x a=!(lt a x))∧lo x a=lo a x)→b9Q lt lo a r+(r.map fun x=>if lt x a&&!(lo x a) then 1 else 0).sum=(r.filter fun b=>!(lo a b)).length
 | [],_=>rfl
 | x :: r,h=>by
  refine (h x (.head _)).elim fun _ Z1=>Z1.elim (fun h1 h2=>?_)
  have ih:=a7V (r:=r) fun y hy=>h y (.tail _ hy)
  rw [a8Z,c9g,c8y,c9q,h1,h2]
  generalize (List.map (fun x=>if (lt x a&&!lo x a)=true then 1 else 0) r).sum=S at *
  generalize r.filter (fun b=>!(lo a b))=fl at *
  cases lt a x <;> cases lo a x <;> simp <;> lia
theorem b6e {α:Type}{f g:α→Nat}:∀ {l:List α},(l.map fun x=>f x+g x).sum=(l.map f).sum+(l.map g).sum
 | []=>rfl
 | a :: l=>by simp only [c9g,c8y];rw [b6e];lia
theorem b0n {lt lo:Nat→Nat→Bool}:∀ {l:List Nat},l.Nodup→(∀ x∈l,lt x x=false)→(∀ x∈l,∀ y∈l,x≠y→lt x y=!(lt y x)∧lo x y=lo y x)→(b0m lt lo l).length=b2v lo l
 | [],_,_,_=>rfl
 | a :: r,hn,h0,h=>by
  rw [List.nodup_cons] at hn
  have ih:=b0n hn.2 (fun x hx=>h0 x (.tail _ hx)) fun x hx y hy=>h x (.tail _ hx) y (.tail _ hy)
  rw [b3G] at ih ⊢
  rw [c9g,c8y,a8Z,h0 a (.head _)]
  have e:(r.map fun x=>b9Q lt lo x (a :: r))=r.map fun x=>(if lt x a&&!(lo x a) then 1 else 0)+b9Q lt lo x r:=c9o fun x _=>a8Z
  rw [e,b6e,ih]
  have:=a7V (lt:=lt) (lo:=lo) (a:=a) (r:=r) fun x hx=>by
   have hne:x≠a:=fun q=>hn.1 (q ▸ hx)
   exact⟨hne,(h x (.tail _ hx) a (.head _) hne).1,(h x (.tail _ hx) a (.head _) hne).2⟩
  simp only [Bool.false_and,if_false,c8S]
  show _=(r.filter fun b=>!(lo a b)).length+b2v lo r
  lia
theorem b6f:(a0F.all fun g=>(List.range 16).all fun k=>b2v (lo g) (a0r k)==a2s g (a0r k))=true:=by decide +kernel
theorem c1S (g:List Bool)(i j:Nat):lo g i j=lo g j i:=by
 unfold LA.lo LA.nl
 have:∀ p:(Nat×Nat)×Bool,(p.2&&(p.1.1==i&&p.1.2==j||p.1.1==j&&p.1.2==i))=(p.2&&(p.1.1==j&&p.1.2==i||p.1.1==i&&p.1.2==j)):=fun p=>by rw [Bool.or_comm]
 simp only [this]
 rw [bne_comm]
theorem b8I {g:List Bool}{k:Nat}{lt:Nat→Nat→Bool}(hg:g∈a0F)(hk:k<16)(h0:∀ x,lt x x=false)(h:∀ x y,x<4→y<4→x≠y→lt x y=!(lt y x)):(b0m lt (lo g) (a0r k)).length=a2s g (a0r k):=by
 have h4:∀ x∈a0r k,x<4:=fun x hx=>c8l.mp (c9u.mp hx).1
 have hnd:(a0r k).Nodup:=by
  have:=c8k.mp (by decide +kernel:((List.range 16).all fun k=>decide (a0r k).Nodup)=true) k (c8l.mpr hk)
  simpa using this
 rw [b0n hnd (fun x _=>h0 x) fun x hx y hy hne=>⟨h x y (h4 x hx) (h4 y hy) hne,c1S g x y⟩]
 have:=c8k.mp (c8k.mp b6f g hg) k (c8l.mpr hk)
 exact c7L.mp this
end
section
open LA (nl a4Y a0W a0r a2s a1i a0F a0o)
structure Sig (sig:Nat→Nat):Prop where
 lt:∀ i,sig i<128
 inj:∀ i j,i<4→j<4→sig i=sig j→i=j
noncomputable def c6L:PEs:=.cons (.cmp .Eq (.bin .Mod (.bin .FloorDiv (.var 31) (.bin .Pow (.int 2) (.var 64))) (.int 2)) (.int 1)) .nil
theorem c1T (F:Fns)(S:D):((List.range 16).all fun k=>(List.range 4).all fun j=>b1H F [(31,.val (.int (k:Nat))),(35,.val S),(64,.val (.int (j:Nat)))] c6L==some (k / 2 ^ j % 2==1))=true:=by kernel_rfl
theorem a5e {k x:Nat}(h:x∈a0r k):x<4:=c8l.mp (c9u.mp h).1
theorem a5f (k:Nat):(a0r k).length≤4:=by
 unfold a0r
 have:=c9y (fun j=>k / 2 ^ j % 2==1) (List.range 4)
 rwa [c8v] at this
theorem c7l {P:Nat→Prop}(h:∀ k∈[0,1,2,3,4,5,6,7,8,9,10,11,12,13,14,15],P k){k:Nat}(hk:k<16):P k:=h k (c8l.mpr hk:k∈List.range 16)
section
variable {F:Fns}{fuel:Nat}{sig:Nat→Nat}{loose:List D}
theorem b1x (hS:Sig sig){l:List Nat}(hl:∀ x∈l,x<4){j:Nat}(hj:j<4){b:Bool}{fl:Nat→Bool}:inD (rnd sig ([j],b)) (.list (l.map fun i=>rnd sig ([i],fl i)))=some (l.contains j):=by
 show (Option.map _ (List.mapM D.asStr (l.map fun i=>rnd sig ([i],fl i)))).or _ = _
 refine a2b (a1h (a1g (f:=D.asStr) (e:=fun i=>rnd sig ([i],fl i)) (g:=fun i=>(⟨#[sig i]⟩:Str)) fun i _=>rfl) ?_)
 rw [c8j]
 simp only [List.any_eq_true,c9f,c7L]
 constructor
 ·rintro⟨x,hx,e⟩
  refine (c9n.mp hx).elim fun i Z1=>Z1.elim (fun hi Z2=>?_)
  subst Z2
  have:sig i=sig j:=by
   have:=c7H (fun s=>s.cps.toList) e
   simpa using this
  rw [← hS.inj i j (hl i hi) hj this]
  exact hi
 ·intro h
  exact⟨⟨#[sig j]⟩,c9n.mpr ⟨j,h,rfl⟩,rfl⟩
noncomputable def b8J:PE:=.comp [31,35] (.idx (.var 35) (.var 64)) (.one 64) (.range1 (.int 4)) c6L .nil
theorem c1U {σ:Store}{k:Nat}{b:Bool}(hk:k<16)(h31:σ.get 31=some (.val (.int (k:Int))))(h35:σ.get 35=some (.val (rnd sig ([0,1,2,3],b)))) :
  evE F σ b8J=some (a0v sig ((a0r k).map fun j=>([j],true))):=by
 have:=a0X (F:=F) (σ:=σ) (fv:=[31,35]) (elt:=.idx (.var 35) (.var 64)) (t:=.one 64) (iter:=.range1 (.int 4)) (ifs:=c6L) (xs:=List.range 4) (f:=fun (j:Nat)=>.int (j:Int)) (g:=fun j=>rnd sig ([j],true)) (p:=fun j=>k / 2 ^ j % 2==1)
  (σ₀:=[(31,.val (.int (k:Int))),(35,.val (rnd sig ([0,1,2,3],b)))]) (a1E (n:=4) (by kernel_rfl) (by decide)) (a3N h31 h35 (fun _=>by simp) (fun _=>by simp)) (fun j hj=>?_) (by simp)
 ·unfold b8J a0v;rw [this,c8E];rfl
 ·have hj4:=c8l.mp hj
  refine⟨[(31,.val (.int (k:Int))),(35,.val (rnd sig ([0,1,2,3],b))),(64,.val (.int (j:Int)))],by kernel_rfl,?_,fun _=>⟨by kernel_rfl,?_⟩⟩
  ·exact c7L.mp (c8k.mp (c8k.mp (c1T F (rnd sig ([0,1,2,3],b))) k (c8l.mpr hk)) j hj)
  ·refine a0G (x:=rnd sig ([0,1,2,3],b)) (y:=.int (j:Int)) (by kernel_rfl) (by kernel_rfl) (a4Z ?_ (by simp [Str.length]))
   obtain rfl | rfl | rfl | rfl:j=0∨j=1∨j=2∨j=3:=by lia
   all_goals rfl
theorem a7a {a b:PE}{p q:Bool}{σ:Store}(h1:evT F σ a=some p)(h2:p=true→evT F σ b=some q):evT F σ (.and (.cons a (.cons b .nil)))=some (p&&q):=by
 show (evT F σ a).bind _ = _
 refine a0c h1 ?_
 cases p with
 | false=>rfl
 | true=>show (evT F σ b).bind _ = _;exact a0c (h2 rfl) (by cases q <;> rfl)
noncomputable def b9R:PE:=.comp [46,43] (.bin .Add (.var 44) (.var 45)) (.one 44) (.var 46) .nil (.cons (.one 45) (.var 46) (.cons (.and (.cons (.cmp .Lt (.var 44) (.var 45)) (.cons (.cmp .NotIn (.bin .Add (.var 44) (.var 45)) (.var 43)) .nil))) .nil) .nil)
theorem b8K (hS:Sig sig){g:List Bool}(hg:g∈a0F)(HL:a3e sig (LA.lo g) loose){σ:Store}{k:Nat}(hk:k<16)(h46:σ.get 46=some (.val (a0v sig ((a0r k).map fun j=>([j],true)))))(h43:σ.get 43=some (.val (.list loose))) :
  ∃ l,evE F σ b9R=some (.list l)∧l.length=a2s g (a0r k):=by
 have hmap:(a0v sig ((a0r k).map fun j=>([j],true)))=.list ((a0r k).map fun j=>rnd sig ([j],true)):=by unfold a0v;rw [c8E];rfl
 rw [hmap] at h46
 refine⟨(a0r k).flatMap fun x=>((a0r k).filter fun y=>decide (sig x<sig y)&&!(LA.lo g x y)).map fun y=>rnd sig ([x,y],false),?_,?_⟩
 ·refine b2q (σ₀:=[(46,.val (.list ((a0r k).map fun j=>rnd sig ([j],true)))),(43,.val (.list loose))]) (xs:=a0r k) (ys:=fun _=>a0r k) (f:=fun x=>rnd sig ([x],true)) (f2:=fun _ y=>rnd sig ([y],true)) (p:=fun x y=>decide (sig x<sig y)&&!(LA.lo g x y))
   (g:=fun x y=>rnd sig ([x,y],false)) (a1t h46 rfl) (a3N h46 h43 (fun _=>by simp) (fun _=>by simp)) (fun x hx=>?_) ?_
  ·refine⟨[(46,.val (.list ((a0r k).map fun j=>rnd sig ([j],true)))),(43,.val (.list loose)),(44,.val (rnd sig ([x],true)))],by kernel_rfl,by kernel_rfl,fun y hy=>?_⟩
   refine⟨[(46,.val (.list ((a0r k).map fun j=>rnd sig ([j],true)))),(43,.val (.list loose)),(44,.val (rnd sig ([x],true))),(45,.val (rnd sig ([y],true)))],by kernel_rfl,?_,fun _=>⟨by kernel_rfl,?_⟩⟩
   ·refine a5a (a7a (a0Y (x:=rnd sig ([x],true)) (y:=rnd sig ([y],true)) (by kernel_rfl) (by kernel_rfl) ?_) fun _=>?_)
    ·show some (decide ([sig x]<[sig y])) = _
     congr 1
     rw [c8j]
     simp [List.cons_lt_cons_iff]
    ·refine a0Y (x:=rnd sig ([x]++[y],false)) (y:=.list loose) (a0l (by kernel_rfl) (by kernel_rfl) (a4w (p:=([x],true)) (q:=([y],true)) (by simp))) (by kernel_rfl) ?_
     exact a1h (HL x y (a5e hx) (a5e hy) false) rfl
   ·exact a0l (by kernel_rfl) (by kernel_rfl) (a4w (p:=([x],true)) (q:=([y],true)) (by simp))
  ·have:=a2h (l:=a0r k) (f:=fun x=>((a0r k).filter fun y=>decide (sig x<sig y)&&!(LA.lo g x y)).map fun y=>rnd sig ([x,y],false)) (k:=4) fun x _=>by
    rw [c8u];exact c7O (c9y _ _) (a5f k)
   have:=a5f k
   lia
 ·rw [← b8I (lt:=fun x y=>decide (sig x<sig y)) hg hk (fun x=>by simp) (fun x y hx hy hne=>?_)]
  ·unfold b0m
   rw [List.length_flatMap,List.length_flatMap]
   congr 1
   refine c9o fun x _=>?_
   simp
  ·have:sig x≠sig y:=fun e=>hne (hS.inj x y hx hy e)
   by_cases q:sig x<sig y
   ·simp [q];lia
   ·simp [q];lia
end
end
section
open LA (nl a4Y a0W a0r a2s a1i a0F a0o a3U)
section
variable {F:Fns}{fuel:Nat}{sig:Nat→Nat}{loose:List D}{σ:Store}{x y d:D}{ea eb:PE}
theorem a1k (s1:strict σ ea=true)(s2:strict σ eb=true)(h1:evE F σ ea=some x)(h2:evE F σ eb=some y):a3i F σ (.cons ea (.cons eb .nil))=some [x,y]:=a2d s1 h1 (a2d s2 h2 a7R)
theorem a1G (s1:strict σ ea=true)(h1:evE F σ ea=some x):a3i F σ (.cons ea .nil)=some [x]:=a2d s1 h1 a7R
theorem c4H {k:Nat}{op:Operator}{e:PE}{a b c:D}(hn:NM σ)(h:σ.get k=some (.val a))(he:evE F σ e=some b)(hv:c2G op a b=some c):evS F fuel σ (.aug k op e)=some (.next (σ.set k (.val c))):=by
 show (σ.get k).bind _ = _;exact a0c h (a0c (a:=a) rfl (a0c he (a3I (hn.no k) (a1h hv rfl))))
theorem b8L (sig:Nat→Nat):((List.range 16).map fun k=>(JoinOk ⟨#[]⟩ ((a0r k).map fun j=>(⟨#[sig j]⟩:Str)),Txt.join ⟨#[]⟩ ((a0r k).map fun j=>(⟨#[sig j]⟩:Str))))=(List.range 16).map fun k=>(true,⟨((a0r k).map sig).toArray⟩):=by kernel_rfl
theorem b8M (sig:Nat→Nat){k:Nat}(hk:k<16):JoinOk ⟨#[]⟩ ((a0r k).map fun j=>(⟨#[sig j]⟩:Str))=true∧Txt.join ⟨#[]⟩ ((a0r k).map fun j=>(⟨#[sig j]⟩:Str))=⟨((a0r k).map sig).toArray⟩:=
 Prod.mk.inj (List.map_inj_left.mp (b8L sig) k (c8l.mpr hk))
noncomputable def a9a (k:Nat):List Nat:=(List.range 4).filter fun j=>!((a0r k).contains j)
noncomputable def b9S:PE:=.bin .Add (.list (.cons (.join (.str ⟨#[]⟩) (.var 46)) .nil)) (.comp [46] (.var 39) (.one 39) (.var 35) (.cons (.cmp .NotIn (.var 39) (.var 46)) .nil) .nil)
theorem b8N (hS:Sig sig){k:Nat}(hk:k<16){b:Bool}(h46:σ.get 46=some (.val (a0v sig ((a0r k).map fun j=>([j],true)))))(h35:σ.get 35=some (.val (rnd sig ([0,1,2,3],b)))) :
  evE F σ b9S=some (a0v sig ((a0r k,false) :: (a9a k).map fun j=>([j],false))):=by
 have hmap:(a0v sig ((a0r k).map fun j=>([j],true)))=.list ((a0r k).map fun j=>rnd sig ([j],true)):=by unfold a0v;rw [c8E];rfl
 rw [hmap] at h46
 have e1:evE F σ (.join (.str ⟨#[]⟩) (.var 46))=some (rnd sig (a0r k,false)):=by
  refine (b8M sig hk).elim fun j1 j2=>?_
  show (evE F σ (.str ⟨#[]⟩)).bind _ = _
  refine a0c (a:=.str ⟨#[]⟩) rfl (a0c (a0g h46) (a0c (a:=⟨#[]⟩) rfl (a0c (a:=(a0r k).map fun j=>rnd sig ([j],true)) rfl (a0c (a1g (f:=D.asStr) (e:=fun i=>rnd sig ([i],true)) (g:=fun i=>(⟨#[sig i]⟩:Str)) fun i _=>rfl) (a3I j1 ?_)))))
  rw [j2]
  rfl
 have e2:evE F σ (.comp [46] (.var 39) (.one 39) (.var 35) (.cons (.cmp .NotIn (.var 39) (.var 46)) .nil) .nil)=some (.list ((a9a k).map fun j=>rnd sig ([j],false))):=by
  refine a0X (xs:=List.range 4) (f:=fun j=>rnd sig ([j],false)) (p:=fun j=>!((a0r k).contains j)) (σ₀:=[(46,.val (.list ((a0r k).map fun j=>rnd sig ([j],true))))]) ?_ (a2R h46 fun _=>by simp) (fun j hj=>?_) (by simp)
  ·exact a1t h35 (a2B hS.lt)
  ·have hj:=c8l.mp hj
   refine⟨[(46,.val (.list ((a0r k).map fun j=>rnd sig ([j],true)))),(39,.val (rnd sig ([j],false)))],by kernel_rfl,?_,fun _=>⟨by kernel_rfl,by kernel_rfl⟩⟩
   refine a5a (a0Y (x:=rnd sig ([j],false)) (y:=.list ((a0r k).map fun j=>rnd sig ([j],true))) (by kernel_rfl) (by kernel_rfl) ?_)
   exact a1h (b1x hS (fun x hx=>a5e hx) hj (fl:=fun _=>true)) rfl
 have hr:(a9a k).length≤4:=by
  unfold a9a
  have:=c9y (fun j=>!((a0r k).contains j)) (List.range 4)
  rwa [c8v] at this
 refine a0l (a8W (by kernel_rfl) e1) e2 ?_
 rw [a3M (by rw [c8u,c9A];lia)]
 unfold a0v
 rw [c9g,c8E]
 rfl
noncomputable def c7m:PE:=.bin .Pow (.bin .Sub (.int 1) (.bin .Pow (.int 4) (.len (.var 92)))) (.bin .Mult (.call 93 (.cons (.var 89) (.cons (.int 2) .nil)) .no) (.call 93 (.cons (.var 94) (.cons (.int 0) .nil)) .no))
noncomputable def c6M:List PS:=[.asg 94 false (.call 91 (.cons b9S (.cons (.var 43) .nil)) .no),.aug 90 .Mult c7m]
noncomputable def c4I:List PS:=[.asg 89 false (.call 91 (.cons (.var 46) (.cons (.var 43) .nil)) .no),.asg 92 false b9R,.ifs (.cmp .NotEq (.call 93 (.cons (.var 89) (.cons (.int 1) .nil)) .no) (.int 0)) c6M []]
noncomputable def b6g:List PS:=[.asg 46 false b8J,.ifs (.cmp .Gt (.len (.var 46)) (.int 1)) c4I []]
structure PP (sig:Nat→Nat)(b:Bool)(loose:List D)(σ:Store)(v:Int):Prop where
 nm:NM σ
 g35:σ.get 35=some (.val (rnd sig ([0,1,2,3],b)))
 g43:σ.get 43=some (.val (.list loose))
 g90:σ.get 90=some (.val (.int v))
theorem PP.set {b:Bool}{v:Int}(h:PP sig b loose σ v){x:Nat}{d:D}(h1:35≠x)(h2:43≠x)(h3:90≠x):PP sig b loose (σ.set x (.val d)) v:=
 ⟨h.nm.val,(a0a h1).trans h.g35,(a0a h2).trans h.g43,(a0a h3).trans h.g90⟩
theorem b6h (g:List Bool)(l:List Nat):a2s g l≤6:=by
 unfold a2s
 refine c7O (c9y _ _) ?_
 rw [List.length_zip]
 exact Nat.min_le_left _ _
theorem b6i {m:Nat}(hF:F=runG ids a0t fuel (m+1))(hS:Sig sig){g:List Bool}(hg:g∈a0F)(HL:a3e sig (LA.lo g) loose){b:Bool}{k:Nat}(hk:k<16)(I:PP sig b loose σ (a2T g k)) :
  ∃ σ',a0C F fuel (σ.set 31 (.val (.int (k:Int)))) b6g=some (.next σ')∧PP sig b loose σ' (a2T g (k+1)):=by
 have hstep:a2T g (k+1)=a2T g k*a1i g k:=by unfold a2T;rw [List.range_succ,List.foldl_append];rfl
 have I₁:=I.set (x:=31) (d:=.int (k:Int)) (by decide) (by decide) (by decide)
 have k31:(σ.set 31 (.val (.int (k:Int)))).get 31=some (.val (.int (k:Int))):=a0m
 generalize σ.set 31 (.val (.int (k:Int)))=σ₁ at *
 have s1:=a0u (F:=F) (fuel:=fuel) (k:=46) I₁.nm (by kernel_rfl) (by kernel_rfl) (c1U (F:=F) (sig:=sig) hk k31 I₁.g35)
 have I₂:=I₁.set (x:=46) (d:=a0v sig ((a0r k).map fun j=>([j],true))) (by decide) (by decide) (by decide)
 have k46:(σ₁.set 46 (.val (a0v sig ((a0r k).map fun j=>([j],true))))).get 46=some (.val (a0v sig ((a0r k).map fun j=>([j],true)))):=a0m
 generalize σ₁.set 46 (.val (a0v sig ((a0r k).map fun j=>([j],true))))=σ₂ at *
 show ∃ σ',a0C F fuel σ₁ [.asg 46 false b8J,.ifs (.cmp .Gt (.len (.var 46)) (.int 1)) c4I []]=some (.next σ')∧_
 rw [a0d s1]
 have sl:=a5f k
 have t1:evT F σ₂ (.cmp .Gt (.len (.var 46)) (.int 1))=some (decide (1<(a0r k).length)):=by
  exact a0Y (a2z (n:=(a0r k).length) (a0g k46) (a4v (c8u ..)) (by lia)) (y:=.int 1) (by kernel_rfl) b9N
 have hifs:=a0U (F:=F) (fuel:=fuel) (A:=c4I) (B:=[]) t1
 by_cases h1:1<(a0r k).length
 case neg=>
  rw [c8s h1] at hifs
  refine⟨σ₂,(a0d hifs).trans rfl,?_⟩
  have:a1i g k=1:=by unfold a1i;simp only;rw [c7M h1]
  rw [hstep,this,Int.mul_one]
  exact I₂
 case pos=>
  rw [c9c h1] at hifs
  simp only [if_true] at hifs
  have ar:=b8H hg hk h1
  have hths:∀ t∈(a0r k).map (fun j=>(([j],true):WS)),(∀ x∈t.1,x<4)∧t.1.length≤4:=fun t ht=>by
   refine (c9n.mp ht).elim fun j Z1=>Z1.elim (fun hj Z2=>?_)
   subst Z2
   exact⟨fun x hx=>by simp at hx;subst hx;exact a5e hj,by simp⟩
  have r91:=a7U (fuel:=fuel) (m:=m) hS.lt HL (ths:=(a0r k).map fun j=>([j],true)) (by simp;lia) hths
  have hw1:b3F (LA.lo g) ((a0r k).map fun j=>([j],true))=a3Z g k:=by rw [b2u,c8E];rfl
  rw [hw1,← hF] at r91
  have s3:=a0u (F:=F) (fuel:=fuel) (k:=89) I₂.nm (by kernel_rfl) (by kernel_rfl) (a0L (F:=F) (f:=91) (a1k (a0p k46) (a0p I₂.g43) (a0g k46) (a0g I₂.g43)) r91)
  have I₃:=I₂.set (x:=89) (d:=.list ((a3Z g k).map .int)) (by decide) (by decide) (by decide)
  have k46₃:(σ₂.set 89 (.val (.list ((a3Z g k).map .int)))).get 46 = _:=(a0a (by decide)).trans k46
  have k89₃:(σ₂.set 89 (.val (.list ((a3Z g k).map .int)))).get 89=some (.val (.list ((a3Z g k).map .int))):=a0m
  generalize σ₂.set 89 (.val (.list ((a3Z g k).map .int)))=σ₃ at *
  refine (b8K (F:=F) hS hg HL hk k46₃ I₃.g43).elim fun l Z1=>Z1.elim (fun hl hlen=>?_)
  have s4:=a0u (F:=F) (fuel:=fuel) (k:=92) I₃.nm (by kernel_rfl) (by kernel_rfl) hl
  have I₄:=I₃.set (x:=92) (d:=.list l) (by decide) (by decide) (by decide)
  have k46₄:(σ₃.set 92 (.val (.list l))).get 46 = _:=(a0a (by decide)).trans k46₃
  have k89₄:(σ₃.set 92 (.val (.list l))).get 89 = _:=(a0a (by decide)).trans k89₃
  have k92₄:(σ₃.set 92 (.val (.list l))).get 92=some (.val (.list l)):=a0m
  generalize σ₃.set 92 (.val (.list l))=σ₄ at *
  have c1:=a6Z (fuel:=fuel) (m:=m) (f:=1) ar.w1 (by decide)
  rw [← hF] at c1
  have t5:evT F σ₄ (.cmp .NotEq (.call 93 (.cons (.var 89) (.cons (.int 1) .nil)) .no) (.int 0))=some (a0W (a3Z g k) 1 != 0):=
   a0Y (a0L (F:=F) (f:=93) (a1k (a0p k89₄) (by kernel_rfl) (a0g k89₄) (y:=.int ((1:Nat):Int)) (by kernel_rfl)) c1) (y:=.int 0) (by kernel_rfl) rfl
  have hifs5:=a0U (F:=F) (fuel:=fuel) (A:=c6M) (B:=[]) t5
  have pre:∀ o,evS F fuel σ₄ (.ifs (.cmp .NotEq (.call 93 (.cons (.var 89) (.cons (.int 1) .nil)) .no) (.int 0)) c6M [])=some (.next o)→a0C F fuel σ₂ [.ifs (.cmp .Gt (.len (.var 46)) (.int 1)) c4I []]=some (.next o):=fun o ho=>by
   have:a0C F fuel σ₂ c4I=some (.next o):=by
    show a0C F fuel σ₂ [_,_,_] = _
    rw [a0d s3,a0d s4,a0d ho];rfl
   rw [a0d (hifs.trans this)];rfl
  by_cases hc:a0W (a3Z g k) 1=0
  ·rw [hc] at hifs5
   refine⟨σ₄,pre σ₄ (hifs5.trans rfl),?_⟩
   have:a1i g k=1:=by
    unfold a1i;simp only;rw [c7K h1]
    have:a0W (a4Y g ((a0r k).map ([·]))) 1=0:=hc
    rw [this];rfl
   rw [hstep,this,Int.mul_one]
   exact I₄
  ·have hb:(a0W (a3Z g k) 1 != 0)=true:=by simpa using hc
   rw [hb] at hifs5
   simp only [if_true] at hifs5
   obtain⟨a1,a2,a3,a4⟩:=ar.rest hc
   have hths2:∀ t∈((a0r k,false) :: (a9a k).map fun j=>(([j],false):WS)),(∀ x∈t.1,x<4)∧t.1.length≤4:=fun t ht=>by
    rcases c8o.mp ht with rfl | ht
    ·exact⟨fun x hx=>a5e hx,a5f k⟩
    ·refine (c9n.mp ht).elim fun j Z1=>Z1.elim (fun hj Z2=>?_)
     subst Z2
     exact⟨fun x hx=>by simp at hx;subst hx;exact c8l.mp (c9u.mp hj).1,by simp⟩
   have hr4:(a9a k).length≤4:=by
    unfold a9a
    have:=c9y (fun j=>!((a0r k).contains j)) (List.range 4)
    rwa [c8v] at this
   have r91':=a7U (fuel:=fuel) (m:=m) hS.lt HL (ths:=(a0r k,false) :: (a9a k).map fun j=>([j],false)) (by simp;lia) hths2
   have hw2:b3F (LA.lo g) ((a0r k,false) :: (a9a k).map fun j=>([j],false))=a5z g k:=by rw [b2u,c9g,c8E];rfl
   rw [hw2,← hF] at r91'
   have s6:=a0u (F:=F) (fuel:=fuel) (k:=94) I₄.nm (by kernel_rfl) (by kernel_rfl) (a0L (F:=F) (f:=91) (a1k (by kernel_rfl) (a0p I₄.g43) (b8N (F:=F) hS hk k46₄ I₄.g35) (a0g I₄.g43)) r91')
   have I₅:=I₄.set (x:=94) (d:=.list ((a5z g k).map .int)) (by decide) (by decide) (by decide)
   have k89₅:(σ₄.set 94 (.val (.list ((a5z g k).map .int)))).get 89 = _:=(a0a (by decide)).trans k89₄
   have k92₅:(σ₄.set 94 (.val (.list ((a5z g k).map .int)))).get 92 = _:=(a0a (by decide)).trans k92₄
   have k94₅:(σ₄.set 94 (.val (.list ((a5z g k).map .int)))).get 94=some (.val (.list ((a5z g k).map .int))):=a0m
   generalize σ₄.set 94 (.val (.list ((a5z g k).map .int)))=σ₅ at *
   have c2:=a6Z (fuel:=fuel) (m:=m) (f:=2) ar.w1 (by decide)
   have c0:=a6Z (fuel:=fuel) (m:=m) (f:=0) a1 (by decide)
   rw [← hF] at c2 c0
   have hin:=b6h g (a0r k)
   have e4:evE F σ₅ (.bin .Sub (.int 1) (.bin .Pow (.int 4) (.len (.var 92))))=some (.int (1 - 4 ^ a2s g (a0r k))):=by
    refine a0l (x:=.int 1) (by kernel_rfl) (a0l (x:=.int 4) (by kernel_rfl) (a2z (n:=a2s g (a0r k)) (a0g k92₅) (c7H some hlen) (by lia)) (z:=.int (4 ^ a2s g (a0r k))) ?_) rfl
    have h3:Builtin.Int.intBits 4=3:=by decide +kernel
    exact b1u (c8t _) (by rw [h3];lia)
   have e5:evE F σ₅ (.bin .Mult (.call 93 (.cons (.var 89) (.cons (.int 2) .nil)) .no) (.call 93 (.cons (.var 94) (.cons (.int 0) .nil)) .no))=some (.int (a0W (a3Z g k) 2*a0W (a5z g k) 0)):=by
    refine a0l (a0L (F:=F) (f:=93) (a1k (a0p k89₅) (by kernel_rfl) (a0g k89₅) (y:=.int ((2:Nat):Int)) (by kernel_rfl)) c2) (a0L (F:=F) (f:=93) (a1k (a0p k94₅) (by kernel_rfl) (a0g k94₅) (y:=.int ((0:Nat):Int)) (by kernel_rfl)) c0) (a8U a2)
   have hfac:a1i g k=(1 - 4 ^ a2s g (a0r k)) ^ (a0W (a3Z g k) 2*a0W (a5z g k) 0).toNat:=by
    unfold a1i;simp only;rw [c7K h1]
    have:(a0W (a4Y g ((a0r k).map ([·]))) 1 != 0)=true:=hb
    rw [c7K this]
    rfl
   have e6:evE F σ₅ c7m=some (.int (a1i g k)):=by
    have a3:=c7X a3
    exact (a0l e4 e5 (b1u a3.1 a3.2)).trans (by rw [hfac])
   have s7:=c4H (F:=F) (fuel:=fuel) (k:=90) (op:=.Mult) (c:=.int (a2T g k*a1i g k)) I₅.nm I₅.g90 e6 (a1h (x:=grd (a2L _ _) (some (a2T g k*a1i g k))) (a0n a4) rfl)
   refine⟨σ₅.set 90 (.val (.int (a2T g k*a1i g k))),pre _ (hifs5.trans ?_),⟨I₅.nm.val,(a0a (by decide)).trans I₅.g35,(a0a (by decide)).trans I₅.g43,by rw [a0m,hstep]⟩⟩
   show a0C F fuel σ₄ [_,_] = _
   rw [a0d s6,a0d s7];rfl
theorem b1y {m:Nat}(hS:Sig sig){g:List Bool}(hg:g∈a0F)(HL:a3e sig (LA.lo g) loose){b:Bool}:runG ids a0t fuel (m+2) 103 [rnd sig ([0,1,2,3],b),.list loose] none=some (.int (a3U g)):=by
 refine a2c (df:=⟨103,[35,43],[],[],a4S⟩) rfl (by decide) (by decide) rfl rfl rfl ?_
 generalize hF:runG ids a0t fuel (m+1)=F
 show a0C F fuel [(35,.val (rnd sig ([0,1,2,3],b))),(43,.val (.list loose))] [.asg 90 false (.int 1),.for (.one 31) (.range1 (.int 16)) b6g,.ret (.var 90)] = _
 have a1:evS F fuel [(35,.val (rnd sig ([0,1,2,3],b))),(43,.val (.list loose))] (.asg 90 false (.int 1))=some (.next [(35,.val (rnd sig ([0,1,2,3],b))),(43,.val (.list loose)),(90,.val (.int 1))]):=by kernel_rfl
 rw [a0d a1]
 let body:Store→D→Option Out:=fun σ d=>(a1c σ (.one 31) d).bind fun σ'=>a0C F fuel σ' b6g
 have I0:PP sig b loose [(35,.val (rnd sig ([0,1,2,3],b))),(43,.val (.list loose)),(90,.val (.int 1))] (a2T g 0):=
  ⟨((NM.nil.cons (fun _=>by simp)).cons (fun _=>by simp)).cons (fun _=>by simp),by kernel_rfl,by kernel_rfl,by kernel_rfl⟩
 obtain⟨σ',e,I'⟩:=a1F (body:=body) (f:=fun (k:Nat)=>D.int (k:Int)) (all:=List.range 16) (σ:=[(35,.val (rnd sig ([0,1,2,3],b))),(43,.val (.list loose)),(90,.val (.int 1))]) (fun done σ=>PP sig b loose σ (a2T g done.length)) I0 fun done k rest σ hd I=>by
  have hk:done.length=k:=by
   have h1:(List.range 16)[done.length]?=some k:=by rw [← hd];simp
   rw [c8D] at h1
   refine h1.elim (clear% h1;fun h2 h3=>?_)
   rw [List.getElem_range] at h3
   exact h3
  have hk16:k<16:=c8l.mp (show k∈List.range 16 by rw [← hd];simp)
  have hb:body σ (.int (k:Int))=a0C F fuel (σ.set 31 (.val (.int (k:Int)))) b6g:=by
   show ((a1c σ (.one 31) _).bind fun σ'=>a0C F fuel σ' _) = _
   rw [a1p I.nm];rfl
  rw [hb]
  rw [hk] at I
  refine (b6i (fuel:=fuel) hF.symm hS hg HL hk16 I).elim fun σ' Z1=>Z1.elim (fun e I'=>?_)
  refine⟨σ',.inl e,?_⟩
  rw [c8Y,c9A,hk]
  exact I'
 have e':evS F fuel [(35,.val (rnd sig ([0,1,2,3],b))),(43,.val (.list loose)),(90,.val (.int 1))] (.for (.one 31) (.range1 (.int 16)) b6g)=some (.next σ'):=a2A (by kernel_rfl) (a1E (n:=16) (by kernel_rfl) (by decide)) e
 rw [a0d e']
 have f90:=a0Z I'.g90 (s':=.val (.int (a2T g (List.range 16).length))) rfl
 refine a2t (a0p f90) ?_
 rw [a0g f90,c8v]
 rfl
end
end
section
open LA (nl a0F a0o)
noncomputable def a3m:List Nat:=[60,62,34,9,10,13,45,46]
noncomputable def a1S:List Nat:=[38,60,62,34,9,10,13,45,46]
noncomputable def c1V:List (List Nat):=[[38,60,62],[38,60,62,13],[38,60,62,34,13,10,9],[38,60,34,13,10,9],[38,62,34]]
structure Rdr where
 way:Nat
 m1:Nat
 m2:Nat
structure Rdr.Ok (r:Rdr):Prop where
 way:r.way<5
 m1:r.m1∈a3m
 m2:r.m2∈a3m
noncomputable def a2W (r:Rdr):D:=.tup [.int (r.way:Int),.str ⟨#[r.m1,r.m2]⟩]
noncomputable def b2w (r:Rdr)(c:Nat):Nat:=if (c1V.getD r.way []).contains c then (if c=38 then 3 else if c=34 then 4 else 2) else if c=r.m1∨c=r.m2 then 1 else 0
theorem c1W (fuel m:Nat)(g:Bool):((List.range 5).all fun w=>a3m.all fun m1=>a3m.all fun m2=>a1S.all fun c=>isInt (runG ids a0t fuel (m+1) 42 [a2W ⟨w,m1,m2⟩,.str ⟨#[c]⟩ g] none) (b2w ⟨w,m1,m2⟩ c))=true:=by kernel_rfl
theorem b6j {fuel m:Nat}{g:Bool}{r:Rdr}(h:r.Ok){c:Nat}(hc:c∈a1S):runG ids a0t fuel (m+1) 42 [a2W r,.str ⟨#[c]⟩ g] none=some (.int (b2w r c)):=
 a8X (c8k.mp (c8k.mp (c8k.mp (c8k.mp (c1W fuel m g) r.way (c8l.mpr h.way)) r.m1 h.m1) r.m2 h.m2) c hc)
end
section
open LA (nl a0F a0o)
structure SigOk (sig:Nat→Nat):Prop extends Sig sig where
 mem:∀ j,j<4→sig j∈a1S
noncomputable def a9h (sig:Nat→Nat)(r:Rdr)(j:Nat):Bool:=decide (0<b2w r (sig j))
noncomputable def nlR (sig:Nat→Nat)(rs:List Rdr)(i j:Nat):Bool:=rs.any fun r=>a9h sig r i&&a9h sig r j
noncomputable def lo2 (sig:Nat→Nat)(rs:List Rdr)(i j:Nat):Bool:=i != j&&!(nlR sig rs i j)
noncomputable def c1X (sig:Nat→Nat)(r:Rdr):List Nat:=(List.range 4).filter (a9h sig r)
noncomputable def a3O (sig:Nat→Nat)(r:Rdr):D:=.list ((c1X sig r).map fun j=>rnd sig ([j],false))
noncomputable def a7b (sig:Nat→Nat)(rs:List Rdr):List D:=(List.range 4).flatMap fun i=>((List.range 4).filter (lo2 sig rs i)).map fun j=>rnd sig ([i,j],false)
section
variable {F:Fns}{fuel:Nat}{sig:Nat→Nat}{σ:Store}{rs:List Rdr}{b:Bool}
noncomputable def c4J:PE:=.comp [35] (.comp [40] (.var 39) (.one 39) (.var 35) (.cons (.cmp .Gt (.call 42 (.cons (.var 40) (.cons (.var 39) .nil)) .no) (.int 0)) .nil) .nil) (.one 40) (.var 33) .nil .nil
theorem c1Y {m:Nat}(hF:F=runG ids a0t fuel (m+1))(hS:SigOk sig)(hr:∀ r∈rs,r.Ok)(hl:rs.length≤1000)(h33:σ.get 33=some (.val (.list (rs.map a2W))))(h35:σ.get 35=some (.val (rnd sig ([0,1,2,3],b)))) :
  evE F σ c4J=some (.list (rs.map (a3O sig))):=by
 refine a1b (xs:=rs) (f:=a2W) (σ₀:=[(35,.val (rnd sig ([0,1,2,3],b)))]) (a1t h33 rfl) (a2R h35 fun _=>by simp) (fun r hrm=>?_) (by lia)
 refine⟨[(35,.val (rnd sig ([0,1,2,3],b))),(40,.val (a2W r))],by kernel_rfl,by kernel_rfl,?_⟩
 refine a0X (xs:=List.range 4) (f:=fun j=>rnd sig ([j],false)) (σ₀:=[(40,.val (a2W r))]) ?_ (by kernel_rfl) (fun j hj=>?_) (by simp)
 ·exact (by kernel_rfl:evI F [(35,.val (rnd sig ([0,1,2,3],b))),(40,.val (a2W r))] (.var 35)=a5S (rnd sig ([0,1,2,3],b))).trans ((a2B hS.lt).trans rfl)
 ·have hj:=c8l.mp hj
  refine⟨[(40,.val (a2W r)),(39,.val (rnd sig ([j],false)))],by kernel_rfl,?_,fun _=>⟨by kernel_rfl,by kernel_rfl⟩⟩
  have lr:=b6j (fuel:=fuel) (m:=m) (g:=false) (hr r hrm) (hS.mem j hj)
  rw [← hF] at lr
  refine a5a (a0Y (a0L (F:=F) (f:=42) (a1k (x:=a2W r) (y:=rnd sig ([j],false)) (by kernel_rfl) (by kernel_rfl) (by kernel_rfl) (by kernel_rfl)) lr) (y:=.int 0) (by kernel_rfl) ?_)
  exact b9N (b:=0)
noncomputable def c4K:PE:=.comp [44,45] (.var 46) (.one 46) (.var 41) (.cons (.and (.cons (.cmp .In (.var 44) (.var 46)) (.cons (.cmp .In (.var 45) (.var 46)) .nil))) .nil) .nil
noncomputable def tLo:PE:=.and (.cons (.cmp .NotEq (.var 44) (.var 45)) (.cons (.cmp .Eq c4K (.list .nil)) .nil))
theorem b2x (hS:SigOk sig){r:Rdr}{j:Nat}(hj:j<4):inD (rnd sig ([j],false)) (a3O sig r)=some (a9h sig r j):=by
 unfold a3O
 rw [b1x hS.toSig (l:=c1X sig r) (fun x hx=>c8l.mp (c9u.mp hx).1) hj (fl:=fun _=>false)]
 congr 1
 rw [c8j,c9f]
 unfold c1X
 rw [c9u,c8l]
 exact⟨fun h=>h.2,fun h=>⟨hj,h⟩⟩
theorem c6N (hS:SigOk sig){i j:Nat}(hi:i<4)(hj:j<4)(hl:rs.length≤1000)(h41:σ.get 41=some (.val (.list (rs.map (a3O sig)))))(h44:σ.get 44=some (.val (rnd sig ([i],false))))(h45:σ.get 45=some (.val (rnd sig ([j],false)))) :
  evT F σ tLo=some (lo2 sig rs i j):=by
 refine a7a (a0Y (a0g h44) (a0g h45) ?_) fun _=>?_
 ·refine c7H some (show (!((⟨#[sig i]⟩:Str)==⟨#[sig j]⟩))=!(i==j) from c7H _ ?_)
  rw [c8j,c7L,c7L]
  constructor
  ·intro e
   have:sig i=sig j:=by
    have:=c7H (fun s=>s.cps.toList) e
    simpa using this
   exact hS.inj i j hi hj this
  ·rintro rfl;rfl
 ·have e:evE F σ c4K=some (.list ((rs.filter fun r=>a9h sig r i&&a9h sig r j).map (a3O sig))):=by
   refine a0X (xs:=rs) (f:=a3O sig) (σ₀:=[(44,.val (rnd sig ([i],false))),(45,.val (rnd sig ([j],false)))]) (a1t h41 rfl) (a3N h44 h45 (fun _=>by simp) (fun _=>by simp)) (fun r _=>?_) (by lia)
   refine⟨[(44,.val (rnd sig ([i],false))),(45,.val (rnd sig ([j],false))),(46,.val (a3O sig r))],by kernel_rfl,?_,fun _=>⟨by kernel_rfl,by kernel_rfl⟩⟩
   exact a5a (a7a (a0Y (x:=rnd sig ([i],false)) (y:=a3O sig r) (by kernel_rfl) (by kernel_rfl) (b2x hS hi)) fun _=>a0Y (x:=rnd sig ([j],false)) (y:=a3O sig r) (by kernel_rfl) (by kernel_rfl) (b2x hS hj))
  refine a0Y e (y:=.list []) (by kernel_rfl) ?_
  have key:((rs.filter fun r=>a9h sig r i&&a9h sig r j).map (a3O sig)).isEmpty=!(nlR sig rs i j):=by
   unfold nlR
   rw [c8j]
   simp [List.filter_eq_nil_iff]
  rw [← key]
  cases (rs.filter fun r=>a9h sig r i&&a9h sig r j).map (a3O sig) <;> rfl
structure PLo (sig:Nat→Nat)(rs:List Rdr)(b:Bool)(σ:Store)(acc:List D):Prop where
 nm:NM σ
 g35:σ.get 35=some (.val (rnd sig ([0,1,2,3],b)))
 g41:σ.get 41=some (.val (.list (rs.map (a3O sig))))
 g43:σ.get 43=some (.own acc)
theorem PLo.set {acc:List D}(h:PLo sig rs b σ acc){x:Nat}{d:D}(h1:35≠x)(h2:41≠x)(h3:43≠x):PLo sig rs b (σ.set x (.val d)) acc:=
 ⟨h.nm.val,(a0a h1).trans h.g35,(a0a h2).trans h.g41,(a0a h3).trans h.g43⟩
noncomputable def b1z:List PS:=[.ifs tLo [.app 43 (.bin .Add (.var 44) (.var 45))] []]
theorem b8O (hS:SigOk sig)(hl:rs.length≤1000){acc:List D}{i:Nat}(hi:i<4)(I:PLo sig rs b σ acc)(h44:σ.get 44=some (.val (rnd sig ([i],false))))(hacc:acc.length≤1000) :
  ∃ σ',evS F fuel σ (.for (.one 45) (.var 35) b1z)=some (.next σ')∧PLo sig rs b σ' (acc++((List.range 4).filter (lo2 sig rs i)).map fun j=>rnd sig ([i,j],false)):=by
 let body:Store→D→Option Out:=fun σ d=>(a1c σ (.one 45) d).bind fun σ'=>a0C F fuel σ' b1z
 obtain⟨σ',e,I',_⟩:=a1F (body:=body) (f:=fun j=>rnd sig ([j],false)) (all:=List.range 4) (σ:=σ) (fun done σ=>PLo sig rs b σ (acc++(done.filter (lo2 sig rs i)).map fun j=>rnd sig ([i,j],false))∧σ.get 44=some (.val (rnd sig ([i],false)))) ⟨by simpa using I,h44⟩ fun done j rest σ hd ⟨I,h44⟩=>by
  have hj:j<4:=c8l.mp (show j∈List.range 4 by rw [← hd];simp)
  have hdl:done.length≤4:=by have:=c7H List.length hd;simp at this;lia
  have hb:body σ (rnd sig ([j],false))=a0C F fuel (σ.set 45 (.val (rnd sig ([j],false)))) b1z:=by
   show ((a1c σ (.one 45) _).bind fun σ'=>a0C F fuel σ' _) = _
   rw [a1p I.nm];rfl
  rw [hb]
  have I₁:=I.set (x:=45) (d:=rnd sig ([j],false)) (by decide) (by decide) (by decide)
  have k44:(σ.set 45 (.val (rnd sig ([j],false)))).get 44=some (.val (rnd sig ([i],false))):=(a0a (by decide)).trans h44
  have k45:(σ.set 45 (.val (rnd sig ([j],false)))).get 45=some (.val (rnd sig ([j],false))):=a0m
  generalize σ.set 45 (.val (rnd sig ([j],false)))=σ₁ at *
  have hifs:=a0U (F:=F) (fuel:=fuel) (A:=[.app 43 (.bin .Add (.var 44) (.var 45))]) (B:=[]) (c6N (F:=F) hS hi hj hl I₁.g41 k44 k45)
  cases hq:lo2 sig rs i j with
  | false=>
   rw [hq] at hifs
   refine⟨σ₁,.inl ((a0d hifs).trans rfl),?_,k44⟩
   rw [List.filter_append,c9q,hq]
   simpa using I₁
  | true=>
   rw [hq] at hifs
   have hfl:=c9y (lo2 sig rs i) done
   have ap:=a7T (F:=F) (fuel:=fuel) (k:=43) I₁.g43 (a0l (a0g k44) (a0g k45) (a4w (p:=([i],false)) (q:=([j],false)) (by simp))) (by kernel_rfl) (by rw [c8Y,c8u];lia)
   have hifs':=hifs.trans ((a0d ap).trans rfl)
   refine⟨_,.inl ((a0d hifs').trans rfl),⟨I₁.nm.own,(a0a (by decide)).trans I₁.g35,(a0a (by decide)).trans I₁.g41,?_⟩,(a0a (by decide)).trans k44⟩
   rw [a0m,List.filter_append,c9q,hq]
   simp
 exact⟨σ',a2A (a0p I.g35) (a1t I.g35 (a2B hS.lt)) e,I'⟩
theorem b6k {m:Nat}(hS:SigOk sig)(hr:∀ r∈rs,r.Ok)(hl:rs.length≤1000):runG ids a0t fuel (m+2) 104 [.list (rs.map a2W),rnd sig ([0,1,2,3],b)] none=some (.list (a7b sig rs)):=by
 refine a2c (df:=⟨104,[33,35],[],[],a6Q⟩) rfl (by decide) (by decide) rfl rfl rfl ?_
 generalize hF:runG ids a0t fuel (m+1)=F
 show a0C F fuel [(33,.val (.list (rs.map a2W))),(35,.val (rnd sig ([0,1,2,3],b)))] [.asg 41 false c4J,.asg 43 true (.list .nil),.for (.one 44) (.var 35) [.for (.one 45) (.var 35) b1z],.ret (.var 43)] = _
 have nm0:NM [(33,.val (.list (rs.map a2W))),(35,.val (rnd sig ([0,1,2,3],b)))]:=(NM.nil.cons (fun _=>by simp)).cons (fun _=>by simp)
 have s1:=a0u (F:=F) (fuel:=fuel) (k:=41) nm0 (by kernel_rfl) (by kernel_rfl) (c1Y hF.symm hS hr hl (σ:=[(33,.val (.list (rs.map a2W))),(35,.val (rnd sig ([0,1,2,3],b)))]) (b:=b) (by kernel_rfl) (by kernel_rfl))
 rw [a0d s1]
 have nm1:=nm0.val (x:=41) (d:=.list (rs.map (a3O sig)))
 have k35:(Store.set [(33,.val (.list (rs.map a2W))),(35,.val (rnd sig ([0,1,2,3],b)))] 41 (.val (.list (rs.map (a3O sig))))).get 35=some (.val (rnd sig ([0,1,2,3],b))):=by kernel_rfl
 have k41:(Store.set [(33,.val (.list (rs.map a2W))),(35,.val (rnd sig ([0,1,2,3],b)))] 41 (.val (.list (rs.map (a3O sig))))).get 41=some (.val (.list (rs.map (a3O sig)))):=by kernel_rfl
 generalize Store.set [(33,.val (.list (rs.map a2W))),(35,.val (rnd sig ([0,1,2,3],b)))] 41 (.val (.list (rs.map (a3O sig))))=σ₁ at *
 rw [a0d (b1v (F:=F) (fuel:=fuel) (k:=43) (es:=.nil) (l:=[]) nm1 (by kernel_rfl))]
 have I0:PLo sig rs b (σ₁.set 43 (.own [])) []:=⟨nm1.own,(a0a (by decide)).trans k35,(a0a (by decide)).trans k41,a0m⟩
 generalize σ₁.set 43 (.own [])=σ₂ at *
 let body:Store→D→Option Out:=fun σ d=>(a1c σ (.one 44) d).bind fun σ'=>a0C F fuel σ' [.for (.one 45) (.var 35) b1z]
 obtain⟨σ',e,I'⟩:=a1F (body:=body) (f:=fun i=>rnd sig ([i],false)) (all:=List.range 4) (σ:=σ₂) (fun done σ=>PLo sig rs b σ (done.flatMap fun i=>((List.range 4).filter (lo2 sig rs i)).map fun j=>rnd sig ([i,j],false))) (by simpa using I0) fun done i rest σ hd I=>by
  have hi:i<4:=c8l.mp (show i∈List.range 4 by rw [← hd];simp)
  have hdl:done.length≤4:=by have:=c7H List.length hd;simp at this;lia
  have hb:body σ (rnd sig ([i],false))=a0C F fuel (σ.set 44 (.val (rnd sig ([i],false)))) [.for (.one 45) (.var 35) b1z]:=by
   show ((a1c σ (.one 44) _).bind fun σ'=>a0C F fuel σ' _) = _
   rw [a1p I.nm];rfl
  rw [hb]
  have I₁:=I.set (x:=44) (d:=rnd sig ([i],false)) (by decide) (by decide) (by decide)
  have k44:(σ.set 44 (.val (rnd sig ([i],false)))).get 44=some (.val (rnd sig ([i],false))):=a0m
  generalize σ.set 44 (.val (rnd sig ([i],false)))=σ₁ at *
  have hacc:=a2h (l:=done) (f:=fun i=>((List.range 4).filter (lo2 sig rs i)).map fun j=>rnd sig ([i,j],false)) (k:=4) fun i _=>by
   rw [c8u]
   have:=c9y (lo2 sig rs i) (List.range 4)
   rwa [c8v] at this
  refine (b8O (F:=F) (fuel:=fuel) hS hl hi I₁ k44 (by lia)).elim fun σ' Z1=>Z1.elim (fun e I'=>?_)
  refine⟨σ',.inl ((a0d e).trans rfl),?_⟩
  rw [c9C]
  simpa using I'
 have e':evS F fuel σ₂ (.for (.one 44) (.var 35) [.for (.one 45) (.var 35) b1z])=some (.next σ'):=a2A (a0p I0.g35) (a1t I0.g35 (a2B hS.lt)) e
 rw [a0d e']
 have f43:=a0Z I'.g43 (s':=.val (.list (a7b sig rs))) rfl
 exact a2t (a0p f43) (a0g f43)
end
noncomputable def graphOf (sig:Nat→Nat)(rs:List Rdr):List Bool:=a0o.map fun p=>nlR sig rs p.1 p.2
theorem b6l (sig:Nat→Nat)(rs:List Rdr):graphOf sig rs∈a0F:=LA.graphs_all _ _ _ _ _ _
theorem b2y {sig:Nat→Nat}{rs:List Rdr}{i j:Nat}:nlR sig rs i j=nlR sig rs j i:=by
 unfold nlR
 simp only [Bool.and_comm]
theorem b6m:((List.range 4).all fun i=>(List.range 4).all fun j=>i==j||(a0o.contains (i,j)||a0o.contains (j,i)))=true:=by kernel_rfl
theorem b8P {sig:Nat→Nat}{rs:List Rdr}{i j:Nat}(hi:i<4)(hj:j<4)(h:i≠j):nl (graphOf sig rs) i j=nlR sig rs i j:=by
 show (a0o.any fun p=>nlR sig rs p.1 p.2&&((p.1==i&&p.2==j)||(p.1==j&&p.2==i))) = _
 rw [c8j,List.any_eq_true]
 constructor
 ·rintro⟨p,_,e⟩
  refine a0b e (clear% e;fun e e'=>?_)
  rcases or2 e' with e' | e'
  ·rw [← c8d (a0i e').1,← c8d (a0i e').2];exact e
  ·rw [← c8d (a0i e').1,← c8d (a0i e').2,b2y];exact e
 ·intro e
  rcases or2 (c8k.mp (c8k.mp b6m i (c8l.mpr hi)) j (c8l.mpr hj)) with q | q
  ·exact absurd (c8d q) h
  ·rcases or2 q with q | q
   ·refine⟨(i,j),c9f.mp q,?_⟩
    show (nlR sig rs i j&&((i==i&&j==j)||_))=true
    rw [e,c7R,c7R];rfl
   ·refine⟨(j,i),c9f.mp q,?_⟩
    show (nlR sig rs j i&&((j==i&&i==j)||(j==j&&i==i)))=true
    rw [b2y,e,c7R,c7R];exact Bool.or_true _
theorem b8Q {sig:Nat→Nat}{rs:List Rdr}{i j:Nat}(hi:i<4)(hj:j<4):LA.lo (graphOf sig rs) i j=lo2 sig rs i j:=by
 unfold LA.lo lo2
 by_cases h:i=j
 ·subst h;simp
 ·rw [b8P hi hj h]
theorem b8R {sig:Nat→Nat}{rs:List Rdr}(hS:SigOk sig):a3e sig (LA.lo (graphOf sig rs)) (a7b sig rs):=by
 intro i j hi hj g
 rw [b8Q hi hj]
 have:(a7b sig rs).mapM D.asStr=some ((List.range 4).flatMap fun i=>((List.range 4).filter (lo2 sig rs i)).map fun j=>(⟨#[sig i,sig j]⟩:Str)):=by
  have e:∀ l:List (Nat×Nat),(l.map fun p=>rnd sig ([p.1,p.2],false)).mapM D.asStr=some (l.map fun p=>(⟨#[sig p.1,sig p.2]⟩:Str)):=fun l=>a1g fun p _=>rfl
  have h1:a7b sig rs=((List.range 4).flatMap fun i=>((List.range 4).filter (lo2 sig rs i)).map fun j=>(i,j)).map fun p=>rnd sig ([p.1,p.2],false):=by
   unfold a7b
   rw [List.map_flatMap]
   simp [c8E,Function.comp_def]
  rw [h1,e,List.map_flatMap]
  simp [c8E,Function.comp_def]
 show (Option.map _ (List.mapM D.asStr (a7b sig rs))).or _ = _
 refine a2b (a1h this ?_)
 rw [c8j]
 simp only [List.any_eq_true,List.mem_flatMap,c9n,c9u,c8l,c7L]
 constructor
 ·rintro⟨x,⟨i',hi',j',⟨hj',hlo⟩,rfl⟩,e⟩
  have h2:=c7H (fun s=>s.cps.toList) e
  simp at h2
  rw [← hS.inj i' i hi' hi h2.1,← hS.inj j' j hj' hj h2.2]
  exact hlo
 ·intro h
  exact⟨_,⟨i,hi,j,⟨hj,h⟩,rfl⟩,rfl⟩
end
section
open LA (nl a0F a0o perms)
noncomputable def a1y (sig:Nat→Nat):D:=.list (perms.map fun t=>rnd sig (t,false))
theorem b6n {fuel m:Nat}{sig:Nat→Nat}{b:Bool}:runG ids a0t fuel (m+1) 96 [rnd sig ([0,1,2,3],b)] none=some (a1y sig):=by kernel_rfl
end
section
noncomputable def subst (c:Nat)(z:List Nat)(l:List Nat):List Nat:=l.flatMap fun k=>if k=c then z else [k]
theorem a5R {c:Nat}{z a b:List Nat}:subst c z (a++b)=subst c z a++subst c z b:=c9C
theorem a3V {c:Nat}{z:List Nat}:∀ {l:List Nat},c ∉ l→subst c z l=l
 | [],_=>rfl
 | k :: r,h=>by
  have h1:k≠c:=fun e=>h (e ▸ c8L ..)
  have h2:c ∉ r:=fun m=>h (c8O _ m)
  have:=a3V (z:=z) h2
  unfold subst at this ⊢
  rw [c9B,c7M h1,this];rfl
theorem a7W (c:Nat)(z:Str):∀ parts:List Str,(∀ p∈parts,c ∉ p.cps.toList)→subst c z.cps.toList (Str.join ⟨#[c]⟩ parts).cps.toList=(Str.join z parts).cps.toList
 | [],_=>rfl
 | [p],h=>a3V (h p (c8C.mpr rfl))
 | p :: q :: r,h=>by
  have ih:=a7W c z (q :: r) fun a ha=>h a (c8O _ ha)
  show subst c _ (p++⟨#[c]⟩++Str.join ⟨#[c]⟩ (q :: r)).cps.toList=(p++z++Str.join z (q :: r)).cps.toList
  simp only [Str.cps_append,Array.toList_append]
  rw [a5R,a5R,ih,a3V (h p (c8L ..))]
  congr 2
  simp [subst]
theorem b8S (x z:Str)(c:Nat):Txt.replace x ⟨#[c]⟩ z=⟨(subst c z.cps.toList x.cps.toList).toArray⟩:=by
 have:(Txt.replace x ⟨#[c]⟩ z).cps.toList=subst c z.cps.toList x.cps.toList:=by
  rw [StrLaws.replace_one,← a7W c z _ (StrLaws.split_free x c),StrLaws.join_split]
 rw [← this]
theorem b6o (y:Str)(c:Nat):b4e y ⟨#[c]⟩=y.cps.toList.contains c:=by
 unfold b4e
 rw [StrLaws.found_one,c8j,c9i,c9f]
theorem b0o (sep:List Nat):∀ (p:Str) (r:List Str),(Str.join ⟨sep.toArray⟩ (p :: r)).cps.toList++sep=(p :: r).flatMap fun (t:Str)=>t.cps.toList++sep
 | p,[]=>by simp [Str.join]
 | p,q :: r=>by
  have ih:=b0o sep q r
  show (p++⟨sep.toArray⟩++Str.join ⟨sep.toArray⟩ (q :: r)).cps.toList++sep = _
  simp only [Str.cps_append,Array.toList_append,c8U]
  rw [ih]
  simp
theorem a9b {c:Nat}:∀ {a a' b b':List Nat},c ∉ a→c ∉ a'→a++c :: b=a'++c :: b'→a=a'∧b=b'
 | [],[],_,_,_,_,h=>by simpa using h
 | [],y :: a',_,_,_,h2,h=>by
  simp at h;exact absurd (h.1 ▸ c8L ..) h2
 | x :: a,[],_,_,h1,_,h=>by
  simp at h;exact absurd (h.1 ▸ c8L ..) h1
 | x :: a,y :: a',b,b',h1,h2,h=>by
  simp at h
  refine (a9b (fun m=>h1 (c8O _ m)) (fun m=>h2 (c8O _ m)) h.2).elim fun h3 h4=>?_
  exact⟨by rw [h.1,h3],h4⟩
theorem b6p {c:Nat}{a b:List Nat}(ha:c ∉ a)(hb:c ∉ b):Txt.split ⟨(a++c :: b).toArray⟩ ⟨#[c]⟩=[⟨a.toArray⟩,⟨b.toArray⟩]:=by
 have hj:=StrLaws.join_split ⟨(a++c :: b).toArray⟩ ⟨#[c]⟩
 have hf:=StrLaws.split_free ⟨(a++c :: b).toArray⟩ c
 have back:∀ (p:Str) (l:List Nat),p.cps.toList=l→p=⟨l.toArray⟩:=fun p l e=>by rw [← e]
 match h:Txt.split ⟨(a++c :: b).toArray⟩ ⟨#[c]⟩,hj,hf with
 | [],hj,_=>
  have:=c7H (fun s:Str=>s.cps.toList) hj
  simp [Str.join,Str.empty] at this
 | [p],hj,hf=>
  have hp:=hf p (c8C.mpr rfl)
  have:=c7H (fun s:Str=>s.cps.toList) hj
  simp [Str.join] at this
  rw [this] at hp
  exact absurd (by simp) hp
 | [p,q],hj,hf=>
  have hp:=hf p (by simp)
  have:=c7H (fun s:Str=>s.cps.toList) hj
  simp only [Str.join,Str.cps_append,Array.toList_append] at this
  have h2:p.cps.toList++c :: q.cps.toList=a++c :: b:=by simpa using this
  refine (a9b hp ha h2).elim fun e1 e2=>?_
  rw [back p a e1,back q b e2]
 | p :: q :: r :: t,hj,hf=>
  have hp:=hf p (by simp)
  have hq:=hf q (by simp)
  have:=c7H (fun s:Str=>s.cps.toList) hj
  simp only [Str.join,Str.cps_append,Array.toList_append] at this
  have h2:p.cps.toList++c :: (q.cps.toList++c :: (Str.join ⟨#[c]⟩ (r :: t)).cps.toList)=a++c :: b:=by simpa using this
  refine (a9b hp ha h2).elim fun e1 e2=>?_
  rw [← e2] at hb
  exact absurd (by simp) hb
end
section
section
variable {F:Fns}{fuel:Nat}{σ:Store}
theorem b6q {ea:PE}{lo hi:PO}{x:D}{l:List D}(h:evE F σ (.slice ea lo hi)=some x)(h2:a5S x=some l):evI F σ (.slice ea lo hi)=some l:=by
 refine a0j (x:=evE F σ ea) h fun a h1 h=>?_
 refine a0j h (clear% h;fun b h3 h=>?_)
 refine a0j h (clear% h;fun c h4 h=>?_)
 refine a0j h (clear% h;fun d h5 h=>?_)
 refine a0j h (clear% h;fun e h6 h=>?_)
 show (evE F σ ea).bind _ = _
 exact a0c h1 (a0c h3 (a0c h4 (a0c h5 (a0c h6 (a0c h h2)))))
theorem a0z {i:Int}:evE F σ (.int i)=some (.int i):=rfl
theorem a2u {s:Str}:evE F σ (.str s)=some (.str s):=rfl
theorem a5g {x y:Int}(h:y≠0):a2M .Mod (.int x) (.int y)=some (.int (x.fmod y)):=a1h (x:=grd (!decide (y=0)) (some (x.fmod y))) (a0n (by rw [c8s h];rfl)) rfl
theorem a7c {x y:Int}(h:y≠0)(hy:y.natAbs<2 ^ 60):a2M .FloorDiv (.int x) (.int y)=some (.int (x.fdiv y)):=b9M h hy (by decide)
theorem a2j {x:Int}{n:Nat}(h:0<n):∃ k:Nat,x.fmod (n:Int)=(k:Int)∧k<n:=by
 have h1:=Int.fmod_nonneg_of_pos x (b:=(n:Int)) (by lia)
 have h2:=Int.fmod_lt_of_pos x (b:=(n:Int)) (by lia)
 exact⟨(x.fmod n).toNat,by lia,by lia⟩
theorem a5h {a b:Nat}{x y:D}(hn:NM σ):a1c σ (.many [a,b]) (.tup [x,y])=some ((σ.set a (.val x)).set b (.val y)):=a0n (show (true&&(noMeth σ a&&(noMeth σ b&&true)))=true by rw [hn.no,hn.no];rfl)
theorem c1Z {k j:Nat}{i e:PE}{op:Operator}{l:List D}{a b d:D}(h:σ.get k=some (.own l))(hi:evE F σ i=some (.int (j:Int)))(he:evE F σ e=some b)(ha:l[j]?=some a)(hl:l.length≤16777216)(hd:c2G op a b=some d) :
  evS F fuel σ (.augI k i op e)=some (.next (σ.set k (.own (l.set j d)))):=by
 show (σ.get k).bind _ = _
 refine a0c h (a0c hi (a0c he (a0c (a:=l) rfl (a0c (a:=(j:Int)) rfl (a0c (a:=j) ?_ (a0c ha (a1h hd rfl)))))))
 exact a3I (c9c (c8t j)) (a8Q (a8R ha) hl)
theorem c2a {e:PE}{l:List D}(hs:strict σ e=true)(h:evE F σ e=some (.list l)):evI F σ (.enum e)=some (l.zipIdx.map fun p=>.tup [.int p.2,p.1]):=by
 show (evE F σ e).bind _ = _
 exact a0c h (a0c (a:=l) rfl (a0n (x:=some (l.zipIdx.map fun p=>D.tup [.int p.2,p.1])) hs))
noncomputable def b6r:List Int:=[310,261,144,309,34,203,17518]
structure PC' (σ:Store)(cells:List Int):Prop where
 nm:NM σ
 len:cells.length=7
 g30:σ.get 30=some (.own (cells.map .int))
noncomputable def c2b:List PS:=[.augI 30 (.bin .Mod (.var 31) (.int 7)) .Add (.bin .Mod (.var 3) (.int 1000000))]
theorem b3H {l:List Int}(hl:l.length≤1000){cells:List Int}(I:PC' σ cells)(h32:σ.get 32=some (.val (.list (l.map .int)))) :
  ∃ σ' cells',evS F fuel σ (.for (.many [31,3]) (.enum (.slice (.var 32) .no (.yes (.int 60)))) c2b)=some (.next σ')∧PC' σ' cells':=by
 let body:Store→D→Option Out:=fun σ d=>(a1c σ (.many [31,3]) d).bind fun σ'=>a0C F fuel σ' c2b
 obtain⟨σ',e,cells',I'⟩:=a1F (body:=body) (f:=fun (p:Int×Nat)=>D.tup [.int (p.2:Int),.int p.1]) (all:=(cut l none (some 60)).zipIdx) (σ:=σ) (fun done σ=>∃ cells,PC' σ cells) ⟨cells,I⟩ fun done p rest σ hd ⟨cells,I⟩=>by
  have hb:body σ (.tup [.int (p.2:Int),.int p.1])=a0C F fuel ((σ.set 31 (.val (.int (p.2:Int)))).set 3 (.val (.int p.1))) c2b:=by
   show ((a1c σ (.many [31,3]) _).bind fun σ'=>a0C F fuel σ' _) = _
   rw [a5h I.nm];rfl
  rw [hb]
  have nm:NM ((σ.set 31 (.val (.int (p.2:Int)))).set 3 (.val (.int p.1))):=I.nm.val.val
  have k31:((σ.set 31 (.val (.int (p.2:Int)))).set 3 (.val (.int p.1))).get 31=some (.val (.int (p.2:Int))):=(a0a (by decide)).trans a0m
  have k3:((σ.set 31 (.val (.int (p.2:Int)))).set 3 (.val (.int p.1))).get 3=some (.val (.int p.1)):=a0m
  have k30:((σ.set 31 (.val (.int (p.2:Int)))).set 3 (.val (.int p.1))).get 30=some (.own (cells.map .int)):=(a0a (by decide)).trans ((a0a (by decide)).trans I.g30)
  generalize (σ.set 31 (.val (.int (p.2:Int)))).set 3 (.val (.int p.1))=σ₁ at *
  refine (a2j (x:=(p.2:Int)) (n:=7) (by decide)).elim fun k Z1=>Z1.elim (fun hk hk7=>?_)
  have e1:evE F σ₁ (.bin .Mod (.var 31) (.int 7))=some (.int (k:Int)):=a0l (a0g k31) a0z (by rw [a5g (by decide)];exact c7H (fun i=>some (D.int i)) hk)
  have e2:evE F σ₁ (.bin .Mod (.var 3) (.int 1000000))=some (.int (p.1.fmod 1000000)):=a0l (a0g k3) a0z (a5g (by decide))
  have hlen:=I.len
  have e3:evS F fuel σ₁ (.augI 30 (.bin .Mod (.var 31) (.int 7)) .Add (.bin .Mod (.var 3) (.int 1000000)))=some (.next (σ₁.set 30 (.own ((cells.set k (cells.getD k 0+p.1.fmod 1000000)).map .int)))):=by
   have h1:(cells.map D.int)[k]?=some (.int (cells.getD k 0)):=by
    rw [c8M,c8m,c8n (by lia)];rfl
   rw [List.map_set]
   exact c1Z k30 e1 e2 h1 (by rw [c8u,hlen];decide) rfl
  refine⟨_,.inl ((a0d e3).trans rfl),_,nm.own,?_,a0m⟩
  rw [List.length_set,hlen]
 refine⟨σ',cells',a2A (by kernel_rfl) ?_ e,I'⟩
 have es:evE F σ (.slice (.var 32) .no (.yes (.int 60)))=some (.list ((cut l none (some 60)).map .int)):=by
  refine a3c (a0g h32) (l:=none) (by kernel_rfl) (a5Q a0z) (l':=none) rfl (h':=some 60) (by kernel_rfl) ?_
  rw [a5y (by simpa using c7O hl (by decide))]
  simp [cut,List.map_take]
 rw [c2a (by kernel_rfl) es,List.zipIdx_map,c8E]
 rfl
noncomputable def c5w:PE:=.tup (.cons (.bin .Mod (.var 34) (.int 5)) (.cons (.bin .Add (.idx (.str ⟨#[60,62,34,9,10,13,45,46]⟩) (.bin .Mod (.bin .FloorDiv (.var 34) (.int 5)) (.int 8))) (.idx (.str ⟨#[60,62,34,9,10,13,45,46]⟩) (.bin .Mod (.bin .FloorDiv (.var 34) (.int 40)) (.int 8)))) .nil))
theorem a9c {k:Nat}(h:k<8):(#[60,62,34,9,10,13,45,46]:Array Nat)[k]?=some (a3m.getD k 0)∧a3m.getD k 0∈a3m:=by
 refine⟨?_,a0M h⟩
 rw [c8m,c8n h]
 exact c8K (xs:=#[60,62,34,9,10,13,45,46]) h
theorem c4L {c:Int}(h34:σ.get 34=some (.val (.int c))):∃ r,evE F σ c5w=some (a2W r)∧r.Ok:=by
 refine (a2j (x:=c) (n:=5) (by decide)).elim fun k Z1=>Z1.elim (fun hk hk5=>?_)
 refine (a2j (x:=c.fdiv 5) (n:=8) (by decide)).elim fun a Z1=>Z1.elim (fun ha ha8=>?_)
 refine (a2j (x:=c.fdiv 40) (n:=8) (by decide)).elim fun b Z1=>Z1.elim (fun hb hb8=>?_)
 refine⟨⟨k,a3m.getD a 0,a3m.getD b 0⟩,?_,hk5,(a9c ha8).2,(a9c hb8).2⟩
 have e1:evE F σ (.bin .Mod (.var 34) (.int 5))=some (.int (k:Int)):=a0l (a0g h34) a0z (by rw [a5g (by decide)];exact c7H (fun i=>some (D.int i)) hk)
 have e2:evE F σ (.bin .Mod (.bin .FloorDiv (.var 34) (.int 5)) (.int 8))=some (.int (a:Int)):=a0l (a0l (a0g h34) a0z (a7c (by decide) (by decide))) a0z (by rw [a5g (by decide)];exact c7H (fun i=>some (D.int i)) ha)
 have e3:evE F σ (.bin .Mod (.bin .FloorDiv (.var 34) (.int 40)) (.int 8))=some (.int (b:Int)):=a0l (a0l (a0g h34) a0z (a7c (by decide) (by decide))) a0z (by rw [a5g (by decide)];exact c7H (fun i=>some (D.int i)) hb)
 refine a4u (by kernel_rfl) (by kernel_rfl) e1 (a0l (a0G a2u e2 (a4Z (a9c ha8).1 (by decide))) (a0G a2u e3 (a4Z (a9c hb8).1 (by decide))) ?_)
 rfl
structure PR' (σ:Store)(cells:List Int)(rs:List Rdr):Prop extends PC' σ cells where
 g33:σ.get 33=some (.own (rs.map a2W))
 ok:∀ r∈rs,r.Ok
theorem b0p {cells:List Int}(I:PR' σ cells []):∃ σ' rs,evS F fuel σ (.for (.one 34) (.slice (.var 30) .no (.yes (.bin .Add (.int 1) (.bin .Mod (.idx (.var 30) (.int 6)) (.int 6))))) [.app 33 c5w])=some (.next σ')∧PR' σ' cells rs∧rs.length≤7:=by
 have hlen:=I.len
 refine (a2j (x:=cells.getD 6 0) (n:=6) (by decide)).elim fun k Z1=>Z1.elim (fun hk hk6=>?_)
 have e0:evE F σ (.bin .Add (.int 1) (.bin .Mod (.idx (.var 30) (.int 6)) (.int 6)))=some (.int ((1+k:Nat):Int)):=by
  have h1:a4C (.list (cells.map .int)) (.int ((6:Nat):Int))=some (.int (cells.getD 6 0)):=a5c (by lia) (by lia)
  have h2:evE F σ (.bin .Mod (.idx (.var 30) (.int 6)) (.int 6))=some (.int (k:Int)):=a0l (a0G (a8V I.g30) a0z h1) a0z ((a5g (by decide)).trans (c7H (fun i=>some (D.int i)) hk))
  exact a0l a0z h2 rfl
 let body:Store→D→Option Out:=fun σ d=>(a1c σ (.one 34) d).bind fun σ'=>a0C F fuel σ' [.app 33 c5w]
 obtain⟨σ',e,rs,I',hrs⟩:=a1F (body:=body) (f:=D.int) (all:=cells.take (1+k)) (σ:=σ) (fun done σ=>∃ rs,PR' σ cells rs∧rs.length=done.length) ⟨[],I,rfl⟩ fun done c rest σ hd ⟨rs,I,hrs⟩=>by
  have hdl:done.length≤7:=by have:=c7H List.length hd;simp at this;lia
  have hb:body σ (.int c)=a0C F fuel (σ.set 34 (.val (.int c))) [.app 33 c5w]:=by
   show ((a1c σ (.one 34) _).bind fun σ'=>a0C F fuel σ' _) = _
   rw [a1p I.nm];rfl
  rw [hb]
  refine (c4L (F:=F) (σ:=σ.set 34 (.val (.int c))) a0m).elim fun r Z1=>Z1.elim (fun er ok=>?_)
  have ap:=a7T (F:=F) (fuel:=fuel) (k:=33) ((a0a (by decide)).trans I.g33) er (by kernel_rfl) (by rw [c8u];lia)
  refine⟨_,.inl ((a0d ap).trans rfl),rs++[r],⟨⟨I.nm.val.own,I.len,(a0a (by decide)).trans ((a0a (by decide)).trans I.g30)⟩,by rw [a0m,c9z];rfl,fun x hx=>?_⟩,by simp [hrs]⟩
  rcases c8P.mp hx with hx | hx
  ·exact I.ok x hx
  ·rw [c8C] at hx;subst hx;exact ok
 refine⟨σ',rs,a2A (by kernel_rfl) ?_ e,I',by rw [hrs,List.length_take];lia⟩
 refine b6q (x:=.list ((cells.take (1+k)).map .int)) (a3c (a8V I.g30) (l:=none) (by kernel_rfl) (a5Q e0) (l':=none) rfl (a1M (by lia)) ?_) rfl
 rw [a5y (by simp;lia),b5U (by simp;lia),List.map_take]
end
end
section
section
variable {F:Fns}{fuel:Nat}{σ:Store}{x y z:D}{ea eb ec:PE}
theorem b6s (s1:strict σ ea=true)(s2:strict σ eb=true)(s3:strict σ ec=true)(h1:evE F σ ea=some x)(h2:evE F σ eb=some y)(h3:evE F σ ec=some z):evE F σ (.tup (.cons ea (.cons eb (.cons ec .nil))))=some (.tup [x,y,z]):=by
 show (a3i F σ _).bind _ = _;exact a0c (a2d s1 h1 (a2d s2 h2 (a2d s3 h3 a7R))) rfl
theorem a7X {a b c:Nat}(hn:NM σ):a1c σ (.many [a,b,c]) (.tup [x,y,z])=some (((σ.set a (.val x)).set b (.val y)).set c (.val z)):=a0n (show (true&&(noMeth σ a&&(noMeth σ b&&(noMeth σ c&&true))))=true by rw [hn.no,hn.no,hn.no];rfl)
theorem b6t {x y z:Str}{g g':Bool}{h:Bool}(h1:evE F σ ea=some (.str x g))(h2:evE F σ eb=some (.str y g'))(h3:evE F σ ec=some (.str z h))(ho:b4g eb ec g'=true)(hy:(y != z)=true)(hl:x.length+(x.length+1)*z.length≤16777216) :
  evE F σ (.replace ea eb ec)=some (.str (Txt.replace x y z)):=by
 show (evE F σ ea).bind _ = _
 exact a0c h1 (a0c h2 (a0c h3 (a0c (a:=x) rfl (a0c (a:=(y,g')) rfl (a0c (a:=z) rfl (a0n (c8N.mpr ⟨c8N.mpr ⟨ho,hy⟩,a0T hl⟩)))))))
structure PS' (σ:Store)(rs:List Rdr)(s lf:List Nat):Prop where
 nm:NM σ
 g33:σ.get 33=some (.own (rs.map a2W))
 g35:∃ g,σ.get 35=some (.val (.str ⟨s.toArray⟩ g))
 g36:∃ g,σ.get 36=some (.val (.str ⟨lf.toArray⟩ g))
 g37:∃ i,σ.get 37=some (.val (.int i))
 nd:(s++lf).Nodup
 mem:∀ x∈s++lf,x∈a1S
 len:s.length+lf.length=9
noncomputable def b8T:List PS:=[.asg 39 false (.idx (.var 36) (.bin .Mod (.var 37) (.var 38))),.asgT [35,36,37] (.tup (.cons (.bin .Add (.var 35) (.var 39)) (.cons (.replace (.var 36) (.var 39) (.str ⟨#[]⟩)) (.cons (.bin .FloorDiv (.var 37) (.var 38)) .nil))))]
theorem b6u {rs:List Rdr}{s lf:List Nat}(I:PS' σ rs s lf)(h4:4≤lf.length)(h38:σ.get 38=some (.val (.int (lf.length:Int)))) :
  ∃ σ' c,a0C F fuel σ b8T=some (.next σ')∧PS' σ' rs (s++[c]) (lf.erase c)∧c∈lf:=by
 refine (I.g37).elim fun i h37=>?_
 refine (I.g36).elim fun g6 h36=>?_
 refine (I.g35).elim fun g5 h35=>?_
 have hl:=I.len
 refine (a2j (x:=i) (n:=lf.length) (by lia)).elim fun k Z1=>Z1.elim (fun hk hkn=>?_)
 have e1:evE F σ (.bin .Mod (.var 37) (.var 38))=some (.int (k:Int)):=a0l (a0g h37) (a0g h38) ((a5g (by lia)).trans (c7H (fun i=>some (D.int i)) hk))
 have hget:(lf.toArray)[k]?=some (lf.getD k 0):=by
  rw [c8q,c8m,c8n hkn];rfl
 have hmem:lf.getD k 0∈lf:=a0M hkn
 generalize lf.getD k 0=c at *
 have e2:evE F σ (.idx (.var 36) (.bin .Mod (.var 37) (.var 38)))=some (.str ⟨#[c]⟩ true):=a0G (a0g h36) e1 (a4Z hget (by rw [a2I];lia))
 have s1:=a0u (F:=F) (fuel:=fuel) (k:=39) I.nm (by kernel_rfl) (by kernel_rfl) e2
 have nm:=I.nm.val (x:=39) (d:=.str ⟨#[c]⟩ true)
 have k39:(σ.set 39 (.val (.str ⟨#[c]⟩ true))).get 39=some (.val (.str ⟨#[c]⟩ true)):=a0m
 have k33:(σ.set 39 (.val (.str ⟨#[c]⟩ true))).get 33 = _:=(a0a (by decide)).trans I.g33
 have k35:(σ.set 39 (.val (.str ⟨#[c]⟩ true))).get 35 = _:=(a0a (by decide)).trans h35
 have k36:(σ.set 39 (.val (.str ⟨#[c]⟩ true))).get 36 = _:=(a0a (by decide)).trans h36
 have k37:(σ.set 39 (.val (.str ⟨#[c]⟩ true))).get 37 = _:=(a0a (by decide)).trans h37
 have k38:(σ.set 39 (.val (.str ⟨#[c]⟩ true))).get 38 = _:=(a0a (by decide)).trans h38
 generalize σ.set 39 (.val (.str ⟨#[c]⟩ true))=σ₁ at *
 have hnd:=I.nd
 rw [List.nodup_append] at hnd
 have herase:Txt.replace ⟨lf.toArray⟩ ⟨#[c]⟩ ⟨#[]⟩=⟨(lf.erase c).toArray⟩:=by
  have:(Txt.replace ⟨lf.toArray⟩ ⟨#[c]⟩ ⟨#[]⟩).cps.toList=lf.erase c:=by
   rw [replace_strikes,hnd.2.1.erase_eq_filter]
  rw [← this]
 have e3:evE F σ₁ (.bin .Add (.var 35) (.var 39))=some (.str ⟨(s++[c]).toArray⟩ false):=by
  refine a0l (a0g k35) (a0g k39) ?_
  exact b2s (b:=[c]) (by rw [c9A];lia)
 have e4:evE F σ₁ (.replace (.var 36) (.var 39) (.str ⟨#[]⟩))=some (.str ⟨(lf.erase c).toArray⟩ false):=by
  rw [← herase]
  exact b6t (a0g k36) (a0g k39) (z:=⟨#[]⟩) rfl rfl rfl (by rw [a2I];exact c7O (show lf.length+(lf.length+1)*0≤9 by lia) (by decide))
 have e5:evE F σ₁ (.bin .FloorDiv (.var 37) (.var 38))=some (.int (i.fdiv (lf.length:Int))):=a0l (a0g k37) (a0g k38) (a7c (by lia) (by
  rw [c9D]
  exact c7W (show lf.length≤9 by lia) (by decide)))
 have s2:=a3L (F:=F) (fuel:=fuel) (xs:=[35,36,37]) (b6s (by kernel_rfl) (by kernel_rfl) (by kernel_rfl) e3 e4 e5) (a7X nm)
 refine⟨((σ₁.set 35 (.val (.str ⟨(s++[c]).toArray⟩ false))).set 36 (.val (.str ⟨(lf.erase c).toArray⟩ false))).set 37 (.val (.int (i.fdiv (lf.length:Int)))),c,?_,⟨nm.val.val.val,(a0a (by decide)).trans ((a0a (by decide)).trans ((a0a (by decide)).trans k33)),⟨false,(a0a (by decide)).trans ((a0a (by decide)).trans a0m)⟩,⟨false,(a0a (by decide)).trans a0m⟩,⟨_,a0m⟩,?_,?_,?_⟩,hmem⟩
 ·show a0C F fuel σ [_,_] = _
  rw [a0d s1,a0d s2];rfl
 ·rw [c8U,List.nodup_append]
  refine⟨hnd.1,?_,fun a ha b hb=>?_⟩
  ·show (c :: lf.erase c).Nodup
   rw [List.nodup_cons]
   exact⟨fun q=>by rw [hnd.2.1.mem_erase_iff] at q;exact q.1 rfl,hnd.2.1.erase c⟩
  ·rcases c8o.mp hb with rfl | hb
   ·exact hnd.2.2 a ha _ hmem
   ·exact hnd.2.2 a ha b (List.mem_of_mem_erase hb)
 ·intro x hx
  rw [c8U] at hx
  rcases c8P.mp hx with hx | hx
  ·exact I.mem x (c8R _ hx)
  ·rcases c8o.mp hx with rfl | hx
   ·exact I.mem _ (c8Q _ hmem)
   ·exact I.mem x (c8Q _ (List.mem_of_mem_erase hx))
 ·rw [c8Y,c9A,List.length_erase_of_mem hmem];lia
theorem b3I {rs:List Rdr}(I:PS' σ rs [] a1S):∃ (σ':Store) (s:List Nat),evS F fuel σ (.for (.one 38) (.range3 (.int 9) (.int 5) (.neg (.int 1))) b8T)=some (.next σ')∧σ'.get 33=some (.own (rs.map a2W))∧(∃ g,σ'.get 35=some (.val (.str ⟨s.toArray⟩ g)))∧s.length=4∧s.Nodup∧∀ x∈s,x∈a1S:=by
 let body:Store→D→Option Out:=fun σ d=>(a1c σ (.one 38) d).bind fun σ'=>a0C F fuel σ' b8T
 obtain⟨σ',e,s,lf,I',hs⟩:=a1F (body:=body) (f:=fun (n:Nat)=>D.int (n:Int)) (all:=[9,8,7,6]) (σ:=σ) (fun done σ=>∃ s lf,PS' σ rs s lf∧s.length=done.length) ⟨[],a1S,I,rfl⟩ fun done n rest σ hd ⟨s,lf,I,hs⟩=>by
  have hl:=I.len
  have hn:n=lf.length:=by
   have h1:[9,8,7,6][done.length]?=some n:=by rw [← hd];simp
   have hdl:done.length<4:=by have:=c7H List.length hd;simp at this;lia
   obtain q | q | q | q:done.length=0∨done.length=1∨done.length=2∨done.length=3:=by lia
   all_goals (rw [q] at h1;simp at h1;lia)
  have hdl:done.length<4:=by have:=c7H List.length hd;simp at this;lia
  have hb:body σ (.int (n:Int))=a0C F fuel (σ.set 38 (.val (.int (n:Int)))) b8T:=by
   show ((a1c σ (.one 38) _).bind fun σ'=>a0C F fuel σ' _) = _
   rw [a1p I.nm];rfl
  rw [hb]
  refine (I.g35).elim fun g5 h5=>?_
  refine (I.g36).elim fun g6 h6=>?_
  refine (I.g37).elim fun i h7=>?_
  have I₁:PS' (σ.set 38 (.val (.int (n:Int)))) rs s lf:=⟨I.nm.val,(a0a (by decide)).trans I.g33,⟨g5,(a0a (by decide)).trans h5⟩,⟨g6,(a0a (by decide)).trans h6⟩,⟨i,(a0a (by decide)).trans h7⟩,I.nd,I.mem,I.len⟩
  obtain⟨σ',c,e,I',_⟩:=b6u (F:=F) (fuel:=fuel) I₁ (by lia) (by rw [a0m,hn])
  exact⟨σ',.inl e,s++[c],lf.erase c,I',by simp [hs]⟩
 have hnd:=I'.nd
 rw [List.nodup_append] at hnd
 exact⟨σ',s,a2A (by kernel_rfl) (by kernel_rfl) e,I'.g33,I'.g35,by simpa using hs,hnd.1,fun x hx=>I'.mem x (c8R _ hx)⟩
theorem a6l {α:Type}{l:List α}{n:Nat}(h:l.length=n+1):∃ a r,l=a :: r∧r.length=n:=by
 cases l with
 | nil=>cases h
 | cons a r=>exact⟨a,r,rfl,Nat.succ.inj h⟩
theorem b8U {α:Type}{l:List α}(h:l.length=4):∃ a b c d,l=[a,b,c,d]:=by
 obtain⟨a,r1,rfl,h1⟩:=a6l h
 obtain⟨b,r2,rfl,h2⟩:=a6l h1
 obtain⟨c,r3,rfl,h3⟩:=a6l h2
 obtain⟨d,r4,rfl,h4⟩:=a6l h3
 rw [c9s.mp h4]
 exact⟨a,b,c,d,rfl⟩
theorem b6v {fuel m:Nat}{l:List Int}(hl:l.length≤1000):∃ (rs:List Rdr) (sig:Nat→Nat) (g:Bool),runG ids a0t fuel (m+1) 95 [.list (l.map .int)] none=some (.tup [.list (rs.map a2W),rnd sig ([0,1,2,3],g)])∧(∀ r∈rs,r.Ok)∧rs.length≤7∧SigOk sig:=by
 suffices h:∃ (rs:List Rdr) (sig:Nat→Nat) (g:Bool),a0C (runG ids a0t fuel m) fuel [(32,.val (.list (l.map .int)))] a4r=some (.ret (.tup [.list (rs.map a2W),rnd sig ([0,1,2,3],g)]))∧(∀ r∈rs,r.Ok)∧rs.length≤7∧SigOk sig by
  obtain⟨rs,sig,g,h1,h2⟩:=h
  exact⟨rs,sig,g,a2c (df:=⟨95,[32],[],[],a4r⟩) rfl (by decide) (by decide) rfl rfl rfl h1,h2⟩
 generalize runG ids a0t fuel m=F
 have a1:evS F fuel [(32,.val (.list (l.map .int)))] (.asg 30 true (.list (.cons (.int 310) (.cons (.int 261) (.cons (.int 144) (.cons (.int 309) (.cons (.int 34) (.cons (.int 203) (.cons (.int 17518) .nil)))))))))=some (.next [(32,.val (.list (l.map .int))),(30,.own (b6r.map .int))]):=by kernel_rfl
 obtain⟨σ₁,cells,e1,I₁⟩:=b3H (F:=F) (fuel:=fuel) hl (σ:=[(32,.val (.list (l.map .int))),(30,.own (b6r.map .int))]) (cells:=b6r) ⟨(NM.nil.cons (fun _=>by simp)).cons (fun _=>by simp),rfl,by kernel_rfl⟩ (by kernel_rfl)
 have a2:=b1v (F:=F) (fuel:=fuel) (k:=33) (es:=.nil) (l:=[]) I₁.nm (by kernel_rfl)
 obtain⟨σ₂,rs,e2,I₂,hrs⟩:=b0p (F:=F) (fuel:=fuel) (σ:=σ₁.set 33 (.own [])) (cells:=cells) ⟨⟨I₁.nm.own,I₁.len,(a0a (by decide)).trans I₁.g30⟩,a0m,fun _ h=>nomatch h⟩
 have hlen:=I₂.len
 have e3:evE F σ₂ (.bin .FloorDiv (.idx (.var 30) (.int 6)) (.int 6))=some (.int ((cells.getD 6 0).fdiv 6)):=by
  have h1:a4C (.list (cells.map .int)) (.int ((6:Nat):Int))=some (.int (cells.getD 6 0)):=a5c (by lia) (by lia)
  exact a0l (a0G (a8V I₂.g30) a0z h1) a0z (a7c (by decide) (by decide))
 have a3:=a3L (F:=F) (fuel:=fuel) (xs:=[35,36,37]) (b6s (by kernel_rfl) (by kernel_rfl) (by kernel_rfl) (a2u (s:=⟨#[]⟩)) (a2u (s:=⟨#[38,60,62,34,9,10,13,45,46]⟩)) e3) (a7X I₂.nm)
 have I₃:PS' (((σ₂.set 35 (.val (.str ⟨#[]⟩ false))).set 36 (.val (.str ⟨#[38,60,62,34,9,10,13,45,46]⟩ false))).set 37 (.val (.int ((cells.getD 6 0).fdiv 6)))) rs [] a1S:=
  ⟨I₂.nm.val.val.val,(a0a (by decide)).trans ((a0a (by decide)).trans ((a0a (by decide)).trans I₂.g33)),⟨false,(a0a (by decide)).trans ((a0a (by decide)).trans a0m)⟩,⟨false,(a0a (by decide)).trans a0m⟩,⟨_,a0m⟩,by decide,fun x hx=>hx,rfl⟩
 obtain⟨σ₃,s,e4,h33,⟨g,h35⟩,hs4,hnd,hmem⟩:=b3I (F:=F) (fuel:=fuel) I₃
 obtain⟨a,b,c,d,rfl⟩:=b8U hs4
 have hlt:∀ x∈a1S,x<128:=by decide
 refine⟨rs,fun j=>[a,b,c,d].getD j 38,g,?_,I₂.ok,hrs,⟨⟨fun i=>?_,fun i j hi hj e=>?_⟩,fun j hj=>?_⟩⟩
 ·show a0C F fuel _ [_,_,_,_,_,_,_] = _
  refine (a0d a1).trans ((a0d e1).trans ((a0d a2).trans ((a0d e2).trans ((a0d a3).trans ((a0d e4).trans ?_)))))
  have f33:=a0Z h33 (s':=.val (.list (rs.map a2W))) rfl
  have f35:=a0Z h35 (s':=.val (.str ⟨[a,b,c,d].toArray⟩ g)) rfl
  exact a2t (by kernel_rfl) (a4u (a0p f33) (a0p f35) (a0g f33) (a0g f35))
 ·by_cases h:i<4
  ·exact hlt _ (hmem _ (a0M h))
  ·have:[a,b,c,d].getD i 38=38:=by
    rw [c8m,c8X (by simp;lia)];rfl
   rw [this];decide
 ·have h1:[a,b,c,d][i]?=[a,b,c,d][j]?:=by
   rw [c8m,c8m,c8n (show i<[a,b,c,d].length from hi),c8n (show j<[a,b,c,d].length from hj)] at e
   rw [c8n (show i<[a,b,c,d].length from hi),c8n (show j<[a,b,c,d].length from hj)]
   exact c7H some e
  exact (List.getElem?_inj (show i<[a,b,c,d].length from hi) hnd).mp h1
 ·exact hmem _ (a0M hj)
end
end
section
noncomputable abbrev Pr:=Nat×List Nat
noncomputable def a7d (p:Pr):PS:=.ifs (.cmp .In (.str ⟨#[p.1]⟩) (.var 29)) [.asg 29 false (.replace (.var 29) (.str ⟨#[p.1]⟩) (.str ⟨p.2.toArray⟩))] []
noncomputable def b6w (ps:List Pr)(l:List Nat):List Nat:=ps.foldl (fun l p=>subst p.1 p.2 l) l
theorem b3J {c:Nat}{z:List Nat}{f:Nat→List Nat}{l:List Nat}:subst c z (l.flatMap f)=l.flatMap fun k=>subst c z (f k):=by
 unfold subst;rw [List.flatMap_assoc]
section
variable {F:Fns}{fuel:Nat}
theorem b8V {p:Pr}{l:List Nat}{g:Bool}{r:List PS}(hl:l.length≤10000)(hz:p.2≠[p.1])(hzl:p.2.length≤10):∃ g',a0C F fuel [(29,.val (.str ⟨l.toArray⟩ g))] (a7d p :: r)=a0C F fuel [(29,.val (.str ⟨(subst p.1 p.2 l).toArray⟩ g'))] r:=by
 have t:evT F [(29,.val (.str ⟨l.toArray⟩ g))] (.cmp .In (.str ⟨#[p.1]⟩) (.var 29))=some (l.contains p.1):=by
  refine a0Y (x:=.str ⟨#[p.1]⟩) (y:=.str ⟨l.toArray⟩ g) (by kernel_rfl) (by kernel_rfl) ?_
  exact c7H some (b6o ⟨l.toArray⟩ p.1)
 have hifs:=a0U (F:=F) (fuel:=fuel) (A:=[.asg 29 false (.replace (.var 29) (.str ⟨#[p.1]⟩) (.str ⟨p.2.toArray⟩))]) (B:=[]) t
 cases hc:l.contains p.1 with
 | false=>
  rw [hc] at hifs
  have hn:p.1 ∉ l:=fun h=>by rw [← c9f,hc] at h;cases h
  refine⟨g,?_⟩
  rw [a3V hn]
  exact a0d hifs
 | true=>
  rw [hc] at hifs
  refine⟨false,?_⟩
  have e:evE F [(29,.val (.str ⟨l.toArray⟩ g))] (.replace (.var 29) (.str ⟨#[p.1]⟩) (.str ⟨p.2.toArray⟩))=some (.str ⟨(subst p.1 p.2 l).toArray⟩ false):=by
   have v:evE F [(29,.val (.str ⟨l.toArray⟩ g))] (.var 29)=some (.str ⟨l.toArray⟩ g):=by kernel_rfl
   have hr:=b8S ⟨l.toArray⟩ ⟨p.2.toArray⟩ p.1
   have hy:((⟨#[p.1]⟩:Str) != ⟨p.2.toArray⟩)=true:=by
    rw [bne_iff_ne]
    intro q
    have:=c7H (fun s:Str=>s.cps.toList) q
    simp at this
    exact hz this.symm
   exact (b6t v a2u a2u rfl hy (by
    rw [a2I,a2I]
    have:(l.length+1)*p.2.length≤10001*10:=Nat.mul_le_mul (by lia) hzl
    lia)).trans (c7H (fun s=>some (D.str s false)) hr)
  have a:=a5b (F:=F) (fuel:=fuel) (x:=29) (σ:=[(29,.val (.str ⟨l.toArray⟩ g))]) (by kernel_rfl) (by kernel_rfl) (by kernel_rfl) e
  exact a0d (hifs.trans ((a0d a).trans rfl))
theorem b0q {l:List Nat}(hl:l.length≤1000)(al:List Nat)(hal:∀ k∈l,k∈al):∀ {ps:List Pr} {f:Nat→List Nat} {g:Bool},(∀ p∈ps,p.2≠[p.1]∧p.2.length≤10)→(∀ i,i≤ps.length→∀ k∈al,(b6w (ps.take i) (f k)).length≤6) →
  ∃ g',a0C F fuel [(29,.val (.str ⟨(l.flatMap f).toArray⟩ g))] (ps.map a7d++[.ret (.var 29)])=some (.ret (.str ⟨(l.flatMap fun k=>b6w ps (f k)).toArray⟩ g'))
 | [],f,g,_,_=>⟨g,by kernel_rfl⟩
 | p :: ps,f,g,h1,h2=>by
  have hlen:(l.flatMap f).length≤10000:=by
   have:=a2h (l:=l) (f:=f) (k:=6) fun k hk=>h2 0 (by simp) k (hal k hk)
   lia
  refine (b8V (F:=F) (fuel:=fuel) (p:=p) (l:=l.flatMap f) (g:=g) (r:=ps.map a7d++[.ret (.var 29)]) hlen (h1 p (.head _)).1 (h1 p (.head _)).2).elim fun g' e=>?_
  obtain⟨g'',e'⟩:=b0q hl al hal (ps:=ps) (f:=fun k=>subst p.1 p.2 (f k)) (g:=g') (fun q hq=>h1 q (.tail _ hq)) fun i hi k hk=>by
   have:=h2 (i+1) (by simpa using hi) k hk
   simpa [b6w] using this
  refine⟨g'',?_⟩
  rw [c9g,List.cons_append,e,b3J,e']
  rfl
end
noncomputable def a2C:List (List Pr):=[
 [(38,[38,97,109,112,59]),(60,[38,108,116,59]),(62,[38,103,116,59])],
 [(38,[38,97,109,112,59]),(60,[38,108,116,59]),(62,[38,103,116,59]),(13,[38,35,120,68,59])],
 [(38,[38,97,109,112,59]),(60,[38,108,116,59]),(62,[38,103,116,59]),(34,[38,113,117,111,116,59]),(13,[38,35,49,51,59]),(10,[38,35,49,48,59]),(9,[38,35,48,57,59])],
 [(38,[38,97,109,112,59]),(60,[38,108,116,59]),(34,[38,113,117,111,116,59]),(9,[38,35,120,57,59]),(10,[38,35,120,65,59]),(13,[38,35,120,68,59])],
 [(38,[38,97,109,112,59]),(62,[38,103,116,59]),(34,[38,113,117,111,116,59])]]
noncomputable def c2c:List Nat:=65 :: a1S
noncomputable def b3K (way:Nat)(k:Nat):List Nat:=b6w (a2C.getD way []) [k]
theorem b6x:((List.range 5).all fun w=>(a2C.getD w []).all (fun p=>decide (p.2≠[p.1])&&decide (p.2.length≤10))&&(List.range ((a2C.getD w []).length+1)).all fun i=>c2c.all fun k=>decide ((b6w ((a2C.getD w []).take i) [k]).length≤6))=true:=by decide +kernel
noncomputable def b3L:List Nat:=[50,51,52,53,54]
theorem b1A (l:List Nat):(l.flatMap fun k=>[k])=l:=by induction l with
 | nil=>rfl
 | cons a r ih=>rw [c9B,ih];rfl
theorem b8W {fuel m w:Nat}{l:List Nat}{g:Bool}(hw:w<5)(hl:l.length≤1000)(hal:∀ k∈l,k∈c2c):∃ g',runG ids a0t fuel (m+1) (b3L.getD w 0) [.str ⟨l.toArray⟩ g] none=some (.str ⟨(l.flatMap (b3K w)).toArray⟩ g'):=by
 have hc:=c8k.mp b6x w (c8l.mpr hw)
 simp only [c7S,c8k,c9i] at hc
 refine (b0q (F:=runG ids a0t fuel m) (fuel:=fuel) hl c2c hal (ps:=a2C.getD w []) (f:=fun k=>[k]) (g:=g) hc.1 fun i hi k hk=>hc.2 i (c8l.mpr (by lia)) k hk).elim fun g' e=>?_
 rw [b1A] at e
 refine⟨g',?_⟩
 have key:∀ (body:List PS),body=[.try ((a2C.getD w []).map a7d++[.ret (.var 29)])]→a0t.find? (fun d=>d.f==b3L.getD w 0)=some ⟨b3L.getD w 0,[29],[],[],body⟩→b3L.getD w 0≠26→b3L.getD w 0≠68→_:=fun body hb hf h1 h2=>by
  refine a2c (n:=m) (f:=b3L.getD w 0) (args:=[.str ⟨l.toArray⟩ g]) (d:=.str ⟨(l.flatMap (b3K w)).toArray⟩ g') (fuel:=fuel) hf h1 h2 rfl rfl rfl ?_
  subst hb
  refine a3J (o:=.ret (.str ⟨(l.flatMap (b3K w)).toArray⟩ g')) ?_ (fun _ h=>by cases h)
  show (a0C _ _ _ _).bind _ = _
  have e':a0C (runG ids a0t fuel m) fuel (([29].zip [D.str ⟨l.toArray⟩ g]).map fun p=>(p.1,Slot.val p.2)) ((a2C.getD w []).map a7d++[.ret (.var 29)])=some (.ret (.str ⟨(l.flatMap (b3K w)).toArray⟩ g')):=e
  exact a0c e' rfl
 obtain rfl | rfl | rfl | rfl | rfl:w=0∨w=1∨w=2∨w=3∨w=4:=by lia
 ·exact key a4g rfl rfl (by decide) (by decide)
 ·exact key a2q rfl rfl (by decide) (by decide)
 ·exact key a3H rfl rfl (by decide) (by decide)
 ·exact key a2f rfl rfl (by decide) (by decide)
 ·exact key a2e rfl rfl (by decide) (by decide)
theorem b1B {fuel m w:Nat}{l:List Nat}{g:Bool}(hw:w<5)(hl:l.length≤1000)(hal:∀ k∈l,k∈c2c):∃ g',runG ids a0t fuel (m+2) 60 [.int (w:Int),.str ⟨l.toArray⟩ g] none=some (.str ⟨(l.flatMap (b3K w)).toArray⟩ g'):=by
 refine (b8W (fuel:=fuel) (m:=m) (g:=g) hw hl hal).elim fun g' e=>?_
 refine⟨g',a2c (df:=⟨60,[49,29],[],[],a3b⟩) rfl (by decide) (by decide) rfl rfl rfl ?_⟩
 generalize runG ids a0t fuel (m+1)=F at *
 generalize hx:D.str ⟨l.toArray⟩ g=x at *
 generalize D.str ⟨(l.flatMap (b3K w)).toArray⟩ g'=y at *
 have last:∀ f (r:List PS),F f [x] none=some y→a0C F fuel [(49,.val (.int (w:Int))),(29,.val x)] (.ret (.call f (.cons (.var 29) .nil) .no) :: r)=some (.ret y):=fun f r h=>
  a2t (by kernel_rfl) (a0L (a1G (by kernel_rfl) (by kernel_rfl)) h)
 have skip:∀ (i:Nat) (f:Nat) (r:List PS),w≠i→a0C F fuel [(49,.val (.int (w:Int))),(29,.val x)] (.ifs (.cmp .Eq (.var 49) (.int (i:Nat))) [.ret (.call f (.cons (.var 29) .nil) .no)] [] :: r)=a0C F fuel [(49,.val (.int (w:Int))),(29,.val x)] r:=fun i f r h=>by
  refine a0d ((a0U (q:=false) (a0Y (x:=.int (w:Int)) (y:=.int (i:Nat)) (by kernel_rfl) a0z ?_)).trans rfl)
  exact b0k.trans (c7H some (c7N.mpr h))
 have take:∀ (i:Nat) (f:Nat) (r:List PS),w=i→F f [x] none=some y→a0C F fuel [(49,.val (.int (w:Int))),(29,.val x)] (.ifs (.cmp .Eq (.var 49) (.int (i:Nat))) [.ret (.call f (.cons (.var 29) .nil) .no)] [] :: r)=some (.ret y):=fun i f r h hf=>by
  refine a3J ((a0U (q:=true) (a0Y (x:=.int (w:Int)) (y:=.int (i:Nat)) (by kernel_rfl) a0z ?_)).trans (last f [] hf)) (fun _ h=>by cases h)
  exact b0k.trans (c7H some (c7L.mpr h))
 show a0C F fuel [(49,.val (.int (w:Int))),(29,.val x)] a3b = _
 obtain rfl | rfl | rfl | rfl | rfl:w=0∨w=1∨w=2∨w=3∨w=4:=by lia
 ·exact take 0 50 _ rfl e
 ·exact (skip 0 50 _ (by decide)).trans (take 1 51 _ rfl e)
 ·exact (skip 0 50 _ (by decide)).trans ((skip 1 51 _ (by decide)).trans (take 2 52 _ rfl e))
 ·exact (skip 0 50 _ (by decide)).trans ((skip 1 51 _ (by decide)).trans ((skip 2 52 _ (by decide)).trans (take 3 53 _ rfl e)))
 ·exact (skip 0 50 _ (by decide)).trans ((skip 1 51 _ (by decide)).trans ((skip 2 52 _ (by decide)).trans ((skip 3 53 _ (by decide)).trans (last 54 _ e))))
end
section
noncomputable def a4x (c:Nat):Nat:=if 65≤c∧c≤90 then c - 65 else if 97≤c∧c≤122 then c - 71 else if 48≤c∧c≤57 then c+4 else if c=43 then 62 else if c=47 then 63 else 64
theorem c2d (fuel m:Nat):((List.range 128).all fun c=>isInt (runG ids a0t fuel (m+1) 15 [.int (c:Nat)] none) ((a4x c:Nat):Int))=true:=by kernel_rfl
theorem c2e {fuel m c:Nat}(h:c<128):runG ids a0t fuel (m+1) 15 [.int (c:Int)] none=some (.int (a4x c:Int)):=a8X (c8k.mp (c2d fuel m) c (c8l.mpr h))
theorem c2f {fuel m:Nat}{b:Array UInt8}:runG ids a0t fuel (m+1) 6 [.bytes b] none=some (.bytes b):=by kernel_rfl
theorem b6y {fuel m:Nat}:runG ids a0t fuel (m+1) 8 [.bool false] none=some (.bool false):=by kernel_rfl
structure S6 where
 q:Nat
 left:Nat
 out:List Nat
noncomputable def S6.next (s:S6)(v:Nat):S6:=match s.q with
 | 0=>⟨1,v,s.out⟩
 | 1=>⟨2,v % 16,s.out++[s.left*4+v / 16]⟩
 | 2=>⟨3,v % 4,s.out++[s.left*16+v / 4]⟩
 | _=>⟨0,0,s.out++[s.left*64+v]⟩
structure S6.Ok (s:S6):Prop where
 q:s.q<4
 left:(s.q=0→s.left=0)∧(s.q=1→s.left<64)∧(s.q=2→s.left<16)∧(s.q=3→s.left<4)
 out:∀ x∈s.out,x<256
theorem S6.Ok.next {s:S6}(h:s.Ok){v:Nat}(hv:v<64):(s.next v).Ok:=by
 obtain⟨q,left,out⟩:=s
 obtain⟨h1,⟨l0,l1,l2,l3⟩,h3⟩:=h
 simp only at h1 l0 l1 l2 l3 h3
 obtain rfl | rfl | rfl | rfl:q=0∨q=1∨q=2∨q=3:=by lia
 ·exact⟨by simp [S6.next],by simp [S6.next];lia,h3⟩
 ·refine⟨by simp [S6.next],by simp [S6.next];lia,fun x hx=>?_⟩
  rcases c8P.mp hx with hx | hx
  ·exact h3 x hx
  ·have hx:x=left*4+v / 16:=c8C.mp hx
   have:=l1 rfl
   lia
 ·refine⟨by simp [S6.next],by simp [S6.next];lia,fun x hx=>?_⟩
  rcases c8P.mp hx with hx | hx
  ·exact h3 x hx
  ·have hx:x=left*16+v / 4:=c8C.mp hx
   have:=l2 rfl
   lia
 ·refine⟨by simp [S6.next],by simp [S6.next],fun x hx=>?_⟩
  rcases c8P.mp hx with hx | hx
  ·exact h3 x hx
  ·have hx:x=left*64+v:=c8C.mp hx
   have:=l3 rfl
   lia
theorem b8X:((List.range 64).all fun v=>Builtin.bitAnd (v:Nat) 15==((v % 16:Nat):Int)&&Builtin.bitAnd (v:Nat) 3==((v % 4:Nat):Int)&&((v:Nat):Int).fdiv (2 ^ 4)==((v / 16:Nat):Int)&&((v:Nat):Int).fdiv (2 ^ 2)==((v / 4:Nat):Int)&&(List.range 64).all fun l=>
  Builtin.bitOr ((l:Nat)*2 ^ 2) ((v / 16:Nat):Int)==((l*4+v / 16:Nat):Int)&&(16≤l||Builtin.bitOr ((l:Nat)*2 ^ 4) ((v / 4:Nat):Int)==((l*16+v / 4:Nat):Int))&&(4≤l||Builtin.bitOr ((l:Nat)*2 ^ 6) ((v:Nat):Int)==((l*64+v:Nat):Int)))=true:=by decide +kernel
section
variable {F:Fns}{fuel:Nat}{σ:Store}
structure A64 (σ:Store)(s:S6)(i:Int):Prop where
 nm:NM σ
 g7:σ.get 7=some (.val (.bool false))
 g9:σ.get 9=some (.own (s.out.map fun (n:Nat)=>.int (n:Int)))
 g10:σ.get 10=some (.val (.int (s.q:Int)))
 g11:σ.get 11=some (.val (.int (s.left:Int)))
 g12:σ.get 12=some (.val (.int 0))
 g13:σ.get 13=some (.val (.int i))
theorem A64.set {s:S6}{i:Int}(h:A64 σ s i){x:Nat}{d:D}(hx:x=14):A64 (σ.set x (.val d)) s i:=by
 subst hx
 exact⟨h.nm.val,(a0a (by decide)).trans h.g7,(a0a (by decide)).trans h.g9,(a0a (by decide)).trans h.g10,(a0a (by decide)).trans h.g11,(a0a (by decide)).trans h.g12,(a0a (by decide)).trans h.g13⟩
noncomputable def b0r (k j:Int):PE:=.bin .BitOr (.bin .LShift (.var 11) (.int k)) (.bin .RShift (.var 14) (.int j))
noncomputable def aQ1:List PS:=[.asg 10 false (.int 2),.app 9 (b0r 2 4),.asg 11 false (.bin .BitAnd (.var 14) (.int 15))]
noncomputable def aQ2:List PS:=[.asg 10 false (.int 3),.app 9 (b0r 4 2),.asg 11 false (.bin .BitAnd (.var 14) (.int 3))]
noncomputable def aQ3:List PS:=[.asg 10 false (.int 0),.app 9 (.bin .BitOr (.bin .LShift (.var 11) (.int 6)) (.var 14)),.asg 11 false (.int 0)]
noncomputable def aQ:PS:=.ifs (.cmp .Eq (.var 10) (.int 0)) [.asg 10 false (.int 1),.asg 11 false (.var 14)] [.ifs (.cmp .Eq (.var 10) (.int 1)) aQ1 [.ifs (.cmp .Eq (.var 10) (.int 2)) aQ2 aQ3]]
theorem b6z {a b:Nat}{k:Nat}(h:σ.get k=some (.val (.int (a:Int)))):evT F σ (.cmp .Eq (.var k) (.int (b:Int)))=some (decide (a=b)):=by
 refine a0Y (a0g h) a0z ?_
 exact b0k
theorem c2g {s:S6}{i:Int}(h:A64 σ s i){q l y:Nat}{e1 e2:PE}{v:D}(hv:σ.get 14=some (.val v))(hs1:∀ σ,strict σ e1=true)
  (h1:evE F (σ.set 10 (.val (.int (q:Int)))) e1=some (.int (y:Int))) (hout:s.out.length≤100000)
  (h2:∀ σ',σ'.get 14=some (.val v)→evE F σ' e2=some (.int (l:Int))) (hi2:a5T e2=none) (hs2:∀ σ,strict σ e2=true) :
  ∃ σ',a0C F fuel σ [.asg 10 false (.int (q:Int)),.app 9 e1,.asg 11 false e2]=some (.next σ')∧A64 σ' ⟨q,l,s.out++[y]⟩ i:=by
 have s1:=a0u (F:=F) (fuel:=fuel) (k:=10) h.nm rfl (by kernel_rfl) (a0z (i:=(q:Int)))
 have s2:=a7T (F:=F) (fuel:=fuel) (k:=9) (σ:=σ.set 10 (.val (.int (q:Int)))) ((a0a (by decide)).trans h.g9) h1 (hs1 _) (by rw [c8u];lia)
 have k14:((σ.set 10 (.val (.int (q:Int)))).set 9 (.own (s.out.map (fun (n:Nat)=>D.int (n:Int))++[.int (y:Int)]))).get 14=some (.val v):=(a0a (by decide)).trans ((a0a (by decide)).trans hv)
 have s3:=a0u (F:=F) (fuel:=fuel) (k:=11) (e:=e2) (h.nm.val.own) hi2 (hs2 _) (h2 _ k14)
 refine⟨_,(a0d s1).trans ((a0d s2).trans ((a0d s3).trans rfl)),h.nm.val.own.val,?_,?_,?_,a0m,?_,?_⟩
 ·exact (a0a (by decide)).trans ((a0a (by decide)).trans ((a0a (by decide)).trans h.g7))
 ·refine (a0a (by decide)).trans (a0m.trans ?_)
  simp
 ·exact (a0a (by decide)).trans ((a0a (by decide)).trans a0m)
 ·exact (a0a (by decide)).trans ((a0a (by decide)).trans ((a0a (by decide)).trans h.g12))
 ·exact (a0a (by decide)).trans ((a0a (by decide)).trans ((a0a (by decide)).trans h.g13))
theorem b9T {l k:Nat}(h:l<64)(hk:k≤1000):a2M .LShift (.int (l:Int)) (.int (k:Int))=some (.int ((l:Int)*2 ^ k)):=by
 have h1:(l:Int).natAbs<2 ^ 64:=by rw [c9D];lia
 refine a1h (x:=grd (decide (0≤(k:Int))&&decide ((k:Int)≤1000000)&&decide ((l:Int).natAbs<2 ^ 64)) (some ((l:Int)*2 ^ (k:Int).toNat))) (a0n ?_) rfl
 rw [c9c (c8t k),c9c (show (k:Int)≤1000000 by lia),c9c h1];rfl
theorem c4M {l:Int}{k:Nat}:a2M .RShift (.int l) (.int (k:Int))=some (.int (l.fdiv (2 ^ k))):=by
 exact a1h (x:=grd (decide (0≤(k:Int))) (some (l.fdiv (2 ^ (k:Int).toNat)))) (a0n (c9c (c8t k))) rfl
theorem c6O {s:S6}{i:Int}(h:A64 σ s i)(ok:s.Ok){v:Nat}(hv:v<64)(h14:σ.get 14=some (.val (.int (v:Int))))(hout:s.out.length≤100000) :
  ∃ σ',evS F fuel σ aQ=some (.next σ')∧A64 σ' (s.next v) i:=by
 obtain⟨q,left,out⟩:=s
 obtain⟨h1,⟨l0,l1,l2,l3⟩,h3⟩:=ok
 simp only at h1 l0 l1 l2 l3 h3
 have ba:=c8k.mp b8X v (c8l.mpr hv)
 simp only [c7S,c7L] at ba
 obtain⟨⟨⟨⟨b1,b2⟩,b3⟩,b4⟩,b5⟩:=ba
 have b6:=fun (hl:left<64)=>c8k.mp b5 left (c8l.mpr hl)
 simp only [c7S,c7L,Bool.or_eq_true,c9i] at b6
 have t0:=b6z (F:=F) (b:=0) h.g10
 have t1:=b6z (F:=F) (b:=1) h.g10
 have t2:=b6z (F:=F) (b:=2) h.g10
 have v14:∀ σ',σ'.get 14=some (.val (.int (v:Int)))→evE F σ' (.var 14)=some (.int (v:Int)):=fun σ' h=>a0g h
 have k14:∀ q:Int,(σ.set 10 (.val (.int q))).get 14=some (.val (.int (v:Int))):=fun q=>(a0a (by decide)).trans h14
 have k11:∀ q:Int,(σ.set 10 (.val (.int q))).get 11=some (.val (.int (left:Int))):=fun q=>(a0a (by decide)).trans h.g11
 have shift:∀ (q:Int) (k j:Nat),left<64→k≤1000→evE F (σ.set 10 (.val (.int q))) (b0r (k:Int) (j:Int))=some (.int (Builtin.bitOr ((left:Int)*2 ^ k) ((v:Int).fdiv (2 ^ j)))):=fun q k j hl hk=>
  a0l (a0l (a0g (k11 q)) a0z (b9T hl hk)) (a0l (a0g (k14 q)) a0z c4M) rfl
 obtain rfl | rfl | rfl | rfl:q=0∨q=1∨q=2∨q=3:=by lia
 ·have s1:=a0u (F:=F) (fuel:=fuel) (k:=10) h.nm (by kernel_rfl) (by kernel_rfl) (a0z (i:=(1:Int)))
  have s2:=b8B (F:=F) (fuel:=fuel) (k:=11) (y:=14) (σ:=σ.set 10 (.val (.int 1))) h.nm.val (k14 1)
  refine⟨_,(a0U t0).trans ((a0d s1).trans ((a0d s2).trans rfl)),h.nm.val.val,?_,?_,?_,a0m,?_,?_⟩
  ·exact (a0a (by decide)).trans ((a0a (by decide)).trans h.g7)
  ·exact (a0a (by decide)).trans ((a0a (by decide)).trans h.g9)
  ·exact (a0a (by decide)).trans a0m
  ·exact (a0a (by decide)).trans ((a0a (by decide)).trans h.g12)
  ·exact (a0a (by decide)).trans ((a0a (by decide)).trans h.g13)
 ·have hl:=l1 rfl
  refine (b6 hl).elim fun Z1 _=>Z1.elim (fun c1 _=>?_)
  obtain⟨σ',e,A⟩:=c2g (F:=F) (fuel:=fuel) h (q:=2) (l:=v % 16) (y:=left*4+v / 16) (e1:=b0r 2 4) (e2:=.bin .BitAnd (.var 14) (.int 15)) h14 (fun _=>by kernel_rfl)
   ((shift 2 2 4 hl (by decide)).trans (by rw [b3,c1])) hout (fun σ' h=>a0l (v14 σ' h) a0z (c7H (fun i=>some (D.int i)) b1)) (by kernel_rfl) (fun _=>by kernel_rfl)
  exact⟨σ',(a0U t0).trans ((a0d ((a0U t1).trans e)).trans rfl),A⟩
 ·have hl:=l2 rfl
  refine (b6 (by lia)).elim fun Z1 _=>Z1.elim (fun _ c2=>?_)
  have c2:=c2.resolve_left (by lia)
  obtain⟨σ',e,A⟩:=c2g (F:=F) (fuel:=fuel) h (q:=3) (l:=v % 4) (y:=left*16+v / 4) (e1:=b0r 4 2) (e2:=.bin .BitAnd (.var 14) (.int 3)) h14 (fun _=>by kernel_rfl)
   ((shift 3 4 2 (by lia) (by decide)).trans (by rw [b4,c2])) hout (fun σ' h=>a0l (v14 σ' h) a0z (c7H (fun i=>some (D.int i)) b2)) (by kernel_rfl) (fun _=>by kernel_rfl)
  exact⟨σ',(a0U t0).trans ((a0d ((a0U t1).trans ((a0d ((a0U t2).trans e)).trans rfl))).trans rfl),A⟩
 ·have hl:=l3 rfl
  refine (b6 (by lia)).elim fun Z1 c3=>Z1.elim (fun _ _=>?_)
  have c3:=c3.resolve_left (by lia)
  obtain⟨σ',e,A⟩:=c2g (F:=F) (fuel:=fuel) h (q:=0) (l:=0) (y:=left*64+v) (e1:=.bin .BitOr (.bin .LShift (.var 11) (.int 6)) (.var 14)) (e2:=.int 0) h14 (fun _=>by kernel_rfl)
   (a0l (a0l (a0g (k11 _)) a0z (b9T (k:=6) (by lia) (by decide))) (a0g (k14 _)) (c7H (fun i=>some (D.int i)) c3)) hout (fun σ' h=>a0z) (by kernel_rfl) (fun _=>by kernel_rfl)
  exact⟨σ',(a0U t0).trans ((a0d ((a0U t1).trans ((a0d ((a0U t2).trans e)).trans rfl))).trans rfl),A⟩
end
end
section
section
variable {F:Fns}{fuel:Nat}{σ:Store}
theorem c4N {a b:Nat}:a6p .GtE (.int (b:Int)) (.int (a:Int))=some (decide (a≤b)):=c7H some (decide_eq_decide.mpr Int.ofNat_le)
theorem b2z {k:Nat}{d:D}{b:Bool}(h:σ.get k=some (.val d))(hd:a7s d=some b):evT F σ (.var k)=some b:=by show (σ.get k).bind _ = _;exact a0c h hd
theorem c4O {q:List PS}:∀ {p:List PS} {σ σ':Store},a0C F fuel σ p=some (.next σ')→a0C F fuel σ (p++q)=a0C F fuel σ' q:=fun {p}=>by
 induction p with
 | nil=>intro σ σ' h;cases (show some (Out.next σ) = _ from h);rfl
 | cons x p ih=>
  intro σ σ' h
  refine a0j (x:=evS F fuel σ x) h fun o h1 h2=>?_
  show (evS F fuel σ x).bind _ = _
  refine a0c h1 ?_
  cases o with
  | next σ₁=>exact ih h2
  | _=>cases h2
theorem b8Y {e:PE}{l:List Int}(h:evE F σ e=some (.list (l.map .int)))(hb:l.all (fun i=>decide (0≤i∧i<256))=true)(hl:l.length≤16777216):evE F σ (.bytesOf e)=some (.bytes (byteArr l)):=by
 show (evE F σ e).bind _ = _
 refine a0c h (a0c (a:=l.map .int) rfl (a0c (x:=(l.map D.int).mapM D.asInt) (a:=l) ?_ (a0n (c8N.mpr ⟨hb,a0T hl⟩))))
 exact (a1g (e:=D.int) (g:=id) fun _ _=>rfl).trans (by rw [List.map_id])
noncomputable def c7n:PS:=.ifs (.cmp .Eq (.var 14) (.int 61)) [(.asg 12 false (.bin .Add (.var 12) (.int 1))),(.ifs (.and (.cons (.cmp .GtE (.var 10) (.int 2)) (.cons (.cmp .LtE (.bin .Add (.var 10) (.var 12)) (.int 4)) .nil))) [(.asg 13 false (.bin .Add (.var 13) (.int 1))),.cont] []),(.ifs (.not (.var 7)) [(.asg 13 false (.bin .Add (.var 13) (.int 1))),.cont] []),(.ifs (.cmp .Eq (.var 10) (.int 1)) [.brk] []),(.ifs (.and (.cons (.cmp .Eq (.var 10) (.int 0)) (.cons (.cmp .Eq (.var 13) (.int 0)) .nil))) [.fail] []),.fail] []
noncomputable def c4P:PS:=.ifs (.cmp .GtE (.var 14) (.int 64)) [(.ifs (.var 7) [.fail] []),(.asg 13 false (.bin .Add (.var 13) (.int 1))),.cont] []
noncomputable def b6A:PS:=.ifs (.and (.cons (.var 12) (.cons (.var 7) .nil))) [(.ifs (.cmp .Eq (.bin .Add (.var 10) (.var 12)) (.int 4)) [.fail] []),.fail] []
noncomputable def c7o:PS:=.asg 13 false (.bin .Add (.var 13) (.int 1))
noncomputable def b6B:List PS:=[c7n,.asg 14 false (.call 15 (.cons (.var 14) .nil) .no),c4P,b6A,.asg 12 false (.int 0),aQ,c7o]
noncomputable def S6.take (s:S6)(c:Nat):S6:=if a4x c<64 then s.next (a4x c) else s
theorem c4Q {m:Nat}(hF:F=runG ids a0t fuel (m+1)){s:S6}{i:Int}(h:A64 σ s i)(ok:s.Ok){c:Nat}(hc:c<128)(h61:c≠61)(h14:σ.get 14=some (.val (.int (c:Int))))(hout:s.out.length≤100000) :
  ∃ σ',(a0C F fuel σ b6B=some (.next σ')∨a0C F fuel σ b6B=some (.cont σ'))∧A64 σ' (s.take c) (i+1):=by
 have t0:=b6z (F:=F) (b:=61) h14
 rw [c8s h61] at t0
 have s0:evS F fuel σ c7n=some (.next σ):=(a0U t0).trans rfl
 have r15:=c2e (fuel:=fuel) (m:=m) hc
 rw [← hF] at r15
 have s1:=a0u (F:=F) (fuel:=fuel) (k:=14) h.nm (by kernel_rfl) (by kernel_rfl) (a0L (F:=F) (f:=15) (a1G (a0p h14) (a0g h14)) r15)
 have A:=h.set (x:=14) (d:=.int (a4x c:Int)) rfl
 have k14:(σ.set 14 (.val (.int (a4x c:Int)))).get 14=some (.val (.int (a4x c:Int))):=a0m
 generalize σ.set 14 (.val (.int (a4x c:Int)))=σ₁ at *
 have t2:evT F σ₁ (.cmp .GtE (.var 14) (.int 64))=some (decide (64≤a4x c)):=by
  refine a0Y (a0g k14) a0z ?_
  exact c4N (a:=64)
 have inc:∀ {σ:Store} {s:S6},A64 σ s i→∃ σ',evS F fuel σ c7o=some (.next σ')∧A64 σ' s (i+1):=fun {σ s} A=>by
  refine⟨_,a0u A.nm (by kernel_rfl) (by kernel_rfl) (a0l (a0g A.g13) a0z rfl),A.nm.val,(a0a (by decide)).trans A.g7,(a0a (by decide)).trans A.g9,(a0a (by decide)).trans A.g10,(a0a (by decide)).trans A.g11,(a0a (by decide)).trans A.g12,a0m⟩
 have t7:∀ {σ:Store},σ.get 7=some (.val (.bool false))→evT F σ (.var 7)=some false:=fun h=>b2z h rfl
 by_cases hv:a4x c<64
 ·rw [c8s (by lia)] at t2
  have s2:evS F fuel σ₁ c4P=some (.next σ₁):=(a0U t2).trans rfl
  have t3:evT F σ₁ (.and (.cons (.var 12) (.cons (.var 7) .nil)))=some false:=by
   have:evT F σ₁ (.var 12)=some false:=b2z A.g12 rfl
   exact a7a (q:=false) this (fun h=>by cases h)
  have s3:evS F fuel σ₁ b6A=some (.next σ₁):=(a0U t3).trans rfl
  have s4:=a0u (F:=F) (fuel:=fuel) (k:=12) A.nm (by kernel_rfl) (by kernel_rfl) (a0z (i:=0))
  have A4:A64 (σ₁.set 12 (.val (.int 0))) s i:=⟨A.nm.val,(a0a (by decide)).trans A.g7,(a0a (by decide)).trans A.g9,(a0a (by decide)).trans A.g10,(a0a (by decide)).trans A.g11,a0m,(a0a (by decide)).trans A.g13⟩
  have k14':(σ₁.set 12 (.val (.int 0))).get 14 = _:=(a0a (by decide)).trans k14
  refine (c6O (F:=F) (fuel:=fuel) A4 ok hv k14' hout).elim fun σ₂ Z1=>Z1.elim (fun s5 A5=>?_)
  refine (inc A5).elim fun σ₃ Z1=>Z1.elim (fun s6 A6=>?_)
  refine⟨σ₃,.inl ((a0d s0).trans ((a0d s1).trans ((a0d s2).trans ((a0d s3).trans ((a0d s4).trans ((a0d s5).trans ((a0d s6).trans rfl))))))),?_⟩
  unfold S6.take
  rw [c7K hv]
  exact A6
 ·rw [c9c (by lia)] at t2
  refine (inc A).elim fun σ₃ Z1=>Z1.elim (fun s6 A6=>?_)
  refine⟨σ₃,.inr ((a0d s0).trans ((a0d s1).trans (a3J (o:=.cont σ₃) ((a0U t2).trans ((a0d ((a0U (t7 A.g7)).trans rfl)).trans ((a0d s6).trans rfl))) (fun _ h=>by cases h)))),?_⟩
  unfold S6.take
  rw [c7M hv]
  exact A6
theorem b8Z {s:S6}{c:Nat}:(s.take c).out.length≤s.out.length+1:=by
 obtain⟨q,left,out⟩:=s
 unfold S6.take
 split
 ·unfold S6.next
  simp only
  split <;> simp
 ·simp
theorem c2h {s:S6}(h:s.Ok){c:Nat}:(s.take c).Ok:=by
 unfold S6.take
 split
 ·exact h.next ‹_›
 ·exact h
noncomputable def a1T (l:List Nat):S6:=l.foldl S6.take ⟨0,0,[]⟩
theorem a7Y {l:List Nat}{c:Nat}:a1T (l++[c])=(a1T l).take c:=by simp [a1T]
theorem b2A (l:List Nat):(a1T l).Ok∧(a1T l).out.length≤l.length:=by
 refine a6k (P:=fun l=>(a1T l).Ok∧(a1T l).out.length≤l.length) ⟨⟨by decide,by simp [a1T],by simp [a1T]⟩,by simp [a1T]⟩ (fun r a ih=>?_) l
 rw [a7Y]
 refine⟨c2h ih.1,?_⟩
 have:=b8Z (s:=a1T r) (c:=a)
 rw [c8Y,c9A];lia
theorem c4R {m:Nat}(hF:F=runG ids a0t fuel (m+1)){l:List Nat}(hl:∀ c∈l,c<128∧c≠61)(hn:l.length≤100000){b:Array UInt8}(hb:b.toList.map (fun c=>D.int (c.toNat:Int))=l.map fun (c:Nat)=>D.int (c:Int)){i:Int}(h:A64 σ ⟨0,0,[]⟩ i)(h5:σ.get 5=some (.val (.bytes b))) :
  ∃ σ' i',evS F fuel σ (.for (.one 14) (.var 5) b6B)=some (.next σ')∧A64 σ' (a1T l) i':=by
 let body:Store→D→Option Out:=fun σ d=>(a1c σ (.one 14) d).bind fun σ'=>a0C F fuel σ' b6B
 obtain⟨σ',e,i',A⟩:=a1F (body:=body) (f:=fun (c:Nat)=>D.int (c:Int)) (all:=l) (σ:=σ) (fun done σ=>∃ i,A64 σ (a1T done) i) ⟨i,h⟩ fun done c rest σ hd ⟨i,A⟩=>by
  have hcm:c∈l:=by rw [← hd];simp
  have hdl:done.length≤l.length:=by rw [← hd];simp
  have hb:body σ (.int (c:Int))=a0C F fuel (σ.set 14 (.val (.int (c:Int)))) b6B:=by
   show ((a1c σ (.one 14) _).bind fun σ'=>a0C F fuel σ' _) = _
   rw [a1p A.nm];rfl
  rw [hb]
  refine (b2A done).elim fun ok ho=>?_
  refine (c4Q hF (A.set (x:=14) (d:=.int (c:Int)) rfl) ok (hl c hcm).1 (hl c hcm).2 a0m (by lia)).elim fun σ' Z1=>Z1.elim (fun e A'=>?_)
  exact⟨σ',e,i+1,by rw [a7Y];exact A'⟩
 refine⟨σ',i',a2A (a0p h5) (a1t h5 (c7H some hb)) e,A⟩
theorem c2i {m:Nat}{l:List Nat}(hl:∀ c∈l,c<128∧c≠61)(hn:l.length≤100000){b:Array UInt8}(hb:b.toList.map (fun c=>D.int (c.toNat:Int))=l.map fun (c:Nat)=>D.int (c:Int))(hq:(a1T l).q=0) :
  runG ids a0t fuel (m+2) 19 [.bytes b] (some (.bool false))=some (.bytes (byteArr ((a1T l).out.map fun (n:Nat)=>(n:Int)))):=by
 suffices h:a0C (runG ids a0t fuel (m+1)) fuel [(2,.val (.bytes b)),(7,.val (.bool false))] a1R=some (.ret (.bytes (byteArr ((a1T l).out.map fun (n:Nat)=>(n:Int))))) by
  exact b1t (ps:=a1R) (σ:=[(2,.val (.bytes b)),(7,.val (.bool false))]) rfl rfl rfl rfl rfl rfl h
 generalize hF:runG ids a0t fuel (m+1)=F
 have r6:=c2f (fuel:=fuel) (m:=m) (b:=b)
 have r8:=b6y (fuel:=fuel) (m:=m)
 rw [hF] at r6 r8
 have nm0:NM [(2,.val (.bytes b)),(7,.val (.bool false))]:=(NM.nil.cons (fun _=>by simp)).cons (fun _=>by simp)
 have s1:=a0u (F:=F) (fuel:=fuel) (k:=5) nm0 (by kernel_rfl) (by kernel_rfl) (a0L (F:=F) (f:=6) (args:=.cons (.var 2) .nil) (a1G (by kernel_rfl) (by kernel_rfl)) r6)
 have s2:=a0u (F:=F) (fuel:=fuel) (k:=7) (nm0.val (x:=5) (d:=.bytes b)) (by kernel_rfl) (by kernel_rfl) (a0L (F:=F) (f:=8) (args:=.cons (.var 7) .nil) (a1G (by kernel_rfl) (by kernel_rfl)) r8)
 have hst:(((Store.set [(2,.val (.bytes b)),(7,.val (.bool false))] 5 (.val (.bytes b))).set 7 (.val (.bool false))))=[(2,.val (.bytes b)),(7,.val (.bool false)),(5,.val (.bytes b))]:=by kernel_rfl
 rw [hst] at s2
 have mid:a0C F fuel [(2,.val (.bytes b)),(7,.val (.bool false)),(5,.val (.bytes b))] [.asg 9 true (.list .nil),.asg 10 false (.int 0),.asg 11 false (.int 0),.asg 12 false (.int 0),.asg 13 false (.int 0)] =
   some (.next [(2,.val (.bytes b)),(7,.val (.bool false)),(5,.val (.bytes b)),(9,.own []),(10,.val (.int 0)),(11,.val (.int 0)),(12,.val (.int 0)),(13,.val (.int 0))]):=by kernel_rfl
 obtain⟨σ',i',e,A⟩:=c4R hF.symm hl hn hb (σ:=[(2,.val (.bytes b)),(7,.val (.bool false)),(5,.val (.bytes b)),(9,.own []),(10,.val (.int 0)),(11,.val (.int 0)),(12,.val (.int 0)),(13,.val (.int 0))]) (i:=0)
  ⟨by intro p hp y;simp at hp;rcases hp with rfl | rfl | rfl | rfl | rfl | rfl | rfl | rfl <;> simp,by kernel_rfl,by kernel_rfl,by kernel_rfl,by kernel_rfl,by kernel_rfl,by kernel_rfl⟩ (by kernel_rfl)
 refine (b2A l).elim fun ok hol=>?_
 have t1:=b6z (F:=F) (b:=1) A.g10
 rw [hq] at t1
 have t0:evT F σ' (.cmp .NotEq (.var 10) (.int 0))=some false:=by
  refine a0Y (a0g A.g10) a0z ?_
  rw [hq];rfl
 have e1:evS F fuel σ' (.ifs (.cmp .Eq (.var 10) (.int 1)) [.fail] [])=some (.next σ'):=(a0U t1).trans rfl
 have e2:evS F fuel σ' (.ifs (.and (.cons (.cmp .NotEq (.var 10) (.int 0)) (.cons (.cmp .Lt (.bin .Add (.var 10) (.var 12)) (.int 4)) .nil))) [.fail] [])=some (.next σ'):=(a0U (a7a (q:=false) t0 (fun h=>by cases h))).trans rfl
 have f9:=a0Z A.g9 (s':=.val (.list ((a1T l).out.map fun (n:Nat)=>.int (n:Int)))) rfl
 have e3:a0C F fuel σ' [.ret (.bytesOf (.var 9))]=some (.ret (.bytes (byteArr ((a1T l).out.map fun (n:Nat)=>(n:Int))))):=by
  refine a2t (by kernel_rfl) ?_
  refine b8Y (l:=(a1T l).out.map fun (n:Nat)=>(n:Int)) (by rw [c8E];exact a0g f9) (c8k.mpr fun x hx=>?_) (by rw [c8u];lia)
  refine (c9n.mp hx).elim fun n Z1=>Z1.elim (fun hn Z2=>?_)
  subst Z2
  exact c9c ⟨c8t n,Int.ofNat_lt.mpr (ok.out n hn)⟩
 refine (a0d s1).trans ((a0d s2).trans ?_)
 refine (c4O (p:=[.asg 9 true (.list .nil),.asg 10 false (.int 0),.asg 11 false (.int 0),.asg 12 false (.int 0),.asg 13 false (.int 0)]) mid).trans ?_
 exact (a0d e).trans ((a0d e1).trans ((a0d e2).trans e3))
end
end
section
theorem b6C {fuel m:Nat}{x:Str}{g:Bool}(h1:x.cps.all (·<128)=true)(h2:x.length≤16777216):runG ids a0t fuel (m+1) 16 [.str x g] none=some (.bytes (a2N x)):=by
 refine a2c (df:=⟨16,[0],[],[],a1x⟩) rfl (by decide) (by decide) rfl rfl rfl ?_
 generalize runG ids a0t fuel m=F
 show a0C F fuel [(0,.val (.str x g))] [.ifs (.isStr (.var 0)) [.try [.ret (.encode (.var 0))]] [],.fail] = _
 have t:evT F [(0,.val (.str x g))] (.isStr (.var 0))=some true:=by kernel_rfl
 have e:a0C F fuel [(0,.val (.str x g))] [.ret (.encode (.var 0))]=some (.ret (.bytes (a2N x))):=by
  refine a2t (by kernel_rfl) ?_
  have hf:freezeAll [(0,.val (.str x g))]=[(0,.val (.str x g))]:=by kernel_rfl
  rw [hf]
  have v:evE F [(0,.val (.str x g))] (.var 0)=some (.str x g):=by kernel_rfl
  show (evE F _ (.var 0)).bind _ = _
  exact a0c v (a0c (a:=x) rfl (a0n (c8N.mpr ⟨h1,a0T h2⟩)))
 have e2:evS F fuel [(0,.val (.str x g))] (.try [.ret (.encode (.var 0))])=some (.ret (.bytes (a2N x))):=by show (a0C _ _ _ _).bind _ = _;exact a0c e rfl
 exact a3J ((a0U t).trans (a3J e2 (fun _ h=>by cases h))) (fun _ h=>by cases h)
noncomputable def trN (m1 m2 k:Nat):Nat:=if m2=k then 47 else if m1=k then 43 else k
theorem b9a {l:List Nat}{m1 m2:Nat}(h1:m1<128)(h2:m2<128)(hl:∀ c∈l,c<128) :
  (a4a (l.map UInt8.ofNat) [UInt8.ofNat m1,UInt8.ofNat m2] [43,47]).map (fun c=>D.int (c.toNat:Int))=(l.map (trN m1 m2)).map fun (c:Nat)=>D.int (c:Int):=by
 unfold a4a
 rw [c8E,c8E,c8E]
 refine c9o fun c hc=>?_
 have hc:=hl c hc
 have inj:∀ a b:Nat,a<128→b<128→(UInt8.ofNat a=UInt8.ofNat b↔a=b):=fun a b ha hb=>by
  constructor
  ·intro e
   have:=c7H UInt8.toNat e
   simp at this
   lia
  ·rintro rfl;rfl
 simp only [Function.comp,List.zip_cons_cons,List.zip_nil_right,c9h,List.foldl_nil,inj m1 c h1 hc,inj m2 c h2 hc]
 unfold trN
 by_cases q2:m2=c
 ·rw [c7K q2,c7K q2];rfl
 ·rw [c7M q2,c7M q2]
  by_cases q1:m1=c
  ·rw [c7K q1,c7K q1];rfl
  ·rw [c7M q1,c7M q1]
   congr 2
   simp
   lia
theorem b3M {fuel m:Nat}{l:List Nat}{g g2:Bool}{m1 m2:Nat}(h1:m1<128)(h2:m2<128)(hl:∀ c∈l,c<128∧trN m1 m2 c≠61)(hn:l.length≤100000)(hq:(a1T (l.map (trN m1 m2))).q=0) :
  runG ids a0t fuel (m+3) 59 [.str ⟨l.toArray⟩ g,.str ⟨#[m1,m2]⟩ g2] none=some (.bytes (byteArr ((a1T (l.map (trN m1 m2))).out.map fun (n:Nat)=>(n:Int)))):=by
 suffices h:a0C (runG ids a0t fuel (m+2)) fuel [(0,.val (.str ⟨l.toArray⟩ g)),(17,.val (.str ⟨#[m1,m2]⟩ g2)),(18,.val (.bool false))] a2p=some (.ret (.bytes (byteArr ((a1T (l.map (trN m1 m2))).out.map fun (n:Nat)=>(n:Int))))) by
  exact b1t (ps:=a2p) (σ:=[(0,.val (.str ⟨l.toArray⟩ g)),(17,.val (.str ⟨#[m1,m2]⟩ g2)),(18,.val (.bool false))]) rfl rfl rfl rfl rfl rfl h
 have r1:=b6C (fuel:=fuel) (m:=m+1) (x:=⟨l.toArray⟩) (g:=g) (by simp;intro x hx;exact (hl x hx).1) (by rw [a2I];lia)
 have r2:=b6C (fuel:=fuel) (m:=m+1) (x:=⟨#[m1,m2]⟩) (g:=g2) (by simp [h1,h2]) (by simp [Str.length])
 have htr:∀ c,c<128→trN m1 m2 c<128:=fun c hc=>by unfold trN;split;lia;split <;> lia
 have r3:=c2i (fuel:=fuel) (m:=m) (l:=l.map (trN m1 m2)) (b:=(a4a (l.map UInt8.ofNat) [UInt8.ofNat m1,UInt8.ofNat m2] [43,47]).toArray) (fun c hc=>by
  refine (c9n.mp hc).elim fun k Z1=>Z1.elim (fun hk Z2=>?_)
  subst Z2
  exact⟨htr k (hl k hk).1,(hl k hk).2⟩) (by simpa using hn) (b9a h1 h2 fun c hc=>(hl c hc).1) hq
 generalize hB:byteArr ((a1T (l.map (trN m1 m2))).out.map fun (n:Nat)=>(n:Int))=B at *
 generalize runG ids a0t fuel (m+2)=F at *
 have a1:a2N ⟨l.toArray⟩=(l.map UInt8.ofNat).toArray:=rfl
 have a2:a2N ⟨#[m1,m2]⟩=#[UInt8.ofNat m1,UInt8.ofNat m2]:=rfl
 rw [a1] at r1
 rw [a2] at r2
 have hL8:(l.map UInt8.ofNat).length≤100000:=by rw [c8u];exact hn
 generalize (l.map UInt8.ofNat)=L8 at *
 have nm0:NM [(0,.val (.str ⟨l.toArray⟩ g)),(17,.val (.str ⟨#[m1,m2]⟩ g2)),(18,.val (.bool false))]:=((NM.nil.cons (fun _=>by simp)).cons (fun _=>by simp)).cons (fun _=>by simp)
 have s1:=a0u (F:=F) (fuel:=fuel) (k:=0) nm0 (by kernel_rfl) (by kernel_rfl) (a0L (F:=F) (f:=16) (args:=.cons (.var 0) .nil) (a1G (by kernel_rfl) (by kernel_rfl)) r1)
 have st1:Store.set [(0,.val (.str ⟨l.toArray⟩ g)),(17,.val (.str ⟨#[m1,m2]⟩ g2)),(18,.val (.bool false))] 0 (.val (.bytes L8.toArray))=[(0,.val (.bytes L8.toArray)),(17,.val (.str ⟨#[m1,m2]⟩ g2)),(18,.val (.bool false))]:=by kernel_rfl
 rw [st1] at s1
 have nm1:NM [(0,.val (.bytes L8.toArray)),(17,.val (.str ⟨#[m1,m2]⟩ g2)),(18,.val (.bool false))]:=((NM.nil.cons (fun _=>by simp)).cons (fun _=>by simp)).cons (fun _=>by simp)
 have t:evT F [(0,.val (.bytes L8.toArray)),(17,.val (.str ⟨#[m1,m2]⟩ g2)),(18,.val (.bool false))] (.cmp .IsNot (.var 17) .none)=some true:=by kernel_rfl
 have s2:=a0u (F:=F) (fuel:=fuel) (k:=17) nm1 (by kernel_rfl) (by kernel_rfl) (a0L (F:=F) (f:=16) (args:=.cons (.var 17) .nil) (a1G (by kernel_rfl) (by kernel_rfl)) r2)
 have st2:Store.set [(0,.val (.bytes L8.toArray)),(17,.val (.str ⟨#[m1,m2]⟩ g2)),(18,.val (.bool false))] 17 (.val (.bytes #[UInt8.ofNat m1,UInt8.ofNat m2]))=[(0,.val (.bytes L8.toArray)),(17,.val (.bytes #[UInt8.ofNat m1,UInt8.ofNat m2])),(18,.val (.bool false))]:=by kernel_rfl
 rw [st2] at s2
 have nm2:NM [(0,.val (.bytes L8.toArray)),(17,.val (.bytes #[UInt8.ofNat m1,UInt8.ofNat m2])),(18,.val (.bool false))]:=((NM.nil.cons (fun _=>by simp)).cons (fun _=>by simp)).cons (fun _=>by simp)
 have s3:evS F fuel [(0,.val (.bytes L8.toArray)),(17,.val (.bytes #[UInt8.ofNat m1,UInt8.ofNat m2])),(18,.val (.bool false))] (.assert (.cmp .Eq (.len (.var 17)) (.int 2)))=some (.next [(0,.val (.bytes L8.toArray)),(17,.val (.bytes #[UInt8.ofNat m1,UInt8.ofNat m2])),(18,.val (.bool false))]):=by kernel_rfl
 have e4:evE F [(0,.val (.bytes L8.toArray)),(17,.val (.bytes #[UInt8.ofNat m1,UInt8.ofNat m2])),(18,.val (.bool false))] (.btranslate (.var 0) (.var 17) (.bytes [43,47]))=some (.bytes (a4a L8 [UInt8.ofNat m1,UInt8.ofNat m2] [43,47]).toArray):=by
  have v0:evE F [(0,.val (.bytes L8.toArray)),(17,.val (.bytes #[UInt8.ofNat m1,UInt8.ofNat m2])),(18,.val (.bool false))] (.var 0)=some (.bytes L8.toArray):=by kernel_rfl
  have v17:evE F [(0,.val (.bytes L8.toArray)),(17,.val (.bytes #[UInt8.ofNat m1,UInt8.ofNat m2])),(18,.val (.bool false))] (.var 17)=some (.bytes #[UInt8.ofNat m1,UInt8.ofNat m2]):=by kernel_rfl
  show (evE F _ (.var 0)).bind _ = _
  exact a0c v0 (a0c v17 (a0c (a:=.bytes #[43,47]) rfl (a0c (a:=L8.toArray) rfl (a0c (a:=#[UInt8.ofNat m1,UInt8.ofNat m2]) rfl (a0c (a:=#[43,47]) rfl (a0n (c8N.mpr ⟨rfl,a0T (show L8.length≤16777216 from c7O hL8 (by decide))⟩)))))))
 have s4:=a0u (F:=F) (fuel:=fuel) (k:=0) nm2 (by kernel_rfl) (by kernel_rfl) e4
 have st4:Store.set [(0,.val (.bytes L8.toArray)),(17,.val (.bytes #[UInt8.ofNat m1,UInt8.ofNat m2])),(18,.val (.bool false))] 0 (.val (.bytes (a4a L8 [UInt8.ofNat m1,UInt8.ofNat m2] [43,47]).toArray))=[(0,.val (.bytes (a4a L8 [UInt8.ofNat m1,UInt8.ofNat m2] [43,47]).toArray)),(17,.val (.bytes #[UInt8.ofNat m1,UInt8.ofNat m2])),(18,.val (.bool false))]:=by kernel_rfl
 rw [st4] at s4
 generalize (a4a L8 [UInt8.ofNat m1,UInt8.ofNat m2] [43,47]).toArray=TB at *
 refine (a0d s1).trans ((a0d ((a0U t).trans ((a0d s2).trans ((a0d s3).trans ((a0d s4).trans rfl))))).trans ?_)
 refine a2t (by kernel_rfl) ?_
 have hf:freezeAll [(0,.val (.bytes TB)),(17,.val (.bytes #[UInt8.ofNat m1,UInt8.ofNat m2])),(18,.val (.bool false))]=[(0,.val (.bytes TB)),(17,.val (.bytes #[UInt8.ofNat m1,UInt8.ofNat m2])),(18,.val (.bool false))]:=by kernel_rfl
 rw [hf]
 have v0:a3i F [(0,.val (.bytes TB)),(17,.val (.bytes #[UInt8.ofNat m1,UInt8.ofNat m2])),(18,.val (.bool false))] (.cons (.var 0) .nil)=some [.bytes TB]:=by kernel_rfl
 have v18:evK F [(0,.val (.bytes TB)),(17,.val (.bytes #[UInt8.ofNat m1,UInt8.ofNat m2])),(18,.val (.bool false))] (.yes (.var 18))=some (some (.bool false)):=by kernel_rfl
 show (a3i F _ _).bind _ = _
 exact a0c v0 (a0c v18 r3)
end
section
noncomputable def c6P (r:Rdr)(k:Nat):List Nat:=(b3K r.way k).map (trN r.m1 r.m2)
noncomputable def a2J (r:Rdr)(k:Nat):List Nat:=((c6P r k).map a4x).filter (·<64)
noncomputable def pfx:List Nat→List Nat→Bool
 | [],_=>true
 | _ :: _,[]=>false
 | a :: r,b :: q=>a==b&&pfx r q
noncomputable def b6D (r:Rdr):Bool:=
 (c2c.all fun k=>(c6P r k).all fun c=>decide (c<128)&&c != 61)&&a2J r 65==[0]&&(a1S.all fun k=>(a2J r k).length==b2w r k) &&
 (let cs:=a1S.map fun k=>(k,a2J r k)
  cs.all fun p=>p.2.isEmpty||cs.all fun q=>p.1==q.1||q.2.isEmpty||!(pfx p.2 q.2))
theorem c2j:((List.range 5).all fun w=>a3m.all fun m1=>a3m.all fun m2=>b6D ⟨w,m1,m2⟩)=true:=by decide +kernel
theorem c2k {r:Rdr}(h:r.Ok):b6D r=true:=
 c8k.mp (c8k.mp (c8k.mp c2j r.way (c8l.mpr h.way)) r.m1 h.m1) r.m2 h.m2
structure CodeFacts (r:Rdr):Prop where
 ok:∀ k∈c2c,∀ c∈c6P r k,c<128∧c≠61
 pad:a2J r 65=[0]
 len:∀ k∈a1S,(a2J r k).length=b2w r k
 free:∀ a∈a1S,∀ b∈a1S,a≠b→0<b2w r a→0<b2w r b→pfx (a2J r a) (a2J r b)=false
theorem a2k {r:Rdr}(h:r.Ok):CodeFacts r:=by
 have hc:=c2k h
 unfold b6D at hc
 simp only [c7S,c8k,c9i,bne_iff_ne,c7L] at hc
 obtain⟨⟨⟨h1,h2⟩,h3⟩,h4⟩:=hc
 refine⟨h1,h2,h3,fun a ha b hb hne la lb=>?_⟩
 have h5:=h4 (a,a2J r a) (c9n.mpr ⟨a,ha,rfl⟩)
 rw [Bool.or_eq_true] at h5
 have ea:(a2J r a).isEmpty=false:=by
  have:=h3 a ha
  cases hq:a2J r a with
  | nil=>rw [hq] at this;simp at this;lia
  | cons _ _=>rfl
 rcases h5 with h5 | h5
 ·simp only [ea] at h5;cases h5
 ·rw [c8k] at h5
  have h6:=h5 (b,a2J r b) (c9n.mpr ⟨b,hb,rfl⟩)
  have eb:(a2J r b).isEmpty=false:=by
   have:=h3 b hb
   cases hq:a2J r b with
   | nil=>rw [hq] at this;simp at this;lia
   | cons _ _=>rfl
  simp only [eb,Bool.or_false,Bool.or_eq_true,c7L,Bool.not_eq_true'] at h6
  rcases h6 with h6 | h6
  ·exact absurd h6 hne
  ·exact h6
theorem b9b {r:Rdr}{k v:Nat}(h:v∈a2J r k):v<64:=by
 have:=(c9u.mp h).2
 simpa using this
noncomputable def a3n:List Nat→List Nat
 | a :: b :: c :: d :: r=>(a*4+b / 16) :: ((b % 16)*16+c / 4) :: ((c % 4)*64+d) :: a3n r
 | _=>[]
theorem b0s:∀ (n:Nat) (vs:List Nat) (out:List Nat),vs.length=4*n→vs.foldl S6.next ⟨0,0,out⟩=⟨0,0,out++a3n vs⟩
 | 0,vs,out,h=>by
  obtain rfl:vs=[]:=c9s.mp h
  simp [a3n]
 | n+1,vs,out,h=>by
  match vs,h with
  | a :: b :: c :: d :: r,h=>
   have ih:=b0s n r (out++[a*4+b / 16]++[(b % 16)*16+c / 4]++[(c % 4)*64+d]) (by simp at h;lia)
   simp only [c9h,S6.next]
   rw [ih]
   simp [a3n]
  | [],h=>simp at h
  | [_],h=>simp at h;lia
  | [_,_],h=>simp at h;lia
  | [_,_,_],h=>simp at h;lia
theorem b3N (l:List Nat):a1T l=((l.map a4x).filter (·<64)).foldl S6.next ⟨0,0,[]⟩:=by
 unfold a1T
 generalize (⟨0,0,[]⟩:S6)=s
 induction l generalizing s with
 | nil=>rfl
 | cons c l ih=>
  rw [c9h,c9g,c9q,ih]
  unfold S6.take
  by_cases h:a4x c<64
  ·rw [c7K h,c7K (by simpa using h),c9h]
  ·rw [c7M h,c7M (by simpa using h)]
theorem a7e:∀ (n:Nat) (a b:List Nat),a.length=4*n→a3n (a++b)=a3n a++a3n b
 | 0,a,b,h=>by
  obtain rfl:a=[]:=c9s.mp h
  simp [a3n]
 | n+1,vs,e,h=>by
  match vs,h with
  | a :: b :: c :: d :: r,h=>
   have ih:=a7e n r e (by simp at h;lia)
   simp only [List.cons_append,a3n,ih]
  | [],h=>simp at h
  | [_],h=>simp at h;lia
  | [_,_],h=>simp at h;lia
  | [_,_,_],h=>simp at h;lia
theorem a5i:∀ (n:Nat) (a:List Nat),a.length=4*n→(a3n a).length=3*n
 | 0,a,h=>by
  obtain rfl:a=[]:=c9s.mp h
  simp [a3n]
 | n+1,vs,h=>by
  match vs,h with
  | a :: b :: c :: d :: r,h=>
   have ih:=a5i n r (by simp at h;lia)
   simp only [a3n,c8x,ih];lia
  | [],h=>simp at h
  | [_],h=>simp at h;lia
  | [_,_],h=>simp at h;lia
  | [_,_,_],h=>simp at h;lia
theorem b2B:∀ (n:Nat) (a b:List Nat),a.length=4*n→b.length=4*n→(∀ x∈a,x<64)→(∀ x∈b,x<64)→a3n a=a3n b→a=b
 | 0,a,b,h,h',_,_,_=>by rw [c9s.mp h,c9s.mp h']
 | n+1,vs,ws,h,h',l1,l2,e=>by
  match vs,ws,h,h' with
  | a :: b :: c :: d :: r,a' :: b' :: c' :: d' :: r',h,h'=>
   simp only [a3n,List.cons.injEq] at e
   obtain⟨e1,e2,e3,e4⟩:=e
   have ha:=l1 a (by simp);have hb:=l1 b (by simp);have hc:=l1 c (by simp);have hd:=l1 d (by simp)
   have ha':=l2 a' (by simp);have hb':=l2 b' (by simp);have hc':=l2 c' (by simp);have hd':=l2 d' (by simp)
   have ih:=b2B n r r' (by simp at h;lia) (by simp at h';lia) (fun x hx=>l1 x (by simp [hx])) (fun x hx=>l2 x (by simp [hx])) e4
   obtain rfl:a=a':=by lia
   obtain rfl:b=b':=by lia
   obtain rfl:c=c':=by lia
   obtain rfl:d=d':=by lia
   rw [ih]
  | [],_,h,_=>simp at h
  | [_],_,h,_=>simp at h;lia
  | [_,_],_,h,_=>simp at h;lia
  | [_,_,_],_,h,_=>simp at h;lia
  | _,[],_,h=>simp at h
  | _,[_],_,h=>simp at h;lia
  | _,[_,_],_,h=>simp at h;lia
  | _,[_,_,_],_,h=>simp at h;lia
theorem b9c:∀ a:List Nat,pfx a a=true
 | []=>rfl
 | x :: r=>by simp [pfx,b9c r]
theorem b9U:∀ {a b u v:List Nat},a++u=b++v→pfx a b=true∨pfx b a=true
 | [],b,_,_,_=>.inl rfl
 | x :: a,[],_,_,_=>.inr rfl
 | x :: a,y :: b,u,v,h=>by
  simp at h
  rcases b9U h.2 with q | q
  ·left;simp [pfx,h.1,q]
  ·right;simp [pfx,h.1,q]
theorem b0t {c:Nat→List Nat}{S:Nat→Prop}(hne:∀ i,S i→c i≠[])(hfree:∀ i j,S i→S j→i≠j→pfx (c i) (c j)=false):∀ {u v:List Nat},(∀ i∈u,S i)→(∀ i∈v,S i)→u.flatMap c=v.flatMap c→u=v
 | [],[],_,_,_=>rfl
 | [],j :: v,_,h2,h=>by
  rw [c9B] at h
  exact absurd (List.append_eq_nil_iff.mp h.symm).1 (hne j (h2 j (.head _)))
 | i :: u,[],h1,_,h=>by
  rw [c9B] at h
  exact absurd (List.append_eq_nil_iff.mp h).1 (hne i (h1 i (.head _)))
 | i :: u,j :: v,h1,h2,h=>by
  rw [c9B,c9B] at h
  have:i=j:=by
   by_cases e:i=j
   ·exact e
   ·rcases b9U h with q | q
    ·rw [hfree i j (h1 i (.head _)) (h2 j (.head _)) e] at q;cases q
    ·rw [hfree j i (h2 j (.head _)) (h1 i (.head _)) fun q=>e q.symm] at q;cases q
  subst this
  rw [b0t hne hfree (fun k hk=>h1 k (.tail _ hk)) (fun k hk=>h2 k (.tail _ hk)) (List.append_cancel_left h)]
end
section
open LA (nl a0F a0o perms)
theorem a2U {t:List Nat}(h:t∈perms):t.Perm [0,1,2,3]:=by
 have:=c8k.mp (by decide +kernel:(perms.all fun t=>t.isPerm [0,1,2,3])=true) t h
 exact List.isPerm_iff.mp this
noncomputable def b0u (sig:Nat→Nat)(r:Rdr):Nat:=b2w r (sig 0)+b2w r (sig 1)+b2w r (sig 2)+b2w r (sig 3)
noncomputable def padN (sig:Nat→Nat)(r:Rdr):Nat:=(4 - b0u sig r % 4) % 4
noncomputable def a1q (sig:Nat→Nat)(r:Rdr):Nat:=(b0u sig r+padN sig r) / 4
theorem a7f (r:Rdr)(c:Nat):b2w r c≤4:=by unfold b2w;split;split;lia;split <;> lia;split <;> lia
theorem b1C (sig:Nat→Nat)(r:Rdr):b0u sig r≤16:=Nat.add_le_add (Nat.add_le_add (Nat.add_le_add (a7f r _) (a7f r _)) (a7f r _)) (a7f r _)
theorem c2l:((List.range 17).all fun n=>(n+(4 - n % 4) % 4==4*((n+(4 - n % 4) % 4) / 4)&&Nat.blt ((4 - n % 4) % 4) 4)&&(-(n:Int)).fmod 4==(((4 - n % 4) % 4:Nat):Int))=true:=by kernel_rfl
theorem b6E (sig:Nat→Nat)(r:Rdr):(((b0u sig r+padN sig r==4*a1q sig r)&&Nat.blt (padN sig r) 4)&&(-(b0u sig r:Int)).fmod 4==(padN sig r:Int))=true:=c8k.mp c2l (b0u sig r) (c8l.mpr (Nat.lt_succ_of_le (b1C sig r)))
theorem a6m (sig:Nat→Nat)(r:Rdr):b0u sig r+padN sig r=4*a1q sig r∧padN sig r<4:=⟨c8d (a0i (a0i (b6E sig r)).1).1,c7U (a0i (a0i (b6E sig r)).1).2⟩
noncomputable def Vt (sig:Nat→Nat)(r:Rdr)(t:List Nat):List Nat:=(t.flatMap fun j=>a2J r (sig j))++List.replicate (padN sig r) 0
theorem b2C {c:Nat→List Nat}:∀ {t:List Nat},(t.flatMap c).length=(t.map fun j=>(c j).length).sum
 | []=>rfl
 | a :: t=>by rw [c9B,c8Y,c9g,c8y,b2C]
theorem a7Z {sig:Nat→Nat}(hS:SigOk sig){r:Rdr}(C:CodeFacts r){t:List Nat}(h:t∈perms):(Vt sig r t).length=4*a1q sig r:=by
 unfold Vt
 rw [c8Y,List.length_replicate,b2C,← (a6m sig r).1]
 congr 1
 have:=((a2U h).map fun j=>(a2J r (sig j)).length).sum_nat
 rw [this]
 simp only [c9g,List.map_nil,c8y,List.sum_nil]
 rw [C.len _ (hS.mem 0 (by decide)),C.len _ (hS.mem 1 (by decide)),C.len _ (hS.mem 2 (by decide)),C.len _ (hS.mem 3 (by decide))]
 unfold b0u;lia
theorem c2m {sig:Nat→Nat}{r:Rdr}{t:List Nat}:∀ v∈Vt sig r t,v<64:=fun v hv=>by
 unfold Vt at hv
 rcases c8P.mp hv with hv | hv
 ·refine (List.mem_flatMap.mp hv).elim fun j Z1=>Z1.elim (fun _ hj=>?_)
  exact b9b hj
 ·have:=List.eq_of_mem_replicate hv;lia
noncomputable def a5B (sig:Nat→Nat)(p:Nat):List Nat:=perms.flatMap fun t=>t.map sig++List.replicate p 65
theorem a5C {sig:Nat→Nat}(hS:SigOk sig){p:Nat}:∀ k∈a5B sig p,k∈c2c:=fun k hk=>by
 refine (List.mem_flatMap.mp hk).elim fun t Z1=>Z1.elim (fun ht hk=>?_)
 rcases c8P.mp hk with hk | hk
 ·refine (c9n.mp hk).elim fun j Z1=>Z1.elim (fun hj Z2=>?_)
  subst Z2
  have:j<4:=by
   have:=(a2U ht).mem_iff.mp hj
   simp at this;lia
  exact c8O _ (hS.mem j this)
 ·rw [List.eq_of_mem_replicate hk];exact .head _
theorem a0y:perms.length=24:=by decide +kernel
theorem b0v {sig:Nat→Nat}{p:Nat}(hp:p<4):(a5B sig p).length≤168:=by
 have:=a2h (l:=perms) (f:=fun t=>t.map sig++List.replicate p 65) (k:=7) fun t ht=>by
  rw [c8Y,c8u,List.length_replicate,(a2U ht).length_eq];simp;lia
 rw [a0y] at this
 exact this
theorem b3O {sig:Nat→Nat}{r:Rdr}(C:CodeFacts r):((((a5B sig (padN sig r)).flatMap (b3K r.way)).map (trN r.m1 r.m2)).map a4x).filter (·<64)=perms.flatMap (Vt sig r):=by
 have h1:∀ l:List Nat,(((l.flatMap (b3K r.way)).map (trN r.m1 r.m2)).map a4x).filter (·<64)=l.flatMap (a2J r):=fun l=>by
  induction l with
  | nil=>rfl
  | cons a l ih=>rw [c9B,c9z,c9z,List.filter_append,ih,c9B];rfl
 rw [h1]
 unfold a5B Vt
 rw [List.flatMap_assoc]
 congr 1
 funext t
 rw [c9C]
 congr 1
 ·rw [List.flatMap_map]
 ·generalize padN sig r=p
  induction p with
  | zero=>rfl
  | succ p ih=>rw [List.replicate_succ,List.replicate_succ,c9B,ih,C.pad];rfl
theorem b0w {sig:Nat→Nat}(hS:SigOk sig){r:Rdr}(C:CodeFacts r):∀ {ts:List (List Nat)},(∀ t∈ts,t∈perms)→a3n (ts.flatMap (Vt sig r))=ts.flatMap (fun t=>a3n (Vt sig r t))∧(ts.flatMap (Vt sig r)).length=4*(ts.length*a1q sig r)
 | [],_=>by simp [a3n]
 | t :: ts,h=>by
  refine (b0w hS C (ts:=ts) fun x hx=>h x (.tail _ hx)).elim fun h1 h2=>?_
  have hl:=a7Z hS C (h t (.head _))
  rw [c9B,c9B,a7e _ _ _ hl,h1,c8Y,hl,h2,c8x]
  refine⟨rfl,?_⟩
  rw [← Nat.mul_add,Nat.add_mul,Nat.one_mul,Nat.add_comm]
theorem b6F {sig:Nat→Nat}(hS:SigOk sig){r:Rdr}(C:CodeFacts r):a1T (((a5B sig (padN sig r)).flatMap (b3K r.way)).map (trN r.m1 r.m2))=⟨0,0,perms.flatMap fun t=>a3n (Vt sig r t)⟩:=by
 refine (b0w hS C (ts:=perms) fun t h=>h).elim fun h1 h2=>?_
 rw [b3N,b3O C,b0s _ _ _ h2,h1]
 rfl
noncomputable def b3P (sig:Nat→Nat)(r:Rdr):Array UInt8:=byteArr ((perms.flatMap fun t=>a3n (Vt sig r t)).map fun (n:Nat)=>(n:Int))
theorem b3Q {fuel m:Nat}{sig:Nat→Nat}(hS:SigOk sig){r:Rdr}(hr:r.Ok){g g2:Bool}:∃ x,runG ids a0t fuel (m+3) 60 [.int (r.way:Int),.str ⟨(a5B sig (padN sig r)).toArray⟩ g] none=some x∧runG ids a0t fuel (m+3) 59 [x,.str ⟨#[r.m1,r.m2]⟩ g2] none=some (.bytes (b3P sig r)):=by
 have C:=a2k hr
 have hp:=(a6m sig r).2
 have hsl:=b0v (sig:=sig) hp
 refine (b1B (fuel:=fuel) (m:=m+1) (g:=g) hr.way (by lia) (a5C hS (p:=padN sig r))).elim fun g' e=>?_
 refine⟨_,e,?_⟩
 have hm:∀ x∈a3m,x<128:=by decide
 have hrun:=b6F hS C
 have hok:∀ c∈(a5B sig (padN sig r)).flatMap (b3K r.way),c<128∧trN r.m1 r.m2 c≠61:=fun c hc=>by
  refine (List.mem_flatMap.mp hc).elim fun k Z1=>Z1.elim (fun hk hc=>?_)
  refine (C.ok k (a5C hS k hk) (trN r.m1 r.m2 c) (c9n.mpr ⟨c,hc,rfl⟩)).elim fun q1 q2=>?_
  refine⟨?_,q2⟩
  unfold trN at q1
  split at q1
  ·rename_i h;have:=hm _ hr.m2;lia
  ·split at q1
   ·rename_i h;have:=hm _ hr.m1;lia
   ·exact q1
 have hlen:((a5B sig (padN sig r)).flatMap (b3K r.way)).length≤100000:=by
  have hc:=c8k.mp b6x r.way (c8l.mpr hr.way)
  simp only [c7S,c8k,c9i] at hc
  have:=a2h (l:=a5B sig (padN sig r)) (f:=b3K r.way) (k:=6) fun k hk=>by
   have:=hc.2 (a2C.getD r.way []).length (c8l.mpr (by lia)) k (a5C hS k hk)
   rw [List.take_length] at this
   exact this
  lia
 have d:=b3M (fuel:=fuel) (m:=m) (g:=g') (g2:=g2) (hm _ hr.m1) (hm _ hr.m2) hok hlen (by rw [hrun])
 rw [hrun] at d
 exact d
end
section
open LA (nl a0F a0o perms)
section
variable {F:Fns}{fuel:Nat}{σ σ₀:Store}{x:D}{ea eb:PE}
theorem c4S {l:List Int}(h:evE F σ ea=some (.list (l.map .int)))(h1:l.length≤1000)(h2:∀ i∈l,i.natAbs<2 ^ 40):evE F σ (.sum ea)=some (.int l.sum):=by
 show (evE F σ ea).bind _ = _
 refine a0c h (a0c (a:=l.map .int) rfl (a0c (x:=(l.map D.int).mapM D.asInt) (a:=l) ((a1g (e:=D.int) (g:=id) fun _ _=>rfl).trans (by rw [List.map_id])) (a0n (c8N.mpr ⟨c9c h1,c8k.mpr fun i hi=>c9c (h2 i hi)⟩))))
theorem b6G {x:Str}{g:Bool}{l:List D}{p:List Str}(h1:evE F σ ea=some (.str x g))(h2:evE F σ eb=some (.list l))(h3:l.mapM D.asStr=some p)(h4:JoinOk x p=true):evE F σ (.join ea eb)=some (.str (Txt.join x p)):=by
 show (evE F σ ea).bind _ = _
 exact a0c h1 (a0c h2 (a0c (a:=x) rfl (a0c (a:=l) rfl (a0c h3 (a0n h4)))))
theorem b9V {i:Int}(h:evE F σ ea=some (.int i)):evE F σ (.neg ea)=some (.int (-i)):=by show (evE F σ ea).bind _ = _;exact a0c h rfl
theorem a5j {a b c:Nat}{p q r:D}(ha:σ.get a=some (.val p))(hb:σ.get b=some (.val q))(hc:σ.get c=some (.val r)):a0S σ [a,b,c]=some [(a,.val p),(b,.val q),(c,.val r)]:=a3d ha nofun (a3N hb hc nofun nofun)
end
noncomputable def a1d (l:List Nat):Array UInt8:=byteArr (l.map fun (n:Nat)=>(n:Int))
theorem a3f (l:List Nat):(a1d l).toList=l.map fun n=>n.toUInt8:=by
 unfold a1d byteArr
 rw [c8E]
 rfl
theorem a9d (a b:List Nat):a1d a++a1d b=a1d (a++b):=by
 unfold a1d byteArr
 rw [c9z,c9z,List.append_toArray]
theorem a4y (l:List Nat):(a1d l).size=l.length:=by simp [a1d,byteArr]
theorem c4T {α β:Type}{f:α→List β}{s:Nat}(d:α):∀ {ts:List α} {k:Nat},(∀ t∈ts,(f t).length=s)→k<ts.length→((ts.flatMap f).drop (k*s)).take s=f (ts.getD k d)
 | [],_,_,h=>by simp at h
 | t :: ts,0,h,_=>by
  rw [c9B,Nat.zero_mul,List.drop_zero,List.take_append_of_le_length (by rw [h t (.head _)];lia),List.take_of_length_le (by rw [h t (.head _)];lia)]
  rfl
 | t :: ts,k+1,h,hk=>by
  have ih:=c4T d (ts:=ts) (k:=k) (fun x hx=>h x (.tail _ hx)) (by simpa using hk)
  rw [c9B,Nat.add_mul,Nat.one_mul,Nat.add_comm (k*s) s,← List.drop_drop,← h t (.head _),List.drop_left,h t (.head _),ih]
  simp
section
variable {F:Fns}{fuel:Nat}{σ:Store}{sig:Nat→Nat}{b:Bool}{acc:List Nat→List Nat}
noncomputable def a1U (acc:List Nat→List Nat):D:=.list (perms.map fun t=>.bytes (a1d (acc t)))
structure TT (sig:Nat→Nat)(b:Bool)(σ:Store)(acc:List Nat→List Nat):Prop where
 nm:NM σ
 g35:σ.get 35=some (.val (rnd sig ([0,1,2,3],b)))
 g47:σ.get 47=some (.val (a1y sig))
 g55:σ.get 55=some (.val (a1U acc))
theorem TT.set (h:TT sig b σ acc){x:Nat}{d:D}(h1:35≠x)(h2:47≠x)(h3:55≠x):TT sig b (σ.set x (.val d)) acc:=
 ⟨h.nm.val,(a0a h1).trans h.g35,(a0a h2).trans h.g47,(a0a h3).trans h.g55⟩
theorem b9d {p:Nat}(h:p<4):a2M .Mult (.str ⟨#[65]⟩) (.int (p:Int))=some (.str ⟨(List.replicate p 65).toArray⟩):=by
 obtain rfl | rfl | rfl | rfl:p=0∨p=1∨p=2∨p=3:=by lia
 all_goals kernel_rfl
theorem b3R (sig:Nat→Nat){p:Nat}(h:p<4):JoinOk ⟨(List.replicate p 65).toArray⟩ (perms.map fun t=>(⟨(t.map sig).toArray⟩:Str))=true:=by
 obtain rfl | rfl | rfl | rfl:p=0∨p=1∨p=2∨p=3:=by lia
 all_goals kernel_rfl
theorem b3S (sig:Nat→Nat)(p:Nat):(Txt.join ⟨(List.replicate p 65).toArray⟩ (perms.map fun t=>(⟨(t.map sig).toArray⟩:Str)))++(⟨(List.replicate p 65).toArray⟩:Str)=⟨(a5B sig p).toArray⟩:=by
 have h1:(Txt.join ⟨(List.replicate p 65).toArray⟩ (perms.map fun t=>(⟨(t.map sig).toArray⟩:Str)))=Str.join ⟨(List.replicate p 65).toArray⟩ (perms.map fun t=>(⟨(t.map sig).toArray⟩:Str)):=StrLaws.glued_eq_join _ _
 have h2:∃ q r,perms.map (fun t=>(⟨(t.map sig).toArray⟩:Str))=q :: r:=⟨_,_,rfl⟩
 have h3:(Str.join ⟨(List.replicate p 65).toArray⟩ (perms.map fun t=>(⟨(t.map sig).toArray⟩:Str))).cps.toList++List.replicate p 65=a5B sig p:=by
  refine h2.elim (clear% h2;fun q Z1=>Z1.elim (fun r e=>?_))
  rw [e,b0o,← e,List.flatMap_map]
  rfl
 rw [h1,← h3]
 show (⟨_++_⟩:Str)=⟨_⟩
 rw [← List.append_toArray]
noncomputable def c6Q:PE:=.sum (.comp [40] (.call 42 (.cons (.var 40) (.cons (.var 39) .nil)) .no) (.one 39) (.var 35) .nil .nil)
noncomputable def c4U:PE:=.bin .Mult (.str ⟨#[65]⟩) (.bin .Mod (.neg (.var 56)) (.int 4))
noncomputable def c7p:PE:=.call 59 (.cons (.call 60 (.cons (.idx (.var 40) (.int 0)) (.cons (.bin .Add (.join (.var 57) (.var 47)) (.var 57)) .nil)) .no) (.cons (.idx (.var 40) (.int 1)) .nil)) .no
noncomputable def c4V:PE:=.bin .Mult (.bin .FloorDiv (.bin .Add (.var 56) (.len (.var 57))) (.int 4)) (.int 3)
noncomputable def c6R:PE:=.comp [55,58,38] (.bin .Add (.idx (.var 55) (.var 31)) (.slice (.var 58) (.yes (.bin .Mult (.var 31) (.var 38))) (.yes (.bin .Add (.bin .Mult (.var 31) (.var 38)) (.var 38))))) (.one 31) (.range1 (.len (.var 47))) .nil .nil
noncomputable def b6H:List PS:=[.asg 56 false c6Q,.asg 57 false c4U,.asg 58 false c7p,.asg 38 false c4V,.ifs (.cmp .NotEq (.len (.var 58)) (.bin .Mult (.var 38) (.len (.var 47)))) [.ret .none] [],.asg 55 false c6R]
theorem c4W {m:Nat}(hF:F=runG ids a0t fuel (m+1))(hS:SigOk sig){r:Rdr}(hr:r.Ok)(h40:σ.get 40=some (.val (a2W r)))(h35:σ.get 35=some (.val (rnd sig ([0,1,2,3],b)))):evE F σ c6Q=some (.int (b0u sig r:Int)):=by
 have e:evE F σ (.comp [40] (.call 42 (.cons (.var 40) (.cons (.var 39) .nil)) .no) (.one 39) (.var 35) .nil .nil)=some (.list (((List.range 4).map fun j=>(b2w r (sig j):Int)).map .int)):=by
  rw [c8E]
  refine a1b (xs:=List.range 4) (f:=fun j=>rnd sig ([j],false)) (σ₀:=[(40,.val (a2W r))]) ?_ (a2R h40 nofun) (fun j hj=>?_) (by simp)
  ·exact a1t h35 (a2B hS.lt)
  ·have hj:=c8l.mp hj
   have lr:=b6j (fuel:=fuel) (m:=m) (g:=false) hr (hS.mem j hj)
   rw [← hF] at lr
   exact⟨[(40,.val (a2W r)),(39,.val (rnd sig ([j],false)))],by kernel_rfl,by kernel_rfl,a0L (F:=F) (f:=42) (a1k (x:=a2W r) (y:=rnd sig ([j],false)) (by kernel_rfl) (by kernel_rfl) (by kernel_rfl) (by kernel_rfl)) lr⟩
 have:=c4S e (by simp) (fun i hi=>by
  refine (c9n.mp hi).elim fun j Z1=>Z1.elim (fun _ Z2=>?_)
  subst Z2
  have:=a7f r (sig j)
  rw [c9D]
  exact c7W this (by decide))
 unfold c6Q
 rw [this]
 congr 2
 have h4:List.range 4=[0,1,2,3]:=rfl
 rw [h4]
 simp only [c9g,List.map_nil,c8y,List.sum_nil]
 unfold b0u
 lia
theorem b6I {m:Nat}(hF:F=runG ids a0t fuel (m+3))(hS:SigOk sig){r:Rdr}(hr:r.Ok)(I:TT sig b σ acc)(h40:σ.get 40=some (.val (a2W r)))(hacc:∀ t∈perms,(acc t).length≤1000) :
  ∃ σ',a0C F fuel σ b6H=some (.next σ')∧TT sig b σ' fun t=>acc t++a3n (Vt sig r t):=by
 have C:=a2k hr
 refine (a6m sig r).elim fun q1 q2=>?_
 have hlets:=b1C sig r
 have s1:=a0u (F:=F) (fuel:=fuel) (k:=56) I.nm (by kernel_rfl) (by kernel_rfl) (c4W (m:=m+2) hF hS hr h40 I.g35)
 have I₁:=I.set (x:=56) (d:=.int (b0u sig r:Int)) (by decide) (by decide) (by decide)
 have k40:(σ.set 56 (.val (.int (b0u sig r:Int)))).get 40 = _:=(a0a (by decide)).trans h40
 have k56:(σ.set 56 (.val (.int (b0u sig r:Int)))).get 56=some (.val (.int (b0u sig r:Int))):=a0m
 generalize σ.set 56 (.val (.int (b0u sig r:Int)))=σ₁ at *
 have ef:evE F σ₁ c4U=some (.str ⟨(List.replicate (padN sig r) 65).toArray⟩):=by
  refine a0l a2u (a0l (b9V (a0g k56)) a0z (a5g (by decide))) ?_
  have:(-(b0u sig r:Int)).fmod 4=(padN sig r:Int):=c8d (a0i (b6E sig r)).2
  rw [this]
  exact b9d q2
 have s2:=a0u (F:=F) (fuel:=fuel) (k:=57) I₁.nm (by kernel_rfl) (by kernel_rfl) ef
 have I₂:=I₁.set (x:=57) (d:=.str ⟨(List.replicate (padN sig r) 65).toArray⟩) (by decide) (by decide) (by decide)
 have k40₂:(σ₁.set 57 (.val (.str ⟨(List.replicate (padN sig r) 65).toArray⟩))).get 40 = _:=(a0a (by decide)).trans k40
 have k56₂:(σ₁.set 57 (.val (.str ⟨(List.replicate (padN sig r) 65).toArray⟩))).get 56 = _:=(a0a (by decide)).trans k56
 have k57₂:(σ₁.set 57 (.val (.str ⟨(List.replicate (padN sig r) 65).toArray⟩))).get 57=some (.val (.str ⟨(List.replicate (padN sig r) 65).toArray⟩)):=a0m
 generalize σ₁.set 57 (.val (.str ⟨(List.replicate (padN sig r) 65).toArray⟩))=σ₂ at *
 have ej:evE F σ₂ (.bin .Add (.join (.var 57) (.var 47)) (.var 57))=some (.str ⟨(a5B sig (padN sig r)).toArray⟩):=by
  have e1:evE F σ₂ (.join (.var 57) (.var 47))=some (.str (Txt.join ⟨(List.replicate (padN sig r) 65).toArray⟩ (perms.map fun t=>(⟨(t.map sig).toArray⟩:Str)))):=by
   exact b6G (a0g k57₂) (a0g I₂.g47) (a1g (f:=D.asStr) (e:=fun t=>rnd sig (t,false)) (g:=fun t=>(⟨(t.map sig).toArray⟩:Str)) (fun _ _=>rfl)) (b3R sig q2)
  refine a0l e1 (a0g k57₂) ?_
  have hj:=b3S sig (padN sig r)
  have hlen:(Txt.join ⟨(List.replicate (padN sig r) 65).toArray⟩ (perms.map fun t=>(⟨(t.map sig).toArray⟩:Str))).length+(⟨(List.replicate (padN sig r) 65).toArray⟩:Str).length≤168:=by
   have h1:((Txt.join ⟨(List.replicate (padN sig r) 65).toArray⟩ (perms.map fun t=>(⟨(t.map sig).toArray⟩:Str)))++(⟨(List.replicate (padN sig r) 65).toArray⟩:Str)).length=(a5B sig (padN sig r)).length:=by rw [hj,a2I]
   have h2:=b0v (sig:=sig) q2
   have h3:∀ a b:Str,(a++b).length=a.length+b.length:=fun a b=>by
    show (a.cps++b.cps).size = _
    rw [Array.size_append];rfl
   rw [h3] at h1
   lia
  exact (b2r (c7O hlen (by decide))).trans (c7H (fun s=>some (D.str s false)) hj)
 refine (b3Q (fuel:=fuel) (m:=m) hS hr (g:=false) (g2:=false)).elim fun x Z1=>Z1.elim (fun r60 r59=>?_)
 rw [← hF] at r60 r59
 have eo:evE F σ₂ c7p=some (.bytes (b3P sig r)):=by
  refine a0L (a1k (by kernel_rfl) (by kernel_rfl) (a0L (a1k (by kernel_rfl) (by kernel_rfl) (a0G (a0g k40₂) (y:=.int 0) a0z rfl) ej) r60) (a0G (a0g k40₂) (y:=.int 1) a0z rfl)) r59
 have s3:=a0u (F:=F) (fuel:=fuel) (k:=58) I₂.nm (by kernel_rfl) (by kernel_rfl) eo
 have I₃:=I₂.set (x:=58) (d:=.bytes (b3P sig r)) (by decide) (by decide) (by decide)
 have k56₃:(σ₂.set 58 (.val (.bytes (b3P sig r)))).get 56 = _:=(a0a (by decide)).trans k56₂
 have k57₃:(σ₂.set 58 (.val (.bytes (b3P sig r)))).get 57 = _:=(a0a (by decide)).trans k57₂
 have k58₃:(σ₂.set 58 (.val (.bytes (b3P sig r)))).get 58=some (.val (.bytes (b3P sig r))):=a0m
 generalize σ₂.set 58 (.val (.bytes (b3P sig r)))=σ₃ at *
 have es:evE F σ₃ c4V=some (.int ((3*a1q sig r:Nat):Int)):=by
  have e1:evE F σ₃ (.bin .Add (.var 56) (.len (.var 57)))=some (.int ((4*a1q sig r:Nat):Int)):=by
   refine a0l (a0g k56₃) (a2z (n:=padN sig r) (a0g k57₃) (c7H some (a2I.trans List.length_replicate)) (by lia)) ?_
   exact c7H (fun i=>some (D.int i)) (show (b0u sig r:Int)+(padN sig r:Int)=((4*a1q sig r:Nat):Int) by rw [← q1];rfl)
  refine a0l (a0l e1 a0z (z:=.int (a1q sig r:Int)) ((a7c (by decide) (by decide)).trans ?_)) a0z ((a3K (b:=10) (c:=10) ?_ (by decide) (by decide)).trans ?_)
  ·congr 2
   rw [Int.fdiv_eq_ediv_of_nonneg _ (by decide)]
   lia
  ·rw [c9D];have:(2:Nat) ^ 10=1024:=rfl
   lia
  ·congr 2
   lia
 have s4:=a0u (F:=F) (fuel:=fuel) (k:=38) I₃.nm (by kernel_rfl) (by kernel_rfl) es
 have I₄:=I₃.set (x:=38) (d:=.int ((3*a1q sig r:Nat):Int)) (by decide) (by decide) (by decide)
 have k58₄:(σ₃.set 38 (.val (.int ((3*a1q sig r:Nat):Int)))).get 58 = _:=(a0a (by decide)).trans k58₃
 have k38₄:(σ₃.set 38 (.val (.int ((3*a1q sig r:Nat):Int)))).get 38=some (.val (.int ((3*a1q sig r:Nat):Int))):=a0m
 generalize σ₃.set 38 (.val (.int ((3*a1q sig r:Nat):Int)))=σ₄ at *
 have hq4:a1q sig r≤4:=by lia
 have hblk:∀ t∈perms,(a3n (Vt sig r t)).length=3*a1q sig r:=fun t ht=>a5i _ _ (a7Z hS C ht)
 have hsz:(b3P sig r).size=24*(3*a1q sig r):=by
  show (a1d _).size = _
  rw [a4y,List.length_flatMap]
  have:perms.map (fun j=>(a3n (Vt sig r j)).length)=perms.map fun _=>3*a1q sig r:=c9o fun t ht=>hblk t ht
  rw [this]
  have h24:=a0y
  generalize perms=ps at h24
  rw [← h24]
  clear this h24 hblk
  induction ps with
  | nil=>simp
  | cons a l ih=>rw [c9g,c8y,c8x,ih,Nat.add_mul];lia
 have len47:evE F σ₄ (.len (.var 47))=some (.int ((24:Nat):Int)):=a2z (n:=24) (a0g I₄.g47) rfl (by decide)
 have t5:evT F σ₄ (.cmp .NotEq (.len (.var 58)) (.bin .Mult (.var 38) (.len (.var 47))))=some false:=by
  refine a0Y (a2z (n:=24*(3*a1q sig r)) (a0g k58₄) (c7H some hsz) (by lia)) (a0l (a0g k38₄) len47 (a3K (b:=10) (c:=10) (by rw [c9D];have:(2:Nat) ^ 10=1024:=rfl;lia) (by decide) (by decide))) ?_
  have:((24*(3*a1q sig r):Nat):Int)=((3*a1q sig r:Nat):Int)*((24:Nat):Int):=by lia
  exact c7H (fun b:Bool=>some (!b)) (c7L.mpr this)
 have s5:evS F fuel σ₄ (.ifs (.cmp .NotEq (.len (.var 58)) (.bin .Mult (.var 38) (.len (.var 47)))) [.ret .none] [])=some (.next σ₄):=(a0U t5).trans rfl
 have en:evE F σ₄ c6R=some (a1U fun t=>acc t++a3n (Vt sig r t)):=by
  have:=a1b (F:=F) (σ:=σ₄) (fv:=[55,58,38]) (elt:=.bin .Add (.idx (.var 55) (.var 31)) (.slice (.var 58) (.yes (.bin .Mult (.var 31) (.var 38))) (.yes (.bin .Add (.bin .Mult (.var 31) (.var 38)) (.var 38))))) (t:=.one 31) (iter:=.range1 (.len (.var 47)))
   (xs:=List.range 24) (f:=fun (k:Nat)=>.int (k:Int)) (g:=fun k=>.bytes (a1d (acc (perms.getD k [])++a3n (Vt sig r (perms.getD k []))))) (σ₀:=[(55,.val (a1U acc)),(58,.val (.bytes (b3P sig r))),(38,.val (.int ((3*a1q sig r:Nat):Int)))])
   (a1E len47 (by decide)) (a5j I₄.g55 k58₄ k38₄) (fun k hk=>?_) (by simp)
  ·unfold c6R a1U
   rw [this]
   have e:perms=(List.range 24).map fun k=>perms.getD k []:=by decide +kernel
   conv=>rhs;rw [e,c8E]
   rfl
  ·have hk:=c8l.mp hk
   generalize hσ:[(55,Slot.val (a1U acc)),(58,.val (.bytes (b3P sig r))),(38,.val (.int ((3*a1q sig r:Nat):Int))),(31,.val (.int (k:Int)))]=σ₅
   refine⟨σ₅,by subst hσ;kernel_rfl,by kernel_rfl,?_⟩
   have v55:evE F σ₅ (.var 55)=some (a1U acc):=by subst hσ;kernel_rfl
   have v58:evE F σ₅ (.var 58)=some (.bytes (b3P sig r)):=by subst hσ;kernel_rfl
   have v38:evE F σ₅ (.var 38)=some (.int ((3*a1q sig r:Nat):Int)):=by subst hσ;kernel_rfl
   have v31:evE F σ₅ (.var 31)=some (.int (k:Int)):=by subst hσ;kernel_rfl
   have hkq:k*(3*a1q sig r)≤23*12:=Nat.mul_le_mul (by lia) (by lia)
   have m1:evE F σ₅ (.bin .Mult (.var 31) (.var 38))=some (.int ((k*(3*a1q sig r):Nat):Int)):=by
    refine a0l v31 v38 ((a3K (b:=10) (c:=10) (by rw [c9D];have:(2:Nat) ^ 10=1024:=rfl;lia) (by rw [c9D];have:(2:Nat) ^ 10=1024:=rfl;lia) (by decide)).trans ?_)
    congr 2
   have m2:evE F σ₅ (.bin .Add (.bin .Mult (.var 31) (.var 38)) (.var 38))=some (.int ((k*(3*a1q sig r)+3*a1q sig r:Nat):Int)):=by
    refine a0l m1 v38 ?_
    rfl
   have hlt:perms.getD k []∈perms:=a0M (by rw [a0y];exact hk)
   have hle:k*(3*a1q sig r)+3*a1q sig r≤24*(3*a1q sig r):=by
    have:(k+1)*(3*a1q sig r)≤24*(3*a1q sig r):=Nat.mul_le_mul_right _ (by lia)
    rw [Nat.add_mul,Nat.one_mul] at this;exact this
   have sl:evE F σ₅ (.slice (.var 58) (.yes (.bin .Mult (.var 31) (.var 38))) (.yes (.bin .Add (.bin .Mult (.var 31) (.var 38)) (.var 38))))=some (.bytes (a1d (a3n (Vt sig r (perms.getD k []))))):=by
    refine a3c v58 (a5Q m1) (a5Q m2) (a1M (by lia)) (a1M (by lia)) ?_
    rw [b8y (by lia),c1L (by lia) (by rw [Array.length_toList,hsz];exact hle)]
    congr 2
    have h1:(b3P sig r).toList=(perms.flatMap fun t=>a3n (Vt sig r t)).map fun n=>n.toUInt8:=a3f _
    rw [h1,← List.map_drop,← List.map_take,Nat.add_sub_cancel_left,c4T [] hblk (by rw [a0y];exact hk),← a3f]
   have ix:evE F σ₅ (.idx (.var 55) (.var 31))=some (.bytes (a1d (acc (perms.getD k [])))):=by
    refine a0G v55 v31 (a1D ?_ (by rw [c8u,a0y];decide))
    rw [c8M,c8n (by rw [a0y];exact hk),c9x,c8m,c8n (by rw [a0y];exact hk),Option.getD_some]
   refine a0l ix sl ?_
   have h1:=hacc _ hlt
   have h2:=hblk _ hlt
   exact (a0n (x:=some (D.bytes (a1d (acc (perms.getD k []))++a1d (a3n (Vt sig r (perms.getD k [])))))) (a0T (by rw [a4y,a4y];lia))).trans (c7H (fun b=>some (D.bytes b)) (a9d _ _))
 have s6:=a0u (F:=F) (fuel:=fuel) (k:=55) I₄.nm (by kernel_rfl) (by kernel_rfl) en
 refine⟨_,(a0d s1).trans ((a0d s2).trans ((a0d s3).trans ((a0d s4).trans ((a0d s5).trans ((a0d s6).trans rfl))))),⟨I₄.nm.val,(a0a (by decide)).trans I₄.g35,(a0a (by decide)).trans I₄.g47,a0m⟩⟩
end
end
section
open LA (nl a0F a0o perms behind a1s)
noncomputable def a5Z (sig:Nat→Nat)(rs:List Rdr)(t:List Nat):List Nat:=rs.flatMap fun r=>a3n (Vt sig r t)
theorem b3T {sig:Nat→Nat}(hS:SigOk sig){r:Rdr}(hr:r.Ok){t:List Nat}(ht:t∈perms):(a3n (Vt sig r t)).length=3*a1q sig r∧3*a1q sig r≤12:=by
 refine⟨a5i _ _ (a7Z hS (a2k hr) ht),?_⟩
 refine (a6m sig r).elim fun q1 q2=>?_
 have:=b1C sig r
 lia
theorem b9e {fuel m:Nat}{sig:Nat→Nat}{b:Bool}{rs:List Rdr}(hS:SigOk sig)(hr:∀ r∈rs,r.Ok)(hl:rs.length≤7):runG ids a0t fuel (m+4) 97 [.list (rs.map a2W),rnd sig ([0,1,2,3],b),a1y sig] none=some (a1U (a5Z sig rs)):=by
 refine a2c (df:=⟨97,[33,35,47],[],[],a7O⟩) rfl (by decide) (by decide) rfl rfl rfl ?_
 generalize hF:runG ids a0t fuel (m+3)=F
 show a0C F fuel [(33,.val (.list (rs.map a2W))),(35,.val (rnd sig ([0,1,2,3],b))),(47,.val (a1y sig))] [.asg 55 false (.comp [] (.bytes []) (.one 29) (.var 47) .nil .nil),.for (.one 40) (.var 33) b6H,.ret (.var 55)] = _
 have e1:evE F [(33,.val (.list (rs.map a2W))),(35,.val (rnd sig ([0,1,2,3],b))),(47,.val (a1y sig))] (.comp [] (.bytes []) (.one 29) (.var 47) .nil .nil)=some (a1U (a5Z sig [])):=by
  refine a1b (xs:=perms) (f:=fun t=>rnd sig (t,false)) (σ₀:=[]) (by kernel_rfl) (by kernel_rfl) (fun t ht=>?_) (by rw [a0y];decide)
  exact⟨[(29,.val (rnd sig (t,false)))],by kernel_rfl,by kernel_rfl,by kernel_rfl⟩
 have nm0:NM [(33,.val (.list (rs.map a2W))),(35,.val (rnd sig ([0,1,2,3],b))),(47,.val (a1y sig))]:=((NM.nil.cons (by nofun)).cons (by nofun)).cons (by nofun)
 have s1:=a0u (F:=F) (fuel:=fuel) (k:=55) nm0 (by kernel_rfl) (by kernel_rfl) e1
 have st1:Store.set [(33,.val (.list (rs.map a2W))),(35,.val (rnd sig ([0,1,2,3],b))),(47,.val (a1y sig))] 55 (.val (a1U (a5Z sig [])))=[(33,.val (.list (rs.map a2W))),(35,.val (rnd sig ([0,1,2,3],b))),(47,.val (a1y sig)),(55,.val (a1U (a5Z sig [])))]:=by kernel_rfl
 rw [st1] at s1
 rw [a0d s1]
 let body:Store→D→Option Out:=fun σ d=>(a1c σ (.one 40) d).bind fun σ'=>a0C F fuel σ' b6H
 obtain⟨σ',e,I'⟩:=a1F (body:=body) (f:=a2W) (all:=rs) (σ:=[(33,.val (.list (rs.map a2W))),(35,.val (rnd sig ([0,1,2,3],b))),(47,.val (a1y sig)),(55,.val (a1U (a5Z sig [])))]) (fun done σ=>TT sig b σ (a5Z sig done))
  ⟨(((NM.nil.cons (by nofun)).cons (by nofun)).cons (by nofun)).cons (by nofun),by kernel_rfl,by kernel_rfl,by kernel_rfl⟩ fun done r rest σ hd I=>by
   have hrm:r∈rs:=by rw [← hd];simp
   have hdl:done.length≤7:=by have:=c7H List.length hd;simp at this;lia
   have hdr:∀ x∈done,x∈rs:=fun x hx=>by rw [← hd];exact c8R _ hx
   have hb:body σ (a2W r)=a0C F fuel (σ.set 40 (.val (a2W r))) b6H:=by
    show ((a1c σ (.one 40) _).bind fun σ'=>a0C F fuel σ' _) = _
    rw [a1p I.nm];rfl
   rw [hb]
   obtain⟨σ',e,I'⟩:=b6I hF.symm hS (hr r hrm) (I.set (x:=40) (d:=a2W r) (by decide) (by decide) (by decide)) a0m fun t ht=>by
    have:=a2h (l:=done) (f:=fun r=>a3n (Vt sig r t)) (k:=12) fun x hx=>by
     have:=b3T hS (hr x (hdr x hx)) ht
     lia
    show (done.flatMap fun r=>a3n (Vt sig r t)).length≤1000
    lia
   refine⟨σ',.inl e,?_⟩
   have:a5Z sig (done++[r])=fun t=>a5Z sig done t++a3n (Vt sig r t):=by
    funext t
    unfold a5Z
    rw [c9C]
    simp
   rw [this]
   exact I'
 have e':=a2A (F:=F) (fuel:=fuel) (t:=.one 40) (iter:=.var 33) (body:=b6H) (σ:=[(33,.val (.list (rs.map a2W))),(35,.val (rnd sig ([0,1,2,3],b))),(47,.val (a1y sig)),(55,.val (a1U (a5Z sig [])))]) (by kernel_rfl) (by kernel_rfl) e
 rw [a0d e']
 have f55:=a0Z I'.g55 (s':=.val (a1U (a5Z sig rs))) rfl
 exact a2t (a0p f55) (a0g f55)
noncomputable def a6a:List (Bool×Bool)→Nat×Nat→Nat×Nat
 | [],a=>a
 | p :: r,a=>a6a r (if p.1 then (if p.2 then a.1+a.2+1 else a.1,2*a.2+1) else a)
noncomputable def b1D (g:List Bool)(t:List Nat):List (Bool×Bool):=(a0o.zip g).map fun p=>(p.2,behind t p.1.1 p.1.2)
theorem a5k (g:List Bool)(t:List Nat):a1s g t=a6a (b1D g t) (0,0):=by
 unfold a1s b1D
 generalize (0,0)=a
 induction a0o.zip g generalizing a with
 | nil=>rfl
 | cons p r ih=>rw [c9h,ih];rfl
theorem a9e:∀ {l l':List (Bool×Bool)} {m m' f:Nat},l.map (·.1)=l'.map (·.1)→m≤f→m'≤f→(a6a l (m,f)).1=(a6a l' (m',f)).1→m=m'∧∀ (k:Nat) p p',l[k]?=some p→l'[k]?=some p'→p.1=true→p.2=p'.2
 | [],[],m,m',f,_,_,_,h=>⟨h,fun k p p' h1=>by simp at h1⟩
 | [],_ :: _,_,_,_,h,_,_,_=>by simp at h
 | _ :: _,[],_,_,_,h,_,_,_=>by simp at h
 | (a,b) :: l,(a',b') :: l',m,m',f,hm,h1,h2,h=>by
  simp only [c9g,List.cons.injEq] at hm
  obtain⟨rfl,hm⟩:=hm
  cases a with
  | false=>
   obtain⟨e1,e2⟩:=a9e (l:=l) (l':=l') hm h1 h2 (by simpa [a6a] using h)
   refine⟨e1,fun k p p' g1 g2 hp=>?_⟩
   cases k with
   | zero=>simp at g1;subst g1;cases hp
   | succ k=>exact e2 k p p' (by simpa using g1) (by simpa using g2) hp
  | true=>
   have h':(a6a l ((if b then m+f+1 else m),2*f+1)).1=(a6a l' ((if b' then m'+f+1 else m'),2*f+1)).1:=by
    cases b <;> cases b' <;> simpa [a6a] using h
   obtain⟨e1,e2⟩:=a9e (l:=l) (l':=l') hm (by split <;> lia) (by split <;> lia) h'
   have hb:b=b'∧m=m':=by
    cases b <;> cases b' <;> simp at e1 ⊢ <;> lia
   refine⟨hb.2,fun k p p' g1 g2 hp=>?_⟩
   cases k with
   | zero=>simp at g1 g2;subst g1;subst g2;exact hb.1
   | succ k=>exact e2 k p p' (by simpa using g1) (by simpa using g2) hp
theorem b0x:∀ {l l':List (Bool×Bool)} {a:Nat×Nat},l.map (·.1)=l'.map (·.1)→(∀ (k:Nat) p p',l[k]?=some p→l'[k]?=some p'→p.1=true→p.2=p'.2)→a6a l a=a6a l' a
 | [],[],a,_,_=>rfl
 | [],_ :: _,_,h,_=>by simp at h
 | _ :: _,[],_,h,_=>by simp at h
 | (x,b) :: l,(x',b') :: l',a,hm,h=>by
  simp only [c9g,List.cons.injEq] at hm
  obtain⟨rfl,hm⟩:=hm
  have ih:=fun a=>b0x (l:=l) (l':=l') (a:=a) hm fun k p p' g1 g2=>h (k+1) p p' (by simpa using g1) (by simpa using g2)
  cases x with
  | false=>simpa [a6a] using ih a
  | true=>
   have hb:b=b':=h 0 (true,b) (true,b') rfl rfl rfl
   subst hb
   simpa [a6a] using ih _
theorem b9f {g:List Bool}{t t':List Nat}:(a1s g t).1=(a1s g t').1↔∀ p∈a0o.zip g,p.2=true→behind t p.1.1 p.1.2=behind t' p.1.1 p.1.2:=by
 have hm:(b1D g t).map (·.1)=(b1D g t').map (·.1):=by unfold b1D;rw [c8E,c8E];rfl
 have get:∀ (t:List Nat) (k:Nat),(b1D g t)[k]?=((a0o.zip g)[k]?).map fun p=>(p.2,behind t p.1.1 p.1.2):=fun t k=>by unfold b1D;rw [c8M]
 constructor
 ·intro h p hp hq
  rw [a5k,a5k] at h
  refine (a9e hm (c7G 0) (c7G 0) h).elim fun _ h2=>?_
  refine (List.mem_iff_getElem?.mp hp).elim fun k hk=>?_
  exact h2 k (p.2,_) (p.2,_) (by rw [get,hk];rfl) (by rw [get,hk];rfl) hq
 ·intro h
  rw [a5k,a5k]
  rw [b0x hm fun k p p' g1 g2 hp=>?_]
  rw [get] at g1 g2
  cases hq:(a0o.zip g)[k]? with
  | none=>rw [hq] at g1;cases g1
  | some q=>
   rw [hq] at g1 g2
   simp at g1 g2
   subst g1
   subst g2
   exact h q (c8Z hq) hp
end
section
open LA (nl a0F a0o perms behind a1s)
noncomputable def c2n (l:List Bool)(j:Nat):Bool:=l.getD j false
noncomputable def b9W:List (List Bool):=[false,true].flatMap fun a=>[false,true].flatMap fun b=>[false,true].flatMap fun c=>[false,true].map fun d=>[a,b,c,d]
theorem b3U:(b9W.all fun l=>perms.all fun t=>perms.all fun t'=>(t.filter (c2n l)==t'.filter (c2n l))==(a0o.all fun q=>!(c2n l q.1&&c2n l q.2)||behind t q.1 q.2==behind t' q.1 q.2))=true:=by decide +kernel
theorem a3g {t:List Nat}(h:t∈perms):∀ j∈t,j<4:=fun j hj=>by
 have:=(a2U h).mem_iff.mp hj
 simp at this;lia
theorem a8a (p:Nat→Bool){t t':List Nat}(h:t∈perms)(h':t'∈perms):t.filter p=t'.filter p↔∀ q∈a0o,p q.1=true→p q.2=true→behind t q.1 q.2=behind t' q.1 q.2:=by
 have hp:∀ j,j<4→p j=c2n [p 0,p 1,p 2,p 3] j:=fun j hj=>by
  obtain rfl | rfl | rfl | rfl:j=0∨j=1∨j=2∨j=3:=by lia
  all_goals rfl
 have hm:[p 0,p 1,p 2,p 3]∈b9W:=by
  cases p 0 <;> cases p 1 <;> cases p 2 <;> cases p 3 <;> decide
 have e1:t.filter p=t.filter (c2n [p 0,p 1,p 2,p 3]):=List.filter_congr fun j hj=>hp j (a3g h j hj)
 have e2:t'.filter p=t'.filter (c2n [p 0,p 1,p 2,p 3]):=List.filter_congr fun j hj=>hp j (a3g h' j hj)
 have hc:=c8k.mp (c8k.mp (c8k.mp b3U _ hm) t h) t' h'
 rw [c7L] at hc
 rw [e1,e2,← c7L,hc,c8k]
 have h6:∀ q∈a0o,q.1<4∧q.2<4:=by decide
 constructor
 ·intro hq q hqm a b
  have:=hq q hqm
  rw [← hp _ (h6 q hqm).1,← hp _ (h6 q hqm).2,a,b] at this
  simpa using this
 ·intro hq q hqm
  rw [← hp _ (h6 q hqm).1,← hp _ (h6 q hqm).2]
  cases ha:p q.1 with
  | false=>rfl
  | true=>
   cases hb:p q.2 with
   | false=>rfl
   | true=>simpa using hq q hqm ha hb
section
variable {sig:Nat→Nat}{r:Rdr}
theorem a7g (hS:SigOk sig)(C:CodeFacts r):∀ {t:List Nat},(∀ j∈t,j<4)→t.flatMap (fun j=>a2J r (sig j))=(t.filter (a9h sig r)).flatMap fun j=>a2J r (sig j)
 | [],_=>rfl
 | j :: t,h=>by
  have ih:=a7g hS C (t:=t) fun x hx=>h x (.tail _ hx)
  have hl:=C.len _ (hS.mem j (h j (.head _)))
  rw [c9B,c9q]
  cases hq:a9h sig r j with
  | true=>rw [c7K rfl,c9B,ih]
  | false=>
   have:a2J r (sig j)=[]:=by
    unfold a9h at hq
    rw [decide_eq_false_iff_not] at hq
    exact c9s.mp (by lia)
   rw [this];simpa using ih
theorem b9X (hS:SigOk sig)(hr:r.Ok){t t':List Nat}(h:t∈perms)(h':t'∈perms):Vt sig r t=Vt sig r t'↔t.filter (a9h sig r)=t'.filter (a9h sig r):=by
 have C:=a2k hr
 unfold Vt
 rw [a7g hS C (a3g h),a7g hS C (a3g h')]
 constructor
 ·intro e
  have e:=List.append_cancel_right e
  refine b0t (c:=fun j=>a2J r (sig j)) (S:=fun j=>j<4∧a9h sig r j=true) (fun j hj q=>?_) (fun i j hi hj hne=>?_) (fun j hj=>?_) (fun j hj=>?_) e
  ·have hl:=C.len _ (hS.mem j hj.1)
   have hs:=hj.2
   unfold a9h at hs
   rw [c9i] at hs
   rw [q] at hl
   simp at hl
   lia
  ·have h1:=hi.2
   have h2:=hj.2
   unfold a9h at h1 h2
   rw [c9i] at h1 h2
   exact C.free _ (hS.mem i hi.1) _ (hS.mem j hj.1) (fun q=>hne (hS.inj i j hi.1 hj.1 q)) h1 h2
  ·exact⟨a3g h j (c9u.mp hj).1,(c9u.mp hj).2⟩
  ·exact⟨a3g h' j (c9u.mp hj).1,(c9u.mp hj).2⟩
 ·intro e;rw [e]
theorem b2D (hS:SigOk sig):∀ {rs:List Rdr},(∀ r∈rs,r.Ok)→∀ {t t':List Nat},t∈perms→t'∈perms→(a5Z sig rs t=a5Z sig rs t'↔∀ r∈rs,Vt sig r t=Vt sig r t')
 | [],_,t,t',_,_=>by simp [a5Z]
 | r :: rs,hr,t,t',h,h'=>by
  have ih:=b2D hS (rs:=rs) (fun x hx=>hr x (.tail _ hx)) h h'
  have C:=a2k (hr r (.head _))
  have l1:=a7Z hS C h
  have l2:=a7Z hS C h'
  show a3n (Vt sig r t)++a5Z sig rs t=a3n (Vt sig r t')++a5Z sig rs t'↔_
  constructor
  ·intro e
   refine (List.append_inj e (by rw [a5i _ _ l1,a5i _ _ l2])).elim fun e1 e2=>?_
   intro x hx
   rcases c8o.mp hx with rfl | hx
   ·exact b2B _ _ _ l1 l2 c2m c2m e1
   ·exact ih.mp e2 x hx
  ·intro e
   rw [e r (.head _),ih.mpr fun x hx=>e x (.tail _ hx)]
theorem b9g (hS:SigOk sig){rs:List Rdr}(hr:∀ r∈rs,r.Ok){t t':List Nat}(h:t∈perms)(h':t'∈perms):a5Z sig rs t=a5Z sig rs t'↔(a1s (graphOf sig rs) t).1=(a1s (graphOf sig rs) t').1:=by
 rw [b2D hS hr h h',b9f]
 have hz:a0o.zip (graphOf sig rs)=a0o.map fun q=>(q,nlR sig rs q.1 q.2):=rfl
 rw [hz]
 constructor
 ·intro e p hp hq
  refine (c9n.mp hp).elim fun q Z1=>Z1.elim (fun hqm Z2=>?_)
  subst Z2
  have hq:nlR sig rs q.1 q.2=true:=hq
  unfold nlR at hq
  refine (List.any_eq_true.mp hq).elim fun r Z1=>Z1.elim (fun hrm hs=>?_)
  rw [c7S] at hs
  exact (a8a _ h h').mp ((b9X hS (hr r hrm) h h').mp (e r hrm)) q hqm hs.1 hs.2
 ·intro e r hrm
  rw [b9X hS (hr r hrm) h h',a8a _ h h']
  intro q hqm a b
  refine e (q,nlR sig rs q.1 q.2) (c9n.mpr ⟨q,hqm,rfl⟩) ?_
  show nlR sig rs q.1 q.2=true
  unfold nlR
  exact List.any_eq_true.mpr ⟨r,hrm,by rw [a,b];rfl⟩
end
theorem b6J:∀ (n:Nat) (a:List Nat),a.length=4*n→(∀ x∈a,x<64)→∀ x∈a3n a,x<256
 | 0,a,h,_=>by
  obtain rfl:a=[]:=c9s.mp h
  simp [a3n]
 | n+1,vs,h,l=>by
  match vs,h with
  | a :: b :: c :: d :: r,h=>
   have ih:=b6J n r (by simp at h;lia) fun x hx=>l x (by simp [hx])
   have ha:=l a (by simp);have hb:=l b (by simp);have hc:=l c (by simp);have hd:=l d (by simp)
   intro x hx
   simp only [a3n,c8o] at hx
   rcases hx with rfl | rfl | rfl | hx
   ·lia
   ·lia
   ·lia
   ·exact ih x hx
  | [],h=>simp at h
  | [_],h=>simp at h;lia
  | [_,_],h=>simp at h;lia
  | [_,_,_],h=>simp at h;lia
theorem b3V {a b:List Nat}(ha:∀ x∈a,x<256)(hb:∀ x∈b,x<256)(h:(a1d a).toList=(a1d b).toList):a=b:=by
 rw [a3f,a3f] at h
 induction a generalizing b with
 | nil=>cases b with
  | nil=>rfl
  | cons _ _=>simp at h
 | cons x a ih=>cases b with
  | nil=>simp at h
  | cons y b=>
   simp only [c9g,List.cons.injEq] at h
   have hx:=ha x (.head _)
   have hy:=hb y (.head _)
   have:x=y:=by
    have:=c7H UInt8.toNat h.1
    simp at this
    lia
   rw [this,ih (fun z hz=>ha z (.tail _ hz)) (fun z hz=>hb z (.tail _ hz)) h.2]
theorem b6K {sig:Nat→Nat}(hS:SigOk sig){rs:List Rdr}(hr:∀ r∈rs,r.Ok){t:List Nat}(h:t∈perms):∀ x∈a5Z sig rs t,x<256:=fun x hx=>by
 refine (List.mem_flatMap.mp hx).elim fun r Z1=>Z1.elim (fun hrm hx=>?_)
 exact b6J _ _ (a7Z hS (a2k (hr r hrm)) h) c2m x hx
theorem b0y {sig:Nat→Nat}(hS:SigOk sig){rs:List Rdr}(hr:∀ r∈rs,r.Ok){t t':List Nat}(h:t∈perms)(h':t'∈perms) :
  (a1d (a5Z sig rs t)).toList=(a1d (a5Z sig rs t')).toList↔(a1s (graphOf sig rs) t).1=(a1s (graphOf sig rs) t').1:=by
 rw [← b9g hS hr h h']
 exact⟨b3V (b6K hS hr h) (b6K hS hr h'),fun e=>by rw [e]⟩
end
section
open LA (nl a0F a0o perms behind a1s)
theorem a9f (keys:Nat→Array UInt8){n:Nat}(hn:2≤n):(sortIdx keys n).Perm (List.range n)∧∀ i j,i≤j→j<n→a1m (keys ((sortIdx keys n).getD j 0)).toList (keys ((sortIdx keys n).getD i 0)).toList=false:=by
 have h:=a6I (O:=a4o) (key:=fun i=>(keys i).toList) (n:=n) (s:=({}:Shared)) (lt:=fun i j=>a1m (keys i).toList (keys j).toList) (Q:=fun p _=>PB n p∧SoP a4o (fun i=>(keys i).toList) p n) (fun _ _=>rfl) _ (b1T (by lia) fun p h1 h2=>⟨h1,h2⟩)
 unfold sortIdx
 rw [c7M (by lia)]
 generalize kasRun (fun i j=>a1m (keys i).toList (keys j).toList) (kas_sort n)=p at *
 refine⟨by simpa using h.1.perm.toList,fun i j hij hj=>?_⟩
 have:=h.2 i j hij hj
 simp only [KP,KeyOrd.kle,a4o] at this
 have e:∀ i,p.toList.getD i 0=p.getD i 0:=fun i=>by
  rw [c8m,Array.getElem?_toList,c9l]
 rw [e,e]
 exact this
theorem b2E {kv:List (Str×Int)}{k k':Str}{i:Int}:(a0E kv k i).lookup k'=if k'=k then some i else kv.lookup k':=by
 induction kv with
 | nil=>
  by_cases h:k'=k
  ·subst h;simp [a0E,List.lookup]
  ·have hb:(k'==k)=false:=by simpa using h
   simp [a0E,List.lookup,hb,h]
 | cons p r ih=>
  obtain⟨x,j⟩:=p
  unfold a0E
  by_cases hx:k=x
  ·subst hx
   rw [c7K (by simp)]
   by_cases h:k'=k
   ·subst h;simp [List.lookup]
   ·have hb:(k'==k)=false:=by simpa using h
    simp [List.lookup,hb,h]
  ·rw [c7M (by simpa using hx)]
   by_cases h:k'=x
   ·subst h
    rw [c7M (fun q=>hx q.symm)]
    simp [List.lookup]
   ·have hb:(k'==x)=false:=by simpa using h
    simp only [List.lookup,hb]
    exact ih
theorem b9h {kv:List (Str×Int)}{k:Str}{i:Int}:(a0E kv k i).length≤kv.length+1:=by
 induction kv with
 | nil=>simp [a0E]
 | cons p r ih=>
  unfold a0E
  split
  ·simp
  ·simp;lia
noncomputable def txt (sig:Nat→Nat)(t:List Nat):Str:=⟨(t.map sig).toArray⟩
theorem b6L {sig:Nat→Nat}(hS:SigOk sig):∀ {t t':List Nat},(∀ j∈t,j<4)→(∀ j∈t',j<4)→t.map sig=t'.map sig→t=t'
 | [],[],_,_,_=>rfl
 | [],_ :: _,_,_,e=>by simp at e
 | _ :: _,[],_,_,e=>by simp at e
 | a :: t,b :: t',h1,h2,e=>by
  simp only [c9g,List.cons.injEq] at e
  rw [hS.inj a b (h1 a (.head _)) (h2 b (.head _)) e.1,b6L hS (fun x hx=>h1 x (.tail _ hx)) (fun x hx=>h2 x (.tail _ hx)) e.2]
theorem c2o {sig:Nat→Nat}(hS:SigOk sig){t t':List Nat}(h:t∈perms)(h':t'∈perms)(e:txt sig t=txt sig t'):t=t':=by
 refine b6L hS (a3g h) (a3g h') ?_
 have:=c7H (fun s:Str=>s.cps.toList) e
 simpa [txt] using this
section
variable {F:Fns}{fuel:Nat}{σ:Store}{sig:Nat→Nat}{acc:List Nat→List Nat}
noncomputable def a0N (acc:List Nat→List Nat)(i:Nat):Array UInt8:=a1d (acc (perms.getD i []))
noncomputable def c4X:PE:=.sortedKey (.range1 (.len (.var 47))) [55] 64 (.idx (.var 55) (.var 64))
theorem b6M {k:Nat}(hk:k<24):a4C (a1U acc) (.int (k:Int))=some (.bytes (a0N acc k)):=by
 refine a1D ?_ (by rw [c8u,a0y];decide)
 unfold a0N
 rw [c8M,c8n (by rw [a0y];exact hk),c9x,c8m,c8n (by rw [a0y];exact hk),Option.getD_some]
theorem b6N {k:Nat}(hk:k<24):a4C (a1y sig) (.int (k:Int))=some (.str (txt sig (perms.getD k []))):=by
 refine a1D ?_ (by rw [c8u,a0y];decide)
 rw [c8M,c8n (by rw [a0y];exact hk),c9x,c8m,c8n (by rw [a0y];exact hk),Option.getD_some]
 rfl
theorem c2p (h47:σ.get 47=some (.val (a1y sig)))(h55:σ.get 55=some (.val (a1U acc))):evI F σ c4X=some ((sortIdx (a0N acc) 24).map fun (k:Nat)=>.int (k:Int)):=by
 have hi:evI F σ (.range1 (.len (.var 47)))=some ((List.range 24).map fun (i:Nat)=>.int (i:Int)):=a1E (n:=24) (a2z (n:=24) (a0g h47) rfl (by decide)) (by decide)
 have hr:a3w σ [55]=some [(55,.val (a1U acc))]:=by
  show List.mapM (m:=Option) _ [55] = _
  rw [c8i,h55]
  rfl
 show (evI F σ (.range1 (.len (.var 47)))).bind _ = _
 refine a0c hi (a0c hr (a0c (a:=b3k (a0N acc) 24) ?_ ?_))
 ·refine a1g (e:=fun (i:Nat)=>D.int (i:Int)) (g:=fun i=>((a0N acc i).toList,D.int (i:Int))) fun i hi=>?_
  have hi:=c8l.mp hi
  have b:a3o [(55,.val (a1U acc))] (.one 64) (.int (i:Int))=some [(55,.val (a1U acc)),(64,.val (.int (i:Int)))]:=by kernel_rfl
  have e:evE F [(55,.val (a1U acc)),(64,.val (.int (i:Int)))] (.idx (.var 55) (.var 64))=some (.bytes (a0N acc i)):=a0G (by kernel_rfl) (by kernel_rfl) (b6M hi)
  exact a0c b (a0c e rfl)
 ·rw [a0n (show Nat.blt (b3k (a0N acc) 24).length 64=true from by rw [show (b3k (a0N acc) 24).length=24 from (c8u ..).trans c8v];rfl),a9D]
structure RW (sig:Nat→Nat)(acc:List Nat→List Nat)(done:List Nat)(σ:Store)(kv:List (Str×Int))(fs:List (List Nat)):Prop where
 nm:NM σ
 g47:σ.get 47=some (.val (a1y sig))
 g55:σ.get 55=some (.val (a1U acc))
 g61:σ.get 61=some (.val (match done.getLast? with
  | some k=>.bytes (a0N acc k)
  | none=>.none))
 g62:σ.get 62=some (.ownD kv)
 g63:σ.get 63=some (.own (fs.map fun t=>.str (txt sig t)))
 kvl:kv.length≤done.length
 fsl:fs.length≤done.length
 rows:∀ k∈done,∃ n t,kv.lookup (txt sig (perms.getD k []))=some ((n:Nat)+1:Int)∧fs[n]?=some t∧(a1d (acc t)).toList=(a0N acc k).toList
 apart:∀ (i j:Nat) (t t':List Nat),fs[i]?=some t→fs[j]?=some t'→(a1d (acc t)).toList=(a1d (acc t')).toList→i=j
 mem:∀ t∈fs,∃ k∈done,t=perms.getD k []
 last:∀ k,done.getLast?=some k→∃ t,fs.getLast?=some t∧(a1d (acc t)).toList=(a0N acc k).toList
noncomputable def b9i:List PS:=[.ifs (.cmp .NotEq (.idx (.var 55) (.var 31)) (.var 61)) [.asg 61 false (.idx (.var 55) (.var 31)),.app 63 (.idx (.var 47) (.var 31))] [],.asgI 62 (.idx (.var 47) (.var 31)) (.len (.var 63))]
theorem b9j (hS:SigOk sig){done:List Nat}{k:Nat}{kv:List (Str×Int)}{fs:List (List Nat)}(I:RW sig acc done σ kv fs)(h31:σ.get 31=some (.val (.int (k:Int))))(hk:k<24)(hd24:done.length≤24)(hdk:∀ x∈done,x<24∧x≠k)
  (hcont:∀ x∈done,(a0N acc x).toList=(a0N acc k).toList→∀ y,done.getLast?=some y→(a0N acc y).toList=(a0N acc k).toList) :
  ∃ σ' kv' fs',a0C F fuel σ b9i=some (.next σ')∧RW sig acc (done++[k]) σ' kv' fs':=by
 have hkl:=I.kvl
 have hfl:=I.fsl
 have pget:∀ x,x<24→perms.getD x []∈perms:=fun x hx=>a0M (by rw [a0y];exact hx)
 have pinj:∀ x,x<24→x≠k→txt sig (perms.getD x [])≠txt sig (perms.getD k []):=fun x hx hne e=>by
  have h1:=c2o hS (pget x hx) (pget k hk) e
  rw [c8m,c8m,c8n (by rw [a0y];exact hx),c8n (by rw [a0y];exact hk)] at h1
  have hnd:perms.Nodup:=by decide +kernel
  have h2:perms[x]?=perms[k]?:=by rw [c8n (by rw [a0y];exact hx),c8n (by rw [a0y];exact hk)];exact c7H some h1
  exact hne ((List.getElem?_inj (by rw [a0y];exact hx) hnd).mp h2)
 have e55:evE F σ (.idx (.var 55) (.var 31))=some (.bytes (a0N acc k)):=a0G (a0g I.g55) (a0g h31) (b6M hk)
 have fin:∀ {σ:Store} {fs':List (List Nat)} (n:Nat),n≤1000→σ.get 31=some (.val (.int (k:Int)))→σ.get 47=some (.val (a1y sig))→σ.get 62=some (.ownD kv)→σ.get 63=some (.own (fs'.map fun t=>.str (txt sig t)))→fs'.length=n+1 →
   evS F fuel σ (.asgI 62 (.idx (.var 47) (.var 31)) (.len (.var 63)))=some (.next (σ.set 62 (.ownD (a0E kv (txt sig (perms.getD k [])) ((n:Nat)+1:Int))))):=fun {σ fs'} n hn h31 h47 h62 h63 hlen=>by
  have e1:evE F σ (.idx (.var 47) (.var 31))=some (.str (txt sig (perms.getD k []))):=a0G (a0g h47) (a0g h31) (b6N hk)
  have e2:evE F σ (.len (.var 63))=some (.int ((n+1:Nat):Int)):=a2z (a8V h63) (a4v hlen) (by lia)
  show (σ.get 62).bind _ = _
  exact a0c h62 (a0c e1 (a0c e2 (a0c (a:=kv) rfl (a0c (a:=txt sig (perms.getD k [])) rfl (a0c (a:=((n+1:Nat):Int)) rfl (a0n (a0T (by lia))))))))
 have hnone:∀ y,done.getLast?=some y→y∈done:=fun y h=>List.mem_of_getLast? h
 have t1:evT F σ (.cmp .NotEq (.idx (.var 55) (.var 31)) (.var 61))=some (match done.getLast? with
   | some y=>!((a0N acc k).toList==(a0N acc y).toList)
   | none=>true):=by
  refine a0Y e55 (a0g I.g61) ?_
  cases done.getLast? <;> rfl
 have hifs:=a0U (F:=F) (fuel:=fuel) (A:=[.asg 61 false (.idx (.var 55) (.var 31)),.app 63 (.idx (.var 47) (.var 31))]) (B:=[]) t1
 generalize hq:(match done.getLast? with
   | some y=>!((a0N acc k).toList==(a0N acc y).toList)
   | none=>true)=q at hifs
 have old:∀ x∈done,∀ i,(a0E kv (txt sig (perms.getD k [])) i).lookup (txt sig (perms.getD x []))=kv.lookup (txt sig (perms.getD x [])):=fun x hx i=>by
  rw [b2E,c7M (pinj x (hdk x hx).1 (hdk x hx).2)]
 have new:∀ i,(a0E kv (txt sig (perms.getD k [])) i).lookup (txt sig (perms.getD k []))=some i:=fun i=>by rw [b2E,c7K rfl]
 have hdl:∀ i:Int,(a0E kv (txt sig (perms.getD k [])) i).length≤kv.length+1:=fun i=>b9h
 cases q with
 | true=>
  have s1:=a0u (F:=F) (fuel:=fuel) (k:=61) I.nm (by kernel_rfl) (by kernel_rfl) e55
  have k47:(σ.set 61 (.val (.bytes (a0N acc k)))).get 47 = _:=(a0a (by decide)).trans I.g47
  have k31:(σ.set 61 (.val (.bytes (a0N acc k)))).get 31 = _:=(a0a (by decide)).trans h31
  have k62:(σ.set 61 (.val (.bytes (a0N acc k)))).get 62 = _:=(a0a (by decide)).trans I.g62
  have k63:(σ.set 61 (.val (.bytes (a0N acc k)))).get 63 = _:=(a0a (by decide)).trans I.g63
  have k55:(σ.set 61 (.val (.bytes (a0N acc k)))).get 55 = _:=(a0a (by decide)).trans I.g55
  have k61:(σ.set 61 (.val (.bytes (a0N acc k)))).get 61=some (.val (.bytes (a0N acc k))):=a0m
  have nm₁:NM (σ.set 61 (.val (.bytes (a0N acc k)))):=I.nm.val
  generalize σ.set 61 (.val (.bytes (a0N acc k)))=σ₁ at *
  have s2:=a7T (F:=F) (fuel:=fuel) (k:=63) k63 (a0G (a0g k47) (a0g k31) (b6N hk)) (by kernel_rfl) (by rw [c8u];lia)
  have hfs':(fs.map fun t=>D.str (txt sig t))++[.str (txt sig (perms.getD k []))]=(fs++[perms.getD k []]).map fun t=>D.str (txt sig t):=by rw [c9z];rfl
  rw [hfs'] at s2
  have s3:=fin (σ:=σ₁.set 63 (.own ((fs++[perms.getD k []]).map fun t=>D.str (txt sig t)))) (fs':=fs++[perms.getD k []]) fs.length (by lia) ((a0a (by decide)).trans k31) ((a0a (by decide)).trans k47) ((a0a (by decide)).trans k62) a0m (by simp)
  have s12:evS F fuel σ (.ifs (.cmp .NotEq (.idx (.var 55) (.var 31)) (.var 61)) [.asg 61 false (.idx (.var 55) (.var 31)),.app 63 (.idx (.var 47) (.var 31))] [])=some (.next (σ₁.set 63 (.own ((fs++[perms.getD k []]).map fun t=>D.str (txt sig t))))):=hifs.trans ((a0d s1).trans ((a0d s2).trans rfl))
  refine⟨(σ₁.set 63 (.own ((fs++[perms.getD k []]).map fun t=>D.str (txt sig t)))).set 62 (.ownD (a0E kv (txt sig (perms.getD k [])) ((fs.length:Nat)+1:Int))),a0E kv (txt sig (perms.getD k [])) ((fs.length:Nat)+1:Int),fs++[perms.getD k []],(a0d s12).trans ((a0d s3).trans rfl),?_⟩
  refine⟨nm₁.own.set nofun,(a0a (by decide)).trans ((a0a (by decide)).trans k47),(a0a (by decide)).trans ((a0a (by decide)).trans k55),?_,a0m,(a0a (by decide)).trans a0m,?_,?_,?_,?_,?_,?_⟩
  ·rw [List.getLast?_append];exact (a0a (by decide)).trans ((a0a (by decide)).trans k61)
  ·rw [c8Y,c9A];have:=hdl ((fs.length:Nat)+1:Int);lia
  ·simp;lia
  ·intro x hx
   rcases c8P.mp hx with hx | hx
   ·obtain⟨n,t,h1,h2,h3⟩:=I.rows x hx
    have hn:n<fs.length:=(c8D.mp h2).1
    exact⟨n,t,by rw [old x hx];exact h1,by rw [c9E hn];exact h2,h3⟩
   ·rw [c8C] at hx;subst hx
    exact⟨fs.length,_,new _,by simp,rfl⟩
  ·have fresh:∀ t∈fs,(a1d (acc t)).toList≠(a0N acc k).toList:=fun t ht e=>by
    refine (I.mem t ht).elim fun x Z1=>Z1.elim (fun hx Z2=>?_)
    subst Z2
    cases hl:done.getLast? with
    | none=>rw [List.getLast?_eq_none_iff] at hl;subst hl;cases hx
    | some y=>
     have:=hcont x hx e y hl
     rw [hl] at hq
     simp only [this,c7R,Bool.not_true] at hq
     cases hq
   intro i j t t' h1 h2 e
   by_cases hi:i<fs.length
   ·rw [c9E hi] at h1
    by_cases hj:j<fs.length
    ·rw [c9E hj] at h2
     exact I.apart i j t t' h1 h2 e
    ·rw [List.getElem?_append_right (by lia)] at h2
     have hj0:j - fs.length=0:=by
      have:=(c8D.mp h2).1
      simp at this;lia
     rw [hj0] at h2
     simp at h2
     subst h2
     exact absurd e (fresh t (c8Z h1))
   ·rw [List.getElem?_append_right (by lia)] at h1
    have hi0:i - fs.length=0:=by
     have:=(c8D.mp h1).1
     simp at this;lia
    rw [hi0] at h1
    simp at h1
    subst h1
    by_cases hj:j<fs.length
    ·rw [c9E hj] at h2
     exact absurd e.symm (fresh t' (c8Z h2))
    ·have:=(c8D.mp h2).1
     simp at this;lia
  ·intro t ht
   rcases c8P.mp ht with ht | ht
   ·refine (I.mem t ht).elim fun x Z1=>Z1.elim (fun hx e=>?_)
    exact⟨x,c8R _ hx,e⟩
   ·rw [c8C] at ht;subst ht
    exact⟨k,by simp,rfl⟩
  ·intro x hx
   rw [List.getLast?_append] at hx
   simp at hx
   subst hx
   exact⟨_,by rw [List.getLast?_append];rfl,rfl⟩
 | false=>
  cases hl:done.getLast? with
  | none=>rw [hl] at hq;cases hq
  | some y=>
   rw [hl] at hq
   simp only [Bool.not_eq_false',c7L] at hq
   refine (I.last y hl).elim fun tl Z1=>Z1.elim (fun hft hte=>?_)
   have hne:fs≠[]:=fun q=>by rw [q] at hft;cases hft
   obtain⟨n,hn⟩:∃ n,fs.length=n+1:=by
    cases fs with
    | nil=>exact absurd rfl hne
    | cons a r=>exact⟨r.length,rfl⟩
   have hgl:fs[n]?=some tl:=by
    rw [List.getLast?_eq_getElem?,hn] at hft
    exact hft
   have s1:evS F fuel σ (.ifs (.cmp .NotEq (.idx (.var 55) (.var 31)) (.var 61)) [.asg 61 false (.idx (.var 55) (.var 31)),.app 63 (.idx (.var 47) (.var 31))] [])=some (.next σ):=hifs.trans rfl
   have s3:=fin (σ:=σ) (fs':=fs) n (by lia) h31 I.g47 I.g62 I.g63 hn
   have hkk:a0N acc k=a0N acc y:=Array.toList_inj.mp hq
   refine⟨σ.set 62 (.ownD (a0E kv (txt sig (perms.getD k [])) ((n:Nat)+1:Int))),a0E kv (txt sig (perms.getD k [])) ((n:Nat)+1:Int),fs,(a0d s1).trans ((a0d s3).trans rfl),?_⟩
   refine⟨I.nm.set nofun,(a0a (by decide)).trans I.g47,(a0a (by decide)).trans I.g55,?_,a0m,(a0a (by decide)).trans I.g63,?_,?_,?_,I.apart,?_,?_⟩
   ·have h61:=I.g61
    rw [hl] at h61
    rw [List.getLast?_append]
    refine (a0a (by decide)).trans (h61.trans ?_)
    show _=some (Slot.val (.bytes (a0N acc k)))
    rw [hkk]
   ·rw [c8Y,c9A];have:=hdl ((n:Nat)+1:Int);lia
   ·simp;lia
   ·intro x hx
    rcases c8P.mp hx with hx | hx
    ·obtain⟨n',t,h1,h2,h3⟩:=I.rows x hx
     exact⟨n',t,by rw [old x hx];exact h1,h2,h3⟩
    ·rw [c8C] at hx;subst hx
     exact⟨n,tl,new _,hgl,by rw [hte,hkk]⟩
   ·intro t ht
    refine (I.mem t ht).elim fun x Z1=>Z1.elim (fun hx e=>?_)
    exact⟨x,c8R _ hx,e⟩
   ·intro x hx
    rw [List.getLast?_append] at hx
    simp at hx
    subst hx
    exact⟨tl,hft,by rw [hte,hkk]⟩
end
end
section
open LA (nl a0F a0o perms behind a1s)
structure RowsOK (sig:Nat→Nat)(g:List Bool)(kv:List (Str×Int))(fs:List (List Nat)):Prop where
 look:∀ t∈perms,∃ (n:Nat) (t':List Nat),kv.lookup (txt sig t)=some ((n:Nat)+1:Int)∧fs[n]?=some t'∧(a1s g t').1=(a1s g t).1
 apart:∀ (i j:Nat) (t t':List Nat),fs[i]?=some t→fs[j]?=some t'→(a1s g t).1=(a1s g t').1→i=j
 mem:∀ t∈fs,t∈perms
 len:fs.length≤24
theorem b9k {fuel m:Nat}{sig:Nat→Nat}{rs:List Rdr}(hS:SigOk sig)(hr:∀ r∈rs,r.Ok):∃ kv fs,runG ids a0t fuel (m+1) 98 [a1U (a5Z sig rs),a1y sig] none=some (.tup [.dict kv,.list (fs.map fun t=>.str (txt sig t))])∧RowsOK sig (graphOf sig rs) kv fs:=by
 suffices h:∃ kv fs,a0C (runG ids a0t fuel m) fuel [(55,.val (a1U (a5Z sig rs))),(47,.val (a1y sig))] a5x=some (.ret (.tup [.dict kv,.list (fs.map fun t=>.str (txt sig t))]))∧RowsOK sig (graphOf sig rs) kv fs by
  obtain⟨kv,fs,h1,h2⟩:=h
  exact⟨kv,fs,a2c (df:=⟨98,[55,47],[],[],a5x⟩) rfl (by decide) (by decide) rfl rfl rfl h1,h2⟩
 generalize runG ids a0t fuel m=F
 generalize hacc:a5Z sig rs=acc
 have s0:evS F fuel [(55,.val (a1U acc)),(47,.val (a1y sig))] (.asgRows 61 62 63)=some (.next [(55,.val (a1U acc)),(47,.val (a1y sig)),(63,.own []),(62,.ownD []),(61,.val .none)]):=by kernel_rfl
 refine (a9f (a0N acc) (n:=24) (by decide)).elim fun hperm hsort=>?_
 have hi:=c2p (F:=F) (σ:=[(55,.val (a1U acc)),(47,.val (a1y sig)),(63,.own []),(62,.ownD []),(61,.val .none)]) (sig:=sig) (acc:=acc) (by kernel_rfl) (by kernel_rfl)
 generalize sortIdx (a0N acc) 24=ks at *
 have hnd:ks.Nodup:=hperm.nodup_iff.mpr List.nodup_range
 have hlt:∀ k∈ks,k<24:=fun k hk=>c8l.mp (hperm.mem_iff.mp hk)
 have hlen:ks.length=24:=by rw [hperm.length_eq,c8v]
 let body:Store→D→Option Out:=fun σ d=>(a1c σ (.one 31) d).bind fun σ'=>a0C F fuel σ' b9i
 obtain⟨σ',e,kv,fs,I⟩:=a1F (body:=body) (f:=fun (k:Nat)=>D.int (k:Int)) (all:=ks) (σ:=[(55,.val (a1U acc)),(47,.val (a1y sig)),(63,.own []),(62,.ownD []),(61,.val .none)]) (fun done σ=>∃ kv fs,RW sig acc done σ kv fs)
  ⟨[],[],⟨by intro p hp y;simp at hp;rcases hp with rfl | rfl | rfl | rfl | rfl <;> simp,by kernel_rfl,by kernel_rfl,by kernel_rfl,by kernel_rfl,by kernel_rfl,by simp,by simp,(fun _ h=>nomatch h),(fun i j t t' h=>by simp at h),(fun _ h=>nomatch h),(fun _ h=>by simp at h)⟩⟩ fun done k rest σ hd ⟨kv,fs,I⟩=>by
   have hk:k<24:=hlt k (by rw [← hd];simp)
   have hdl:done.length<24:=by rw [← hlen,← hd];simp
   have hb:body σ (.int (k:Int))=a0C F fuel (σ.set 31 (.val (.int (k:Int)))) b9i:=by
    show ((a1c σ (.one 31) _).bind fun σ'=>a0C F fuel σ' _) = _
    rw [a1p I.nm];rfl
   rw [hb]
   have I₁:RW sig acc done (σ.set 31 (.val (.int (k:Int)))) kv fs:=⟨I.nm.val,(a0a (by decide)).trans I.g47,(a0a (by decide)).trans I.g55,(a0a (by decide)).trans I.g61,(a0a (by decide)).trans I.g62,(a0a (by decide)).trans I.g63,I.kvl,I.fsl,I.rows,I.apart,I.mem,I.last⟩
   have hnd':=hnd
   rw [← hd,List.nodup_append] at hnd'
   have atk:ks.getD done.length 0=k:=by rw [← hd];simp [c8m]
   have atd:∀ (i:Nat) (x:Nat),done[i]?=some x→ks.getD i 0=x:=fun i x h=>by
    have hi:=(c8D.mp h).1
    rw [← hd,c8m,c9E hi,h];rfl
   obtain⟨σ',kv',fs',e,I'⟩:=b9j (F:=F) (fuel:=fuel) hS I₁ a0m hk (by lia) (fun x hx=>⟨hlt x (by rw [← hd];exact c8R _ hx),hnd'.2.2 x hx k (.head _)⟩) fun x hx hxk y hy=>by
    refine (List.mem_iff_getElem?.mp hx).elim fun i hix=>?_
    have hil:=(c8D.mp hix).1
    rw [List.getLast?_eq_getElem?] at hy
    have h1:=hsort i (done.length - 1) (by lia) (by lia)
    have h2:=hsort (done.length - 1) done.length (by lia) hdl
    rw [atd _ _ hix,atd _ _ hy] at h1
    rw [atk,atd _ _ hy] at h2
    rw [hxk] at h1
    exact a2Z _ _ h1 h2
   exact⟨σ',.inl e,kv',fs',I'⟩
 have e':=a2A (F:=F) (fuel:=fuel) (t:=.one 31) (iter:=c4X) (body:=b9i) (by kernel_rfl) hi e
 have f62:=a0Z I.g62 (s':=.val (.dict kv)) rfl
 have f63:=a0Z I.g63 (s':=.val (.list (fs.map fun t=>.str (txt sig t)))) rfl
 refine⟨kv,fs,(a0d s0).trans ((a0d e').trans (a2t (by kernel_rfl) (a4u (a0p f62) (a0p f63) (a0g f62) (a0g f63)))),?_⟩
 have hpk:∀ t∈perms,∃ k,k∈ks∧perms.getD k []=t:=fun t ht=>by
  refine (List.mem_iff_getElem?.mp ht).elim fun k hk=>?_
  have hkl:=(c8D.mp hk).1
  rw [a0y] at hkl
  exact⟨k,hperm.mem_iff.mpr (c8l.mpr hkl),by rw [c8m,hk];rfl⟩
 have hmem:∀ t∈fs,t∈perms:=fun t ht=>by
  refine (I.mem t ht).elim fun k Z1=>Z1.elim (fun hk Z2=>?_)
  subst Z2
  exact a0M (by rw [a0y];exact hlt k hk)
 subst hacc
 refine⟨fun t ht=>?_,fun i j t t' h1 h2 he=>?_,hmem,by have:=I.fsl;lia⟩
 ·refine (hpk t ht).elim fun k Z1=>Z1.elim (fun hk Z2=>?_)
  subst Z2
  obtain⟨n,t',h1,h2,h3⟩:=I.rows k hk
  exact⟨n,t',h1,h2,(b0y hS hr (hmem t' (c8Z h2)) ht).mp h3⟩
 ·exact I.apart i j t t' h1 h2 ((b0y hS hr (hmem t (c8Z h1)) (hmem t' (c8Z h2))).mpr he)
end
section
open LA (nl a0F a0o perms behind a1s)
noncomputable def e69:PE:=.split (.replace (.slice (.var 67) (.yes (.int 10)) (.yes (.neg (.int 6)))) (.str ⟨#[92]⟩) (.str ⟨#[]⟩)) (.str ⟨#[41,40,63,62,46,42,63]⟩)
noncomputable def c4Y:PE:=.or (.cons (.cmp .NotEq (.bin .Add (.slice (.var 67) .no (.yes (.int 10))) (.slice (.var 67) (.yes (.neg (.int 6))) .no)) (.str ⟨#[40,63,115,58,40,63,62,46,42,63,41,46,42,41,92,90]⟩)) (.cons (.cmp .NotEq (.len (.var 69)) (.int 2)) .nil))
noncomputable def is2 (d:Option D)(a b:Nat):Bool:=((d.bind D.asList).bind fun l=>l.mapM D.strG)==some [(⟨#[a]⟩,false),(⟨#[b]⟩,false)]
theorem c4Z {d:Option D}{a b:Nat}(h:is2 d a b=true):d=some (.list [.str ⟨#[a]⟩,.str ⟨#[b]⟩]):=by
 refine a0j (c8d h) fun l h1 h2=>?_
 refine a0j h1 (clear% h1;fun d' Z1 h1=>?_)
 subst Z1
 rw [a2i h1]
 cases l with
 | nil=>cases h2
 | cons x l=>
  rw [c8i] at h2
  refine a0j h2 (clear% h2;fun p hx h2=>?_)
  refine a0j h2 (clear% h2;fun q h2 h3=>?_)
  cases h3
  cases l with
  | nil=>cases h2
  | cons y l=>
   rw [c8i] at h2
   refine a0j h2 (clear% h2;fun p hy h2=>?_)
   refine a0j h2 (clear% h2;fun q h2 h3=>?_)
   cases h3
   cases l with
   | nil=>rw [a3P hx,a3P hy]
   | cons z l=>
    rw [c8i] at h2
    refine a0j h2 (clear% h2;fun p _ h2=>?_)
    refine a0j h2 (clear% h2;fun q _ h3=>?_)
    cases h3
noncomputable def c6S (m:Nat)(F:Fns)(a b:Nat):Bool:=((runG ids a0t 60 (m+3) 68 [.str ⟨#[42,a,42,b,42]⟩ false] none).bind fun d=>d.strG.map fun p=>!p.2&&is2 (evE F [(67,.val (.str p.1))] e69) a b&&evT F [(67,.val (.str p.1)),(69,.val (.list [.str ⟨#[a]⟩,.str ⟨#[b]⟩]))] c4Y==some false)==some true
theorem c5a (m:Nat)(F:Fns):(a1S.all fun a=>a1S.all fun b=>a==b||c6S m F a b)=true:=by kernel_rfl
end
section
open LA (nl a0F a0o perms behind a1s a2x)
noncomputable abbrev b3W:=Nat×Nat
noncomputable def a1j (g:List Bool)(ps:List b3W)(t:List Nat):Nat×Nat:=ps.foldl (fun a p=>if nl g p.1 p.2 then (if behind t p.1 p.2 then a.1+a.2+1 else a.1,2*a.2+1) else a) (0,0)
noncomputable def a1V (g:List Bool)(ps:List b3W):Nat:=ps.foldl (fun a p=>if nl g p.1 p.2 then 2*a+1 else a) 0
theorem a3W {g:List Bool}{ps:List b3W}{p:b3W}{t:List Nat}:a1j g (ps++[p]) t=if nl g p.1 p.2 then (if behind t p.1 p.2 then (a1j g ps t).1+(a1j g ps t).2+1 else (a1j g ps t).1,2*(a1j g ps t).2+1) else a1j g ps t:=by simp [a1j]
theorem a5D {g:List Bool}{ps:List b3W}{p:b3W}:a1V g (ps++[p])=if nl g p.1 p.2 then 2*a1V g ps+1 else a1V g ps:=by simp [a1V]
theorem a5E {g:List Bool}{t:List Nat}(ps:List b3W):(a1j g ps t).2=a1V g ps∧a1V g ps<2 ^ ps.length∧(a1j g ps t).1<2 ^ ps.length:=by
 refine a6k (P:=fun ps=>(a1j g ps t).2=a1V g ps∧a1V g ps<2 ^ ps.length∧(a1j g ps t).1<2 ^ ps.length) ⟨rfl,by simp [a1V],by simp [a1j]⟩ (fun r a ih=>?_) ps
 refine ih.elim (clear% ih;fun h1 Z1=>Z1.elim (fun h2 h3=>?_))
 rw [a3W,a5D,c8Y,c9A,Nat.pow_succ]
 cases nl g a.1 a.2 with
 | false=>simp;exact⟨h1,by lia,by lia⟩
 | true=>
  cases behind t a.1 a.2 with
  | false=>simp [h1];lia
  | true=>simp [h1];lia
theorem c5b (a b c d e f:Bool){t:List Nat}(h:t∈perms):a1s [a,b,c,d,e,f] t=a1j [a,b,c,d,e,f] a0o t:=by
 have:=c8k.mp (c8k.mp (by decide +kernel:(a0F.all fun g=>perms.all fun t=>a1s g t==a1j g a0o t)=true) _ (LA.graphs_all a b c d e f)) t h
 exact c7L.mp this
theorem c5c (a b c d e f:Bool):a2x [a,b,c,d,e,f]=a1V [a,b,c,d,e,f] a0o:=by
 revert a b c d e f;decide +kernel
noncomputable def a2V (j k:Nat):List Nat:=(List.range 4).filter fun i=>!([j,k].contains i)
theorem b9l:(a0F.all fun g=>a0o.all fun q=>((a1s g (q.1 :: q.2 :: a2V q.1 q.2)).1 != (a1s g (q.2 :: q.1 :: a2V q.1 q.2)).1)==nl g q.1 q.2)=true:=by decide +kernel
theorem b9m:(a0o.all fun q=>perms.contains (q.1 :: q.2 :: a2V q.1 q.2)&&perms.contains (q.2 :: q.1 :: a2V q.1 q.2))=true:=by decide +kernel
theorem b3X:(a0o.all fun q=>perms.all fun t=>(t.take (t.idxOf q.1)++q.1 :: t.drop (t.idxOf q.1+1)==t)&&!((t.take (t.idxOf q.1)).contains q.1)&&!((t.drop (t.idxOf q.1+1)).contains q.1)&&((t.drop (t.idxOf q.1+1)).contains q.2==behind t q.1 q.2))=true:=by decide +kernel
section
variable {F:Fns}{fuel:Nat}{σ:Store}{sig:Nat→Nat}{b:Bool}{kv:List (Str×Int)}{fs:List (List Nat)}{g:List Bool}{ps:List b3W}
structure TU (sig:Nat→Nat)(b:Bool)(kv:List (Str×Int))(fs:List (List Nat))(g:List Bool)(σ:Store)(ps:List b3W):Prop where
 nm:NM σ
 g35:σ.get 35=some (.val (rnd sig ([0,1,2,3],b)))
 g62:σ.get 62=some (.val (.dict kv))
 g63:σ.get 63=some (.val (.list (fs.map fun t=>.str (txt sig t))))
 g65:σ.get 65=some (.val (.list (fs.map fun t=>.int ((a1j g ps t).1:Nat))))
 g66:σ.get 66=some (.val (.int (a1V g ps:Nat)))
theorem TU.set (h:TU sig b kv fs g σ ps){x:Nat}{d:D}(h1:35≠x)(h2:62≠x)(h3:63≠x)(h4:65≠x)(h5:66≠x):TU sig b kv fs g (σ.set x (.val d)) ps:=
 ⟨h.nm.val,(a0a h1).trans h.g35,(a0a h2).trans h.g62,(a0a h3).trans h.g63,(a0a h4).trans h.g65,(a0a h5).trans h.g66⟩
theorem a3X {j:Nat}(hj:j<4):a4C (rnd sig ([0,1,2,3],b)) (.int (j:Int))=some (rnd sig ([j],true)):=by
 refine a4Z ?_ (show (4:Nat)≤16777216 by decide)
 show ((List.range 4).map sig).toArray[j]? = _
 rw [c8q,c8M,c9p hj]
 rfl
noncomputable def e67:PE:=.call 68 (.cons (.bin .Add (.bin .Add (.bin .Add (.bin .Add (.str ⟨#[42]⟩) (.idx (.var 35) (.var 64))) (.str ⟨#[42]⟩)) (.idx (.var 35) (.var 31))) (.str ⟨#[42]⟩)) .nil) .no
noncomputable def e70:PE:=.join (.str ⟨#[]⟩) (.comp [35,64,31] (.var 39) (.one 39) (.var 35) (.cons (.cmp .NotIn (.var 39) (.list (.cons (.idx (.var 35) (.var 64)) (.cons (.idx (.var 35) (.var 31)) .nil)))) .nil) .nil)
theorem b6O (sig:Nat→Nat){j k:Nat}(h:(j,k)∈a0o):JoinOk ⟨#[]⟩ ((a2V j k).map fun i=>(⟨#[sig i]⟩:Str))=true∧Txt.join ⟨#[]⟩ ((a2V j k).map fun i=>(⟨#[sig i]⟩:Str))=⟨((a2V j k).map sig).toArray⟩:=by
 simp only [a0o,c8o,List.not_mem_nil,or_false,Prod.mk.injEq] at h
 rcases h with⟨rfl,rfl⟩ | ⟨rfl,rfl⟩ | ⟨rfl,rfl⟩ | ⟨rfl,rfl⟩ | ⟨rfl,rfl⟩ | ⟨rfl,rfl⟩
 all_goals exact⟨by kernel_rfl,by kernel_rfl⟩
theorem b6P (hS:SigOk sig){j k:Nat}(h:(j,k)∈a0o)(hj:j<4)(hk:k<4)(h35:σ.get 35=some (.val (rnd sig ([0,1,2,3],b))))(h64:σ.get 64=some (.val (.int (j:Int))))(h31:σ.get 31=some (.val (.int (k:Int)))) :
  evE F σ e70=some (rnd sig (a2V j k,false)):=by
 have e:evE F σ (.comp [35,64,31] (.var 39) (.one 39) (.var 35) (.cons (.cmp .NotIn (.var 39) (.list (.cons (.idx (.var 35) (.var 64)) (.cons (.idx (.var 35) (.var 31)) .nil)))) .nil) .nil)=some (.list ((a2V j k).map fun i=>rnd sig ([i],false))):=by
  refine a0X (xs:=List.range 4) (f:=fun i=>rnd sig ([i],false)) (p:=fun i=>!([j,k].contains i)) (σ₀:=[(35,.val (rnd sig ([0,1,2,3],b))),(64,.val (.int (j:Int))),(31,.val (.int (k:Int)))]) ?_ (a5j h35 h64 h31) (fun i hi=>?_) (by simp)
  ·exact a1t h35 (a2B hS.lt)
  ·have hi:=c8l.mp hi
   refine⟨[(35,.val (rnd sig ([0,1,2,3],b))),(64,.val (.int (j:Int))),(31,.val (.int (k:Int))),(39,.val (rnd sig ([i],false)))],by kernel_rfl,?_,fun _=>⟨by kernel_rfl,by kernel_rfl⟩⟩
   have el:evE F [(35,.val (rnd sig ([0,1,2,3],b))),(64,.val (.int (j:Int))),(31,.val (.int (k:Int))),(39,.val (rnd sig ([i],false)))] (.list (.cons (.idx (.var 35) (.var 64)) (.cons (.idx (.var 35) (.var 31)) .nil)))=some (.list ([j,k].map fun i=>rnd sig ([i],true))):=by
    have:=a1k (F:=F) (σ:=[(35,.val (rnd sig ([0,1,2,3],b))),(64,.val (.int (j:Int))),(31,.val (.int (k:Int))),(39,.val (rnd sig ([i],false)))]) (ea:=.idx (.var 35) (.var 64)) (eb:=.idx (.var 35) (.var 31)) (by kernel_rfl) (by kernel_rfl) (a0G (by kernel_rfl) (by kernel_rfl) (a3X (sig:=sig) (b:=b) hj)) (a0G (by kernel_rfl) (by kernel_rfl) (a3X (sig:=sig) (b:=b) hk))
    exact b6b this (by decide:2≤16777216)
   refine a5a (a0Y (x:=rnd sig ([i],false)) (by kernel_rfl) el ?_)
   exact a1h (b1x hS.toSig (l:=[j,k]) (fun x hx=>(c8o.mp hx).elim (fun e=>e ▸ hj) fun hx=>c8C.mp hx ▸ hk) hi (fl:=fun _=>true)) rfl
 refine (b6O sig h).elim fun j1 j2=>?_
 unfold e70
 exact (b6G a2u e (a1g (f:=D.asStr) (e:=fun i=>rnd sig ([i],false)) (g:=fun i=>(⟨#[sig i]⟩:Str)) fun i _=>rfl) j1).trans (c7H (fun s=>some (D.str s false)) j2)
theorem b9n {ea eb:PE}{x y:Str}{g g':Bool}(h1:evE F σ ea=some (.str x g))(h2:evE F σ eb=some (.str y g'))(h3:(!(y.length==0)&&a0O (x.length+2))=true):evE F σ (.split ea eb)=some (.list ((Txt.split x y).map fun z=>.str z)):=by
 show (evE F σ ea).bind _ = _
 exact a0c h1 (a0c h2 (a0c (a:=x) rfl (a0c (a:=y) rfl (a0n h3))))
noncomputable def e71:PE:=.comp [69] (.cmp .In (.idx (.var 69) (.int 1)) (.idx (.split (.var 29) (.idx (.var 69) (.int 0))) (.neg (.int 1)))) (.one 29) (.var 63) .nil .nil
theorem b9o (hS:SigOk sig){j k:Nat}(h:(j,k)∈a0o)(hj:j<4)(hk:k<4)(hfs:∀ t∈fs,t∈perms)(hfl:fs.length≤24)(h69:σ.get 69=some (.val (.list [.str ⟨#[sig j]⟩,.str ⟨#[sig k]⟩])))(h63:σ.get 63=some (.val (.list (fs.map fun t=>.str (txt sig t))))) :
  evE F σ e71=some (.list (fs.map fun t=>.bool (behind t j k))):=by
 refine a1b (xs:=fs) (f:=fun t=>.str (txt sig t)) (σ₀:=[(69,.val (.list [.str ⟨#[sig j]⟩,.str ⟨#[sig k]⟩]))]) (a1t h63 rfl) (a2R h69 nofun) (fun t ht=>?_) (by lia)
 have htp:=hfs t ht
 have hc:=c8k.mp (c8k.mp b3X (j,k) h) t htp
 simp only [c7S,c7L,Bool.not_eq_true'] at hc
 obtain⟨⟨⟨c1,c2⟩,c3⟩,c4⟩:=hc
 generalize hA:t.take (t.idxOf j)=A at *
 generalize hB:t.drop (t.idxOf j+1)=B at *
 have lt4:=a3g htp
 have inj:∀ (l:List Nat) (i:Nat),i<4→(∀ x∈l,x<4)→((l.map sig).contains (sig i)=l.contains i):=fun l i hi hl=>by
  rw [c8j,c9f,c9f,c9n]
  constructor
  ·rintro⟨x,hx,e⟩;rw [← hS.inj x i (hl x hx) hi e];exact hx
  ·intro h;exact⟨i,h,rfl⟩
 have la:∀ x∈A,x<4:=fun x hx=>lt4 x (by rw [← c1];exact c8R _ hx)
 have lb:∀ x∈B,x<4:=fun x hx=>lt4 x (by rw [← c1];exact c8Q _ (c8O _ hx))
 have na:sig j ∉ A.map sig:=fun q=>by rw [← c9f,inj A j hj la,c2] at q;cases q
 have nb:sig j ∉ B.map sig:=fun q=>by rw [← c9f,inj B j hj lb,c3] at q;cases q
 have hx:txt sig t=⟨(A.map sig++sig j :: B.map sig).toArray⟩:=by
  unfold txt
  conv=>lhs;rw [← c1]
  rw [c9z,c9g]
 have hsp:=b6p na nb
 rw [← hx] at hsp
 refine⟨[(69,.val (.list [.str ⟨#[sig j]⟩,.str ⟨#[sig k]⟩])),(29,.val (.str (txt sig t)))],by kernel_rfl,by kernel_rfl,?_⟩
 generalize hσ:[(69,Slot.val (.list [.str ⟨#[sig j]⟩,.str ⟨#[sig k]⟩])),(29,.val (.str (txt sig t)))]=σ₁
 have v69:evE F σ₁ (.var 69)=some (.list [.str ⟨#[sig j]⟩,.str ⟨#[sig k]⟩]):=by subst hσ;kernel_rfl
 have v29:evE F σ₁ (.var 29)=some (.str (txt sig t)):=by subst hσ;kernel_rfl
 have v0:evE F σ₁ (.idx (.var 69) (.int 0))=some (.str ⟨#[sig j]⟩):=a0G v69 a0z rfl
 have v1:evE F σ₁ (.idx (.var 69) (.int 1))=some (.str ⟨#[sig k]⟩):=a0G v69 a0z rfl
 have vs:evE F σ₁ (.split (.var 29) (.idx (.var 69) (.int 0)))=some (.list [.str ⟨(A.map sig).toArray⟩,.str ⟨(B.map sig).toArray⟩]):=by
  have h4:(txt sig t).length=4:=b8C.trans (a2U htp).length_eq
  rw [b9n v29 v0 (show (!((1:Nat)==0)&&a0O ((txt sig t).length+2))=true by rw [h4];rfl),hsp]
  rfl
 have vl:evE F σ₁ (.idx (.split (.var 29) (.idx (.var 69) (.int 0))) (.neg (.int 1)))=some (.str ⟨(B.map sig).toArray⟩):=a0G vs (b9V a0z) rfl
 show (evE F σ₁ (.idx (.var 69) (.int 1))).bind _ = _
 exact a0c v1 (a0c vl (a1h (c7H some ((b6o ⟨(B.map sig).toArray⟩ (sig k)).trans ((inj B k hk lb).trans c4))) rfl))
end
end
section
open LA (nl a0F a0o perms behind a1s a2x)
section
variable {F:Fns}{fuel:Nat}{σ:Store}{sig:Nat→Nat}{b:Bool}{kv:List (Str×Int)}{fs:List (List Nat)}{g:List Bool}{ps:List b3W}
noncomputable def e65:PE:=.comp [71,65,66] (.ite (.idx (.var 71) (.var 13)) (.bin .Add (.bin .Add (.idx (.var 65) (.var 13)) (.var 66)) (.int 1)) (.idx (.var 65) (.var 13))) (.one 13) (.range1 (.len (.var 63))) .nil .nil
noncomputable def c2q:PE:=.cmp .NotEq (.idx (.var 62) (.bin .Add (.bin .Add (.idx (.var 35) (.var 64)) (.idx (.var 35) (.var 31))) (.var 70))) (.idx (.var 62) (.bin .Add (.bin .Add (.idx (.var 35) (.var 31)) (.idx (.var 35) (.var 64))) (.var 70)))
noncomputable def uIn:List PS:=[.asg 71 false e71,.asg 65 false e65,.asg 66 false (.bin .Add (.bin .Mult (.int 2) (.var 66)) (.int 1))]
noncomputable def a9g:List PS:=[.asg 67 false e67,.asg 69 false e69,.ifs c4Y [.ret .none] [],.asg 70 false e70,.ifs c2q uIn []]
theorem b6Q {σ':Store}{op:Operator}{ea eb:PE}(h1:evE F σ ea=evE F σ' ea)(h2:evE F σ eb=evE F σ' eb):evE F σ (.bin op ea eb)=evE F σ' (.bin op ea eb):=by
 show ((evE F σ ea).bind fun x=>(evE F σ eb).bind fun y=>a2M op x y) = _
 rw [h1,h2]
 rfl
theorem b0z {σ':Store}{op:CmpOp}{ea eb:PE}(h1:evE F σ ea=evE F σ' ea)(h2:evE F σ eb=evE F σ' eb):evT F σ (.cmp op ea eb)=evT F σ' (.cmp op ea eb):=by
 show ((evE F σ ea).bind fun x=>(evE F σ eb).bind fun y=>a6p op x y) = _
 rw [h1,h2]
 rfl
theorem b6R {σ':Store}{a b:PE}(h1:evT F σ a=evT F σ' a)(h2:evT F σ b=evT F σ' b):evT F σ (.or (.cons a (.cons b .nil)))=evT F σ' (.or (.cons a (.cons b .nil))):=by
 show (evT F σ a).bind _=(evT F σ' a).bind _
 rw [h1]
 cases evT F σ' a with
 | none=>rfl
 | some q=>
  cases q with
  | true=>rfl
  | false=>
   show (evT F σ b).bind _=(evT F σ' b).bind _
   rw [h2]
   rfl
theorem c5d {d:D}(h:σ.get 67=some (.val d)):evE F σ e69=evE F [(67,.val d)] e69:=by
 have e:evE F σ (.var 67)=evE F [(67,.val d)] (.var 67):=a0g h
 show Option.bind (Option.bind (Option.bind (evE F σ (.var 67)) _) _) _=Option.bind (Option.bind (Option.bind (evE F [(67,.val d)] (.var 67)) _) _) _
 rw [e]
 rfl
theorem c2r {d e:D}(h:σ.get 67=some (.val d))(h':σ.get 69=some (.val e)):evT F σ c4Y=evT F [(67,.val d),(69,.val e)] c4Y:=by
 have v:evE F σ (.var 67)=evE F [(67,.val d),(69,.val e)] (.var 67):=a0g h
 have w:evE F σ (.var 69)=evE F [(67,.val d),(69,.val e)] (.var 69):=a0g h'
 refine b6R (b0z (b6Q ?_ ?_) rfl) (b0z ?_ rfl)
 ·show (evE F σ (.var 67)).bind _=(evE F _ (.var 67)).bind _
  rw [v]
  rfl
 ·show (evE F σ (.var 67)).bind _=(evE F _ (.var 67)).bind _
  rw [v]
  rfl
 ·show (evE F σ (.var 69)).bind _=(evE F _ (.var 69)).bind _
  rw [w]
theorem b3Y {j k:Nat}(hfl:fs.length≤24)(h71:σ.get 71=some (.val (.list (fs.map fun t=>.bool (behind t j k)))))(h65:σ.get 65=some (.val (.list (fs.map fun t=>.int ((a1j g ps t).1:Nat)))))(h66:σ.get 66=some (.val (.int (a1V g ps:Nat))))
  (h63:σ.get 63=some (.val (.list (fs.map fun t=>.str (txt sig t))))):evE F σ e65=some (.list (fs.map fun t=>.int ((if behind t j k then (a1j g ps t).1+a1V g ps+1 else (a1j g ps t).1:Nat):Int))):=by
 have hl:evE F σ (.len (.var 63))=some (.int (fs.length:Int)):=a2z (a0g h63) (a4v rfl) (by lia)
 have:=a1b (F:=F) (σ:=σ) (fv:=[71,65,66]) (elt:=.ite (.idx (.var 71) (.var 13)) (.bin .Add (.bin .Add (.idx (.var 65) (.var 13)) (.var 66)) (.int 1)) (.idx (.var 65) (.var 13))) (t:=.one 13) (iter:=.range1 (.len (.var 63))) (xs:=List.range fs.length) (f:=fun (i:Nat)=>.int (i:Int))
  (g:=fun i=>.int ((if behind (fs.getD i []) j k then (a1j g ps (fs.getD i [])).1+a1V g ps+1 else (a1j g ps (fs.getD i [])).1:Nat):Int)) (σ₀:=[(71,.val (.list (fs.map fun t=>.bool (behind t j k)))),(65,.val (.list (fs.map fun t=>.int ((a1j g ps t).1:Nat)))),(66,.val (.int (a1V g ps:Nat)))])
  (a1E hl (by lia)) (a5j h71 h65 h66) (fun i hi=>?_) (by simp;lia)
 ·unfold e65
  rw [this]
  congr 2
  apply List.ext_getElem?
  intro i
  rw [c8M,c8M]
  by_cases hi:i<fs.length
  ·rw [c9p hi,c8n hi,c9x,c9x,c8m,c8n hi];rfl
  ·rw [c8X (by simp;lia),c8X (by lia)];rfl
 ·have hi:=c8l.mp hi
  generalize hσ:[(71,Slot.val (.list (fs.map fun t=>.bool (behind t j k)))),(65,.val (.list (fs.map fun t=>.int ((a1j g ps t).1:Nat)))),(66,.val (.int (a1V g ps:Nat))),(13,.val (.int (i:Int)))]=σ₁
  refine⟨σ₁,by subst hσ;kernel_rfl,by kernel_rfl,?_⟩
  have v71:evE F σ₁ (.var 71)=some (.list (fs.map fun t=>.bool (behind t j k))):=by subst hσ;kernel_rfl
  have v65:evE F σ₁ (.var 65)=some (.list (fs.map fun t=>.int ((a1j g ps t).1:Nat))):=by subst hσ;kernel_rfl
  have v66:evE F σ₁ (.var 66)=some (.int (a1V g ps:Nat)):=by subst hσ;kernel_rfl
  have v13:evE F σ₁ (.var 13)=some (.int (i:Int)):=by subst hσ;kernel_rfl
  have at':∀ (h:List Nat→D),a4C (.list (fs.map h)) (.int (i:Int))=some (h (fs.getD i [])):=fun h=>by
   refine a1D ?_ (by rw [c8u];lia)
   rw [c8M,c8n hi,c9x,c8m,c8n hi,Option.getD_some]
  have i71:evE F σ₁ (.idx (.var 71) (.var 13))=some (.bool (behind (fs.getD i []) j k)):=a0G v71 v13 (at' fun t=>.bool (behind t j k))
  have i65:evE F σ₁ (.idx (.var 65) (.var 13))=some (.int ((a1j g ps (fs.getD i [])).1:Nat)):=a0G v65 v13 (at' fun t=>.int ((a1j g ps t).1:Nat))
  have hsum:evE F σ₁ (.bin .Add (.bin .Add (.idx (.var 65) (.var 13)) (.var 66)) (.int 1))=some (.int (((a1j g ps (fs.getD i [])).1+a1V g ps+1:Nat):Int)):=by
   refine a0l (a0l i65 v66 rfl) a0z ?_
   rfl
  have ht:evT F σ₁ (.idx (.var 71) (.var 13))=some (behind (fs.getD i []) j k):=by
   have h1:a4C (.list (fs.map fun t=>.bool (behind t j k))) (.int (i:Int))=some (.bool (behind (fs.getD i []) j k)):=at' fun t=>.bool (behind t j k)
   show (evE F σ₁ (.var 71)).bind _ = _
   exact a0c v71 (a0c v13 (a0c h1 rfl))
  have hite:∀ (t a c:PE) (q:Bool),evT F σ₁ t=some q→evE F σ₁ (.ite t a c)=if q then evE F σ₁ a else evE F σ₁ c:=fun t a c q h=>by
   show (evT F σ₁ t).bind _ = _
   exact a0c h (by cases q <;> rfl)
  rw [hite _ _ _ _ ht]
  cases behind (fs.getD i []) j k with
  | true=>simpa using hsum
  | false=>simpa using i65
theorem b1E {m:Nat}(hF:F=runG ids a0t 60 (m+3))(hS:SigOk sig)(hg:g∈a0F)(R:RowsOK sig g kv fs){j k:Nat}(h:(j,k)∈a0o)(hj:j<4)(hk:k<4)(hne:j≠k)(hpl:ps.length≤6)(I:TU sig b kv fs g σ ps)(h64:σ.get 64=some (.val (.int (j:Int))))(h31:σ.get 31=some (.val (.int (k:Int)))) :
  ∃ σ',a0C F 60 σ a9g=some (.next σ')∧TU sig b kv fs g σ' (ps++[(j,k)])∧σ'.get 64=some (.val (.int (j:Int))):=by
 have hsne:sig j≠sig k:=fun e=>hne (hS.inj j k hj hk e)
 have hc:=c8k.mp (c8k.mp (c5a m F) (sig j) (hS.mem j hj)) (sig k) (hS.mem k hk)
 rw [Bool.or_eq_true,c7L] at hc
 have hc:=hc.resolve_left hsne
 refine a0j (c8d hc) fun d hX hc=>?_
 obtain⟨⟨X,gX⟩,hs,hc⟩:=mpd hc
 rw [← hF,a3P hs] at hX
 refine a0b hc (clear% hc;fun hc c2=>?_)
 refine a0b hc (clear% hc;fun c0 c1=>?_)
 rw [show gX=false from a2w c0] at hX
 have c1:=c4Z c1
 have c2:=c8d c2
 have a1:evE F σ (.bin .Add (.bin .Add (.bin .Add (.bin .Add (.str ⟨#[42]⟩) (.idx (.var 35) (.var 64))) (.str ⟨#[42]⟩)) (.idx (.var 35) (.var 31))) (.str ⟨#[42]⟩))=some (.str ⟨#[42,sig j,42,sig k,42]⟩):=
  a0l (a0l (a0l (a0l a2u (a0G (a0g I.g35) (a0g h64) (a3X hj)) (z:=.str ⟨#[42,sig j]⟩) (by kernel_rfl)) a2u (z:=.str ⟨#[42,sig j,42]⟩) (by kernel_rfl)) (a0G (a0g I.g35) (a0g h31) (a3X hk)) (z:=.str ⟨#[42,sig j,42,sig k]⟩) (by kernel_rfl)) a2u (by kernel_rfl)
 have s1:=a0u (F:=F) (fuel:=60) (k:=67) I.nm (by kernel_rfl) (by kernel_rfl) (a0L (F:=F) (f:=68) (a1G (by kernel_rfl) a1) hX)
 have I₁:=I.set (x:=67) (d:=.str X) (by decide) (by decide) (by decide) (by decide) (by decide)
 have k64:(σ.set 67 (.val (.str X))).get 64 = _:=(a0a (by decide)).trans h64
 have k31:(σ.set 67 (.val (.str X))).get 31 = _:=(a0a (by decide)).trans h31
 have k67:(σ.set 67 (.val (.str X))).get 67=some (.val (.str X)):=a0m
 generalize σ.set 67 (.val (.str X))=σ₁ at *
 have s2:=a0u (F:=F) (fuel:=60) (k:=69) I₁.nm (by kernel_rfl) (by kernel_rfl) ((c5d k67).trans c1)
 have I₂:=I₁.set (x:=69) (d:=.list [.str ⟨#[sig j]⟩,.str ⟨#[sig k]⟩]) (by decide) (by decide) (by decide) (by decide) (by decide)
 have k64₂:(σ₁.set 69 (.val (.list [.str ⟨#[sig j]⟩,.str ⟨#[sig k]⟩]))).get 64 = _:=(a0a (by decide)).trans k64
 have k31₂:(σ₁.set 69 (.val (.list [.str ⟨#[sig j]⟩,.str ⟨#[sig k]⟩]))).get 31 = _:=(a0a (by decide)).trans k31
 have k67₂:(σ₁.set 69 (.val (.list [.str ⟨#[sig j]⟩,.str ⟨#[sig k]⟩]))).get 67 = _:=(a0a (by decide)).trans k67
 have k69₂:(σ₁.set 69 (.val (.list [.str ⟨#[sig j]⟩,.str ⟨#[sig k]⟩]))).get 69=some (.val (.list [.str ⟨#[sig j]⟩,.str ⟨#[sig k]⟩])):=a0m
 generalize σ₁.set 69 (.val (.list [.str ⟨#[sig j]⟩,.str ⟨#[sig k]⟩]))=σ₂ at *
 have s3:evS F 60 σ₂ (.ifs c4Y [.ret .none] [])=some (.next σ₂):=(a0U ((c2r k67₂ k69₂).trans c2)).trans rfl
 have s4:=a0u (F:=F) (fuel:=60) (k:=70) I₂.nm (by kernel_rfl) (by kernel_rfl) (b6P (F:=F) hS h hj hk I₂.g35 k64₂ k31₂)
 have I₃:=I₂.set (x:=70) (d:=rnd sig (a2V j k,false)) (by decide) (by decide) (by decide) (by decide) (by decide)
 have k64₃:(σ₂.set 70 (.val (rnd sig (a2V j k,false)))).get 64 = _:=(a0a (by decide)).trans k64₂
 have k31₃:(σ₂.set 70 (.val (rnd sig (a2V j k,false)))).get 31 = _:=(a0a (by decide)).trans k31₂
 have k69₃:(σ₂.set 70 (.val (rnd sig (a2V j k,false)))).get 69 = _:=(a0a (by decide)).trans k69₂
 have k70₃:(σ₂.set 70 (.val (rnd sig (a2V j k,false)))).get 70=some (.val (rnd sig (a2V j k,false))):=a0m
 generalize σ₂.set 70 (.val (rnd sig (a2V j k,false)))=σ₃ at *
 have hr4:(a2V j k).length≤4:=by
  unfold a2V
  have:=c9y (fun i=>!([j,k].contains i)) (List.range 4)
  rwa [c8v] at this
 have tp:=c8k.mp b9m (j,k) h
 simp only [c7S,c9f] at tp
 obtain⟨n1,t1,l1,f1,m1⟩:=R.look _ tp.1
 obtain⟨n2,t2,l2,f2,m2⟩:=R.look _ tp.2
 have key:∀ (x y:Nat) (ex ey:PE),evE F σ₃ ex=some (rnd sig ([x],true))→evE F σ₃ ey=some (rnd sig ([y],true))→evE F σ₃ (.bin .Add (.bin .Add ex ey) (.var 70))=some (rnd sig (x :: y :: a2V j k,false)):=fun x y ex ey h1 h2=>
  a0l (a0l h1 h2 (a4w (p:=([x],true)) (q:=([y],true)) (by simp))) (a0g k70₃) (a4w (p:=([x]++[y],false)) (q:=(a2V j k,false)) (by simp;lia))
 have vj:evE F σ₃ (.idx (.var 35) (.var 64))=some (rnd sig ([j],true)):=a0G (a0g I₃.g35) (a0g k64₃) (a3X hj)
 have vk:evE F σ₃ (.idx (.var 35) (.var 31))=some (rnd sig ([k],true)):=a0G (a0g I₃.g35) (a0g k31₃) (a3X hk)
 have r1:evE F σ₃ (.idx (.var 62) (.bin .Add (.bin .Add (.idx (.var 35) (.var 64)) (.idx (.var 35) (.var 31))) (.var 70)))=some (.int ((n1:Nat)+1:Int)):=by
  refine a0G (a0g I₃.g62) (key j k _ _ vj vk) ?_
  show (kv.lookup (txt sig _)).map _ = _
  rw [l1];rfl
 have r2:evE F σ₃ (.idx (.var 62) (.bin .Add (.bin .Add (.idx (.var 35) (.var 31)) (.idx (.var 35) (.var 64))) (.var 70)))=some (.int ((n2:Nat)+1:Int)):=by
  refine a0G (a0g I₃.g62) (key k j _ _ vk vj) ?_
  show (kv.lookup (txt sig _)).map _ = _
  rw [l2];rfl
 have hnl:(n1 != n2)=nl g j k:=by
  have hm:=c8k.mp (c8k.mp b9l g hg) (j,k) h
  rw [c7L] at hm
  rw [← hm,c8j,bne_iff_ne,bne_iff_ne]
  refine not_congr ⟨fun e=>?_,fun e=>?_⟩
  ·subst e
   rw [f1] at f2
   cases f2
   rw [← m1,← m2]
  ·exact R.apart n1 n2 t1 t2 f1 f2 (by rw [m1,m2];exact e)
 have t5:evT F σ₃ c2q=some (nl g j k):=by
  refine a0Y r1 r2 ?_
  rw [← hnl]
  refine c7H (fun b:Bool=>some (!b)) (show (((n1:Nat)+1:Int)==((n2:Nat)+1:Int))=(n1==n2) from ?_)
  rw [c8j,c7L,c7L]
  lia
 have hifs:=a0U (F:=F) (fuel:=60) (A:=uIn) (B:=[]) t5
 have pre:∀ o,evS F 60 σ₃ (.ifs c2q uIn [])=some (.next o)→a0C F 60 σ a9g=some (.next o):=fun o ho=>(a0d s1).trans ((a0d s2).trans ((a0d s3).trans ((a0d s4).trans ((a0d ho).trans rfl))))
 have hsn:∀ t,a1j g (ps++[(j,k)]) t = _:=fun t=>a3W
 cases hq:nl g j k with
 | false=>
  rw [hq] at hifs
  refine⟨σ₃,pre _ (hifs.trans rfl),⟨I₃.nm,I₃.g35,I₃.g62,I₃.g63,?_,?_⟩,k64₃⟩
  ·rw [I₃.g65]
   simp only [a3W,hq]
   rfl
  ·rw [I₃.g66,a5D]
   simp only [hq]
   rfl
 | true=>
  rw [hq] at hifs
  simp only [if_true] at hifs
  have q1:=a0u (F:=F) (fuel:=60) (k:=71) I₃.nm (by kernel_rfl) (by kernel_rfl) (b9o (F:=F) hS h hj hk R.mem R.len k69₃ I₃.g63)
  have I₄:=I₃.set (x:=71) (d:=.list (fs.map fun t=>.bool (behind t j k))) (by decide) (by decide) (by decide) (by decide) (by decide)
  have k64₄:(σ₃.set 71 (.val (.list (fs.map fun t=>.bool (behind t j k))))).get 64 = _:=(a0a (by decide)).trans k64₃
  have k71:(σ₃.set 71 (.val (.list (fs.map fun t=>.bool (behind t j k))))).get 71=some (.val (.list (fs.map fun t=>.bool (behind t j k)))):=a0m
  generalize σ₃.set 71 (.val (.list (fs.map fun t=>.bool (behind t j k))))=σ₄ at *
  have q2:=a0u (F:=F) (fuel:=60) (k:=65) I₄.nm (by kernel_rfl) (by kernel_rfl) (b3Y (F:=F) R.len k71 I₄.g65 I₄.g66 I₄.g63)
  have k66:(σ₄.set 65 (.val (.list (fs.map fun t=>.int ((if behind t j k then (a1j g ps t).1+a1V g ps+1 else (a1j g ps t).1:Nat):Int))))).get 66 = _:=(a0a (by decide)).trans I₄.g66
  have hfull:a1V g ps<2 ^ 6:=c7F (a5E (t:=[]) ps).2.1 (Nat.pow_le_pow_right (by decide) hpl)
  have e66:evE F (σ₄.set 65 (.val (.list (fs.map fun t=>.int ((if behind t j k then (a1j g ps t).1+a1V g ps+1 else (a1j g ps t).1:Nat):Int))))) (.bin .Add (.bin .Mult (.int 2) (.var 66)) (.int 1))=some (.int ((2*a1V g ps+1:Nat):Int)):=by
   refine a0l (a0l a0z (a0g k66) (a3K (b:=6) (c:=6) (by decide) (by rw [c9D];exact hfull) (by decide))) a0z ?_
   rfl
  have q3:=a0u (F:=F) (fuel:=60) (k:=66) (I₄.nm.val (x:=65) (d:=.list (fs.map fun t=>.int ((if behind t j k then (a1j g ps t).1+a1V g ps+1 else (a1j g ps t).1:Nat):Int)))) (by kernel_rfl) (by kernel_rfl) e66
  refine⟨_,pre _ (hifs.trans ((a0d q1).trans ((a0d q2).trans ((a0d q3).trans rfl)))),⟨I₄.nm.val.val,(a0a (by decide)).trans ((a0a (by decide)).trans I₄.g35),(a0a (by decide)).trans ((a0a (by decide)).trans I₄.g62),(a0a (by decide)).trans ((a0a (by decide)).trans I₄.g63),?_,?_⟩,(a0a (by decide)).trans ((a0a (by decide)).trans k64₄)⟩
  ·refine (a0a (by decide)).trans (a0m.trans ?_)
   simp only [a3W,hq,if_true,(a5E (g:=g) ps).1]
  ·rw [a0m,a5D]
   simp only [hq,if_true]
end
end
section
open LA (nl a0F a0o perms behind a1s a2x)
section
variable {F:Fns}{σ:Store}{sig:Nat→Nat}{b:Bool}{kv:List (Str×Int)}{fs:List (List Nat)}{g:List Bool}{ps:List b3W}
noncomputable def c5x (j:Nat):List b3W:=(List.range (3 - j)).map fun i=>(j,j+1+i)
theorem b9p:((List.range 4).all fun j=>(List.range (3 - j)).all fun i=>a0o.contains (j,j+1+i))=true:=by kernel_rfl
theorem b9q {j i:Nat}(hj:j<4)(hi:i<3 - j):(j,j+1+i)∈a0o:=
 c9f.mp (c8k.mp (c8k.mp b9p j (c8l.mpr hj)) i (c8l.mpr hi))
theorem b0A {m:Nat}(hF:F=runG ids a0t 60 (m+3))(hS:SigOk sig)(hg:g∈a0F)(R:RowsOK sig g kv fs){j:Nat}(hj:j<4)(hpl:ps.length+(3 - j)≤6)(I:TU sig b kv fs g σ ps)(h64:σ.get 64=some (.val (.int (j:Int)))) :
  ∃ σ',evS F 60 σ (.for (.one 31) (.range2 (.bin .Add (.var 64) (.int 1)) (.int 4)) a9g)=some (.next σ')∧TU sig b kv fs g σ' (ps++c5x j):=by
 let body:Store→D→Option Out:=fun σ d=>(a1c σ (.one 31) d).bind fun σ'=>a0C F 60 σ' a9g
 obtain⟨σ',e,I',_⟩:=a1F (body:=body) (f:=fun (i:Nat)=>D.int ((j+1+i:Nat):Int)) (all:=List.range (3 - j)) (σ:=σ) (fun done σ=>TU sig b kv fs g σ (ps++done.map fun i=>(j,j+1+i))∧σ.get 64=some (.val (.int (j:Int)))) ⟨by simpa using I,h64⟩ fun done i rest σ hd ⟨I,h64⟩=>by
  have hi:i<3 - j:=c8l.mp (show i∈List.range (3 - j) by rw [← hd];simp)
  have hdl:done.length<3 - j:=by have:=c7H List.length hd;simp at this;lia
  have hb:body σ (.int ((j+1+i:Nat):Int))=a0C F 60 (σ.set 31 (.val (.int ((j+1+i:Nat):Int)))) a9g:=by
   show ((a1c σ (.one 31) _).bind fun σ'=>a0C F 60 σ' _) = _
   rw [a1p I.nm];rfl
  rw [hb]
  obtain⟨σ',e,I',h'⟩:=b1E hF hS hg R (b9q hj hi) hj (by lia) (by lia) (by rw [c8Y,c8u];lia) (I.set (x:=31) (d:=.int ((j+1+i:Nat):Int)) (by decide) (by decide) (by decide) (by decide) (by decide)) ((a0a (by decide)).trans h64) a0m
  exact⟨σ',.inl e,by rw [c9z,← c8U];exact I',h'⟩
 refine⟨σ',a2A (by kernel_rfl) ?_ e,I'⟩
 have e1:evE F σ (.bin .Add (.var 64) (.int 1))=some (.int ((j+1:Nat):Int)):=a0l (a0g h64) a0z rfl
 have:=b0h (F:=F) (σ:=σ) (n:=4) e1 (a0z (i:=((4:Nat):Int))) (by lia) (by decide)
 rw [show 4 - (j+1)=3 - j from by lia] at this
 exact this
noncomputable def c6T (j:Nat):List b3W:=(List.range j).flatMap c5x
theorem b6S:∀ j,j<4→(c6T j).length+(3 - j)≤6:=by decide
theorem b3Z {m:Nat}(hS:SigOk sig)(hg:g∈a0F)(R:RowsOK sig g kv fs) :
  runG ids a0t 60 (m+4) 100 [rnd sig ([0,1,2,3],b),.dict kv,.list (fs.map fun t=>.str (txt sig t))] none=some (.tup [.list (fs.map fun t=>.int ((a1j g a0o t).1:Nat)),.int (a1V g a0o:Nat)]):=by
 refine a2c (df:=⟨100,[35,62,63],[],[],a5M⟩) rfl (by decide) (by decide) rfl rfl rfl ?_
 generalize hF:runG ids a0t 60 (m+3)=F
 show a0C F 60 [(35,.val (rnd sig ([0,1,2,3],b))),(62,.val (.dict kv)),(63,.val (.list (fs.map fun t=>.str (txt sig t))))] [.asgT [65,66] (.tup (.cons (.comp [] (.int 0) (.one 29) (.var 63) .nil .nil) (.cons (.int 0) .nil))),.for (.one 64) (.range1 (.int 4)) [.for (.one 31) (.range2 (.bin .Add (.var 64) (.int 1)) (.int 4)) a9g],.ret (.tup (.cons (.var 65) (.cons (.var 66) .nil)))] = _
 obtain⟨σ₀,hσ⟩:∃ σ₀:Store,[(35,Slot.val (rnd sig ([0,1,2,3],b))),(62,.val (.dict kv)),(63,.val (.list (fs.map fun t=>.str (txt sig t))))]=σ₀:=⟨_,rfl⟩
 rw [hσ]
 have nm0:NM σ₀:=by subst hσ;exact ((NM.nil.cons (by nofun)).cons (by nofun)).cons (by nofun)
 have g35:σ₀.get 35=some (.val (rnd sig ([0,1,2,3],b))):=by subst hσ;kernel_rfl
 have g62:σ₀.get 62=some (.val (.dict kv)):=by subst hσ;kernel_rfl
 have g63:σ₀.get 63=some (.val (.list (fs.map fun t=>.str (txt sig t)))):=by subst hσ;kernel_rfl
 have e0:evE F σ₀ (.comp [] (.int 0) (.one 29) (.var 63) .nil .nil)=some (.list (fs.map fun _=>.int 0)):=by
  have hl:=R.len
  refine a1b (σ₀:=[]) (xs:=fs) (f:=fun t=>.str (txt sig t)) (a1t g63 rfl) (by kernel_rfl) (fun t _=>?_) (by lia)
  exact⟨[(29,.val (.str (txt sig t)))],by kernel_rfl,by kernel_rfl,by kernel_rfl⟩
 have s1:=a3L (F:=F) (fuel:=60) (xs:=[65,66]) (a4u (by kernel_rfl) (by kernel_rfl) e0 (a0z (i:=0))) (a5h nm0)
 have I0:TU sig b kv fs g ((σ₀.set 65 (.val (.list (fs.map fun _=>.int 0)))).set 66 (.val (.int 0))) []:=
  ⟨nm0.val.val,(a0a (by decide)).trans ((a0a (by decide)).trans g35),(a0a (by decide)).trans ((a0a (by decide)).trans g62),(a0a (by decide)).trans ((a0a (by decide)).trans g63),(a0a (by decide)).trans a0m,a0m⟩
 generalize (σ₀.set 65 (.val (.list (fs.map fun _=>.int 0)))).set 66 (.val (.int 0))=σ₁ at *
 rw [a0d s1]
 let body:Store→D→Option Out:=fun σ d=>(a1c σ (.one 64) d).bind fun σ'=>a0C F 60 σ' [.for (.one 31) (.range2 (.bin .Add (.var 64) (.int 1)) (.int 4)) a9g]
 obtain⟨σ',e,I'⟩:=a1F (body:=body) (f:=fun (j:Nat)=>D.int (j:Int)) (all:=List.range 4) (σ:=σ₁) (fun done σ=>TU sig b kv fs g σ (done.flatMap c5x)) (by simpa using I0) fun done j rest σ hd I=>by
  have hj:j<4:=c8l.mp (show j∈List.range 4 by rw [← hd];simp)
  have hdone:done=List.range j:=by
   have h1:(List.range 4)[done.length]?=some j:=by rw [← hd];simp
   rw [c8D] at h1
   refine h1.elim (clear% h1;fun h2 h3=>?_)
   rw [List.getElem_range] at h3
   have h4:(List.range 4).take done.length=done:=by rw [← hd];simp
   rw [← h4,List.take_range,h3]
   congr 1;lia
  have hb:body σ (.int (j:Int))=a0C F 60 (σ.set 64 (.val (.int (j:Int)))) [.for (.one 31) (.range2 (.bin .Add (.var 64) (.int 1)) (.int 4)) a9g]:=by
   show ((a1c σ (.one 64) _).bind fun σ'=>a0C F 60 σ' _) = _
   rw [a1p I.nm];rfl
  rw [hb]
  refine (b0A hF.symm hS hg R hj (by rw [hdone];exact b6S j hj) (I.set (x:=64) (d:=.int (j:Int)) (by decide) (by decide) (by decide) (by decide) (by decide)) a0m).elim fun σ' Z1=>Z1.elim (fun e I'=>?_)
  refine⟨σ',.inl ((a0d e).trans rfl),?_⟩
  rw [c9C]
  simpa using I'
 have e':=a2A (F:=F) (fuel:=60) (t:=.one 64) (iter:=.range1 (.int 4)) (body:=[.for (.one 31) (.range2 (.bin .Add (.var 64) (.int 1)) (.int 4)) a9g]) (σ:=σ₁) (by kernel_rfl) (a1E (n:=4) (by kernel_rfl) (by decide)) e
 rw [a0d e']
 have hp:(List.range 4).flatMap c5x=a0o:=by decide +kernel
 rw [hp] at I'
 have f65:=a0Z I'.g65 (s':=.val (.list (fs.map fun t=>.int ((a1j g a0o t).1:Nat)))) rfl
 have f66:=a0Z I'.g66 (s':=.val (.int (a1V g a0o:Nat))) rfl
 exact a2t (by kernel_rfl) (a4u (a0p f65) (a0p f66) (a0g f65) (a0g f66))
end
end
section
open LA (nl a0F a0o perms behind a1s a2x a4t a4X a3Y a1C)
section
variable {F:Fns}{fuel:Nat}{σ:Store}
theorem c2s:((List.range 64).all fun x=>(List.range 64).all fun y=>Builtin.bitXor (x:Nat) (y:Nat)==((x ^^^ y:Nat):Int)&&decide (x ^^^ y<64))=true:=by decide +kernel
theorem b6T {x y:Nat}(hx:x<64)(hy:y<64):a2M .BitXor (.int (x:Int)) (.int (y:Int))=some (.int ((x ^^^ y:Nat):Int))∧x ^^^ y<64:=by
 have:=c8k.mp (c8k.mp c2s x (c8l.mpr hx)) y (c8l.mpr hy)
 simp only [c7S,c7L,c9i] at this
 exact⟨c7H (fun i=>some (D.int i)) this.1,this.2⟩
noncomputable def a3h (M:List Nat):D:=.list (M.map fun (n:Nat)=>.int (n:Int))
noncomputable def b4d:D:=rowD a3Y
theorem b6U:a3Y.length=64:=by decide +kernel
theorem b9Y {n:Nat}(h:n<64):a4C b4d (.int (n:Int))=some (.int (a3Y.getD n 0)):=a5c (r:=a3Y) (by rw [b6U];exact h) (by rw [b6U];decide)
noncomputable def c5e (op:Operator):PE:=.bin op (.idx (.var 72) (.bin .BitXor (.var 44) (.var 45))) (.idx (.var 72) (.bin .BitXor (.bin .BitXor (.var 66) (.var 44)) (.var 45)))
noncomputable def c7q (op:Operator):PE:=.comp [74,72,66] (.comp [72,44,66] (c5e op) (.one 45) (.var 74) .nil .nil) (.one 44) (.var 74) .nil .nil
theorem b9Z {op:Operator}{f:Int→Int→Int}(hop:∀ x y:Int,a2M op (.int x) (.int y)=some (.int (f x y))){H:List Nat}{full:Nat}(hH:∀ x∈H,x<64)(hl:H.length≤1000)(hf:full<64)
  (h74:σ.get 74=some (.val (a3h H))) (h72:σ.get 72=some (.val b4d)) (h66:σ.get 66=some (.val (.int (full:Int)))) :
  evE F σ (c7q op)=some (tabD (a1C (fun x y=>f (a3Y.getD (x ^^^ y) 0) (a3Y.getD ((full ^^^ x) ^^^ y) 0)) H)):=by
 have e:evE F σ (c7q op)=some (.list (H.map fun x=>rowD (H.map fun y=>f (a3Y.getD (x ^^^ y) 0) (a3Y.getD ((full ^^^ x) ^^^ y) 0)))):=by
  refine a1b (xs:=H) (f:=fun (n:Nat)=>.int (n:Int)) (σ₀:=[(74,.val (a3h H)),(72,.val b4d),(66,.val (.int (full:Int)))]) (a1t h74 rfl) (a5j h74 h72 h66) (fun x hx=>?_) (by lia)
  refine⟨[(74,.val (a3h H)),(72,.val b4d),(66,.val (.int (full:Int))),(44,.val (.int (x:Int)))],by kernel_rfl,by kernel_rfl,?_⟩
  have:=a1b (F:=F) (σ:=[(74,.val (a3h H)),(72,.val b4d),(66,.val (.int (full:Int))),(44,.val (.int (x:Int)))]) (fv:=[72,44,66]) (elt:=c5e op) (t:=.one 45) (iter:=.var 74) (xs:=H) (f:=fun (n:Nat)=>.int (n:Int)) (g:=fun y=>.int (f (a3Y.getD (x ^^^ y) 0) (a3Y.getD ((full ^^^ x) ^^^ y) 0)))
   (σ₀:=[(72,.val b4d),(44,.val (.int (x:Int))),(66,.val (.int (full:Int)))]) (by kernel_rfl) (by kernel_rfl) (fun y hy=>?_) (by lia)
  ·rw [this];unfold rowD;rw [c8E];rfl
  ·obtain⟨σ₁,hσ⟩:∃ σ₁:Store,[(72,Slot.val b4d),(44,.val (.int (x:Int))),(66,.val (.int (full:Int))),(45,.val (.int (y:Int)))]=σ₁:=⟨_,rfl⟩
   refine⟨σ₁,by subst hσ;kernel_rfl,by kernel_rfl,?_⟩
   have v72:evE F σ₁ (.var 72)=some b4d:=by subst hσ;kernel_rfl
   have v44:evE F σ₁ (.var 44)=some (.int (x:Int)):=by subst hσ;kernel_rfl
   have v66:evE F σ₁ (.var 66)=some (.int (full:Int)):=by subst hσ;kernel_rfl
   have v45:evE F σ₁ (.var 45)=some (.int (y:Int)):=by subst hσ;kernel_rfl
   refine (b6T (hH x hx) (hH y hy)).elim fun a1 b1=>?_
   refine (b6T hf (hH x hx)).elim fun a2 b2=>?_
   refine (b6T b2 (hH y hy)).elim fun a3 b3=>?_
   exact a0l (a0G v72 (a0l v44 v45 a1) (b9Y b1)) (a0G v72 (a0l (a0l v66 v44 a2) v45 a3) (b9Y b3)) (hop _ _)
 rw [e]
 unfold tabD a1C
 rw [c8E]
 rfl
theorem c2t {M:List Nat}(hl:M.length≤1000)(h65:σ.get 65=some (.val (a3h M))):evE F σ (.comp [] (.var 46) (.one 46) (.var 65) (.cons (.cmp .Eq (.bin .Mod (.var 46) (.int 2)) (.int 1)) .nil) .nil)=some (a3h (M.filter (· % 2==1))):=by
 refine a0X (xs:=M) (f:=fun (n:Nat)=>.int (n:Int)) (σ₀:=[]) (a1t h65 rfl) (by kernel_rfl) (fun n hn=>?_) (by lia)
 refine⟨[(46,.val (.int (n:Int)))],by kernel_rfl,?_,fun _=>⟨by kernel_rfl,by kernel_rfl⟩⟩
 refine a5a (a0Y (x:=.int ((n % 2:Nat):Int)) (a0l (x:=.int (n:Int)) (by kernel_rfl) a0z ((a5g (by decide)).trans ?_)) (a0z (i:=1)) ?_)
 ·congr 2
  rw [Int.fmod_eq_emod_of_nonneg _ (by decide)]
  lia
 ·exact b0k (b:=1)
theorem b4a {m:Nat}{M:List Nat}{full:Nat}(hM:∀ x∈M,x<64)(hl:M.length≤1000)(hf:full<64) :
  runG ids a0t fuel (m+1) 101 [a3h M,.int (full:Int)] none=some (.tup [tabD (a1C (a4t full) (M.filter (· % 2==1))),tabD (a1C (a4X full) (M.filter (· % 2==1)))]):=by
 refine a2c (df:=⟨101,[65,66],[],[],a5N⟩) rfl (by decide) (by decide) rfl rfl rfl ?_
 generalize runG ids a0t fuel m=F
 have hH:∀ x∈M.filter (· % 2==1),x<64:=fun x hx=>hM x (c9u.mp hx).1
 have hHl:(M.filter (· % 2==1)).length≤1000:=c7O (c9y _ _) hl
 obtain⟨L,hL⟩:∃ L,a3h M=L:=⟨_,rfl⟩
 have s1:evS F fuel [(65,.val L),(66,.val (.int (full:Int)))] (.asg 72 false (.list (.cons (.int 1) .nil)))=some (.next [(65,.val L),(66,.val (.int (full:Int))),(72,.val (.list [.int 1]))]):=by kernel_rfl
 have s2:evS F fuel [(65,.val L),(66,.val (.int (full:Int))),(72,.val (.list [.int 1]))] (.for (.one 31) (.range1 (.int 6)) [.asg 72 false (.bin .Add (.var 72) (.comp [] (.bin .Mult (.int 2) (.var 73)) (.one 73) (.var 72) .nil .nil))])=some (.next [(65,.val L),(66,.val (.int (full:Int))),(72,.val b4d),(31,.val (.int 5))]):=by kernel_rfl
 have nm0:NM [(65,.val L),(66,.val (.int (full:Int))),(72,.val b4d),(31,.val (.int 5))]:=(((NM.nil.cons (by nofun)).cons (by nofun)).cons (by nofun)).cons (by nofun)
 obtain⟨σ₀,hσ⟩:∃ σ₀:Store,[(65,.val L),(66,.val (.int (full:Int))),(72,.val b4d),(31,.val (.int 5))]=σ₀:=⟨_,rfl⟩
 have g65:σ₀.get 65=some (.val (a3h M)):=by rw [hL];subst hσ;kernel_rfl
 have g66:σ₀.get 66=some (.val (.int (full:Int))):=by subst hσ;kernel_rfl
 have g72:σ₀.get 72=some (.val b4d):=by subst hσ;kernel_rfl
 rw [hσ] at s2 nm0
 have s3:=a0u (F:=F) (fuel:=fuel) (k:=74) nm0 (by kernel_rfl) (by kernel_rfl) (c2t hl g65)
 have nm1:=nm0.val (x:=74) (d:=a3h (M.filter (· % 2==1)))
 have k74:(σ₀.set 74 (.val (a3h (M.filter (· % 2==1))))).get 74=some (.val (a3h (M.filter (· % 2==1)))):=a0m
 have k66:(σ₀.set 74 (.val (a3h (M.filter (· % 2==1))))).get 66 = _:=(a0a (by decide)).trans g66
 have k72:(σ₀.set 74 (.val (a3h (M.filter (· % 2==1))))).get 72 = _:=(a0a (by decide)).trans g72
 generalize σ₀.set 74 (.val (a3h (M.filter (· % 2==1))))=σ₁ at *
 have s4:=a0u (F:=F) (fuel:=fuel) (k:=75) nm1 (by kernel_rfl) (by kernel_rfl) (b9Z (op:=.Add) (f:=fun x y=>x+y) (fun x y=>rfl) hH hHl hf k74 k72 k66)
 have s5:=a0u (F:=F) (fuel:=fuel) (k:=76) (nm1.val (x:=75) (d:=tabD (a1C (a4t full) (M.filter (· % 2==1))))) (by kernel_rfl) (by kernel_rfl)
  (b9Z (op:=.Sub) (f:=fun x y=>x - y) (fun x y=>rfl) hH hHl hf ((a0a (by decide)).trans k74) ((a0a (by decide)).trans k72) ((a0a (by decide)).trans k66))
 have g75:((σ₁.set 75 (.val (tabD (a1C (a4t full) (M.filter (· % 2==1)))))).set 76 (.val (tabD (a1C (a4X full) (M.filter (· % 2==1)))))).get 75=some (.val (tabD (a1C (a4t full) (M.filter (· % 2==1))))):=(a0a (by decide)).trans a0m
 have g76:((σ₁.set 75 (.val (tabD (a1C (a4t full) (M.filter (· % 2==1)))))).set 76 (.val (tabD (a1C (a4X full) (M.filter (· % 2==1)))))).get 76=some (.val (tabD (a1C (a4X full) (M.filter (· % 2==1))))):=a0m
 have f75:=a0Z g75 (s':=.val (tabD (a1C (a4t full) (M.filter (· % 2==1))))) rfl
 have f76:=a0Z g76 (s':=.val (tabD (a1C (a4X full) (M.filter (· % 2==1))))) rfl
 show a0C F fuel [(65,.val (a3h M)),(66,.val (.int (full:Int)))] _ = _
 rw [hL]
 exact (a0d s1).trans ((a0d s2).trans ((a0d s3).trans ((a0d s4).trans ((a0d s5).trans (a2t (by kernel_rfl) (a4u (a0p f75) (a0p f76) (a0g f75) (a0g f76)))))))
end
theorem b6V:(a0F.all fun g=>(LA.half g).all fun x=>(LA.half g).all fun y=>decide ((a4t (a2x g) x y).natAbs<128)&&decide ((a4X (a2x g) x y).natAbs<128))=true:=by decide +kernel
theorem b9r:(a0F.all fun g=>decide ((LA.half g).length≤12)&&decide (a2x g<64))=true:=by decide +kernel
end
section
open LA (nl a0F a0o perms behind a1s a2x a4t a4X a3Y a1C half b3w b3x a3U a8P)
theorem b1F:(a0F.all fun g=>decide (b3w g).Nodup)=true:=by decide +kernel
theorem b6W:(a0F.all fun g=>a2L (b3x (a4t (a2x g)) (half g)) (b3x (a4X (a2x g)) (half g)))=true:=by decide +kernel
theorem b4b {sig:Nat→Nat}{g:List Bool}{kv:List (Str×Int)}{fs:List (List Nat)}(hg:g∈a0F)(R:RowsOK sig g kv fs):(fs.map fun t=>(a1s g t).1).Perm (b3w g):=by
 have nd1:(fs.map fun t=>(a1s g t).1).Nodup:=by
  refine List.pairwise_iff_getElem.mpr fun i j hi hj hij e=>?_
  rw [c8u] at hi hj
  rw [List.getElem_map,List.getElem_map] at e
  have:=R.apart i j _ _ (c8n hi) (c8n hj) e
  lia
 have nd2:(b3w g).Nodup:=c7X (c8k.mp b1F g hg)
 refine (List.perm_ext_iff_of_nodup nd1 nd2).mpr fun x=>?_
 unfold b3w
 rw [List.mem_eraseDups,c9n,c9n]
 constructor
 ·rintro⟨t,ht,rfl⟩;exact⟨t,R.mem t ht,rfl⟩
 ·rintro⟨t,ht,rfl⟩
  obtain⟨n,t',_,h2,h3⟩:=R.look t ht
  exact⟨t',c8Z h2,h3⟩
theorem NM.vals (l:List (Nat×D)):NM (l.map fun p=>(p.1,.val p.2)):=fun p h=>by
 refine (c9n.mp h).elim fun q Z1=>Z1.elim (fun _ Z2=>?_)
 subst Z2
 nofun
theorem b2F {F:Fns}{σ:Store}{a b c:PE}{x y z:D}(s1:strict σ a=true)(s2:strict σ b=true)(s3:strict σ c=true)(h1:evE F σ a=some x)(h2:evE F σ b=some y)(h3:evE F σ c=some z):a3i F σ (.cons a (.cons b (.cons c .nil)))=some [x,y,z]:=by
 exact a2d s1 h1 (a2d s2 h2 (a2d s3 h3 a7R))
theorem b9s {F:Fns}{S RD SD TD TO KD FD TU' Z T1 T2 LD:D}{w1 w2:Int}{told:List D}(hTO:TO=.list told){tu:List D}(hTU:TU'=.tup [tu.getD 0 .none,Z])(r95:F 95 [S] none=some (.tup [RD,SD]))(r96:F 96 [SD] none=some TD)(r97:F 97 [RD,SD,TD] none=some TO)
  (r98:F 98 [TO,TD] none=some (.tup [KD,FD])) (r100:F 100 [SD,KD,FD] none=some TU') (r101:F 101 [tu.getD 0 .none,Z] none=some (.tup [T1,T2])) (r1:F 102 [T1] none=some (.int w1)) (r2:F 102 [T2] none=some (.int w2))
  (r104:F 104 [RD,SD] none=some LD) (r103:F 103 [SD,LD] none=some (.int (w1*w2))) (hbits:a2L w1 w2=true):a0C F 60 [(32,.val S)] b5G=some (.ret (.bool true)):=by
 subst hTO hTU
 generalize tu.getD 0 .none=Y at *
 have nm0:NM [(32,.val S)]:=NM.vals [(32,S)]
 have s1:=a3L (F:=F) (fuel:=60) (xs:=[33,35]) (a0L (F:=F) (f:=95) (a1G (F:=F) (σ:=[(32,.val S)]) (ea:=.var 32) (by kernel_rfl) (by kernel_rfl)) r95) (a5h nm0)
 have st1:(Store.set [(32,.val S)] 33 (.val RD)).set 35 (.val SD)=[(32,.val S),(33,.val RD),(35,.val SD)]:=by kernel_rfl
 rw [st1] at s1
 have nm1:NM [(32,.val S),(33,.val RD),(35,.val SD)]:=NM.vals [(32,S),(33,RD),(35,SD)]
 have s2:=a0u (F:=F) (fuel:=60) (k:=47) nm1 (by kernel_rfl) (by kernel_rfl) (a0L (F:=F) (f:=96) (args:=.cons (.var 35) .nil) (a1G (by kernel_rfl) (by kernel_rfl)) r96)
 have st2:Store.set [(32,.val S),(33,.val RD),(35,.val SD)] 47 (.val TD)=[(32,.val S),(33,.val RD),(35,.val SD),(47,.val TD)]:=by kernel_rfl
 rw [st2] at s2
 have nm2:NM [(32,.val S),(33,.val RD),(35,.val SD),(47,.val TD)]:=NM.vals [(32,S),(33,RD),(35,SD),(47,TD)]
 have s3:=a0u (F:=F) (fuel:=60) (k:=55) nm2 (by kernel_rfl) (by kernel_rfl) (a0L (F:=F) (f:=97) (args:=.cons (.var 33) (.cons (.var 35) (.cons (.var 47) .nil))) (b2F (by kernel_rfl) (by kernel_rfl) (by kernel_rfl) (by kernel_rfl) (by kernel_rfl) (by kernel_rfl)) r97)
 have st3:Store.set [(32,.val S),(33,.val RD),(35,.val SD),(47,.val TD)] 55 (.val (.list told))=[(32,.val S),(33,.val RD),(35,.val SD),(47,.val TD),(55,.val (.list told))]:=by kernel_rfl
 rw [st3] at s3
 have nm3:NM [(32,.val S),(33,.val RD),(35,.val SD),(47,.val TD),(55,.val (.list told))]:=NM.vals [(32,S),(33,RD),(35,SD),(47,TD),(55,(.list told))]
 have s4:evS F 60 [(32,.val S),(33,.val RD),(35,.val SD),(47,.val TD),(55,.val (.list told))] (.ifs (.cmp .Is (.var 55) .none) [.ret (.bool false)] [])=some (.next [(32,.val S),(33,.val RD),(35,.val SD),(47,.val TD),(55,.val (.list told))]):=by kernel_rfl
 have s5:=a3L (F:=F) (fuel:=60) (xs:=[62,63]) (a0L (F:=F) (f:=98) (args:=.cons (.var 55) (.cons (.var 47) .nil)) (a1k (F:=F) (σ:=[(32,.val S),(33,.val RD),(35,.val SD),(47,.val TD),(55,.val (.list told))]) (by kernel_rfl) (by kernel_rfl) (by kernel_rfl) (by kernel_rfl)) r98) (a5h nm3)
 have st5:(Store.set [(32,.val S),(33,.val RD),(35,.val SD),(47,.val TD),(55,.val (.list told))] 62 (.val KD)).set 63 (.val FD)=[(32,.val S),(33,.val RD),(35,.val SD),(47,.val TD),(55,.val (.list told)),(62,.val KD),(63,.val FD)]:=by kernel_rfl
 rw [st5] at s5
 have nm5:NM [(32,.val S),(33,.val RD),(35,.val SD),(47,.val TD),(55,.val (.list told)),(62,.val KD),(63,.val FD)]:=NM.vals [(32,S),(33,RD),(35,SD),(47,TD),(55,(.list told)),(62,KD),(63,FD)]
 have s6:=a0u (F:=F) (fuel:=60) (k:=99) nm5 (by kernel_rfl) (by kernel_rfl) (a0L (F:=F) (f:=100) (args:=.cons (.var 35) (.cons (.var 62) (.cons (.var 63) .nil))) (b2F (by kernel_rfl) (by kernel_rfl) (by kernel_rfl) (by kernel_rfl) (by kernel_rfl) (by kernel_rfl)) r100)
 have st6:Store.set [(32,.val S),(33,.val RD),(35,.val SD),(47,.val TD),(55,.val (.list told)),(62,.val KD),(63,.val FD)] 99 (.val (.tup [Y,Z]))=[(32,.val S),(33,.val RD),(35,.val SD),(47,.val TD),(55,.val (.list told)),(62,.val KD),(63,.val FD),(99,.val (.tup [Y,Z]))]:=by kernel_rfl
 rw [st6] at s6
 have nm6:NM [(32,.val S),(33,.val RD),(35,.val SD),(47,.val TD),(55,.val (.list told)),(62,.val KD),(63,.val FD),(99,.val (.tup [Y,Z]))]:=NM.vals [(32,S),(33,RD),(35,SD),(47,TD),(55,(.list told)),(62,KD),(63,FD),(99,(.tup [Y,Z]))]
 have s7:evS F 60 [(32,.val S),(33,.val RD),(35,.val SD),(47,.val TD),(55,.val (.list told)),(62,.val KD),(63,.val FD),(99,.val (.tup [Y,Z]))] (.ifs (.cmp .Is (.var 99) .none) [.ret (.bool false)] [])=some (.next [(32,.val S),(33,.val RD),(35,.val SD),(47,.val TD),(55,.val (.list told)),(62,.val KD),(63,.val FD),(99,.val (.tup [Y,Z]))]):=by kernel_rfl
 have s8:=a3L (F:=F) (fuel:=60) (xs:=[75,76]) (a0L (F:=F) (f:=101) (args:=.cons (.idx (.var 99) (.int 0)) (.cons (.idx (.var 99) (.int 1)) .nil)) (a1k (F:=F) (σ:=[(32,.val S),(33,.val RD),(35,.val SD),(47,.val TD),(55,.val (.list told)),(62,.val KD),(63,.val FD),(99,.val (.tup [Y,Z]))]) (by kernel_rfl) (by kernel_rfl) (by kernel_rfl) (by kernel_rfl)) r101) (a5h nm6)
 refine (a0d s1).trans ((a0d s2).trans ((a0d s3).trans ((a0d s4).trans ((a0d s5).trans ((a0d s6).trans ((a0d s7).trans ((a0d s8).trans ?_)))))))
 have st8:(Store.set [(32,.val S),(33,.val RD),(35,.val SD),(47,.val TD),(55,.val (.list told)),(62,.val KD),(63,.val FD),(99,.val (.tup [Y,Z]))] 75 (.val T1)).set 76 (.val T2)=[(32,.val S),(33,.val RD),(35,.val SD),(47,.val TD),(55,.val (.list told)),(62,.val KD),(63,.val FD),(99,.val (.tup [Y,Z])),(75,.val T1),(76,.val T2)]:=by kernel_rfl
 rw [st8]
 refine a2t (by kernel_rfl) ?_
 have hf:freezeAll [(32,.val S),(33,.val RD),(35,.val SD),(47,.val TD),(55,.val (.list told)),(62,.val KD),(63,.val FD),(99,.val (.tup [Y,Z])),(75,.val T1),(76,.val T2)]=[(32,.val S),(33,.val RD),(35,.val SD),(47,.val TD),(55,.val (.list told)),(62,.val KD),(63,.val FD),(99,.val (.tup [Y,Z])),(75,.val T1),(76,.val T2)]:=by kernel_rfl
 rw [hf]
 obtain⟨σ,hσ⟩:∃ σ:Store,[(32,.val S),(33,.val RD),(35,.val SD),(47,.val TD),(55,.val (.list told)),(62,.val KD),(63,.val FD),(99,.val (.tup [Y,Z])),(75,.val T1),(76,.val T2)]=σ:=⟨_,rfl⟩
 rw [hσ]
 have v75:evE F σ (.var 75)=some T1:=by subst hσ;kernel_rfl
 have v76:evE F σ (.var 76)=some T2:=by subst hσ;kernel_rfl
 have v35:evE F σ (.var 35)=some SD:=by subst hσ;kernel_rfl
 have v33:evE F σ (.var 33)=some RD:=by subst hσ;kernel_rfl
 have t75:strict σ (.var 75)=true:=by subst hσ;kernel_rfl
 have t76:strict σ (.var 76)=true:=by subst hσ;kernel_rfl
 have t35:strict σ (.var 35)=true:=by subst hσ;kernel_rfl
 have t33:strict σ (.var 33)=true:=by subst hσ;kernel_rfl
 have e1:evE F σ (.bin .Mult (.call 102 (.cons (.var 75) .nil) .no) (.call 102 (.cons (.var 76) .nil) .no))=some (.int (w1*w2)):=
  a0l (a0L (a1G t75 v75) r1) (a0L (a1G t76 v76) r2) (a8U hbits)
 have e2:evE F σ (.call 103 (.cons (.var 35) (.cons (.call 104 (.cons (.var 33) (.cons (.var 35) .nil)) .no) .nil)) .no)=some (.int (w1*w2)):=
  a0L (a1k t35 (by kernel_rfl) v35 (a0L (a1k t33 t35 v33 v35) r104)) r103
 have:evE F σ (.cmp .Eq (.bin .Mult (.call 102 (.cons (.var 75) .nil) .no) (.call 102 (.cons (.var 76) .nil) .no)) (.call 103 (.cons (.var 35) (.cons (.call 104 (.cons (.var 33) (.cons (.var 35) .nil)) .no) .nil)) .no))=some (.bool true):=by
  have hc:∀ a b:PE,evE F σ a=some (.int (w1*w2))→evE F σ b=some (.int (w1*w2))→evE F σ (.cmp .Eq a b)=some (.bool true):=fun a b h1 h2=>by
   show (evE F σ a).bind _ = _
   exact a0c h1 (a0c h2 (a1h (c7H some (c7R _)) rfl))
  exact hc _ _ e1 e2
 exact this
theorem c0a {f:Nat→Nat→Int}{H:List Nat}(h:∀ x∈H,∀ y∈H,(f x y).natAbs<2 ^ 7):Okt (a1C f H) H.length 7:=by
 refine⟨by simp [a1C],fun r hr=>?_,fun r hr x hx=>?_⟩
 ·obtain⟨y,_,rfl⟩:=c9n.mp hr;simp
 ·refine (c9n.mp hr).elim fun y Z1=>Z1.elim (fun hy Z2=>?_)
  subst Z2
  refine (c9n.mp hx).elim fun z Z1=>Z1.elim (fun hz Z2=>?_)
  subst Z2
  exact h y hy z hz
theorem b6X {l:List Int}(hl:l.length≤1000):a0C (runG ids a0t 60 5) 60 [(32,.val (.list (l.map .int)))] b5G=some (.ret (.bool true)):=by
 obtain⟨rs,sig,b,r95,hr,hrl,hS⟩:=b6v (fuel:=60) (m:=4) hl
 have r96:=b6n (fuel:=60) (m:=4) (sig:=sig) (b:=b)
 have r97:=b9e (fuel:=60) (m:=1) (b:=b) hS hr hrl
 obtain⟨kv,fs,r98,R⟩:=b9k (fuel:=60) (m:=4) hS hr
 have hg:=b6l sig rs
 have r100:=b3Z (m:=1) (b:=b) hS hg R
 have hgl:=c8k.mp b9r _ hg
 simp only [c7S,c9i] at hgl
 have hmask:∀ t∈fs,(a1j (graphOf sig rs) a0o t).1=(a1s (graphOf sig rs) t).1:=fun t ht=>by
  have:=c5b (nlR sig rs 0 1) (nlR sig rs 0 2) (nlR sig rs 0 3) (nlR sig rs 1 2) (nlR sig rs 1 3) (nlR sig rs 2 3) (R.mem t ht)
  exact (c7H Prod.fst this).symm
 have hfull:a1V (graphOf sig rs) a0o=a2x (graphOf sig rs):=(c5c (nlR sig rs 0 1) (nlR sig rs 0 2) (nlR sig rs 0 3) (nlR sig rs 1 2) (nlR sig rs 1 3) (nlR sig rs 2 3)).symm
 have hmp:=b4b hg R
 generalize hM:(fs.map fun t=>(a1s (graphOf sig rs) t).1)=M at hmp
 have hMD:(D.list (fs.map fun t=>.int ((a1j (graphOf sig rs) a0o t).1:Nat)))=a3h M:=by
  unfold a3h
  rw [← hM,c8E]
  refine c7H D.list (c9o fun t ht=>?_)
  simp only [Function.comp]
  rw [hmask t ht]
 rw [hMD,hfull] at r100
 have hM64:∀ x∈M,x<64:=fun x hx=>by
  rw [← hM] at hx
  refine (c9n.mp hx).elim fun t Z1=>Z1.elim (fun ht Z2=>?_)
  subst Z2
  rw [← hmask t ht]
  exact (a5E (g:=graphOf sig rs) (t:=t) a0o).2.2
 have hMl:M.length≤1000:=by rw [← hM,c8u];have:=R.len;lia
 have r101:=b4a (fuel:=60) (m:=4) hM64 hMl hgl.2
 have hHp:(M.filter (· % 2==1)).Perm (half (graphOf sig rs)):=hmp.filter _
 generalize M.filter (· % 2==1)=H at *
 have hHl:H.length≤12:=by rw [hHp.length_eq];exact hgl.1
 have hsm:∀ x∈H,∀ y∈H,(a4t (a2x (graphOf sig rs)) x y).natAbs<128∧(a4X (a2x (graphOf sig rs)) x y).natAbs<128:=fun x hx y hy=>by
  have:=c8k.mp (c8k.mp (c8k.mp b6V _ hg) x (hHp.mem_iff.mp hx)) y (hHp.mem_iff.mp hy)
  simpa using this
 have w1:=b0j (fuel:=60) (m:=4) (by decide) (c0a fun x hx y hy=>(hsm x hx y hy).1) hHl
 have w2:=b0j (fuel:=60) (m:=4) (by decide) (c0a fun x hx y hy=>(hsm x hx y hy).2) hHl
 have r104:=b6k (fuel:=60) (m:=3) (b:=b) hS hr (by lia)
 have r103:=b1y (fuel:=60) (m:=3) (b:=b) hS.toSig hg (b8R (rs:=rs) hS)
 have law:=LA.law_plain (nlR sig rs 0 1) (nlR sig rs 0 2) (nlR sig rs 0 3) (nlR sig rs 1 2) (nlR sig rs 1 3) (nlR sig rs 2 3) hHp
 have law:b3x (a4t (a2x (graphOf sig rs))) H*b3x (a4X (a2x (graphOf sig rs))) H=a3U (graphOf sig rs):=law
 unfold b3x at law
 generalize graphOf sig rs=g at *
 have hbits:a2L (a8P H.length (a1C (a4t (a2x g)) H) 1 1) (a8P H.length (a1C (a4X (a2x g)) H) 1 1)=true:=by
  have:=c8k.mp b6W g hg
  unfold b3x at this
  rw [LA.barL_perm hHp,LA.barL_perm hHp]
  exact this
 rw [← law] at r103
 exact b9s (told:=perms.map fun t=>.bytes (a1d (a5Z sig rs t))) (tu:=[a3h M]) rfl rfl r95 r96 r97 r98 r100 r101 w1 w2 r104 r103 hbits
theorem law04:c1J:=fun l h=>⟨60,5,by decide,b6X (by lia)⟩
end
end
end Mine
set_option maxHeartbeats 8000000 in
theorem PySem.Challenge.cw_kt0036_04_holds : PySem.Challenge.rw_kt0036_04.Holds :=
  Mine.top04 Mine.law04
