import PyProof.Rows.All
import Wide.All
import OpenK.AllK
import Wide.FinOn
import PySem.Challenge.RW_kt0036_01
set_option Elab.async false
set_option maxRecDepth 100000
set_option genSizeOf false
set_option genSizeOfSpec false
set_option genInjectivity false
set_option linter.unusedVariables false
set_option maxHeartbeats 8000000
open PySem PySem.W PyProof.Rows PySem.Calls
namespace Mine
section
abbrev c9m:=@Nat.lt_of_lt_of_le
abbrev c9n:=@Nat.le_refl
abbrev c9o:=@congrArg
abbrev c9p:=@Bool.false_ne_true
abbrev c9q:=@List.lookup_cons
abbrev c9r:=@if_pos
abbrev c9s:=@beq_iff_eq
abbrev c9t:=@if_neg
abbrev c9u:=@beq_eq_false_iff_ne
abbrev c9v:=@Nat.le_trans
abbrev c9w:=@Heap.get?_push_of_some
abbrev c9x:=@Option.some.inj
abbrev c9y:=@beq_self_eq_true
abbrev c9z:=@Bool.and_eq_true
abbrev c9A:=@Nat.le_succ
abbrev c9B:=@Nat.le_of_ble_eq_true
abbrev c9C:=@sizeLine_eq
abbrev c9D:=@Nat.lt_of_le_of_lt
abbrev c9E:=@of_decide_eq_true
abbrev c9F:=@wpAny_with_toks
abbrev c9G:=@Heap.lt_size
abbrev c9H:=@Heap.get?_push_size
abbrev c9I:=@List.size_toArray
abbrev c9J:=@wpAny_holding
abbrev c9K:=@eq_of_beq
abbrev c9L:=@wpAny_bind
abbrev c9M:=@wpAny_pure
abbrev c9N:=@wpAny_truthy_bool
abbrev c9O:=@isSubtype_type
abbrev c9P:=@Bool.eq_iff_iff
abbrev c9Q:=@List.all_eq_true
abbrev c9R:=@List.mem_range
abbrev c9S:=@List.getD_eq_getElem?_getD
abbrev c9T:=@List.getElem?_eq_getElem
abbrev c9U:=@List.mem_cons
abbrev c9V:=@Nat.le_add_right
abbrev c9W:=@List.getElem?_toArray
abbrev c9X:=@Nat.lt_succ_self
abbrev c9Y:=@decide_eq_false
abbrev c9Z:=@Int.natCast_nonneg
abbrev d0a:=@List.length_map
abbrev d0b:=@List.length_range
abbrev d0c:=@Nat.le_of_eq
abbrev d0d:=@List.length_cons
abbrev d0e:=@List.sum_cons
abbrev d0f:=@Nat.zero_le
abbrev d0g:=@Nat.ne_of_lt
abbrev d0h:=@Heap.size_push
abbrev d0i:=@List.mem_singleton
abbrev d0j:=@List.getElem?_eq_some_iff
abbrev d0k:=@List.map_map
abbrev d0l:=@Nat.add_le_add_right
abbrev d0m:=@Nat.add_le_add_left
abbrev d0n:=@wpAny_mono
abbrev d0o:=@wpAny_Name
abbrev d0p:=@wpAny_standAt
abbrev d0q:=@Array.getElem?_eq_getElem
abbrev d0r:=@List.mem_cons_self
abbrev d0s:=@List.getElem?_map
abbrev d0t:=@Bool.and_eq_true_iff
abbrev d0u:=@List.mem_cons_of_mem
abbrev d0v:=@List.mem_append
abbrev d0w:=@List.mem_append_right
abbrev d0x:=@List.mem_append_left
abbrev d0y:=@Bool.false_eq_true
abbrev d0z:=@List.append_nil
abbrev d0A:=@List.append_assoc
abbrev d0B:=@List.isEmpty_iff
abbrev d0C:=@Option.isNone_iff_eq_none
abbrev d0D:=@List.length_append
abbrev d0E:=@Nat.zero_add
abbrev d0F:=@Bool.or_eq_true_iff
abbrev d0G:=@decide_eq_true
abbrev d0H:=@PyProof.Rows.args_nil
abbrev d0I:=@PyProof.Rows.args_cons
abbrev d0J:=@List.contains_iff_mem
abbrev d0K:=@List.map_cons
abbrev d0L:=@List.foldl_cons
abbrev d0M:=@decide_eq_true_eq
abbrev d0N:=@typeLookup_type
abbrev d0O:=@builtinLookup_eq_fast
abbrev d0P:=@Array.getD_eq_getD_getElem?
abbrev d0Q:=@List.mem_map
abbrev d0R:=@List.map_congr_left
abbrev d0S:=@List.filter_cons
abbrev d0T:=@List.filterMap_cons_some
abbrev d0U:=@List.length_eq_zero_iff
abbrev d0V:=@PySem.F.slot_list_getattribute
abbrev d0W:=@List.mem_filter
abbrev d0X:=@List.length_filter_le
abbrev d0Y:=@List.map_append
abbrev d0Z:=@List.length_singleton
abbrev d1a:=@List.flatMap_cons
abbrev d1b:=@List.flatMap_append
abbrev d1c:=@Int.natAbs_natCast
section
inductive D where
 | none | bool (b:Bool) | int (i:Int) | str (s:Str) (g:Bool:=false) | bytes (b:Array UInt8)
 | list (l:List D) | tup (l:List D) | dict (kv:List (Str×Int)) | typ (n:String) | star
noncomputable def b6w (m:Str→Option Value)(kv:List (Str×Int)):Prop:=∀ k,(kv.lookup k=none→m k=none)∧∀ i,kv.lookup k=some i→∃ t,m k=some (.int i t)
structure RC where
 prog:Program
 w:World
 st:Addr
mutual
inductive Rep (C:RC) (B:Addr→Prop) (h:Heap) (n:Nat):Value→D→Prop
 | none:Rep C B h n .none .none
 | bool (b:Bool):Rep C B h n (.bool b) (.bool b)
 | int (i:Int) (t:Tok):Rep C B h n (.int i t) (.int i)
 | str (x:Str) (t:Tok) (g:Bool):(g=true→t≠0∧t<n)→Rep C B h n (.str x t) (.str x g)
 | bytes (b:Array UInt8) (t:Tok):Rep C B h n (.bytes b t) (.bytes b)
 | typ (nm:String):Rep C B h n (.type nm) (.typ nm)
 | list {a:Addr} {vs:List Value} {ds:List D}:¬ B a→h.IsList a vs.toArray→RepL C B h n vs ds→Rep C B h n (.ref a) (.list ds)
 | tup {a:Addr} {vs:List Value} {ds:List D}:¬ B a→IsTup h a vs.toArray→RepL C B h n vs ds→Rep C B h n (.ref a) (.tup ds)
 | dict {a:Addr} {m:Str→Option Value} {kv:List (Str×Int)}:¬ B a→Heap.MapOf (PySem.strKind C.prog C.w) h a m→b6w m kv→Rep C B h n (.ref a) (.dict kv)
 | star:¬ B C.st→h.get? C.st=some { cls:=.type "object",data:=.plain }→Rep C B h n (.ref C.st) .star
inductive RepL (C:RC) (B:Addr→Prop) (h:Heap) (n:Nat):List Value→List D→Prop
 | nil:RepL C B h n [] []
 | cons {v:Value} {vs:List Value} {d:D} {ds:List D}:Rep C B h n v d→RepL C B h n vs ds→RepL C B h n (v :: vs) (d :: ds)
end
section
variable {C:RC}{B B':Addr→Prop}{h h':Heap}{n n':Nat}{v:Value}{d:D}{vs ws:List Value}{ds es:List D}
noncomputable def c6a (C:RC)(B:Addr→Prop)(h:Heap)(n:Nat)(v:Value):D→Prop
 | .none=>v=.none
 | .bool b=>v=.bool b
 | .int i=>∃ t,v=.int i t
 | .str x g=>∃ t,v=.str x t∧(g=true→t≠0∧t<n)
 | .bytes b=>∃ t,v=.bytes b t
 | .typ nm=>v=.type nm
 | .list ds=>∃ a vs,v=.ref a∧¬ B a∧h.IsList a vs.toArray∧RepL C B h n vs ds
 | .tup ds=>∃ a vs,v=.ref a∧¬ B a∧IsTup h a vs.toArray∧RepL C B h n vs ds
 | .dict kv=>∃ a m,v=.ref a∧¬ B a∧Heap.MapOf (PySem.strKind C.prog C.w) h a m∧b6w m kv
 | .star=>v=.ref C.st∧¬ B C.st∧h.get? C.st=some { cls:=.type "object",data:=.plain }
theorem Rep.view (r:Rep C B h n v d):c6a C B h n v d:=by
 cases r with
 | none=>exact rfl
 | bool=>exact rfl
 | int i t=>exact⟨t,rfl⟩
 | str x t g q=>exact⟨t,rfl,q⟩
 | bytes b t=>exact⟨t,rfl⟩
 | typ=>exact rfl
 | list a b c=>exact⟨_,_,rfl,a,b,c⟩
 | tup a b c=>exact⟨_,_,rfl,a,b,c⟩
 | dict a b c=>exact⟨_,_,rfl,a,b,c⟩
 | star a b=>exact⟨rfl,a,b⟩
noncomputable def c6b (C:RC)(B:Addr→Prop)(h:Heap)(n:Nat)(vs:List Value):List D→Prop
 | []=>vs=[]
 | d :: ds=>∃ v r,vs=v :: r∧Rep C B h n v d∧RepL C B h n r ds
theorem RepL.view (r:RepL C B h n vs ds):c6b C B h n vs ds:=by
 cases r with
 | nil=>exact rfl
 | cons a r=>exact⟨_,_,rfl,a,r⟩
theorem a5G {prog:Program}{w:World}{K:Type}[DecidableEq K]{knd:PySem.KeyKind prog w K}{a:Addr}{m:K→Option Value}(x:Heap.MapOf knd h a m)
  (e:∀ o,h.get? a=some o→h'.get? a=some o):Heap.MapOf knd h' a m:=by
 obtain⟨o,es,ep,e1,r⟩:=x
 exact⟨o,es,ep,e o e1,r⟩
theorem a4p {a:Addr}{m:Array Value}(x:h.IsList a m)(e:∀ o,h.get? a=some o→h'.get? a=some o):h'.IsList a m:=
 x.elim fun o q=>⟨o,e o q.1,q.2⟩
theorem b1b {a:Addr}{m:Array Value}(x:IsTup h a m)(e:∀ o,h.get? a=some o→h'.get? a=some o):IsTup h' a m:=
 x.elim fun o q=>⟨o,e o q.1,q.2⟩
theorem a9Y {prog:Program}{w:World}{K:Type}[DecidableEq K]{knd:PySem.KeyKind prog w K}{a:Addr}{m:K→Option Value}(x:Heap.MapOf knd h a m):∃ o,h.get? a=some o:=by
 obtain⟨o,_,_,e,_⟩:=x
 exact⟨o,e⟩
structure Chg (B B':Addr→Prop)(h h':Heap)(n n':Nat):Prop where
 toks:n≤n'
 keep:∀ b o,¬ B b→h.get? b=some o→h'.get? b=some o
 bar:∀ b o,¬ B b→h.get? b=some o→¬ B' b
theorem Chg.list {a:Addr}(k:Chg B B' h h' n n')(hb:¬ B a)(hl:h.IsList a vs.toArray)(r:RepL C B' h' n' vs ds):Rep C B' h' n' (.ref a) (.list ds):=
 .list (hl.elim fun o q=>k.bar a o hb q.1) (a4p hl fun o=>k.keep a o hb) r
theorem Chg.tup {a:Addr}(k:Chg B B' h h' n n')(hb:¬ B a)(hl:IsTup h a vs.toArray)(r:RepL C B' h' n' vs ds):Rep C B' h' n' (.ref a) (.tup ds):=
 .tup (hl.elim fun o q=>k.bar a o hb q.1) (b1b hl fun o=>k.keep a o hb) r
theorem Rep.chg (k:Chg B B' h h' n n')(r:Rep C B h n v d):Rep C B' h' n' v d:=
 Rep.rec (motive_1:=fun v d _=>Rep C B' h' n' v d) (motive_2:=fun vs ds _=>RepL C B' h' n' vs ds)
  .none .bool .int (fun x t g q=>.str x t g fun e=>⟨(q e).1,c9m (q e).2 k.toks⟩) .bytes .typ
  (fun hb hl _ r=>k.list hb hl r) (fun hb hl _ r=>k.tup hb hl r)
  (fun hb hm hd=>.dict ((a9Y hm).elim fun o=>k.bar _ o hb) (a5G hm fun o=>k.keep _ o hb) hd)
  (fun hb e=>.star (k.bar _ _ hb e) (k.keep _ _ hb e)) .nil (fun _ _ a r=>.cons a r) r
theorem RepL.chg (k:Chg B B' h h' n n')(r:RepL C B h n vs ds):RepL C B' h' n' vs ds:=by
 induction ds generalizing vs with
 | nil=>cases r.view;exact .nil
 | cons d ds ih=>
  obtain⟨v,q,rfl,a,r⟩:=r.view
  exact .cons (a.chg k) (ih r)
theorem Rep.change (hn:n≤n')(k:∀ b o,¬ B b→h.get? b=some o→h'.get? b=some o)(m:∀ b o,¬ B b→h.get? b=some o→¬ B' b)(r:Rep C B h n v d):Rep C B' h' n' v d:=r.chg ⟨hn,k,m⟩
theorem RepL.change (hn:n≤n')(k:∀ b o,¬ B b→h.get? b=some o→h'.get? b=some o)(m:∀ b o,¬ B b→h.get? b=some o→¬ B' b)(r:RepL C B h n vs ds):RepL C B' h' n' vs ds:=r.chg ⟨hn,k,m⟩
theorem Rep.keep (x:Rep C B h n v d)(hn:n≤n')(k:∀ b o,¬ B b→h.get? b=some o→h'.get? b=some o):Rep C B h' n' v d:=x.chg ⟨hn,k,fun _ _ hb _=>hb⟩
theorem RepL.keep (x:RepL C B h n vs ds)(hn:n≤n')(k:∀ b o,¬ B b→h.get? b=some o→h'.get? b=some o):RepL C B h' n' vs ds:=x.chg ⟨hn,k,fun _ _ hb _=>hb⟩
theorem Rep.weaken (x:Rep C B h n v d)(m:∀ b,B' b→B b):Rep C B' h n v d:=x.chg ⟨c9n n,fun _ _ _ e=>e,fun _ _ hb _ q=>hb (m _ q)⟩
theorem RepL.weaken (x:RepL C B h n vs ds)(m:∀ b,B' b→B b):RepL C B' h n vs ds:=x.chg ⟨c9n n,fun _ _ _ e=>e,fun _ _ hb _ q=>hb (m _ q)⟩
theorem RepL.length (r:RepL C B h n vs ds):vs.length=ds.length:=by
 induction ds generalizing vs with
 | nil=>cases r.view;rfl
 | cons d ds ih=>
  obtain⟨v,q,rfl,_,r⟩:=r.view
  exact c9o (·+1) (ih r)
theorem RepL.get (r:RepL C B h n vs ds)(i:Nat)(d:D)(e:ds[i]?=some d):∃ v,vs[i]?=some v∧Rep C B h n v d:=by
 induction ds generalizing vs i with
 | nil=>cases e
 | cons d' ds ih=>
  obtain⟨v,q,rfl,a,r⟩:=r.view
  cases i with
  | zero=>cases e;exact⟨v,rfl,a⟩
  | succ i=>exact ih r i e
theorem RepL.append (r:RepL C B h n vs ds)(q:RepL C B h n ws es):RepL C B h n (vs++ws) (ds++es):=by
 induction ds generalizing vs with
 | nil=>cases r.view;exact q
 | cons d ds ih=>
  obtain⟨v,_,rfl,a,r⟩:=r.view
  exact .cons a (ih r)
theorem RepL.snoc (a:RepL C B h n vs ds)(b:Rep C B h n v d):RepL C B h n (vs++[v]) (ds++[d]):=a.append (.cons b .nil)
inductive RepT (C:RC) (B:Addr→Prop) (h:Heap) (n:Nat):Value→D→Prop
 | deep {v:Value} {d:D}:Rep C B h n v d→RepT C B h n v d
 | list {a:Addr} {vs:List Value} {ds:List D}:h.IsList a vs.toArray→RepL C B h n vs ds→RepT C B h n (.ref a) (.list ds)
 | dict {a:Addr} {m:Str→Option Value} {kv:List (Str×Int)}:Heap.MapOf (PySem.strKind C.prog C.w) h a m→b6w m kv→RepT C B h n (.ref a) (.dict kv)
theorem RepT.keep (x:RepT C B h n v d)(hn:n≤n')(k:∀ b o,h.get? b=some o→h'.get? b=some o):RepT C B h' n' v d:=by
 cases x with
 | deep r=>exact .deep (r.keep hn fun b o _=>k b o)
 | list hl r=>exact .list (a4p hl fun o=>k _ o) (r.keep hn fun b o _=>k b o)
 | dict hm hd=>exact .dict (a5G hm fun o=>k _ o) hd
noncomputable def D.deep:D→Bool
 | .list _=>false
 | .dict _=>false
 | _=>true
theorem RepT.rep (x:RepT C B h n v d)(e:d.deep=true):Rep C B h n v d:=by
 cases x with
 | deep r=>exact r
 | list _ _=>exact absurd e c9p
 | dict _ _=>exact absurd e c9p
noncomputable def c8E (C:RC)(B:Addr→Prop)(h:Heap)(n:Nat)(v:Value):D→Prop
 | .list ds=>∃ a vs,v=.ref a∧h.IsList a vs.toArray∧RepL C B h n vs ds
 | .dict kv=>∃ a m,v=.ref a∧Heap.MapOf (PySem.strKind C.prog C.w) h a m∧b6w m kv
 | _=>True
theorem RepT.top (x:RepT C B h n v d):c8E C B h n v d:=by
 cases x with
 | deep r=>
  cases d with
  | list ds=>obtain⟨a,vs,e,_,q⟩:=r.view;exact⟨a,vs,e,q⟩
  | dict kv=>obtain⟨a,m,e,_,q⟩:=r.view;exact⟨a,m,e,q⟩
  | _=>exact trivial
 | list hl r=>exact⟨_,_,rfl,hl,r⟩
 | dict hm hd=>exact⟨_,_,rfl,hm,hd⟩
theorem RepT.asList (x:RepT C B h n v (.list ds)):∃ a vs,v=.ref a∧h.IsList a vs.toArray∧RepL C B h n vs ds:=x.top
theorem RepT.asDict {kv:List (Str×Int)}(x:RepT C B h n v (.dict kv)):∃ a m,v=.ref a∧Heap.MapOf (PySem.strKind C.prog C.w) h a m∧b6w m kv:=x.top
theorem RepT.asTup (x:RepT C B h n v (.tup ds)):∃ a vs,v=.ref a∧¬ B a∧IsTup h a vs.toArray∧RepL C B h n vs ds:=(x.rep rfl).view
theorem RepT.asInt {i:Int}(x:RepT C B h n v (.int i)):∃ t,v=.int i t:=(x.rep rfl).view
theorem RepT.asStr {i:Str}{g:Bool}(x:RepT C B h n v (.str i g)):∃ t,v=.str i t∧(g=true→t≠0∧t<n):=(x.rep rfl).view
theorem RepT.asBytes {i:Array UInt8}(x:RepT C B h n v (.bytes i)):∃ t,v=.bytes i t:=(x.rep rfl).view
theorem RepT.asBool {i:Bool}(x:RepT C B h n v (.bool i)):v=.bool i:=(x.rep rfl).view
theorem RepT.asNone (x:RepT C B h n v .none):v=.none:=(x.rep rfl).view
theorem RepT.asTyp {nm:String}(x:RepT C B h n v (.typ nm)):v=.type nm:=(x.rep rfl).view
end
end
section
inductive Slot where
 | val (d:D) | own (l:List D) | ownD (kv:List (Str×Int)) | meth (x:Nat)
noncomputable abbrev Store:=List (Nat×Slot)
noncomputable def Store.get (σ:Store)(x:Nat):Option Slot:=σ.lookup x
noncomputable def Store.set:Store→Nat→Slot→Store
 | [],x,s=>[(x,s)]
 | p :: r,x,s=>bif x==p.1 then (p.1,s) :: r else p :: Store.set r x s
theorem a0S (p:Nat×Slot)(r:Store)(y:Nat):Store.get (p :: r) y=bif y==p.1 then some p.2 else Store.get r y:=by
 show List.lookup y ((p.1,p.2) :: r) = _
 rw [c9q]
 cases y==p.1 <;> rfl
theorem Store.get_set (σ:Store)(x y:Nat)(s:Slot):(σ.set x s).get y=if y=x then some s else σ.get y:=by
 induction σ with
 | nil=>
  show Store.get ((x,s) :: []) y = _
  rw [a0S]
  by_cases h:y=x
  ·rw [c9r h,c9s.mpr h];rfl
  ·rw [c9t h,c9u.mpr h];rfl
 | cons p r ih=>
  show Store.get (bif x==p.1 then (p.1,s) :: r else p :: Store.set r x s) y = _
  by_cases hx:x=p.1
  ·rw [c9s.mpr hx,cond_true,a0S,a0S,← hx]
   by_cases h:y=x
   ·rw [c9r h,c9s.mpr h];rfl
   ·rw [c9t h,c9u.mpr h];rfl
  ·rw [c9u.mpr hx,cond_false,a0S,a0S,ih]
   by_cases h:y=x
   ·rw [c9r h,c9r h,c9u.mpr (h ▸ hx)];rfl
   ·rw [c9t h,c9t h]
noncomputable def Slot.isOwn:Slot→Bool
 | .val _=>false
 | .own _=>true
 | .ownD _=>true
 | .meth _=>false
noncomputable def Store.isOwn (σ:Store)(x:Nat):Bool:=((σ.get x).map Slot.isOwn).getD false
theorem a0X {σ:Store}{x:Nat}{sl:Slot}(h:σ.get x=some sl):σ.isOwn x=sl.isOwn:=by
 unfold Store.isOwn
 rw [h]
 rfl
theorem a2I {σ:Store}{x:Nat}(h:σ.isOwn x=true):∃ sl,σ.get x=some sl∧sl.isOwn=true:=by
 unfold Store.isOwn at h
 cases e:σ.get x with
 | none=>rw [e] at h;exact absurd h c9p
 | some sl=>rw [e] at h;exact⟨sl,rfl,h⟩
theorem a4q {σ:Store}{x y:Nat}{sl:Slot}:(σ.set x sl).isOwn y=if y=x then sl.isOwn else σ.isOwn y:=by
 unfold Store.isOwn
 rw [Store.get_set]
 by_cases q:y=x
 ·rw [c9r q,c9r q];rfl
 ·rw [c9t q,c9t q]
theorem a7E {σ:Store}{x y:Nat}{sl:Slot}(h:(σ.set x sl).isOwn y=true):(y=x∧sl.isOwn=true)∨(y≠x∧σ.isOwn y=true):=by
 rw [a4q] at h
 by_cases q:y=x
 ·rw [c9r q] at h;exact .inl ⟨q,h⟩
 ·rw [c9t q] at h;exact .inr ⟨q,h⟩
theorem a2A {σ:Store}{x y:Nat}{sl:Slot}(hs:sl.isOwn=false)(h:(σ.set x sl).isOwn y=true):y≠x∧σ.isOwn y=true:=
 (a7E h).elim (fun q=>absurd (q.2.symm.trans hs) (fun e=>c9p e.symm)) id
noncomputable def CodeAt (h:Heap)(c:Addr)(q:Str):Prop:=∃ o vs t,h.get? c=some o∧o.cls=.type "code"∧o.data=.fields vs∧vs[1]?=some (.str q t)
theorem CodeAt.rec' {h:Heap}{c:Addr}{q:Str}(x:CodeAt h c q):h.CodeRec (.ref c) q:=by
 obtain⟨o,vs,t,h1,_,h3,h4⟩:=x
 exact⟨c,o,vs,t,rfl,h1,h3,h4⟩
noncomputable def a5Q (col:Int):Str:=if col==37 then "<genexpr>" else "<lambda>"
inductive LamTab (h:Heap) (q:Str):List Value→Prop
 | nil:LamTab h q []
 | cons (line col:Int) (t u:Tok) (c':Addr) (r:List Value):CodeAt h c' (q++a5Q col)→LamTab h q r→LamTab h q (.int line t :: .int col u :: .ref c' :: r)
structure GC where
 prog:Program
 w:World
 g:Heap
 T:List Addr
 tabOk:Heap→Prop
 tabGet:∀ h,tabOk h→∀ t∈T,∃ ps,h.get? t=some (tabObj ps)
 mono:∀ h h',(∀ b o vs,o.data=.fields vs→(o.cls=.none∨o.cls=.type "code")→h.get? b=some o→h'.get? b=some o)→tabOk h→tabOk h'
 tabNew:∀ t∈T,g.get? t=none
 nm:Nat→Str
 nmInj:∀ i j,nm i=nm j→i=j
 mg:Str→Option Value
 mb:Str→Option Value
 gns:g.Ns mainGlobals mg
 bns:g.Ns builtinsNs mb
 lim:g.NoLimit
 lamC:Bool→Addr
 lamP:Bool→Addr
 lamQ:Bool→Str
 lamIn:∀ i,lamP i∈T
 lamAt:∀ i h,tabOk h→CodeHd h (lamC i) (lamP i)∧∃ ps,h.get? (lamP i)=some (tabObj ps)∧LamTab h (lamQ i) ps.toList
 lamPut:∀ i h h' ps c' pos,tabOk h→h.get? (lamP i)=some (tabObj ps)→Heap.ExtBut (lamP i) h h'→h'.get? (lamP i)=some (tabObj (ps++#[rawInt (pos:Pos).line,rawInt pos.col,.ref c'])) →
  CodeAt h' c' (lamQ i++a5Q pos.col)→tabOk h'
 bmain:∀ i,g.BuiltinsAt mg (lamP i)
noncomputable def a3Q (sc:List (Str×NameKind)):Option Bool:=
 if sc.lookup ("told":Str)==some .cell&&(sc.lookup ("rows":Str)).isSome&&(sc.lookup ("last":Str)).isSome then some false
 else if (sc.lookup ("chunks":Str)).isSome&&(sc.lookup ("stuff":Str)).isSome&&(sc.lookup ("STAR":Str)).isSome then some true
 else none
structure GSt (G:GC)(s:Shared):Prop where
 tok:1≤s.toks
 base:∀ b o,G.g.get? b=some o→s.heap.get? b=some o
 tab:G.tabOk s.heap
 bare:AllBare s.gens
structure Kp (G:GC)(s s':Shared):Prop where
 heap:∀ b o,b ∉ G.T→s.heap.get? b=some o→s'.heap.get? b=some o
 os:s'.os=s.os
 toks:s.toks≤s'.toks
 gens:∀ (i:Nat) (x:GenState),s.gens[i]?=some x→s'.gens[i]?=some x
theorem Kp.refl {G:GC}{s:Shared}:Kp G s s:=⟨fun _ _ _ e=>e,rfl,c9n _,fun _ _ e=>e⟩
theorem Kp.trans {G:GC}{s s₁ s₂:Shared}(a:Kp G s s₁)(b:Kp G s₁ s₂):Kp G s s₂:=
 ⟨fun x o n e=>b.heap x o n (a.heap x o n e),b.os.trans a.os,c9v a.toks b.toks,fun i x e=>b.gens i x (a.gens i x e)⟩
structure Kf (s s':Shared):Prop where
 heap:∀ b o,s.heap.get? b=some o→s'.heap.get? b=some o
 os:s'.os=s.os
 toks:s.toks≤s'.toks
 gens:s'.gens=s.gens
theorem Kf.refl {s:Shared}:Kf s s:=⟨fun _ _ e=>e,rfl,c9n _,rfl⟩
theorem Kf.trans {s s₁ s₂:Shared}(a:Kf s s₁)(b:Kf s₁ s₂):Kf s s₂:=⟨fun x o e=>b.heap x o (a.heap x o e),b.os.trans a.os,c9v a.toks b.toks,b.gens.trans a.gens⟩
theorem Kf.kp {G:GC}{s s':Shared}(k:Kf s s'):Kp G s s':=⟨fun b o _ e=>k.heap b o e,k.os,k.toks,fun i x e=>(c9o (·[i]?) k.gens).trans e⟩
theorem Kf.gst {G:GC}{s s':Shared}(k:Kf s s')(g:GSt G s):GSt G s':=
 ⟨c9v g.tok k.toks,fun b o e=>k.heap b o (g.base b o e),G.mono _ _ (fun b o _ _ _ e=>k.heap b o e) g.tab,k.gens ▸ g.bare⟩
theorem Kf.mk' {s:Shared}{h':Heap}{tk:Nat}(k:∀ b o,s.heap.get? b=some o→h'.get? b=some o)(ht:s.toks≤tk):Kf s { s with heap:=h',toks:=tk }:=⟨k,rfl,ht,rfl⟩
theorem Kf.tok {s:Shared}{tk:Nat}(h:s.toks≤tk):Kf s { s with toks:=tk }:=⟨fun _ _ e=>e,rfl,h,rfl⟩
theorem Kf.push {s:Shared}{o:Obj}{tk:Nat}(h:s.toks≤tk):Kf s { s with heap:=s.heap.push o,toks:=tk }:=⟨fun _ _ e=>c9w _ e,rfl,h,rfl⟩
theorem Kp.kf {G:GC}{s s₁ s':Shared}(a:Kp G s s₁)(b:Kf s₁ s'):Kp G s s':=a.trans b.kp
structure Ctx where
 A:Around
 env:Env
 st:Addr
 bad:Addr→Prop
noncomputable def Ctx.bar (Γ:Ctx)(st:Addr)(bad:Addr→Prop):Ctx:=⟨Γ.A,Γ.env,st,bad⟩
noncomputable def rc (G:GC)(Γ:Ctx):RC:=⟨G.prog,G.w,Γ.st⟩
noncomputable def AOk (lvl:Nat)(A:Around):Prop:=A.handled=none∧A.depth+lvl+20<recursionLimit∧A.units+8*lvl+200<cLine
noncomputable def a0m (Γ:Ctx)(σ:Store)(oa:Nat→Addr)(a:Addr):Prop:=Γ.bad a∨∃ x,σ.isOwn x=true∧a=oa x
inductive KV:List (Str×Value)→List (Str×Int)→Prop
 | nil:KV [] []
 | cons (k:Str) (i:Int) (t:Tok) {a b}:KV a b→KV ((k,.int i t) :: a) ((k,i) :: b)
noncomputable def Flat (o:Obj):Prop:=∀ vs,o.data≠.fields vs
noncomputable def OwnDict (G:GC)(h:Heap)(a:Addr)(kv:List (Str×Int)):Prop:=∃ kvs,Heap.DictOf (PySem.strKind G.prog G.w) h a kvs∧KV kvs kv
theorem a2f {o:Obj}{d:Data}(h:o.data=d)(hd:∀ vs,d≠.fields vs):Flat o:=fun vs q=>hd vs (h.symm.trans q)
theorem OwnDict.at {G:GC}{h h':Heap}{a:Addr}{kv:List (Str×Int)}(x:OwnDict G h a kv)(e:∀ o,Flat o→h.get? a=some o→h'.get? a=some o):OwnDict G h' a kv:=by
 obtain⟨kvs,⟨o,es,ep,ho,r1,r2,r⟩,q⟩:=x
 exact⟨kvs,⟨o,es,ep,e o (a2f r2 nofun) ho,r1,r2,r⟩,q⟩
theorem OwnDict.obj {G:GC}{h:Heap}{a:Addr}{kv:List (Str×Int)}(x:OwnDict G h a kv):∃ o,h.get? a=some o∧Flat o:=by
 obtain⟨_,⟨o,_,_,ho,_,hd,_⟩,_⟩:=x
 exact⟨o,ho,a2f hd nofun⟩
noncomputable def a4a (a:Addr):Obj:={ cls:=.type "builtin_function_or_method",data:=.fields #[.builtin "list.append",.ref a] }
noncomputable abbrev RD (G:GC) (Γ:Ctx) (σ:Store) (oa:Nat→Addr) (s:Shared) (v:Value) (d:D):Prop:=Rep (rc G Γ) (a0m Γ σ oa) s.heap s.toks v d
noncomputable abbrev RT (G:GC) (Γ:Ctx) (σ:Store) (oa:Nat→Addr) (s:Shared) (v:Value) (d:D):Prop:=RepT (rc G Γ) (a0m Γ σ oa) s.heap s.toks v d
noncomputable abbrev RL (G:GC) (Γ:Ctx) (σ:Store) (oa:Nat→Addr) (s:Shared) (vs:List Value) (ds:List D):Prop:=RepL (rc G Γ) (a0m Γ σ oa) s.heap s.toks vs ds
noncomputable def SlotV (G:GC)(Γ:Ctx)(σ:Store)(oa:Nat→Addr)(h:Heap)(n:Nat)(x:Nat)(v:Value):Slot→Prop
 | .val d=>Rep (rc G Γ) (a0m Γ σ oa) h n v d
 | .own l=>v=.ref (oa x)∧∃ vs:List Value,h.PlainList (oa x) vs.toArray∧RepL (rc G Γ) (a0m Γ σ oa) h n vs l
 | .ownD kv=>v=.ref (oa x)∧OwnDict G h (oa x) kv
 | .meth y=>σ.isOwn y=true∧∃ a,v=.ref a∧¬ a0m Γ σ oa a∧h.get? a=some (a4a (oa y))
theorem SlotV.eqOwn {G:GC}{Γ:Ctx}{σ:Store}{oa:Nat→Addr}{h:Heap}{n x:Nat}{v:Value}{sl:Slot}(S:SlotV G Γ σ oa h n x v sl)(hs:sl.isOwn=true):v=.ref (oa x):=by
 cases sl with
 | own l=>exact S.1
 | ownD kv=>exact S.1
 | val d=>exact absurd hs c9p
 | meth z=>exact absurd hs c9p
theorem SlotV.flat {G:GC}{Γ:Ctx}{σ:Store}{oa:Nat→Addr}{h:Heap}{n x:Nat}{v:Value}{sl:Slot}(S:SlotV G Γ σ oa h n x v sl)(hs:sl.isOwn=true):∃ o,h.get? (oa x)=some o∧Flat o:=by
 cases sl with
 | own l=>
  obtain⟨_,vs,⟨n,hp⟩,_⟩:=S
  exact⟨_,hp,nofun⟩
 | ownD kv=>exact S.2.obj
 | val d=>exact absurd hs c9p
 | meth z=>exact absurd hs c9p
noncomputable abbrev a0g:=List (Str×NameKind)
structure FrS (G:GC)(A:Around)(env:Env)(lvl:Nat)(sc:a0g):Prop where
 aok:AOk lvl A
 kind:env.scope.kind=.function
 names:env.scope.names=sc
 code:∀ i,a3Q sc=some i→env.code=.ref (G.lamC i)∧env.qual=G.lamQ i
 globals:env.globals=mainGlobals
 builtins:env.builtins=builtinsNs
 newL:G.g.get? env.locals=none
 newC:∀ x c,env.cells.lookup x=some c→G.g.get? c=none
 cellInj:∀ x y c,env.cells.lookup x=some c→env.cells.lookup y=some c→x=y
inductive Sits (env:Env) (sc:a0g) (h:Heap) (m:Str→Option Value) (x:Str) (v:Value):Prop
 | loc (h1:sc.lookup x=some .local) (h2:m x=some v)
 | cel (c:Addr) (h1:sc.lookup x=some .cell∨sc.lookup x=some .free) (h2:env.cells.lookup x=some c) (h3:h.IsCell c (some v))
structure St (G:GC)(Γ:Ctx)(lvl:Nat)(sc:a0g)(σ:Store)(oa:Nat→Addr)(s:Shared):Prop extends FrS G Γ.A Γ.env lvl sc where
 gst:GSt G s
 badT:∀ t∈G.T,Γ.bad t
 badL:Γ.bad Γ.env.locals
 badC:∀ x c,Γ.env.cells.lookup x=some c→Γ.bad c
 own:∀ x,σ.isOwn x=true→G.g.get? (oa x)=none∧¬ Γ.bad (oa x)
 ownInj:∀ x y,σ.isOwn x=true→σ.isOwn y=true→oa x=oa y→x=y
 alloc:∀ a,a0m Γ σ oa a→∃ o,s.heap.get? a=some o
 cellAt:∀ x,sc.lookup x=some .cell∨sc.lookup x=some .free→∃ c v,Γ.env.cells.lookup x=some c∧s.heap.IsCell c v
 slots:∃ m,s.heap.Ns Γ.env.locals m∧∀ x sl,σ.get x=some sl→∃ v,Sits Γ.env sc s.heap m (G.nm x) v∧SlotV G Γ σ oa s.heap s.toks x v sl
noncomputable def Mut (Γ:Ctx)(σ:Store)(oa:Nat→Addr)(b:Addr):Prop:=
 b=Γ.env.locals∨(∃ x,Γ.env.cells.lookup x=some b)∨∃ x,σ.isOwn x=true∧b=oa x
section
variable {G:GC}{Γ Γ':Ctx}{lvl:Nat}{sc:a0g}{σ σ':Store}{oa oa':Nat→Addr}{s s':Shared}
theorem St.ownBad (S:St G Γ lvl sc σ oa s)(x:Nat)(h:σ.isOwn x=true):¬ Γ.bad (oa x):=(S.own x h).2
theorem St.newO (S:St G Γ lvl sc σ oa s)(x:Nat)(h:σ.isOwn x=true):G.g.get? (oa x)=none:=(S.own x h).1
theorem Sits.keep {env:Env}{h h':Heap}{m:Str→Option Value}{x:Str}{v:Value}(S:Sits env sc h m x v)(k:∀ c o,env.cells.lookup x=some c→Flat o→h.get? c=some o→h'.get? c=some o):Sits env sc h' m x v:=by
 cases S with
 | loc h1 h2=>exact .loc h1 h2
 | cel c h1 h2 h3=>
  refine h3.elim (clear% h3;fun o Z1=>Z1.elim (fun e d=>?_))
  exact .cel c h1 h2 ⟨o,k c o h2 (a2f d nofun) e,d⟩
theorem SlotV.chg {h h':Heap}{n n' x:Nat}{v:Value}{sl:Slot}(hst:Γ'.st=Γ.st)(k:Chg (a0m Γ σ oa) (a0m Γ' σ' oa') h h' n n')
  (ko:sl.isOwn=true→oa' x=oa x∧∀ o,Flat o→h.get? (oa x)=some o→h'.get? (oa x)=some o) (km:∀ z,sl=.meth z→σ.isOwn z=true→σ'.isOwn z=true∧oa' z=oa z) (S:SlotV G Γ σ oa h n x v sl):SlotV G Γ' σ' oa' h' n' x v sl:=by
 have er:rc G Γ'=rc G Γ:=c9o (RC.mk G.prog G.w) hst
 cases sl with
 | val d=>show Rep (rc G Γ') _ _ _ _ _;rw [er];exact Rep.chg k S
 | own l=>
  obtain⟨e,vs,⟨n,hp⟩,r⟩:=S
  refine (ko rfl).elim fun k1 k2=>?_
  refine⟨k1 ▸ e,vs,⟨n,k1 ▸ k2 _ nofun hp⟩,?_⟩
  rw [er]
  exact r.chg k
 | ownD kv=>
  refine (ko rfl).elim fun k1 k2=>?_
  exact⟨k1 ▸ S.1,k1 ▸ S.2.at k2⟩
 | meth z=>
  obtain⟨ho,a,e,hb,hg⟩:=S
  refine (km z rfl ho).elim fun k1 k2=>?_
  exact⟨k1,a,e,k.bar _ _ hb hg,k2 ▸ k.keep _ _ hb hg⟩
theorem St.move (S:St G Γ lvl sc σ oa s)(st:Addr)(bad':Addr→Prop)(g:GSt G s')(bT:∀ t∈G.T,bad' t)(bL:bad' Γ.env.locals)(bC:∀ x c,Γ.env.cells.lookup x=some c→bad' c)
  (ow:∀ x,σ'.isOwn x=true→G.g.get? (oa' x)=none∧¬ bad' (oa' x)) (inj:∀ x y,σ'.isOwn x=true→σ'.isOwn y=true→oa' x=oa' y→x=y)
  (al:∀ a,a0m (Γ.bar st bad') σ' oa' a→∃ o,s'.heap.get? a=some o)
  (kF:∀ b o,b=Γ.env.locals∨(∃ x,Γ.env.cells.lookup x=some b)→Flat o→s.heap.get? b=some o→s'.heap.get? b=some o)
  (sl:∀ x q,σ'.get x=some q→∃ p,σ.get x=some p∧∀ v,SlotV G Γ σ oa s.heap s.toks x v p→SlotV G (Γ.bar st bad') σ' oa' s'.heap s'.toks x v q):St G (Γ.bar st bad') lvl sc σ' oa' s' where
 toFrS:=S.toFrS
 gst:=g
 badT:=bT
 badL:=bL
 badC:=bC
 own:=ow
 ownInj:=inj
 alloc:=al
 cellAt:=fun x hx=>by
  obtain⟨c,v,e,o,eo,d⟩:=S.cellAt x hx
  exact⟨c,v,e,o,kF c o (.inr ⟨x,e⟩) (a2f d nofun) eo,d⟩
 slots:=by
  obtain⟨m,⟨o,es,ep,e,d,r⟩,hm⟩:=S.slots
  refine⟨m,⟨o,es,ep,kF _ o (.inl rfl) (a2f d nofun) e,d,r⟩,fun x q hq=>?_⟩
  refine (sl x q hq).elim fun p Z1=>Z1.elim (fun hp t=>?_)
  refine (hm x p hp).elim fun v Z1=>Z1.elim (fun hv sv=>?_)
  exact⟨v,hv.keep fun c o e=>kF c o (.inr ⟨_,e⟩),t v sv⟩
theorem St.rebar (S:St G Γ lvl sc σ oa s)(bad':Addr→Prop)(g:GSt G s')(bT:∀ t∈G.T,bad' t)(bL:bad' Γ.env.locals)(bC:∀ x c,Γ.env.cells.lookup x=some c→bad' c)
  (nb:∀ x,σ.isOwn x=true→¬ bad' (oa x)) (al:∀ a,a0m (Γ.bar Γ.st bad') σ oa a→∃ o,s'.heap.get? a=some o)
  (kM:∀ b o,Mut Γ σ oa b→Flat o→s.heap.get? b=some o→s'.heap.get? b=some o) (kB:Chg (a0m Γ σ oa) (a0m (Γ.bar Γ.st bad') σ oa) s.heap s'.heap s.toks s'.toks):St G (Γ.bar Γ.st bad') lvl sc σ oa s':=
 S.move Γ.st bad' g bT bL bC (fun x h=>⟨S.newO x h,nb x h⟩) S.ownInj al (fun b o hb=>kM b o (hb.elim .inl fun q=>.inr (.inl q)))
  fun x q hq=>⟨q,hq,fun _=>SlotV.chg rfl kB (fun ho=>⟨rfl,fun o=>kM _ o (.inr (.inr ⟨x,(a0X hq).trans ho,rfl⟩))⟩) fun _ _ h=>⟨h,rfl⟩⟩
theorem St.kf (S:St G Γ lvl sc σ oa s)(k:Kf s s'):St G Γ lvl sc σ oa s':=
 S.rebar Γ.bad (k.gst S.gst) S.badT S.badL S.badC S.ownBad (fun a h=>(S.alloc a h).elim fun o e=>⟨o,k.heap _ _ e⟩) (fun b o _ _=>k.heap b o) ⟨k.toks,fun b o _=>k.heap b o,fun _ _ h _=>h⟩
theorem St.flatT (S:St G Γ lvl sc σ oa s){b:Addr}{o:Obj}(e:s.heap.get? b=some o)(hf:Flat o):b ∉ G.T:=fun q=>by
 refine (G.tabGet _ S.gst.tab b q).elim fun ps ht=>?_
 rw [e] at ht
 cases ht
 exact hf _ rfl
theorem a8H (S:St G Γ lvl sc σ oa s)(k:Kp G s s')(b:Addr)(o:Obj)(hb:¬ a0m Γ σ oa b)(e:s.heap.get? b=some o):s'.heap.get? b=some o:=k.heap b o (fun q=>hb (.inl (S.badT b q))) e
theorem b1c (S:St G Γ lvl sc σ oa s)(k:Kp G s s')(b:Addr)(o:Obj)(hf:Flat o)(e:s.heap.get? b=some o):s'.heap.get? b=some o:=k.heap b o (S.flatT e hf) e
theorem a9Z (S:St G Γ lvl sc σ oa s)(k:Kp G s s')(g:GSt G s')(a:Addr)(h:a0m Γ σ oa a):∃ o,s'.heap.get? a=some o:=by
 by_cases q:a∈G.T
 ·refine (G.tabGet _ g.tab a q).elim fun ps e=>?_
  exact⟨_,e⟩
 ·refine (S.alloc a h).elim fun o e=>?_
  exact⟨o,k.heap _ _ q e⟩
theorem St.kp (S:St G Γ lvl sc σ oa s)(k:Kp G s s')(g:GSt G s'):St G Γ lvl sc σ oa s':=
 S.rebar Γ.bad g S.badT S.badL S.badC S.ownBad (a9Z S k g) (fun b o _=>b1c S k b o) ⟨k.toks,a8H S k,fun _ _ h _=>h⟩
theorem SlotV.keep {h h':Heap}{n n':Nat}{x:Nat}{v:Value}{sl:Slot}(S:SlotV G Γ σ oa h n x v sl)(hn:n≤n')(hx:σ.get x=some sl)
  (k:∀ b o,¬ Γ.bad b→h.get? b=some o→h'.get? b=some o) (hob:∀ x,σ.isOwn x=true→¬ Γ.bad (oa x)):SlotV G Γ σ oa h' n' x v sl:=
 S.chg rfl ⟨hn,fun b o hb=>k b o fun q=>hb (.inl q),fun _ _ h _=>h⟩ (fun ho=>⟨rfl,fun o _=>k _ o (hob x ((a0X hx).trans ho))⟩) fun _ _ h=>⟨h,rfl⟩
theorem RepT.kp {v:Value}{d:D}(S:St G Γ lvl sc σ oa s)(x:RT G Γ σ oa s v d)(k:Kp G s s'):RT G Γ σ oa s' v d:=by
 cases x with
 | deep r=>exact .deep (r.keep k.toks (a8H S k))
 | list hl r=>
  obtain⟨o,eo,ec,n,ed⟩:=hl
  exact .list ⟨o,b1c S k _ o (a2f ed nofun) eo,ec,n,ed⟩ (r.keep k.toks (a8H S k))
 | dict hm hd=>
  obtain⟨o,es,ep,e,r1,ed,r⟩:=hm
  exact .dict ⟨o,es,ep,b1c S k _ o (a2f ed nofun) e,r1,ed,r⟩ hd
theorem Rep.kp {v:Value}{d:D}(S:St G Γ lvl sc σ oa s)(x:RD G Γ σ oa s v d)(k:Kp G s s'):RD G Γ σ oa s' v d:=x.keep k.toks (a8H S k)
theorem RepL.kp {v:List Value}{d:List D}(S:St G Γ lvl sc σ oa s)(x:RL G Γ σ oa s v d)(k:Kp G s s'):RL G Γ σ oa s' v d:=x.keep k.toks (a8H S k)
theorem FrS.kindOf {A:Around}{env:Env}(F:FrS G A env lvl sc){x:Str}{k:NameKind}(h:sc.lookup x=some k):env.kindOf x=some k:=(c9o (fun n:a0g=>n.lookup x) F.names).trans h
theorem St.read (S:St G Γ lvl sc σ oa s){x:Nat}{sl:Slot}(hx:σ.get x=some sl){Q:Value→Shared→Prop}{E:Value→Shared→Prop}
  (h:∀ v,SlotV G Γ σ oa s.heap s.toks x v sl→Q v s) (hcd:(G.nm x==("__classdict__":Str))=false):wpAny (model G.prog G.w) Γ.A (loadName Γ.env (G.nm x)) Q E s:=by
 refine (S.slots).elim fun m Z1=>Z1.elim (fun hn hm=>?_)
 refine (hm x sl hx).elim fun v Z1=>Z1.elim (fun hv sv=>?_)
 cases hv with
 | loc h1 h2=>exact wpAny_loadName_local S.kind (S.kindOf h1) hn h2 (h v sv)
 | cel c h1 h2 h3=>
  rcases h1 with h1 | h1
  ·exact wpAny_loadName_cell S.kind (S.kindOf h1) h2 h3 (h v sv)
  ·exact wpAny_loadName_free S.kind (S.kindOf h1) h2 h3 (h v sv) hcd
end
end
section
structure Step (G:GC)(Γ:Ctx)(W:Nat→Bool)(σ:Store)(oa:Nat→Addr)(s:Shared)(σ':Store)(oa':Nat→Addr)(s':Shared):Prop where
 heap:∀ b o,b ∉ G.T→¬ Mut Γ σ oa b→s.heap.get? b=some o→s'.heap.get? b=some o
 os:s'.os=s.os
 toks:s.toks≤s'.toks
 gens:∀ (i:Nat) (x:GenState),s.gens[i]?=some x→s'.gens[i]?=some x
 own:∀ x,σ'.isOwn x=true→(∃ y,σ.isOwn y=true∧oa' x=oa y)∨s.heap.get? (oa' x)=none
 addr:∀ x,W x=false→oa' x=oa x
noncomputable def Slot.notM (x:Nat):Slot→Bool
 | .meth y=>!(y==x)
 | _=>true
noncomputable def noMeth (σ:Store)(x:Nat):Bool:=σ.all fun p=>p.2.notM x
theorem a6X {σ:Store}{x z y:Nat}(h:noMeth σ x=true)(e:σ.get z=some (.meth y)):y≠x:=by
 induction σ with
 | nil=>cases e
 | cons p r ih=>
  have h:(p.2.notM x&&noMeth r x)=true:=h
  rw [a0S] at e
  cases hz:z==p.1 with
  | true=>
   rw [hz] at e
   have e:p.2=.meth y:=c9x e
   rw [e] at h
   intro q
   rw [q] at h
   have h:(!(x==x)&&noMeth r x)=true:=h
   rw [c9y] at h
   exact absurd h c9p
  | false=>
   rw [hz] at e
   rw [c9z] at h
   exact ih h.2 e
noncomputable def a7F (o:Obj):Prop:=∀ vs,o.data=.fields vs→o.cls≠.none∧o.cls≠.type "code"
theorem Flat.ok {o:Obj}(h:Flat o):a7F o:=fun vs q=>absurd q (h vs)
section
variable {G:GC}{Γ:Ctx}{W:Nat→Bool}{lvl:Nat}{sc:a0g}{σ σ₁ σ₂:Store}{oa oa₁ oa₂:Nat→Addr}{s s₁ s₂ s':Shared}{P:Addr→Prop}
theorem a0f {h:Heap}{a b:Addr}{o:Obj}(ha:h.get? a=none)(hb:h.get? b=some o):b≠a:=fun q=>by
 rw [q,ha] at hb
 cases hb
theorem Step.refl:Step G Γ W σ oa s σ oa s:=⟨fun _ _ _ _ e=>e,rfl,c9n _,fun _ _ e=>e,fun x h=>.inl ⟨x,h,rfl⟩,fun _ _=>rfl⟩
theorem Step.trans (a:Step G Γ W σ oa s σ₁ oa₁ s₁)(S:St G Γ lvl sc σ₁ oa₁ s₁)(b:Step G Γ W σ₁ oa₁ s₁ σ₂ oa₂ s₂):Step G Γ W σ oa s σ₂ oa₂ s₂ where
 heap:=fun x o hT hM e=>b.heap x o hT (fun q=>by
  rcases q with q | q | ⟨y,hy,q⟩
  ·exact hM (.inl q)
  ·exact hM (.inr (.inl q))
  ·rcases a.own y hy with⟨z,hz,e'⟩ | e'
   ·exact hM (.inr (.inr ⟨z,hz,q.trans e'⟩))
   ·exact a0f e' e q) (a.heap x o hT hM e)
 os:=b.os.trans a.os
 toks:=c9v a.toks b.toks
 gens:=fun i x e=>b.gens i x (a.gens i x e)
 own:=fun x hx=>by
  rcases b.own x hx with⟨y,hy,e⟩ | e
  ·rw [e]
   exact a.own y hy
  ·have nb:¬ Γ.bad (oa₂ x):=fun q=>(S.alloc _ (.inl q)).elim fun o eo=>a0f e eo rfl
   cases hq:s.heap.get? (oa₂ x) with
   | none=>exact .inr rfl
   | some o=>
    by_cases hm:Mut Γ σ oa (oa₂ x)
    ·rcases hm with q | ⟨y,q⟩ | q
     ·exact absurd (q ▸ S.badL) nb
     ·exact absurd (S.badC _ _ q) nb
     ·exact .inl q
    ·exact absurd rfl (a0f e (a.heap _ o (fun q=>nb (S.badT _ q)) hm hq))
 addr:=fun x hx=>(b.addr x hx).trans (a.addr x hx)
theorem Step.ofKp (k:Kp G s s'):Step G Γ W σ oa s σ oa s':=⟨fun b o hT _ e=>k.heap b o hT e,k.os,k.toks,k.gens,fun x h=>.inl ⟨x,h,rfl⟩,fun _ _=>rfl⟩
theorem Step.butP {h':Heap}{tk:Nat}(t:Step G Γ W σ oa s σ₁ oa₁ s')(hI:∀ a,P a→s.heap.get? a=none)(k:∀ b o,¬ P b→s'.heap.get? b=some o→h'.get? b=some o)(ht:s'.toks≤tk):Step G Γ W σ oa s σ₁ oa₁ { s' with heap:=h',toks:=tk }:=
 ⟨fun b o hT hM e=>k b o (fun q=>a0f (hI b q) e rfl) (t.heap b o hT hM e),t.os,c9v t.toks ht,t.gens,t.own,t.addr⟩
theorem Step.bar {st:Addr}{bad':Addr→Prop}(t:Step G (Γ.bar st bad') W σ oa s σ₁ oa₁ s'):Step G Γ W σ oa s σ₁ oa₁ s':=⟨t.heap,t.os,t.toks,t.gens,t.own,t.addr⟩
theorem b9C {h':Heap}{tk:Nat}(g:GSt G s)(hg:∀ a,P a→G.g.get? a=none)(ho:∀ a,P a→∃ o,s.heap.get? a=some o∧a7F o)(k:∀ b o,¬ P b→s.heap.get? b=some o→h'.get? b=some o)(ht:s.toks≤tk):GSt G { s with heap:=h',toks:=tk }:=
 ⟨c9v g.tok ht,fun b o e=>k b o (fun q=>a0f (hg b q) e rfl) (g.base b o e),
  G.mono _ _ (fun b o' vs hd hcl e=>k b o' (fun q=>by
   refine (ho b q).elim fun o Z1=>Z1.elim (fun e' hc=>?_)
   rw [e'] at e
   cases e
   exact hcl.elim (hc vs hd).1 (hc vs hd).2) e) g.tab,g.bare⟩
theorem a4U {a:Addr}{o₀:Obj}{h':Heap}{tk:Nat}(g:GSt G s)(k:∀ b o,b≠a→s.heap.get? b=some o→h'.get? b=some o)(hg:G.g.get? a=none)(ho:s.heap.get? a=some o₀)
  (hc:a7F o₀) (ht:s.toks≤tk):GSt G { s with heap:=h',toks:=tk }:=
 b9C (P:=(·=a)) g (fun b q=>q ▸ hg) (fun b q=>⟨o₀,q ▸ ho,hc⟩) k ht
noncomputable abbrev Ctx.plusP (Γ:Ctx) (P:Addr→Prop):Ctx:=Γ.bar Γ.st fun b=>Γ.bad b∨P b
noncomputable abbrev Ctx.plus (Γ:Ctx) (a:Addr):Ctx:=Γ.plusP (·=a)
noncomputable abbrev Ctx.plusL (Γ:Ctx) (ch:List Addr):Ctx:=Γ.plusP (·∈ch)
theorem a0I {b:Addr}:a0m (Γ.plusP P) σ oa b↔a0m Γ σ oa b∨P b:=
 ⟨fun h=>h.elim (fun h=>h.elim (fun h=>.inl (.inl h)) .inr) fun h=>.inl (.inr h),fun h=>h.elim (fun h=>h.elim (fun h=>.inl (.inl h)) .inr) fun h=>.inl (.inr h)⟩
theorem b0a {h h':Heap}{n n':Nat}(hP:∀ a,P a→h.get? a=none)(hn:n≤n')(k:∀ b o,¬ a0m Γ σ oa b→h.get? b=some o→h'.get? b=some o):Chg (a0m Γ σ oa) (a0m (Γ.plusP P) σ oa) h h' n n':=
 ⟨hn,k,fun b o hb e q=>(a0I.mp q).elim hb fun q=>a0f (hP b q) e rfl⟩
theorem Rep.plus {v:Value}{d:D}{h h':Heap}{n n':Nat}(r:Rep (rc G Γ) (a0m Γ σ oa) h n v d)(ha:∀ a,P a→h.get? a=Option.none)(hn:n≤n')(k:∀ b o,h.get? b=some o→h'.get? b=some o):Rep (rc G (Γ.plusP P)) (a0m (Γ.plusP P) σ oa) h' n' v d:=
 Rep.chg (b0a ha hn fun b o _=>k b o) r
theorem RepL.plus {v:List Value}{d:List D}{h h':Heap}{n n':Nat}(r:RepL (rc G Γ) (a0m Γ σ oa) h n v d)(ha:∀ a,P a→h.get? a=none)(hn:n≤n')(k:∀ b o,h.get? b=some o→h'.get? b=some o):RepL (rc G (Γ.plusP P)) (a0m (Γ.plusP P) σ oa) h' n' v d:=
 RepL.chg (b0a ha hn fun b o _=>k b o) r
theorem St.barKp (S:St G Γ lvl sc σ oa s)(bad':Addr→Prop)(h1:∀ b,Γ.bad b→bad' b)(h2:∀ b,bad' b→Γ.bad b∨(s.heap.get? b=none∧∃ o,s'.heap.get? b=some o))(k:Kp G s s')(g:GSt G s'):St G (Γ.bar Γ.st bad') lvl sc σ oa s':=
 S.rebar bad' g (fun t ht=>h1 _ (S.badT t ht)) (h1 _ S.badL) (fun x c e=>h1 _ (S.badC x c e))
  (fun x hx q=>(h2 _ q).elim (S.ownBad x hx) fun q=>(S.alloc _ (.inr ⟨x,hx,rfl⟩)).elim fun o e=>a0f q.1 e rfl)
  (fun a h=>h.elim (fun h=>(h2 a h).elim (fun q=>a9Z S k g a (.inl q)) And.right) fun h=>a9Z S k g a (.inr h))
  (fun b o _=>b1c S k b o)
  ⟨k.toks,a8H S k,fun b o hb e q=>q.elim (fun q=>(h2 b q).elim (fun q=>hb (.inl q)) fun q=>a0f q.1 e rfl) fun q=>hb (.inr q)⟩
theorem St.plusP (S:St G Γ lvl sc σ oa s)(ha:∀ a,P a→s.heap.get? a=none)(k:Kp G s s')(g:GSt G s')(hal:∀ a,P a→∃ o,s'.heap.get? a=some o):St G (Γ.plusP P) lvl sc σ oa s':=
 S.barKp _ (fun _=>.inl) (fun b h=>h.imp id fun q=>⟨ha b q,hal b q⟩) k g
theorem St.plusKp (S:St G Γ lvl sc σ oa s){a:Addr}(ha:s.heap.get? a=none)(k:Kp G s s')(g:GSt G s')(hal:∃ o,s'.heap.get? a=some o):St G (Γ.plus a) lvl sc σ oa s':=
 S.plusP (fun _ q=>q ▸ ha) k g fun _ q=>q ▸ hal
theorem St.butP (S:St G Γ lvl sc σ oa s)(hb:∀ a,P a→Γ.bad a)(hL:¬ P Γ.env.locals)(hC:∀ y c,Γ.env.cells.lookup y=some c→¬ P c)(hg:∀ a,P a→G.g.get? a=none)(ho:∀ a,P a→∃ o,s.heap.get? a=some o∧a7F o)
  {h':Heap} {tk:Nat} (k:∀ b o,¬ P b→s.heap.get? b=some o→h'.get? b=some o) (hal:∀ a,P a→∃ o',h'.get? a=some o') (ht:s.toks≤tk):St G Γ lvl sc σ oa { s with heap:=h',toks:=tk }:=
 S.rebar Γ.bad (b9C S.gst hg ho k ht) S.badT S.badL S.badC S.ownBad
  (fun a h=>by
   by_cases q:P a
   ·exact hal a q
   ·exact (S.alloc a h).elim fun o e=>⟨o,k _ _ q e⟩)
  (fun b o hm _=>k b o fun q=>hm.elim (fun e=>hL (e ▸ q)) fun h=>h.elim (fun h=>h.elim fun y e=>hC y b e q) fun h=>h.elim fun x h=>S.ownBad x h.1 (h.2 ▸ hb b q))
  ⟨ht,fun b o h=>k b o fun q=>h (.inl (hb b q)),fun _ _ h _=>h⟩
theorem St.doneP (S:St G (Γ.plusP P) lvl sc σ oa s)(hT:∀ t∈G.T,Γ.bad t)(hL:Γ.bad Γ.env.locals)(hC:∀ x c,Γ.env.cells.lookup x=some c→Γ.bad c)(na:∀ a,P a→¬ Γ.bad a)(hg:∀ a,P a→G.g.get? a=none)
  (ho:∀ a,P a→∃ o,s.heap.get? a=some o∧a7F o) {h':Heap} {tk:Nat} (k:∀ b o,¬ P b→s.heap.get? b=some o→h'.get? b=some o) (ht:s.toks≤tk):St G Γ lvl sc σ oa { s with heap:=h',toks:=tk }:=by
 have hm:∀ b,Mut Γ σ oa b→¬ P b:=fun b hm q=>hm.elim (fun e=>na b q (e ▸ hL)) fun h=>h.elim (fun h=>h.elim fun y e=>na b q (hC y b e)) fun h=>h.elim fun x h=>S.ownBad x h.1 (.inr (h.2 ▸ q))
 have kA:∀ a,a0m Γ σ oa a→¬ P a:=fun a h q=>h.elim (na a q) fun h=>hm a (.inr (.inr h)) q
 exact S.rebar Γ.bad (b9C S.gst hg ho k ht) hT hL hC (fun x hx q=>S.ownBad x hx (.inl q))
  (fun a h=>(S.alloc a (h.imp .inl id)).elim fun o e=>⟨o,k a o (kA a h) e⟩) (fun b o h _=>k b o (hm b h))
  ⟨ht,fun b o h=>k b o fun q=>h (.inl (.inr q)),fun b o h _ q=>h (q.imp .inl id)⟩
theorem St.doneBut {a:Addr}(S:St G (Γ.plus a) lvl sc σ oa s)(hT:∀ t∈G.T,Γ.bad t)(hL:Γ.bad Γ.env.locals)(hC:∀ x c,Γ.env.cells.lookup x=some c→Γ.bad c)(na:¬ Γ.bad a)
  (hg:G.g.get? a=none) {o:Obj} (ho:s.heap.get? a=some o) (hc:a7F o) {h':Heap} {tk:Nat} (k:∀ b o,b≠a→s.heap.get? b=some o→h'.get? b=some o) (ht:s.toks≤tk) :
  St G Γ lvl sc σ oa { s with heap:=h',toks:=tk }:=
 S.doneP hT hL hC (fun _ q=>q ▸ na) (fun _ q=>q ▸ hg) (fun _ q=>⟨o,q ▸ ho,hc⟩) k ht
structure Turn (G:GC)(Γ:Ctx)(bad':Addr→Prop)(σ:Store)(x:Nat)(sl:Slot)(oa oa':Nat→Addr):Prop where
 badT:∀ t∈G.T,bad' t
 badL:bad' Γ.env.locals
 badC:∀ y c,Γ.env.cells.lookup y=some c→bad' c
 all:∀ b,a0m (Γ.bar Γ.st bad') (σ.set x sl) oa' b→a0m Γ σ oa b
 other:∀ y,y≠x→oa' y=oa y
 own:∀ y,(σ.set x sl).isOwn y=true→G.g.get? (oa' y)=none∧¬ bad' (oa' y)
 ownInj:∀ y z,(σ.set x sl).isOwn y=true→(σ.set x sl).isOwn z=true→oa' y=oa' z→y=z
 noMeth:noMeth σ x=true
variable {bad':Addr→Prop}{oa':Nat→Addr}
theorem SlotV.turn {x y:Nat}{sl₀ sl:Slot}{v:Value}{h h':Heap}{n n':Nat}(T:Turn G Γ bad' σ x sl₀ oa oa')(hy:σ.get y=some sl)(hne:y≠x)(hn:n≤n')
  (k:∀ b o,¬ a0m Γ σ oa b→h.get? b=some o→h'.get? b=some o) (ko:sl.isOwn=true→∀ o,Flat o→h.get? (oa y)=some o→h'.get? (oa y)=some o)
  (S:SlotV G Γ σ oa h n y v sl):SlotV G (Γ.bar Γ.st bad') (σ.set x sl₀) oa' h' n' y v sl:=
 SlotV.chg (Γ:=Γ) (Γ':=Γ.bar Γ.st bad') (σ:=σ) (oa:=oa) rfl ⟨hn,k,fun b _ hb _ q=>hb (T.all b q)⟩ (fun ho=>⟨T.other y hne,ko ho⟩)
  (fun z e hz=>⟨a4q.trans ((c9t (a6X T.noMeth (e ▸ hy))).trans hz),T.other z (a6X T.noMeth (e ▸ hy))⟩) S
theorem St.turn (S:St G Γ lvl sc σ oa s){x:Nat}{sl sl₀:Slot}(T:Turn G Γ bad' σ x sl oa oa')(hs:σ.get x=some sl₀)
  (hx:∀ v,SlotV G Γ σ oa s.heap s.toks x v sl₀→SlotV G (Γ.bar Γ.st bad') (σ.set x sl) oa' s.heap s.toks x v sl):St G (Γ.bar Γ.st bad') lvl sc (σ.set x sl) oa' s:=
 S.move Γ.st bad' S.gst T.badT T.badL T.badC T.own T.ownInj (fun a h=>S.alloc a (T.all a h)) (fun _ _ _ _ e=>e) fun y q hy=>by
  rw [Store.get_set] at hy
  by_cases e:y=x
  ·rw [c9r e] at hy
   cases hy
   rw [e]
   exact⟨sl₀,hs,hx⟩
  ·rw [c9t e] at hy
   exact⟨q,hy,fun v=>SlotV.turn T hy e (c9n _) (fun _ _ _ e=>e) fun _ _ _ e=>e⟩
structure Put (env:Env)(sc:a0g)(x:Str)(v:Value)(h h':Heap)(m:Str→Option Value):Prop where
 keep:∀ b o,b≠env.locals→env.cells.lookup x≠some b→h.get? b=some o→h'.get? b=some o
 al:∀ b o,h.get? b=some o→∃ o,h'.get? b=some o
 ns:∃ m',h'.Ns env.locals m'∧(∀ y w,y≠x→Sits env sc h m y w→Sits env sc h' m' y w)∧Sits env sc h' m' x v
 cell:∀ y c w,env.cells.lookup y=some c→h.IsCell c w→∃ w,h'.IsCell c w
theorem a4V {h:Heap}{L:Addr}{m:Str→Option Value}(hn:h.Ns L m):∃ o,h.get? L=some o∧Flat o:=by
 obtain⟨o,_,_,e,hd,_⟩:=hn
 exact⟨o,e,a2f hd nofun⟩
theorem a8I {h:Heap}{c:Addr}{v:Option Value}(hc:h.IsCell c v):∃ o,h.get? c=some o∧Flat o:=by
 refine hc.elim (clear% hc;fun o Z1=>Z1.elim (fun e hd=>?_))
 exact⟨o,e,a2f hd nofun⟩
theorem a4W {h:Heap}{L c:Addr}{m:Str→Option Value}{v:Option Value}(hn:h.Ns L m)(hc:h.IsCell c v):c≠L:=by
 obtain⟨o,_,_,e,hd,_⟩:=hn
 refine hc.elim (clear% hc;fun o' Z1=>Z1.elim (fun e' hd'=>?_))
 intro q
 rw [q,e] at e'
 cases e'
 rw [hd] at hd'
 cases hd'
theorem Put.local_ {env:Env}{x:Str}{v:Value}{h h':Heap}{m:Str→Option Value}(hk:sc.lookup x=some .local)(hn:h.Ns env.locals m)(hn':h'.Ns env.locals fun y=>if y=x then some v else m y)
  (k:∀ b o,b≠env.locals→h.get? b=some o→h'.get? b=some o):Put env sc x v h h' m where
 keep:=fun b o hb _=>k b o hb
 al:=fun b o e=>by
  by_cases q:b=env.locals
  ·rw [q];exact (a4V hn').elim fun o h=>⟨o,h.1⟩
  ·exact⟨o,k b o q e⟩
 ns:=⟨_,hn',fun y w hy S=>by
  cases S with
  | loc h1 h2=>exact .loc h1 ((c9t hy).trans h2)
  | cel c h1 h2 h3=>exact .cel c h1 h2 (h3.elim fun o q=>⟨o,k _ _ (a4W hn ⟨o,q⟩) q.1,q.2⟩),.loc hk (c9r rfl)⟩
 cell:=fun y c w _ h3=>⟨w,h3.elim fun o q=>⟨o,k _ _ (a4W hn ⟨o,q⟩) q.1,q.2⟩⟩
theorem Put.cell_ {env:Env}{x:Str}{v:Value}{h h':Heap}{m:Str→Option Value}{c:Addr}{w:Option Value}(hk:sc.lookup x=some .cell)(hc:env.cells.lookup x=some c)(hw:h.IsCell c w)(hc':h'.IsCell c (some v))(hn:h.Ns env.locals m)
  (hi:∀ x y c,env.cells.lookup x=some c→env.cells.lookup y=some c→x=y) (k:∀ b o,b≠c→h.get? b=some o→h'.get? b=some o):Put env sc x v h h' m where
 keep:=fun b o _ hb=>k b o fun q=>hb (q ▸ hc)
 al:=fun b o e=>by
  by_cases q:b=c
  ·rw [q];exact (a8I hc').elim fun o h=>⟨o,h.1⟩
  ·exact⟨o,k b o q e⟩
 ns:=⟨m,hn.at' fun o=>k _ o (a4W hn hw).symm,fun y w hy S=>S.keep fun c' o e _=>k c' o fun q=>hy (hi y x c (q ▸ e) hc),.cel c (.inl hk) hc hc'⟩
 cell:=fun y c' w e h3=>by
  by_cases q:c'=c
  ·exact⟨_,q ▸ hc'⟩
  ·exact⟨w,h3.elim fun o p=>⟨o,k _ _ q p.1,p.2⟩⟩
theorem St.put (S:St G Γ lvl sc σ oa s){x:Nat}{v:Value}{sl:Slot}{m:Str→Option Value}{h':Heap}{tk:Nat}(T:Turn G Γ bad' σ x sl oa oa')(P:Put Γ.env sc (G.nm x) v s.heap h' m)
  (hm:∀ x sl,σ.get x=some sl→∃ v,Sits Γ.env sc s.heap m (G.nm x) v∧SlotV G Γ σ oa s.heap s.toks x v sl) (g:GSt G { s with heap:=h',toks:=tk }) (ht:s.toks≤tk)
  (R:SlotV G (Γ.bar Γ.st bad') (σ.set x sl) oa' h' tk x v sl):St G (Γ.bar Γ.st bad') lvl sc (σ.set x sl) oa' { s with heap:=h',toks:=tk }:=by
 have kB:∀ b o,¬ Γ.bad b→s.heap.get? b=some o→h'.get? b=some o:=fun b o hb=>P.keep b o (fun q=>hb (q ▸ S.badL)) fun q=>hb (S.badC _ _ q)
 exact {
  toFrS:=S.toFrS
  gst:=g
  badT:=T.badT
  badL:=T.badL
  badC:=T.badC
  own:=T.own
  ownInj:=T.ownInj
  alloc:=fun a h=>(S.alloc a (T.all a h)).elim fun o=>P.al a o
  cellAt:=fun y hy=>by
   obtain⟨c,w,e,hc⟩:=S.cellAt y hy
   exact (P.cell y c w e hc).elim fun w h=>⟨c,w,e,h⟩
  slots:=by
   obtain⟨m',h1,h2,h3⟩:=P.ns
   refine⟨m',h1,fun y q hy=>?_⟩
   rw [Store.get_set] at hy
   by_cases e:y=x
   ·rw [c9r e] at hy
    cases hy
    rw [e]
    exact⟨v,h3,R⟩
   ·rw [c9t e] at hy
    refine (hm y q hy).elim fun w Z1=>Z1.elim (fun h4 h5=>?_)
    exact⟨w,h2 _ w (fun q=>e (G.nmInj _ _ q)) h4,SlotV.turn T hy e ht (fun b o hb=>kB b o fun q=>hb (.inl q)) (fun ho o _=>kB _ o (S.ownBad y ((a0X hy).trans ho))) h5⟩ }
structure Kt (G:GC)(Γ:Ctx)(x:Nat)(s s':Shared):Prop where
 heap:∀ b o,b≠Γ.env.locals→Γ.env.cells.lookup (G.nm x)≠some b→s.heap.get? b=some o→s'.heap.get? b=some o
 os:s'.os=s.os
 toks:s.toks≤s'.toks
 gens:s'.gens=s.gens
theorem St.storeG (S:St G Γ lvl sc σ oa s){x:Nat}{v:Value}{sl:Slot}(hk:sc.lookup (G.nm x)=some .local∨sc.lookup (G.nm x)=some .cell)(T:Turn G Γ bad' σ x sl oa oa')
  (R:∀ h' tk,s.toks≤tk→(∀ b o,b≠Γ.env.locals→(Γ.env.cells.lookup (G.nm x)≠some b)→s.heap.get? b=some o→h'.get? b=some o)→SlotV G (Γ.bar Γ.st bad') (σ.set x sl) oa' h' tk x v sl)
  {Q:Unit→Shared→Prop} {E:Value→Shared→Prop} (h:∀ s',St G (Γ.bar Γ.st bad') lvl sc (σ.set x sl) oa' s'→Kt G Γ x s s'→Q () s'):wpAny (model G.prog G.w) Γ.A (storeName Γ.env (G.nm x) v) Q E s:=by
 refine (S.slots).elim fun m Z1=>Z1.elim (fun hn hm=>?_)
 rcases hk with hk | hk
 ·refine wpAny_storeName_local (S.kindOf hk) hn (fun h' hn' hs=>?_) (by rw [S.kind];rfl)
  have k:∀ b o,b≠Γ.env.locals→s.heap.get? b=some o→h'.get? b=some o:=fun b o hb e=>(hs.2 b hb).trans e
  have P:=Put.local_ hk hn hn' k
  have ht:s.toks≤s.toks+1:=c9A _
  refine (a4V hn).elim fun o Z1=>Z1.elim (fun e hf=>?_)
  exact h _ (S.put T P hm (a4U S.gst k S.newL e hf.ok ht) ht (R _ _ ht P.keep)) ⟨P.keep,rfl,ht,rfl⟩
 ·obtain⟨c,w,hc,hw⟩:=S.cellAt (G.nm x) (.inl hk)
  refine wpAny_storeName_cell S.kind (S.kindOf hk) hc hw fun h' hc' hs=>?_
  have k:∀ b o,b≠c→s.heap.get? b=some o→h'.get? b=some o:=fun b o hb e=>(hs.2 b hb).trans e
  have P:=Put.cell_ hk hc hw hc' hn S.cellInj k
  have ht:s.toks≤s.toks:=c9n _
  refine (a8I hw).elim fun o Z1=>Z1.elim (fun e hf=>?_)
  exact h _ (S.put (tk:=s.toks) T P hm (a4U S.gst k (S.newC _ _ hc) e hf.ok ht) ht (R _ _ ht P.keep)) ⟨P.keep,rfl,ht,rfl⟩
theorem a2T (S:St G Γ lvl sc σ oa s){x:Nat}{sl:Slot}(hs:sl.isOwn=false)(hm:noMeth σ x=true):Turn G Γ Γ.bad σ x sl oa oa where
 badT:=S.badT
 badL:=S.badL
 badC:=S.badC
 all:=fun b hb=>hb.imp id fun h=>h.elim fun y h=>⟨y,(a2A hs h.1).2,h.2⟩
 other:=fun _ _=>rfl
 own:=fun y hy=>S.own y (a2A hs hy).2
 ownInj:=fun y z hy hz=>S.ownInj y z (a2A hs hy).2 (a2A hs hz).2
 noMeth:=hm
theorem Kt.step {x:Nat}{sl:Slot}(k₁:Kp G s₁ s)(k:Kt G Γ x s s')(ho:∀ y,(σ.set x sl).isOwn y=true→(∃ z,σ.isOwn z=true∧oa₁ y=oa z)∨s₁.heap.get? (oa₁ y)=none)(ha:∀ y,W y=false→oa₁ y=oa y):Step G Γ W σ oa s₁ (σ.set x sl) oa₁ s':=
 ⟨fun b o hT hM e=>k.heap b o (fun q=>hM (.inl q)) (fun q=>hM (.inr (.inl ⟨_,q⟩))) (k₁.heap b o hT e),k.os.trans k₁.os,c9v k₁.toks k.toks,fun i x e=>(c9o (·[i]?) k.gens).trans (k₁.gens i x e),ho,ha⟩
theorem Kt.stepNo {x:Nat}{sl:Slot}(hs:sl.isOwn=false)(k₁:Kp G s₁ s)(k:Kt G Γ x s s'):Step G Γ W σ oa s₁ (σ.set x sl) oa s':=
 k.step k₁ (fun y hy=>.inl ⟨y,(a2A hs hy).2,rfl⟩) fun _ _=>rfl
theorem Step.ofVal {x:Nat}{d:D}(k₁:Kp G s₁ s)(k:Kt G Γ x s s'):Step G Γ W σ oa s₁ (σ.set x (.val d)) oa s':=k.stepNo rfl k₁
theorem St.store (S:St G Γ lvl sc σ oa s){x:Nat}{v:Value}{d:D}(hk:sc.lookup (G.nm x)=some .local∨sc.lookup (G.nm x)=some .cell)(hm:noMeth σ x=true)
  (R:RD G Γ σ oa s v d) {Q:Unit→Shared→Prop} {E:Value→Shared→Prop}
  (h:∀ s',St G Γ lvl sc (σ.set x (.val d)) oa s'→Kt G Γ x s s'→Step G Γ W σ oa s (σ.set x (.val d)) oa s'→Q () s'):wpAny (model G.prog G.w) Γ.A (storeName Γ.env (G.nm x) v) Q E s:=
 S.storeG (sl:=.val d) hk (a2T S rfl hm) (fun h' tk ht k=>Rep.chg ⟨ht,fun b o hb=>k b o (fun q=>hb (.inl (q ▸ S.badL))) (fun q=>hb (.inl (S.badC _ _ q))),fun b _ hb _ q=>hb ((a2T (sl:=.val d) S rfl hm).all b q)⟩ R)
  fun s' S' k=>h s' S' k (k.stepNo rfl .refl)
theorem St.freeze (S:St G Γ lvl sc σ oa s){x:Nat}{l:List D}(hx:σ.get x=some (.own l))(hm:Mine.noMeth σ x=true) :
  St G Γ lvl sc (σ.set x (.val (.list l))) oa s∧Step G Γ W σ oa s (σ.set x (.val (.list l))) oa s:=by
 have T:=a2T (sl:=.val (.list l)) S rfl hm
 have ho:σ.isOwn x=true:=a0X hx
 refine⟨S.turn T hx fun v sv=>?_,Kt.stepNo rfl .refl ⟨fun _ _ _ _ e=>e,rfl,c9n _,rfl⟩⟩
 obtain⟨rfl,vs,⟨n,hp⟩,r⟩:=sv
 exact .list (fun q=>q.elim (S.ownBad x ho) fun q=>q.elim fun y h=>(a2A rfl h.1).1 (S.ownInj _ _ ho (a2A rfl h.1).2 h.2).symm) ⟨_,hp,rfl,n,rfl⟩ (r.weaken T.all)
noncomputable def b6x (oa:Nat→Addr)(x:Nat)(a:Addr):Nat→Addr:=fun y=>if y=x then a else oa y
theorem a5R {x:Nat}{a:Addr}:b6x oa x a x=a:=c9r rfl
theorem a7G {x y:Nat}{a:Addr}(h:y≠x):b6x oa x a y=oa y:=c9t h
noncomputable def NewV (G:GC)(Γ:Ctx)(σ:Store)(oa:Nat→Addr)(h:Heap)(n:Nat)(a:Addr):Slot→Prop
 | .own l=>∃ vs:List Value,h.PlainList a vs.toArray∧RepL (rc G Γ) (a0m (Γ.plus a) σ oa) h n vs l
 | .ownD kv=>OwnDict G h a kv
 | .val _=>False
 | .meth _=>False
theorem NewV.own {h:Heap}{n:Nat}{a:Addr}{sl:Slot}(N:NewV G Γ σ oa h n a sl):sl.isOwn=true:=by
 cases sl with
 | own l=>exact rfl
 | ownD kv=>exact rfl
 | val d=>exact N.elim
 | meth z=>exact N.elim
theorem St.storeNew {a:Addr}{sl:Slot}(S:St G (Γ.plus a) lvl sc σ oa s)(hT:∀ t∈G.T,Γ.bad t)(hL:Γ.bad Γ.env.locals)(hC:∀ x c,Γ.env.cells.lookup x=some c→Γ.bad c)(nb:¬ Γ.bad a)(ga:G.g.get? a=none)
  {x:Nat} (hk:sc.lookup (G.nm x)=some .local∨sc.lookup (G.nm x)=some .cell) (hm:Mine.noMeth σ x=true) (N:NewV G Γ σ oa s.heap s.toks a sl)
  {Q:Unit→Shared→Prop} {E:Value→Shared→Prop}
  (h:∀ s',St G Γ lvl sc (σ.set x sl) (b6x oa x a) s'→Kt G Γ x s s'→Q () s') :
  wpAny (model G.prog G.w) Γ.A (storeName Γ.env (G.nm x) (.ref a)) Q E s:=by
 have no:∀ y,σ.isOwn y=true→oa y≠a:=fun y hy q=>S.ownBad y hy (.inr q)
 have ow:∀ y,(σ.set x sl).isOwn y=true→(y=x∧b6x oa x a y=a)∨(y≠x∧σ.isOwn y=true∧b6x oa x a y=oa y):=fun y hy=>(a7E hy).elim (fun q=>.inl ⟨q.1,c9r q.1⟩) fun q=>.inr ⟨q.1,q.2,a7G q.1⟩
 have T:Turn G (Γ.plus a) Γ.bad σ x sl oa (b6x oa x a):={
  badT:=hT,badL:=hL,badC:=hC
  all:=fun b hb=>by
   rcases hb with hb | ⟨y,hy,e⟩
   ·exact .inl (.inl hb)
   ·rcases ow y hy with⟨_,q⟩ | ⟨_,q,r⟩
    ·exact .inl (.inr (e.trans q))
    ·exact .inr ⟨y,q,e.trans r⟩
  other:=fun y q=>a7G q
  own:=fun y hy=>by
   rcases ow y hy with⟨_,q⟩ | ⟨_,q,r⟩
   ·rw [q];exact⟨ga,nb⟩
   ·rw [r];exact⟨S.newO y q,fun p=>S.ownBad y q (.inl p)⟩
  ownInj:=fun y z hy hz e=>by
   rcases ow y hy with⟨q1,q⟩ | ⟨_,q,r⟩ <;> rcases ow z hz with⟨p1,p⟩ | ⟨_,p,t⟩
   ·exact q1.trans p1.symm
   ·exact absurd ((t.symm.trans e.symm).trans q) (no z p)
   ·exact absurd ((r.symm.trans e).trans p) (no y q)
   ·exact S.ownInj y z q p ((r.symm.trans e).trans t)
  noMeth:=hm }
 refine St.storeG (Γ:=Γ.plus a) S hk T (fun h' tk ht k=>?_) fun s' S' k=>h s' S' ⟨k.heap,k.os,k.toks,k.gens⟩
 have ka:∀ o,s.heap.get? a=some o→h'.get? a=some o:=fun o=>k a o (fun q=>nb (q ▸ hL)) fun q=>nb (hC _ a q)
 cases sl with
 | own l=>
  obtain⟨vs,⟨n,hp⟩,r⟩:=N
  show _∧_
  rw [a5R]
  exact⟨rfl,vs,⟨n,ka _ hp⟩,r.chg ⟨ht,fun b o hb=>k b o (fun q=>hb (.inl (q ▸ S.badL))) fun q=>hb (.inl (S.badC _ _ q)),fun b _ hb _ q=>hb (T.all b q)⟩⟩
 | ownD kv=>
  show _∧_
  rw [a5R]
  exact⟨rfl,N.at fun o _=>ka o⟩
 | val d=>exact N.elim
 | meth z=>exact N.elim
theorem Step.ofNew {a:Addr}{x:Nat}{sl:Slot}(k₁:Kp G s₁ s)(k:Kt G Γ x s s')(ha:s₁.heap.get? a=none)(hW:W x=true):Step G Γ W σ oa s₁ (σ.set x sl) (b6x oa x a) s':=
 k.step k₁ (fun y hy=>(a7E hy).elim (fun q=>.inr (by rw [q.1,a5R];exact ha)) fun q=>.inl ⟨y,q.2,a7G q.1⟩) fun y hy=>a7G fun q=>c9p ((q ▸ hy).symm.trans hW)
theorem St.ownT (S:St G Γ lvl sc σ oa s){x:Nat}{sl₀ sl:Slot}(hx:σ.get x=some sl₀)(h0:sl₀.isOwn=true)(hsl:sl.isOwn=true){h':Heap}{tk:Nat}(k:∀ b o,b≠oa x→s.heap.get? b=some o→h'.get? b=some o)
  (hal:∃ o,h'.get? (oa x)=some o)
  (ht:s.toks≤tk) (R:SlotV G Γ σ oa h' tk x (.ref (oa x)) sl):St G Γ lvl sc (σ.set x sl) oa { s with heap:=h',toks:=tk }∧Step G Γ W σ oa s (σ.set x sl) oa { s with heap:=h',toks:=tk }:=by
 have ho:σ.isOwn x=true:=(a0X hx).trans h0
 have ow:∀ y,(σ.set x sl).isOwn y=true→σ.isOwn y=true:=fun y hy=>(a7E hy).elim (fun q=>q.1 ▸ ho) And.right
 have wo:∀ y,σ.isOwn y=true→(σ.set x sl).isOwn y=true:=fun y hy=>by
  rw [a4q]
  by_cases q:y=x
  ·rw [c9r q];exact hsl
  ·rw [c9t q];exact hy
 have all:∀ b,a0m Γ (σ.set x sl) oa b→a0m Γ σ oa b:=fun b hb=>hb.imp id fun h=>h.elim fun y h=>⟨y,ow y h.1,h.2⟩
 have nb:=S.ownBad x ho
 refine (S.alloc _ (.inr ⟨x,ho,rfl⟩)).elim fun o₀ e₀=>?_
 have hf:Flat o₀:=by
  refine (S.slots).elim fun m Z1=>Z1.elim (fun _ hm=>?_)
  refine (hm x sl₀ hx).elim fun v Z1=>Z1.elim (fun _ sv=>?_)
  refine (sv.flat h0).elim fun o Z1=>Z1.elim (fun e f=>?_)
  rw [e] at e₀
  cases e₀
  exact f
 have kB:Chg (a0m Γ σ oa) (a0m Γ (σ.set x sl) oa) s.heap h' s.toks tk:=⟨ht,fun b o hb=>k b o fun q=>hb (.inr ⟨x,ho,q⟩),fun b _ hb _ q=>hb (all b q)⟩
 refine⟨S.move (σ':=σ.set x sl) (oa':=oa) (s':={ s with heap:=h',toks:=tk }) Γ.st Γ.bad (a4U S.gst k (S.newO x ho) e₀ hf.ok ht) S.badT S.badL S.badC (fun y hy=>S.own y (ow y hy)) (fun y z hy hz=>S.ownInj y z (ow y hy) (ow z hz)) (fun a ha=>?_)
  (fun b o hb _=>k b o fun q=>nb (hb.elim (fun e=>(q.symm.trans e) ▸ S.badL) fun h=>h.elim fun y e=>S.badC y _ (q ▸ e))) fun y q hy=>?_,⟨fun b o _ hM=>k b o fun q=>hM (.inr (.inr ⟨x,ho,q⟩)),rfl,ht,fun _ _ e=>e,fun y hy=>.inl ⟨y,ow y hy,rfl⟩,fun _ _=>rfl⟩⟩
 ·by_cases q:a=oa x
  ·rw [q];exact hal
  ·exact (S.alloc a (all a ha)).elim fun o e=>⟨o,k _ _ q e⟩
 ·rw [Store.get_set] at hy
  by_cases e:y=x
  ·rw [c9r e] at hy
   cases hy
   rw [e]
   refine⟨sl₀,hx,fun v sv=>?_⟩
   rw [sv.eqOwn h0]
   exact R.chg rfl ⟨c9n _,fun _ _ _ e=>e,fun b _ hb _ q=>hb (all b q)⟩ (fun _=>⟨rfl,fun _ _ e=>e⟩) fun z _ hz=>⟨wo z hz,rfl⟩
  ·rw [c9t e] at hy
   exact⟨q,hy,fun v sv=>sv.chg rfl kB (fun h1=>⟨rfl,fun o _=>k _ o fun p=>e (S.ownInj _ _ ((a0X hy).trans h1) ho p)⟩) fun z _ hz=>⟨wo z hz,rfl⟩⟩
theorem St.forget (S:St G Γ lvl sc σ oa s)(hg:∀ x sl,σ₁.get x=some sl→σ.get x=some sl)(ho:∀ x,σ.isOwn x=true→σ₁.isOwn x=true):St G Γ lvl sc σ₁ oa s:=by
 have up:∀ x,σ₁.isOwn x=true→σ.isOwn x=true:=fun x h=>(a2I h).elim fun sl h=>(a0X (hg x sl h.1)).trans h.2
 have all:∀ b,a0m Γ σ₁ oa b→a0m Γ σ oa b:=fun b hb=>hb.imp id fun h=>h.elim fun x h=>⟨x,up x h.1,h.2⟩
 exact S.move Γ.st Γ.bad S.gst S.badT S.badL S.badC (fun x h=>S.own x (up x h)) (fun x y h h'=>S.ownInj x y (up x h) (up y h')) (fun a h=>S.alloc a (all a h)) (fun _ _ _ _ e=>e)
  fun x q hq=>⟨q,hg x q hq,fun v sv=>sv.chg rfl ⟨c9n _,fun _ _ _ e=>e,fun b _ hb _ p=>hb (all b p)⟩ (fun _=>⟨rfl,fun _ _ e=>e⟩) fun z _ hz=>⟨ho z hz,rfl⟩⟩
end
end
section
theorem bnd {α β:Type}{x:Option α}{f:α→Option β}{b:β}(h:x.bind f=some b):∃ a,x=some a∧f a=some b:=Option.bind_eq_some_iff.mp h
theorem mpd {α β:Type}{x:Option α}{f:α→β}{b:β}(h:x.map f=some b):∃ a,x=some a∧f a=b:=Option.map_eq_some_iff.mp h
noncomputable def grd {α:Type}(c:Bool)(x:Option α):Option α:=match c with
 | true=>x
 | false=>none
theorem a0N {α:Type}{c:Bool}{x:Option α}{a:α}(h:grd c x=some a):c=true∧x=some a:=by
 cases c with
 | true=>exact⟨rfl,h⟩
 | false=>cases (show none=some a from h)
theorem c5G {α:Type}{c:Bool}{y a:α}(h:grd c (some y)=some a):c=true∧y=a:=⟨(a0N h).1,c9x (a0N h).2⟩
theorem a0n {α:Type}{c:Bool}{x:Option α}(h:c=true):grd c x=x:=by subst h;rfl
theorem a0h {a b:Bool}(h:(a&&b)=true):a=true∧b=true:=by
 cases a with
 | true=>exact⟨rfl,h⟩
 | false=>cases (show false=true from h)
theorem or2 {a b:Bool}(h:(a||b)=true):a=true∨b=true:=by
 cases a with
 | true=>exact .inl rfl
 | false=>exact .inr h
theorem a0j {α β:Type}{x:Option α}{f:α→Option β}{b:β}{P:Prop}(h:x.bind f=some b)(k:∀ a,x=some a→f a=some b→P):P:=(bnd h).elim fun a h=>k a h.1 h.2
theorem a2p {α β:Type}{x:Option α}{f:α→β}{b:β}{P:Prop}(h:x.map f=some b)(k:∀ a,x=some a→f a=b→P):P:=(mpd h).elim fun a h=>k a h.1 h.2
theorem a0a {a b:Bool}{P:Prop}(h:(a&&b)=true)(k:a=true→b=true→P):P:=k (a0h h).1 (a0h h).2
theorem a0J {α:Type}{c:Bool}{y a:α}{P:Prop}(h:grd c (some y)=some a)(k:c=true→y=a→P):P:=k (c5G h).1 (c5G h).2
theorem a1L {a:Bool}(h:(!a)=true):a=false:=by
 cases a with
 | false=>rfl
 | true=>cases (show false=true from h)
theorem a0L {α:Type}{x y:Option α}{a:α}(h:x.or y=some a):x=some a∨y=some a:=by
 cases x with
 | none=>exact .inr h
 | some b=>exact .inl h
theorem a0e {α:Type}{P:Prop}{a:α}(h:(none:Option α)=some a):P:=nomatch h
noncomputable def a0M (n:Nat):Bool:=Nat.ble n 16777216
noncomputable def b9D (n:Nat)(lo:Option Int):Nat:=match lo with
 | none=>0
 | some k=>clipAt n k
noncomputable def c2t (n:Nat)(hi:Option Int):Nat:=match hi with
 | none=>n
 | some k=>clipAt n k
noncomputable def cut {α:Type}(l:List α)(lo hi:Option Int):List α:=(l.drop (b9D l.length lo)).take (c2t l.length hi - b9D l.length lo)
noncomputable def b1d (k:Int)(n:Nat):Option Nat:=grd (a0M n) (seqIndex? k n)
noncomputable def D.asStr:D→Option Str
 | .str s _=>some s
 | _=>Option.none
noncomputable def D.asInt:D→Option Int
 | .int i=>some i
 | _=>Option.none
noncomputable def D.asBool:D→Option Bool
 | .bool b=>some b
 | _=>Option.none
noncomputable def D.asBytes:D→Option (Array UInt8)
 | .bytes b=>some b
 | _=>Option.none
noncomputable def D.asList:D→Option (List D)
 | .list l=>some l
 | _=>Option.none
noncomputable def D.asDict:D→Option (List (Str×Int))
 | .dict kv=>some kv
 | _=>Option.none
noncomputable def D.asTup:D→Option (List D)
 | .tup l=>some l
 | _=>Option.none
theorem a5S {d:D}{i:Int}(h:d.asInt=some i):d=.int i:=by cases d <;> first | (cases h;rfl) | exact a0e h
theorem b2o {d:D}{b:Bool}(h:d.asBool=some b):d=.bool b:=by cases d <;> first | (cases h;rfl) | exact a0e h
theorem a2g {d:D}{x:Str}(h:d.asStr=some x):∃ g,d=.str x g:=by cases d <;> first | (cases h;exact⟨_,rfl⟩) | exact a0e h
theorem a4b {d:D}{b:Array UInt8}(h:d.asBytes=some b):d=.bytes b:=by cases d <;> first | (cases h;rfl) | exact a0e h
theorem a2J {d:D}{l:List D}(h:d.asList=some l):d=.list l:=by cases d <;> first | (cases h;rfl) | exact a0e h
theorem b2p {d:D}{l:List (Str×Int)}(h:d.asDict=some l):d=.dict l:=by cases d <;> first | (cases h;rfl) | exact a0e h
theorem a2K {d:D}{l:List D}(h:d.asTup=some l):d=.tup l:=by cases d <;> first | (cases h;rfl) | exact a0e h
noncomputable def a8J (x y:Int):Bool:=decide (Builtin.Int.intBits x≤64)||decide (Builtin.Int.intBits y≤64)||decide (Builtin.Int.intBits x+Builtin.Int.intBits y≤1000000)
noncomputable def a9V (a b:D)(f:Int→Int→Option Int):Option D:=a.asInt.bind fun x=>b.asInt.bind fun y=>(f x y).map .int
noncomputable def c5H {α:Type}(a b:D)(f:Str→Str→Option α):Option α:=a.asStr.bind fun x=>b.asStr.bind fun y=>f x y
noncomputable def c2D {α:Type}(a b:D)(f:List D→List D→Option α):Option α:=a.asList.bind fun x=>b.asList.bind fun y=>f x y
noncomputable def c2E {α:Type}(a b:D)(f:Array UInt8→Array UInt8→Option α):Option α:=a.asBytes.bind fun x=>b.asBytes.bind fun y=>f x y
noncomputable def c7Z (a b:D):Option D:=
 (a9V a b fun x y=>some (x+y)).or <| (c5H a b fun x y=>grd (a0M (x.length+y.length)) (some (.str (x++y)))).or <|
 (c2D a b fun x y=>grd (a0M (x.length+y.length)) (some (.list (x++y)))).or <| c2E a b fun x y=>grd (a0M (x.size+y.size)) (some (.bytes (x++y)))
noncomputable def c8a (a b:D):Option D:=
 (a9V a b fun x y=>grd (a8J x y) (some (x*y))).or <| a.asStr.bind fun s=>b.asInt.bind fun k=>grd (Nat.ble s.length 1000&&decide (0≤k)&&decide (k≤1000)) (some (.str (Txt.mul s k)))
noncomputable def a2U (op:Operator)(a b:D):Option D:=match op with
 | .Add=>c7Z a b
 | .Sub=>a9V a b fun x y=>some (x - y)
 | .Mult=>c8a a b
 | .FloorDiv=>a9V a b fun x y=>grd (!(decide (y=0)||Builtin.divisionGoesByPylong x y)) (some (x.fdiv y))
 | .Mod=>a9V a b fun x y=>grd (!decide (y=0)) (some (x.fmod y))
 | .Pow=>a9V a b fun x y=>grd (decide (0≤y)&&decide ((Builtin.Int.intBits x:Int)*y≤2 ^ 27)) (some (x ^ y.toNat))
 | .BitXor=>a9V a b fun x y=>some (Builtin.bitXor x y)
 | .BitOr=>a9V a b fun x y=>some (Builtin.bitOr x y)
 | .BitAnd=>a9V a b fun x y=>some (Builtin.bitAnd x y)
 | .LShift=>a9V a b fun x y=>grd (decide (0≤y)&&decide (y≤1000000)&&decide (x.natAbs<2 ^ 64)) (some (x*2 ^ y.toNat))
 | .RShift=>a9V a b fun x y=>grd (decide (0≤y)) (some (x.fdiv (2 ^ y.toNat)))
 | _=>none
noncomputable def b1e (y x:Str):Bool:=!(Builtin.Str.occurrences y x 0 y.length 1).isEmpty
noncomputable def eqL (x y:List D):Option Bool:=match x with
 | []=>some y.isEmpty
 | _=>match y with
  | []=>some false
  | _=>(x.mapM D.asInt).bind fun p=>(y.mapM D.asInt).bind fun q=>grd (p.length==q.length) (some (p==q))
noncomputable def b6y {α:Type}(x y:Option α)(f:α→α→Bool):Option Bool:=x.bind fun x=>y.map fun y=>f x y
noncomputable def eqD (a b:D):Option Bool:=
 (b6y a.asInt b.asInt (·==·)).or <| (b6y a.asStr b.asStr (·==·)).or <| (b6y a.asBytes b.asBytes fun x y=>x.toList==y.toList).or <|
 (b6y a.asBool b.asBool (·==·)).or <| c2D a b eqL
noncomputable def inD (a b:D):Option Bool:=
 (c5H a b fun x y=>some (b1e y x)).or <| (a.asStr.bind fun x=>b.asList.bind fun l=>(l.mapM D.asStr).map fun p=>p.any (·==x)).or <|
 (a.asStr.bind fun x=>b.asTup.bind fun l=>(l.mapM D.asStr).map fun p=>p.any (·==x)).or <|
 a.asBytes.bind fun x=>b.asList.bind fun l=>(l.mapM D.asBytes).map fun p=>p.any (fun y=>y.toList==x.toList)
noncomputable def b3x:D→Option Bool
 | .none=>some true
 | .typ _=>none
 | .star=>none
 | .dict _=>none
 | _=>some false
noncomputable def D.isNone:D→Bool
 | .none=>true
 | _=>false
noncomputable def D.isStar:D→Option Bool
 | .star=>some true
 | .str _ _=>some false
 | _=>Option.none
noncomputable def D.asTyp:D→Option String
 | .typ n=>some n
 | _=>Option.none
theorem a8K {d:D}{l:String}(h:d.asTyp=some l):d=.typ l:=by cases d <;> first | (cases h;rfl) | exact a0e h
theorem a4X {d:D}(h:d.isNone=true):d=.none:=by cases d <;> first | rfl | exact absurd h c9p
noncomputable def isD (a b:D):Option Bool:=
 (grd b.isNone (b3x a)).or <| (b6y a.asTyp b.asTyp (·==·)).or <| a.isStar.bind fun x=>b.isStar.bind fun y=>grd (x||y) (some (x&&y))
noncomputable def neD (a b:D):Option Bool:=(grd b.isNone (a.asBytes.map fun _=>true)).or ((eqD a b).map (!·))
noncomputable def ltD (a b:D):Option Bool:=(b6y a.asInt b.asInt fun x y=>decide (x<y)).or (b6y a.asStr b.asStr fun x y=>decide (x.cps.toList<y.cps.toList))
noncomputable def leD (a b:D):Option Bool:=b6y a.asInt b.asInt fun x y=>decide (x≤y)
noncomputable def a3R (op:CmpOp)(a b:D):Option Bool:=match op with
 | .Eq=>eqD a b
 | .NotEq=>neD a b
 | .Is=>isD a b
 | .IsNot=>(isD a b).map (!·)
 | .In=>inD a b
 | .NotIn=>(inD a b).map (!·)
 | .Lt=>ltD a b
 | .Gt=>ltD b a
 | .LtE=>leD a b
 | .GtE=>leD b a
noncomputable def a6Y (a:D):Option Bool:=
 (grd a.isNone (some false)).or <| a.asBool.or <| (a.asInt.map fun i=>!(i==0)).or <| (a.asStr.bind fun s=>grd (a0M s.length) (some (!(s.length==0)))).or <|
 a.asList.bind fun l=>grd (a0M l.length) (some (!l.isEmpty))
noncomputable def b9E (s:Str)(k:Int):Option D:=((b1d k s.length).bind (s.cps[·]?)).map fun c=>.str ⟨#[c]⟩ true
noncomputable def a8F (a i:D):Option D:=
 (a.asList.bind fun l=>i.asInt.bind fun k=>(b1d k l.length).bind (l[·]?)).or <| (a.asTup.bind fun l=>i.asInt.bind fun k=>(b1d k l.length).bind (l[·]?)).or <|
 (a.asStr.bind fun s=>i.asInt.bind fun k=>b9E s k).or <| a.asDict.bind fun kv=>i.asStr.bind fun k=>(kv.lookup k).map .int
noncomputable def a2q:Option D→Option (Option Int)
 | none=>some none
 | some d=>d.asInt.bind fun k=>grd (decide (-(2 ^ 62)<k)&&decide (k<2 ^ 62)) (some (some k))
noncomputable def a3l (a:D)(lo hi:Option Int):Option D:=
 (a.asList.bind fun l=>grd (a0M l.length) (some (.list (cut l lo hi)))).or <| (a.asStr.bind fun s=>grd (a0M s.length) (some (.str ⟨(cut s.cps.toList lo hi).toArray⟩))).or <|
 a.asBytes.bind fun b=>grd (a0M b.size) (some (.bytes (cut b.toList lo hi).toArray))
noncomputable def c2F (a:D):Option Nat:=(a.asList.map List.length).or <| (a.asTup.map List.length).or <| (a.asStr.map Str.length).or <| a.asBytes.map Array.size
noncomputable def a7H (s:Str):List D:=s.cps.toList.map fun c=>.str ⟨#[c]⟩ true
noncomputable def a5B (a:D):Option (List D):=
 a.asList.or <| a.asTup.or <| (a.asStr.bind fun s=>grd (s.cps.all (·<128)) (some (a7H s))).or <| a.asBytes.map fun b=>b.toList.map fun c=>.int c.toNat
noncomputable def c6c (a b c:Int):Option Nat:=bif c==-1&&a==9&&b==5 then some 4
 else bif c==-1&&a==0&&b==0 then some 0
 else none
noncomputable def a5T (a b c:Int):Option (List D):=
 grd (decide (-(2 ^ 30)<a)&&decide (a<2 ^ 30)&&decide (-(2 ^ 30)<b)&&decide (b<2 ^ 30))
  (if c=1 then some ((List.range (b - a).toNat).map fun (i:Nat)=>.int (a+i))
  else (c6c a b c).map fun n=>(List.range n).map fun (i:Nat)=>.int (a+i*c))
noncomputable def c2u (x:Int):List Int→List Int
 | []=>[x]
 | y :: l=>if x≤y then x :: y :: l else y :: c2u x l
noncomputable def b2q (l:List Int):List Int:=l.foldr c2u []
noncomputable def a6O (x y:Str):Str:=bif (Builtin.Str.occurrences x y 0 x.length 1).isEmpty then x else Builtin.Str.glued Str.empty (Builtin.Str.partsBetween x (Builtin.Str.occurrences x y 0 x.length 1) y.length)
noncomputable def c6d (x y:Str)(i j:Int):Int:=match Builtin.Str.occurrences x y i.toNat j.toNat 1 with
 | k :: _=>(k:Int)
 | []=>-1
noncomputable def a4c (c:Nat):Bool:=c==38||c==124||c==126
noncomputable def a8L (s:Str):Str:=⟨(s.cps.toList.flatMap fun c=>bif a4c c then [92,c] else [c]).toArray⟩
noncomputable def b3y (s:Str):Bool:=Nat.ble s.length 100&&s.cps.toList.all (fun c=>Nat.blt c 128)&&Nat.ble (s.cps.toList.countP a4c) 1
noncomputable def c8b (l:List D):Option Str:=match l with
 | [d]=>d.asStr
 | _=>none
noncomputable def c5I (y:Str):Str:=Txt.replace y ⟨#[45]⟩ ⟨#[92,45]⟩
noncomputable def a3S (s:List UInt8)(a b:List UInt8):List UInt8:=s.map fun c=>((a.zip b).foldl (fun (acc:UInt8) p=>if p.1=c then p.2 else acc) c)
noncomputable def a2L (s:Str):Array UInt8:=(s.cps.toList.map fun c=>UInt8.ofNat c).toArray
inductive Tgt where
 | one (x:Nat) | many (xs:List Nat)
mutual
inductive PE where
 | none | bool (b:Bool) | int (i:Int) | str (s:Str) | bytes (b:List UInt8)
 | var (x:Nat) | typ (n:String)
 | bin (op:Operator) (a b:PE) | neg (a:PE) | ite (t a b:PE)
 | and (es:PEs) | or (es:PEs) | not (a:PE)
 | list (es:PEs) | tup (es:PEs)
 | cmp (op:CmpOp) (a b:PE) | cmp2 (a:PE) (op₁:CmpOp) (b:PE) (op₂:CmpOp) (c:PE)
 | idx (a i:PE) | slice (a:PE) (lo hi:PO)
 | comp (fv:List Nat) (elt:PE) (t:Tgt) (iter:PE) (ifs:PEs) (gs:PGs)
 | call (f:Nat) (args:PEs) (kw:PO)
 | len (a:PE) | sum (a:PE)
 | bytesOf (a:PE) | typeOf (a:PE) | isStr (a:PE)
 | range1 (a:PE) | range2 (a b:PE) | range3 (a b c:PE) | enum (a:PE)
 | sorted (a:PE) | rep1 (a:PE) (y:Nat) | count (a b:PE)
 | find (a b lo hi:PE) | resub (x:Nat) | joinEsc (x:Nat)
 | replace (a b c:PE) | join (a b:PE)
 | isascii (a:PE) | encode (a:PE)
 | btranslate (a b c:PE)
 | fstr (es:PEs)
inductive PEs where
 | nil | cons (e:PE) (es:PEs)
inductive PO where
 | no | yes (e:PE)
inductive PGs where
 | nil | cons (t:Tgt) (iter:PE) (ifs:PEs) (gs:PGs)
end
inductive PS where
 | asg (x:Nat) (own:Bool) (e:PE)
 | asgT (xs:List Nat) (e:PE)
 | asgI (x:Nat) (i e:PE)
 | aug (x:Nat) (op:Operator) (e:PE)
 | augI (x:Nat) (i:PE) (op:Operator) (e:PE)
 | app (x:Nat) (e:PE) | appV (x:Nat) (e:PE) | getm (x y:Nat)
 | ifs (t:PE) (a b:List PS)
 | for (t:Tgt) (iter:PE) (body:List PS)
 | while (t:PE) (body:List PS)
 | ret (e:PE) | brk | cont | assert (t:PE) | try (body:List PS) | fail | drop (xs:List Nat)
 | ext (x:Nat) (e:PE) | asgD (x:Nat) (k:Str) (i:Int) | augD (x:Nat) (i:PE) (op:Operator) (e:PE)
noncomputable def Slot.read:Slot→Option D
 | .val d=>some d
 | .own l=>some (.list l)
 | .ownD kv=>some (.dict kv)
 | .meth _=>none
noncomputable def Slot.asVal:Slot→Option D
 | .val d=>some d
 | _=>none
noncomputable def Slot.asOwn:Slot→Option (List D)
 | .own l=>some l
 | _=>none
noncomputable def Slot.asOwnD:Slot→Option (List (Str×Int))
 | .ownD kv=>some kv
 | _=>none
noncomputable def Slot.asTop:Slot→Option D
 | .val d=>some d
 | .own l=>some (.list l)
 | _=>none
noncomputable def Slot.asMeth:Slot→Option Nat
 | .meth x=>some x
 | _=>none
theorem a4r {s:Slot}{d:D}(h:s.asVal=some d):s=.val d:=by cases s <;> first | (cases h;rfl) | exact a0e h
theorem a2h {s:Slot}{d:List D}(h:s.asOwn=some d):s=.own d:=by cases s <;> first | (cases h;rfl) | exact a0e h
theorem a6Z {s:Slot}{d:List (Str×Int)}(h:s.asOwnD=some d):s=.ownD d:=by cases s <;> first | (cases h;rfl) | exact a0e h
theorem b2r {s:Slot}{d:Nat}(h:s.asMeth=some d):s=.meth d:=by cases s <;> first | (cases h;rfl) | exact a0e h
noncomputable def Slot.truth (s:Slot):Option Bool:=s.asTop.bind a6Y
noncomputable def Slot.iter (s:Slot):Option (List D):=s.asTop.bind a5B
noncomputable def Slot.keep (x:Nat):Slot→Option (Nat×Slot)
 | .meth _=>none
 | .val d=>some (x,.val d)
 | .own l=>some (x,.own l)
 | .ownD kv=>some (x,.ownD kv)
noncomputable def a0P (σ:Store)(t:Tgt)(d:D):Option Store:=match t with
 | .one x=>grd (noMeth σ x) (some (σ.set x (.val d)))
 | .many xs=>d.asTup.bind fun ds=>grd (decide (xs.length=ds.length)&&xs.all (noMeth σ ·)) (some ((xs.zip ds).foldl (fun σ p=>σ.set p.1 (.val p.2)) σ))
noncomputable def Tgt.xs:Tgt→List Nat
 | .one x=>[x]
 | .many xs=>xs
noncomputable def a4d (σ:Store)(t:Tgt)(d:D):Option Store:=grd (t.xs.all (fun x=>(σ.get x).isNone)) (a0P σ t d)
noncomputable def a0O (σ:Store)(fv:List Nat):Option Store:=fv.mapM fun x=>(σ.get x).bind (Slot.keep x)
noncomputable def c2G (σ:Store)(fv:List Nat):Option Store:=fv.mapM fun x=>(σ.get x).bind fun s=>s.asVal.map fun d=>(x,.val d)
noncomputable abbrev Fns:=Nat→List D→Option D→Option D
noncomputable def strict (σ:Store):PE→Bool
 | .var x=>((σ.get x).bind Slot.asVal).isSome
 | .ite _ a b=>strict σ a&&strict σ b
 | _=>true
noncomputable def D.strG:D→Option (Str×Bool)
 | .str s g=>some (s,g)
 | _=>Option.none
theorem a5H {d:D}{x:Str×Bool}(h:d.strG=some x):d=.str x.1 x.2:=by cases d <;> first | (cases h;rfl) | exact a0e h
inductive PV where
 | var (x:Nat) | str (s:Str) | comp | lst | idx (a b:PE) | r1 (a:PE) | enm (a:PE) | oth
noncomputable def PE.pv:PE→PV
 | .var x=>.var x
 | .str s=>.str s
 | .comp ..=>.comp
 | .list _=>.lst
 | .idx a b=>.idx a b
 | .range1 a=>.r1 a
 | .enum a=>.enm a
 | _=>.oth
noncomputable def PV.is (e:PE):PV→Prop
 | .var x=>e=.var x
 | .str s=>e=.str s
 | .comp=>∃ fv elt t it ifs gs,e=.comp fv elt t it ifs gs
 | .lst=>∃ es,e=.list es
 | .idx a b=>e=.idx a b
 | .r1 a=>e=.range1 a
 | .enm a=>e=.enum a
 | .oth=>True
theorem c6e (e:PE):e.pv.is e:=by
 cases e with
 | comp fv elt t it ifs gs=>exact⟨fv,elt,t,it,ifs,gs,rfl⟩
 | list es=>exact⟨es,rfl⟩
 | _=>first | exact rfl | exact trivial
theorem a5U {e:PE}{v:PV}(h:e.pv=v):v.is e:=h ▸ c6e e
noncomputable def PV.asIdx:PV→Option (PE×PE)
 | .idx a b=>some (a,b)
 | _=>none
noncomputable def PV.asEnm:PV→Option PE
 | .enm a=>some a
 | _=>none
noncomputable def PV.isR1:PV→Bool
 | .r1 _=>true
 | _=>false
noncomputable def PV.isStr:PV→Bool
 | .str _=>true
 | _=>false
noncomputable def PV.isComp:PV→Bool
 | .comp=>true
 | _=>false
noncomputable def PV.okOld (g:Bool):PV→Bool
 | .str _=>true
 | .var _=>g
 | _=>false
noncomputable def b3z (b c:PE)(g:Bool):Bool:=c.pv.isStr&&b.pv.okOld g
noncomputable def c8c:D→Option D
 | .str _ _=>some (.typ "str")
 | .bytes _=>some (.typ "bytes")
 | .bool _=>some (.typ "bool")
 | _=>none
noncomputable def c8d (σ₀:Store)(x:Nat)(ev:Store→Option D)(items:List D):Option (List (List UInt8×D)):=
 items.mapM fun d=>(a4d σ₀ (.one x) d).bind fun σ'=>(ev σ').bind fun v=>v.asBytes.map fun b=>(b.toList,d)
noncomputable def cnd (c:Bool)(x:Option (List D)):Option (List D):=match c with
 | true=>x
 | false=>some []
mutual
noncomputable def evE (F:Fns)(σ:Store):PE→Option D
 | .none=>some .none
 | .bool b=>some (.bool b)
 | .int i=>some (.int i)
 | .str s=>some (.str s)
 | .bytes b=>some (.bytes b.toArray)
 | .var x=>(σ.get x).bind Slot.read
 | .typ n=>some (.typ n)
 | .bin op a b=>(evE F σ a).bind fun x=>(evE F σ b).bind fun y=>a2U op x y
 | .neg a=>(evE F σ a).bind fun x=>x.asInt.map fun i=>.int (-i)
 | .ite t a b=>(evT F σ t).bind fun c=>match c with
  | true=>evE F σ a
  | false=>evE F σ b
 | .list es=>(a2V F σ es).bind fun l=>grd (a0M l.length) (some (.list l))
 | .tup es=>(a2V F σ es).bind fun l=>grd (a0M l.length) (some (.tup l))
 | .cmp op a b=>(evE F σ a).bind fun x=>(evE F σ b).bind fun y=>(a3R op x y).map .bool
 | .idx a i=>(evE F σ a).bind fun x=>(evE F σ i).bind fun y=>a8F x y
 | .slice a lo hi=>(evE F σ a).bind fun d=>(evO F σ lo).bind fun l=>(a2q l).bind fun l'=>(evO F σ hi).bind fun h=>(a2q h).bind fun h'=>a3l d l' h'
 | .comp fv elt t iter ifs gs=>(evI F σ iter).bind fun items=>(a0O σ fv).bind fun σ₀=>
   (items.mapM fun d=>(a4d σ₀ t d).bind fun σ'=>(b2s F σ' ifs).bind fun c=>cnd c (c2v F σ' gs fun σ''=>grd (strict σ'' elt) ((evE F σ'' elt).map fun d=>[d]))).bind fun r=>grd (a0M r.flatten.length) (some (.list r.flatten))
 | .call f args kw=>(a2V F σ args).bind fun as=>(evK F σ kw).bind fun k=>F f as k
 | .len a=>(evE F σ a).bind fun d=>(c2F d).bind fun n=>grd (a0M n) (some (.int n))
 | .sum a=>(evE F σ a).bind fun d=>d.asList.bind fun l=>(l.mapM D.asInt).bind fun p=>grd (decide (p.length≤1000)&&p.all (fun i=>decide (i.natAbs<2 ^ 40))) (some (.int p.sum))
 | .sorted a=>(evE F σ a).bind fun d=>d.asList.bind fun l=>(l.mapM D.asInt).bind fun p=>grd (decide (p.length<64)) (some (.list ((b2q p).map .int)))
 | .rep1 a b=>(evE F σ a).bind fun u=>(σ.get b).bind fun sl=>sl.asVal.bind fun v=>u.asStr.bind fun x=>v.strG.bind fun y=>grd (y.2&&a0M x.length&&!(y.1.length==0)) (some (.str (a6O x y.1)))
 | .count a b=>(evE F σ a).bind fun u=>(evE F σ b).bind fun v=>u.asStr.bind fun x=>v.asStr.map fun y=>.int (Txt.count x y)
 | .find a b lo hi=>(evE F σ a).bind fun u=>(evE F σ b).bind fun v=>(evE F σ lo).bind fun p=>(evE F σ hi).bind fun q=>u.asStr.bind fun x=>v.asStr.bind fun y=>p.asInt.bind fun i=>q.asInt.bind fun j=>grd (decide (0≤i)&&decide (0≤j)&&decide (j≤x.length)) (some (.int (c6d x y i j)))
 | .resub x=>(σ.get x).bind fun s=>s.asVal.bind fun d=>d.asStr.bind fun y=>grd (b3y y) (some (.str (a8L y)))
 | .joinEsc x=>(σ.get x).bind fun s=>s.asOwn.bind fun l=>(c8b l).bind fun y=>grd (Nat.ble y.length 100&&(Builtin.Str.occurrences y ⟨#[92]⟩ 0 y.length (y.length+1)).isEmpty&&JoinOk ⟨#[45]⟩ [c5I y]) (some (.str (c5I y)))
 | .bytesOf a=>(evE F σ a).bind fun d=>d.asList.bind fun l=>(l.mapM D.asInt).bind fun p=>grd (p.all (fun i=>decide (0≤i∧i<256))&&a0M p.length) (some (.bytes (byteArr p)))
 | .typeOf a=>(evE F σ a).bind c8c
 | .isStr a=>(evE F σ a).bind fun d=>d.asStr.map fun _=>.bool true
 | .replace a b c=>(evE F σ a).bind fun u=>(evE F σ b).bind fun v=>(evE F σ c).bind fun w=>u.asStr.bind fun x=>v.strG.bind fun y=>w.asStr.bind fun z=>
   grd (b3z b c y.2&&(y.1 != z)&&a0M (x.length+(x.length+1)*z.length)) (some (.str (Txt.replace x y.1 z)))
 | .join a b=>(evE F σ a).bind fun u=>(evE F σ b).bind fun v=>u.asStr.bind fun x=>v.asList.bind fun l=>(l.mapM D.asStr).bind fun p=>grd (JoinOk x p) (some (.str (Txt.join x p)))
 | .isascii a=>(evE F σ a).bind fun u=>u.asStr.map fun x=>.bool (Txt.isascii x)
 | .encode a=>(evE F σ a).bind fun u=>u.asStr.bind fun x=>grd (x.cps.all (·<128)&&a0M x.length) (some (.bytes (a2L x)))
 | .btranslate a b c=>(evE F σ a).bind fun u=>(evE F σ b).bind fun v=>(evE F σ c).bind fun w=>u.asBytes.bind fun x=>v.asBytes.bind fun y=>w.asBytes.bind fun z=>
   grd (decide (y.size=z.size)&&a0M x.size) (some (.bytes (a3S x.toList y.toList z.toList).toArray))
 | .fstr es=>(a2V F σ es).bind fun l=>(l.mapM D.asStr).bind fun p=>grd (a0M (p.map (·.length)).sum) (some (.str (p.foldl (·++·) Str.empty)))
 | _=>none
noncomputable def evT (F:Fns)(σ:Store):PE→Option Bool
 | .not a=>(evT F σ a).map (!·)
 | .and es=>b9F F σ es
 | .or es=>c6f F σ es
 | .ite t a b=>(evT F σ t).bind fun c=>match c with
  | true=>evT F σ a
  | false=>evT F σ b
 | .cmp op a b=>(evE F σ a).bind fun x=>(evE F σ b).bind fun y=>a3R op x y
 | .cmp2 a op₁ b op₂ c=>(evE F σ a).bind fun x=>(evE F σ b).bind fun y=>(a3R op₁ x y).bind fun r=>match r with
  | true=>(evE F σ c).bind fun z=>a3R op₂ y z
  | false=>some false
 | .var x=>(σ.get x).bind Slot.truth
 | .bool b=>some b
 | .call f args kw=>(a2V F σ args).bind fun as=>(evK F σ kw).bind fun k=>(F f as k).bind a6Y
 | .isascii a=>(evE F σ a).bind fun u=>u.asStr.map Txt.isascii
 | .isStr a=>(evE F σ a).bind fun u=>u.asStr.map fun _=>true
 | .idx a i=>(evE F σ a).bind fun x=>(evE F σ i).bind fun y=>(a8F x y).bind a6Y
 | _=>none
noncomputable def b9F (F:Fns)(σ:Store):PEs→Option Bool
 | .nil=>some true
 | .cons e es=>(evT F σ e).bind fun c=>match c with
  | true=>b9F F σ es
  | false=>some false
noncomputable def c6f (F:Fns)(σ:Store):PEs→Option Bool
 | .nil=>some false
 | .cons e es=>(evT F σ e).bind fun c=>match c with
  | true=>some true
  | false=>c6f F σ es
noncomputable def b2s (F:Fns)(σ:Store):PEs→Option Bool
 | .nil=>some true
 | .cons e es=>(evT F σ e).bind fun c=>match c with
  | true=>b2s F σ es
  | false=>some false
noncomputable def a2V (F:Fns)(σ:Store):PEs→Option (List D)
 | .nil=>some []
 | .cons e es=>grd (strict σ e) ((evE F σ e).bind fun d=>(a2V F σ es).map fun l=>d :: l)
noncomputable def evO (F:Fns)(σ:Store):PO→Option (Option D)
 | .no=>some none
 | .yes e=>(evE F σ e).map some
noncomputable def evK (F:Fns)(σ:Store):PO→Option (Option D)
 | .no=>some none
 | .yes e=>grd (strict σ e) ((evE F σ e).map some)
noncomputable def evI (F:Fns)(σ:Store):PE→Option (List D)
 | .range1 a=>(evE F σ a).bind fun x=>x.asInt.bind fun i=>a5T 0 i 1
 | .range2 a b=>(evE F σ a).bind fun x=>(evE F σ b).bind fun y=>x.asInt.bind fun i=>y.asInt.bind fun j=>a5T i j 1
 | .range3 a b c=>(evE F σ a).bind fun x=>(evE F σ b).bind fun y=>(evE F σ c).bind fun z=>x.asInt.bind fun i=>y.asInt.bind fun j=>z.asInt.bind fun k=>a5T i j k
 | .enum a=>(evE F σ a).bind fun x=>x.asList.bind fun l=>grd (strict σ a) (some (l.zipIdx.map fun p=>.tup [.int p.2,p.1]))
 | .var x=>(σ.get x).bind Slot.iter
 | .idx a i=>(evE F σ a).bind fun x=>(evE F σ i).bind fun y=>(a8F x y).bind a5B
 | .slice a lo hi=>(evE F σ a).bind fun d=>(evO F σ lo).bind fun l=>(a2q l).bind fun l'=>(evO F σ hi).bind fun h=>(a2q h).bind fun h'=>(a3l d l' h').bind a5B
 | .call f args kw=>(a2V F σ args).bind fun as=>(evK F σ kw).bind fun k=>(F f as k).bind a5B
 | _=>none
noncomputable def c2v (F:Fns)(σ:Store):PGs→(Store→Option (List D))→Option (List D)
 | .nil,k=>k σ
 | .cons t iter ifs gs,k=>(evI F σ iter).bind fun items=>(items.mapM fun d=>(a4d σ t d).bind fun σ'=>(b2s F σ' ifs).bind fun c=>cnd c (c2v F σ' gs k)).map List.flatten
end
inductive Out where
 | next (σ:Store) | brk (σ:Store) | cont (σ:Store) | ret (d:D)
noncomputable def c8F:Operator→Bool
 | .Add | .Sub | .Mult=>true
 | _=>false
noncomputable def c2w (op:Operator)(a b:D):Option D:=match op with
 | .Add=>(a9V a b fun x y=>some (x+y)).or (c5H a b fun x y=>grd (a0M (x.length+y.length)) (some (.str (x++y))))
 | .Mult=>a9V a b fun x y=>grd (a8J x y) (some (x*y))
 | _=>none
noncomputable def dictSetD (kv:List (Str×Int))(k:Str)(i:Int):List (Str×Int):=match kv with
 | []=>[(k,i)]
 | (x,j) :: r=>if k==x then (x,i) :: r else (x,j) :: dictSetD r k i
noncomputable def Store.only (σ:Store)(f:Nat→Bool):Store:=σ.filter fun p=>f p.1
noncomputable def Slot.freeze:Slot→Option Slot
 | .val d=>some (.val d)
 | .own l=>some (.val (.list l))
 | .ownD kv=>some (.val (.dict kv))
 | .meth _=>none
noncomputable def freezeAll (σ:Store):Store:=σ.filterMap fun p=>(σ.get p.1).bind fun s=>s.freeze.map fun s'=>(p.1,s')
noncomputable def Tgt.has:Tgt→Nat→Bool
 | .one y,x=>y==x
 | .many ys,x=>ys.contains x
noncomputable def PV.asVar:PV→Option Nat
 | .var y=>some y
 | _=>none
noncomputable def a5C (e:PE):Option Nat:=e.pv.asVar
mutual
noncomputable def c2H:PS→Nat→Bool
 | .asg y _ e,x=>y==x||(match a5C e with
  | some z=>z==x
  | none=>false)
 | .asgT ys _,x=>ys.contains x
 | .asgI y _ _,x=>y==x
 | .aug y _ _,x=>y==x
 | .augI y _ _ _,x=>y==x
 | .app y _,x=>y==x
 | .getm y _,x=>y==x
 | .appV _ _,_=>true
 | .ifs _ a b,x=>a4s a x||a4s b x
 | .for t _ b,x=>t.has x||a4s b x
 | .while _ b,x=>a4s b x
 | .try b,x=>a4s b x
 | .ext y _,x=>y==x
 | .asgD y _ _,x=>y==x
 | .augD y _ _ _,x=>y==x
 | _,_=>false
noncomputable def a4s:List PS→Nat→Bool
 | [],_=>false
 | s :: r,x=>c2H s x||a4s r x
end
noncomputable def PV.forOk (σ:Store):PV→Bool
 | .var x=>strict σ (.var x)
 | _=>true
noncomputable def forOk (σ:Store)(e:PE):Bool:=e.pv.forOk σ
noncomputable def D.ownOf:D→Option Slot
 | .list l=>some (.own l)
 | _=>Option.none
noncomputable def c6g (F:Fns)(σ:Store)(e:PE):Option Slot:=match e.pv with
 | .lst=>(evE F σ e).bind D.ownOf
 | .comp=>(evE F σ e).bind D.ownOf
 | _=>none
noncomputable def b8W (σ:Store)(x y:Nat)(s:Slot):Option Out:=
 (s.asOwn.bind fun l=>grd (noMeth σ y) (some (.next ((σ.set y (.val (.list l))).set x (.val (.list l)))))).or <| s.asVal.map fun d=>.next (σ.set x (.val d))
noncomputable def c8G (σ:Store)(x:Nat)(s:Slot)(u d:D):Option Out:=
 s.asOwnD.bind fun kv=>u.asStr.bind fun k=>d.asInt.bind fun j=>grd (a0M (kv.length+1)) (some (.next (σ.set x (.ownD (dictSetD kv k j)))))
noncomputable def c6h (σ:Store)(x:Nat)(op:Operator)(s:Slot)(u b:D):Option Out:=
 s.asOwn.bind fun l=>u.asInt.bind fun k=>(grd (decide (0≤k)) (b1d k l.length)).bind fun j=>(l[j]?).bind fun a=>(c2w op a b).map fun d=>.next (σ.set x (.own (l.set j d)))
noncomputable def c2I (σ:Store)(x:Nat)(op:Operator)(s:Slot)(u b:D):Option Out:=
 s.asOwnD.bind fun kv=>u.asStr.bind fun k=>(kv.lookup k).bind fun a=>(c2w op (.int a) b).bind fun d=>d.asInt.bind fun j=>grd (a0M (kv.length+1)) (some (.next (σ.set x (.ownD (dictSetD kv k j)))))
mutual
noncomputable def evS (F:Fns)(fuel:Nat)(σ:Store):PS→Option Out
 | .asg x own e=>grd (noMeth σ x) (match own with
  | true=>(c6g F σ e).map fun sl=>.next (σ.set x sl)
  | false=>match a5C e with
   | some y=>(σ.get y).bind (b8W σ x y)
   | none=>grd (strict σ e) ((evE F σ e).map fun d=>.next (σ.set x (.val d))))
 | .asgT xs e=>(evE F σ e).bind fun d=>(a0P σ (.many xs) d).map .next
 | .asgI x i e=>(σ.get x).bind fun s=>(evE F σ i).bind fun u=>(evE F σ e).bind fun d=>c8G σ x s u d
 | .aug x op e=>(σ.get x).bind fun s=>s.asVal.bind fun a=>(evE F σ e).bind fun b=>grd (noMeth σ x) ((c2w op a b).map fun d=>.next (σ.set x (.val d)))
 | .augI x i op e=>(σ.get x).bind fun s=>(evE F σ i).bind fun u=>(evE F σ e).bind fun b=>c6h σ x op s u b
 | .app x e=>(σ.get x).bind fun s=>s.asOwn.bind fun l=>(evE F σ e).bind fun d=>grd (strict σ e&&a0M l.length) (some (.next (σ.set x (.own (l++[d])))))
 | .appV y e=>(σ.get y).bind fun m=>m.asMeth.bind fun x=>(σ.get x).bind fun s=>s.asOwn.bind fun l=>(evE F σ e).bind fun d=>grd (strict σ e&&a0M l.length) (some (.next (σ.set x (.own (l++[d])))))
 | .getm x y=>(σ.get y).bind fun s=>s.asOwn.bind fun _=>grd (noMeth σ x&&x != y) (some (.next (σ.set x (.meth y))))
 | .ifs t a b=>(evT F σ t).bind fun c=>match c with
  | true=>a0y F fuel σ a
  | false=>a0y F fuel σ b
 | .for t iter body=>grd (forOk σ iter) ((evI F σ iter).bind fun l=>a5D (fun σ d=>(a0P σ t d).bind fun σ'=>a0y F fuel σ' body) σ l)
 | .while t body=>a2B (evT F · t) (a0y F fuel · body) fuel σ
 | .ret e=>grd (strict (freezeAll σ) e) ((evE F (freezeAll σ) e).map .ret)
 | .brk=>some (.brk σ)
 | .fail=>none
 | .drop xs=>grd (xs.all fun x=>!(σ.isOwn x)) (some (.next (σ.only fun y=>!(xs.contains y))))
 | .ext x e=>(σ.get x).bind fun s=>s.asOwn.bind fun l=>(evE F σ e).bind fun d=>d.asList.bind fun r=>grd (e.pv.isComp&&a0M (l.length+r.length)) (some (.next (σ.set x (.own (l++r)))))
 | .asgD x k i=>grd (noMeth σ x) (some (.next (σ.set x (.ownD [(k,i)]))))
 | .augD x i op e=>(σ.get x).bind fun s=>(evE F σ i).bind fun u=>(evE F σ e).bind fun b=>c2I σ x op s u b
 | .cont=>some (.cont σ)
 | .assert t=>(evT F σ t).bind fun c=>grd c (some (.next σ))
 | .try body=>(a0y F fuel σ body).bind fun o=>match o with
  | .ret d=>some (.ret d)
  | .next σ'=>some (.next σ')
  | _=>none
noncomputable def a0y (F:Fns)(fuel:Nat)(σ:Store):List PS→Option Out
 | []=>some (.next σ)
 | s :: r=>(evS F fuel σ s).bind fun o=>match o with
  | .next σ'=>a0y F fuel σ' r
  | o=>some o
noncomputable def a5D (body:Store→D→Option Out)(σ:Store):List D→Option Out
 | []=>some (.next σ)
 | d :: r=>(body σ d).bind fun o=>match o with
  | .next σ'=>a5D body σ' r
  | .cont σ'=>a5D body σ' r
  | .brk σ'=>some (.next σ')
  | .ret d=>some (.ret d)
noncomputable def a2B (test:Store→Option Bool)(body:Store→Option Out):Nat→Store→Option Out
 | 0,_=>none
 | n+1,σ=>(test σ).bind fun c=>match c with
  | false=>some (.next σ)
  | true=>(body σ).bind fun o=>match o with
   | .next σ'=>a2B test body n σ'
   | .cont σ'=>a2B test body n σ'
   | .brk σ'=>some (.next σ')
   | .ret d=>some (.ret d)
end
structure Def where
 f:Nat
 params:List Nat
 kwonly:List Nat
 dflt:List D:=[]
 body:List PS
end
section
theorem a1K {n:Nat}(h:a0M n=true):n≤16777216:=c9B h
theorem a0z {n:Nat}(h:a0M n=true):n≤sizeLine:=c9C ▸ a1K h
theorem c5J {n m:Nat}(h:a0M n=true)(hm:16777216<m):n<m:=c9D (a1K h) hm
theorem a4t {n:Nat}(h:a0M n=true):(n:Int)<2 ^ 63:=Int.lt_of_le_of_lt (Int.ofNat_le.mpr (a1K h)) (by decide)
theorem b1f {x y:Int}(hx:a8J x y=true):IntMulOk x y:=by
 intro h
 refine a0a h (clear% h;fun h h3=>?_)
 refine a0a h (clear% h;fun h1 h2=>?_)
 have h1:=c9E h1
 have h2:=c9E h2
 rcases or2 hx with hx | hx
 ·rcases or2 hx with hx | hx
  ·exact absurd (c9E hx) (Nat.not_le_of_lt h1)
  ·exact absurd (c9E hx) (Nat.not_le_of_lt h2)
 ·have hx:=c9E hx
  have h3:(134217728:Int)<(Builtin.Int.intBits x:Int)+(Builtin.Int.intBits y:Int):=c9E h3
  exact absurd (Int.ofNat_le.mpr hx) (Int.not_le.mpr (Int.lt_trans (by decide) h3))
section
variable {C:RC}{B:Addr→Prop}{h:Heap}{n:Nat}{v:Value}{d:D}{P:Value→Prop}
theorem RepT.intP (x:RepT C B h n v d){i:Int}(e:d.asInt=some i)(k:∀ t,P (.int i t)):P v:=by
 rw [a5S e] at x
 refine (x.asInt).elim fun t Z1=>?_
 subst Z1
 exact k t
theorem RepT.strP (x:RepT C B h n v d){y:Str}(e:d.asStr=some y)(k:∀ t,P (.str y t)):P v:=by
 refine (a2g e).elim fun g Z1=>?_
 subst Z1
 refine (x.asStr).elim fun t Z1=>Z1.elim (fun Z2 _=>?_)
 subst Z2
 exact k t
theorem RepT.bytesP (x:RepT C B h n v d){b:Array UInt8}(e:d.asBytes=some b)(k:∀ t,P (.bytes b t)):P v:=by
 rw [a4b e] at x
 refine (x.asBytes).elim fun t Z1=>?_
 subst Z1
 exact k t
theorem RepT.boolP (x:RepT C B h n v d){b:Bool}(e:d.asBool=some b)(k:P (.bool b)):P v:=by
 rw [b2o e] at x
 rw [x.asBool]
 exact k
theorem RepT.listP (x:RepT C B h n v d){l:List D}(e:d.asList=some l)(k:∀ a (vs:List Value),h.IsList a vs.toArray→RepL C B h n vs l→P (.ref a)):P v:=by
 rw [a2J e] at x
 obtain⟨a,vs,rfl,h1,h2⟩:=x.asList
 exact k a vs h1 h2
theorem RepT.tupP (x:RepT C B h n v d){l:List D}(e:d.asTup=some l)(k:∀ a (vs:List Value),IsTup h a vs.toArray→RepL C B h n vs l→P (.ref a)):P v:=by
 rw [a2K e] at x
 obtain⟨a,vs,rfl,_,h1,h2⟩:=x.asTup
 exact k a vs h1 h2
end
noncomputable def Does (G:GC)(Γ:Ctx)(σ:Store)(oa:Nat→Addr)(m:Sem Value)(s:Shared)(d:D):Prop:=
 ∀ (Q E:Value→Shared→Prop),(∀ v s',Kf s s'→RD G Γ σ oa s' v d→Q v s')→wpAny (model G.prog G.w) Γ.A m Q E s
noncomputable def Says (G:GC)(A:Around)(m:Sem Value)(s:Shared)(r:Bool):Prop:=
 ∀ (Q E:Value→Shared→Prop),(∀ s',Kf s s'→Q (.bool r) s')→wpAny (model G.prog G.w) A m Q E s
section
variable {G:GC}{Γ:Ctx}{lvl:Nat}{sc:a0g}{σ:Store}{oa:Nat→Addr}{s s':Shared}{m:Sem Value}{va vb v:Value}{a b d:D}{E:Value→Shared→Prop}{A:Around}
theorem Does.of (h:∀ (Q E:Value→Shared→Prop),(∀ v s',Kf s s'→RD G Γ σ oa s' v d→Q v s')→wpAny (model G.prog G.w) Γ.A m (fun v s'=>s.toks≤s'.toks→Q v s') E s):Does G Γ σ oa m s d:=
 fun Q E hQ=>c9F (n:=s.toks) (c9n _) (h Q _ hQ)
theorem Does.tok (h:∀ (Q E:Value→Shared→Prop),(∀ v tk,s.toks≤tk→c6a (rc G Γ) (a0m Γ σ oa) s.heap tk v d→Q v { s with toks:=tk })→wpAny (model G.prog G.w) Γ.A m (fun v s'=>s.toks≤s'.toks→Q v s') E s)
  (hd:∀ v tk,c6a (rc G Γ) (a0m Γ σ oa) s.heap tk v d→Rep (rc G Γ) (a0m Γ σ oa) s.heap tk v d):Does G Γ σ oa m s d:=
 Does.of fun Q E hQ=>h Q E fun v tk ht r=>hQ v _ (Kf.tok ht) (hd v tk r)
theorem Does.int {i:Int}(h:∀ (Q E:Value→Shared→Prop),(∀ t tk,s.toks≤tk→Q (.int i t) { s with toks:=tk })→wpAny (model G.prog G.w) Γ.A m (fun v s'=>s.toks≤s'.toks→Q v s') E s):Does G Γ σ oa m s (.int i):=
 Does.of fun Q E hQ=>h Q E fun t _ ht=>hQ _ _ (Kf.tok ht) (.int i t)
theorem Does.str {x:Str}(h:∀ (Q E:Value→Shared→Prop),(∀ t tk,s.toks≤tk→Q (.str x t) { s with toks:=tk })→wpAny (model G.prog G.w) Γ.A m (fun v s'=>s.toks≤s'.toks→Q v s') E s):Does G Γ σ oa m s (.str x):=
 Does.of fun Q E hQ=>h Q E fun t _ ht=>hQ _ _ (Kf.tok ht) (.str x t _ nofun)
theorem Does.bytes {x:Array UInt8}(h:∀ (Q E:Value→Shared→Prop),(∀ t tk,s.toks≤tk→Q (.bytes x t) { s with toks:=tk })→wpAny (model G.prog G.w) Γ.A m (fun v s'=>s.toks≤s'.toks→Q v s') E s):Does G Γ σ oa m s (.bytes x):=
 Does.of fun Q E hQ=>h Q E fun t _ ht=>hQ _ _ (Kf.tok ht) (.bytes x t)
theorem Says.of {r:Bool}(h:∀ (Q E:Value→Shared→Prop),(∀ tk,s.toks≤tk→Q (.bool r) { s with toks:=tk })→wpAny (model G.prog G.w) A m (fun v s'=>s.toks≤s'.toks→Q v s') E s):Says G A m s r:=
 fun Q E hQ=>c9F (n:=s.toks) (c9n _) (h Q _ fun _ ht=>hQ _ (Kf.tok ht))
theorem St.newNot (S:St G Γ lvl sc σ oa s):¬ a0m Γ σ oa s.heap.objs.size:=fun q=>(S.alloc _ q).elim fun o e=>Nat.lt_irrefl _ (c9G e)
theorem b3A {h:Heap}:h.get? h.objs.size=none:=by
 cases e:h.get? h.objs.size with
 | none=>rfl
 | some o=>exact absurd (c9G e) (Nat.lt_irrefl _)
theorem St.newList (S:St G Γ lvl sc σ oa s){vs:List Value}{ds:List D}{tk:Nat}(r:RL G Γ σ oa s vs ds)(ht:s.toks≤tk):RD G Γ σ oa { s with heap:=s.heap.push { cls:=.type "list",data:=.seq vs.toArray },toks:=tk } (.ref s.heap.objs.size) (.list ds):=
 .list (vs:=vs) S.newNot ⟨_,c9H _ rfl,rfl,0,rfl⟩ (r.keep ht fun b o _ e=>c9w _ e)
section
variable {P:Value→Value→Prop}
theorem RepT.ii (P:Value→Value→Prop)(ha:RT G Γ σ oa s va a)(hb:RT G Γ σ oa s vb b){x y:Int}(hx:a.asInt=some x)(hy:b.asInt=some y)(k:∀ t u,P (.int x t) (.int y u)):P va vb:=
 RepT.intP (P:=fun v=>P v vb) ha hx fun t=>RepT.intP (P:=P _) hb hy (k t)
theorem RepT.ss (P:Value→Value→Prop)(ha:RT G Γ σ oa s va a)(hb:RT G Γ σ oa s vb b){x y:Str}(hx:a.asStr=some x)(hy:b.asStr=some y)(k:∀ t u,P (.str x t) (.str y u)):P va vb:=
 RepT.strP (P:=fun v=>P v vb) ha hx fun t=>RepT.strP (P:=P _) hb hy (k t)
theorem RepT.bb (P:Value→Value→Prop)(ha:RT G Γ σ oa s va a)(hb:RT G Γ σ oa s vb b){x y:Array UInt8}(hx:a.asBytes=some x)(hy:b.asBytes=some y)(k:∀ t u,P (.bytes x t) (.bytes y u)):P va vb:=
 RepT.bytesP (P:=fun v=>P v vb) ha hx fun t=>RepT.bytesP (P:=P _) hb hy (k t)
theorem RepT.ll (P:Value→Value→Prop)(ha:RT G Γ σ oa s va a)(hb:RT G Γ σ oa s vb b){x y:List D}(hx:a.asList=some x)(hy:b.asList=some y)
  (k:∀ l m (vs ws:List Value),s.heap.IsList l vs.toArray→s.heap.IsList m ws.toArray→RL G Γ σ oa s vs x→RL G Γ σ oa s ws y→P (.ref l) (.ref m)):P va vb:=
 RepT.listP (P:=fun v=>P v vb) ha hx fun l vs h1 r1=>RepT.listP (P:=P _) hb hy fun m ws h2 r2=>k l m vs ws h1 h2 r1 r2
end
theorem a3m {op:Operator}{f:Int→Int→Option Int}(ha:RT G Γ σ oa s va a)(hb:RT G Γ σ oa s vb b)(h:a9V a b f=some d)
  (hf:∀ x y z t u,f x y=some z→Does G Γ σ oa (binaryOp op (.int x t) (.int y u)) s (.int z)):Does G Γ σ oa (binaryOp op va vb) s d:=by
 refine a0j h (clear% h;fun x hx h1=>?_)
 refine a0j h1 (clear% h1;fun y hy h2=>?_)
 refine a2p h2 (clear% h2;fun z hz Z1=>?_)
 subst Z1
 exact RepT.ii (fun v w=>Does G Γ σ oa (binaryOp op v w) s (.int z)) ha hb hx hy fun t u=>hf x y z t u hz
theorem b2t (S:St G Γ lvl sc σ oa s){l m:Addr}{vs ws:List Value}{x y:List D}(hl:s.heap.IsList l vs.toArray)(hm:s.heap.IsList m ws.toArray)(rl:RL G Γ σ oa s vs x)(rm:RL G Γ σ oa s ws y)(hx:a0M (x.length+y.length)=true) :
  Does G Γ σ oa (binaryOp .Add (.ref l) (.ref m)) s (.list (x++y)):=by
 refine Does.of fun Q E hQ=>?_
 obtain⟨⟨cls,dd,data,sl⟩,ho,hc,n,hd⟩:=id hl
 obtain⟨⟨cls2,dd2,data2,sl2⟩,ho2,hc2,n2,hd2⟩:=id hm
 subst hc hd hc2 hd2
 have hsz:vs.toArray.size+ws.toArray.size≤sizeLine:=by
  rw [c9I,c9I,rl.length,rm.length]
  exact a0z hx
 refine concat_meets ⟨_,ho,rfl⟩ ⟨_,ho2,rfl⟩ noFill_list_add seq_list_add PySem.F.slot_list_add PySem.F.entry_list_add (PySem.F.args_list_add_2 _ _) (list_addW l m vs.toArray ws.toArray n n2 dd dd2 sl sl2 hsz) ⟨ho,ho2,fun ht=>hQ _ _ (Kf.push ht) ?_⟩
 rw [List.append_toArray]
 exact S.newList (rl.append rm) ht
theorem c2J (S:St G Γ lvl sc σ oa s)(ha:RT G Γ σ oa s va a)(hb:RT G Γ σ oa s vb b)(h:c7Z a b=some d):Does G Γ σ oa (binaryOp .Add va vb) s d:=by
 rcases a0L h with h | h
 ·exact a3m ha hb h fun x y z t u hz=>c9x hz ▸ .int fun Q E hQ=>add_int fun ht=>hQ _ _ ht
 rcases a0L h with h | h
 ·refine a0j h (clear% h;fun x hx h=>?_)
  refine a0j h (clear% h;fun y hy h=>?_)
  refine a0J h (clear% h;fun hc h=>?_)
  exact h ▸ RepT.ss (fun v w=>Does G Γ σ oa (binaryOp .Add v w) s _) ha hb hx hy fun t u=>.str fun Q E hQ=>add_str (fun t' k ht=>hQ _ _ ht) (a0z hc)
 rcases a0L h with h | h
 ·refine a0j h (clear% h;fun x hx h=>?_)
  refine a0j h (clear% h;fun y hy h=>?_)
  refine a0J h (clear% h;fun hc h=>?_)
  exact h ▸ RepT.ll (fun v w=>Does G Γ σ oa (binaryOp .Add v w) s _) ha hb hx hy fun l m vs ws hl hm rl rm=>b2t S hl hm rl rm hc
 ·refine a0j h (clear% h;fun x hx h=>?_)
  refine a0j h (clear% h;fun y hy h=>?_)
  refine a0J h (clear% h;fun hc h=>?_)
  exact h ▸ RepT.bb (fun v w=>Does G Γ σ oa (binaryOp .Add v w) s _) ha hb hx hy fun t u=>.bytes fun Q E hQ=>KBy.add_bytes (a1K hc) fun t' k ht=>hQ _ _ ht
theorem c2K (ha:RT G Γ σ oa s va a)(hb:RT G Γ σ oa s vb b)(h:c8a a b=some d):Does G Γ σ oa (binaryOp .Mult va vb) s d:=by
 rcases a0L h with h | h
 ·refine a3m ha hb h fun x y z t u hz=>?_
  refine a0J hz (clear% hz;fun hc hz=>?_)
  exact hz ▸ .int fun Q E hQ=>mul_int (fun ht=>hQ _ _ ht) (b1f hc)
 ·refine a0j h (clear% h;fun x hx h=>?_)
  refine a0j h (clear% h;fun y hy h=>?_)
  refine a0J h (clear% h;fun hc h=>?_)
  refine a0a hc (clear% hc;fun hc h3=>?_)
  refine a0a hc (clear% hc;fun h1 h2=>?_)
  exact h ▸ RepT.strP (P:=fun v=>Does G Γ σ oa (binaryOp .Mult v vb) s _) ha hx fun t=>RepT.intP (P:=fun w=>Does G Γ σ oa (binaryOp .Mult _ w) s _) hb hy fun u=>.str fun Q E hQ=>SB.mul (mulOk_of 1000 1000 (c9B h1) (c9E h3) (Int.le_trans (by decide) (c9E h2)) (by decide) (by decide)) fun t' k ht=>hQ _ _ ht
theorem b6z (S:St G Γ lvl sc σ oa s){op:Operator}(ha:RT G Γ σ oa s va a)(hb:RT G Γ σ oa s vb b)(h:a2U op a b=some d):Does G Γ σ oa (binaryOp op va vb) s d:=by
 induction op with
 | Add=>exact c2J S ha hb h
 | Mult=>exact c2K ha hb h
 | Sub=>exact a3m ha hb h fun x y z t u hz=>c9x hz ▸ .int fun Q E hQ=>sub_int fun ht=>hQ _ _ ht
 | FloorDiv=>
  refine a3m ha hb h fun x y z t u hz=>?_
  refine a0J hz (clear% hz;fun hc hz=>?_)
  have hc:=a1L hc
  cases h0:decide (y=0) with
  | true=>rw [h0] at hc;exact absurd hc.symm c9p
  | false=>
   rw [h0] at hc
   exact hz ▸ .int fun Q E hQ=>floordiv_int (of_decide_eq_false h0) (fun ht=>hQ _ _ ht) (.inl hc)
 | Mod=>
  refine a3m ha hb h fun x y z t u hz=>?_
  refine a0J hz (clear% hz;fun hc hz=>?_)
  exact hz ▸ .int fun Q E hQ=>mod_int (of_decide_eq_false (a1L hc)) fun ht=>hQ _ _ ht
 | Pow=>
  refine a3m ha hb h fun x y z t u hz=>?_
  refine a0J hz (clear% hz;fun hc hz=>?_)
  refine a0a hc (clear% hc;fun h1 h2=>?_)
  exact hz ▸ .int fun Q E hQ=>pow_int (c9E h1) (c9E h2) fun ht=>hQ _ _ ht
 | BitXor=>exact a3m ha hb h fun x y z t u hz=>c9x hz ▸ .int fun Q E hQ=>xor_int fun ht=>hQ _ _ ht
 | BitOr=>exact a3m ha hb h fun x y z t u hz=>c9x hz ▸ .int fun Q E hQ=>or_int fun ht=>hQ _ _ ht
 | BitAnd=>exact a3m ha hb h fun x y z t u hz=>c9x hz ▸ .int fun Q E hQ=>and_int fun ht=>hQ _ _ ht
 | LShift=>
  refine a3m ha hb h fun x y z t u hz=>?_
  refine a0J hz (clear% hz;fun hc hz=>?_)
  refine a0a hc (clear% hc;fun hc h3=>?_)
  refine a0a hc (clear% hc;fun h1 h2=>?_)
  exact hz ▸ .int fun Q E hQ=>lshift_int_small (c9E h1) (c9E h2) (c9E h3) fun ht=>hQ _ _ ht
 | RShift=>
  refine a3m ha hb h fun x y z t u hz=>?_
  refine a0J hz (clear% hz;fun hc hz=>?_)
  exact hz ▸ .int fun Q E hQ=>rshift_int (c9E hc) fun ht=>hQ _ _ ht
 | _=>exact a0e h
end
end
section
theorem a7I (a b:Array UInt8)(t u:Tok):MeetsSeq.EqGives (.bytes a t) (.bytes b u) (a.toList==b.toList):=fun prog w A E s Q h=>by
 unfold eqBool
 refine c9J ?_
 refine wpAny_ite_split (fun hab=>?_) (fun _=>?_)
 ·have e:=c9K hab
  injection e with e1 e2
  subst e1
  exact c9L (wpAny_rule (c9M (by simpa using h)))
 ·exact c9L (eq_bytes (c9N h))
theorem a1s:isSubtype (.type "NoneType") (.type "bytes")=pure false:=by rw [c9O];kernel_rfl
theorem a7J (a:Array UInt8)(t:Tok):Gives (Builtin.«bytes.__ne__» ⟨[.bytes a t,.none],[]⟩) (.val (Value.notImplemented)):=by
 refine .of_wp fun M A E s Q hq=>?_
 show wpAny M A (isInstance .none (.type "bytes") >>= fun r=>_) _ E s
 refine c9L (wpAny_isInstance (T:="NoneType") rfl a1s ?_)
 refine c9L (wpAny_isInstance (T:="NoneType") rfl a1s ?_)
 exact c9L (wpAny_rule (c9M ⟨_,rfl,hq⟩))
theorem a4Y (a:Array UInt8)(t:Tok):Gives (Builtin.«NoneType.__ne__» ⟨[.none,.bytes a t],[]⟩) (.val (Value.notImplemented)):=
 .of_wp fun M A E s Q h=>by obtain⟨hp,g,d,tk,os⟩:=s;wp_walk;exact⟨_,rfl,h⟩
section
variable {prog:Program}{w:World}{A:Around}{E:Value→Shared→Prop}{s:Shared}{h₀:Heap}{Q:Value→Shared→Prop}
theorem a7K {b:Array UInt8}{t:Tok}(h:Q (.bool true) s):wpAny (model prog w) A (compareOp .NotEq (.bytes b t) .none) Q E s:=by
 show wpAny _ A (richCompare .NotEq _ _) Q E s
 exact EqNone.wpAny_richCompare_ne_decline (k:=false) (fun s'=>typeIs_bytes _ _ _) (fun _=>rfl) (by decide) a1s FB.slot_bytes_ne F.slot_NoneType_ne_refl rfl
  (call_gives FB.slot_bytes_ne (typeIs_bytes _ _ _) FB.entry_bytes_ne (FB.args_bytes_ne_2 _ _) (a7J _ _)
   ⟨rfl,call_gives F.slot_NoneType_ne_refl rfl F.entry_NoneType_ne (F.args_NoneType_ne_2 _ _) (a4Y _ _) ⟨rfl,h⟩⟩)
end
section
variable {C:RC}{B:Addr→Prop}{h:Heap}{n:Nat}
noncomputable def c8e (x:Str):Value→Bool
 | .str i _=>i==x
 | _=>false
noncomputable def a3K (x:Array UInt8):Value→Bool
 | .bytes i _=>i.toList==x.toList
 | _=>false
theorem a4u {α:Type}{f:D→Option α}{d:D}{ds:List D}{p:List α}(h:(d :: ds).mapM f=some p):∃ x q,f d=some x∧ds.mapM f=some q∧p=x :: q:=by
 rw [List.mapM_cons] at h
 refine a0j h (clear% h;fun x h1 h2=>?_)
 refine a0j h2 (clear% h2;fun q h3 h4=>?_)
 exact⟨x,q,h1,h3,(c9x h4).symm⟩
theorem a1M {α:Type}{f:D→Option α}{p:List α}(h:([]:List D).mapM f=some p):p=[]:=(c9x h).symm
theorem b0b {vs:List Value}{ds:List D}{p:List Str}(r:RepL C B h n vs ds)(e:ds.mapM D.asStr=some p):StrsAre vs p:=by
 induction ds generalizing vs p with
 | nil=>cases r.view;cases a1M e;exact .nil
 | cons d ds ih=>
  obtain⟨x,q,hx,hq,rfl⟩:=a4u e
  refine (a2g hx).elim fun g Z1=>?_
  subst Z1
  obtain⟨v,q',rfl,a,r1⟩:=r.view
  refine (a.view).elim fun t Z1=>Z1.elim (fun Z2 _=>?_)
  subst Z2
  exact .cons _ _ (ih r1 hq)
theorem a5V {vs:List Value}{ds:List D}{p:List Int}(r:RepL C B h n vs ds)(e:ds.mapM D.asInt=some p):IntsAre vs p:=by
 induction ds generalizing vs p with
 | nil=>cases r.view;cases a1M e;exact .nil
 | cons d ds ih=>
  obtain⟨x,q,hx,hq,rfl⟩:=a4u e
  obtain rfl:=a5S hx
  obtain⟨v,q',rfl,a,r1⟩:=r.view
  refine (a.view).elim fun t Z1=>?_
  subst Z1
  exact .cons _ _ (ih r1 hq)
theorem a7L {vs:List Value}{p:List Int}(h:IntsAre vs p):∀ j (hj:j<vs.length),∃ t,vs[j]=.int (p.getD j 0) t:=by
 induction h with
 | nil=>exact fun j hj=>absurd hj (Nat.not_lt_zero j)
 | cons k t r ih=>
  intro j hj
  cases j with
  | zero=>exact⟨_,rfl⟩
  | succ j=>exact ih j (Nat.lt_of_succ_lt_succ hj)
theorem b6A {p q:List Int}(h:p.length=q.length):((List.range p.length).all fun j=>p.getD j 0==q.getD j 0)=(p==q):=by
 rw [c9P,c9Q,c9s]
 refine⟨fun h'=>List.ext_getElem h fun i h1 h2=>?_,fun e i _=>by rw [e];exact c9y _⟩
 have e:=c9K (h' i (c9R.mpr h1))
 rw [c9S,c9S,c9T h1,c9T h2] at e
 exact e
theorem b3B {vs:List Value}{ds:List D}{p:List (Array UInt8)}{x:Array UInt8}(r:RepL C B h n vs ds)(e:ds.mapM D.asBytes=some p) :
  vs.any (a3K x)=p.any (fun y=>y.toList==x.toList)∧∀ t,∀ y∈vs,MeetsSeq.EqGives y (.bytes x t) (a3K x y):=by
 induction ds generalizing vs p with
 | nil=>cases r.view;cases a1M e;exact⟨rfl,fun _ _ h=>nomatch h⟩
 | cons d ds ih=>
  obtain⟨z,q,hx,hq,rfl⟩:=a4u e
  obtain rfl:=a4b hx
  obtain⟨v,q',rfl,a,r1⟩:=r.view
  refine (a.view).elim fun u Z1=>?_
  subst Z1
  refine⟨c9o (z.toList==x.toList||·) (ih r1 hq).1,fun t y hy=>?_⟩
  rcases c9U.mp hy with hy | hy
  ·rw [hy];exact a7I _ _ _ _
  ·exact (ih r1 hq).2 t y hy
end
theorem AOk.units {A:Around}{lvl:Nat}(h:AOk lvl A):A.units<cLine:=c9D (c9v (c9V _ (8*lvl)) (c9V _ 200)) h.2.2
section
variable {G:GC}{A:Around}{s:Shared}{va vb:Value}{r:Bool}
noncomputable def SaysN (G:GC)(A:Around)(neg:Bool)(op nop:CmpOp)(va vb:Value)(s:Shared)(r:Bool):Prop:=Says G A (compareOp (bif neg then nop else op) va vb) s (bif neg then !r else r)
theorem SaysN.of {neg:Bool}{op nop:CmpOp}(h:Says G A (compareOp op va vb) s r)(h':Says G A (compareOp nop va vb) s (!r)):SaysN G A neg op nop va vb s r:=by
 cases neg with
 | false=>exact h
 | true=>exact h'
variable {neg:Bool}
theorem b9G (x y:Int)(t u:Tok):SaysN G A neg .Eq .NotEq (.int x t) (.int y u) s (x==y):=.of (.of fun Q E hQ=>eq_int fun ht=>hQ _ ht) (.of fun Q E hQ=>ne_int fun ht=>hQ _ ht)
theorem b9H (x y:Str)(t u:Tok):SaysN G A neg .Eq .NotEq (.str x t) (.str y u) s (x==y):=.of (.of fun Q E hQ=>eq_str fun ht=>hQ _ ht) (.of fun Q E hQ=>ne_str fun ht=>hQ _ ht)
theorem b3C (x y:Array UInt8)(t u:Tok):SaysN G A neg .Eq .NotEq (.bytes x t) (.bytes y u) s (x.toList==y.toList):=.of (.of fun Q E hQ=>eq_bytes fun ht=>hQ _ ht) (.of fun Q E hQ=>ne_bytes fun ht=>hQ _ ht)
theorem b6B (x y:Bool):SaysN G A neg .Eq .NotEq (.bool x) (.bool y) s (x==y):=.of (.of fun Q E hQ=>eq_bool fun ht=>hQ _ ht) (.of fun Q E hQ=>ne_bool fun ht=>hQ _ ht)
variable (hu:A.units<cLine){l m:Addr}{vs ws:List Value}(hl:s.heap.IsList l vs.toArray)(hm:s.heap.IsList m ws.toArray)
include hu hl hm
theorem b3D (hne:(vs.length != ws.length)=true):SaysN G A neg .Eq .NotEq (.ref l) (.ref m) s false:=
 .of (.of fun Q E hQ=>SeqAt.eq_list_lengthsAt hl hm hne hu fun ht=>hQ _ ht) (.of fun Q E hQ=>SeqAt.RcNeAt.lists_lengths hl hm hne hu _ _ _ _ fun ht=>hQ _ ht)
theorem b1g {p q:List Int}(ip:IntsAre vs p)(iq:IntsAre ws q)(hlen:p.length=q.length):SaysN G A neg .Eq .NotEq (.ref l) (.ref m) s (p==q):=by
 have hsz:vs.toArray.size=ws.toArray.size:=ip.length.trans (hlen.trans iq.length.symm)
 have hE:∀ j (h1:j<vs.toArray.size) (h2:j<ws.toArray.size),SeqAt.EqAt A.in1 s vs.toArray[j] ws.toArray[j] (p.getD j 0==q.getD j 0):=fun j h1 h2=>by
  refine (a7L ip j h1).elim fun t e1=>?_
  refine (a7L iq j h2).elim fun u e2=>?_
  show SeqAt.EqAt A.in1 s vs[j] ws[j] _
  rw [e1,e2]
  exact (MeetsSeq.EqGives.int _ _ _ _).at _ _
 rw [← b6A hlen,← ip.length]
 exact .of (.of fun Q E hQ=>SeqAt.eq_listAt (e:=fun j=>p.getD j 0==q.getD j 0) hl hm hsz hu hE fun ht=>hQ _ ht) (.of fun Q E hQ=>SeqAt.RcNeAt.lists (e:=fun j=>p.getD j 0==q.getD j 0) hl hm hsz hu hE _ _ _ _ fun ht=>hQ _ ht)
theorem b6C {C:RC}{B:Addr→Prop}{n:Nat}{x y:List D}(rl:RepL C B s.heap n vs x)(rm:RepL C B s.heap n ws y)(h:eqL x y=some r):SaysN G A neg .Eq .NotEq (.ref l) (.ref m) s r:=by
 cases x with
 | nil=>
  cases c9x h
  cases rl.view
  cases y with
  | nil=>
   cases rm.view
   exact b1g hu hl hm .nil .nil rfl
  | cons y ys=>
   obtain⟨v,q,rfl,_⟩:=rm.view
   exact b3D hu hl hm rfl
 | cons x xs=>
  cases y with
  | nil=>
   cases c9x h
   cases rm.view
   obtain⟨v,q,rfl,_⟩:=rl.view
   exact b3D hu hl hm rfl
  | cons y ys=>
   refine a0j h (clear% h;fun p hp h1=>?_)
   refine a0j h1 (clear% h1;fun q hq h2=>?_)
   refine (a0N h2).elim fun hlen h3=>?_
   cases c9x h3
   exact b1g hu hl hm (a5V rl hp) (a5V rm hq) (c9K hlen)
end
theorem a2r {α:Type}{x y:Option α}{f:α→α→Bool}{r:Bool}(h:b6y x y f=some r):∃ a b,x=some a∧y=some b∧f a b=r:=by
 refine a0j h (clear% h;fun a h1 h2=>?_)
 refine a2p h2 (clear% h2;fun b h3 h4=>?_)
 exact⟨a,b,h1,h3,h4⟩
section
variable {G:GC}{Γ:Ctx}{lvl:Nat}{sc:a0g}{σ:Store}{oa:Nat→Addr}{s s':Shared}{va vb v:Value}{a b d:D}{r:Bool}
theorem c2L (hu:Γ.A.units<cLine)(neg:Bool)(ha:RT G Γ σ oa s va a)(hb:RT G Γ σ oa s vb b)(h:eqD a b=some r):SaysN G Γ.A neg .Eq .NotEq va vb s r:=by
 rcases a0L h with h | h
 ·obtain⟨x,y,hx,hy,rfl⟩:=a2r h
  exact RepT.ii (fun v w=>SaysN G Γ.A neg .Eq .NotEq v w s _) ha hb hx hy fun t u=>b9G x y t u
 rcases a0L h with h | h
 ·obtain⟨x,y,hx,hy,rfl⟩:=a2r h
  exact RepT.ss (fun v w=>SaysN G Γ.A neg .Eq .NotEq v w s _) ha hb hx hy fun t u=>b9H x y t u
 rcases a0L h with h | h
 ·obtain⟨x,y,hx,hy,rfl⟩:=a2r h
  exact RepT.bb (fun v w=>SaysN G Γ.A neg .Eq .NotEq v w s _) ha hb hx hy fun t u=>b3C x y t u
 rcases a0L h with h | h
 ·obtain⟨x,y,hx,hy,rfl⟩:=a2r h
  exact ha.boolP (P:=fun v=>SaysN G Γ.A neg .Eq .NotEq v vb s _) hx (hb.boolP (P:=fun w=>SaysN G Γ.A neg .Eq .NotEq _ w s _) hy (b6B x y))
 ·refine a0j h (clear% h;fun x hx h=>?_)
  refine a0j h (clear% h;fun y hy h=>?_)
  exact RepT.ll (fun v w=>SaysN G Γ.A neg .Eq .NotEq v w s _) ha hb hx hy fun l m vs ws hl hm rl rm=>b6C hu hl hm rl rm h
end
end
section
section
variable {G:GC}{Γ:Ctx}{lvl:Nat}{sc:a0g}{σ:Store}{oa:Nat→Addr}{s s':Shared}{va vb v:Value}{a b d:D}{r:Bool}{neg:Bool}
theorem b6D {A:Around}{m:Addr}{ws:List Value}{p:List Str}(x:Str)(t:Tok)(hm:s.heap.IsList m ws.toArray)(sr:StrsAre ws p):SaysN G A neg .In .NotIn (.str x t) (.ref m) s (p.any (·==x)):=
 .of (.of fun Q E hQ=>in_list_strs hm sr fun ht=>hQ _ ht) (.of fun Q E hQ=>notin_list_strs hm sr fun ht=>hQ _ ht)
theorem b9I {A:Around}{m:Addr}{ws:List Value}{p:List Str}(x:Str)(t:Tok)(hm:IsTup s.heap m ws.toArray)(sr:StrsAre ws p):SaysN G A neg .In .NotIn (.str x t) (.ref m) s (p.any (·==x)):=by
 have hE:∀ y,y∈ws.toArray→SeqAt.EqAt A.in1 s y (.str x t) (PyProof.Rows.isStrOf x y):=fun y hy=>(eq_isStrOf _ t sr y (List.mem_toArray.mp hy)).at _ _
 rw [← any_isStrOf x sr,show ws.any (PyProof.Rows.isStrOf x)=ws.toArray.any (PyProof.Rows.isStrOf x) from (List.any_toArray ..).symm]
 exact .of (.of fun Q E hQ=>SeqAt.in_tupleAt (PyProof.Rows.isStrOf _) hm hE fun ht=>hQ _ ht) (.of fun Q E hQ=>SeqAt.notIn_tupleAt (PyProof.Rows.isStrOf _) hm hE fun ht=>hQ _ ht)
theorem b3E {A:Around}{m:Addr}{ws:List Value}{l:List D}{p:List (Array UInt8)}{C:RC}{B:Addr→Prop}{n:Nat}(x:Array UInt8)(t:Tok)(hm:s.heap.IsList m ws.toArray)(rm:RepL C B s.heap n ws l)(hp:l.mapM D.asBytes=some p) :
  SaysN G A neg .In .NotIn (.bytes x t) (.ref m) s (p.any fun y=>y.toList==x.toList):=by
 refine (b3B (x:=x) rm hp).elim fun e hE=>?_
 rw [← e,show ws.any (a3K x)=ws.toArray.any (a3K x) from (List.any_toArray ..).symm]
 exact .of (.of fun Q E hQ=>SeqInW.in_listW (a3K x) (fun y hy=>hE t y (List.mem_toArray.mp hy)) hm fun ht=>hQ _ ht) (.of fun Q E hQ=>SeqInW.notIn_listW (a3K x) (fun y hy=>hE t y (List.mem_toArray.mp hy)) hm fun ht=>hQ _ ht)
theorem c2M (neg:Bool)(ha:RT G Γ σ oa s va a)(hb:RT G Γ σ oa s vb b)(h:inD a b=some r):SaysN G Γ.A neg .In .NotIn va vb s r:=by
 rcases a0L h with h | h
 ·refine a0j h (clear% h;fun x hx h=>?_)
  refine a0j h (clear% h;fun y hy h=>?_)
  exact c9x h ▸ RepT.ss (fun v w=>SaysN G Γ.A neg .In .NotIn v w s _) ha hb hx hy fun t u=>.of (.of fun Q E hQ=>P.in_str fun ht=>hQ _ ht) (.of fun Q E hQ=>P.notIn_str fun ht=>hQ _ ht)
 rcases a0L h with h | h
 ·refine a0j h (clear% h;fun x hx h=>?_)
  refine a0j h (clear% h;fun y hy h=>?_)
  refine a2p h (clear% h;fun p hp h=>?_)
  exact h ▸ RepT.strP (P:=fun v=>SaysN G Γ.A neg .In .NotIn v vb s _) ha hx fun t=>RepT.listP (P:=fun w=>SaysN G Γ.A neg .In .NotIn _ w s _) hb hy fun m ws hm rm=>b6D x t hm (b0b rm hp)
 rcases a0L h with h | h
 ·refine a0j h (clear% h;fun x hx h=>?_)
  refine a0j h (clear% h;fun y hy h=>?_)
  refine a2p h (clear% h;fun p hp h=>?_)
  exact h ▸ RepT.strP (P:=fun v=>SaysN G Γ.A neg .In .NotIn v vb s _) ha hx fun t=>RepT.tupP (P:=fun w=>SaysN G Γ.A neg .In .NotIn _ w s _) hb hy fun m ws hm rm=>b9I x t hm (b0b rm hp)
 ·refine a0j h (clear% h;fun x hx h=>?_)
  refine a0j h (clear% h;fun y hy h=>?_)
  refine a2p h (clear% h;fun p hp h=>?_)
  exact h ▸ RepT.bytesP (P:=fun v=>SaysN G Γ.A neg .In .NotIn v vb s _) ha hx fun t=>RepT.listP (P:=fun w=>SaysN G Γ.A neg .In .NotIn _ w s _) hb hy fun m ws hm rm=>b3E x t hm rm hp
theorem a4v {A:Around}(h1:plainIs va vb=true)(h2:(va==vb)=r):SaysN G A neg .Is .IsNot va vb s r:=by
 rw [← h2]
 exact .of (fun Q E hQ=>wpAny_is_plain h1 (hQ _ Kf.refl)) fun Q E hQ=>wpAny_isNot_plain h1 (hQ _ Kf.refl)
theorem b9J {C:RC}{B:Addr→Prop}{h:Heap}{n:Nat}(x:RepT C B h n v d)(e:b3x d=some r):plainIs v .none=true∧(v==.none)=r:=by
 cases x with
 | deep q=>
  cases q with
  | typ=>exact a0e e
  | star=>exact a0e e
  | dict=>exact a0e e
  | _=>exact⟨rfl,c9x e⟩
 | list=>exact⟨rfl,c9x e⟩
 | dict=>exact a0e e
theorem b3F {x:Bool}{C:RC}{B:Addr→Prop}{h:Heap}{n:Nat}(q:RepT C B h n v d)(e:d.isStar=some x):(x=true∧v=.ref C.st)∨(x=false∧∃ y t,v=.str y t):=by
 cases d with
 | star=>exact .inl ⟨(c9x e).symm,(q.rep rfl).view.1⟩
 | str y g=>exact .inr ⟨(c9x e).symm,y,(q.asStr).elim fun t h=>⟨t,h.1⟩⟩
 | _=>exact a0e e
theorem c2N (neg:Bool)(ha:RT G Γ σ oa s va a)(hb:RT G Γ σ oa s vb b)(h:isD a b=some r):SaysN G Γ.A neg .Is .IsNot va vb s r:=by
 rcases a0L h with h | h
 ·refine (a0N h).elim fun h1 h=>?_
  rw [a4X h1] at hb
  refine (b9J ha h).elim fun h2 h3=>?_
  rw [hb.asNone]
  exact a4v h2 h3
 rcases a0L h with h | h
 ·obtain⟨x,y,hx,hy,h⟩:=a2r h
  rw [a8K hx] at ha
  rw [a8K hy] at hb
  rw [ha.asTyp,hb.asTyp]
  refine a4v rfl (Eq.trans ?_ h)
  rw [c9P,c9s,c9s]
  exact⟨fun e=>by injection e,fun e=>by rw [e]⟩
 ·refine a0j h (clear% h;fun x hx h=>?_)
  refine a0j h (clear% h;fun y hy h=>?_)
  refine a0J h (clear% h;fun h1 h=>?_)
  rcases b3F ha hx with⟨rfl,e1⟩ | ⟨rfl,x,t,e1⟩ <;> rcases b3F hb hy with⟨rfl,e2⟩ | ⟨rfl,y,u,e2⟩
  ·rw [e1,e2,← h]
   exact .of (fun Q E hQ=>wpAny_is_ref_self (hQ _ Kf.refl)) fun Q E hQ=>wpAny_isNot_ref_self (hQ _ Kf.refl)
  ·rw [e1,e2];exact a4v rfl h
  ·rw [e1,e2];exact a4v rfl h
  ·exact absurd h1 c9p
theorem c6i (hu:Γ.A.units<cLine)(ha:RT G Γ σ oa s va a)(hb:RT G Γ σ oa s vb b)(h:neD a b=some r):Says G Γ.A (compareOp .NotEq va vb) s r:=by
 rcases a0L h with h | h
 ·refine (a0N h).elim fun h1 h=>?_
  refine a2p h (clear% h;fun x hx h=>?_)
  rw [a4X h1] at hb
  rw [hb.asNone]
  exact h ▸ RepT.bytesP (P:=fun v=>Says G Γ.A (compareOp .NotEq v .none) s _) ha hx fun t=>.of fun Q E hQ=>a7K fun ht=>hQ _ ht
 ·refine a2p h (clear% h;fun q hq h=>?_)
  exact h ▸ c2L hu true ha hb hq
theorem c2O (ha:RT G Γ σ oa s va a)(hb:RT G Γ σ oa s vb b)(h:ltD a b=some r):Says G Γ.A (compareOp .Lt va vb) s r∧Says G Γ.A (compareOp .Gt vb va) s r:=by
 rcases a0L h with h | h
 ·obtain⟨x,y,hx,hy,h⟩:=a2r h
  exact h ▸ RepT.ii (fun v w=>Says G Γ.A (compareOp .Lt v w) s _∧Says G Γ.A (compareOp .Gt w v) s _) ha hb hx hy fun t u=>⟨.of fun Q E hQ=>lt_int fun ht=>hQ _ ht,.of fun Q E hQ=>gt_int fun ht=>hQ _ ht⟩
 ·obtain⟨x,y,hx,hy,h⟩:=a2r h
  exact h ▸ RepT.ss (fun v w=>Says G Γ.A (compareOp .Lt v w) s _∧Says G Γ.A (compareOp .Gt w v) s _) ha hb hx hy fun t u=>⟨.of fun Q E hQ=>P.lt_str fun ht=>hQ _ ht,.of fun Q E hQ=>P.gt_str fun ht=>hQ _ ht⟩
theorem c2P (ha:RT G Γ σ oa s va a)(hb:RT G Γ σ oa s vb b)(h:leD a b=some r):Says G Γ.A (compareOp .LtE va vb) s r∧Says G Γ.A (compareOp .GtE vb va) s r:=by
 obtain⟨x,y,hx,hy,h⟩:=a2r h
 exact h ▸ RepT.ii (fun v w=>Says G Γ.A (compareOp .LtE v w) s _∧Says G Γ.A (compareOp .GtE w v) s _) ha hb hx hy fun t u=>⟨.of fun Q E hQ=>le_int fun ht=>hQ _ ht,.of fun Q E hQ=>ge_int fun ht=>hQ _ ht⟩
theorem b1h (hu:Γ.A.units<cLine){op:CmpOp}(ha:RT G Γ σ oa s va a)(hb:RT G Γ σ oa s vb b)(h:a3R op a b=some r):Says G Γ.A (compareOp op va vb) s r:=by
 induction op with
 | Eq=>exact c2L hu false ha hb h
 | NotEq=>exact c6i hu ha hb h
 | In=>exact c2M false ha hb h
 | NotIn=>exact (mpd h).elim fun q h=>h.2 ▸ c2M true ha hb h.1
 | Is=>exact c2N false ha hb h
 | IsNot=>exact (mpd h).elim fun q h=>h.2 ▸ c2N true ha hb h.1
 | Lt=>exact (c2O ha hb h).1
 | Gt=>exact (c2O hb ha h).2
 | LtE=>exact (c2P ha hb h).1
 | GtE=>exact (c2P hb ha h).2
noncomputable def SaysT (G:GC)(A:Around)(m:Sem Bool)(s:Shared)(r:Bool):Prop:=∀ (Q:Bool→Shared→Prop) (E:Value→Shared→Prop),(∀ s',Kf s s'→Q r s')→wpAny (model G.prog G.w) A m Q E s
theorem SaysT.of {A:Around}{m:Sem Bool}(h:∀ (Q:Bool→Shared→Prop) (E:Value→Shared→Prop),(∀ tk,s.toks≤tk→Q r { s with toks:=tk })→wpAny (model G.prog G.w) A m (fun v s'=>s.toks≤s'.toks→Q v s') E s):SaysT G A m s r:=
 fun Q E hQ=>c9F (n:=s.toks) (c9n _) (h Q _ fun _ ht=>hQ _ (Kf.tok ht))
theorem b2u {A:Around}{l:Addr}{vs:List Value}{x:List D}{C:RC}{B:Addr→Prop}{n:Nat}(hl:s.heap.IsList l vs.toArray)(rl:RepL C B s.heap n vs x)(hx:a0M x.length=true):SaysT G A (truthy (.ref l)) s (!x.isEmpty):=by
 have e:(!vs.toArray.isEmpty)=!x.isEmpty:=by
  cases x with
  | nil=>cases rl.view;rfl
  | cons d x=>obtain⟨v,q,rfl,_⟩:=rl.view;rfl
 rw [← e]
 refine .of fun Q E hQ=>wpAny_truthy_list hl ?_ fun ht=>hQ _ ht
 rw [c9I,rl.length]
 exact a4t hx
theorem b6E (ha:RT G Γ σ oa s va a)(h:a6Y a=some r):SaysT G Γ.A (truthy va) s r:=by
 rcases a0L h with h | h
 ·refine a0J h (clear% h;fun h1 h=>?_)
  rw [a4X h1] at ha
  rw [ha.asNone,← h]
  exact .of fun Q E hQ=>PyProof.Rows.truthy_none fun ht=>hQ _ ht
 rcases a0L h with h | h
 ·exact ha.boolP (P:=fun v=>SaysT G Γ.A (truthy v) s _) h (.of fun Q E hQ=>c9N fun ht=>hQ _ ht)
 rcases a0L h with h | h
 ·refine a2p h (clear% h;fun x hx h=>?_)
  exact h ▸ ha.intP (P:=fun v=>SaysT G Γ.A (truthy v) s _) hx fun t=>.of fun Q E hQ=>truthy_int fun ht=>hQ _ ht
 rcases a0L h with h | h
 ·refine a0j h (clear% h;fun x hx h=>?_)
  refine a0J h (clear% h;fun hc h=>?_)
  have e:((x.length:Int) != 0)=!(x.length==0):=by
   cases x.length <;> rfl
  exact h ▸ e ▸ ha.strP (P:=fun v=>SaysT G Γ.A (truthy v) s _) hx fun t=>.of fun Q E hQ=>P.truthy_str (Int.not_le.mpr (a4t hc)) fun ht=>hQ _ ht
 ·refine a0j h (clear% h;fun x hx h=>?_)
  refine a0J h (clear% h;fun hc h=>?_)
  exact h ▸ ha.listP (P:=fun v=>SaysT G Γ.A (truthy v) s _) hx fun l vs hl rl=>b2u hl rl hc
end
end
section
theorem a5W (slice:Expr)(o i:Value):∃ ops,subscripted slice false o i=operate ops (getItem o i):=by
 cases slice with
 | Slice l u st p=>cases st <;> exact⟨_,rfl⟩
 | _=>exact⟨_,rfl⟩
structure IdxOk (k:Int)(n j:Nat):Prop where
 seq:seqIndex? k n=some j
 lo:-(n:Int)≤k
 hi:k<n
 lo':-(2 ^ 63)≤k
 hi':k<2 ^ 63
 neg:k<0→(k+n).toNat=j
 pos:0≤k→k.toNat=j
theorem a7M {k:Int}{n j:Nat}(h:b1d k n=some j):IdxOk k n j:=by
 refine (a0N h).elim fun hn e=>?_
 have hn:=a4t hn
 unfold seqIndex? at e
 by_cases h0:k<0
 ·rw [c9r h0] at e
  by_cases h1:(decide (0≤k+(n:Int))&&decide (k+(n:Int)<n))=true
  ·rw [c9r h1] at e
   have e:=c9x e
   obtain⟨h2,h3⟩:=a0h h1
   have h2:=c9E h2
   refine⟨?_,by lia,by lia,by lia,by lia,fun _=>e,fun q=>absurd h0 (Int.not_lt.mpr q)⟩
   unfold seqIndex?
   rw [c9r h0,c9r h1,e]
  ·rw [c9t h1] at e;exact a0e e
 ·rw [c9t h0] at e
  by_cases h1:(decide (0≤k)&&decide (k<n))=true
  ·rw [c9r h1] at e
   have e:=c9x e
   obtain⟨h2,h3⟩:=a0h h1
   have h3:=c9E h3
   refine⟨?_,by lia,h3,by lia,by lia,fun q=>absurd q h0,fun _=>e⟩
   unfold seqIndex?
   rw [c9t h0,c9r h1,e]
  ·rw [c9t h1] at e;exact a0e e
section
variable {G:GC}{Γ:Ctx}{lvl:Nat}{sc:a0g}{σ:Store}{oa:Nat→Addr}{s s':Shared}{va vb v:Value}{a b d:D}{E:Value→Shared→Prop}
noncomputable def Sub (s:Shared)(v:Value):Prop:=∃ T id,s.TypeIs v T∧typeLookup (.type T) "__getitem__"=pure (some (.builtin id))
theorem a7N {value slice:Expr}{o i:Value}{A:Around}{Q:Value→Shared→Prop}(hs:Sub s o)(hg:wpAny (model G.prog G.w) A (getItem o i) Q E s):wpAny (model G.prog G.w) A (subscriptTail value slice o i) Q E s:=by
 obtain⟨T,id,hT,hl⟩:=hs
 refine (a5W slice o i).elim fun ops hs=>?_
 exact tail_any hT hl hg hs
noncomputable def b1i (G:GC)(Γ:Ctx)(σ:Store)(oa:Nat→Addr)(s:Shared)(d:D)(v w:Value):Prop:=Does G Γ σ oa (getItem v w) s d∧Sub s v
theorem b3G {l:Addr}{vs:List Value}{ds:List D}{k:Int}{t:Tok}(hl:s.heap.IsList l vs.toArray)(rl:RL G Γ σ oa s vs ds)(h:(b1d k ds.length).bind (ds[·]?)=some d):b1i G Γ σ oa s d (.ref l) (.int k t):=by
 refine⟨?_,"list",_,hl.typeIs,slot_list_getitem.lookup⟩
 refine a0j h (clear% h;fun j hj hd=>?_)
 have I:=a7M hj
 refine (rl.get j d hd).elim fun v Z1=>Z1.elim (fun hv rv=>?_)
 intro Q E hQ
 have hv:vs.toArray[j]?=some v:=(c9W ..).trans hv
 rw [← rl.length] at I
 by_cases h0:k<0
 ·exact wpAny_getItem_list_neg hl h0 I.lo I.lo' (x:=v) (by rw [c9I,I.neg h0];exact hv) (hQ v s Kf.refl rv)
 ·have h0:=Int.not_lt.mp h0
  exact wpAny_getItem_list hl h0 I.hi' (x:=v) (by rw [I.pos h0];exact hv) (hQ v s Kf.refl rv)
theorem b6F {l:Addr}{vs:List Value}{ds:List D}{k:Int}{t:Tok}(hl:IsTup s.heap l vs.toArray)(rl:RL G Γ σ oa s vs ds)(h:(b1d k ds.length).bind (ds[·]?)=some d):b1i G Γ σ oa s d (.ref l) (.int k t):=by
 refine⟨?_,"tuple",_,hl.typeIs,slot_tuple_getitem.lookup⟩
 refine a0j h (clear% h;fun j hj hd=>?_)
 have I:=a7M hj
 refine (rl.get j d hd).elim fun v Z1=>Z1.elim (fun hv rv=>?_)
 rw [← rl.length] at I
 exact fun Q E hQ=>getItem_tuple hl I.lo' I.hi' (j:=j) I.seq ((c9W ..).trans hv) (hQ v s Kf.refl rv)
theorem b6G (g:GSt G s){x:Str}{k:Int}{t u:Tok}(h:b9E x k=some d):b1i G Γ σ oa s d (.str x t) (.int k u):=by
 refine⟨?_,"str",_,typeIs_str _ _ _,F.slot_str_getitem.lookup⟩
 refine a2p h (clear% h;fun c hc Z1=>?_)
 subst Z1
 refine a0j hc (clear% hc;fun j hj hd=>?_)
 have I:=a7M hj
 refine fun Q E hQ=>P.getItem_str (c:=c) ?_ (I.seq ▸ hd) (hQ _ _ (Kf.tok (c9A _)) (.str _ _ _ fun _=>⟨Nat.ne_of_gt g.tok,c9X _⟩))
 rw [c9Y (Int.not_lt.mpr I.lo'),c9Y (Int.not_le.mpr I.hi')]
 rfl
theorem a8M {l:Addr}{m:Str→Option Value}{kv:List (Str×Int)}{k:Str}{t:Tok}(hm:Heap.MapOf (PySem.strKind G.prog G.w) s.heap l m)(dm:b6w m kv)(h:(kv.lookup k).map D.int=some d):b1i G Γ σ oa s d (.ref l) (.str k t):=by
 refine a2p h (clear% h;fun i hi Z1=>?_)
 subst Z1
 refine ((dm k).2 i hi).elim fun u hu=>?_
 exact⟨fun Q E hQ=>wpAny_getItem_of (knd:=PySem.strKind G.prog G.w) (strKind_is G.prog G.w k t) hm hu (hQ _ _ (Kf.tok (c9A _)) (.int _ _)),"dict",_,hm.typeIs,slot_dict_getitem.lookup⟩
theorem RepT.dictP {C:RC}{B:Addr→Prop}{h:Heap}{n:Nat}{P:Value→Prop}(x:RepT C B h n v d){kv:List (Str×Int)}(e:d.asDict=some kv)(k:∀ a m,Heap.MapOf (PySem.strKind C.prog C.w) h a m→b6w m kv→P (.ref a)):P v:=by
 rw [b2p e] at x
 obtain⟨a,m,rfl,h1,h2⟩:=x.asDict
 exact k a m h1 h2
theorem b3H (g:GSt G s)(ha:RT G Γ σ oa s va a)(hb:RT G Γ σ oa s vb b)(h:a8F a b=some d):b1i G Γ σ oa s d va vb:=by
 rcases a0L h with h | h
 ·refine a0j h (clear% h;fun l hl h=>?_)
  refine a0j h (clear% h;fun k hk h=>?_)
  exact ha.listP (P:=fun v=>b1i G Γ σ oa s d v vb) hl fun x vs h1 r1=>hb.intP (P:=b1i G Γ σ oa s d _) hk fun t=>b3G h1 r1 h
 rcases a0L h with h | h
 ·refine a0j h (clear% h;fun l hl h=>?_)
  refine a0j h (clear% h;fun k hk h=>?_)
  exact ha.tupP (P:=fun v=>b1i G Γ σ oa s d v vb) hl fun x vs h1 r1=>hb.intP (P:=b1i G Γ σ oa s d _) hk fun t=>b6F h1 r1 h
 rcases a0L h with h | h
 ·refine a0j h (clear% h;fun l hl h=>?_)
  refine a0j h (clear% h;fun k hk h=>?_)
  exact ha.strP (P:=fun v=>b1i G Γ σ oa s d v vb) hl fun t=>hb.intP (P:=b1i G Γ σ oa s d _) hk fun u=>b6G g h
 ·refine a0j h (clear% h;fun l hl h=>?_)
  refine a0j h (clear% h;fun k hk h=>?_)
  exact ha.dictP (P:=fun v=>b1i G Γ σ oa s d v vb) hl fun x m h1 r1=>hb.strP (P:=b1i G Γ σ oa s d _) hk fun t=>a8M h1 r1 h
theorem c2Q (g:GSt G s){value slice:Expr}(ha:RT G Γ σ oa s va a)(hb:RT G Γ σ oa s vb b)(h:a8F a b=some d):Does G Γ σ oa (subscriptTail value slice va vb) s d:=
 fun Q E hQ=>a7N (b3H g ha hb h).2 ((b3H g ha hb h).1 Q E hQ)
theorem a3T {α:Type}(l:List α)(lo hi:Option Int):((sliceRange (b9D l.length lo) (c2t l.length hi) 1).filterMap (l[·]?))=cut l lo hi:=by
 rw [sliceRange_one,← show (fun i=>l.toArray[i]?)=(fun i=>l[i]?) from funext fun i=>c9W ..,pick_run]
 rfl
theorem a7a (lo hi:Option Int)(n:Nat):sliceBounds lo hi none n=(((b9D n lo:Nat):Int),((c2t n hi:Nat):Int),1):=by
 rw [sliceBounds_plain]
 cases lo <;> cases hi <;> rfl
theorem a7O (vs:List Value)(lo hi:Option Int):slicePick vs.toArray lo hi none=(cut vs lo hi).toArray:=by
 rw [← a3T,← show (fun i=>vs.toArray[i]?)=(fun i=>vs[i]?) from funext fun i=>c9W ..]
 unfold slicePick
 rw [a7a]
 rfl
theorem a7P {α:Type}(l:List α)(lo hi:Option Int):(cut l lo hi).length≤l.length:=c9v (List.length_take_le' ..) (List.length_drop ▸ Nat.sub_le ..)
theorem a3U (lo hi:Option Int)(n:Nat):Builtin.Str.strSliceIndices lo hi 1 n=sliceRange (b9D n lo:Nat) (c2t n hi:Nat) 1:=by
 have h:=a7a lo hi n
 unfold sliceBounds at h
 unfold Builtin.Str.strSliceIndices
 injection h with h1 h2
 injection h2 with h2 h3
 simp only [Option.getD_none] at h1 h2
 rw [← h1,← h2]
 rfl
theorem b9K (n:Nat)(k:Int):clipAt n k≤n:=Int.ofNat_le.mp (clipAt_cast n k ▸ Int.max_le.mpr ⟨c9Z n,Int.min_le_right ..⟩)
theorem b9L (n:Nat)(hi:Option Int):c2t n hi≤n:=by
 cases hi with
 | none=>exact c9n _
 | some k=>exact b9K n k
theorem b9M {α:Type}{l:List α}{lo hi:Option Int}(h:(cut l lo hi).length=l.length):cut l lo hi=l:=by
 have h1:List.Sublist (cut l lo hi) l:=(List.take_sublist ..).trans (List.drop_sublist ..)
 exact h1.eq_of_length h
theorem b3I (x:Str)(lo hi:Option Int):Txt.slice x lo hi=⟨(cut x.cps.toList lo hi).toArray⟩:=by
 have e:=a3T x.cps.toList lo hi
 have e':((Builtin.Str.strSliceIndices lo hi 1 x.length).filterMap (x.cps[·]?))=cut x.cps.toList lo hi:=by
  rw [a3U,← e,show (fun i=>x.cps.toList[i]?)=(fun i=>x.cps[i]?) from funext fun i=>Array.getElem?_toList ..]
  rfl
 unfold Txt.slice
 split
 ·rename_i h
  have hl:(cut x.cps.toList lo hi).length=x.cps.toList.length:=by
   rw [a3U,sliceRange_one,d0a,d0b] at h
   refine a0a h (clear% h;fun _ h=>?_)
   have h:c2t x.cps.toList.length hi - b9D x.cps.toList.length lo=x.cps.toList.length:=c9K h
   refine Nat.le_antisymm (a7P _ lo hi) ?_
   have hb:=Nat.sub_le_sub_right (b9L x.cps.toList.length hi) (b9D x.cps.toList.length lo)
   unfold cut
   rw [List.length_take,List.length_drop]
   exact Nat.le_min.mpr ⟨d0c h.symm,c9v (d0c h.symm) hb⟩
  rw [b9M hl]
 ·rw [e']
theorem RepL.drop {C:RC}{B:Addr→Prop}{h:Heap}{n:Nat}{vs:List Value}{ds:List D}(i:Nat)(r:RepL C B h n vs ds):RepL C B h n (vs.drop i) (ds.drop i):=by
 induction i generalizing vs ds with
 | zero=>exact r
 | succ i ih=>
  cases ds with
  | nil=>cases r.view;exact .nil
  | cons d ds=>obtain⟨v,q,rfl,_,r⟩:=r.view;exact ih r
theorem RepL.take {C:RC}{B:Addr→Prop}{h:Heap}{n:Nat}{vs:List Value}{ds:List D}(i:Nat)(r:RepL C B h n vs ds):RepL C B h n (vs.take i) (ds.take i):=by
 induction i generalizing vs ds with
 | zero=>exact .nil
 | succ i ih=>
  cases ds with
  | nil=>cases r.view;exact .nil
  | cons d ds=>obtain⟨v,q,rfl,a,r⟩:=r.view;exact .cons a (ih r)
theorem RepL.cut {C:RC}{B:Addr→Prop}{h:Heap}{n:Nat}{vs:List Value}{ds:List D}(r:RepL C B h n vs ds)(lo hi:Option Int):RepL C B h n (Mine.cut vs lo hi) (Mine.cut ds lo hi):=by
 unfold Mine.cut
 rw [r.length]
 exact (r.drop _).take _
theorem b3J {v:Value}{lo:Option Int}(h:IsPart v lo):∃ l:Option (Int×Tok),v=partValue l∧lo=l.map (·.1):=by
 cases h with
 | none=>exact⟨none,rfl,rfl⟩
 | int i t=>exact⟨some (i,t),rfl,rfl⟩
theorem b2v (b:Array UInt8)(lo hi:Option Int):KBy.picked b lo hi=(cut b.toList lo hi).toArray:=by
 rw [KBc.picked_eq]
 cases lo <;> cases hi <;> rfl
noncomputable def b1j (s:Shared)(vl vu:Value):Shared:={ s with heap:=s.heap.push { cls:=.type "slice",data:=.fields #[vl,vu,.none] } }
noncomputable def b0c (G:GC)(Γ:Ctx)(σ:Store)(oa:Nat→Addr)(value slice:Expr)(vl vu:Value)(s:Shared)(d:D)(v:Value):Prop:=
 ∀ (Q E:Value→Shared→Prop),(∀ v s',Kf s s'→RD G Γ σ oa s' v d→Q v s')→wpAny (model G.prog G.w) Γ.A (subscriptTail value slice v (.ref s.heap.objs.size)) Q E (b1j s vl vu)
section
variable {value slice:Expr}{vl vu:Value}{lo hi:Option Int}(pl:IsPart vl lo)(pu:IsPart vu hi)
include pl pu
theorem b2w (S:St G Γ lvl sc σ oa s){l:Addr}{vs:List Value}{ds:List D}(hl:s.heap.IsList l vs.toArray)(rl:RL G Γ σ oa s vs ds)(hc:a0M ds.length=true):b0c G Γ σ oa value slice vl vu s (.list (cut ds lo hi)) (.ref l):=by
 intro Q E hQ
 refine a7N ⟨"list",_,Heap.IsList.typeIs (s:=b1j s vl vu) (hl.push _),slot_list_getitem.lookup⟩ (wpAny_getItem_list_slice (hl.push _) (Heap.IsSliceOf.new ..) pl pu .none (fun e=>nomatch e) ?_ (by rw [c9I,rl.length];exact a0z hc))
 have S':=S.kf (s':=b1j s vl vu) (Kf.push (c9n _))
 rw [a7O]
 exact hQ _ _ ((Kf.push (tk:=s.toks) (c9n _)).trans (Kf.push (s:=b1j s vl vu) (c9n _))) (S'.newList ((rl.cut lo hi).keep (c9n _) fun b o _ e=>c9w _ e) (c9n _))
theorem b3K {x:Str}{t:Tok}(hc:a0M x.length=true):b0c G Γ σ oa value slice vl vu s (.str ⟨(cut x.cps.toList lo hi).toArray⟩) (.str x t):=by
 intro Q E hQ
 refine (b3J pl).elim fun l Z1=>Z1.elim (fun Z2 Z3=>?_)
 subst Z2
 subst Z3
 refine (b3J pu).elim fun u Z1=>Z1.elim (fun Z2 Z3=>?_)
 subst Z2
 subst Z3
 refine c9F (n:=s.toks) (c9n _) (a7N ⟨"str",_,typeIs_str _ _ _,F.slot_str_getitem.lookup⟩ (wpAny_getItem_str_slice (l:=l) (u:=u) (st:=none) ⟨_,c9H _ rfl,rfl,rfl⟩ rfl
  (post_val_or_str ⟨c9v (Txt.slice_le x _ _) (a0z hc),fun t' k ht=>hQ _ _ (Kf.push ht) ?_⟩)))
 have e:(if ((Option.map (fun x=>x.fst) (none:Option (Int×Tok))).getD 1==1&&(slicePicked x l u none).length==x.length)=true then x else ⟨((slicePicked x l u none).filterMap (x.cps[·]?)).toArray⟩)=(⟨(cut x.cps.toList (l.map (·.1)) (u.map (·.1))).toArray⟩:Str):=b3I x _ _
 rw [e]
 exact .str _ _ _ nofun
theorem b0d {b:Array UInt8}{t:Tok}(hc:a0M b.size=true):b0c G Γ σ oa value slice vl vu s (.bytes (cut b.toList lo hi).toArray) (.bytes b t):=by
 intro Q E hQ
 rw [← b2v] at hQ
 exact c9F (n:=s.toks) (c9n _) (a7N ⟨"bytes",_,typeIs_bytes _ _ _,FB.slot_bytes_getitem.lookup⟩ (getItem_meets (typeIs_bytes _ _ _) (by decide) FB.slot_bytes_getitem FB.entry_bytes_getitem (FB.args_bytes_getitem_2 _ _) (KBc.meets_slice2 b t _ pl pu)
  ⟨Heap.IsSliceOf.new _ _ _ _,c9v (KBc.size_picked_le b lo hi) (a0z hc),fun t' k ht=>hQ _ _ (Kf.push ht) (.bytes _ _)⟩))
theorem b6H (S:St G Γ lvl sc σ oa s)(ha:RT G Γ σ oa s va a)(h:a3l a lo hi=some d):b0c G Γ σ oa value slice vl vu s d va:=by
 rcases a0L h with h | h
 ·refine a0j h (clear% h;fun l hl h=>?_)
  refine a0J h (clear% h;fun hc h=>?_)
  exact h ▸ ha.listP (P:=b0c G Γ σ oa value slice vl vu s _) hl fun x vs h1 r1=>b2w pl pu S h1 r1 hc
 rcases a0L h with h | h
 ·refine a0j h (clear% h;fun l hl h=>?_)
  refine a0J h (clear% h;fun hc h=>?_)
  exact h ▸ ha.strP (P:=b0c G Γ σ oa value slice vl vu s _) hl fun t=>b3K pl pu hc
 ·refine a0j h (clear% h;fun l hl h=>?_)
  refine a0J h (clear% h;fun hc h=>?_)
  exact h ▸ ha.bytesP (P:=b0c G Γ σ oa value slice vl vu s _) hl fun t=>b0d pl pu hc
end
end
end
section
section
variable {G:GC}{Γ:Ctx}{lvl:Nat}{sc:a0g}{σ:Store}{oa:Nat→Addr}{s s':Shared}{va vb vc v:Value}{a b c d:D}
theorem a7Q {vs:List Value}{p:List Str}(h:StrsAre vs p):∃ l,vs=strValues l∧l.map (·.1)=p:=by
 induction h with
 | nil=>exact⟨[],rfl,rfl⟩
 | cons y t _ ih=>obtain⟨l,rfl,rfl⟩:=ih;exact⟨(y,t) :: l,rfl,rfl⟩
theorem c2R {C:RC}{B:Addr→Prop}{h:Heap}{n:Nat}(l:List (Str×Tok)):RepL C B h n (strValues l) (l.map fun p=>.str p.1):=by
 induction l with
 | nil=>exact .nil
 | cons p l ih=>exact .cons (.str _ _ _ nofun) ih
theorem b3L {C:RC}{B:Addr→Prop}{h:Heap}{n:Nat}{vs:List Value}{ns:List Int}(I:IntsAre vs ns):RepL C B h n vs (ns.map .int):=by
 induction I with
 | nil=>exact .nil
 | cons k t _ ih=>exact .cons (.int _ _) ih
theorem c2S (ha:RT G Γ σ oa s va a){n:Nat}(h:c2F a=some n)(hn:a0M n=true):Does G Γ σ oa (call (.builtin "len") [va]) s (.int n):=by
 have hz:∀ {m:Nat},m=n→(m:Int)<2 ^ 63:=fun e=>e ▸ a4t hn
 rcases a0L h with h | h
 ·refine a2p h (clear% h;fun l hl h=>?_)
  refine ha.listP (P:=fun v=>Does G Γ σ oa (call (.builtin "len") [v]) s _) hl fun x vs h1 r1=>.int fun Q E hQ=>?_
  have e:vs.toArray.size=n:=r1.length.trans h
  exact PyProof.Rows.len_list h1 (hz e) fun ht=>e ▸ hQ _ _ ht
 rcases a0L h with h | h
 ·refine a2p h (clear% h;fun l hl h=>?_)
  refine ha.tupP (P:=fun v=>Does G Γ σ oa (call (.builtin "len") [v]) s _) hl fun x vs h1 r1=>.int fun Q E hQ=>?_
  have e:vs.toArray.size=n:=r1.length.trans h
  exact PyProof.Rows.len_tuple h1 (hz e) fun ht=>e ▸ hQ _ _ ht
 rcases a0L h with h | h
 ·refine a2p h (clear% h;fun l hl h=>?_)
  exact ha.strP (P:=fun v=>Does G Γ σ oa (call (.builtin "len") [v]) s _) hl fun t=>.int fun Q E hQ=>P.len_str (Int.not_le.mpr (hz h)) fun ht=>h ▸ hQ _ _ ht
 ·refine a2p h (clear% h;fun l hl h=>?_)
  exact ha.bytesP (P:=fun v=>Does G Γ σ oa (call (.builtin "len") [v]) s _) hl fun t=>.int fun Q E hQ=>PySem.W.len_bytes (h ▸ c9v (a1K hn) (by decide)) fun ht=>h ▸ hQ _ _ ht
theorem c6j {C:RC}{B:Addr→Prop}{h:Heap}{n:Nat}{c:Prop}[Decidable c]{x y:Int}{t u:Tok}:Rep C B h n (if c then .int x t else .int y u) (.int (if c then x else y)):=by
 by_cases q:c
 ·rw [c9r q,c9r q];exact .int _ _
 ·rw [c9t q,c9t q];exact .int _ _
theorem b0e (k:Int)(ns:List Int)(n:Nat):preSum (fun i=>(k :: ns).getD i 0) (n+1)=k+preSum (fun i=>ns.getD i 0) n:=by
 induction n with
 | zero=>exact Int.add_comm 0 k
 | succ n ih=>exact (c9o (·+ns.getD n 0) ih).trans (Int.add_assoc ..)
theorem b0f (ns:List Int):preSum (fun i=>ns.getD i 0) ns.length=ns.sum:=by
 induction ns with
 | nil=>rfl
 | cons k ns ih=>rw [d0d,b0e,ih,d0e]
theorem a8N (val:Nat→Int)(m B:Nat)(h:∀ i,i<m→(val i).natAbs<B):(preSum val m).natAbs≤m*B:=by
 induction m with
 | zero=>exact d0f _
 | succ m ih=>
  rw [Nat.succ_mul]
  exact c9v (Int.natAbs_add_le ..) (Nat.add_le_add (ih fun i hi=>h i (Nat.lt_succ_of_lt hi)) (Nat.le_of_lt (h m (c9X _))))
theorem b6I {p:List Int}{i:Nat}(h:i<p.length):p.getD i 0∈p:=by
 rw [c9S,c9T h]
 exact List.getElem_mem h
theorem a8O {x:Int}(h:x.natAbs≤1000*2 ^ 40):InLong x:=by
 unfold InLong
 lia
theorem c2T (S:St G Γ lvl sc σ oa s){l:List D}(ha:RT G Γ σ oa s va a)(hl:a.asList=some l){p:List Int}(h:l.mapM D.asInt=some p)
  (hb:(decide (p.length≤1000)&&p.all (fun i=>decide (i.natAbs<2 ^ 40)))=true):Does G Γ σ oa (call (.builtin "sum") [va]) s (.int p.sum):=by
 refine ha.listP (P:=fun v=>Does G Γ σ oa (call (.builtin "sum") [v]) s _) hl fun x vs hl rl=>.of fun Q E hQ=>?_
 have I:=a5V rl h
 have hlen:vs.toArray.size=p.length:=I.length
 refine a0a hb (clear% hb;fun h1 h2=>?_)
 have h1:=c9E h1
 refine call_sum_walk (wpAny_pyIter_list hl ?_)
 have hlt:x<s.heap.objs.size:=hl.elim fun o q=>c9G q.1
 have bnd:∀ i,i<p.length→(p.getD i 0).natAbs<2 ^ 40:=fun i hi=>c9E (c9Q.mp h2 _ (b6I hi))
 refine⟨_,[_,x],[_],_,_,_,fun i=>p.getD i 0,rfl,Walks.list (A:=Γ.A.in1) S.aok.1 s.heap.objs.size x (d0g hlt) vs.toArray,⟨⟨_,c9H _ rfl,rfl,rfl⟩,hl.push _⟩,fun c hc=>?_,fun i v e=>?_,fun j hj=>?_,fun h' tk t' k ht=>?_⟩
 ·rw [d0h]
  rcases c9U.mp hc with q | hc
  ·rw [q];exact c9X _
  ·rw [d0i.mp hc];exact Nat.lt_succ_of_lt hlt
 ·rw [c9W] at e
  refine (d0j.mp e).elim fun hi e=>?_
  exact e ▸ a7L I i hi
 ·have hj:j<p.length:=hlen ▸ hj
  have a1:=Nat.le_of_lt (bnd j hj)
  have a2:=a8N (fun i=>p.getD i 0) (j+1) (2 ^ 40) fun i hi=>bnd i (c9m hi hj)
  exact⟨a8O (c9v a1 (by decide)),a8O (c9v a2 (Nat.mul_le_mul_right _ (c9v hj h1)))⟩
 ·rw [hlen,b0f]
  refine hQ _ _ (Kf.mk' (fun b o eb=>k b o (fun q=>?_) (c9w _ eb)) ht) (.int _ _)
  rw [d0i.mp q] at eb
  exact Nat.lt_irrefl _ (c9G eb)
theorem b2x (S:St G Γ lvl sc σ oa s){l:List D}(ha:RT G Γ σ oa s va a)(hl:a.asList=some l){p:List Int}(h:l.mapM D.asInt=some p)
  (hb:(p.all (fun i=>decide (0≤i∧i<256))&&a0M p.length)=true):Does G Γ σ oa (call (.type "bytes") [va]) s (.bytes (byteArr p)):=by
 refine ha.listP (P:=fun v=>Does G Γ σ oa (call (.type "bytes") [v]) s _) hl fun x vs hl rl=>.of fun Q E hQ=>?_
 have I:=a5V rl h
 refine a0a hb (clear% hb;fun h1 h2=>?_)
 exact call_bytes_ints hl I (fun i hi=>c9E (c9Q.mp h1 i hi)) (by rw [I.length];exact a0z h2) S.aok.1 fun h' t k kk ht=>hQ _ _ (Kf.mk' kk ht) (.bytes _ _)
theorem b2y {x y z:Str}{t u w:Tok}(hu:u≠0)(hv:w≠0)(huv:u≠w)(hyz:(y != z)=true)(hb:a0M (x.length+(x.length+1)*z.length)=true) :
  Does G Γ σ oa (call (.builtin "str.replace") [.str x t,.str y u,.str z w]) s (.str (Txt.replace x y z)):=
 .str fun Q E hQ=>SC.replace hu hv huv (a1L hyz) (a1K hb) fun t' k ht=>hQ _ _ ht
theorem b9N {x:Str}{l:List D}(ha:RT G Γ σ oa s va a)(hb:RT G Γ σ oa s vb b)(hx:a.asStr=some x)(hl:b.asList=some l){p:List Str}(h:l.mapM D.asStr=some p)(hj:JoinOk x p=true) :
  Does G Γ σ oa (call (.builtin "str.join") [va,vb]) s (.str (Txt.join x p)):=
 ha.strP (P:=fun v=>Does G Γ σ oa (call (.builtin "str.join") [v,vb]) s _) hx fun t=>hb.listP (P:=fun w=>Does G Γ σ oa (call (.builtin "str.join") [_,w]) s _) hl fun y vs hl rl=>.str fun Q E hQ=>
  (a7Q (b0b rl h)).elim fun l' e=>SC.join (e.1 ▸ hl) e.2 hj fun t' k ht=>hQ _ _ ht
theorem b2z {x:Str}(ha:RT G Γ σ oa s va a)(hx:a.asStr=some x):Says G Γ.A (call (.builtin "str.isascii") [va]) s (Txt.isascii x):=
 ha.strP (P:=fun v=>Says G Γ.A (call (.builtin "str.isascii") [v]) s _) hx fun t Q E hQ=>SC.isascii (hQ _ Kf.refl)
end
end
section
inductive Tg where
 | const | name | bin | un | ite | bop | list | tup | cmp | sub | slc | comp | gen | call | attr | fstr | fv | lam | star | set | dict | oth
 deriving DecidableEq
structure V where
 tag:Tg
 pos:Pos
 a:Expr
 b:Expr
 c:Expr
 es:List Expr:=[]
 n:Nat:=0
 id:Str:=Str.empty
 k:Const:=.none
 op:Operator:=.Add
 uo:UnaryOp:=.Not
 bo:BoolOp:=.And
 cs:List CmpOp:=[]
 lo:Option Expr:=none
 hi:Option Expr:=none
 st:Option Expr:=none
 os:List (Option Expr):=[]
 gs:List Comprehension:=[]
 ks:List Keyword:=[]
 ps:Arguments:=default
 sc:Scope:=default
 i:Int:=0
noncomputable def vw (e:Expr):V:=match e with
 | .Constant c n p=>{ tag:=.const,pos:=p,a:=e,b:=e,c:=e,k:=c,n:=n }
 | .Name x p=>{ tag:=.name,pos:=p,a:=e,b:=e,c:=e,id:=x }
 | .BinOp l o r p=>{ tag:=.bin,pos:=p,a:=l,b:=r,c:=e,op:=o }
 | .UnaryOp o x p=>{ tag:=.un,pos:=p,a:=x,b:=e,c:=e,uo:=o }
 | .IfExp t x y p=>{ tag:=.ite,pos:=p,a:=t,b:=x,c:=y }
 | .BoolOp o es p=>{ tag:=.bop,pos:=p,a:=e,b:=e,c:=e,bo:=o,es:=es }
 | .List es p=>{ tag:=.list,pos:=p,a:=e,b:=e,c:=e,es:=es }
 | .Tuple es n p=>{ tag:=.tup,pos:=p,a:=e,b:=e,c:=e,es:=es,n:=n }
 | .Compare l os es p=>{ tag:=.cmp,pos:=p,a:=l,b:=e,c:=e,es:=es,cs:=os }
 | .Subscript v s p=>{ tag:=.sub,pos:=p,a:=v,b:=s,c:=e }
 | .Slice l u st p=>{ tag:=.slc,pos:=p,a:=e,b:=e,c:=e,lo:=l,hi:=u,st:=st }
 | .ListComp x gs sc p=>{ tag:=.comp,pos:=p,a:=x,b:=e,c:=e,gs:=gs,sc:=sc }
 | .GeneratorExp x gs sc p=>{ tag:=.gen,pos:=p,a:=x,b:=e,c:=e,gs:=gs,sc:=sc }
 | .Call f es ks p=>{ tag:=.call,pos:=p,a:=f,b:=e,c:=e,es:=es,ks:=ks }
 | .Attribute o m p=>{ tag:=.attr,pos:=p,a:=o,b:=e,c:=e,id:=m }
 | .JoinedStr es p=>{ tag:=.fstr,pos:=p,a:=e,b:=e,c:=e,es:=es }
 | .FormattedValue x i s p=>{ tag:=.fv,pos:=p,a:=x,b:=e,c:=e,i:=i,st:=s }
 | .Lambda ps x sc p=>{ tag:=.lam,pos:=p,a:=x,b:=e,c:=e,ps:=ps,sc:=sc }
 | .Starred x p=>{ tag:=.star,pos:=p,a:=x,b:=e,c:=e }
 | .Dict ks es p=>{ tag:=.dict,pos:=p,a:=e,b:=e,c:=e,os:=ks,es:=es }
 | .Set es n p=>{ tag:=.set,pos:=p,a:=e,b:=e,c:=e,es:=es }
 | e=>{ tag:=.oth,pos:=default,a:=e,b:=e,c:=e }
noncomputable def Is (e:Expr)(v:V):Tg→Prop
 | .const=>e=.Constant v.k v.n v.pos
 | .name=>e=.Name v.id v.pos
 | .bin=>e=.BinOp v.a v.op v.b v.pos
 | .un=>e=.UnaryOp v.uo v.a v.pos
 | .ite=>e=.IfExp v.a v.b v.c v.pos
 | .bop=>e=.BoolOp v.bo v.es v.pos
 | .list=>e=.List v.es v.pos
 | .tup=>e=.Tuple v.es v.n v.pos
 | .cmp=>e=.Compare v.a v.cs v.es v.pos
 | .sub=>e=.Subscript v.a v.b v.pos
 | .slc=>e=.Slice v.lo v.hi v.st v.pos
 | .comp=>e=.ListComp v.a v.gs v.sc v.pos
 | .gen=>e=.GeneratorExp v.a v.gs v.sc v.pos
 | .call=>e=.Call v.a v.es v.ks v.pos
 | .attr=>e=.Attribute v.a v.id v.pos
 | .fstr=>e=.JoinedStr v.es v.pos
 | .fv=>e=.FormattedValue v.a v.i v.st v.pos
 | .lam=>e=.Lambda v.ps v.a v.sc v.pos
 | .dict=>e=.Dict v.os v.es v.pos
 | .star=>True
 | .set=>True
 | .oth=>True
theorem isV (e:Expr):Is e (vw e) (vw e).tag:=by
 cases e with
 | _=>first | exact rfl | exact trivial
noncomputable def isT (e:Expr)(t:Tg):Bool:=decide ((vw e).tag=t)
theorem a0w {e:Expr}{t:Tg}(h:isT e t=true):Is e (vw e) t:=c9E h ▸ isV e
noncomputable def a0B (e:Expr):Bool:=!(isT e .star)
noncomputable def a4w (e:Expr):Bool:=!(isT e .set)
noncomputable def isN (nm:Nat→Str)(x:Nat)(e:Expr):Bool:=isT e .name&&((vw e).id==nm x)
theorem a1a {nm:Nat→Str}{x:Nat}{e:Expr}(h:isN nm x e=true):e=.Name (nm x) (vw e).pos:=(a0w (a0h h).1).trans (c9o (Expr.Name · _) (c9K (a0h h).2))
theorem c2x {e:Expr}(h:a0B e=true)(x:Expr)(p:Pos):e≠.Starred x p:=fun q=>by
 rw [q] at h
 exact c9p h
end
section
structure Af (G:GC)(s s':Shared):Prop where
 kp:Kp G s s'
 gst:GSt G s'
structure Res (G:GC)(Γ:Ctx)(σ:Store)(oa:Nat→Addr)(st:Bool)(s:Shared)(d:D)(v:Value)(s':Shared):Prop where
 af:Af G s s'
 rep:RT G Γ σ oa s' v d
 deep:st=true→RD G Γ σ oa s' v d
noncomputable def Ev (G:GC)(Γ:Ctx)(σ:Store)(oa:Nat→Addr)(st:Bool)(m:Sem Value)(s:Shared)(d:D):Prop:=
 ∀ (Q E:Value→Shared→Prop),(∀ v s',Res G Γ σ oa st s d v s'→Q v s')→wpAny (model G.prog G.w) Γ.A m Q E s
noncomputable def Tr (G:GC)(A:Around)(m:Sem Bool)(s:Shared)(b:Bool):Prop:=
 ∀ (Q:Bool→Shared→Prop) (E:Value→Shared→Prop),(∀ s',Af G s s'→Q b s')→wpAny (model G.prog G.w) A m Q E s
section
variable {G:GC}{Γ:Ctx}{lvl:Nat}{sc:a0g}{σ:Store}{oa:Nat→Addr}{s s₁ s':Shared}{m:Sem Value}{v:Value}{d:D}{st:Bool}{E Q:Value→Shared→Prop}
theorem Af.refl (g:GSt G s):Af G s s:=⟨.refl,g⟩
theorem Af.trans (a:Af G s s₁)(b:Af G s₁ s'):Af G s s':=⟨a.kp.trans b.kp,b.gst⟩
theorem Af.kf (a:Af G s s₁)(k:Kf s₁ s'):Af G s s':=⟨a.kp.kf k,k.gst a.gst⟩
theorem St.af (S:St G Γ lvl sc σ oa s)(a:Af G s s'):St G Γ lvl sc σ oa s':=S.kp a.kp a.gst
theorem St.afR (S:St G Γ lvl sc σ oa s):Af G s s:=.refl S.gst
theorem Res.of (a:Af G s s')(r:RD G Γ σ oa s' v d):Res G Γ σ oa st s d v s':=⟨a,.deep r,fun _=>r⟩
theorem Does.then (h:Does G Γ σ oa m s₁ d)(a:Af G s s₁)(hQ:∀ v s',Res G Γ σ oa st s d v s'→Q v s'):wpAny (model G.prog G.w) Γ.A m Q E s₁:=h Q E fun v s' k r=>hQ v s' (.of (a.kf k) r)
theorem Says.then {b:Bool}(h:Says G Γ.A m s₁ b)(a:Af G s s₁)(hQ:∀ v s',Res G Γ σ oa st s (.bool b) v s'→Q v s'):wpAny (model G.prog G.w) Γ.A m Q E s₁:=h Q E fun s' k=>hQ _ s' (.of (a.kf k) (.bool b))
noncomputable def b6J (G:GC)(x:Str)(v:Value):Prop:=G.mg x=some v∨(G.mg x=none∧G.mb x=some v)
theorem GSt.gns (g:GSt G s):s.heap.Ns mainGlobals G.mg:=G.gns.keeps g.base
theorem GSt.bns (g:GSt G s):s.heap.Ns builtinsNs G.mb:=G.bns.keeps g.base
theorem GSt.lim (g:GSt G s):s.heap.NoLimit:=G.lim.keeps g.base
theorem St.glob (S:St G Γ lvl sc σ oa s){x:Str}(hx:sc.lookup x=some .globalImplicit)(hv:b6J G x v)(h:Q v s):wpAny (model G.prog G.w) Γ.A (loadName Γ.env x) Q E s:=by
 rw [loadName_read S.kind (S.kindOf hx)]
 have hg:s.heap.Ns Γ.env.globals G.mg:=S.globals ▸ S.gst.gns
 rcases hv with hv | ⟨hm,hv⟩
 ·exact loadGlobal_global hg hv h
 ·exact loadGlobal_builtin hg hm (S.builtins ▸ S.gst.bns) hv h
theorem AOk.mono {n m:Nat}{A:Around}(h:AOk n A)(hm:m≤n):AOk m A:=
 ⟨h.1,c9D (d0l (d0m hm _) _) h.2.1,c9D (d0l (d0m (Nat.mul_le_mul_left 8 hm) _) _) h.2.2⟩
theorem AOk.deeper {n:Nat}{A:Around}{env:Env}(h:AOk (n+1) A):AOk n (A.deeper env):=by
 refine h.elim (clear% h;fun h1 Z1=>Z1.elim (fun h2 h3=>?_))
 refine⟨h1,?_,?_⟩
 ·show A.depth+1+n+20<_
  rw [Nat.add_right_comm A.depth 1 n]
  exact h2
 ·show A.units+3+8*n+200<_
  rw [Nat.add_assoc A.units]
  exact c9D (d0l (d0m (c9v (d0c (Nat.add_comm 3 _)) (d0m (by decide:3≤8) _)) _) _) h3
noncomputable def b6K (C:RC)(B:Addr→Prop)(h:Heap)(n:Nat)(kws:List (Str×Value)):Option D→Prop
 | none=>kws=[]
 | some d=>∃ v,kws=[(("strict_mode":Str),v)]∧Rep C B h n v d
noncomputable def Calls (G:GC)(lvl:Nat)(a:Addr)(args:List D)(kw:Option D)(d:D):Prop:=
 ∀ (A:Around) (B:Addr→Prop) (st:Addr) (s:Shared) (vs:List Value) (kws:List (Str×Value)) (Q:Value→Shared→Prop) (E:Value→Shared→Prop),
  AOk lvl A→GSt G s→(∀ t∈G.T,B t)→(∀ a,B a→∃ o,s.heap.get? a=some o)→RepL ⟨G.prog,G.w,st⟩ B s.heap s.toks vs args→b6K ⟨G.prog,G.w,st⟩ B s.heap s.toks kws kw →
  (∀ v s',Af G s s'→Rep ⟨G.prog,G.w,st⟩ B s'.heap s'.toks v d→Q v s')→wpAny (model G.prog G.w) A (call (.ref a) vs kws) Q E s
noncomputable def c2y (G:GC)(lvl:Nat)(f:Nat)(args:List D)(kw:Option D)(d:D):Prop:=
 ∃ (a:Addr) (o:Obj) (fd:FuncData),G.mg (G.nm f)=some (.ref a)∧G.g.get? a=some o∧o.data=.func fd∧Calls G lvl a args kw d
theorem a0k {e:Expr}{rest:List Expr}{env:Env}(h:a0B e=true):starEach (e :: rest) env=(false,eval e env) :: starEach rest env:=by
 cases e with
 | Starred=>exact absurd h c9p
 | _=>rfl
noncomputable def b8X (G:GC)(Γ:Ctx)(σ:Store)(oa:Nat→Addr)(es:List Expr)(ds:List D)(s:Shared):Prop:=
 ∀ (pos:Pos) (Q:List Value→Shared→Prop) (E:Value→Shared→Prop),(∀ vs s',Af G s s'→RL G Γ σ oa s' vs ds→Q vs s')→wpAny (model G.prog G.w) Γ.A (spliced (backTo pos (starEach es Γ.env))) Q E s
theorem a7R {f:Value}{es:List Expr}{keywords:List (Option Str×Sem Value)}{env:Env}{pos:Pos}{A:Around}{Q:Args→Shared→Prop}(hs:es.all a0B=true)(hall:keywords.all (·.1.isSome)=true)
  (h:wpAny (model G.prog G.w) A (spliced (backTo pos (starEach es env))) (fun vs s₁=>wpAny (model G.prog G.w) A (evalAll (keywords.map (·.2))) (fun ks s₂=>Q ⟨vs,(keywords.filterMap (·.1)).zip ks⟩ s₂) E s₁) E s) :
  wpAny (model G.prog G.w) A (evalArgs f true (backTo pos (starEach es env)) keywords) Q E s:=by
 cases es with
 | nil=>
  show wpAny (model G.prog G.w) A (evalArgs f true [] keywords) Q E s
  unfold evalArgs
  show wpAny (model G.prog G.w) A (spliced [] >>= _) Q E s
  refine c9L (d0n h (fun vs s₁ h₁=>?_) fun _ _ x=>x)
  refine c9L (c9M ?_)
  refine c9J ?_
  rw [c9r hall]
  refine c9L (d0n h₁ (fun ks s₂ h₂=>?_) fun _ _ x=>x)
  exact c9L (c9M (c9M h₂))
 | cons e r=>
  rw [a0k (a0h hs).1] at h ⊢
  exact evalArgs_kw hall h
theorem a1g {f:Value}{es:List Expr}{env:Env}{pos:Pos}{A:Around}{Q:Args→Shared→Prop}(hs:es.all a0B=true)
  (h:wpAny (model G.prog G.w) A (spliced (backTo pos (starEach es env))) (fun vs s₁=>Q ⟨vs,[]⟩ s₁) E s):wpAny (model G.prog G.w) A (evalArgs f true (backTo pos (starEach es env)) []) Q E s:=
 a7R hs rfl (d0n h (fun vs s₁ h₁=>wpAny_evalAll_nil h₁) fun _ _ e=>e)
theorem a0R {es:List Expr}{env:Env}{pos:Pos}(hs:es.all a0B=true):(backTo pos (starEach es env)).any (·.1)=false:=by
 induction es with
 | nil=>rfl
 | cons e r ih=>
  rw [a0k (a0h hs).1]
  exact ih (a0h hs).2
theorem a5q (S:St G Γ lvl sc σ oa s){f:Str}{id:String}{p pos:Pos}{es:List Expr}(hf:sc.lookup f=some .globalImplicit)(hg:b6J G f (.builtin id))(hd:(f==("__debug__":Str))=false)(hs:es.all a0B=true)
  (h:wpAny (model G.prog G.w) Γ.A (spliced (backTo pos (starEach es Γ.env))) (fun vs s₁=>wpAny (model G.prog G.w) Γ.A (call (.builtin id) vs) Q E s₁) E s) :
  wpAny (model G.prog G.w) Γ.A (eval (.Call (.Name f p) es [] pos) Γ.env) Q E s:=
 wpAny_Call_Name_kw (d0o (S.glob hf hg (callWith_builtin (a0R hs) (a1g hs h))) hd)
theorem a2M (S:St G Γ lvl sc σ oa s){f:Str}{T:String}{p pos:Pos}{es:List Expr}(hf:sc.lookup f=some .globalImplicit)(hg:b6J G f (.type T))(hd:(f==("__debug__":Str))=false)(hs:es.all a0B=true)
  (h:wpAny (model G.prog G.w) Γ.A (spliced (backTo pos (starEach es Γ.env))) (fun vs s₁=>wpAny (model G.prog G.w) Γ.A (call (.type T) vs) Q E s₁) E s) :
  wpAny (model G.prog G.w) Γ.A (eval (.Call (.Name f p) es [] pos) Γ.env) Q E s:=
 wpAny_Call_Name_kw (d0o (S.glob hf hg (PySem.callWith_type (a0R hs) (a1g hs h))) hd)
inductive KwOK (G:GC) (Γ:Ctx) (lvl:Nat) (sc:a0g) (σ:Store) (oa:Nat→Addr):Option D→List Keyword→Prop
 | no:KwOK G Γ lvl sc σ oa none []
 | yes (d:D) (e:Expr) (q:Pos) (h:∀ s,St G Γ lvl sc σ oa s→Ev G Γ σ oa true (eval e Γ.env) s d):KwOK G Γ lvl sc σ oa (some d) [⟨some ("strict_mode":Str),e,q⟩]
theorem Calls.run (S:St G Γ lvl sc σ oa s){a:Addr}{args:List D}{kw:Option D}(h:Calls G lvl a args kw d){vs:List Value}{kws:List (Str×Value)}(r:RL G Γ σ oa s vs args)(k:b6K (rc G Γ) (a0m Γ σ oa) s.heap s.toks kws kw)
  (hQ:∀ v s',Af G s s'→RD G Γ σ oa s' v d→Q v s'):wpAny (model G.prog G.w) Γ.A (call (.ref a) vs kws) Q E s:=
 h _ (a0m Γ σ oa) Γ.st _ _ _ _ _ S.aok S.gst (fun t ht=>.inl (S.badT t ht)) S.alloc r k hQ
theorem b6L (S:St G Γ lvl sc σ oa s){f:Nat}{args:List D}{kw:Option D}(F:c2y G lvl f args kw d){p pos:Pos}{es:List Expr}{kws:List Keyword}(hf:sc.lookup (G.nm f)=some .globalImplicit)(hd:(G.nm f==("__debug__":Str))=false)(hs:es.all a0B=true)
  (hk:KwOK G Γ lvl sc σ oa kw kws) (h:b8X G Γ σ oa es args s):Ev G Γ σ oa st (eval (.Call (.Name (G.nm f) p) es kws pos) Γ.env) s d:=by
 intro Q E hQ
 obtain⟨a,o,fd,hm,ho,hdata,hcall⟩:=F
 refine wpAny_Call_Name_kw (d0o (S.glob hf (.inl hm) ?_) hd)
 cases hk with
 | no=>
  exact callWith_function_kw (o:=o) (fd:=fd) (a7R hs rfl (h _ _ _ fun vs s₁ a₁ r=>wpAny_evalAll_nil ⟨⟨a₁.gst.base _ _ ho,hdata⟩,hcall.run (S.af a₁) r rfl fun v s' a' r'=>hQ v s' (.of (a₁.trans a') r')⟩))
 | yes dk e q he=>
  refine callWith_function_kw (o:=o) (fd:=fd) (a7R hs rfl (h _ _ _ fun vs s₁ a₁ r=>?_))
  have S₁:=S.af a₁
  show wpAny _ _ (evalAll [(do let v ← eval e Γ.env;standAt pos;pure v)]) _ _ s₁
  refine wpAny_evalAll_cons (c9L (he _ S₁ _ _ fun v s₂ R=>c9L (d0p (c9M (wpAny_evalAll_nil ⟨⟨R.af.gst.base _ _ ho,hdata⟩,?_⟩)))))
  exact hcall.run (S₁.af R.af) (r.kp S₁ R.af.kp) ⟨v,rfl,R.deep rfl⟩ fun v s' a' r'=>hQ v s' (.of ((a₁.trans R.af).trans a') r')
end
end
section
structure Wlk (prog:Program)(w:World)(A:Around)(I:Addr)(fp:List Addr)(n:Nat)(P:Nat→Nat→Value→Prop)(St:Nat→Heap→Prop):Prop where
 frame:∀ i h h',St i h→(∀ b∈fp,∀ o,h.get? b=some o→h'.get? b=some o)→St i h'
 item:∀ i (s:Shared) (Q:Option Value→Shared→Prop) (E:Value→Shared→Prop),i<n→1≤s.toks→St i s.heap →
  (∀ v h' tk,P i tk v→St (i+1) h'→(∀ b o,b≠I→s.heap.get? b=some o→h'.get? b=some o)→Q (some v) { s with heap:=h',toks:=tk })→wpAny (model prog w) A (pyNext (.ref I)) Q E s
 done:∀ (s:Shared) (Q:Option Value→Shared→Prop) (E:Value→Shared→Prop),St n s.heap →
  (∀ h' tk,(∀ b o,b≠I→s.heap.get? b=some o→h'.get? b=some o)→Q none { s with heap:=h',toks:=tk })→wpAny (model prog w) A (pyNext (.ref I)) Q E s
 self:∀ i (s:Shared) (Q:Value→Shared→Prop) (E:Value→Shared→Prop),St i s.heap→Q (.ref I) s→wpAny (model prog w) A (pyIter (.ref I)) Q E s
theorem lk {prog:Program}{w:World}{A:Around}{I:Addr}{fp:List Addr}{n:Nat}{P:Nat→Value→Prop}{St:Nat→Heap→Prop}(W:Walks prog w A I fp [I] n P St):Wlk prog w A I fp n (fun i _ v=>P i v) St:=
 ⟨W.frame,fun i s Q E hi _ st hQ=>W.item i s Q E hi st fun v h' tk p st k=>hQ v h' tk p st fun b o hb=>k b o fun q=>hb (d0i.mp q),fun s Q E st hQ=>W.done s Q E st fun h' tk k=>hQ h' tk fun b o hb=>k b o fun q=>hb (d0i.mp q),W.self⟩
theorem c6k {prog:Program}{w:World}{A:Around}(hh:A.handled=none)(I:Addr)(x:Str)(t:Tok) :
  Wlk prog w A I [I] x.cps.size (fun i tk v=>∃ c u,x.cps[i]?=some c∧v=.str ⟨#[c]⟩ u∧u≠0∧u<tk) (fun i h=>h.IsStrIter I "str_ascii_iterator" x t i):=
 { lk (Walks.strAscii hh I x t) with
  item:=fun i s Q E hi h1 st hQ=>wpAny_pyNext_ascii_item st (c:=x.cps[i]) (d0q hi) fun h' hit' hs'=>
   hQ _ h' (s.toks+1) ⟨_,_,d0q hi,rfl,Nat.ne_of_gt h1,c9X _⟩ hit' fun b o hb e=>hs'.extBut b o hb e }
noncomputable def odd:List String:=["enumerate","zip","dict_itemiterator","dict_reverseitemiterator","odict_iterator","itertools.zip_longest","itertools.pairwise"]
noncomputable def ItObj (o:Obj):Prop:=∃ T,o.cls=.type T∧odd.contains T=false∧T≠"code"
theorem ItObj.ok {o:Obj}(h:ItObj o):a7F o:=fun _ _=>h.elim fun T q=>⟨by rw [q.1];nofun,fun e=>q.2.2 (by rw [q.1] at e;injection e)⟩
structure Wk (G:GC)(Γ:Ctx)(σ:Store)(oa:Nat→Addr)(st:Bool)(ds:List D)(s₀ s:Shared)(I:Addr)(fp:List Addr)(P:Nat→Nat→Value→Prop)(Stt:Nat→Heap→Prop):Prop where
 walks:Wlk G.prog G.w Γ.A I fp ds.length P Stt
 start:Stt 0 s.heap
 old:∀ b∈fp,(∃ o,s.heap.get? b=some o)∧b ∉ G.T
 strict:st=true→∀ b∈fp,¬ a0m Γ σ oa b
 newI:s₀.heap.get? I=none∧¬ a0m Γ σ oa I
 frm:∀ b∈fp,¬ Γ.bad b
 fpI:I∈fp
 iter:∀ i h,Stt i h→∃ o,h.get? I=some o∧ItObj o
 rep:∀ i tk v d,s.toks≤tk→P i tk v→ds[i]?=some d→Rep (rc G Γ) (fun b=>a0m Γ σ oa b∨b=I) s.heap tk v d
section
variable {G:GC}{Γ:Ctx}{lvl:Nat}{sc:a0g}{σ:Store}{oa:Nat→Addr}{s s':Shared}{va vb vc v:Value}{a b c d:D}{E:Value→Shared→Prop}
theorem a5r {A:Around}{t:Expr}{I:Addr}{v:Value}{s:Shared}{Q:Unit→Shared→Prop}(hT:∃ o,s.heap.get? I=some o∧ItObj o)(h:Q () s):wpAny (model G.prog G.w) A (letOwnedTupleGo t (.ref I) v) Q E s:=by
 have core:∀ w:Value,wpAny (model G.prog G.w) A (letOwnedTupleGo (.Tuple [] 0 default) (.ref I) w) Q E s:=fun w=>by
  cases w with
  | ref a=>
   obtain⟨⟨cls,dd,data,sl⟩,ho,T,hc,hn,_⟩:=hT
   cases hc
   refine c9L (wpAny_load ho ?_)
   cases data with
   | fields vs=>
    show wpAny _ _ (if (odd.contains T&&_)=true then _ else pure ()) _ _ _
    rw [hn]
    exact c9M h
   | _=>exact c9M h
  | _=>exact c9M h
 cases t with
 | Tuple=>exact core v
 | List=>exact core v
 | _=>exact c9M h
theorem St.newT (S:St G Γ lvl sc σ oa s):s.heap.objs.size ∉ G.T:=fun q=>S.newNot (.inl (S.badT _ q))
theorem a7b {a:Addr}(k:Kp G s s')(hT:a ∉ G.T)(h:s'.heap.get? a=none):s.heap.get? a=none:=by
 cases e:s.heap.get? a with
 | none=>rfl
 | some o=>exact absurd rfl (a0f h (k.heap a o hT e))
theorem a8P (S:St G Γ lvl sc σ oa s){s₀:Shared}(k₀:Kp G s₀ s){st:Bool}{ds:List D}{oI:Obj}(hf:oI.isFreed=false){fp:List Addr}{P:Nat→Nat→Value→Prop}{Stt:Nat→Heap→Prop}{n:Nat}(hn:n=ds.length)
  (W:Wlk G.prog G.w Γ.A s.heap.objs.size (s.heap.objs.size :: fp) n P Stt) (h0:Stt 0 (s.heap.push oI)) (hit:∀ i h,Stt i h→∃ o,h.get? s.heap.objs.size=some o∧ItObj o)
  (old:∀ b∈fp,(∃ o,s.heap.get? b=some o∧Flat o)∧¬ Γ.bad b∧(st=true→¬ a0m Γ σ oa b)) (rep:∀ i tk v d,s.toks≤tk→P i tk v→ds[i]?=some d→Rep (rc G Γ) (a0m Γ σ oa) s.heap tk v d)
  {Q:Value→Shared→Prop} (hQ:∀ I fp P Stt s',Kf s s'→Wk G Γ σ oa st ds s₀ s' I fp P Stt→Q (.ref I) s'):Q (.ref s.heap.objs.size) { s with heap:=s.heap.push oI }:=by
 have kf:Kf s { s with heap:=s.heap.push oI }:=Kf.push (c9n _)
 have cons:∀ {p:Addr→Prop},p s.heap.objs.size→(∀ b∈fp,p b)→∀ b∈s.heap.objs.size :: fp,p b:=fun h1 h2 b hb=>(c9U.mp hb).elim (fun q=>q ▸ h1) (h2 b)
 exact hQ _ _ _ _ _ kf {
  walks:=hn ▸ W
  start:=h0
  old:=cons ⟨⟨oI,c9H _ hf⟩,S.newT⟩ fun b hb=>(old b hb).1.elim fun o q=>⟨⟨o,kf.heap _ _ q.1⟩,S.flatT q.1 q.2⟩
  strict:=fun e=>cons S.newNot fun b hb=>(old b hb).2.2 e
  newI:=⟨a7b k₀ S.newT b3A,S.newNot⟩
  frm:=cons (fun q=>S.newNot (.inl q)) fun b hb=>(old b hb).2.1
  fpI:=d0r
  iter:=hit
  rep:=fun i tk v d htk hP hd=>(rep i tk v d htk hP hd).chg ⟨c9n _,fun b o _=>kf.heap b o,fun b o hb e q=>q.elim hb (a0f b3A e)⟩ }
noncomputable def Iter (G:GC)(Γ:Ctx)(σ:Store)(oa:Nat→Addr)(st:Bool)(ds:List D)(s₀ s:Shared)(v:Value):Prop:=
 ∀ (Q E:Value→Shared→Prop),(∀ I fp P Stt s',Kf s s'→Wk G Γ σ oa st ds s₀ s' I fp P Stt→Q (.ref I) s')→wpAny (model G.prog G.w) Γ.A (pyIter v) Q E s
theorem b3M {o:Obj}(T:String)(hc:o.cls=.type T)(h:(!odd.contains T&&!(T=="code"))=true):ItObj o:=⟨T,hc,a1L (a0h h).1,fun q=>ne_of_beq_false (a1L (a0h h).2) q⟩
theorem b1k (S:St G Γ lvl sc σ oa s){st:Bool}{l:Addr}{vs:List Value}{ds:List D}(rl:RL G Γ σ oa s vs ds){i:Nat}{tk:Nat}{v:Value}{d:D}(htk:s.toks≤tk)(hP:vs.toArray[i]?=some v)(hd:ds[i]?=some d):Rep (rc G Γ) (a0m Γ σ oa) s.heap tk v d:=by
 refine (rl.get i d hd).elim fun v' Z1=>Z1.elim (fun hv r=>?_)
 rw [c9W,hv] at hP
 exact c9x hP ▸ r.keep htk fun _ _ _ e=>e
section
variable (S:St G Γ lvl sc σ oa s){st:Bool}{l:Addr}{vs:List Value}{ds:List D}(rl:RL G Γ σ oa s vs ds)(hnb:¬ Γ.bad l)(hst:st=true→¬ a0m Γ σ oa l)
include S rl hnb hst
theorem b3N (hl:s.heap.IsList l vs.toArray):Iter G Γ σ oa st ds s s (.ref l):=by
 intro Q E hQ
 have hlt:l<s.heap.objs.size:=hl.elim fun o q=>c9G q.1
 exact wpAny_pyIter_list hl (a8P S .refl (st:=st) rfl rl.length (lk (Walks.list (prog:=G.prog) (w:=G.w) (A:=Γ.A) S.aok.1 s.heap.objs.size l (d0g hlt) vs.toArray)) ⟨⟨_,c9H _ rfl,rfl,rfl⟩,hl.push _⟩
  (fun i h st=>st.1.elim fun o q=>⟨o,q.1,b3M "list_iterator" q.2.1 rfl⟩) (fun b hb=>d0i.mp hb ▸ ⟨hl.elim fun o q=>⟨o,q.1,q.2.2.elim fun n e=>a2f e nofun⟩,hnb,hst⟩) (fun i tk v d htk hP hd=>b1k S (st:=st) (l:=l) rl htk hP hd) hQ)
theorem b6M (hl:IsTup s.heap l vs.toArray):Iter G Γ σ oa st ds s s (.ref l):=by
 intro Q E hQ
 have hlt:l<s.heap.objs.size:=hl.elim fun o q=>c9G q.1
 exact wpAny_pyIter_tuple hl (a8P S .refl (st:=st) rfl rl.length (lk (Walks.tuple (prog:=G.prog) (w:=G.w) (A:=Γ.A) S.aok.1 s.heap.objs.size l (d0g hlt) vs.toArray)) ⟨⟨_,c9H _ rfl,rfl,rfl⟩,b1b hl fun o e=>c9w _ e⟩
  (fun i h st=>st.1.elim fun o q=>⟨o,q.1,b3M "tuple_iterator" q.2.1 rfl⟩) (fun b hb=>d0i.mp hb ▸ ⟨hl.elim fun o q=>⟨o,q.1,q.2.2.elim fun n e=>a2f e nofun⟩,hnb,hst⟩) (fun i tk v d htk hP hd=>b1k S (st:=st) (l:=l) rl htk hP hd) hQ)
end
theorem b9O {g:Bool}{x:Str}{i:Nat}{d:D}(hd:(x.cps.toList.map fun c=>D.str ⟨#[c]⟩ g)[i]?=some d){c:Nat}(hc:x.cps[i]?=some c):d=.str ⟨#[c]⟩ g:=by
 rw [d0s,Array.getElem?_toList,hc] at hd
 exact (c9x hd).symm
theorem b6N (S:St G Γ lvl sc σ oa s){st:Bool}{x:Str}{t:Tok}(hasc:x.cps.all (·<128)=true):Iter G Γ σ oa st (a7H x) s s (.str x t):=by
 intro Q E hQ
 exact wpAny_pyIter_ascii hasc (a8P S .refl (st:=st) (fp:=[]) (ds:=a7H x) rfl ((d0a ..).trans Array.length_toList).symm (c6k (prog:=G.prog) (w:=G.w) (A:=Γ.A) S.aok.1 s.heap.objs.size x t) ⟨_,c9H _ rfl,rfl,rfl⟩
  (fun i h st=>st.elim fun o q=>⟨o,q.1,b3M "str_ascii_iterator" q.2.1 rfl⟩) nofun (fun i tk v d htk hP hd=>hP.elim fun c hP=>hP.elim fun u hP=>(b9O hd hP.1).symm ▸ hP.2.1.symm ▸ .str _ _ _ fun _=>hP.2.2) hQ)
theorem b2A (S:St G Γ lvl sc σ oa s){st:Bool}{x:Array UInt8}{t:Tok}:Iter G Γ σ oa st (x.toList.map fun c=>.int c.toNat) s s (.bytes x t):=by
 intro Q E hQ
 exact KBw.pyIter_bytes (a8P S .refl (st:=st) (fp:=[]) (ds:=x.toList.map fun c=>.int c.toNat) rfl ((d0a ..).trans Array.length_toList).symm (lk (KBw.walks (prog:=G.prog) (w:=G.w) (A:=Γ.A) S.aok.1 s.heap.objs.size x t)) ⟨_,c9H _ rfl,rfl,rfl⟩
  (fun i h st=>st.elim fun o q=>⟨o,q.1,b3M "bytes_iterator" q.2.1 rfl⟩) nofun (fun i tk v d htk hP hd=>by
   obtain⟨c,u,hc,rfl⟩:=hP
   rw [d0s,Array.getElem?_toList,hc] at hd
   exact c9x hd ▸ .int _ _) hQ)
theorem b0g (S:St G Γ lvl sc σ oa s){st:Bool}(ha:RT G Γ σ oa s va a)(hst:st=true→RD G Γ σ oa s va a)(hnb:∀ a,va=.ref a→¬ Γ.bad a){ds:List D}(h:a5B a=some ds):Iter G Γ σ oa st ds s s va:=by
 rcases a0L h with h | h
 ·obtain rfl:=a2J h
  obtain⟨l,vs,rfl,hl,rl⟩:=ha.asList
  exact b3N S rl (hnb l rfl) (fun e=>by obtain⟨_,_,q,nb,_⟩:=(hst e).view;injection q with q;exact q ▸ nb) hl
 rcases a0L h with h | h
 ·obtain rfl:=a2K h
  obtain⟨l,vs,rfl,nb,hl,rl⟩:=ha.asTup
  exact b6M S rl (hnb l rfl) (fun _=>nb) hl
 rcases a0L h with h | h
 ·refine a0j h (clear% h;fun x hx h=>?_)
  refine a0J h (clear% h;fun hc h=>?_)
  exact h ▸ ha.strP (P:=fun v=>Iter G Γ σ oa st _ s s v) hx fun t=>b6N S hc
 ·refine a2p h (clear% h;fun x hx h=>?_)
  exact h ▸ ha.bytesP (P:=fun v=>Iter G Γ σ oa st _ s s v) hx fun t=>b2A S
theorem b2B (S:St G Γ lvl sc σ oa s){s₀:Shared}(k₀:Kp G s₀ s){a b c:Int}{r:Addr}{t u v:Tok}{st:Bool}(hr:IsRange s.heap r a b c t u v){n:Nat}(hn:Builtin.Range.rangeSize a b c=n)(hsmall:Builtin.Range.small a b c=true) :
  Iter G Γ σ oa st ((List.range n).map fun (i:Nat)=>.int (a+i*c)) s₀ s (.ref r):=by
 intro Q E hQ
 refine wpAny_pyIter_range hr hsmall ?_
 rw [hn]
 exact a8P S k₀ (st:=st) (fp:=[]) (ds:=(List.range n).map fun (i:Nat)=>.int (a+i*c)) rfl ((d0a ..).trans d0b).symm (lk (Walks.range (prog:=G.prog) (w:=G.w) (A:=Γ.A) S.aok.1 s.heap.objs.size a c n)) (by
   show (s.heap.push _).get? _ = _
   rw [Int.natCast_zero,Int.zero_mul,Int.add_zero,Int.sub_zero]
   exact c9H _ rfl)
  (fun i h st=>⟨_,st,b3M "range_iterator" rfl rfl⟩) nofun (fun i tk v d htk hP hd=>by
   refine hP.elim (clear% hP;fun t Z1=>?_)
   subst Z1
   refine (Option.map_eq_some_iff.mp ((d0s ..).symm.trans hd)).elim fun j Z1=>Z1.elim (fun hj Z2=>?_)
   subst Z2
   refine (d0j.mp hj).elim fun h1 h2=>?_
   rw [List.getElem_range] at h2
   exact h2 ▸ .int _ _) hQ
end
end
section
section
variable {G:GC}{Γ:Ctx}{W:Nat→Bool}{lvl:Nat}{sc:a0g}{σ σ₀ σ':Store}{oa:Nat→Addr}{s s':Shared}{va vb vc v:Value}{a b c d:D}{E:Value→Shared→Prop}
noncomputable def a2S (sc:a0g)(id:Str):Bool:=sc.lookup id==some .local||sc.lookup id==some .cell
theorem a1H {id:Str}(h:a2S sc id=true):sc.lookup id=some .local∨sc.lookup id=some .cell:=(or2 h).imp c9K c9K
noncomputable def a4x (nm:Nat→Str)(sc:a0g):List Nat→List Expr→Bool
 | [],es=>es.isEmpty
 | x :: xs,es=>match es with
  | []=>false
  | e :: r=>isN nm x e&&a2S sc (nm x)&&a4x nm sc xs r
noncomputable def a3n (nm:Nat→Str)(sc:a0g)(t:Tgt)(e:Expr):Bool:=match t with
 | .one x=>isN nm x e&&a2S sc (nm x)
 | .many xs=>isT e .tup&&a4x nm sc xs (vw e).es
inductive Tgts (nm:Nat→Str) (sc:a0g):List Nat→List Expr→Prop
 | nil:Tgts nm sc [] []
 | cons {x:Nat} {xs:List Nat} {es:List Expr} (p:Pos) (h:a2S sc (nm x)=true) (r:Tgts nm sc xs es):Tgts nm sc (x :: xs) (.Name (nm x) p :: es)
theorem a8Q {nm:Nat→Str}{xs:List Nat}{es:List Expr}(h:a4x nm sc xs es=true):Tgts nm sc xs es:=by
 induction xs generalizing es with
 | nil=>
  cases es with
  | nil=>exact .nil
  | cons=>exact absurd h c9p
 | cons x xs ih=>
  cases es with
  | nil=>exact absurd h c9p
  | cons e es=>
   refine a0a (a:=isN nm x e&&a2S sc (nm x)) h fun h1 h2=>?_
   rw [a1a (a0h h1).1]
   exact .cons _ (a0h h1).2 (ih h2)
structure Kts (G:GC)(Γ:Ctx)(X:List Nat)(s s':Shared):Prop where
 heap:∀ b o,b≠Γ.env.locals→(∀ x∈X,Γ.env.cells.lookup (G.nm x)≠some b)→s.heap.get? b=some o→s'.heap.get? b=some o
 os:s'.os=s.os
 toks:s.toks≤s'.toks
 gens:s'.gens=s.gens
theorem Kts.ofKt {x:Nat}{X:List Nat}(hx:x∈X)(k:Kt G Γ x s s'):Kts G Γ X s s':=⟨fun b o h1 h2 e=>k.heap b o h1 (h2 x hx) e,k.os,k.toks,k.gens⟩
theorem Kts.trans {X:List Nat}{s₁:Shared}(k:Kts G Γ X s s₁)(k':Kts G Γ X s₁ s'):Kts G Γ X s s':=
 ⟨fun b o h1 h2 e=>k'.heap b o h1 h2 (k.heap b o h1 h2 e),k'.os.trans k.os,c9v k.toks k'.toks,k'.gens.trans k.gens⟩
theorem Kts.mono {X Y:List Nat}(h:∀ x∈X,x∈Y)(k:Kts G Γ X s s'):Kts G Γ Y s s':=⟨fun b o h1 h2 e=>k.heap b o h1 (fun x hx=>h2 x (h x hx)) e,k.os,k.toks,k.gens⟩
theorem a2N {x y:Nat}{sl:Slot}(hs:sl.notM x=true)(h:noMeth σ x=true):noMeth (σ.set y sl) x=true:=by
 induction σ with
 | nil=>exact d0t.mpr ⟨hs,rfl⟩
 | cons p r ih=>
  refine a0a (a:=p.2.notM x) (b:=noMeth r x) h fun h1 h2=>?_
  show noMeth (bif y==p.1 then (p.1,sl) :: r else p :: Store.set r y sl) x=true
  cases y==p.1 with
  | true=>exact d0t.mpr ⟨hs,h2⟩
  | false=>exact d0t.mpr ⟨h1,ih h2⟩
theorem a7c {x:Nat}(l:List (Nat×D)){σ:Store}(h:(l.foldl (fun σ p=>σ.set p.1 (.val p.2)) σ).isOwn x=true):σ.isOwn x=true:=by
 induction l generalizing σ with
 | nil=>exact h
 | cons p r ih=>exact (a2A rfl (ih h)).2
theorem b2C {nm:Nat→Str}{xs:List Nat}{es:List Expr}(h:Tgts nm sc xs es)(env:Env):(assignEach es env).length=xs.length∧(assignEach es env).findIdx? (·.1)=none:=by
 induction h with
 | nil=>exact⟨rfl,rfl⟩
 | cons p h r ih=>
  refine⟨c9o (·+1) ih.1,?_⟩
  show List.findIdx? (·.1) ((false,_) :: assignEach _ env)=none
  rw [List.findIdx?_cons,ih.2]
  rfl
theorem b2D {xs:List Nat}{es:List Expr}(hm:Tgts G.nm sc xs es){σ:Store}{s:Shared}{vs:List Value}{ds:List D}(S:St G Γ lvl sc σ oa s)(hl:xs.length=ds.length)(hmeth:xs.all (noMeth σ ·)=true)
  (r:RL G Γ σ oa s vs ds) {Q:Unit→Shared→Prop} {E:Value→Shared→Prop}
  (h:∀ s',St G Γ lvl sc ((xs.zip ds).foldl (fun σ p=>σ.set p.1 (.val p.2)) σ) oa s'→Kts G Γ xs s s'→Step G Γ W σ oa s ((xs.zip ds).foldl (fun σ p=>σ.set p.1 (.val p.2)) σ) oa s'→Q () s') :
  wpAny (model G.prog G.w) Γ.A (assignInOrder ((assignEach es Γ.env).map (·.2)) vs) Q E s:=by
 induction hm generalizing σ s vs ds with
 | nil=>
  cases ds with
  | cons _ _=>cases hl
  | nil=>exact c9M (h s S ⟨fun _ _ _ _ e=>e,rfl,c9n _,rfl⟩ Step.refl)
 | @cons x xs es p hst ht ih=>
  cases ds with
  | nil=>cases hl
  | cons d ds=>
   obtain⟨v',vs',rfl,a,r⟩:=r.view
   obtain⟨h1,h2⟩:=a0h (a:=noMeth σ x) hmeth
   show wpAny _ _ (_ >>= fun _=>assignInOrder ((assignEach es Γ.env).map (·.2)) vs') _ _ _
   refine c9L (c9J (wpAny_assign_Name (S.store (W:=W) (a1H hst) h1 a fun s₁ S₁ k₁ t₁=>?_)))
   have r₁:RL G Γ (σ.set x (.val d)) oa s₁ vs' ds:=r.chg ⟨k₁.toks,fun b o hb=>k₁.heap b o (fun q=>hb (.inl (q ▸ S.badL))) (fun q=>hb (.inl (S.badC _ _ q))),fun b _ hb _ q=>hb ((a2T (sl:=.val d) S rfl h1).all b q)⟩
   exact ih S₁ (Nat.succ.inj hl) (c9Q.mpr fun y hy=>a2N rfl (c9Q.mp h2 y hy)) r₁ fun s' S' k' t'=>h s' S' ((Kts.ofKt d0r k₁).trans (k'.mono fun y hy=>d0u _ hy)) (t₁.trans S₁ t')
theorem a5X (S:St G Γ lvl sc σ oa s){t:Tgt}{e:Expr}(hm:a3n G.nm sc t e=true)(r:RD G Γ σ oa s v d)(h:a0P σ t d=some σ'){Q:Unit→Shared→Prop}
  (hQ:∀ s',St G Γ lvl sc σ' oa s'→Kts G Γ t.xs s s'→Step G Γ W σ oa s σ' oa s'→Q () s'):wpAny (model G.prog G.w) Γ.A (assign e Γ.env v) Q E s:=by
 cases t with
 | one x=>
  refine a0a hm (clear% hm;fun hid hst=>?_)
  refine a0J h (clear% h;fun hc h=>?_)
  rw [a1a hid]
  rw [← h] at hQ
  exact wpAny_assign_Name (S.store (W:=W) (a1H hst) hc r fun s₁ S₁ k₁ t₁=>hQ s₁ S₁ (Kts.ofKt d0r k₁) t₁)
 | many xs=>
  refine a0a hm (clear% hm;fun ht hts=>?_)
  refine a0j h (clear% h;fun ds hd h=>?_)
  refine a0J h (clear% h;fun hc h=>?_)
  refine a0a hc (clear% hc;fun hc1 hc2=>?_)
  have hc1:=c9E hc1
  have hts:=a8Q hts
  have sh:=b2C hts Γ.env
  rw [a2K hd] at r
  obtain⟨a,vs,rfl,_,ht',rl⟩:=r.view
  rw [a0w ht]
  rw [← h] at hQ
  refine wpAny_assign_Tuple S.aok.1 ht' (sh.1.trans (hc1.trans rl.length.symm)) sh.2 fun h' he=>?_
  have k:Kf s { s with heap:=h' }:=⟨fun b o e=>he b o (d0g (c9G e)) e,rfl,c9n _,rfl⟩
  exact b2D (W:=W) hts (S.kf k) hc1 hc2 (rl.keep (c9n _) fun b o _ e=>k.heap b o e) fun s' S' k' t'=>hQ s' S' ⟨fun b o h1 h2 e=>k'.heap b o h1 h2 (k.heap b o e),k'.os,k'.toks,k'.gens⟩ ((Step.ofKp (W:=W) k.kp).trans (S.kf k) t')
end
end
section
section
variable {G:GC}{Γ:Ctx}{W:Nat→Bool}{lvl:Nat}{sc:a0g}{σ σ₀ σ':Store}{oa:Nat→Addr}{s s':Shared}
noncomputable def c5K (sc:a0g)(x:Str)(k:NameKind):NameKind:=if (k==.free&&sc.lookup x==some .cell)=true then .cell else k
noncomputable def a4e (sc:a0g)(names:a0g):a0g:=names.map fun (n,k)=>if k==.free&&sc.lookup n==some .cell then (n,.cell) else (n,k)
theorem b3O (n:Str)(k:NameKind)(r:a0g):a4e sc ((n,k) :: r)=(n,c5K sc n k) :: a4e sc r:=by
 show (if (k==.free&&sc.lookup n==some .cell)=true then (n,NameKind.cell) else (n,k)) :: a4e sc r = _
 unfold c5K
 cases k==.free&&sc.lookup n==some .cell <;> rfl
theorem a4f {x:Str}{names:a0g}:(a4e sc names).lookup x=(names.lookup x).map (c5K sc x):=by
 induction names with
 | nil=>rfl
 | cons p r ih=>
  obtain⟨n,k⟩:=p
  rw [b3O,c9q,c9q,ih]
  cases hx:x==n with
  | true=>rw [c9K hx];rfl
  | false=>rfl
theorem b1l {x:Str}{names:a0g}{k:NameKind}(h:(a4e sc names).lookup x=some k):names.lookup x=some k∨(names.lookup x=some .free∧k=.cell∧sc.lookup x=some .cell):=by
 rw [a4f] at h
 refine a2p h (clear% h;fun k' h1 h2=>?_)
 unfold c5K at h2
 cases hc:(k'==.free&&sc.lookup x==some .cell) with
 | true=>
  rw [hc,c9r rfl] at h2
  refine a0a hc (clear% hc;fun h3 h4=>?_)
  exact .inr ⟨h1.trans (c9o some (c9K h3)),h2.symm,c9K h4⟩
 | false=>
  rw [hc,c9t c9p] at h2
  exact .inl (h1.trans (c9o some h2))
theorem b3P {x:Str}{names:a0g}(h:names.lookup x=some .free):(a4e sc names).lookup x=some .cell∨(a4e sc names).lookup x=some .free:=by
 rw [a4f,h]
 show some (if _ then _ else _) = _∨some (if _ then _ else _) = _
 cases (NameKind.free==.free&&sc.lookup x==some .cell) with
 | true=>exact .inl rfl
 | false=>exact .inr rfl
theorem b2E (S:St G Γ lvl sc σ oa s)(scope:Scope):(relabel scope Γ.env).names=a4e sc scope.names:=by
 unfold relabel a4e Env.kindOf
 simp only [S.kind,S.names,c9y,Bool.and_true]
noncomputable def a0T (cells:List (Str×Addr)):a0g→List (Str×Addr)→List (Str×Addr)
 | [],acc=>acc
 | p :: r,acc=>bif p.2==.free then a0T cells r ((p.1,(cells.lookup p.1).getD 0) :: acc) else a0T cells r acc
theorem a5s (cells:List (Str×Addr))(names:a0g)(acc:List (Str×Addr)):a0T cells names acc=a0T cells names []++acc:=by
 induction names generalizing acc with
 | nil=>rfl
 | cons p r ih=>
  show (bif p.2==.free then _ else _)=(bif p.2==.free then _ else _)++acc
  cases p.2==.free with
  | true=>exact (ih _).trans ((List.append_cons ..).trans (c9o (·++acc) (ih [_]).symm))
  | false=>exact ih acc
theorem a1t (names:a0g)(n:Nat)(acc:List (Str×Addr)):cellsFrom n names acc=cellsFrom n names []++acc:=by
 induction names generalizing n acc with
 | nil=>rfl
 | cons p r ih=>
  obtain⟨x,k⟩:=p
  show (if (k==.cell)=true then _ else _)=(if (k==.cell)=true then _ else _)++acc
  cases k==.cell with
  | true=>exact (ih _ _).trans ((List.append_cons ..).trans (c9o (·++acc) (ih _ [_]).symm))
  | false=>exact ih n acc
theorem a8R {cells:List (Str×Addr)}{x:Str}{c:Addr}{names:a0g}(h:(x,c)∈a0T cells names []):(x,NameKind.free)∈names∧c=(cells.lookup x).getD 0:=by
 induction names with
 | nil=>exact nomatch h
 | cons p r ih=>
  have h:(x,c)∈(bif p.2==.free then a0T cells r [(p.1,(cells.lookup p.1).getD 0)] else a0T cells r []):=h
  cases hk:p.2==.free with
  | true=>
   rw [hk,cond_true,a5s] at h
   rcases d0v.mp h with h | h
   ·exact⟨d0u _ (ih h).1,(ih h).2⟩
   ·cases d0i.mp h
    exact⟨c9K hk ▸ d0r,rfl⟩
  | false=>
   rw [hk] at h
   exact⟨d0u _ (ih h).1,(ih h).2⟩
theorem a8S {cells:List (Str×Addr)}{x:Str}{names:a0g}(h:(x,NameKind.free)∈names):(x,(cells.lookup x).getD 0)∈a0T cells names []:=by
 induction names with
 | nil=>exact nomatch h
 | cons p r ih=>
  show _∈(bif p.2==.free then a0T cells r [(p.1,(cells.lookup p.1).getD 0)] else a0T cells r [])
  cases hk:p.2==.free with
  | true=>
   rw [cond_true,a5s]
   rcases c9U.mp h with h | h
   ·rw [← h];exact d0w _ d0r
   ·exact d0x _ (ih h)
  | false=>
   rcases c9U.mp h with h | h
   ·rw [← h] at hk;cases hk
   ·exact ih h
theorem a7S {x:Str}{c:Addr}{names:a0g}{n:Nat}(h:(x,c)∈cellsFrom n names []):(x,NameKind.cell)∈names:=by
 induction names generalizing n with
 | nil=>exact nomatch h
 | cons p r ih=>
  obtain⟨y,k⟩:=p
  have h:(x,c)∈(if (k==.cell)=true then cellsFrom (n+1) r [(y,n)] else cellsFrom n r []):=h
  cases hk:k==.cell with
  | true=>
   rw [hk,c9r rfl,a1t] at h
   rcases d0v.mp h with h | h
   ·exact d0u _ (ih h)
   ·cases d0i.mp h
    exact c9K hk ▸ d0r
  | false=>
   rw [hk,c9t c9p] at h
   exact d0u _ (ih h)
theorem a4y {x:Str}{names:a0g}{n:Nat}(h:(x,NameKind.cell)∈names):∃ c,(x,c)∈cellsFrom n names []:=by
 induction names generalizing n with
 | nil=>exact nomatch h
 | cons p r ih=>
  obtain⟨y,k⟩:=p
  show ∃ c,_∈(if (k==.cell)=true then cellsFrom (n+1) r [(y,n)] else cellsFrom n r [])
  cases hk:k==.cell with
  | true=>
   rw [c9r rfl,a1t]
   rcases c9U.mp h with h | h
   ·cases h;exact⟨_,d0w _ d0r⟩
   ·exact (ih h).elim fun c h=>⟨c,d0x _ h⟩
  | false=>
   rw [c9t c9p]
   rcases c9U.mp h with h | h
   ·cases h;cases hk
   ·exact ih h
theorem a2W {α:Type}{x:Str}{l:List (Str×α)}{c:α}(h:(x,c)∈l):∃ c',l.lookup x=some c':=by
 induction l with
 | nil=>exact nomatch h
 | cons p r ih=>
  obtain⟨y,c'⟩:=p
  rw [c9q]
  cases hx:x==y with
  | true=>exact⟨_,rfl⟩
  | false=>
   rcases c9U.mp h with h | h
   ·cases h;rw [c9y] at hx;cases hx
   ·exact ih h
noncomputable def c2U (sc:a0g)(p:Str×NameKind):Bool:=p.2==.local||p.2==.cell||p.2==.globalImplicit||(p.2==.free&&(sc.lookup p.1==some .cell||sc.lookup p.1==some .free))
noncomputable def a3o (nm:Nat→Str)(sc:a0g)(scope:Scope)(fv:List Nat):Bool:=
 scope.kind==.function&&scope.names.all (fun p=>scope.names.lookup p.1==some p.2)&&scope.names.all (c2U sc)&&(fv.all fun x=>scope.names.lookup (nm x)==some .free)&&(a3Q (a4e sc scope.names)==none||a3Q (a4e sc scope.names)==a3Q sc)
structure ScopeOk (nm:Nat→Str)(sc:a0g)(scope:Scope)(fv:List Nat):Prop where
 kind:scope.kind=.function
 cons:∀ p∈scope.names,scope.names.lookup p.1=some p.2
 free:∀ x,(x,NameKind.free)∈scope.names→sc.lookup x=some .cell∨sc.lookup x=some .free
 fv:∀ x∈fv,scope.names.lookup (nm x)=some .free
 lam:∀ i,a3Q (a4e sc scope.names)=some i→a3Q sc=some i
theorem a3L {nm:Nat→Str}{scope:Scope}{fv:List Nat}(h:a3o nm sc scope fv=true):ScopeOk nm sc scope fv:=by
 refine a0a h (clear% h;fun h h5=>?_)
 refine a0a h (clear% h;fun h h4=>?_)
 refine a0a h (clear% h;fun h h3=>?_)
 refine a0a h (clear% h;fun h1 h2=>?_)
 refine⟨c9K h1,fun p hp=>c9K (c9Q.mp h2 p hp),fun x hx=>?_,fun x hx=>c9K (c9Q.mp h4 x hx),fun i hi=>?_⟩
 ·rcases or2 (a:=_||_) (c9Q.mp h3 _ hx) with q | q
  ·cases q
  ·exact (or2 (a0h q).2).imp c9K c9K
 ·rcases or2 h5 with q | q
  ·rw [c9K q] at hi;cases hi
  ·exact (c9K q).symm.trans hi
noncomputable def a1h (Γ:Ctx)(scope:Scope)(n:Nat):List (Str×Addr):=cellsFrom n scope.names (a0T Γ.env.cells scope.names [])
theorem b9P {env:Env}(names:a0g)(acc:List (Str×Addr))(hr:∀ x,(x,NameKind.free)∈names→(env.cells.lookup x).isSome=true) :
  (forIn names acc (fun p cs=>(if p.2==NameKind.free then (do let a ← cellOf env p.1;pure (ForInStep.yield ((p.1,a) :: cs))) else pure (ForInStep.yield cs):Sem _)):Sem (List (Str×Addr)))=pure (a0T env.cells names acc):=by
 induction names generalizing acc with
 | nil=>rfl
 | cons p r ih=>
  obtain⟨n,k⟩:=p
  rw [List.forIn_cons]
  show _=pure (bif k==.free then _ else _)
  have hr':=fun x hx=>hr x (d0u _ hx)
  cases hk:k==.free with
  | true=>
   have hk:=c9K hk
   subst hk
   refine (Option.isSome_iff_exists.mp (hr n d0r)).elim fun a ha=>?_
   have e:cellOf env n=pure a:=by unfold cellOf;rw [ha]
   show ((cellOf env n >>= fun a=>pure (ForInStep.yield ((n,a) :: acc))) >>= _:Sem _)=pure (a0T env.cells r ((n,(env.cells.lookup n).getD 0) :: acc))
   rw [e,ha]
   exact ih _ hr'
  | false=>exact ih acc hr'
theorem a2X {env:Env}{scope:Scope}(h:∀ x,(x,NameKind.free)∈scope.names→(env.cells.lookup x).isSome=true):closureFor scope env=pure (a0T env.cells scope.names []):=by
 unfold closureFor
 show ((forIn scope.names ([]:List (Str×Addr)) _:Sem _) >>= fun cs=>pure cs) = _
 refine Eq.trans (c9o (fun (m:Sem (List (Str×Addr)))=>m >>= fun cs=>pure cs) (Eq.trans ?_ (b9P scope.names [] h))) rfl
 congr 1
theorem b2F {M:Model}{A:Around}{scope:Scope}{globals:Addr}{cl:List (Str×Addr)}{qual:Str}{env:Env}{E:Value→Shared→Prop}{Q:Env→Shared→Prop}
  (h:Q (newEnv scope s.heap.objs.size globals (cellsFrom (s.heap.objs.size+1) scope.names cl) qual none .none (some env) builtinsNs) { s with heap:=pushCells (s.heap.push { cls:=.type "dict",data:=.dict #[] }) scope.names }) :
  wpAny M A (newFunctionEnv scope globals cl [] qual none .none (some env)) Q E s:=by
 simp only [newFunctionEnv,Option.isSome_some,if_true]
 refine c9L (wpAny_alloc ?_)
 refine c9L (wpAny_layCells _ (fun name kind cells=>by cases kind==NameKind.cell <;> rfl) _ _ _ _ ?_)
 rw [show ({ s with heap:=s.heap.push { cls:=.type "dict",data:=.dict #[] } }:Shared).heap.objs.size=s.heap.objs.size+1 from d0h ..]
 rw [List.forIn_nil]
 exact c9L (c9M (c9M h))
theorem b6O {x:Nat}{sl:Slot}{p:Nat×Slot}(h:Slot.keep x sl=some p):p=(x,sl)∧∀ z,sl≠.meth z:=by
 cases sl with
 | meth z=>exact a0e h
 | _=>exact⟨(c9x h).symm,nofun⟩
theorem a5t {fv:List Nat}{σ₀:Store}(h:a0O σ fv=some σ₀)(x:Nat)(sl:Slot)(hx:σ₀.get x=some sl):x∈fv∧σ.get x=some sl∧∀ y,sl≠.meth y:=by
 induction fv generalizing σ₀ with
 | nil=>cases c9x h;cases hx
 | cons y r ih=>
  unfold a0O at h
  rw [List.mapM_cons] at h
  refine a0j h (clear% h;fun p hp h=>?_)
  refine a0j h (clear% h;fun t ht h=>?_)
  cases c9x h
  refine a0j hp (clear% hp;fun sl' hg hp=>?_)
  refine (b6O hp).elim fun Z1 hn=>?_
  subst Z1
  rw [a0S] at hx
  cases q:x==y with
  | true=>
   rw [q] at hx
   cases c9x hx
   rw [c9K q]
   exact⟨d0r,hg,hn⟩
  | false=>
   rw [q] at hx
   exact⟨d0u _ (ih ht hx).1,(ih ht hx).2⟩
theorem a3V {fv:List Nat}{σ₀:Store}(hσ:a0O σ fv=some σ₀){x:Nat}(h:σ₀.isOwn x=true):σ.isOwn x=true:=
 (a2I h).elim fun sl q=>(a0X (a5t hσ x sl q.1).2.1).trans q.2
end
end
section
section
variable {G:GC}{Γ:Ctx}{lvl:Nat}{sc:a0g}{σ σ₀:Store}{oa:Nat→Addr}{s:Shared}
noncomputable def b1m (Γ:Ctx)(scope:Scope)(L:Addr):Env:=
 { scope:=relabel scope Γ.env,locals:=L,globals:=Γ.env.globals,cells:=a1h Γ scope (L+1),qual:=Γ.env.qual,func:=none,code:=Γ.env.code,frame:=Γ.env.frame,builtins:=Γ.env.builtins }
noncomputable def b3Q (Γ:Ctx)(σ σ₀:Store)(oa:Nat→Addr)(h h':Heap)(b:Addr):Prop:=(a0m Γ σ oa b∧¬ ∃ x,σ₀.isOwn x=true∧b=oa x)∨(h.get? b=none∧∃ o,h'.get? b=some o)
noncomputable def a3p (Γ:Ctx)(σ σ₀:Store)(oa:Nat→Addr)(scope:Scope)(h h':Heap)(L:Addr):Ctx:=⟨Γ.A,b1m Γ scope L,Γ.st,b3Q Γ σ σ₀ oa h h'⟩
noncomputable def a0r (h:Heap):Heap:=h.push { cls:=.type "list",data:=.seq ([]:List Value).toArray }
noncomputable def a0v (h:Heap)(scope:Scope):Heap:=pushCells ((a0r h).push { cls:=.type "dict",data:=.dict #[] }) scope.names
inductive CellIn (Γ:Ctx) (scope:Scope) (h:Heap) (x:Str) (c:Addr):Prop
 | new (h1:scope.names.lookup x=some .cell) (h2:(a0v h scope).IsCell c none) (h3:h.objs.size+2≤c) (h4:(x,c)∈cellsFrom ((a0r h).objs.size+1) scope.names [])
 | old (h1:scope.names.lookup x=some .free) (h2:Γ.env.cells.lookup x=some c)
structure CompFrame (G:GC)(Γ:Ctx)(lvl:Nat)(sc:a0g)(σ σ₀:Store)(oa:Nat→Addr)(scope:Scope)(s:Shared):Prop where
 st:St G (a3p Γ σ σ₀ oa scope s.heap (a0v s.heap scope) (a0r s.heap).objs.size) lvl (a4e sc scope.names) σ₀ oa { s with heap:=a0v s.heap scope }
 kf:Kf s { s with heap:=a0v s.heap scope }
 acc:(a0v s.heap scope).PlainList s.heap.objs.size #[]
 newD:s.heap.get? s.heap.objs.size=none
 newL:s.heap.get? (a0r s.heap).objs.size=none
 there:Chg (a0m Γ σ oa) (a0m (a3p Γ σ σ₀ oa scope s.heap (a0v s.heap scope) (a0r s.heap).objs.size) σ₀ oa) s.heap (a0v s.heap scope) s.toks s.toks
 back:∀ b,a0m Γ σ oa b→a0m (a3p Γ σ σ₀ oa scope s.heap (a0v s.heap scope) (a0r s.heap).objs.size) σ₀ oa b
 cell:∀ x c,(a1h Γ scope ((a0r s.heap).objs.size+1)).lookup x=some c→CellIn Γ scope s.heap x c
 clos:closureFor scope Γ.env=pure (a0T Γ.env.cells scope.names [])
theorem a5Y (h:Heap):(a0r h).objs.size=h.objs.size+1:=d0h ..
theorem fresh {h:Heap}{a:Addr}(ha:h.objs.size≤a):h.get? a=none:=by
 cases e:h.get? a with
 | none=>rfl
 | some o=>exact absurd (c9G e) (Nat.not_lt.mpr ha)
theorem a4Z (S:St G Γ lvl sc σ oa s){a:Addr}(ha:s.heap.get? a=none):G.g.get? a=none:=by
 cases e:G.g.get? a with
 | none=>rfl
 | some o=>exact absurd rfl (a0f ha (S.gst.base _ _ e))
theorem b3R (h:Heap)(scope:Scope):CellsOk (a0v h scope) ((a0r h).objs.size+1) (cellsFrom ((a0r h).objs.size+1) scope.names []):=by
 have ok:=cellsFrom_ok scope.names ((a0r h).push { cls:=.type "dict",data:=.dict #[] }) ((a0r h).objs.size+1) [] ⟨fun _ _ hm=>(nomatch hm),List.Pairwise.nil⟩ (by rw [d0h];exact c9n _)
 rw [d0h] at ok
 exact ok
theorem a1N {fv:List Nat}{nm:Nat→Str}(S:St G Γ lvl sc σ oa s){scope:Scope}(K:ScopeOk nm sc scope fv){x:Str}{c:Addr}(h:(a1h Γ scope ((a0r s.heap).objs.size+1)).lookup x=some c):CellIn Γ scope s.heap x c:=by
 unfold a1h at h
 rw [a1t,List.lookup_append] at h
 cases h1:(cellsFrom ((a0r s.heap).objs.size+1) scope.names []).lookup x with
 | some c'=>
  rw [h1] at h
  cases c9x h
  have hm:=mem_of_lookup h1
  refine ((b3R s.heap scope).empty x c hm).elim fun h2 h3=>?_
  rw [a5Y] at h3
  exact .new (K.cons _ (a7S hm)) h2 h3 hm
 | none=>
  rw [h1] at h
  refine (a8R (mem_of_lookup h)).elim fun h2 h3=>?_
  obtain⟨c',v,e,_⟩:=S.cellAt x (K.free x h2)
  rw [e] at h3
  exact .old (K.cons _ h2) (h3 ▸ e)
theorem b1n {fv:List Nat}{nm:Nat→Str}(S:St G Γ lvl sc σ oa s){scope:Scope}(K:ScopeOk nm sc scope fv){x:Str}{c:Addr}(hx:scope.names.lookup x=some .free)(hc:Γ.env.cells.lookup x=some c):(a1h Γ scope ((a0r s.heap).objs.size+1)).lookup x=some c:=by
 have h:∃ c',(a1h Γ scope ((a0r s.heap).objs.size+1)).lookup x=some c':=by
  unfold a1h
  rw [a1t]
  exact a2W (d0w _ (a8S (cells:=Γ.env.cells) (mem_of_lookup hx)))
 refine h.elim (clear% h;fun c' h=>?_)
 cases a1N S K h with
 | new h1=>rw [hx] at h1;cases h1
 | old h1 h2=>rw [h2] at hc;exact h.trans hc
theorem b6P {fv:List Nat}{nm:Nat→Str}(S:St G Γ lvl sc σ oa s){scope:Scope}(K:ScopeOk nm sc scope fv){x:Str}(hx:scope.names.lookup x=some .cell):∃ c,(a1h Γ scope ((a0r s.heap).objs.size+1)).lookup x=some c∧(a0v s.heap scope).IsCell c none:=by
 refine (a4y (n:=(a0r s.heap).objs.size+1) (mem_of_lookup hx)).elim fun c hc=>?_
 have h:∃ c',(a1h Γ scope ((a0r s.heap).objs.size+1)).lookup x=some c':=by
  unfold a1h
  rw [a1t]
  exact a2W (d0x _ hc)
 refine h.elim (clear% h;fun c' h=>?_)
 cases a1N S K h with
 | new h1 h2=>exact⟨c',h,h2⟩
 | old h1=>rw [hx] at h1;cases h1
theorem a7d (S:St G Γ lvl sc σ oa s){scope:Scope}{fv:List Nat}(hs:a3o G.nm sc scope fv=true)(hσ:a0O σ fv=some σ₀):CompFrame G Γ lvl sc σ σ₀ oa scope s:=by
 have K:=a3L hs
 have kf:Kf s { s with heap:=a0v s.heap scope }:=⟨fun b o e=>pushCells_keeps _ _ b o (c9w _ (c9w _ e)),rfl,c9n _,rfl⟩
 have dO:(a0v s.heap scope).get? s.heap.objs.size=some { cls:=.type "list",data:=.seq ([]:List Value).toArray }:=
  pushCells_keeps _ _ _ _ (c9w _ (c9H _ rfl))
 have lO:(a0v s.heap scope).get? (a0r s.heap).objs.size=some { cls:=.type "dict",data:=.dict #[] }:=pushCells_keeps _ _ _ _ (c9H _ rfl)
 have newD:=fresh (c9n s.heap.objs.size)
 have newL:s.heap.get? (a0r s.heap).objs.size=none:=fresh (a5Y s.heap ▸ c9A _)
 have gtS:∀ c,s.heap.objs.size+2≤c→s.heap.get? c=none:=fun c hc=>fresh (c9v (c9V _ 2) hc)
 have ow:∀ x,σ₀.isOwn x=true→σ.isOwn x=true:=fun x=>a3V hσ
 have gbad:∀ b,Γ.bad b→b3Q Γ σ σ₀ oa s.heap (a0v s.heap scope) b:=fun b hb=>.inl ⟨.inl hb,fun q=>q.elim fun x q=>S.ownBad x (ow x q.1) (q.2 ▸ hb)⟩
 have there:Chg (a0m Γ σ oa) (a0m (a3p Γ σ σ₀ oa scope s.heap (a0v s.heap scope) (a0r s.heap).objs.size) σ₀ oa) s.heap (a0v s.heap scope) s.toks s.toks:=
  ⟨c9n _,fun b o _=>kf.heap b o,fun b o hb e q=>q.elim (fun q=>q.elim (fun q=>hb q.1) fun q=>a0f q.1 e rfl) fun q=>q.elim fun x q=>hb (.inr ⟨x,ow x q.1,q.2⟩)⟩
 refine⟨{
   aok:=S.aok
   kind:=K.kind
   names:=b2E S scope
   code:=fun i q=>S.code i (K.lam i q)
   globals:=S.globals
   builtins:=S.builtins
   newL:=a4Z S newL
   newC:=fun x c hc=>by
    cases a1N S K hc with
    | new _ _ h3=>exact a4Z S (gtS c h3)
    | old _ h2=>exact S.newC x c h2
   cellInj:=fun x y c hx hy=>by
    have no:∀ z,s.heap.objs.size+2≤c→Γ.env.cells.lookup z=some c→False:=fun z h3 h2=>(S.alloc c (.inl (S.badC z c h2))).elim fun o e=>a0f (gtS c h3) e rfl
    cases a1N S K hx with
    | new _ _ h3 h4=>
     cases a1N S K hy with
     | new _ _ _ h4'=>exact name_of_addr (b3R s.heap scope).apart h4 h4'
     | old _ h2=>exact (no y h3 h2).elim
    | old _ h2=>
     cases a1N S K hy with
     | new _ _ h3 _=>exact (no x h3 h2).elim
     | old _ h2'=>exact S.cellInj x y c h2 h2'
   gst:=kf.gst S.gst
   badT:=fun t ht=>gbad t (S.badT t ht)
   badL:=.inr ⟨newL,_,lO⟩
   badC:=fun x c hc=>by
    cases a1N S K hc with
    | new _ h2 h3=>exact .inr ⟨gtS c h3,h2.elim fun o q=>⟨o,q.1⟩⟩
    | old _ h2=>exact gbad c (S.badC x c h2)
   own:=fun x hx=>⟨S.newO x (ow x hx),fun q=>q.elim (fun q=>q.2 ⟨x,hx,rfl⟩) fun q=>(S.alloc _ (.inr ⟨x,ow x hx,rfl⟩)).elim fun o e=>a0f q.1 e rfl⟩
   ownInj:=fun x y hx hy e=>S.ownInj x y (ow x hx) (ow y hy) e
   alloc:=fun b hb=>by
    rcases hb with (hb | hb) | ⟨x,hx,q⟩
    ·exact (S.alloc b hb.1).elim fun o e=>⟨o,kf.heap _ _ e⟩
    ·exact hb.2
    ·exact (S.alloc b (.inr ⟨x,ow x hx,q⟩)).elim fun o e=>⟨o,kf.heap _ _ e⟩
   cellAt:=fun x hx=>by
    have hx:scope.names.lookup x=some .cell∨scope.names.lookup x=some .free:=hx.elim (fun q=>(b1l q).imp id And.left) fun q=>(b1l q).elim .inr fun q=>nomatch q.2.1
    rcases hx with hx | hx
    ·exact (b6P S K hx).elim fun c h=>⟨c,none,h.1,h.2⟩
    ·obtain⟨c,v,e,o,eo,ed⟩:=S.cellAt x (K.free x (mem_of_lookup hx))
     exact⟨c,v,b1n S K hx e,o,kf.heap _ _ eo,ed⟩
   slots:=by
    refine⟨fun _=>none,(Heap.Ns.new (a0r s.heap) (.type "dict")).keeps (pushCells_keeps _ _),fun x sl hx=>?_⟩
    refine (a5t hσ x sl hx).elim fun h1 Z1=>Z1.elim (fun h2 h3=>?_)
    have hf:=K.fv x h1
    refine (S.slots).elim fun m Z1=>Z1.elim (fun hn hm=>?_)
    refine (hm x sl h2).elim fun v Z1=>Z1.elim (fun hv sv=>?_)
    refine⟨v,?_,SlotV.chg (Γ:=Γ) (σ:=σ) (oa:=oa) rfl there (fun _=>⟨rfl,fun o _=>kf.heap _ o⟩) (fun z e=>absurd e (h3 z)) sv⟩
    cases hv with
    | loc q1=>exact absurd (K.free _ (mem_of_lookup hf)) fun q=>by rw [q1] at q;exact q.elim nofun nofun
    | cel c q1 q2 q3=>exact .cel c (b3P hf) (b1n S K hf q2) (q3.elim fun o q=>⟨o,kf.heap _ _ q.1,q.2⟩) },
  kf,⟨_,dO⟩,newD,newL,there,fun b hb=>?_,fun x c hc=>a1N S K hc,a2X fun x hx=>(S.cellAt x (K.free x hx)).elim fun c q=>q.elim fun v q=>by rw [q.1];rfl⟩
 by_cases q:∃ x,σ₀.isOwn x=true∧b=oa x
 ·exact .inr q
 ·exact .inl (.inl ⟨hb,q⟩)
end
end
section
section
variable {G:GC}{Γ:Ctx}{W:Nat→Bool}{lvl:Nat}{sc:a0g}{σ σ₀ σ':Store}{oa:Nat→Addr}{s s':Shared}{va vb vc v:Value}{a b c d:D}{E:Value→Shared→Prop}
theorem b6Q {x:Nat}{sl:Slot}(l:List (Nat×D)){τ:Store}(hp:∀ p∈l,x≠p.1)(h:τ.get x=some sl):(l.foldl (fun σ p=>σ.set p.1 (.val p.2)) τ).get x=some sl:=by
 induction l generalizing τ with
 | nil=>exact h
 | cons p r ih=>exact ih (fun q hq=>hp q (d0u _ hq)) (by rw [Store.get_set,c9t (hp p d0r)];exact h)
theorem b3S {t:Tgt}{d:D}(h:a4d σ t d=some σ'):a0P σ t d=some σ'∧(∀ x sl,σ.get x=some sl→σ'.get x=some sl)∧∀ x,σ'.isOwn x=true→σ.isOwn x=true:=by
 refine (a0N h).elim fun hn h=>?_
 have hne:∀ x sl,σ.get x=some sl→∀ y∈t.xs,x≠y:=fun x sl hx y hy q=>by
  have h1:=c9Q.mp hn y hy
  rw [← q,hx] at h1
  exact c9p h1
 refine⟨h,?_⟩
 cases t with
 | one y=>
  refine a0J h (clear% h;fun _ h=>?_)
  rw [← h]
  exact⟨fun x sl hx=>by rw [Store.get_set,c9t (hne x sl hx y d0r)];exact hx,fun x hx=>(a2A rfl hx).2⟩
 | many ys=>
  refine a0j h (clear% h;fun ds _ h=>?_)
  refine a0J h (clear% h;fun _ h=>?_)
  rw [← h]
  exact⟨fun x sl hx=>b6Q _ (fun p hp=>hne x sl hx _ (List.of_mem_zip hp).1) hx,fun x hx=>a7c _ hx⟩
noncomputable def b9Q (elt:Expr)(gens:List Comprehension)(scope:Scope)(pos:Pos)(depth:Nat)(acc:Value)(env:Env):Sem Unit:=
 match gens[depth+1]? with
 | some g'=>do
  let x ← eval g'.iter env
  standAt g'.iter.pos
  let x ← foldedSetIterable g'.iter env x
  let _ ← runOwn (.compStart (.ListComp elt gens scope pos) (depth+1) (← holding [x] (pyIter x)) acc env) env
 | none=>do let _ ← call (.builtin "list.append") [acc,← eval elt env]
theorem a8T {elt:Expr}{gens:List Comprehension}{scope:Scope}{pos:Pos}{depth:Nat}{target iter:Expr}{ifs:List Expr}(hg:gens[depth]?=some ⟨target,iter,ifs,0⟩)(hg1:∀ g',gens[depth+1]?=some g'→g'.is_async=0)(it acc:Value)(env:Env) :
  compTurn (.ListComp elt gens scope pos) depth it acc env=(standAt iter.pos >>= fun _=>pyNext it >>= fun r=>match r with
   | none=>pure (.done .next)
   | some v=>letOwnedTupleGo target it v >>= fun _=>assign target env v >>= fun _=>
    (forIn ifs true fun c r=>if r=true then do let ok ← isTrue c env (eval c env);pure (ForInStep.yield ok) else pure (ForInStep.yield r)) >>= fun ok=>
    if ok=true then (b9Q elt gens scope pos depth acc env >>= fun _=>again (.compLoop (.ListComp elt gens scope pos) depth it acc env)) else again (.compLoop (.ListComp elt gens scope pos) depth it acc env)):=by
 unfold compTurn b9Q
 simp only [hg]
 cases h:gens[depth+1]? with
 | none=>rfl
 | some g'=>
  obtain⟨t',i',f',a'⟩:=g'
  obtain rfl:a'=0:=hg1 _ h
  simp only [bne_self_eq_false,d0y,if_false,bind_assoc,pure_bind]
  rfl
theorem a1O {elt:Expr}{gens:List Comprehension}{scope:Scope}{pos:Pos}{depth:Nat}{target iter:Expr}{ifs:List Expr}{it acc:Value}{env:Env}{A:Around}{R:Result→Shared→Prop}(hg:gens[depth]?=some ⟨target,iter,ifs,0⟩)
  (h0:codeAny (model G.prog G.w) A (.compLoop (.ListComp elt gens scope pos) depth it acc env) R s)
  (h:wpAny (model G.prog G.w) A (pyIter it) (fun it' s'=>codeAny (model G.prog G.w) A (.compLoop (.ListComp elt gens scope pos) depth it' acc env) R s')
   (notedBy (model G.prog G.w) A env fun x s'=>R (.error x) s') s) :
  codeAny (model G.prog G.w) A (.compStart (.ListComp elt gens scope pos) depth it acc env) R s:=by
 refine codeAny_of_tree ?_
 show wpAny _ _ ((compStart (.ListComp elt gens scope pos) depth it acc env).onRaise (fun x=>do noteFrame x env;standAt theWindowsPlace)) _ _ s
 refine wpAny_notedAt ?_
 unfold compStart
 simp only [show clausesOf (.ListComp elt gens scope pos)=gens from rfl,hg]
 show wpAny _ _ (ask >>= _) _ _ s
 refine c9L (wpAny_askSetting (wpAny_ite ?_))
 split
 ·first
   | exact c9L (c9M (c9M (And.intro rfl h0)))
   | exact c9M (And.intro rfl h0)
 ·first
   | exact c9L (wpAny_rule (c9L (d0p (c9L (d0n h (fun it' s' h'=>c9M (And.intro rfl h')) fun _ _ x=>x)))))
   | (refine c9L (wpAny_rule ?_);show wpAny _ _ (standAt iter.pos >>= _) _ _ s;exact c9L (d0p (c9L (d0n h (fun it' s' h'=>c9M (And.intro rfl h')) fun _ _ x=>x))))
noncomputable def AccIs (G:GC)(Γ:Ctx)(σ:Store)(oa:Nat→Addr)(Dd:Addr)(ys:List D)(s:Shared):Prop:=∃ vs:List Value,s.heap.PlainList Dd vs.toArray∧RL G Γ σ oa s vs ys
structure Kc (G:GC)(X:Addr→Prop)(s s':Shared):Prop where
 heap:∀ b o,b ∉ G.T→¬ X b→s.heap.get? b=some o→s'.heap.get? b=some o
 os:s'.os=s.os
 toks:s.toks≤s'.toks
 gens:∀ (i:Nat) (x:GenState),s.gens[i]?=some x→s'.gens[i]?=some x
theorem Kc.refl {X:Addr→Prop}:Kc G X s s:=⟨fun _ _ _ _ e=>e,rfl,c9n _,fun _ _ e=>e⟩
theorem Kc.trans {X:Addr→Prop}{s₁:Shared}(a:Kc G X s s₁)(b:Kc G X s₁ s'):Kc G X s s':=
 ⟨fun x o h1 h2 e=>b.heap x o h1 h2 (a.heap x o h1 h2 e),b.os.trans a.os,c9v a.toks b.toks,fun i x e=>b.gens i x (a.gens i x e)⟩
theorem Kc.mono {X Y:Addr→Prop}(h:∀ b,X b→Y b)(k:Kc G X s s'):Kc G Y s s':=⟨fun b o h1 h2=>k.heap b o h1 fun q=>h2 (h b q),k.os,k.toks,k.gens⟩
theorem Kp.kc {X:Addr→Prop}(k:Kp G s s'):Kc G X s s':=⟨fun b o h _ e=>k.heap b o h e,k.os,k.toks,k.gens⟩
theorem Kc.of {X:Addr→Prop}{h':Heap}{tk:Nat}(k:∀ b o,¬ X b→s.heap.get? b=some o→h'.get? b=some o)(ht:s.toks≤tk):Kc G X s { s with heap:=h',toks:=tk }:=⟨fun b o _=>k b o,rfl,ht,fun _ _ e=>e⟩
structure Apart (G:GC)(Γ:Ctx)(a:Addr):Prop where
 bad:Γ.bad a
 loc:a≠Γ.env.locals
 cell:∀ y,Γ.env.cells.lookup y≠some a
 tab:a ∉ G.T
 base:G.g.get? a=none
theorem AccIs.kp {Dd:Addr}{ys:List D}(A:AccIs G Γ σ oa Dd ys s)(S:St G Γ lvl sc σ oa s)(hT:Dd ∉ G.T)(k:Kp G s s'):AccIs G Γ σ oa Dd ys s':=by
 obtain⟨vs,⟨n,hp⟩,r⟩:=A
 exact⟨vs,⟨n,k.heap _ _ hT hp⟩,r.kp S k⟩
theorem AccIs.chg {Γ':Ctx}{oa':Nat→Addr}{Dd:Addr}{ys:List D}(A:AccIs G Γ σ oa Dd ys s)(hst:Γ'.st=Γ.st)(hk:∀ o,s.heap.get? Dd=some o→s'.heap.get? Dd=some o)(k:Chg (a0m Γ σ oa) (a0m Γ' σ' oa') s.heap s'.heap s.toks s'.toks):AccIs G Γ' σ' oa' Dd ys s':=by
 obtain⟨vs,⟨n,hp⟩,r⟩:=A
 refine⟨vs,⟨n,hk _ hp⟩,?_⟩
 show RepL (rc G Γ') _ _ _ _ _
 rw [show rc G Γ'=rc G Γ from c9o (RC.mk G.prog G.w) hst]
 exact r.chg k
theorem b9R (h:∀ x sl,σ.get x=some sl→σ'.get x=some sl){x:Nat}(hx:σ.isOwn x=true):σ'.isOwn x=true:=(a2I hx).elim fun sl q=>(a0X (h x sl q.1)).trans q.2
theorem AccIs.weaken' {Dd:Addr}{ys:List D}(A:AccIs G Γ σ' oa Dd ys s)(h:∀ x sl,σ.get x=some sl→σ'.get x=some sl):AccIs G Γ σ oa Dd ys s:=
 A.chg rfl (fun _ e=>e) ⟨c9n _,fun _ _ _ e=>e,fun b _ hb _ q=>hb (q.imp id fun q=>q.elim fun x q=>⟨x,b9R h q.1,q.2⟩)⟩
theorem Rep.butB {C:RC}{B:Addr→Prop}{h h':Heap}{n n':Nat}{a:Addr}{v:Value}{d:D}(r:Rep C B h n v d)(hb:B a)(hn:n≤n')(k:∀ b o,b≠a→h.get? b=some o→h'.get? b=some o):Rep C B h' n' v d:=
 r.keep hn fun b o hb'=>k b o fun q=>hb' (q ▸ hb)
noncomputable def c5L (ifs:List Expr)(env:Env):Sem Bool:=forIn ifs true fun c r=>if r=true then do let ok ← isTrue c env (eval c env);pure (ForInStep.yield ok) else pure (ForInStep.yield r)
structure LoopH (G:GC)(Γ:Ctx)(lvl:Nat)(sc:a0g)(σ:Store)(oa:Nat→Addr)(elt:Expr)(gens:List Comprehension)(scope:Scope)(pos:Pos)(depth:Nat)(target iter:Expr)(ifs:List Expr)(t:Tgt)(Dd I:Addr)(X:Addr→Prop)
  (fp:List Addr) (P:Nat→Nat→Value→Prop) (Stt:Nat→Heap→Prop) (n:Nat) (test:Store→Option Bool) (inner:Store→Option (List D)):Prop where
 hg:gens[depth]?=some ⟨target,iter,ifs,0⟩
 hg1:∀ g',gens[depth+1]?=some g'→g'.is_async=0
 ht:a3n G.nm sc t target=true
 aD:Apart G Γ Dd
 aI:Apart G Γ I
 hDI:Dd≠I
 XD:X Dd
 XL:X Γ.env.locals
 Xc:∀ x∈t.xs,∀ c,Γ.env.cells.lookup (G.nm x)=some c→X c
 XI:¬ X I
 Xbad:∀ b,X b→a0m Γ σ oa b
 walk:Wlk G.prog G.w Γ.A I fp n P Stt
 fp:∀ b∈fp,¬ X b∧b ∉ G.T
 it:∀ i h,Stt i h→∃ o,h.get? I=some o∧ItObj o
 tests:∀ (σ':Store) (s:Shared) (b:Bool),test σ'=some b→St G Γ lvl sc σ' oa s→Tr G Γ.A (c5L ifs Γ.env) s b
 body:∀ (σ':Store) (s:Shared) (ys r:List D) (Q:Unit→Shared→Prop) (E:Value→Shared→Prop),inner σ'=some r→a0M (ys++r).length=true→St G Γ lvl sc σ' oa s→AccIs G Γ σ' oa Dd ys s →
   (∀ s',St G Γ lvl sc σ' oa s'→AccIs G Γ σ' oa Dd (ys++r) s'→Kc G X s s'→Q () s')→wpAny (model G.prog G.w) Γ.A (b9Q elt gens scope pos depth (.ref Dd) Γ.env) Q E s
noncomputable def b8Y (G:GC)(Γ:Ctx)(σ:Store)(oa:Nat→Addr)(P:Nat→Nat→Value→Prop)(i:Nat)(ds:List D)(s:Shared):Prop:=∀ j tk v d,s.toks≤tk→P (i+j) tk v→ds[j]?=some d→Rep (rc G Γ) (a0m Γ σ oa) s.heap tk v d
theorem b0h {m n:Nat}(h:a0M n=true)(hm:m≤n):a0M m=true:=Nat.ble_eq_true_of_le (c9v hm (a1K h))
section
variable {elt:Expr}{gens:List Comprehension}{scope:Scope}{pos:Pos}{depth:Nat}{target iter:Expr}{ifs:List Expr}{t:Tgt}{Dd I:Addr}{X:Addr→Prop}{fp:List Addr}{P:Nat→Nat→Value→Prop}{Stt:Nat→Heap→Prop}{n:Nat}
 {test:Store→Option Bool} {inner:Store→Option (List D)} (L:LoopH G Γ lvl sc σ oa elt gens scope pos depth target iter ifs t Dd I X fp P Stt n test inner) {R:Result→Shared→Prop}
include L
theorem a8U {E:Value→Shared→Prop}(hE:E=notedBy (model G.prog G.w) Γ.A Γ.env fun e s'=>R (.error e) s')(h:wpAny (model G.prog G.w) Γ.A (pyNext (.ref I)) (fun r s₁=>match r with
   | none=>R (.ok .next) s₁
   | some v=>wpAny (model G.prog G.w) Γ.A (letOwnedTupleGo target (.ref I) v) (fun _ s₂=>wpAny (model G.prog G.w) Γ.A (assign target Γ.env v) (fun _ s₃=>wpAny (model G.prog G.w) Γ.A (c5L ifs Γ.env) (fun ok s₄=>match ok with
    | true=>wpAny (model G.prog G.w) Γ.A (b9Q elt gens scope pos depth (.ref Dd) Γ.env) (fun _ s₅=>codeAny (model G.prog G.w) Γ.A (.compLoop (.ListComp elt gens scope pos) depth (.ref I) (.ref Dd) Γ.env) R s₅) E s₄
    | false=>codeAny (model G.prog G.w) Γ.A (.compLoop (.ListComp elt gens scope pos) depth (.ref I) (.ref Dd) Γ.env) R s₄) E s₃) E s₂) E s₁) E s) :
  codeAny (model G.prog G.w) Γ.A (.compLoop (.ListComp elt gens scope pos) depth (.ref I) (.ref Dd) Γ.env) R s:=by
 refine codeAny_of_tree ?_
 show wpAny _ Γ.A ((compTurn (.ListComp elt gens scope pos) depth (.ref I) (.ref Dd) Γ.env).onRaise (fun x=>do noteFrame x Γ.env;theTreesLotGoes x)) _ _ s
 refine wpAny_noted ?_
 rw [a8T L.hg L.hg1,← hE]
 refine c9L (d0p (c9L (d0n h (fun r s₁ h₁=>?_) fun _ _ e=>e)))
 cases r with
 | none=>exact c9M h₁
 | some v=>
  refine c9L (d0n h₁ (fun _ s₂ h₂=>c9L (d0n h₂ (fun _ s₃ h₃=>c9L (d0n h₃ (fun ok s₄ h₄=>?_) fun _ _ e=>e)) fun _ _ e=>e)) fun _ _ e=>e)
  cases ok with
  | true=>exact c9L (d0n h₄ (fun _ s₅ h₅=>c9M ⟨rfl,h₅⟩) fun _ _ e=>e)
  | false=>exact c9M ⟨rfl,h₄⟩
noncomputable def c6l (σ:Store)(t:Tgt)(test:Store→Option Bool)(inner:Store→Option (List D))(d:D):Option (List D):=(a4d σ t d).bind fun σ'=>(test σ').bind fun b=>cnd b (inner σ')
noncomputable def c2V (G:GC)(Γ:Ctx)(elt:Expr)(gens:List Comprehension)(scope:Scope)(pos:Pos)(depth:Nat)(I Dd:Addr)(R:Result→Shared→Prop)(s:Shared):Prop:=
 codeAny (model G.prog G.w) Γ.A (.compLoop (.ListComp elt gens scope pos) depth (.ref I) (.ref Dd) Γ.env) R s
structure LoopEnd (G:GC)(Γ:Ctx)(lvl:Nat)(sc:a0g)(σ:Store)(oa:Nat→Addr)(Dd I:Addr)(X:Addr→Prop)(s₀:Shared)(ys:List D)(s₁:Shared)(h':Heap)(tk:Nat):Prop where
 st:St G Γ lvl sc σ oa s₁
 acc:AccIs G Γ σ oa Dd ys s₁
 kc:Kc G (fun b=>X b∨b=I) s₀ s₁
 keep:∀ b o,b≠I→s₁.heap.get? b=some o→h'.get? b=some o
 toks:s₁.toks≤tk
 it:∃ o,s₁.heap.get? I=some o∧ItObj o
theorem b3T {s₀:Shared}(ds:List D)(i:Nat)(s:Shared)(ys:List D)(rs:List (List D))(hn:i+ds.length=n)(hP:b8Y G Γ σ oa P i ds s)(S:St G Γ lvl sc σ oa s)(A:AccIs G Γ σ oa Dd ys s)(st:Stt i s.heap)(k:Kc G (fun b=>X b∨b=I) s₀ s)
  (hr:ds.mapM (fun d=>(a4d σ t d).bind fun σ'=>(test σ').bind fun b=>cnd b (inner σ'))=some rs) (hok:a0M (ys++rs.flatten).length=true)
  (hR:∀ (s₁:Shared) (h':Heap) (tk:Nat),LoopEnd G Γ lvl sc σ oa Dd I X s₀ (ys++rs.flatten) s₁ h' tk→R (.ok .next) { s₁ with heap:=h',toks:=tk }) :
  codeAny (model G.prog G.w) Γ.A (.compLoop (.ListComp elt gens scope pos) depth (.ref I) (.ref Dd) Γ.env) R s:=by
 refine a8U L rfl (c9F (n:=s.toks) (c9n _) ?_)
 induction ds generalizing i s ys rs with
 | nil=>
  cases a1M hr
  rw [List.flatten_nil,d0z] at hR
  have hn:i=n:=hn
  exact L.walk.done _ _ _ (hn ▸ st) fun h' tk k' htk=>hR s h' tk ⟨S,A,k,k',htk,L.it _ _ st⟩
 | cons d ds ih=>
  obtain⟨r,rs',hb,hrs,rfl⟩:=a4u hr
  refine a0j hb (clear% hb;fun σ' hb h=>?_)
  refine a0j h (clear% h;fun tb htb hr₁=>?_)
  refine (b3S hb).elim fun hbT Z1=>Z1.elim (fun hsub hown=>?_)
  have hok':a0M ((ys++r)++rs'.flatten).length=true:=by rw [d0A];exact hok
  have hin:i<n:=hn ▸ Nat.lt_add_of_pos_right (Nat.succ_pos _)
  refine L.walk.item i _ _ _ hin S.gst.tok st fun v h₁ tk₁ hPv st₁ k₁ htk₁=>?_
  have hb1:∀ a,(a=I)→Γ.bad a:=fun a q=>q ▸ L.aI.bad
  have S₁:St G Γ lvl sc σ oa { s with heap:=h₁,toks:=tk₁ }:=S.butP (P:=(·=I)) hb1 (fun q=>L.aI.loc q.symm) (fun y c e q=>L.aI.cell y (q ▸ e)) (fun _ q=>q ▸ L.aI.base) (fun _ q=>(L.it i _ st).elim fun o p=>⟨o,q ▸ p.1,p.2.ok⟩) k₁
   (fun _ q=>(L.it _ _ st₁).elim fun o p=>⟨o,q ▸ p.1⟩) htk₁
  have A₁:AccIs G Γ σ oa Dd ys { s with heap:=h₁,toks:=tk₁ }:=A.chg rfl (fun o=>k₁ _ o L.hDI) ⟨htk₁,fun b o hb=>k₁ b o fun q=>hb (.inl (hb1 b q)),fun _ _ h _=>h⟩
  refine a5r (L.it _ _ st₁) (a5X (W:=fun _=>true) S₁ L.ht (Rep.butB (hP 0 tk₁ v d htk₁ hPv rfl) (.inl L.aI.bad) (c9n _) k₁) hbT fun s₂ S₂ k₂ _=>?_)
  have k₂c:Kc G X { s with heap:=h₁,toks:=tk₁ } s₂:=⟨fun b o h1 h2 e=>k₂.heap b o (fun q=>h2 (q ▸ L.XL)) (fun x hx q=>h2 (L.Xc x hx b q)) e,k₂.os,k₂.toks,fun i x e=>(c9o (·[i]?) k₂.gens).trans e⟩
  have A₂:AccIs G Γ σ' oa Dd ys s₂:=A₁.chg rfl (fun o=>k₂.heap _ o L.aD.loc fun x _ q=>L.aD.cell _ q) ⟨k₂.toks,fun b o hb=>k₂.heap b o (fun q=>hb (.inl (q ▸ S.badL))) (fun x _ q=>hb (.inl (S.badC _ _ q))),fun b _ hb _ q=>hb (q.imp id fun q=>q.elim fun x q=>⟨x,hown x q.1,q.2⟩)⟩
  have fin:∀ s₄,St G Γ lvl sc σ' oa s₄→AccIs G Γ σ' oa Dd (ys++r) s₄→Kc G X { s with heap:=h₁,toks:=tk₁ } s₄ →
    codeAny (model G.prog G.w) Γ.A (.compLoop (.ListComp elt gens scope pos) depth (.ref I) (.ref Dd) Γ.env) R s₄:=fun s₄ S₄ A₄ kk=>by
   refine a8U L rfl (c9F (n:=s₄.toks) (c9n _) (ih (i+1) s₄ (ys++r) rs' ((Nat.succ_add_eq_add_succ ..).trans hn) (fun j tk v d htk hp hd=>?_) (S₄.forget hsub hown) (A₄.weaken' hsub) (L.walk.frame _ _ _ st₁ fun b hb o e=>kk.heap b o (L.fp b hb).2 (L.fp b hb).1 e)
    ⟨fun b o h1 h2 e=>kk.heap b o h1 (fun q=>h2 (.inl q)) (k₁ b o (fun q=>h2 (.inr q)) (k.heap b o h1 h2 e)),kk.os.trans k.os,c9v k.toks (c9v htk₁ kk.toks),fun i x e=>kk.gens i x (k.gens i x e)⟩ hrs hok' fun s₁ h' tk e=>hR s₁ h' tk (by rw [List.flatten_cons,← d0A];exact e)))
   have r:=hP (j+1) tk v d (c9v htk₁ (c9v kk.toks htk)) (by rw [Nat.add_comm j 1,← Nat.add_assoc];exact hp) hd
   exact (Rep.butB r (.inl L.aI.bad) (c9n _) k₁).keep (c9n _) fun b o hb=>kk.heap b o (fun q=>hb (.inl (S.badT b q))) fun q=>hb (L.Xbad b q)
  refine L.tests σ' s₂ tb htb S₂ _ _ fun s₃ a₃=>?_
  have A₃:=A₂.kp S₂ L.aD.tab a₃.kp
  cases tb with
  | false=>
   cases c9x hr₁
   exact fin s₃ (S₂.af a₃) (by rw [d0z];exact A₃) (k₂c.trans a₃.kp.kc)
  | true=>exact L.body σ' s₃ ys r _ _ hr₁ (b0h hok' ((List.sublist_append_left ..).length_le)) (S₂.af a₃) A₃ fun s₄ S₄ A₄ k₄=>fin s₄ S₄ A₄ ((k₂c.trans a₃.kp.kc).trans k₄)
end
end
end
section
noncomputable def b3U (o:Expr):Bool:=isT o .call&&isT (vw o).a .name&&(vw o).es.isEmpty&&(vw o).ks.isEmpty
noncomputable def a9W (id:Str):Bool:=!(id==("__debug__":Str))&&!(id==("__classdict__":Str))
noncomputable def a5Z (sc:a0g)(id:Str):Bool:=sc.lookup id==some .globalImplicit&&!(id==("__debug__":Str))
theorem a2O {sc:a0g}{id:Str}(h:a5Z sc id=true):sc.lookup id=some .globalImplicit∧(id==("__debug__":Str))=false:=⟨c9K (a0h h).1,a1L (a0h h).2⟩
noncomputable def a3M:List String:=["len","sum","min","max","sorted","isinstance"]
noncomputable def a1P:List String:=["range","type","bytes","enumerate","bool","int","float","complex","str","bytearray","list","tuple","dict","set","frozenset"]
noncomputable def a0Y:Array Nat:=#[14,14,4,1,1,9,0,64,0,1342177280,0,0,0,0,0,17,0,13,11,9,0,64,0,1342177280,0,0,0,0,0,17,1,1]
structure PatAt (h:Heap)(a ct:Addr):Prop where
 pat:∃ o x y,h.get? a=some o∧o.cls=.type "re.Pattern"∧o.dict=none∧o.data=.fields #[x,y,.int 1 0,.none,.none,.ref ct,.int 0 0]
 code:∃ o n,h.get? ct=some o∧o.data=.seq (a0Y.map fun (w:Nat)=>rawInt w) n
theorem PatAt.keep {h h':Heap}{a ct:Addr}(P:PatAt h a ct)(k:∀ b o,h.get? b=some o→h'.get? b=some o):PatAt h' a ct:=
 ⟨P.pat.elim fun o q=>q.elim fun x q=>q.elim fun y q=>⟨o,x,y,k _ _ q.1,q.2⟩,P.code.elim fun o q=>q.elim fun n q=>⟨o,n,k _ _ q.1,q.2⟩⟩
structure GlobsOK (G:GC):Prop where
 rx:∃ a ct,b6J G ("_twin_re_1":Str) (.ref a)∧PatAt G.g a ct
 fns:∀ n∈a3M,b6J G (Str.ofString n) (.builtin n)
 types:∀ n∈a1P,b6J G (Str.ofString n) (.type n)
noncomputable def arg (e:Expr)(i:Nat):Expr:=(vw e).es.getD i e
theorem es0 {α:Type}{l:List α}(h:l.length=0):l=[]:=List.eq_nil_of_length_eq_zero h
theorem es1 {α:Type}{l:List α}{d:α}(h:l.length=1):l=[l.getD 0 d]:=by
 cases l with
 | nil=>cases h
 | cons a l=>rw [es0 (Nat.succ.inj h)];rfl
theorem es2 {α:Type}{l:List α}{d:α}(h:l.length=2):l=[l.getD 0 d,l.getD 1 d]:=by
 cases l with
 | nil=>cases h
 | cons a l=>exact c9o (a :: ·) (es1 (Nat.succ.inj h))
theorem es3 {α:Type}{l:List α}{d:α}(h:l.length=3):l=[l.getD 0 d,l.getD 1 d,l.getD 2 d]:=by
 cases l with
 | nil=>cases h
 | cons a l=>exact c9o (a :: ·) (es2 (Nat.succ.inj h))
structure GCall (sc:a0g)(f:Str)(e:Expr)(es:List Expr)(ks:List Keyword):Prop where
 eq:∃ p q,e=.Call (.Name f p) es ks q
 glob:sc.lookup f=some .globalImplicit
 dbg:(f==("__debug__":Str))=false
 star:es.all a0B=true
noncomputable def b9S (sc:a0g)(f:Str)(e:Expr):Bool:=isT e .call&&(isT (vw e).a .name&&(vw (vw e).a).id==f)&&a5Z sc f&&(vw e).es.all a0B
theorem b3V {sc:a0g}{f:Str}{e:Expr}(h:b9S sc f e=true):GCall sc f e (vw e).es (vw e).ks:=by
 refine a0a h (clear% h;fun h h4=>?_)
 refine a0a h (clear% h;fun h h3=>?_)
 refine a0a h (clear% h;fun h1 h2=>?_)
 refine a0a h2 (clear% h2;fun h5 h6=>?_)
 have e1:e=.Call (vw e).a (vw e).es (vw e).ks (vw e).pos:=a0w h1
 have e2:(vw e).a=.Name (vw (vw e).a).id (vw (vw e).a).pos:=a0w h5
 rw [c9K h6] at e2
 exact⟨⟨_,_,e1.trans (c9o (Expr.Call · _ _ _) e2)⟩,(a2O h3).1,(a2O h3).2,h4⟩
noncomputable def isG (sc:a0g)(f:String)(n:Nat)(e:Expr):Bool:=b9S sc (Str.ofString f) e&&(vw e).ks.isEmpty&&(vw e).es.length==n
noncomputable abbrev a1Q (sc:a0g) (f:String) (e:Expr) (es:List Expr):Prop:=GCall sc (Str.ofString f) e es []
theorem a6a {sc:a0g}{f:String}{n:Nat}{e:Expr}(h:isG sc f n e=true):a1Q sc f e (vw e).es∧(vw e).es.length=n:=by
 refine a0a h (clear% h;fun h h3=>?_)
 refine a0a h (clear% h;fun h1 h2=>?_)
 have C:=b3V h1
 rw [d0B.mp h2] at C
 exact⟨C,c9K h3⟩
theorem b9T {sc:a0g}{f:String}{e:Expr}(h:isG sc f 1 e=true):a1Q sc f e [arg e 0]:=es1 (d:=e) (a6a h).2 ▸ (a6a h).1
theorem c8f {sc:a0g}{f:String}{e:Expr}(h:isG sc f 2 e=true):a1Q sc f e [arg e 0,arg e 1]:=es2 (d:=e) (a6a h).2 ▸ (a6a h).1
theorem c8H {sc:a0g}{f:String}{e:Expr}(h:isG sc f 3 e=true):a1Q sc f e [arg e 0,arg e 1,arg e 2]:=es3 (d:=e) (a6a h).2 ▸ (a6a h).1
structure MCall (m:Str)(e o:Expr)(es:List Expr):Prop where
 eq:∃ p q,e=.Call (.Attribute o m p) es [] q∧(p.endLine==q.line)=true
 base:b3U o=false
 star:es.all a0B=true
 short:es.length<20
noncomputable def a4S (e:Expr):Expr:=(vw (vw e).a).a
noncomputable def isM (m:String)(n:Nat)(e:Expr):Bool:=
 isT e .call&&(isT (vw e).a .attr&&(vw (vw e).a).id==Str.ofString m&&(vw (vw e).a).pos.endLine==(vw e).pos.line&&!(b3U (a4S e)))&&(vw e).ks.isEmpty&&(vw e).es.all a0B&&Nat.blt (vw e).es.length 20&&(vw e).es.length==n
theorem a5u {m:String}{n:Nat}{e:Expr}(h:isM m n e=true):MCall (Str.ofString m) e (a4S e) (vw e).es∧(vw e).es.length=n:=by
 refine a0a h (clear% h;fun h h6=>?_)
 refine a0a h (clear% h;fun h h5=>?_)
 refine a0a h (clear% h;fun h h4=>?_)
 refine a0a h (clear% h;fun h h3=>?_)
 refine a0a h (clear% h;fun h1 h=>?_)
 refine a0a h (clear% h;fun h h10=>?_)
 refine a0a h (clear% h;fun h h9=>?_)
 refine a0a h (clear% h;fun h7 h8=>?_)
 have e1:e=.Call (vw e).a (vw e).es (vw e).ks (vw e).pos:=a0w h1
 have e2:(vw e).a=.Attribute (a4S e) (vw (vw e).a).id (vw (vw e).a).pos:=a0w h7
 rw [c9K h8] at e2
 rw [d0B.mp h3] at e1
 exact⟨⟨⟨_,_,e1.trans (c9o (Expr.Call · _ _ _) e2),h9⟩,a1L h10,h4,c9B h5⟩,c9K h6⟩
theorem c8g {m:String}{e:Expr}(h:isM m 0 e=true):MCall (Str.ofString m) e (a4S e) []:=es0 (a5u h).2 ▸ (a5u h).1
theorem b6R {m:String}{e:Expr}(h:isM m 1 e=true):MCall (Str.ofString m) e (a4S e) [arg e 0]:=es1 (d:=e) (a5u h).2 ▸ (a5u h).1
theorem c2W {m:String}{e:Expr}(h:isM m 2 e=true):MCall (Str.ofString m) e (a4S e) [arg e 0,arg e 1]:=es2 (d:=e) (a5u h).2 ▸ (a5u h).1
theorem c8h {m:String}{e:Expr}(h:isM m 3 e=true):MCall (Str.ofString m) e (a4S e) [arg e 0,arg e 1,arg e 2]:=es3 (d:=e) (a5u h).2 ▸ (a5u h).1
noncomputable def isC (c:Const)(e:Expr):Bool:=isT e .const&&(vw e).k==c
theorem a1j {c:Const}{e:Expr}(h:isC c e=true):∃ n p,e=.Constant c n p:=⟨_,_,(a0w (a0h h).1).trans (c9o (Expr.Constant · _ _) (c9K (a0h h).2))⟩
noncomputable def a8G (nm:Nat→Str)(x:Nat)(e:Expr):Bool:=isN nm x e&&a9W (nm x)
noncomputable def b9U (sc:a0g)(n:String)(e:Expr):Bool:=(isT e .name&&(vw e).id==Str.ofString n)&&a5Z sc (Str.ofString n)
theorem a7T {sc:a0g}{n:String}{e:Expr}(h:b9U sc n e=true):(∃ p,e=.Name (Str.ofString n) p)∧a5Z sc (Str.ofString n)=true:=
 ⟨⟨_,(a0w (a0h (a0h h).1).1).trans (c9o (Expr.Name · _) (c9K (a0h (a0h h).1).2))⟩,(a0h h).2⟩
noncomputable def b3W (op:CmpOp)(e:Expr):Bool:=isT e .cmp&&(vw e).cs==[op]&&(vw e).es.length==1&&!(behindInMarks op (arg e 0))
theorem a4z {op:CmpOp}{e:Expr}(h:b3W op e=true):(∃ p,e=.Compare (vw e).a [op] [arg e 0] p)∧behindInMarks op (arg e 0)=false:=by
 refine a0a h (clear% h;fun h h4=>?_)
 refine a0a h (clear% h;fun h h3=>?_)
 refine a0a h (clear% h;fun h1 h2=>?_)
 have e1:e=.Compare (vw e).a (vw e).cs (vw e).es (vw e).pos:=a0w h1
 rw [c9K h2,es1 (d:=e) (c9K h3)] at e1
 exact⟨⟨_,e1⟩,a1L h4⟩
noncomputable def b8Z (op op':CmpOp)(e:Expr):Bool:=isT e .cmp&&(vw e).cs==[op,op']&&(vw e).es.length==2&&!(lastMarks [op,op'] [arg e 0,arg e 1])
theorem a8V {op op':CmpOp}{e:Expr}(h:b8Z op op' e=true):(∃ p,e=.Compare (vw e).a [op,op'] [arg e 0,arg e 1] p)∧lastMarks [op,op'] [arg e 0,arg e 1]=false:=by
 refine a0a h (clear% h;fun h h4=>?_)
 refine a0a h (clear% h;fun h h3=>?_)
 refine a0a h (clear% h;fun h1 h2=>?_)
 have e1:e=.Compare (vw e).a (vw e).cs (vw e).es (vw e).pos:=a0w h1
 rw [c9K h2,es2 (d:=e) (c9K h3)] at e1
 exact⟨⟨_,e1⟩,a1L h4⟩
noncomputable def b2G (e:Expr):Bool:=isT e .sub&&isT (vw e).b .slc&&(vw (vw e).b).st.isNone
theorem b6S {e:Expr}(h:b2G e=true):∃ p q,e=.Subscript (vw e).a (.Slice (vw (vw e).b).lo (vw (vw e).b).hi none q) p:=by
 refine a0a h (clear% h;fun h h3=>?_)
 refine a0a h (clear% h;fun h1 h2=>?_)
 have e1:e=.Subscript (vw e).a (vw e).b (vw e).pos:=a0w h1
 have e2:(vw e).b=.Slice (vw (vw e).b).lo (vw (vw e).b).hi (vw (vw e).b).st (vw (vw e).b).pos:=a0w h2
 rw [d0C.mp h3] at e2
 exact⟨_,_,e1.trans (c9o (Expr.Subscript _ · _) e2)⟩
noncomputable def gHd (e:Expr):Comprehension:=(vw e).gs.headD ⟨e,e,[],1⟩
noncomputable def isComp (e:Expr):Bool:=isT e .comp&&(gHd e).is_async==0&&a4w (gHd e).iter
theorem a8W {e:Expr}(h:isComp e=true):∃ p,e=.ListComp (vw e).a (⟨(gHd e).target,(gHd e).iter,(gHd e).ifs,0⟩ :: (vw e).gs.tail) (vw e).sc p:=by
 refine a0a (a0h h).1 fun h1 h2=>?_
 have e1:e=.ListComp (vw e).a (vw e).gs (vw e).sc (vw e).pos:=a0w h1
 refine⟨_,e1.trans (c9o (Expr.ListComp _ · _ _) ?_)⟩
 unfold gHd at h2 ⊢
 cases hg:(vw e).gs with
 | nil=>rw [hg] at h2;cases h2
 | cons g r=>
  rw [hg] at h2
  obtain⟨t,i,f,a⟩:=g
  have h2:a=0:=c9K h2
  rw [h2]
  rfl
noncomputable def b3X (e:Expr):Expr:=if isT e .fv then (vw e).a else e
noncomputable def b0i (e:Expr):Bool:=(isT e .fv&&(vw e).i==-1&&(vw e).st.isNone)||(isT e .const&&(match (vw e).k with
 | .str _=>true
 | _=>false))
noncomputable def c8I (e:Expr):Expr:=((vw e).ks.headD ⟨none,e,default⟩).value
noncomputable def a2i (x:Str)(a:Arguments):Bool:=
 a.posonlyargs.isEmpty&&a.vararg.isNone&&a.kwonlyargs.isEmpty&&a.kw_defaults.isEmpty&&a.kwarg.isNone&&a.defaults.isEmpty&&(match a.args with
 | []=>false
 | b :: r=>r.isEmpty&&b.arg==x&&b.annotation.isNone)
theorem b6T {p1 p3:List Arg}{p2 p5:Option Arg}{p4:List (Option Expr)}{p6:List Expr}{b:List Arg}{x:Arg}(h1:p1=[])(h2:p2=none)(h3:p3=[])(h4:p4=[])(h5:p5=none)(h6:p6=[])(h:b=[x]):(⟨p1,b,p2,p3,p4,p5,p6⟩:Arguments)={ posonlyargs:=[],args:=[x],vararg:=none,kwonlyargs:=[],kw_defaults:=[],kwarg:=none,defaults:=[] }:=by
 subst h1 h2 h3 h4 h5 h6 h;rfl
theorem b9V {x:Str}{l:List Arg}(h:(match l with
 | []=>false
 | b :: r=>r.isEmpty&&b.arg==x&&b.annotation.isNone)=true):∃ p,l=[{ arg:=x,annotation:=none,pos:=p }]:=by
 cases l with
 | nil=>exact absurd h c9p
 | cons b r=>
  obtain⟨y,an,p⟩:=b
  exact⟨p,by rw [d0B.mp (a0h (a:=r.isEmpty) (b:=y==x) (a0h (a:=r.isEmpty&&y==x) (b:=an.isNone) h).1).1,c9K (a0h (a:=r.isEmpty) (b:=y==x) (a0h (a:=r.isEmpty&&y==x) (b:=an.isNone) h).1).2,d0C.mp (a0h (a:=r.isEmpty&&y==x) (b:=an.isNone) h).2]⟩
theorem a3W {x:Str}{ps:Arguments}(h:a2i x ps=true):∃ p,ps={ posonlyargs:=[],args:=[{ arg:=x,annotation:=none,pos:=p }],vararg:=none,kwonlyargs:=[],kw_defaults:=[],kwarg:=none,defaults:=[] }:=by
 have h6:=a0h h
 have h5:=a0h h6.1
 have h4:=a0h h5.1
 have h3:=a0h h4.1
 have h2:=a0h h3.1
 have h1:=a0h h2.1
 refine (b9V h6.2).elim fun p e=>⟨p,?_⟩
 have q:=b6T (d0B.mp h1.1) (d0C.mp h1.2) (d0B.mp h2.2) (d0B.mp h3.2) (d0C.mp h4.2) (d0B.mp h5.2) e
 clear e h1 h2 h3 h4 h5 h6 h
 cases ps
 exact q
noncomputable def b1o (x t:Str)(s:Scope):Bool:=s.kind==.function&&s.names==[(x,.local),(t,.free)]&&!s.isGenerator&&!s.isCoroutine&&!(x==t)&&x==⟨#[106]⟩
noncomputable def isR1 (e:PE):Bool:=e.pv.isR1
theorem c6m {e:PE}(h:isR1 e=true):∃ a,e=.range1 a:=by
 unfold isR1 at h
 cases hv:e.pv with
 | r1 a=>exact⟨a,a5U hv⟩
 | _=>rw [hv] at h;exact absurd h c9p
noncomputable def c2X (nm:Nat→Str)(sc:a0g)(t x:Nat)(e:Expr):Bool:=
 isT e .lam&&!((vw e).pos.col==37)&&a2i (nm x) (vw e).ps&&b1o (nm x) (nm t) (vw e).sc&&isT (vw e).a .sub&&a8G nm t (vw (vw e).a).a&&a8G nm x (vw (vw e).a).b&&a3Q sc==some false&&sc.lookup (nm t)==some .cell
structure LamE (nm:Nat→Str)(sc:a0g)(t x:Nat)(e:Expr)(ps:Arguments)(scope:Scope):Prop where
 eq:∃ p p1 p2 q,e=.Lambda ps (.Subscript (.Name (nm t) p) (.Name (nm x) p1) p2) scope q∧(q.col==37)=false
 params:a2i (nm x) ps=true
 scope:b1o (nm x) (nm t) scope=true
 ot:a9W (nm t)=true
 ox:a9W (nm x)=true
 lam:a3Q sc=some false
 cell:sc.lookup (nm t)=some .cell
theorem c5M {nm:Nat→Str}{sc:a0g}{t x:Nat}{e:Expr}(h:c2X nm sc t x e=true):LamE nm sc t x e (vw e).ps (vw e).sc:=by
 refine a0a h (clear% h;fun h h9=>?_)
 refine a0a h (clear% h;fun h h8=>?_)
 refine a0a h (clear% h;fun h h7=>?_)
 refine a0a h (clear% h;fun h h6=>?_)
 refine a0a h (clear% h;fun h h5=>?_)
 refine a0a h (clear% h;fun h h4=>?_)
 refine a0a h (clear% h;fun h h3=>?_)
 refine a0a h (clear% h;fun h1 h2=>?_)
 have e1:e=.Lambda (vw e).ps (vw e).a (vw e).sc (vw e).pos:=a0w h1
 have e2:(vw e).a=.Subscript (vw (vw e).a).a (vw (vw e).a).b (vw (vw e).a).pos:=a0w h5
 rw [a1a (a0h h6).1,a1a (a0h h7).1] at e2
 exact⟨⟨_,_,_,_,e1.trans (c9o (Expr.Lambda _ · _ _) e2),a1L h2⟩,h3,h4,(a0h h6).2,(a0h h7).2,c9K h8,c9K h9⟩
noncomputable def b9a (fv:List Nat)(x:Nat)(body:PE):Option Nat:=body.pv.asIdx.bind fun q=>(a5C q.1).bind fun t=>(a5C q.2).bind fun y=>grd (fv==[t]&&y==x) (some t)
theorem b1p {e:PE}{x:Nat}(h:a5C e=some x):e=.var x:=by
 unfold a5C at h
 cases hv:e.pv with
 | var y=>rw [hv] at h;exact (a5U hv).trans (c9o PE.var (c9x h))
 | _=>rw [hv] at h;exact a0e h
theorem b6U {e:PE}{q:PE×PE}(h:e.pv.asIdx=some q):e=.idx q.1 q.2:=by
 cases hv:e.pv with
 | idx a b=>rw [hv] at h;exact c9x h ▸ a5U hv
 | _=>rw [hv] at h;exact a0e h
theorem c2Y {fv:List Nat}{x t:Nat}{body:PE}(h:b9a fv x body=some t):fv=[t]∧body=.idx (.var t) (.var x):=by
 refine a0j h (clear% h;fun q h0 h=>?_)
 refine a0j h (clear% h;fun t' h1 h=>?_)
 refine a0j h (clear% h;fun y h2 h=>?_)
 refine a0J h (clear% h;fun h3 h=>?_)
 refine a0a h3 (clear% h3;fun h4 h5=>?_)
 rw [b6U h0,b1p h1,b1p h2,c9K h5,← h]
 exact⟨c9K h4,rfl⟩
noncomputable def c9k (nm:Nat→Str)(sc:a0g)(fv:List Nat)(x:Nat)(body:PE)(e:Expr):Bool:=
 b9S sc ("sorted":Str) e&&(vw e).es.length==1&&(vw e).ks.length==1&&((vw e).ks.headD ⟨none,e,default⟩).arg==some ("key":Str)&&(match b9a fv x body with
  | none=>false
  | some t=>c2X nm sc t x (c8I e))
noncomputable def c2Z (x:Str)(e:Expr):Bool:=isT e .name&&(vw e).id==x
theorem a7U {x:Str}{e:Expr}(h:c2Z x e=true):∃ p,e=.Name x p:=⟨_,(a0w (a0h h).1).trans (c9o (Expr.Name · _) (c9K (a0h h).2))⟩
noncomputable def b0j (s:Scope):Bool:=s.kind==.function&&s.names==[(("_m":Str),.local)]&&!s.isGenerator&&!s.isCoroutine
noncomputable def b9W (g:Expr):Bool:=isM "group" 1 g&&c2Z ("_m":Str) (a4S g)&&isC (.int 1) (arg g 0)
noncomputable def b1q (b:Expr):Bool:=isT b .bin&&(vw b).op==.Add&&isC (.str ⟨#[92]⟩) (vw b).a&&isT (vw b).b .bop&&(vw (vw b).b).bo==.Or&&(vw (vw b).b).es.length==2&&b9W ((vw (vw b).b).es.getD 0 b)&&isC (.str Str.empty) ((vw (vw b).b).es.getD 1 b)
noncomputable def c8J (sc:a0g)(e:Expr):Bool:=isT e .lam&&!((vw e).pos.col==37)&&a2i ("_m":Str) (vw e).ps&&b0j (vw e).sc&&a3Q sc==some true&&b1q (vw e).a
noncomputable def c8i (sc:a0g)(e:Expr):Bool:=isM "sub" 2 e&&c2Z ("_twin_re_1":Str) (a4S e)&&a5Z sc ("_twin_re_1":Str)&&c8J sc (arg e 0)
noncomputable def c3a (e:Expr):Bool:=isM "replace" 2 e&&isC (.str ⟨#[45]⟩) (arg e 0)&&isC (.str ⟨#[92,45]⟩) (arg e 1)&&isM "replace" 2 (a4S e)&&isC (.str ⟨#[92]⟩) (arg (a4S e) 0)&&isC (.str ⟨#[92,92]⟩) (arg (a4S e) 1)&&c2Z ("s":Str) (a4S (a4S e))
noncomputable def b9X (s:Scope):Bool:=s.kind==.function&&s.names==[((".0":Str),.local),(("s":Str),.local)]&&!s.isCoroutine
noncomputable def c8j (nm:Nat→Str)(sc:a0g)(x:Nat)(g:Expr):Bool:=isT g .gen&&(vw g).pos.col==37&&(vw g).gs.length==1&&c2Z ("s":Str) (gHd g).target&&a8G nm x (gHd g).iter&&(gHd g).ifs.isEmpty&&(gHd g).is_async==0&&b9X (vw g).sc&&a3Q sc==some true&&c3a (vw g).a
noncomputable def c8k (nm:Nat→Str)(sc:a0g)(x:Nat)(e:Expr):Bool:=isM "join" 1 e&&isC (.str ⟨#[45]⟩) (a4S e)&&c8j nm sc x (arg e 0)
mutual
noncomputable def mE (nm:Nat→Str)(sc:a0g)(pe:PE)(e:Expr):Bool:=match pe with
 | .none=>isC .none e
 | .bool b=>isC (.bool b) e
 | .int i=>isC (.int i) e
 | .str s=>isC (.str s) e
 | .bytes l=>isC (.bytes l) e
 | .var x=>a8G nm x e
 | .typ n=>b9U sc n e&&a1P.contains n
 | .bin op a b=>isT e .bin&&(vw e).op==op&&mE nm sc a (vw e).a&&mE nm sc b (vw e).b
 | .neg a=>isT e .un&&(vw e).uo==.USub&&mE nm sc a (vw e).a
 | .ite t a b=>isT e .ite&&mT nm sc t (vw e).a&&mE nm sc a (vw e).b&&mE nm sc b (vw e).c
 | .list es=>isT e .list&&(vw e).es.all a0B&&mEs nm sc es (vw e).es
 | .tup es=>isT e .tup&&(vw e).es.all a0B&&mEs nm sc es (vw e).es
 | .cmp op a b=>b3W op e&&mE nm sc a (vw e).a&&mE nm sc b (arg e 0)
 | .idx a i=>isT e .sub&&mE nm sc a (vw e).a&&mE nm sc i (vw e).b
 | .slice a lo hi=>b2G e&&mE nm sc a (vw e).a&&mO nm sc lo (vw (vw e).b).lo&&mO nm sc hi (vw (vw e).b).hi
 | .comp fv elt t iter ifs gs=>isComp e&&a3o nm sc (vw e).sc fv&&mI nm sc iter (gHd e).iter&&a3n nm (vw e).sc.names t (gHd e).target&&c2z nm (a4e sc (vw e).sc.names) ifs (gHd e).ifs &&
   mGs nm (a4e sc (vw e).sc.names) (vw e).sc.names gs (vw e).gs.tail&&mE nm (a4e sc (vw e).sc.names) elt (vw e).a
 | .call f args kw=>b9S sc (nm f) e&&mEs nm sc args (vw e).es&&mKw nm sc kw (vw e).ks
 | .len a=>isG sc "len" 1 e&&mE nm sc a (arg e 0)
 | .sum a=>isG sc "sum" 1 e&&mE nm sc a (arg e 0)
 | .sorted a=>isG sc "sorted" 1 e&&mE nm sc a (arg e 0)
 | .rep1 a y=>isM "replace" 3 e&&mE nm sc a (a4S e)&&a8G nm y (arg e 0)&&isC (.str Str.empty) (arg e 1)&&isC (.int 1) (arg e 2)
 | .count a b=>isM "count" 1 e&&mE nm sc a (a4S e)&&mE nm sc b (arg e 0)
 | .find a b lo hi=>isM "find" 3 e&&mE nm sc a (a4S e)&&mE nm sc b (arg e 0)&&mE nm sc lo (arg e 1)&&mE nm sc hi (arg e 2)
 | .resub x=>c8i sc e&&a8G nm x (arg e 1)
 | .joinEsc x=>c8k nm sc x e
 | .bytesOf a=>isG sc "bytes" 1 e&&mE nm sc a (arg e 0)
 | .typeOf a=>isG sc "type" 1 e&&mE nm sc a (arg e 0)
 | .replace a b c=>isM "replace" 2 e&&mE nm sc a (a4S e)&&mE nm sc b (arg e 0)&&mE nm sc c (arg e 1)
 | .join a b=>isM "join" 1 e&&mE nm sc a (a4S e)&&mE nm sc b (arg e 0)
 | .isascii a=>isM "isascii" 0 e&&mE nm sc a (a4S e)
 | .btranslate a b c=>isM "translate" 1 e&&isM "maketrans" 2 (arg e 0)&&b9U sc "bytes" (a4S (arg e 0))&&mE nm sc a (a4S e)&&mE nm sc b (arg (arg e 0) 0)&&mE nm sc c (arg (arg e 0) 1)
 | .encode a=>isM "encode" 1 e&&mE nm sc a (a4S e)&&isC (.str (Str.ofString "ascii")) (arg e 0)
 | .fstr es=>isT e .fstr&&Nat.blt 1 (vw e).es.length&&mPs nm sc es (vw e).es
 | _=>false
noncomputable def mT (nm:Nat→Str)(sc:a0g)(pe:PE)(e:Expr):Bool:=match pe with
 | .not a=>isT e .un&&(vw e).uo==.Not&&mT nm sc a (vw e).a
 | .and es=>isT e .bop&&(vw e).bo==.And&&mBs nm sc es (vw e).es
 | .or es=>isT e .bop&&(vw e).bo==.Or&&mBs nm sc es (vw e).es
 | .ite t a b=>isT e .ite&&mT nm sc t (vw e).a&&mT nm sc a (vw e).b&&mT nm sc b (vw e).c
 | .cmp op a b=>b3W op e&&mE nm sc a (vw e).a&&mE nm sc b (arg e 0)
 | .cmp2 a op₁ b op₂ c=>b8Z op₁ op₂ e&&mE nm sc a (vw e).a&&mE nm sc b (arg e 0)&&mE nm sc c (arg e 1)
 | .bool b=>isC (.bool b) e
 | .var x=>a8G nm x e
 | .call f args kw=>b9S sc (nm f) e&&mEs nm sc args (vw e).es&&mKw nm sc kw (vw e).ks
 | .isascii a=>isM "isascii" 0 e&&mE nm sc a (a4S e)
 | .isStr a=>isG sc "isinstance" 2 e&&mE nm sc a (arg e 0)&&b9U sc "str" (arg e 1)
 | .idx a i=>isT e .sub&&mE nm sc a (vw e).a&&mE nm sc i (vw e).b
 | _=>false
noncomputable def mBs (nm:Nat→Str)(sc:a0g)(pes:PEs)(es:List Expr):Bool:=match pes with
 | .nil=>es.isEmpty
 | .cons pe pes=>!es.isEmpty&&mT nm sc pe (es.headD default)&&mBs nm sc pes es.tail
noncomputable def c2z (nm:Nat→Str)(sc:a0g)(pes:PEs)(es:List Expr):Bool:=match pes with
 | .nil=>es.isEmpty
 | .cons pe pes=>!es.isEmpty&&mT nm sc pe (es.headD default)&&c2z nm sc pes es.tail
noncomputable def mEs (nm:Nat→Str)(sc:a0g)(pes:PEs)(es:List Expr):Bool:=match pes with
 | .nil=>es.isEmpty
 | .cons pe pes=>!es.isEmpty&&mE nm sc pe (es.headD default)&&mEs nm sc pes es.tail
noncomputable def mPs (nm:Nat→Str)(sc:a0g)(pes:PEs)(es:List Expr):Bool:=match pes with
 | .nil=>es.isEmpty
 | .cons pe pes=>!es.isEmpty&&b0i (es.headD default)&&mE nm sc pe (b3X (es.headD default))&&mPs nm sc pes es.tail
noncomputable def mKw (nm:Nat→Str)(sc:a0g)(po:PO)(ks:List Keyword):Bool:=match po with
 | .no=>ks.isEmpty
 | .yes pe=>ks.length==1&&(ks.headD ⟨none,default,default⟩).arg==some ("strict_mode":Str)&&mE nm sc pe (ks.headD ⟨none,default,default⟩).value
noncomputable def mO (nm:Nat→Str)(sc:a0g)(po:PO)(o:Option Expr):Bool:=match po with
 | .no=>o.isNone
 | .yes pe=>o.isSome&&mE nm sc pe (o.getD default)
noncomputable def mI (nm:Nat→Str)(sc:a0g)(pe:PE)(e:Expr):Bool:=match pe with
 | .range1 a=>isG sc "range" 1 e&&mE nm sc a (arg e 0)
 | .range2 a b=>isG sc "range" 2 e&&mE nm sc a (arg e 0)&&mE nm sc b (arg e 1)
 | .range3 a b c=>isG sc "range" 3 e&&mE nm sc a (arg e 0)&&mE nm sc b (arg e 1)&&mE nm sc c (arg e 2)
 | .var x=>a8G nm x e
 | .idx a i=>isT e .sub&&mE nm sc a (vw e).a&&mE nm sc i (vw e).b
 | .slice a lo hi=>b2G e&&mE nm sc a (vw e).a&&mO nm sc lo (vw (vw e).b).lo&&mO nm sc hi (vw (vw e).b).hi
 | .call f args kw=>b9S sc (nm f) e&&mEs nm sc args (vw e).es&&mKw nm sc kw (vw e).ks
 | _=>false
noncomputable def mGs (nm:Nat→Str)(sc names:a0g)(pgs:PGs)(gs:List Comprehension):Bool:=match pgs with
 | .nil=>gs.isEmpty
 | .cons t iter ifs pgs=>(gs.headD ⟨default,default,[],1⟩).is_async==0&&a4w (gs.headD ⟨default,default,[],1⟩).iter&&mI nm sc iter (gs.headD ⟨default,default,[],1⟩).iter&&a3n nm names t (gs.headD ⟨default,default,[],1⟩).target &&
   c2z nm sc ifs (gs.headD ⟨default,default,[],1⟩).ifs&&mGs nm sc names pgs gs.tail
end
end
section
section
variable (G:GC)(F:Fns)(lvl:Nat)
noncomputable def EvJ (sc:a0g)(pe:PE)(e:Expr):Prop:=∀ (Γ:Ctx) (σ:Store) (oa:Nat→Addr) (s:Shared) (d:D),St G Γ lvl sc σ oa s→evE F σ pe=some d→Ev G Γ σ oa (strict σ pe) (eval e Γ.env) s d
noncomputable def TsJ (sc:a0g)(pe:PE)(e:Expr):Prop:=∀ (Γ:Ctx) (σ:Store) (oa:Nat→Addr) (s:Shared) (b:Bool),St G Γ lvl sc σ oa s→evT F σ pe=some b→Tr G Γ.A (PySem.isTrue e Γ.env (eval e Γ.env)) s b
noncomputable def b6s (sc:a0g)(pes:PEs)(es:List Expr):Prop:=∀ (Γ:Ctx) (σ:Store) (oa:Nat→Addr) (s:Shared) (b:Bool),St G Γ lvl sc σ oa s→b2s F σ pes=some b→Tr G Γ.A (c5L es Γ.env) s b
noncomputable def It (Γ:Ctx)(σ:Store)(oa:Nat→Addr)(st:Bool)(e:Expr)(s:Shared)(ds:List D):Prop:=
 ∀ (Q E:Value→Shared→Prop),(∀ I fp P Stt s',Af G s s'→Wk G Γ σ oa st ds s s' I fp P Stt→Q (.ref I) s')→wpAny (model G.prog G.w) Γ.A (eval e Γ.env) (fun v s₁=>wpAny (model G.prog G.w) Γ.A (pyIter v) Q E s₁) E s
noncomputable def a3q (sc:a0g)(pe:PE)(e:Expr):Prop:=∀ (Γ:Ctx) (σ:Store) (oa:Nat→Addr) (s:Shared) (ds:List D),St G Γ lvl sc σ oa s→evI F σ pe=some ds→It G Γ σ oa (forOk σ pe) e s ds
noncomputable def kfE (elt:PE):Store→Option (List D):=fun σ''=>grd (strict σ'' elt) ((evE F σ'' elt).map fun d=>[d])
structure GsH (Γ:Ctx)(sc names:a0g)(σ:Store)(oa:Nat→Addr)(Dd:Addr)(X:Addr→Prop)(ys r:List D)(s:Shared):Prop where
 aD:Apart G Γ Dd
 XD:X Dd
 XL:X Γ.env.locals
 Xc:∀ x c,a2S names x=true→Γ.env.cells.lookup x=some c→X c
 Xb:∀ b,X b→Γ.bad b
 ok:a0M (ys++r).length=true
 st:St G Γ lvl sc σ oa s
 acc:AccIs G Γ σ oa Dd ys s
noncomputable def GsJ (sc names:a0g)(elt':PE)(elt:Expr)(gs:PGs)(gs':List Comprehension):Prop:=
 ∀ (gens:List Comprehension) (scope:Scope) (pos:Pos) (depth:Nat),gens.drop (depth+1)=gs'→∀ (Γ:Ctx) (σ:Store) (oa:Nat→Addr) (Dd:Addr) (X:Addr→Prop) (s:Shared) (ys r:List D),
  c2v F σ gs (kfE F elt')=some r→GsH G lvl Γ sc names σ oa Dd X ys r s →
  ∀ (Q:Unit→Shared→Prop) (E:Value→Shared→Prop),(∀ s',St G Γ lvl sc σ oa s'→AccIs G Γ σ oa Dd (ys++r) s'→Kc G X s s'→Q () s') →
  wpAny (model G.prog G.w) Γ.A (b9Q elt gens scope pos depth (.ref Dd) Γ.env) Q E s
end
section
variable {G:GC}{F:Fns}{lvl:Nat}{Γ:Ctx}{sc names:a0g}{σ σ₀ σ':Store}{oa:Nat→Addr}{s s':Shared}
theorem a2P {e:Expr}{env:Env}{x:Value}(h:a4w e=true):foldedSetIterable e env x=pure x:=by
 cases e with
 | Set=>exact absurd h c9p
 | _=>rfl
theorem Apart.plus {a:Addr}{P:Addr→Prop}(h:Apart G Γ a):Apart G (Γ.plusP P) a:=⟨.inl h.bad,h.loc,h.cell,h.tab,h.base⟩
theorem b6V {α:Type}{l r:List α}{x:α}{k:Nat}(h:l.drop k=x :: r):l[k]?=some x∧l.drop (k+1)=r:=by
 have h1:(l.drop k)[0]?=some x:=c9o (·[0]?) h
 rw [List.getElem?_drop] at h1
 refine⟨h1,?_⟩
 have h2:(l.drop k).drop 1=r:=c9o (List.drop 1) h
 rw [List.drop_drop] at h2
 exact h2
theorem a6b {nm:Nat→Str}(hsub:∀ x,a2S names x=true→a2S sc x=true){xs:List Nat}{es:List Expr}(h:a4x nm names xs es=true):a4x nm sc xs es=true∧∀ x∈xs,a2S names (nm x)=true:=by
 induction xs generalizing es with
 | nil=>exact⟨h,nofun⟩
 | cons x xs ih=>
  cases es with
  | nil=>exact absurd h c9p
  | cons e es=>
   refine a0a (a:=isN nm x e&&a2S names (nm x)) h fun h h3=>?_
   refine a0a h (clear% h;fun h1 h2=>?_)
   exact⟨d0t.mpr ⟨d0t.mpr ⟨h1,hsub _ h2⟩,(ih h3).1⟩,fun y hy=>(c9U.mp hy).elim (fun q=>q ▸ h2) ((ih h3).2 y)⟩
theorem a7e {nm:Nat→Str}(hsub:∀ x,a2S names x=true→a2S sc x=true){t:Tgt}{e:Expr}(h:a3n nm names t e=true):a3n nm sc t e=true∧∀ x∈t.xs,a2S names (nm x)=true:=by
 cases t with
 | one x=>
  refine a0a h (clear% h;fun h1 h2=>?_)
  exact⟨d0t.mpr ⟨h1,hsub _ h2⟩,fun y hy=>(d0i.mp hy) ▸ h2⟩
 | many xs=>
  refine a0a h (clear% h;fun h1 h2=>?_)
  exact⟨d0t.mpr ⟨h1,(a6b hsub h2).1⟩,(a6b hsub h2).2⟩
theorem c3b {elt':PE}{elt:Expr}(hE:EvJ G F lvl sc elt' elt):GsJ G F lvl sc names elt' elt .nil []:=by
 intro gens scope pos depth hd Γ σ oa Dd X s ys r hev H Q E hQ
 have hg:gens[depth+1]?=none:=List.getElem?_eq_none (List.drop_eq_nil_iff.mp hd)
 unfold b9Q
 rw [hg]
 refine (a0N (show grd _ _ = _ from hev)).elim fun hst h=>?_
 refine a2p h (clear% h;fun d hd' Z1=>?_)
 subst Z1
 refine c9L (hE _ _ _ _ _ H.st hd' _ _ fun v s₁ R=>c9L ?_)
 have S₁:=H.st.af R.af
 have lok:∀ (n:Nat) (w:Array Value),a7F { cls:=.type "list",data:=.seq w n }:=fun n w=>Flat.ok fun vs q=>nomatch q
 obtain⟨vs,⟨n,hp⟩,r⟩:=H.acc.kp H.st H.aD.tab R.af.kp
 refine wpAny_list_append_plain (items:=vs.toArray) ⟨n,hp⟩ (fun h' hl hs=>c9M ?_) ?_
 ·have k:∀ b o,b≠Dd→s₁.heap.get? b=some o→h'.get? b=some o:=fun b o hb=>hs.extBut b o hb
  refine hl.elim (clear% hl;fun n' hl=>?_)
  have hl:h'.get? Dd=some { cls:=.type "list",data:=.seq (vs++[v]).toArray n' }:=hl.trans (by rw [List.push_toArray])
  exact hQ _ (S₁.butP (tk:=s₁.toks) (P:=(·=Dd)) (fun _ q=>q ▸ H.aD.bad) (fun q=>H.aD.loc q.symm) (fun y c e q=>H.aD.cell y (q ▸ e)) (fun _ q=>q ▸ H.aD.base) (fun _ q=>⟨_,q ▸ hp,lok _ _⟩) k (fun _ q=>⟨_,q ▸ hl⟩) (c9n _))
   ⟨vs++[v],⟨n',hl⟩,(r.snoc (R.deep hst)).keep (c9n _) fun b o hb=>k b o fun q=>hb (.inl (q ▸ H.aD.bad))⟩
   ⟨fun b o h1 h2 e=>k b o (fun q=>h2 (q ▸ H.XD)) (R.af.kp.heap b o h1 e),R.af.kp.os,R.af.kp.toks,R.af.kp.gens⟩
 ·rw [c9I,r.length]
  exact Nat.le_of_lt (c9m (by rw [d0D];exact c9X _) (a0z H.ok))
theorem b9Y {elt':PE}{elt:Expr}{t:Tgt}{t':Expr}{iter:PE}{iter':Expr}{ifs:PEs}{ifs':List Expr}{gs:PGs}{gs':List Comprehension}(ht:a3n G.nm names t t'=true)(hsub:∀ x,a2S names x=true→a2S sc x=true)
  (hset:a4w iter'=true) (hasync:∀ g∈gs',g.is_async=0)
  (hI:a3q G F lvl sc iter iter') (hT:b6s G F lvl sc ifs ifs') (hG:GsJ G F lvl sc names elt' elt gs gs'):GsJ G F lvl sc names elt' elt (.cons t iter ifs gs) (⟨t',iter',ifs',0⟩ :: gs'):=by
 intro gens scope pos depth hd Γ σ oa Dd X s ys r hev H Q E hQ
 refine (b6V hd).elim fun hg hd2=>?_
 unfold b9Q
 rw [hg]
 refine a0j (show (evI F σ iter).bind _ = _ from hev) fun items hit h=>?_
 refine a2p h (clear% h;fun rs hrs Z1=>?_)
 subst Z1
 refine (a7e hsub ht).elim fun ht' htx=>?_
 have S:=H.st
 have hXa:∀ b,X b→∃ o,s.heap.get? b=some o:=fun b hb=>S.alloc b (.inl (H.Xb b hb))
 refine c9L (d0n (hI _ _ _ _ _ S hit _ E fun I fp P Stt s₂ a₂ W=>?_) (fun v s₁ h₁=>c9L (d0p (c9L (wpAny_of_eq (a2P hset) (c9L (c9J h₁)))))) fun _ _ e=>e)
 have k₂:=a₂.kp
 have hIn:=W.newI.1
 have oldI:=W.old I W.fpI
 have S₂:St G (Γ.plus I) lvl sc σ oa s₂:=S.plusKp hIn k₂ a₂.gst oldI.1
 have notI:∀ b,Γ.bad b→b≠I:=fun b hb=>(S.alloc _ (.inl hb)).elim fun o e=>a0f hIn e
 have aI:Apart G (Γ.plus I) I:=⟨.inr rfl,fun q=>notI _ S.badL q.symm,fun y q=>notI _ (S.badC y I q) rfl,oldI.2,a4Z S hIn⟩
 have A₂':AccIs G (Γ.plus I) σ oa Dd ys s₂:=H.acc.chg rfl (fun o=>k₂.heap _ o H.aD.tab) (b0a (fun _ q=>q ▸ hIn) k₂.toks (a8H S k₂))
 have hDI:Dd≠I:=(hXa Dd H.XD).elim fun o e=>a0f hIn e
 refine c9L (wpAny_runOwn ?_)
 have L:LoopH G (Γ.plus I) lvl sc σ oa elt gens scope pos (depth+1) t' iter' ifs' t Dd I X fp P Stt items.length (fun σ'=>b2s F σ' ifs) (fun σ'=>c2v F σ' gs (kfE F elt')):={
  hg:=hg
  hg1:=fun g' hg'=>hasync g' (hd2 ▸ List.mem_of_getElem? ((List.getElem?_drop (i:=depth+1+1) (j:=0)).trans hg'))
  ht:=ht',aD:=H.aD.plus,aI:=aI,hDI:=hDI,XD:=H.XD,XL:=H.XL
  Xc:=fun x hx c hc=>H.Xc _ c (htx x hx) hc
  XI:=fun q=>(hXa I q).elim fun o e=>a0f hIn e rfl
  Xbad:=fun b hb=>.inl (.inl (H.Xb b hb))
  walk:=W.walks
  fp:=fun b hb=>⟨fun q=>W.frm b hb (H.Xb b q),(W.old b hb).2⟩
  it:=W.iter
  tests:=fun σ' s b hb S'=>hT _ _ _ _ _ S' hb
  body:=fun σ' s₃ ys r Q E hr hok' S' A' hQ'=>hG _ _ _ _ hd2 _ _ _ _ X _ _ _ hr ⟨H.aD.plus,H.XD,H.XL,H.Xc,fun b hb=>.inl (H.Xb b hb),hok',S',A'⟩ _ _ hQ' }
 suffices L':c2V G (Γ.plus I) elt gens scope pos (depth+1) I Dd (fun r s'=>match r with | .ok f=>wpAny (model G.prog G.w) Γ.A (pure ():Sem Unit) Q E s' | .error e=>cameBackBy (model G.prog G.w) Γ.A Γ.env E e s') s₂ from a1O hg L' (W.walks.self 0 _ _ _ W.start L')
 refine b3T L (s₀:=s₂) items 0 s₂ ys rs (d0E _) (fun j tk v d htk hP hd=>?_) S₂ A₂' W.start Kc.refl hrs H.ok fun s₁ h' tk e=>?_
 ·exact (W.rep j tk v d htk (d0E j ▸ hP) hd).weaken fun b hb=>a0I.mp hb
 ·refine (e.it).elim fun oI Z1=>Z1.elim (fun eI cI=>?_)
  have nI:¬ Γ.bad I:=fun q=>notI I q rfl
  refine c9M (hQ _ (e.st.doneBut S.badT S.badL S.badC nI (a4Z S hIn) eI cI.ok e.keep e.toks) ?_ ?_)
  ·exact e.acc.chg rfl (fun o=>e.keep _ o hDI) ⟨e.toks,fun b o hb=>e.keep b o fun q=>hb (a0I.mpr (.inr q)),fun b _ hb _ q=>hb (a0I.mpr (.inl q))⟩
  ·exact⟨fun b o h1 h2 q=>e.keep b o (a0f hIn q) (e.kc.heap b o h1 (fun p=>p.elim h2 (a0f hIn q)) (k₂.heap b o h1 q)),
    e.kc.os.trans k₂.os,c9v k₂.toks (c9v e.kc.toks e.toks),fun i x q=>e.kc.gens i x (k₂.gens i x q)⟩
end
end
section
section
variable {G:GC}{F:Fns}{lvl:Nat}{Γ:Ctx}{sc names:a0g}{σ σ₀ σ':Store}{oa:Nat→Addr}{s s':Shared}{E:Value→Shared→Prop}
theorem a6c {x:Str}(h:a2S names x=true):a2S (a4e sc names) x=true:=by
 have k:∀ k,names.lookup x=some k→(k==.free)=false→(a4e sc names).lookup x=some k:=fun k h hk=>by
  rw [a4f,h]
  show some (if (k==.free&&_)=true then _ else _) = _
  rw [hk]
  rfl
 rcases a1H h with h | h
 ·exact d0F.mpr (.inl (c9s.mpr (k _ h rfl)))
 ·exact d0F.mpr (.inr (c9s.mpr (k _ h rfl)))
structure CompOut (G:GC)(Γ:Ctx)(σ:Store)(oa:Nat→Addr)(s s':Shared)(Dd C:Addr)(ds:List D):Prop where
 af:Af G s s'
 newD:s.heap.get? Dd=none
 newC:s.heap.get? C=none
 ne:Dd≠C
 list:∃ vs:List Value,s'.heap.PlainList Dd vs.toArray∧RepL (rc G Γ) (fun b=>a0m Γ σ oa b∨b=Dd∨b=C) s'.heap s'.toks vs ds
 ns:∃ m,s'.heap.Ns C m
theorem b3Y {elt':PE}{t:Tgt}{ifs:PEs}{gs:PGs}{fv:List Nat}{elt t' iter':Expr}{ifs':List Expr}{gs':List Comprehension}{scope:Scope}{pos:Pos}{st:Bool}{items:List D}{rs:List (List D)}{I:Addr}{fp:List Addr}{P:Nat→Nat→Value→Prop}{Stt:Nat→Heap→Prop}{s₂:Shared}
  (hs:a3o G.nm sc scope fv=true) (ht:a3n G.nm scope.names t t'=true) (hasync:∀ g∈gs',g.is_async=0) (hσ:a0O σ fv=some σ₀)
  (hT:b6s G F lvl (a4e sc scope.names) ifs ifs') (hG:GsJ G F lvl (a4e sc scope.names) scope.names elt' elt gs gs')
  (S:St G Γ lvl sc σ oa s) (a₂:Af G s s₂) (W:Wk G Γ σ oa st items s s₂ I fp P Stt)
  (hrs:items.mapM (c6l σ₀ t (fun σ'=>b2s F σ' ifs) fun σ'=>c2v F σ' gs (kfE F elt'))=some rs) (hok:a0M rs.flatten.length=true) {R:Result→Shared→Prop}
  (hR:∀ s',CompOut G Γ σ oa s s' s₂.heap.objs.size (a0r s₂.heap).objs.size rs.flatten→R (.ok .next) s') :
  codeAny (model G.prog G.w) Γ.A (.compStart (.ListComp elt (⟨t',iter',ifs',0⟩ :: gs') scope pos) 0 (.ref I) (.ref s₂.heap.objs.size) (b1m (Γ.plus I) scope (a0r s₂.heap).objs.size)) R { s₂ with heap:=a0v s₂.heap scope }:=by
 have k₂:=a₂.kp
 have hIn:=W.newI.1
 have oldI:=W.old I W.fpI
 have S₂:St G (Γ.plus I) lvl sc σ oa s₂:=S.plusKp hIn k₂ a₂.gst oldI.1
 have C:=a7d S₂ hs hσ
 have K:=a3L hs
 have h4D:∃ o,(a0v s₂.heap scope).get? s₂.heap.objs.size=some o:=C.acc.elim fun _ hp=>⟨_,hp⟩
 have h4L:∃ o,(a0v s₂.heap scope).get? (a0r s₂.heap).objs.size=some o:=C.st.alloc _ (.inl C.st.badL)
 have notI:∀ b o,s.heap.get? b=some o→b≠I:=fun b o e=>a0f hIn e
 have noT:∀ b,s₂.heap.get? b=none→b ∉ G.T:=fun b hb q=>(G.tabGet _ a₂.gst.tab _ q).elim fun ps e=>a0f hb e rfl
 have lt:s₂.heap.objs.size<(a0r s₂.heap).objs.size:=a5Y s₂.heap ▸ c9X _
 have newc:∀ x c,a2S scope.names x=true→(a1h (Γ.plus I) scope ((a0r s₂.heap).objs.size+1)).lookup x=some c→s₂.heap.get? c=none∧∃ o,(a0v s₂.heap scope).get? c=some o:=fun x c hx hc=>by
  cases C.cell x c hc with
  | new _ h2 h3=>exact⟨fresh (c9v (c9V _ 2) h3),h2.elim fun o q=>⟨o,q.1⟩⟩
  | old h1=>exact (a1H hx).elim (fun h=>nomatch h.symm.trans h1) fun h=>nomatch h.symm.trans h1
 have aD:Apart G (a3p (Γ.plus I) σ σ₀ oa scope s₂.heap (a0v s₂.heap scope) (a0r s₂.heap).objs.size) s₂.heap.objs.size:=
  ⟨.inr ⟨C.newD,h4D⟩,d0g lt,fun y q=>by
   cases C.cell y _ q with
   | new _ _ h3=>exact absurd h3 (Nat.not_le_of_lt (Nat.lt_add_of_pos_right (Nat.zero_lt_two)))
   | old _ h2=>exact (S₂.alloc _ (.inl (S₂.badC y _ h2))).elim fun o e=>a0f C.newD e rfl,noT _ C.newD,a4Z S₂ C.newD⟩
 have aI:Apart G (a3p (Γ.plus I) σ σ₀ oa scope s₂.heap (a0v s₂.heap scope) (a0r s₂.heap).objs.size) I:=by
  refine (oldI.1).elim fun oI eI=>?_
  refine⟨.inl ⟨.inl (.inr rfl),fun q=>q.elim fun x q=>(S.alloc _ (.inr ⟨x,a3V hσ q.1,q.2⟩)).elim fun o e=>notI _ o e rfl⟩,fun q=>a0f C.newL eI q,fun y q=>?_,oldI.2,a4Z S hIn⟩
  cases C.cell y I q with
  | new _ _ h3=>exact absurd (c9G eI) (Nat.not_lt_of_le (c9v (c9V _ 2) h3))
  | old _ h2=>exact (S.alloc _ (.inl (S.badC y _ h2))).elim fun o e=>notI _ o e rfl
 have hDI:s₂.heap.objs.size≠I:=fun q=>oldI.1.elim fun o e=>a0f C.newD e q.symm
 have ht':=a7e (sc:=a4e sc scope.names) (fun x hx=>a6c hx) ht
 have L:LoopH G (a3p (Γ.plus I) σ σ₀ oa scope s₂.heap (a0v s₂.heap scope) (a0r s₂.heap).objs.size) lvl (a4e sc scope.names) σ₀ oa elt (⟨t',iter',ifs',0⟩ :: gs') scope pos 0 t' iter' ifs' t s₂.heap.objs.size I
   (fun b=>s₂.heap.get? b=none∧∃ o,(a0v s₂.heap scope).get? b=some o) fp P Stt items.length (fun σ'=>b2s F σ' ifs) (fun σ'=>c2v F σ' gs (kfE F elt')):={
  hg:=rfl
  hg1:=fun g' hg'=>hasync g' (List.mem_of_getElem? (i:=0) hg')
  ht:=ht'.1,aD:=aD,aI:=aI,hDI:=hDI,XD:=⟨C.newD,h4D⟩,XL:=⟨C.newL,h4L⟩
  Xc:=fun x hx c hc=>newc _ c (ht'.2 x hx) hc
  XI:=fun q=>oldI.1.elim fun o e=>a0f q.1 e rfl
  Xbad:=fun b hb=>.inl (.inr hb)
  walk:=W.walks
  fp:=fun b hb=>⟨fun q=>(W.old b hb).1.elim fun o e=>a0f q.1 e rfl,(W.old b hb).2⟩
  it:=W.iter
  tests:=fun σ' s b hb S'=>hT _ _ _ _ _ S' hb
  body:=fun σ' s₃ ys r Q E hr hok' S' A' hQ'=>hG (⟨t',iter',ifs',0⟩ :: gs') _ _ 0 rfl _ _ _ _ _ _ _ _ hr ⟨aD,⟨C.newD,h4D⟩,⟨C.newL,h4L⟩,newc,fun b hb=>.inr hb,hok',S',A'⟩ _ _ hQ' }
 have stt:Stt 0 (a0v s₂.heap scope):=W.walks.frame _ _ _ W.start fun b _ o e=>C.kf.heap b o e
 suffices L':c2V G (a3p (Γ.plus I) σ σ₀ oa scope s₂.heap (a0v s₂.heap scope) (a0r s₂.heap).objs.size) elt (⟨t',iter',ifs',0⟩ :: gs') scope pos 0 I s₂.heap.objs.size R { s₂ with heap:=a0v s₂.heap scope } from
  a1O (depth:=0) rfl L' (W.walks.self 0 _ _ _ stt L')
 refine b3T L (s₀:={ s₂ with heap:=a0v s₂.heap scope }) items 0 _ [] rs (d0E _) (fun j tk v d htk hP hd=>?_) C.st ⟨[],C.acc,.nil⟩ stt Kc.refl hrs hok fun s₁ h' tk e=>?_
 ·have r:=W.rep j tk v d htk (d0E j ▸ hP) hd
  exact Rep.chg (B:=a0m (Γ.plus I) σ oa) ⟨c9n _,C.there.keep,C.there.bar⟩ (r.weaken fun b hb=>a0I.mp hb)
 ·refine (e.it).elim fun oI Z1=>Z1.elim (fun eI cI=>?_)
  refine hR _ ⟨⟨⟨fun b o hT q=>?_,e.kc.os.trans k₂.os,c9v k₂.toks (c9v e.kc.toks e.toks),fun i x q=>e.kc.gens i x (k₂.gens i x q)⟩,a4U e.st.gst e.keep (a4Z S hIn) eI cI.ok e.toks⟩,
   a7b k₂ (noT _ C.newD) C.newD,a7b k₂ (noT _ C.newL) C.newL,d0g lt,?_,?_⟩
  ·have e2:=k₂.heap b o hT q
   exact e.keep b o (notI b o q) (e.kc.heap b o hT (fun p=>p.elim (fun p=>a0f p.1 e2 rfl) (notI b o q)) (C.kf.heap b o e2))
  ·obtain⟨vs,⟨n,hp⟩,rr⟩:=e.acc
   refine⟨vs,⟨n,e.keep _ _ hDI hp⟩,(rr.keep e.toks fun b o hb=>e.keep b o fun q=>hb (.inl (q ▸ aI.bad))).weaken fun b hb=>?_⟩
   rcases hb with hb | rfl | rfl
   ·exact C.back b (a0I.mpr (.inl hb))
   ·exact .inl aD.bad
   ·exact .inl e.st.badL
  ·refine (e.st.slots).elim fun m Z1=>Z1.elim (fun hn _=>?_)
   exact⟨m,hn.at' fun o=>e.keep _ o fun q=>aI.loc q.symm⟩
theorem a6d {elt':PE}{t:Tgt}{iter:PE}{ifs:PEs}{gs:PGs}{fv:List Nat}{elt t' iter':Expr}{ifs':List Expr}{gs':List Comprehension}{scope:Scope}{pos:Pos}
  (hs:a3o G.nm sc scope fv=true) (ht:a3n G.nm scope.names t t'=true) (hasync:∀ g∈gs',g.is_async=0)
  (hI:a3q G F lvl sc iter iter') (hT:b6s G F lvl (a4e sc scope.names) ifs ifs') (hG:GsJ G F lvl (a4e sc scope.names) scope.names elt' elt gs gs')
  (S:St G Γ lvl sc σ oa s) {d:D} (hev:evE F σ (.comp fv elt' t iter ifs gs)=some d) {RR:Value→Addr→Result→Shared→Prop}
  (hRR:∀ r Dd C s',d=.list r→CompOut G Γ σ oa s s' Dd C r→RR (.ref Dd) C (.ok .next) s') :
  closureFor scope Γ.env=pure (a0T Γ.env.cells scope.names []) ∧
  wpAny (model G.prog G.w) Γ.A (eval iter' Γ.env) (fun x s₁=>wpAny (model G.prog G.w) Γ.A (pyIter x) (fun it s₂=>wpAny (model G.prog G.w) Γ.A (newList []) (fun acc s₃=>
   wpAny (model G.prog G.w) Γ.A (newFunctionEnv scope Γ.env.globals (a0T Γ.env.cells scope.names []) [] Γ.env.qual none .none (some Γ.env)) (fun cenv s₄=>
    codeAny (model G.prog G.w) Γ.A (.compStart (.ListComp elt (⟨t',iter',ifs',0⟩ :: gs') scope pos) 0 it acc { cenv with scope:=relabel scope Γ.env }) (RR acc cenv.locals) s₄) E s₃) E s₂) E s₁) E s:=by
 refine a0j (show (evI F σ iter).bind _ = _ from hev) fun items hit h=>?_
 refine a0j h (clear% h;fun σ₀ hσ h=>?_)
 refine a0j h (clear% h;fun rs hrs h=>?_)
 refine a0J h (clear% h;fun hok h=>?_)
 refine⟨(a7d S hs hσ).clos,hI _ _ _ _ _ S hit _ E fun I fp P Stt s₂ a₂ W=>wpAny_newObj_type (b2F ?_)⟩
 exact b3Y hs ht hasync hσ hT hG S a₂ W hrs hok fun s' C=>hRR _ _ _ s' h.symm C
end
end
section
noncomputable def a5a (G:GC)(F:Fns)(lvl:Nat)(sc:a0g)(pes:PEs)(es:List Expr):Prop:=∀ (Γ:Ctx) (σ:Store) (oa:Nat→Addr) (s:Shared) (ds:List D),St G Γ lvl sc σ oa s→a2V F σ pes=some ds→b8X G Γ σ oa es ds s
noncomputable def KwJ (G:GC)(F:Fns)(lvl:Nat)(sc:a0g)(po:PO)(ks:List Keyword):Prop:=∀ (Γ:Ctx) (σ:Store) (oa:Nat→Addr) (k:Option D),evK F σ po=some k→KwOK G Γ lvl sc σ oa k ks
noncomputable def a7V (G:GC)(F:Fns)(lvl:Nat)(sc:a0g)(po:PO)(e:Option Expr):Prop:=∀ (Γ:Ctx) (σ:Store) (oa:Nat→Addr) (s:Shared) (o:Option D) (i:Option Int),St G Γ lvl sc σ oa s→evO F σ po=some o→a2q o=some i →
 ∀ (Q:Value→Shared→Prop) (E:Value→Shared→Prop),(∀ v s',Af G s s'→IsPart v i→Q v s')→wpAny (model G.prog G.w) Γ.A (evalPart e Γ.env) Q E s
noncomputable def FOK (G:GC)(F:Fns)(lvl:Nat):Prop:=∀ f args kw d,F f args kw=some d→c2y G lvl f args kw d
section
variable {G:GC}{F:Fns}{lvl:Nat}{Γ:Ctx}{sc names:a0g}{σ σ₀ σ':Store}{oa:Nat→Addr}{s s':Shared}{va vb vc v:Value}{a b c d:D}{E:Value→Shared→Prop}
theorem KV.at {kvs:List (Str×Value)}{kv:List (Str×Int)}(h:KV kvs kv):b6w (valueAt kvs) kv:=by
 intro k
 induction h with
 | nil=>exact⟨fun _=>rfl,nofun⟩
 | @cons y i t a b h ih=>
  have e:valueAt ((y,Value.int i t) :: a) k=bif k==y then some (.int i t) else valueAt a k:=by
   unfold valueAt
   rw [List.find?_cons]
   cases hk:k==y with
   | true=>rw [c9K hk,d0G rfl];rfl
   | false=>rw [c9Y fun q=>ne_of_beq_false hk q.symm];rfl
  rw [e,c9q]
  cases k==y with
  | true=>exact⟨nofun,fun j hj=>⟨t,c9x hj ▸ rfl⟩⟩
  | false=>exact ih
theorem OwnDict.map {h:Heap}{a:Addr}{kv:List (Str×Int)}(x:OwnDict G h a kv):∃ m,Heap.MapOf (PySem.strKind G.prog G.w) h a m∧b6w m kv:=x.elim fun _ q=>⟨_,q.1.mapOf,q.2.at⟩
theorem args_nil:a5a G F lvl sc .nil []:=fun Γ σ oa s ds S h pos Q E hQ=>by
 cases c9x (show some []=some ds from h)
 exact d0H (hQ [] s S.afR .nil)
theorem args_cons {pe:PE}{pes:PEs}{e:Expr}{es:List Expr}(hs:a0B e=true)(hE:EvJ G F lvl sc pe e)(hR:a5a G F lvl sc pes es):a5a G F lvl sc (.cons pe pes) (e :: es):=fun Γ σ oa s ds S h pos Q E hQ=>by
 refine (a0N (show grd _ _ = _ from h)).elim fun hst h=>?_
 refine a0j h (clear% h;fun d hd h=>?_)
 refine a2p h (clear% h;fun ds' hds Z1=>?_)
 subst Z1
 refine d0I (hE _ _ _ _ _ S hd _ _ fun v s₁ R=>?_) (a0k hs)
 have S₁:=S.af R.af
 exact hR _ _ _ _ _ S₁ hds pos _ _ fun vs s₂ a₂ rs=>hQ _ _ (R.af.trans a₂) (.cons ((R.deep hst).kp S₁ a₂.kp) rs)
theorem two {a b:PE}{l r:Expr}{x y:D}(S:St G Γ lvl sc σ oa s)(hA:EvJ G F lvl sc a l)(hB:EvJ G F lvl sc b r)(hx:evE F σ a=some x)(hy:evE F σ b=some y){K:Value→Value→Shared→Prop}
  (h:∀ v w s',Af G s s'→RT G Γ σ oa s' v x→RT G Γ σ oa s' w y→K v w s'):wpAny (model G.prog G.w) Γ.A (eval l Γ.env) (fun v s₁=>wpAny (model G.prog G.w) Γ.A (eval r Γ.env) (fun w s₂=>K v w s₂) E s₁) E s:=
 hA _ _ _ _ _ S hx _ _ fun v s₁ R=>hB _ _ _ _ _ (S.af R.af) hy _ _ fun w s₂ R'=>h v w s₂ (R.af.trans R'.af) (RepT.kp (S.af R.af) R.rep R'.af.kp) R'.rep
theorem a8X (S:St G Γ lvl sc σ oa s){x:Nat}{v:Value}{sl:Slot}{d:D}(hx:σ.get x=some sl)(hd:sl.read=some d)(sv:SlotV G Γ σ oa s.heap s.toks x v sl):RT G Γ σ oa s v d∧(sl.asVal.isSome=true→RD G Γ σ oa s v d):=by
 cases sl with
 | val d'=>cases c9x hd;exact⟨.deep sv,fun _=>sv⟩
 | own l=>
  cases c9x hd
  obtain⟨rfl,vs,hp,r⟩:=sv
  exact⟨.list hp.isList r,nofun⟩
 | ownD kv=>
  cases c9x hd
  refine sv.elim (clear% sv;fun Z1 hm=>?_)
  subst Z1
  refine (hm.map).elim fun m Z1=>Z1.elim (fun h1 h2=>?_)
  exact⟨.dict h1 h2,nofun⟩
 | meth y=>exact a0e hd
theorem b3Z {x:Nat}{p:Pos}(hk:a9W (G.nm x)=true):EvJ G F lvl sc (.var x) (.Name (G.nm x) p):=fun Γ σ oa s d S h Q E hQ=>by
 refine a0a hk (clear% hk;fun k1 k2=>?_)
 refine a0j (show (σ.get x).bind _ = _ from h) fun sl hx hd=>?_
 refine d0o (S.read hx (fun v sv=>?_) (a1L k2)) (a1L k1)
 refine (a8X S hx hd sv).elim fun r1 r2=>?_
 refine hQ v s ⟨S.afR,r1,fun q=>r2 ?_⟩
 have q:((σ.get x).bind Slot.asVal).isSome=true:=q
 rw [hx] at q
 exact q
theorem b9b {n:String}{p:Pos}(hB:GlobsOK G)(hg:a5Z sc (Str.ofString n)=true)(hn:a1P.contains n=true):EvJ G F lvl sc (.typ n) (.Name (Str.ofString n) p):=fun Γ σ oa s d S h Q E hQ=>by
 refine (a2O hg).elim fun h1 h2=>?_
 exact d0o (S.glob h1 (hB.types n (d0J.mp hn)) (hQ _ s (.of S.afR (c9x (show some (D.typ n)=some d from h) ▸ .typ _)))) h2
theorem b9Z {k:Nat}{p:Pos}:EvJ G F lvl sc .none (.Constant .none k p):=fun Γ σ oa s d S h Q E hQ=>wpAny_Constant_none (hQ _ s (.of S.afR (c9x (show some D.none=some d from h) ▸ .none)))
theorem c0a {b:Bool}{k:Nat}{p:Pos}:EvJ G F lvl sc (.bool b) (.Constant (.bool b) k p):=fun Γ σ oa s d S h Q E hQ=>wpAny_Constant_bool (hQ _ s (.of S.afR (c9x (show some (D.bool b)=some d from h) ▸ .bool _)))
theorem c3c {i:Int}{k:Nat}{p:Pos}:EvJ G F lvl sc (.int i) (.Constant (.int i) k p):=fun Γ σ oa s d S h Q E hQ=>
 wpAny_Constant_int (hQ _ _ (.of (S.afR.kf (Kf.tok (c9A _))) (c9x (show some (D.int i)=some d from h) ▸ .int _ _)))
theorem b9c {x:Str}{k:Nat}{p:Pos}:EvJ G F lvl sc (.str x) (.Constant (.str x) k p):=fun Γ σ oa s d S h Q E hQ=>
 wpAny_Constant_str (hQ _ _ (.of (S.afR.kf (Kf.tok (c9A _))) (c9x (show some (D.str x)=some d from h) ▸ .str _ _ _ nofun)))
theorem b6W {x:List UInt8}{k:Nat}{p:Pos}:EvJ G F lvl sc (.bytes x) (.Constant (.bytes x) k p):=fun Γ σ oa s d S h Q E hQ=>
 c9F (n:=s.toks) (c9n _) (wpAny_eval_const rfl fun v tk hv ht=>hv.elim fun t hv=>hv ▸ hQ _ _ (.of (S.afR.kf (Kf.tok ht)) (c9x (show some (D.bytes x.toArray)=some d from h) ▸ .bytes _ _)))
theorem c3d {op:Operator}{a b:PE}{l r:Expr}{p:Pos}(hA:EvJ G F lvl sc a l)(hB:EvJ G F lvl sc b r):EvJ G F lvl sc (.bin op a b) (.BinOp l op r p):=fun Γ σ oa s d S h Q E hQ=>by
 refine a0j (show (evE F σ a).bind _ = _ from h) fun x hx h=>?_
 refine a0j h (clear% h;fun y hy h=>?_)
 exact wpAny_BinOp (two S hA hB hx hy fun v w s' a r1 r2=>(b6z (S.af a) r1 r2 h).then a hQ)
theorem c3e {a:PE}{x:Expr}{p:Pos}(hA:EvJ G F lvl sc a x):EvJ G F lvl sc (.neg a) (.UnaryOp .USub x p):=fun Γ σ oa s d S h Q E hQ=>by
 refine a0j (show (evE F σ a).bind _ = _ from h) fun y hy h=>?_
 refine a2p h (clear% h;fun i hi Z1=>?_)
 subst Z1
 exact wpAny_UnaryOp (hA _ _ _ _ _ S hy _ _ fun v s₁ R=>R.rep.intP (P:=fun v=>wpAny _ _ (unaryOp .USub v) Q E s₁) hi fun t=>P.neg_int (hQ _ _ (.of (R.af.kf (Kf.tok (c9A _))) (.int _ _))))
theorem a7f {t a b:PE}(h:strict σ (.ite t a b)=true):strict σ a=true∧strict σ b=true:=a0h h
theorem c3f {t a b:PE}{t' a' b':Expr}{p:Pos}(hT:TsJ G F lvl sc t t')(hA:EvJ G F lvl sc a a')(hB:EvJ G F lvl sc b b'):EvJ G F lvl sc (.ite t a b) (.IfExp t' a' b' p):=fun Γ σ oa s d S h Q E hQ=>by
 refine a0j (show (evT F σ t).bind _ = _ from h) fun q hq h=>?_
 refine wpAny_IfExp (hT _ _ _ _ _ S hq _ _ fun s₁ a₁=>?_)
 cases q with
 | true=>exact hA _ _ _ _ _ (S.af a₁) h _ _ fun v s' R=>hQ v s' ⟨a₁.trans R.af,R.rep,fun q=>R.deep (a7f q).1⟩
 | false=>exact hB _ _ _ _ _ (S.af a₁) h _ _ fun v s' R=>hQ v s' ⟨a₁.trans R.af,R.rep,fun q=>R.deep (a7f q).2⟩
theorem c0b {pes:PEs}{es:List Expr}{p:Pos}(hA:a5a G F lvl sc pes es):EvJ G F lvl sc (.list pes) (.List es p):=fun Γ σ oa s d S h Q E hQ=>by
 refine a0j (show (a2V F σ pes).bind _ = _ from h) fun ds hds h=>?_
 refine a0J h (clear% h;fun hok Z1=>?_)
 subst Z1
 exact wpAny_List (hA _ _ _ _ _ S hds p _ _ fun vs s₁ a₁ r=>⟨r.length.symm ▸ a0z hok,hQ _ _ (.of (a₁.kf (Kf.push (c9n _))) ((S.af a₁).newList r (c9n _)))⟩)
theorem c3g {pes:PEs}{es:List Expr}{k:Nat}{p:Pos}(hA:a5a G F lvl sc pes es):EvJ G F lvl sc (.tup pes) (.Tuple es k p):=fun Γ σ oa s d S h Q E hQ=>by
 refine a0j (show (a2V F σ pes).bind _ = _ from h) fun ds hds h=>?_
 refine a0J h (clear% h;fun hok Z1=>?_)
 subst Z1
 exact wpAny_Tuple (hA _ _ _ _ _ S hds p _ _ fun vs s₁ a₁ r=>⟨r.length.symm ▸ a0z hok,hQ _ _ (.of (a₁.kf (Kf.push (c9n _))) (.tup (vs:=vs) (S.af a₁).newNot ⟨_,c9H _ rfl,rfl,0,rfl⟩ (r.keep (c9n _) fun b o _ e=>c9w _ e)))⟩)
theorem c3h {op:CmpOp}{a b:PE}{l r:Expr}{p:Pos}(hA:EvJ G F lvl sc a l)(hB:EvJ G F lvl sc b r)(hm:behindInMarks op r=false):EvJ G F lvl sc (.cmp op a b) (.Compare l [op] [r] p):=fun Γ σ oa s d S h Q E hQ=>by
 refine a0j (show (evE F σ a).bind _ = _ from h) fun x hx h=>?_
 refine a0j h (clear% h;fun y hy h=>?_)
 refine a2p h (clear% h;fun q hq Z1=>?_)
 subst Z1
 exact wpAny_Compare1 (two S hA hB hx hy fun v w s' a r1 r2=>(b1h S.aok.units r1 r2 hq).then a hQ) hm
theorem b4a {a i:PE}{v' i':Expr}{p:Pos}(hA:EvJ G F lvl sc a v')(hB:EvJ G F lvl sc i i'):EvJ G F lvl sc (.idx a i) (.Subscript v' i' p):=fun Γ σ oa s d S h Q E hQ=>by
 refine a0j (show (evE F σ a).bind _ = _ from h) fun x hx h=>?_
 refine a0j h (clear% h;fun y hy h=>?_)
 exact Subscript_ (two S hA hB hx hy fun v w s' a r1 r2=>(c2Q a.gst r1 r2 h).then a hQ)
theorem c0c:a7V G F lvl sc .no none:=fun Γ σ oa s o i S h hi Q E hQ=>by
 cases c9x (show some none=some o from h)
 exact wpAny_evalPart_none (hQ _ s S.afR (c9x (show some none=some i from hi) ▸ .none))
theorem b6X {a:PE}{e:Expr}(hA:EvJ G F lvl sc a e):a7V G F lvl sc (.yes a) (some e):=fun Γ σ oa s o i S h hi Q E hQ=>by
 refine a2p (show (evE F σ a).map some = _ from h) fun d hd Z1=>?_
 subst Z1
 refine a0j (show (d.asInt).bind _ = _ from hi) fun k hk h=>?_
 refine a0J h (clear% h;fun _ Z1=>?_)
 subst Z1
 exact wpAny_evalPart_some (hA _ _ _ _ _ S hd _ _ fun v s' R=>R.rep.intP (P:=fun v=>Q v s') hk fun t=>hQ _ s' R.af (.int _ _))
theorem b1r {a:PE}{lo hi:PO}{v':Expr}{l u:Option Expr}{p q:Pos}(hA:EvJ G F lvl sc a v')(hL:a7V G F lvl sc lo l)(hU:a7V G F lvl sc hi u):EvJ G F lvl sc (.slice a lo hi) (.Subscript v' (.Slice l u none q) p):=fun Γ σ oa s d S h Q E hQ=>by
 refine a0j (show (evE F σ a).bind _ = _ from h) fun x hx h=>?_
 refine a0j h (clear% h;fun lo' hlo h=>?_)
 refine a0j h (clear% h;fun i hi1 h=>?_)
 refine a0j h (clear% h;fun hi' hhi h=>?_)
 refine a0j h (clear% h;fun j hj1 h=>?_)
 refine Subscript_ (hA _ _ _ _ _ S hx _ _ fun v s₁ R=>wpAny_Slice (hL _ _ _ _ _ _ (S.af R.af) hlo hi1 _ _ fun vl s₂ a₂ pl=>hU _ _ _ _ _ _ ((S.af R.af).af a₂) hhi hj1 _ _ fun vu s₃ a₃ pu=>wpAny_evalPart_none ?_))
 have A:=(R.af.trans a₂).trans a₃
 exact b6H pl pu (S.af A) (RepT.kp (S.af R.af) R.rep (a₂.trans a₃).kp) h _ _ fun v s' k r=>hQ _ _ (.of (A.kf k) r)
theorem c6n:KwJ G F lvl sc .no []:=fun Γ σ oa k h=>c9x (show some none=some k from h) ▸ .no
theorem c3i {pe:PE}{e:Expr}{q:Pos}(hE:EvJ G F lvl sc pe e):KwJ G F lvl sc (.yes pe) [⟨some ("strict_mode":Str),e,q⟩]:=fun Γ σ oa k h=>by
 refine (a0N (show grd _ _ = _ from h)).elim fun hst h=>?_
 refine a2p h (clear% h;fun d hd Z1=>?_)
 subst Z1
 exact .yes d e q fun s S=>hst ▸ hE _ _ _ _ _ S hd
theorem b0k {f:Nat}{args:PEs}{kw:PO}{e:Expr}{es:List Expr}{ks:List Keyword}(hF:FOK G F lvl)(C:GCall sc (G.nm f) e es ks)(hA:a5a G F lvl sc args es)(hK:KwJ G F lvl sc kw ks)
  {as:List D} {k:Option D} {d:D} (S:St G Γ lvl sc σ oa s) (ha:a2V F σ args=some as) (hk:evK F σ kw=some k) (hf:F f as k=some d) {st:Bool}:Ev G Γ σ oa st (eval e Γ.env) s d:=by
 obtain⟨⟨p,q,rfl⟩,h1,h2,h3⟩:=C
 exact b6L S (hF _ _ _ _ hf) h1 h2 h3 (hK _ _ _ _ hk) (hA _ _ _ _ _ S ha)
theorem b6Y {f:Nat}{args:PEs}{kw:PO}{e:Expr}{es:List Expr}{ks:List Keyword}(hF:FOK G F lvl)(C:GCall sc (G.nm f) e es ks)(hA:a5a G F lvl sc args es)(hK:KwJ G F lvl sc kw ks):EvJ G F lvl sc (.call f args kw) e:=fun Γ σ oa s d S h=>by
 refine a0j (show (a2V F σ args).bind _ = _ from h) fun as ha h=>?_
 refine a0j h (clear% h;fun k hk hf=>?_)
 exact b0k hF C hA hK S ha hk hf
theorem a6e {a:PE}{x:Expr}{pos:Pos}(hs:[x].all a0B=true)(hA:EvJ G F lvl sc a x)(S:St G Γ lvl sc σ oa s)(h:evE F σ a=some d){Q:List Value→Shared→Prop}
  (hQ:∀ v s',Af G s s'→RT G Γ σ oa s' v d→Q [v] s'):wpAny (model G.prog G.w) Γ.A (spliced (backTo pos (starEach [x] Γ.env))) Q E s:=
 d0I (hA _ _ _ _ _ S h _ _ fun v s₁ R=>d0H (hQ v s₁ R.af R.rep)) (a0k (a0h hs).1)
theorem a5I {a b:PE}{d₂:D}{x y:Expr}{pos:Pos}(hs:[x,y].all a0B=true)(hA:EvJ G F lvl sc a x)(hB:EvJ G F lvl sc b y)(S:St G Γ lvl sc σ oa s)(h:evE F σ a=some d)(h₂:evE F σ b=some d₂){Q:List Value→Shared→Prop}
  (hQ:∀ v w s',Af G s s'→RT G Γ σ oa s' v d→RT G Γ σ oa s' w d₂→Q [v,w] s'):wpAny (model G.prog G.w) Γ.A (spliced (backTo pos (starEach [x,y] Γ.env))) Q E s:=
 d0I (hA _ _ _ _ _ S h _ _ fun v s₁ R=>a6e (a0h hs).2 hB (S.af R.af) h₂ fun w s₂ a₂ r₂=>hQ v w s₂ (R.af.trans a₂) (RepT.kp (S.af R.af) R.rep a₂.kp) r₂) (a0k (a0h hs).1)
theorem a7g {a b c:PE}{d₂ d₃:D}{x y z:Expr}{pos:Pos}(hs:[x,y,z].all a0B=true)(hA:EvJ G F lvl sc a x)(hB:EvJ G F lvl sc b y)(hC:EvJ G F lvl sc c z)(S:St G Γ lvl sc σ oa s)(h:evE F σ a=some d)(h₂:evE F σ b=some d₂)(h₃:evE F σ c=some d₃){Q:List Value→Shared→Prop}
  (hQ:∀ v w u s',Af G s s'→RT G Γ σ oa s' v d→RT G Γ σ oa s' w d₂→RT G Γ σ oa s' u d₃→Q [v,w,u] s'):wpAny (model G.prog G.w) Γ.A (spliced (backTo pos (starEach [x,y,z] Γ.env))) Q E s:=
 d0I (hA _ _ _ _ _ S h _ _ fun v s₁ R=>a5I (a0h hs).2 hB hC (S.af R.af) h₂ h₃ fun w u s₂ a₂ r₂ r₃=>hQ v w u s₂ (R.af.trans a₂) (RepT.kp (S.af R.af) R.rep a₂.kp) r₂ r₃) (a0k (a0h hs).1)
end
end
section
noncomputable def PsJ (G:GC)(F:Fns)(lvl:Nat)(sc:a0g)(pes:PEs)(es:List Expr):Prop:=∀ (Γ:Ctx) (σ:Store) (oa:Nat→Addr) (s:Shared) (ds:List D) (p:List Str),St G Γ lvl sc σ oa s→a2V F σ pes=some ds→ds.mapM D.asStr=some p →
 ∀ (acc:Str) (Q:Str→Shared→Prop) (E:Value→Shared→Prop),acc.length+(p.map (·.length)).sum≤16777216→(∀ s',Af G s s'→Q (p.foldl (·++·) acc) s')→Joins (model G.prog G.w) Γ.A E (evalEach es Γ.env) acc Q s
section
variable {G:GC}{F:Fns}{lvl:Nat}{Γ:Ctx}{sc names:a0g}{σ σ₀ σ':Store}{oa:Nat→Addr}{s s':Shared}{va vb vc v:Value}{a b c d:D}{E:Value→Shared→Prop}
theorem fn1 {f:String}{a:PE}{e x:Expr}{u d:D}{st:Bool}(hB:GlobsOK G)(hf:a3M.contains f=true)(C:a1Q sc f e [x])(hA:EvJ G F lvl sc a x)(S:St G Γ lvl sc σ oa s)(h:evE F σ a=some u)
  (k:∀ v s',St G Γ lvl sc σ oa s'→RT G Γ σ oa s' v u→Does G Γ σ oa (call (.builtin f) [v]) s' d):Ev G Γ σ oa st (eval e Γ.env) s d:=fun Q E hQ=>by
 obtain⟨⟨p,q,rfl⟩,h1,h2,h3⟩:=C
 exact a5q S h1 (hB.fns f (d0J.mp hf)) h2 h3 (a6e h3 hA S h fun v s₁ a₁ r=>(k v s₁ (S.af a₁) r).then a₁ hQ)
theorem fn2 {f:String}{a b:PE}{e x y:Expr}{u w d:D}{st:Bool}(hB:GlobsOK G)(hf:a3M.contains f=true)(C:a1Q sc f e [x,y])(hA:EvJ G F lvl sc a x)(hA':EvJ G F lvl sc b y)(S:St G Γ lvl sc σ oa s)(h:evE F σ a=some u)(h':evE F σ b=some w)
  (k:∀ v v' s',St G Γ lvl sc σ oa s'→RT G Γ σ oa s' v u→RT G Γ σ oa s' v' w→Does G Γ σ oa (call (.builtin f) [v,v']) s' d):Ev G Γ σ oa st (eval e Γ.env) s d:=fun Q E hQ=>by
 obtain⟨⟨p,q,rfl⟩,h1,h2,h3⟩:=C
 exact a5q S h1 (hB.fns f (d0J.mp hf)) h2 h3 (a5I h3 hA hA' S h h' fun v w s₁ a₁ r r'=>(k v w s₁ (S.af a₁) r r').then a₁ hQ)
theorem ty1 {f:String}{a:PE}{e x:Expr}{u d:D}{st:Bool}(hB:GlobsOK G)(hf:a1P.contains f=true)(C:a1Q sc f e [x])(hA:EvJ G F lvl sc a x)(S:St G Γ lvl sc σ oa s)(h:evE F σ a=some u)
  (k:∀ v s',St G Γ lvl sc σ oa s'→RT G Γ σ oa s' v u→Does G Γ σ oa (call (.type f) [v]) s' d):Ev G Γ σ oa st (eval e Γ.env) s d:=fun Q E hQ=>by
 obtain⟨⟨p,q,rfl⟩,h1,h2,h3⟩:=C
 exact a2M S h1 (hB.types f (d0J.mp hf)) h2 h3 (a6e h3 hA S h fun v s₁ a₁ r=>(k v s₁ (S.af a₁) r).then a₁ hQ)
theorem c3j {a:PE}{e x:Expr}(hB:GlobsOK G)(C:a1Q sc "len" e [x])(hA:EvJ G F lvl sc a x):EvJ G F lvl sc (.len a) e:=fun Γ σ oa s d S h=>by
 refine a0j (show (evE F σ a).bind _ = _ from h) fun u hu h=>?_
 refine a0j h (clear% h;fun n hn h=>?_)
 refine a0J h (clear% h;fun hok Z1=>?_)
 subst Z1
 exact fn1 hB rfl C hA S hu fun v s' S' r=>c2S r hn hok
theorem c3k {a:PE}{e x:Expr}(hB:GlobsOK G)(C:a1Q sc "sum" e [x])(hA:EvJ G F lvl sc a x):EvJ G F lvl sc (.sum a) e:=fun Γ σ oa s d S h=>by
 refine a0j (show (evE F σ a).bind _ = _ from h) fun u hu h=>?_
 refine a0j h (clear% h;fun l hl h=>?_)
 refine a0j h (clear% h;fun p hp h=>?_)
 refine a0J h (clear% h;fun hok Z1=>?_)
 subst Z1
 exact fn1 hB rfl C hA S hu fun v s' S' r=>c2T S' r hl hp hok
theorem b2H {a:PE}{e x:Expr}(hB:GlobsOK G)(C:a1Q sc "bytes" e [x])(hA:EvJ G F lvl sc a x):EvJ G F lvl sc (.bytesOf a) e:=fun Γ σ oa s d S h=>by
 refine a0j (show (evE F σ a).bind _ = _ from h) fun u hu h=>?_
 refine a0j h (clear% h;fun l hl h=>?_)
 refine a0j h (clear% h;fun p hp h=>?_)
 refine a0J h (clear% h;fun hok Z1=>?_)
 subst Z1
 exact ty1 hB rfl C hA S hu fun v s' S' r=>b2x S' r hl hp hok
theorem c3l {u d:D}{v:Value}(r:RT G Γ σ oa s v u)(h:c8c u=some d):Does G Γ σ oa (call (.type "type") [v]) s d:=fun Q E hQ=>by
 have go:∀ T,s.TypeIs v T→(Value.type T==Value.type "builtin_function_or_method")=false→d=.typ T→wpAny (model G.prog G.w) Γ.A (call (.type "type") [v]) Q E s:=fun T hT hnb e=>call_type_of hT hnb (hQ _ _ .refl (e ▸ .typ _))
 cases u with
 | str x g=>exact r.asStr.elim fun t q=>go "str" (q.1 ▸ rfl) (by decide) (c9x h).symm
 | bytes x=>exact r.asBytes.elim fun t q=>go "bytes" (q ▸ PySem.W.typeIs_bytes _ _ _) (by decide) (c9x h).symm
 | bool x=>exact go "bool" (r.asBool ▸ rfl) (by decide) (c9x h).symm
 | _=>exact a0e h
theorem b4b {a:PE}{e x:Expr}(hB:GlobsOK G)(C:a1Q sc "type" e [x])(hA:EvJ G F lvl sc a x):EvJ G F lvl sc (.typeOf a) e:=fun Γ σ oa s d S h=>by
 refine a0j (show (evE F σ a).bind _ = _ from h) fun u hu h=>?_
 exact ty1 hB rfl C hA S hu fun v s' S' r=>c3l r h
theorem a3r {o:Expr}{m:Str}{env:Env}{w:Sem Value}(h:b3U o=false):attributeBase o m env w=w:=by
 cases o with
 | Call f es ks p=>
  cases f with
  | Name x q=>
   cases es with
   | nil=>
    cases ks with
    | nil=>exact absurd h.symm c9p
    | cons=>rfl
   | cons=>rfl
  | _=>rfl
 | _=>rfl
theorem a3s {es:List Expr}{env:Env}{pos:Pos}(hs:es.all a0B=true):(backTo pos (starEach es env)).all (fun x=>!x.1)=true:=c9Q.mpr fun x hx=>by
 have h1:=List.any_eq_false.mp (a0R (env:=env) (pos:=pos) hs) x hx
 cases hx1:x.1 with
 | true=>exact absurd hx1 h1
 | false=>rfl
theorem a2s {m:Str}{id:String}{e o:Expr}{es:List Expr}(slot:PySem.Slot "str" m id)(ty:typeOf (.builtin id)=pure (.type "method_descriptor"))(C:MCall m e o es)
  {a:PE} (hA:EvJ G F lvl sc a o) (S:St G Γ lvl sc σ oa s) {u:D} {x:Str} (h:evE F σ a=some u) (hx:u.asStr=some x) {Q:Value→Shared→Prop}
  (hQ:∀ t s₁ pos,Af G s s₁→wpAny (model G.prog G.w) Γ.A (spliced (backTo pos (starEach es Γ.env))) (fun vs s₂=>wpAny (model G.prog G.w) Γ.A (call (.builtin id) (.str x t :: vs)) Q E s₂) E s₁) :
  wpAny (model G.prog G.w) Γ.A (eval e Γ.env) Q E s:=by
 obtain⟨⟨apos,pos,rfl,hline⟩,hb,hs,hl⟩:=C
 refine wpAny_Call_method (a3r hb) ?_ hline PySem.F.plainAttrs_str slot ty (hA _ _ _ _ _ S h _ _ fun v s₁ R=>?_)
 ·have hp:=a3s (env:=Γ.env) (pos:=pos) hs
  rw [hp]
  exact d0G (p:=es.length<30) (c9m hl (by decide))
 ·refine (a2g hx).elim fun g Z1=>?_
  subst Z1
  refine (R.rep.asStr).elim fun t Z1=>Z1.elim (fun Z2 _=>?_)
  subst Z2
  exact⟨rfl,nofun,callWith_builtin (a0R hs) (a1g hs (hQ t s₁ pos R.af))⟩
theorem c8l {x:Str}{t:Tok}:RT G Γ σ oa s (.str x t) (.str x):=.deep (.str _ t _ nofun)
theorem c3m {m:Str}{id:String}{e o y:Expr}{a b:PE}{u w d:D}{x:Str}{st:Bool}(slot:PySem.Slot "str" m id)(ty:typeOf (.builtin id)=pure (.type "method_descriptor"))(C:MCall m e o [y])(hA:EvJ G F lvl sc a o)(hB:EvJ G F lvl sc b y)
  (S:St G Γ lvl sc σ oa s) (h:evE F σ a=some u) (hx:u.asStr=some x) (hw:evE F σ b=some w) (k:∀ t v s',St G Γ lvl sc σ oa s'→RT G Γ σ oa s' v w→Does G Γ σ oa (call (.builtin id) [.str x t,v]) s' d):Ev G Γ σ oa st (eval e Γ.env) s d:=fun Q E hQ=>
 a2s slot ty C hA S h hx fun t s₁ pos a₁=>a6e C.star hB (S.af a₁) hw fun v s₂ a₂ r=>(k t v s₂ ((S.af a₁).af a₂) r).then (a₁.trans a₂) hQ
theorem c0d {a b:PE}{e o y:Expr}(C:MCall (Str.ofString "join") e o [y])(hA:EvJ G F lvl sc a o)(hB:EvJ G F lvl sc b y):EvJ G F lvl sc (.join a b) e:=fun Γ σ oa s d S h=>by
 refine a0j (show (evE F σ a).bind _ = _ from h) fun u hu h=>?_
 refine a0j h (clear% h;fun w hw h=>?_)
 refine a0j h (clear% h;fun x hx h=>?_)
 refine a0j h (clear% h;fun l hl h=>?_)
 refine a0j h (clear% h;fun p hp h=>?_)
 refine a0J h (clear% h;fun hok Z1=>?_)
 subst Z1
 exact c3m PySem.F.slot_str_join PySem.F.type_str_join C hA hB S hu hx hw fun t v s' S' r=>b9N c8l r rfl hl hp hok
theorem a5v {a:PE}{e o:Expr}{u:D}{x:Str}{st:Bool}(C:MCall (Str.ofString "isascii") e o [])(hA:EvJ G F lvl sc a o)(S:St G Γ lvl sc σ oa s)(h:evE F σ a=some u)(hx:u.asStr=some x):Ev G Γ σ oa st (eval e Γ.env) s (.bool (Txt.isascii x)):=fun Q E hQ=>
 a2s PySem.F.slot_str_isascii PySem.F.type_str_isascii C hA S h hx fun t s₁ pos a₁=>d0H ((b2z (a:=.str x) (σ:=σ) (oa:=oa) c8l rfl).then a₁ hQ)
theorem b2I {a:PE}{e o:Expr}(C:MCall (Str.ofString "isascii") e o [])(hA:EvJ G F lvl sc a o):EvJ G F lvl sc (.isascii a) e:=fun Γ σ oa s d S h=>by
 refine a0j (show (evE F σ a).bind _ = _ from h) fun u hu h=>?_
 refine a2p h (clear% h;fun x hx Z1=>?_)
 subst Z1
 exact a5v C hA S hu hx
end
end
section
section
variable {G:GC}{F:Fns}{lvl:Nat}{Γ:Ctx}{sc names:a0g}{σ σ₀ σ':Store}{oa:Nat→Addr}{s s':Shared}{d:D}{E:Value→Shared→Prop}
theorem c3n {c:PE}(h:c.pv.isStr=true):∃ z,c=.str z:=by
 cases hv:c.pv with
 | str z=>exact⟨z,a5U hv⟩
 | _=>rw [hv] at h;exact absurd h c9p
theorem c3o {b:PE}{g:Bool}(h:b.pv.okOld g=true):(∃ z,b=.str z)∨∃ z,b=.var z∧g=true:=by
 cases hv:b.pv with
 | str z=>exact .inl ⟨z,a5U hv⟩
 | var z=>rw [hv] at h;exact .inr ⟨z,a5U hv,h⟩
 | _=>rw [hv] at h;exact absurd h c9p
theorem b4c {b c:PE}{x y:Expr}{v w:D}{z:Str}{q:Str×Bool}{pos:Pos}(hs:[x,y].all a0B=true)(S:St G Γ lvl sc σ oa s)(hr:b3z b c q.2=true)(mb:mE G.nm sc b x=true)(mc:mE G.nm sc c y=true)
  (hv:evE F σ b=some v) (hw:evE F σ c=some w) (hq:v.strG=some q) (hz:w.asStr=some z) {Q:List Value→Shared→Prop}
  (hQ:∀ t u s',Af G s s'→t≠0→u≠0→t≠u→Q [.str q.1 t,.str z u] s'):wpAny (model G.prog G.w) Γ.A (spliced (backTo pos (starEach [x,y] Γ.env))) Q E s:=by
 refine a0a hr (clear% hr;fun h1 h2=>?_)
 refine a0a hs (clear% hs;fun hs1 hs2=>?_)
 refine (c3n h1).elim fun zc Z1=>?_
 subst Z1
 refine (a1j mc).elim fun ky Z1=>Z1.elim (fun py Z2=>?_)
 subst Z2
 cases c9x (show some (D.str zc)=some w from hw)
 cases c9x (show some zc=some z from hz)
 have last:∀ t (s₁:Shared),Af G s s₁→t≠0→t<s₁.toks→wpAny (model G.prog G.w) Γ.A (spliced (backTo pos (starEach [.Constant (.str z) ky py] Γ.env))) (fun vs s₂=>Q (.str q.1 t :: vs) s₂) E s₁:=fun t s₁ a ht hlt=>
  d0I (wpAny_Constant_str (d0H (hQ t s₁.toks _ (a.kf (Kf.tok (c9A _))) ht (Nat.ne_of_gt a.gst.tok) (d0g hlt)))) (a0k (a0h hs2).1)
 rcases c3o h2 with⟨zb,rfl⟩ | ⟨zb,rfl,hg⟩
 ·refine (a1j mb).elim fun kx Z1=>Z1.elim (fun px Z2=>?_)
  subst Z2
  cases c9x (show some (D.str zb)=some v from hv)
  have hq:(zb,false)=q:=c9x hq
  refine d0I (wpAny_Constant_str ?_) (a0k hs1)
  have h:=last s.toks { s with toks:=s.toks+1 } (S.afR.kf (Kf.tok (c9A _))) (Nat.ne_of_gt S.gst.tok) (c9X _)
  rw [← hq] at h
  exact h
 ·refine a0a mb (clear% mb;fun hn hok=>?_)
  refine a0a hok (clear% hok;fun k1 k2=>?_)
  rw [a1a hn]
  refine a0j (show (σ.get zb).bind _ = _ from hv) fun sl hx hd=>?_
  refine d0I (d0o (S.read hx (fun vv sv=>?_) (a1L k2)) (a1L k1)) (a0k rfl)
  have r:=(a8X S hx hd sv).1
  rw [a5H hq] at r
  refine (r.asStr).elim fun t Z1=>Z1.elim (fun Z2 ht=>?_)
  subst Z2
  exact last t s S.afR (ht hg).1 (ht hg).2
theorem b2J {a b c:PE}{e o x y:Expr}(C:MCall (Str.ofString "replace") e o [x,y])(hA:EvJ G F lvl sc a o)(mb:mE G.nm sc b x=true)(mc:mE G.nm sc c y=true):EvJ G F lvl sc (.replace a b c) e:=fun Γ σ oa s d S h Q E hQ=>by
 refine a0j (show (evE F σ a).bind _ = _ from h) fun u hu h=>?_
 refine a0j h (clear% h;fun v hv h=>?_)
 refine a0j h (clear% h;fun w hw h=>?_)
 refine a0j h (clear% h;fun p hp h=>?_)
 refine a0j h (clear% h;fun q hq h=>?_)
 refine a0j h (clear% h;fun z hz h=>?_)
 refine a0J h (clear% h;fun hok Z1=>?_)
 subst Z1
 refine a0a hok (clear% hok;fun hok hln=>?_)
 refine a0a hok (clear% hok;fun hr hne=>?_)
 exact a2s PySem.F.slot_str_replace PySem.F.type_str_replace C hA S hu hp fun t s₁ pos a₁=>b4c C.star (S.af a₁) hr mb mc hv hw hq hz fun t' u' s₂ a₂ h1 h2 h3=>(b2y h1 h2 h3 hne hln).then (a₁.trans a₂) hQ
theorem b6Z {e:Expr}(h:b0i e=true):(∃ p,e=.FormattedValue (b3X e) (-1) none p)∨(b3X e=e∧∃ z k p,e=.Constant (.str z) k p):=by
 rcases or2 h with h | h
 ·refine a0a h (clear% h;fun h h3=>?_)
  refine a0a h (clear% h;fun h1 h2=>?_)
  have e1:e=.FormattedValue (vw e).a (vw e).i (vw e).st (vw e).pos:=a0w h1
  rw [c9K h2,d0C.mp h3] at e1
  exact .inl ⟨_,e1.trans (c9o (Expr.FormattedValue · _ _ _) (c9r h1).symm)⟩
 ·refine a0a h (clear% h;fun h1 h2=>?_)
  have e1:e=.Constant (vw e).k (vw e).n (vw e).pos:=a0w h1
  refine .inr ⟨c9t fun q=>?_,?_⟩
  ·exact absurd ((c9E h1).symm.trans (c9E q)) nofun
  ·cases hk:(vw e).k with
   | str z=>exact⟨z,_,_,hk ▸ e1⟩
   | _=>rw [hk] at h2;exact absurd h2 c9p
theorem c3p:PsJ G F lvl sc .nil []:=fun Γ σ oa s ds p S h hp acc Q E _ hQ=>by
 cases c9x (show some []=some ds from h)
 cases a1M hp
 exact hQ s S.afR
theorem c0e {pe:PE}{pes:PEs}{e:Expr}{es:List Expr}(hx:b0i e=true)(hE:EvJ G F lvl sc pe (b3X e))(hR:PsJ G F lvl sc pes es):PsJ G F lvl sc (.cons pe pes) (e :: es):=fun Γ σ oa s ds p S h hp acc Q E hle hQ=>by
 refine (a0N (show grd _ _ = _ from h)).elim fun _ h=>?_
 refine a0j h (clear% h;fun d hd h=>?_)
 refine a2p h (clear% h;fun ds' hds Z1=>?_)
 subst Z1
 obtain⟨y,p',hy,hp',rfl⟩:=a4u hp
 rw [d0K,d0e,← Nat.add_assoc] at hle
 have hlen:(acc++y).length=acc.length+y.length:=strLen_append ..
 have h1:(acc++y).length≤16777216:=hlen ▸ c9v (c9V ..) hle
 have fin:∀ t (s₁:Shared),Af G s s₁→∃ z t',Value.str y t=.str z t'∧(acc++z).length≤sizeLine∧Joins (model G.prog G.w) Γ.A E (evalEach es Γ.env) (acc++z) Q s₁:=fun t s₁ a₁=>
  ⟨y,t,rfl,c9C ▸ h1,hR _ _ _ _ _ _ (S.af a₁) hds hp' _ _ _ (hlen.symm ▸ hle) fun s' a=>hQ s' (a₁.trans a)⟩
 show wpAny _ _ (eval e Γ.env) _ _ s
 refine (a2g hy).elim fun g Z1=>?_
 subst Z1
 rcases b6Z hx with⟨p,e1⟩ | ⟨e1,z,k,p,e2⟩
 ·rw [e1]
  refine wpAny_FormattedValue_plain (hE _ _ _ _ _ S hd _ _ fun v s₁ R=>?_)
  refine (R.rep.asStr).elim fun t Z1=>Z1.elim (fun Z2 _=>?_)
  subst Z2
  exact wpAny_formatField_str (fin _ _ R.af) (fin _ _ (R.af.kf (Kf.tok (c9A _)))) (c9v (c9v (Nat.le_add_left ..) (hlen ▸ h1)) (by decide))
 ·rw [e1] at hE
  exact hE _ _ _ _ _ S hd _ _ fun v s₁ R=>R.rep.asStr.elim fun t q=>q.1 ▸ fin _ _ R.af
theorem b7a (l:List Str)(acc:Str):(l.foldl (·++·) acc).length=acc.length+(l.map (·.length)).sum:=by
 induction l generalizing acc with
 | nil=>rfl
 | cons z l ih=>rw [d0L,ih,d0K,d0e,strLen_append,Nat.add_assoc]
theorem c0f {pes:PEs}{x y:Expr}{r:List Expr}{p:Pos}(hP:PsJ G F lvl sc pes (x :: y :: r)):EvJ G F lvl sc (.fstr pes) (.JoinedStr (x :: y :: r) p):=fun Γ σ oa s d S h Q E hQ=>by
 refine a0j (show (a2V F σ pes).bind _ = _ from h) fun l hl h=>?_
 refine a0j h (clear% h;fun ps hps h=>?_)
 refine a0J h (clear% h;fun hok Z1=>?_)
 subst Z1
 have e:Str.empty.length+(ps.map (·.length)).sum=(ps.map (·.length)).sum:=d0E _
 refine wpAny_JoinedStr (hP _ _ _ _ _ _ S hl hps Str.empty _ _ (e.symm ▸ a1K hok) fun s' a=>⟨?_,hQ _ _ (.of (a.kf (Kf.tok (c9A _))) (.str _ _ _ nofun))⟩)
 rw [b7a,e]
 exact a0z hok
end
end
section
section
variable {G:GC}{F:Fns}{lvl:Nat}{Γ:Ctx}{sc names:a0g}{σ σ₀ σ':Store}{oa:Nat→Addr}{s s':Shared}{va vb vc v:Value}{a b c d:D}{E:Value→Shared→Prop}
theorem a8Y (x:Int)(l:List Int):(c2u x l).Perm (x :: l):=by
 induction l with
 | nil=>exact .refl _
 | cons y l ih=>
  show (if x≤y then x :: y :: l else y :: c2u x l).Perm _
  by_cases h:x≤y
  ·rw [c9r h]
  ·rw [c9t h];exact (ih.cons y).trans (.swap x y l)
theorem c0g (x:Int)(l:List Int)(h:l.Pairwise (·≤·)):(c2u x l).Pairwise (·≤·):=by
 induction l with
 | nil=>exact List.pairwise_singleton ..
 | cons y l ih=>
  refine (List.pairwise_cons.mp h).elim fun h1 h2=>?_
  show (if x≤y then x :: y :: l else y :: c2u x l).Pairwise _
  by_cases q:x≤y
  ·rw [c9r q]
   exact List.pairwise_cons.mpr ⟨fun z hz=>(c9U.mp hz).elim (fun e=>e ▸ q) fun hz=>Int.le_trans q (h1 z hz),h⟩
  ·rw [c9t q]
   exact List.pairwise_cons.mpr ⟨fun z hz=>(c9U.mp ((a8Y x l).mem_iff.mp hz)).elim (fun e=>e ▸ Int.le_of_lt (Int.not_le.mp q)) (h1 z),ih h2⟩
theorem b2K (l:List Int):(b2q l).Perm l:=by
 induction l with
 | nil=>exact .refl _
 | cons x l ih=>exact (a8Y x _).trans (ih.cons x)
theorem b7b (l:List Int):(b2q l).Pairwise (·≤·):=by
 induction l with
 | nil=>exact .nil
 | cons x l ih=>exact c0g x _ ih
theorem b4d (S:St G Γ lvl sc σ oa s){l:List D}(ha:RT G Γ σ oa s va a)(hl:a.asList=some l){p:List Int}(h:l.mapM D.asInt=some p)(h64:p.length<64):Does G Γ σ oa (call (.builtin "sorted") [va]) s (.list ((b2q p).map .int)):=by
 refine ha.listP (P:=fun v=>Does G Γ σ oa (call (.builtin "sorted") [v]) s _) hl fun x vs hl rl=>.of fun Q E hQ=>?_
 have I:=a5V rl h
 refine sorted_ints hl I (I.length.symm ▸ h64) fun out ns' I' hp hw ht=>?_
 refine (sortedAll_at s.heap vs out).elim fun e' he=>?_
 have nb:¬ a0m Γ σ oa (s.heap.objs.size+1):=fun q=>(S.alloc _ q).elim fun o eo=>Nat.not_succ_lt_self (c9G eo)
 have eq:ns'=b2q p:=List.Perm.eq_of_pairwise (le:=(·≤·)) (fun a b _ _ h1 h2=>Int.le_antisymm h1 h2) hw (b7b p) (hp.trans (b2K p).symm)
 exact hQ _ _ (Kf.mk' (fun b o eb=>sortedAll_old eb) ht) (eq ▸ .list (vs:=out.toList) nb ⟨_,he,rfl,e',rfl⟩ (b3L I'))
theorem b4e {a:PE}{e x:Expr}(hB:GlobsOK G)(C:a1Q sc "sorted" e [x])(hA:EvJ G F lvl sc a x):EvJ G F lvl sc (.sorted a) e:=fun Γ σ oa s d S h=>by
 refine a0j (show (evE F σ a).bind _ = _ from h) fun u hu h=>?_
 refine a0j h (clear% h;fun l hl h=>?_)
 refine a0j h (clear% h;fun p hp h=>?_)
 refine a0J h (clear% h;fun hok Z1=>?_)
 subst Z1
 exact fn1 hB rfl C hA S hu fun v s' S' r=>b4d S' r hl hp (c9E hok)
theorem b7c {a b:PE}{e o y:Expr}(C:MCall (Str.ofString "count") e o [y])(hA:EvJ G F lvl sc a o)(hB:EvJ G F lvl sc b y):EvJ G F lvl sc (.count a b) e:=fun Γ σ oa s d S h=>by
 refine a0j (show (evE F σ a).bind _ = _ from h) fun u hu h=>?_
 refine a0j h (clear% h;fun w hw h=>?_)
 refine a0j h (clear% h;fun x hx h=>?_)
 refine a2p h (clear% h;fun y hy Z1=>?_)
 subst Z1
 exact c3m PySem.F.slot_str_count PySem.F.type_str_count C hA hB S hu hx hw fun t v s' S' r=>r.strP (P:=fun v=>Does G Γ σ oa (call (.builtin "str.count") [.str x t,v]) s' _) hy fun u=>.int fun Q E hQ=>SC.count fun ht=>hQ _ _ ht
open Builtin Builtin.Str in
theorem b2L (x y:Str)(t u v w:Tok)(h0:(u==0||v==0)=false)(huv:(u==v)=false)(hyz:(y==Str.empty)=false)(hy:(y.length==0)=false)(hl:tooLong x.length=false) :
  Gives («str.replace» ⟨[.str x t,.str y u,.str Str.empty v,.int 1 w],[]⟩) (if (occurrences x y 0 x.length 1).isEmpty=true then .val (.str x t) else .str (glued Str.empty (partsBetween x (occurrences x y 0 x.length 1) y.length))):=by
 show Gives (if ((occurrences x y 0 x.length 1).isEmpty||(y.length==0&&true))=true then (do rule "str.replace.nothing";ret (.str x t)) else
     (do let same ← isSame (.str y u) (.str Str.empty v);if same=true then (do rule "str.replace.old-is-new";ret (.str x t)) else if tooLong (x.length+(occurrences x y 0 x.length 1).length*0)=true then unsupported "str.replace:memory" else retStr (glued Str.empty (partsBetween x (occurrences x y 0 x.length 1) y.length)))) _
 rw [hy,Bool.false_and,Bool.or_false,Nat.mul_zero,Nat.add_zero]
 cases hc:(occurrences x y 0 x.length 1).isEmpty
 ·rw [isSame_str_other y Str.empty u v h0 huv hyz,hl]
  exact .of_eq rfl
 ·exact .rule (.of_eq rfl)
theorem b4f (x y:Str)(h:a0M x.length=true):(Builtin.Str.glued Str.empty (Builtin.Str.partsBetween x (Builtin.Str.occurrences x y 0 x.length 1) y.length)).length≤sizeLine:=by
 have hy:=c9o Str.length (StrLaws.glued_between_self x y 1)
 rw [size_glued] at hy ⊢
 show _+_*0≤_
 rw [Nat.mul_zero,Nat.add_zero]
 exact c9v (c9v (c9V _ _) (d0c hy)) (a0z h)
open Builtin Builtin.Str in
theorem c0h {x y:Str}{t u v w:Tok}(hu:u≠0)(hv:v≠0)(huv:u≠v)(hc:a0M x.length=true)(hy:(y.length==0)=false) :
  Does G Γ σ oa (call (.builtin "str.replace") [.str x t,.str y u,.str Str.empty v,.int 1 w]) s (.str (a6O x y)):=.of fun Q E hQ=>by
 have hl:tooLong x.length=false:=c9Y (Nat.not_lt.mpr (a0z hc))
 have hyz:(y==Str.empty)=false:=c9u.mpr fun q=>absurd (q ▸ hy:(Str.empty.length==0)=false) nofun
 have h0:(u==0||v==0)=false:=by rw [c9u.mpr hu,c9u.mpr hv];rfl
 refine call_gives F.slot_str_replace (typeIs_str _ _ _) F.entry_str_replace (F.args_str_replace_4 _ _ _ _) (b2L x y t u v w h0 (c9u.mpr huv) hyz hy hl) ?_
 have fin:∀ (b:Bool) z,a6O x y=z→∀ tk n,s.toks≤n→Q (.str z tk) { s with toks:=n }:=fun b z e tk n hn=>hQ _ _ (Kf.tok hn) (e ▸ .str _ _ _ nofun)
 cases e:(Builtin.Str.occurrences x y 0 x.length 1).isEmpty with
 | true=>exact fun ht=>fin true x (by unfold a6O;rw [e];rfl) t s.toks ht
 | false=>exact⟨b4f x y hc,fun ht=>fin true _ (by unfold a6O;rw [e];rfl) _ _ ht⟩
theorem c0i {a:PE}{b:Nat}{e o x y z:Expr}(C:MCall (Str.ofString "replace") e o [x,y,z])(hA:EvJ G F lvl sc a o)(hx:a8G G.nm b x=true)(hy:isC (.str Str.empty) y=true)(hz:isC (.int 1) z=true):EvJ G F lvl sc (.rep1 a b) e:=fun Γ σ oa s d S h Q E hQ=>by
 refine a0j (show (evE F σ a).bind _ = _ from h) fun u hu h=>?_
 refine a0j h (clear% h;fun sl hsl h=>?_)
 refine a0j h (clear% h;fun v hv h=>?_)
 refine a0j h (clear% h;fun p hp h=>?_)
 refine a0j h (clear% h;fun q hq h=>?_)
 refine a0J h (clear% h;fun hok Z1=>?_)
 subst Z1
 refine a0a hok (clear% hok;fun hok h2=>?_)
 refine a0a hok (clear% hok;fun hg hl=>?_)
 refine a0a hx (clear% hx;fun hn hok=>?_)
 refine a0a hok (clear% hok;fun k1 k2=>?_)
 refine a0a C.star fun s1 hs=>?_
 refine a0a hs (clear% hs;fun s2 hs=>?_)
 refine a2s PySem.F.slot_str_replace PySem.F.type_str_replace C hA S hu hp fun t s₁ pos a₁=>?_
 have S₁:=S.af a₁
 rw [a1a hn]
 refine (a1j hy).elim fun ky q=>q.elim fun py ey=>?_
 refine (a1j hz).elim fun kz q=>q.elim fun pz ez=>?_
 rw [ey] at s2 ⊢
 rw [ez] at hs ⊢
 refine d0I (d0o (S₁.read (hsl.trans (c9o some (a4r hv))) (fun vv sv=>?_) (a1L k2)) (a1L k1)) (a0k rfl)
 have sv:Rep (rc G Γ) (a0m Γ σ oa) s₁.heap s₁.toks vv v:=sv
 rw [a5H hq] at sv
 refine (RepT.deep sv).asStr.elim fun tk q=>q.elim fun e ht=>?_
 subst e
 refine d0I (wpAny_Constant_str ?_) (a0k s2)
 refine d0I (wpAny_Constant_int (d0H ?_)) (a0k (a0h hs).1)
 exact (c0h (ht hg).1 (Nat.ne_of_gt a₁.gst.tok) (d0g (ht hg).2) hl (a1L h2)).then ((a₁.kf (Kf.tok (c9A _))).kf (Kf.tok (c9A _))) hQ
open Builtin Builtin.Str in
theorem b0l (x y:Str)(i j:Int)(t u v w:Tok):Gives («str.find» ⟨[.str x t,.str y u,.int i v,.int j w],[]⟩) (.int (match occurrences x y (fromIndex x.length i) (min (fromIndex x.length j) x.length) 1 with | k :: _=>(k:Int) | []=>-1)):=by
 show Gives (match occurrences x y (fromIndex x.length i) (min (fromIndex x.length j) x.length) 1 with | k :: _=>retInt k | []=>(do rule "str.find.not-found";retInt (-1))) _
 cases occurrences x y (fromIndex x.length i) (min (fromIndex x.length j) x.length) 1 with
 | nil=>exact .rule (.of_eq rfl)
 | cons k _=>exact .of_eq rfl
theorem a4A {n:Nat}{i:Int}(h:0≤i):PySem.fromIndex n i=i.toNat:=by
 unfold PySem.fromIndex
 rw [c9t (Int.not_lt.mpr h),Int.max_eq_right h]
theorem c0j {a b lo hi:PE}{e o y z w:Expr}(C:MCall (Str.ofString "find") e o [y,z,w])(hA:EvJ G F lvl sc a o)(hB:EvJ G F lvl sc b y)(hL:EvJ G F lvl sc lo z)(hU:EvJ G F lvl sc hi w):EvJ G F lvl sc (.find a b lo hi) e:=fun Γ σ oa s d S h Q E hQ=>by
 refine a0j (show (evE F σ a).bind _ = _ from h) fun u hu h=>?_
 refine a0j h (clear% h;fun v hv h=>?_)
 refine a0j h (clear% h;fun p hp h=>?_)
 refine a0j h (clear% h;fun q hq h=>?_)
 refine a0j h (clear% h;fun x hx h=>?_)
 refine a0j h (clear% h;fun y hy h=>?_)
 refine a0j h (clear% h;fun i hi h=>?_)
 refine a0j h (clear% h;fun j hj h=>?_)
 refine a0J h (clear% h;fun hok Z1=>?_)
 subst Z1
 refine a0a hok (clear% hok;fun hok h3=>?_)
 refine a0a hok (clear% hok;fun h1 h2=>?_)
 refine a2s PySem.F.slot_str_find PySem.F.type_str_find C hA S hu hx fun t s₁ pos a₁=>a7g C.star hB hL hU (S.af a₁) hv hp hq fun v1 v2 v3 s₂ a₂ r1 r2 r3=>?_
 refine r1.strP (P:=fun v=>wpAny _ _ (call (.builtin "str.find") [.str x t,v,v2,v3]) Q E s₂) hy fun u1=>r2.intP (P:=fun v=>wpAny _ _ (call (.builtin "str.find") [_,_,v,v3]) Q E s₂) hi fun u2=>r3.intP (P:=fun v=>wpAny _ _ (call (.builtin "str.find") [_,_,_,v]) Q E s₂) hj fun u3=>?_
 have g:=b0l x y i j t u1 u2 u3
 rw [a4A (c9E h1),a4A (c9E h2),Nat.min_eq_left (Int.toNat_le.mpr (c9E h3))] at g
 exact call_gives PySem.F.slot_str_find (typeIs_str _ _ _) PySem.F.entry_str_find (PySem.F.args_str_find_4 _ _ _ _) g (hQ _ _ (.of ((a₁.trans a₂).kf (Kf.tok (c9A _))) (.int _ _)))
end
end
section
noncomputable def BsJ (G:GC)(F:Fns)(lvl:Nat)(sc:a0g)(op:BoolOp)(pes:PEs)(es:List Expr):Prop:=∀ (Γ:Ctx) (σ:Store) (oa:Nat→Addr) (s:Shared) (b:Bool),St G Γ lvl sc σ oa s→(match op with
  | .And=>b9F F σ pes
  | .Or=>c6f F σ pes)=some b→Tr G Γ.A (allTrue op es Γ.env) s b
section
variable {G:GC}{F:Fns}{lvl:Nat}{Γ:Ctx}{sc names:a0g}{σ σ₀ σ':Store}{oa:Nat→Addr}{s s₁ s':Shared}{E:Value→Shared→Prop}
theorem Tr.then {m:Sem Bool}{q:Bool}{Q:Bool→Shared→Prop}(h:Tr G Γ.A m s₁ q)(a:Af G s s₁)(hQ:∀ s',Af G s s'→Q q s'):wpAny (model G.prog G.w) Γ.A m Q E s₁:=h Q E fun s' b=>hQ s' (a.trans b)
theorem c3q {a:PE}{x:Expr}{p:Pos}(hA:TsJ G F lvl sc a x):TsJ G F lvl sc (.not a) (.UnaryOp .Not x p):=fun Γ σ oa s b S h Q E hQ=>by
 refine a2p (show (evT F σ a).map _ = _ from h) fun q hq Z1=>?_
 subst Z1
 exact wpAny_isTrue_Not (hA _ _ _ _ _ S hq _ _ fun s' a=>hQ s' a)
theorem c3r {t a b:PE}{t' a' b':Expr}{p:Pos}(hT:TsJ G F lvl sc t t')(hA:TsJ G F lvl sc a a')(hB:TsJ G F lvl sc b b'):TsJ G F lvl sc (.ite t a b) (.IfExp t' a' b' p):=fun Γ σ oa s b S h Q E hQ=>by
 refine a0j (show (evT F σ t).bind _ = _ from h) fun q hq h=>?_
 rw [arm_isTrue_IfExp]
 refine c9L (hT _ _ _ _ _ S hq _ _ fun s₁ a₁=>?_)
 cases q with
 | true=>exact (hA _ _ _ _ _ (S.af a₁) h).then a₁ hQ
 | false=>exact (hB _ _ _ _ _ (S.af a₁) h).then a₁ hQ
theorem c3s {op:BoolOp}:BsJ G F lvl sc op .nil []:=fun Γ σ oa s b S h Q E hQ=>by
 cases op with
 | And=>exact wpAny_allTrue_And_nil (c9x (show some true=some b from h) ▸ hQ s S.afR)
 | Or=>exact wpAny_allTrue_Or_nil (c9x (show some false=some b from h) ▸ hQ s S.afR)
theorem c0k {op:BoolOp}{pe:PE}{pes:PEs}{e:Expr}{es:List Expr}(hE:TsJ G F lvl sc pe e)(hR:BsJ G F lvl sc op pes es):BsJ G F lvl sc op (.cons pe pes) (e :: es):=fun Γ σ oa s b S h Q E hQ=>by
 cases op with
 | And=>
  refine a0j (show (evT F σ pe).bind _ = _ from h) fun q hq h=>?_
  refine wpAny_allTrue_And_cons (hE _ _ _ _ _ S hq _ _ fun s₁ a₁=>?_)
  cases q with
  | true=>exact (hR _ _ _ _ _ (S.af a₁) h).then a₁ hQ
  | false=>exact (c9x (show some false=some b from h) ▸ hQ _ a₁:Q false s₁)
 | Or=>
  refine a0j (show (evT F σ pe).bind _ = _ from h) fun q hq h=>?_
  refine wpAny_allTrue_Or_cons (hE _ _ _ _ _ S hq _ _ fun s₁ a₁=>?_)
  cases q with
  | true=>exact (c9x (show some true=some b from h) ▸ hQ _ a₁:Q true s₁)
  | false=>exact (hR _ _ _ _ _ (S.af a₁) h).then a₁ hQ
theorem c3t {pes:PEs}{es:List Expr}{p:Pos}(hA:BsJ G F lvl sc .And pes es):TsJ G F lvl sc (.and pes) (.BoolOp .And es p):=fun Γ σ oa s b S h Q E hQ=>wpAny_isTrue_BoolOp (hA _ _ _ _ _ S h _ _ hQ)
theorem c6o {pes:PEs}{es:List Expr}{p:Pos}(hA:BsJ G F lvl sc .Or pes es):TsJ G F lvl sc (.or pes) (.BoolOp .Or es p):=fun Γ σ oa s b S h Q E hQ=>wpAny_isTrue_BoolOp (hA _ _ _ _ _ S h _ _ hQ)
theorem c3u {op:CmpOp}{a b:PE}{l r:Expr}{p:Pos}(hA:EvJ G F lvl sc a l)(hB:EvJ G F lvl sc b r)(hm:behindInMarks op r=false):TsJ G F lvl sc (.cmp op a b) (.Compare l [op] [r] p):=fun Γ σ oa s q S h Q E hQ=>by
 refine a0j (show (evE F σ a).bind _ = _ from h) fun x hx h=>?_
 refine a0j h (clear% h;fun y hy h=>?_)
 exact wpAny_isTrue_Compare1 (two S hA hB hx hy fun v w s' a r1 r2=>b1h S.aok.units r1 r2 h _ _ fun s₃ k=>c9F (n:=s₃.toks) (c9n _) (c9N fun ht=>hQ _ (a.kf k))) hm
theorem c0l {op op':CmpOp}{a b c:PE}{l m r:Expr}{p:Pos}(hA:EvJ G F lvl sc a l)(hB:EvJ G F lvl sc b m)(hC:EvJ G F lvl sc c r)(hm:lastMarks [op,op'] [m,r]=false):TsJ G F lvl sc (.cmp2 a op b op' c) (.Compare l [op,op'] [m,r] p):=fun Γ σ oa s q S h Q E hQ=>by
 refine a0j (show (evE F σ a).bind _ = _ from h) fun x hx h=>?_
 refine a0j h (clear% h;fun y hy h=>?_)
 refine a0j h (clear% h;fun t ht h=>?_)
 refine isTrue_chain (hA _ _ _ _ _ S hx _ _ fun v s₁ R=>?_) hm
 have S₁:=S.af R.af
 refine test_link (hB _ _ _ _ _ S₁ hy _ _ fun w s₂ R₂=>b1h S.aok.units (RepT.kp S₁ R.rep R₂.af.kp) R₂.rep ht _ _ fun s₃ k₃=>c9N ?_)
 have S₃:=(S₁.af R₂.af).kf k₃
 have a₃:=(R.af.trans R₂.af).kf k₃
 cases t with
 | false=>exact (c9x (show some false=some q from h) ▸ hQ _ a₃:Q false s₃)
 | true=>
  refine a0j (show (evE F σ c).bind _ = _ from h) fun z hz h=>?_
  exact test_last (hC _ _ _ _ _ S₃ hz _ _ fun u s₄ R₄=>b1h S.aok.units (RepT.kp S₃ (RepT.kp (S₁.af R₂.af) R₂.rep k₃.kp) R₄.af.kp) R₄.rep h _ _ fun s' k=>c9N (hQ _ ((a₃.trans R₄.af).kf k)))
theorem c0m {b:Bool}{k:Nat}{p:Pos}:TsJ G F lvl sc (.bool b) (.Constant (.bool b) k p):=fun Γ σ oa s q S h Q E hQ=>
 wpAny_isTrue_value (wpAny_Constant_bool (c9N (c9x (show some b=some q from h) ▸ hQ s S.afR)))
theorem a4B {e:Expr}{q:Bool}{d:D}{st:Bool}(he:PySem.isTrue e Γ.env (eval e Γ.env)=(do let v ← eval e Γ.env;standAt e.pos;holding [v] (truthy v)))
  (h:Ev G Γ σ oa st (eval e Γ.env) s d) (ht:a6Y d=some q):Tr G Γ.A (PySem.isTrue e Γ.env (eval e Γ.env)) s q:=fun Q E hQ=>
 wpAny_isTrue_value (h _ E fun v s₁ R=>b6E R.rep ht _ _ fun s' kf=>hQ s' (R.af.kf kf)) he
theorem b2M {sl:Slot}{d:D}(h:sl.asTop=some d):sl.read=some d:=by
 cases sl with
 | val d=>exact h
 | own l=>exact h
 | ownD kv=>exact a0e h
 | meth y=>exact a0e h
theorem c0n {x:Nat}{p:Pos}(hk:a9W (G.nm x)=true):TsJ G F lvl sc (.var x) (.Name (G.nm x) p):=fun Γ σ oa s q S h=>by
 refine a0j (show (σ.get x).bind _ = _ from h) fun sl hx h=>?_
 refine a0j h (clear% h;fun d hd ht=>?_)
 exact a4B rfl (b3Z (F:=F) hk _ _ _ _ _ S (show (σ.get x).bind _ = _ from hx ▸ b2M hd)) ht
theorem c0o {f:Nat}{args:PEs}{kw:PO}{e:Expr}{es:List Expr}{ks:List Keyword}(hF:FOK G F lvl)(C:GCall sc (G.nm f) e es ks)(hA:a5a G F lvl sc args es)(hK:KwJ G F lvl sc kw ks):TsJ G F lvl sc (.call f args kw) e:=fun Γ σ oa s b S h=>by
 refine a0j (show (a2V F σ args).bind _ = _ from h) fun as ha h=>?_
 refine a0j h (clear% h;fun k hk h=>?_)
 refine a0j h (clear% h;fun d hf ht=>?_)
 exact a4B (st:=true) (C.eq.elim fun p q=>q.elim fun q e=>e ▸ rfl) (b0k hF C hA hK S ha hk hf) ht
theorem c3v {a i:PE}{v' i':Expr}{p:Pos}(hA:EvJ G F lvl sc a v')(hB:EvJ G F lvl sc i i'):TsJ G F lvl sc (.idx a i) (.Subscript v' i' p):=fun Γ σ oa s b S h=>by
 refine a0j (show (evE F σ a).bind _ = _ from h) fun x hx h=>?_
 refine a0j h (clear% h;fun y hy h=>?_)
 refine a0j h (clear% h;fun d hd ht=>?_)
 exact a4B rfl (b4a hA hB _ _ _ _ _ S (show (evE F σ a).bind _ = _ by rw [hx];show (evE F σ i).bind _ = _;rw [hy];exact hd)) ht
theorem b2N {a:PE}{e o:Expr}(C:MCall (Str.ofString "isascii") e o [])(hA:EvJ G F lvl sc a o):TsJ G F lvl sc (.isascii a) e:=fun Γ σ oa s b S h=>by
 refine a0j (show (evE F σ a).bind _ = _ from h) fun u hu h=>?_
 refine a2p h (clear% h;fun x hx Z1=>?_)
 subst Z1
 exact a4B (st:=true) (C.eq.elim fun p q=>q.elim fun q e=>e.1 ▸ rfl) (a5v C hA S hu hx) rfl
theorem b7d {a:PE}{e x y:Expr}(hB:GlobsOK G)(C:a1Q sc "isinstance" e [x,y])(hA:EvJ G F lvl sc a x)(hy:b9U sc "str" y=true):TsJ G F lvl sc (.isStr a) e:=fun Γ σ oa s b S h=>by
 refine a0j (show (evE F σ a).bind _ = _ from h) fun u hu h=>?_
 refine a2p h (clear% h;fun z hz Z1=>?_)
 subst Z1
 refine (a7T hy).elim fun Z1 hg'=>Z1.elim (fun p' Z2=>?_)
 subst Z2
 refine a4B (st:=true) (d:=.bool true) (C.eq.elim fun p q=>q.elim fun q e=>e ▸ rfl) (fn2 hB rfl C hA (b9b (F:=F) (n:="str") hB hg' (by decide)) S hu rfl fun v w s₁ S₁ r r₂=>?_) rfl
 rw [r₂.asTyp]
 exact r.strP (P:=fun v=>Does G Γ σ oa (call (.builtin "isinstance") [v,.type "str"]) s₁ (.bool true)) hz fun t Q E hQ=>IsiPair.str_str (hQ _ _ .refl (.bool _))
theorem c0p:b6s G F lvl sc .nil []:=fun Γ σ oa s b S h Q E hQ=>c9M (c9x (show some true=some b from h) ▸ hQ s S.afR)
theorem b4g {es:List Expr}{env:Env}{Q:Bool→Shared→Prop}{A:Around}(h:Q false s):wpAny (model G.prog G.w) A (forIn es false fun c r=>if r=true then do let ok ← PySem.isTrue c env (eval c env);pure (ForInStep.yield ok) else pure (ForInStep.yield r)) Q E s:=by
 induction es with
 | nil=>exact c9M h
 | cons e r ih=>rw [List.forIn_cons];exact c9L (c9M ih)
theorem b7e {pe:PE}{pes:PEs}{e:Expr}{es:List Expr}(hE:TsJ G F lvl sc pe e)(hR:b6s G F lvl sc pes es):b6s G F lvl sc (.cons pe pes) (e :: es):=fun Γ σ oa s b S h Q E hQ=>by
 refine a0j (show (evT F σ pe).bind _ = _ from h) fun q hq h=>?_
 unfold c5L
 rw [List.forIn_cons]
 refine c9L (c9L (hE _ _ _ _ _ S hq _ _ fun s₁ a₁=>c9M ?_))
 cases q with
 | true=>exact (hR _ _ _ _ _ (S.af a₁) h).then a₁ hQ
 | false=>exact b4g (c9x (show some false=some b from h) ▸ hQ _ a₁)
end
end
section
section
variable {G:GC}{F:Fns}{lvl:Nat}{Γ:Ctx}{sc names:a0g}{σ σ₀ σ':Store}{oa:Nat→Addr}{s s₁ s':Shared}{v:Value}{d:D}{E:Value→Shared→Prop}
theorem Wk.re {st st':Bool}{ds:List D}{s₀ s₁ s₂:Shared}{I:Addr}{fp:List Addr}{P:Nat→Nat→Value→Prop}{Stt:Nat→Heap→Prop}(W:Wk G Γ σ oa st ds s₁ s₂ I fp P Stt)(k:Kp G s₀ s₁)(hst:st'=true→st=true):Wk G Γ σ oa st' ds s₀ s₂ I fp P Stt:=
 { W with
  strict:=fun q=>W.strict (hst q)
  newI:=⟨a7b k (W.old I W.fpI).2 W.newI.1,W.newI.2⟩ }
theorem Rep.notBad (h:RD G Γ σ oa s v d){ds:List D}(hd:a5B d=some ds):∀ a,v=.ref a→¬ Γ.bad a:=fun a e q=>by
 have go:∀ {P:Addr→Prop},(∃ a',v=.ref a'∧¬ a0m Γ σ oa a')→False:=fun h=>h.elim fun a' h=>h.2 (by
  have e':=h.1.symm.trans e
  injection e' with e'
  exact e' ▸ .inl q)
 rcases a0L hd with hd | hd
 ·rw [a2J hd] at h
  exact go (P:=fun _=>True) (h.view.elim fun a q=>q.elim fun _ q=>⟨a,q.1,q.2.1⟩)
 rcases a0L hd with hd | hd
 ·rw [a2K hd] at h
  exact go (P:=fun _=>True) (h.view.elim fun a q=>q.elim fun _ q=>⟨a,q.1,q.2.1⟩)
 rcases a0L hd with hd | hd
 ·refine a0j hd (clear% hd;fun x hx _=>?_)
  exact RepT.strP (P:=fun v=>v=.ref a→False) (.deep h) hx (fun t=>nofun) e
 ·refine a2p hd (clear% hd;fun x hx _=>?_)
  exact RepT.bytesP (P:=fun v=>v=.ref a→False) (.deep h) hx (fun t=>nofun) e
theorem Iter.then {st st':Bool}{ds:List D}(h:Iter G Γ σ oa st ds s₁ s₁ v)(a:Af G s s₁)(hst:st'=true→st=true){Q:Value→Shared→Prop}(hQ:∀ I fp P Stt s',Af G s s'→Wk G Γ σ oa st' ds s s' I fp P Stt→Q (.ref I) s'):wpAny (model G.prog G.w) Γ.A (pyIter v) Q E s₁:=
 h Q E fun I fp P Stt s' k W=>hQ I fp P Stt s' (a.kf k) (W.re a.kp hst)
theorem a7W {e:Expr}{ds:List D}{st:Bool}(S:St G Γ lvl sc σ oa s)(h:Ev G Γ σ oa true (eval e Γ.env) s d)(hi:a5B d=some ds):It G Γ σ oa st e s ds:=fun Q E hQ=>
 h _ E fun v s₁ R=>(b0g (st:=true) (S.af R.af) R.rep R.deep (Rep.notBad (R.deep rfl) hi) hi).then R.af (fun _=>rfl) hQ
theorem c0q {x:Nat}{p:Pos}(hk:a9W (G.nm x)=true):a3q G F lvl sc (.var x) (.Name (G.nm x) p):=fun Γ σ oa s ds S h Q E hQ=>by
 refine a0a hk (clear% hk;fun k1 k2=>?_)
 refine a0j (show (σ.get x).bind _ = _ from h) fun sl hx h=>?_
 refine a0j h (clear% h;fun d hd hi=>?_)
 refine d0o (S.read hx (fun v sv=>?_) (a1L k2)) (a1L k1)
 cases sl with
 | val d'=>
  cases c9x hd
  exact (b0g (st:=true) S (.deep sv) (fun _=>sv) (Rep.notBad (s:=s) sv hi) hi).then S.afR (fun _=>rfl) hQ
 | own l=>
  cases c9x hd
  obtain⟨rfl,vs,hp,r⟩:=sv
  refine (b0g (st:=false) S (.list hp.isList r) nofun (fun a e=>?_) hi).then S.afR (fun q=>?_) hQ
  ·injection e with e
   exact e ▸ S.ownBad x (a0X hx)
  ·have q:((σ.get x).bind Slot.asVal).isSome=true:=q
   rw [hx] at q
   exact absurd q c9p
 | ownD kv=>exact a0e hd
 | meth y=>exact a0e hd
theorem c3w {a i:PE}{v' i':Expr}{p:Pos}(hA:EvJ G F lvl sc a v')(hB:EvJ G F lvl sc i i'):a3q G F lvl sc (.idx a i) (.Subscript v' i' p):=fun Γ σ oa s ds S h=>by
 refine a0j (show (evE F σ a).bind _ = _ from h) fun x hx h=>?_
 refine a0j h (clear% h;fun y hy h=>?_)
 refine a0j h (clear% h;fun d hd hi=>?_)
 exact a7W S (b4a hA hB _ _ _ _ _ S (show (evE F σ a).bind _ = _ by rw [hx];show (evE F σ i).bind _ = _;rw [hy];exact hd)) hi
theorem b7f {a:PE}{lo hi:PO}{v':Expr}{l u:Option Expr}{p q:Pos}(hA:EvJ G F lvl sc a v')(hL:a7V G F lvl sc lo l)(hU:a7V G F lvl sc hi u):a3q G F lvl sc (.slice a lo hi) (.Subscript v' (.Slice l u none q) p):=fun Γ σ oa s ds S h=>by
 refine a0j (show (evE F σ a).bind _ = _ from h) fun x hx h=>?_
 refine a0j h (clear% h;fun lo' hlo h=>?_)
 refine a0j h (clear% h;fun i hi1 h=>?_)
 refine a0j h (clear% h;fun hi' hhi h=>?_)
 refine a0j h (clear% h;fun j hj1 h=>?_)
 refine a0j h (clear% h;fun d hd hit=>?_)
 refine a7W S (b1r hA hL hU _ _ _ _ _ S ?_) hit
 show (evE F σ a).bind _ = _
 rw [hx]
 show (evO F σ lo).bind _ = _
 rw [hlo]
 show (a2q lo').bind _ = _
 rw [hi1]
 show (evO F σ hi).bind _ = _
 rw [hhi]
 show (a2q hi').bind _ = _
 rw [hj1]
 exact hd
theorem c0r {f:Nat}{args:PEs}{kw:PO}{e:Expr}{es:List Expr}{ks:List Keyword}(hF:FOK G F lvl)(C:GCall sc (G.nm f) e es ks)(hA:a5a G F lvl sc args es)(hK:KwJ G F lvl sc kw ks):a3q G F lvl sc (.call f args kw) e:=fun Γ σ oa s ds S h=>by
 refine a0j (show (a2V F σ args).bind _ = _ from h) fun as ha h=>?_
 refine a0j h (clear% h;fun k hk h=>?_)
 refine a0j h (clear% h;fun d hf hit=>?_)
 exact a7W S (b0k hF C hA hK S ha hk hf) hit
theorem a6P (a b:Int):Builtin.Range.rangeSize a b 1=((b - a).toNat:Nat):=by
 rw [rangeSize_one]
 split <;> lia
structure RangeOk (a b c:Int)(ds:List D)(n:Nat):Prop where
 step:c=1∨c=-1
 size:Builtin.Range.rangeSize a b c=n
 small:Builtin.Range.small a b c=true
 eq:((List.range n).map fun (i:Nat)=>D.int (a+i*c))=ds
theorem a6f {a b c:Int}{ds:List D}(h:a5T a b c=some ds):∃ n,RangeOk a b c ds n:=by
 refine (a0N h).elim fun hc h=>?_
 refine a0a hc (clear% hc;fun hc h4=>?_)
 refine a0a hc (clear% hc;fun hc h3=>?_)
 refine a0a hc (clear% hc;fun h1 h2=>?_)
 have h1:=c9E h1
 have h2:=c9E h2
 have h3:=c9E h3
 have h4:=c9E h4
 by_cases hc1:c=1
 ·rw [c9r hc1] at h
  rw [hc1]
  refine⟨_,.inl rfl,a6P a b,small_one (by lia) (by lia) (by lia) (by lia),(c9o (fun f=>List.map f _) (funext fun i=>?_)).trans (c9x h)⟩
  rw [Int.mul_one]
 ·rw [c9t hc1] at h
  refine a2p h (clear% h;fun n hn h=>?_)
  have key:∀ x y m,(c==-1&&a==x&&b==y)=true→Builtin.Range.rangeSize x y (-1)=(m:Nat)→Builtin.Range.small x y (-1)=true→m=n→RangeOk a b c ds n:=fun x y m q e1 e2 e=>by
   have e3:=c9K (a0h (a0h q).1).1
   have e4:=c9K (a0h (a0h q).1).2
   have e5:=c9K (a0h q).2
   subst e3 e4 e5 e
   exact⟨.inr rfl,e1,e2,h⟩
  have hn:(bif c==-1&&a==9&&b==5 then some 4
   else bif c==-1&&a==0&&b==0 then some 0
   else none)=some n:=hn
  cases q1:(c==-1&&a==9&&b==5) with
  | true=>
   rw [q1] at hn
   exact⟨n,key 9 5 4 q1 (by kernel_rfl) (by kernel_rfl) (c9x hn)⟩
  | false=>
   rw [q1] at hn
   cases q2:(c==-1&&a==0&&b==0) with
   | true=>
    rw [q2] at hn
    exact⟨n,key 0 0 0 q2 (by kernel_rfl) (by kernel_rfl) (c9x hn)⟩
   | false=>
    rw [q2] at hn
    exact a0e hn
theorem a7X (S:St G Γ lvl sc σ oa s₁)(a:Af G s s₁){i j k:Int}{t u w:Tok}{tk:Nat}(ht:s₁.toks≤tk){ds:List D}{st:Bool}(h:a5T i j k=some ds){Q:Value→Shared→Prop}(hQ:∀ I fp P Stt s',Af G s s'→Wk G Γ σ oa st ds s s' I fp P Stt→Q (.ref I) s') :
  wpAny (model G.prog G.w) Γ.A (pyIter (.ref s₁.heap.objs.size)) Q E { s₁ with heap:=s₁.heap.push { cls:=.type "range",data:=.fields #[.int i t,.int j u,.int k w] },toks:=tk }:=by
 refine (a6f h).elim fun n R=>?_
 rw [← R.eq] at hQ
 have kf:Kf s₁ { s₁ with heap:=s₁.heap.push { cls:=.type "range",data:=.fields #[.int i t,.int j u,.int k w] },toks:=tk }:=Kf.push ht
 exact b2B (S.kf kf) (a.kp.kf kf) (IsRange.new _ _ _ _ _ _ _) R.size R.small _ _ fun I fp P Stt s' k' W=>hQ I fp P Stt s' ((a.kf kf).kf k') W
theorem b4h {a:PE}{e x:Expr}(hB:GlobsOK G)(C:a1Q sc "range" e [x])(hA:EvJ G F lvl sc a x):a3q G F lvl sc (.range1 a) e:=fun Γ σ oa s ds S h Q E hQ=>by
 refine a0j (show (evE F σ a).bind _ = _ from h) fun u hu h=>?_
 refine a0j h (clear% h;fun i hi h=>?_)
 obtain⟨⟨p,q,rfl⟩,h1,h2,h3⟩:=C
 refine a2M S h1 (hB.types "range" (by decide)) h2 h3 (a6e h3 hA S hu fun v s₁ a₁ r=>?_)
 exact r.intP (P:=fun v=>wpAny _ _ (call (.type "range") [v]) _ E s₁) hi fun t=>call_range_1 (a7X (S.af a₁) a₁ (c9V _ 2) h hQ)
theorem b4i {a b:PE}{e x y:Expr}(hB:GlobsOK G)(C:a1Q sc "range" e [x,y])(hA:EvJ G F lvl sc a x)(hA2:EvJ G F lvl sc b y):a3q G F lvl sc (.range2 a b) e:=fun Γ σ oa s ds S h Q E hQ=>by
 refine a0j (show (evE F σ a).bind _ = _ from h) fun u hu h=>?_
 refine a0j h (clear% h;fun w hw h=>?_)
 refine a0j h (clear% h;fun i hi h=>?_)
 refine a0j h (clear% h;fun j hj h=>?_)
 obtain⟨⟨p,q,rfl⟩,h1,h2,h3⟩:=C
 refine a2M S h1 (hB.types "range" (by decide)) h2 h3 (a5I h3 hA hA2 S hu hw fun v v' s₁ a₁ r r'=>?_)
 exact RepT.ii (fun v v'=>wpAny _ _ (call (.type "range") [v,v']) _ E s₁) r r' hi hj fun t t'=>call_range_2 (a7X (S.af a₁) a₁ (c9V _ 1) h hQ)
theorem b4j {a b c:PE}{e x y z:Expr}(hB:GlobsOK G)(C:a1Q sc "range" e [x,y,z])(hA:EvJ G F lvl sc a x)(hA2:EvJ G F lvl sc b y)(hA3:EvJ G F lvl sc c z):a3q G F lvl sc (.range3 a b c) e:=fun Γ σ oa s ds S h Q E hQ=>by
 refine a0j (show (evE F σ a).bind _ = _ from h) fun u hu h=>?_
 refine a0j h (clear% h;fun w hw h=>?_)
 refine a0j h (clear% h;fun o ho h=>?_)
 refine a0j h (clear% h;fun i hi h=>?_)
 refine a0j h (clear% h;fun j hj h=>?_)
 refine a0j h (clear% h;fun k hk h=>?_)
 obtain⟨⟨p,q,rfl⟩,h1,h2,h3⟩:=C
 refine (a6f h).elim fun n R=>?_
 have hk0:=R.step
 refine a2M S h1 (hB.types "range" (by decide)) h2 h3 (a7g h3 hA hA2 hA3 S hu hw ho fun v v' v'' s₁ a₁ r r' r''=>?_)
 exact RepT.ii (fun v v'=>wpAny _ _ (call (.type "range") [v,v',v'']) _ E s₁) r r' hi hj fun t t'=>r''.intP (P:=fun v''=>wpAny _ _ (call (.type "range") [_,_,v'']) _ E s₁) hk fun t''=>
  call_range_3 (by lia) (a7X (S.af a₁) a₁ (c9n _) h hQ) (Or.inl (PyProof.noPylong_small (by lia)))
theorem CompOut.done {Dd C:Addr}{r:List D}{h':Heap}(S:St G Γ lvl sc σ oa s)(O:CompOut G Γ σ oa s s' Dd C r)(k:∀ b o,b≠C→s'.heap.get? b=some o→h'.get? b=some o):Af G s { s' with heap:=h' }∧RD G Γ σ oa { s' with heap:=h' } (.ref Dd) (.list r):=by
 refine (O.ns).elim fun m hn=>?_
 refine (a4V hn).elim fun oC Z1=>Z1.elim (fun eC cC=>?_)
 obtain⟨vs,⟨n,hp⟩,rr⟩:=O.list
 have kp:=O.af.kp
 exact⟨⟨⟨fun b o hT e=>k b o (a0f O.newC e) (kp.heap b o hT e),kp.os,kp.toks,kp.gens⟩,a4U (tk:=s'.toks) O.af.gst k (a4Z S O.newC) eC cC.ok (c9n _)⟩,
  .list (fun q=>(S.alloc _ q).elim fun o e=>a0f O.newD e rfl) ⟨_,k _ _ O.ne hp,rfl,n,rfl⟩ ((rr.keep (c9n _) fun b o hb=>k b o fun q=>hb (.inr (.inr q))).weaken fun b hb=>.inl hb)⟩
theorem c0s {elt':PE}{t:Tgt}{iter:PE}{ifs:PEs}{gs:PGs}{fv:List Nat}{elt t' iter':Expr}{ifs':List Expr}{gs':List Comprehension}{scope:Scope}{pos:Pos}
  (hs:a3o G.nm sc scope fv=true) (ht:a3n G.nm scope.names t t'=true) (hset:a4w iter'=true) (hasync:∀ g∈gs',g.is_async=0)
  (hI:a3q G F lvl sc iter iter') (hT:b6s G F lvl (a4e sc scope.names) ifs ifs') (hG:GsJ G F lvl (a4e sc scope.names) scope.names elt' elt gs gs') :
  EvJ G F lvl sc (.comp fv elt' t iter ifs gs) (.ListComp elt (⟨t',iter',ifs',0⟩ :: gs') scope pos):=fun Γ σ oa s d S h Q E hQ=>by
 rw [eval_ListComp]
 have K:=a3L hs
 obtain⟨hc,hw⟩:=a6d (E:=E) (elt:=elt) (pos:=pos) hs ht hasync hI hT hG S h (RR:=fun acc C=>compPost (model G.prog G.w) Γ.A E none Q acc C) fun r Dd C s' e O=>
  O.ns.elim fun m hn=>⟨m,hn,fun h' hsb=>have D:=O.done S fun b o hb=>hsb.extBut b o hb;hQ _ _ (.of D.1 (e ▸ D.2))⟩
 exact wpAny_comprehension_free (use:=none) rfl (fun x=>a2P hset) hc K.kind (fun x hx hl=>(K.cons x hx).trans (c9o some hl)) hw
end
end
section
theorem a3t:PySem.Slot "bytes" "translate" "bytes.translate":=
 .of (owner:="bytes") (n:="translate") (by rw [d0N,d0O];kernel_rfl) (by decide +kernel) (by decide +kernel) (by decide +kernel)
  (by first | exact .inl (by decide +kernel) | exact .inr (by decide +kernel)) (by rw [c9O];kernel_rfl)
theorem a6g:typeOf (.builtin "bytes.translate")=pure (.type "method_descriptor"):=by show builtinType _ = _;rw [builtinType_eq_fast];kernel_rfl
theorem a5E:entryFor table "bytes.translate"=some Builtin.«bytes.translate»:=entryFor_of_tree (by kernel_rfl)
theorem a6h (a b:Value):argsOk "bytes.translate" ⟨[a,b],[]⟩:=by unfold argsOk;kernel_rfl
theorem a6i (a b:Value):checkBuiltinCall "bytes.maketrans" ⟨[a,b],[]⟩=pure ():=by kernel_rfl
theorem a6j:plainId "bytes.maketrans"=true:=by decide +kernel
theorem a6k:entryFor table "bytes.maketrans"=some Builtin.«bytes.maketrans»:=entryFor_of_tree (by kernel_rfl)
theorem b6t (a b:Value):argsOk "bytes.maketrans" ⟨[a,b],[]⟩:=by unfold argsOk;kernel_rfl
noncomputable def a2C (f t:Array UInt8):Array UInt8:=(f.toList.zip t.toList).foldl (fun t (f,x)=>t.setIfInBounds f.toNat x) ((Array.range 256).map (·.toUInt8))
theorem b4k (l:List (UInt8×UInt8))(a:Array UInt8):(l.foldl (fun t (f,x)=>t.setIfInBounds f.toNat x) a).size=a.size:=by
 induction l generalizing a with
 | nil=>rfl
 | cons p r ih=>exact (ih _).trans Array.size_setIfInBounds
theorem a3u (f t:Array UInt8):(a2C f t).size=256:=(b4k _ _).trans (Array.size_map.trans Array.size_range)
section
variable {prog:Program}{w:World}{A:Around}{E:Value→Shared→Prop}{s:Shared}{f g b:Array UInt8}{t u:Tok}
theorem b7g (h:f.size=g.size):Meets (Builtin.«bytes.maketrans» ⟨[.bytes f t,.bytes g u],[]⟩) (fun _ R s=>R (.ok (.ret (.bytes (a2C f g) s.toks))) { s with toks:=s.toks+1 }):=by
 refine .of_wp fun prog w A R s hS=>?_
 show wpAny _ _ (Builtin.Bytes.bytesLike _ (.bytes f t) >>= fun r=>_) _ _ s
 refine c9L (wpAny_of_eq KBd.like_eq ?_)
 refine c9L (wpAny_of_eq KBd.like_eq ?_)
 have e:(f.size != g.size)=false:=by simp [h]
 simp only [e,d0y,if_false]
 show wpAny _ _ (mkBytes (a2C f g) >>= fun v=>ret v) _ _ _
 exact c9L (wpAny_mkBytes (c9M ⟨_,rfl,hS⟩) (by rw [a3u,c9C];decide))
theorem a6Q {Q:Value→Shared→Prop}(h:f.size=g.size)(hQ:Q (.bytes (a2C f g) s.toks) { s with toks:=s.toks+1 }) :
  wpAny (model prog w) A (call (.builtin "bytes.maketrans") [.bytes f t,.bytes g u]) Q E s:=
 wpAny_call (codeAny_call_builtin a6j a6k (by
  rw [a6i]
  exact c9M (b7g h prog w A (wants Q E) s hQ)))
theorem b7h (h:g.size=256)(hb:b.size≤sizeLine):Meets (Builtin.«bytes.translate» ⟨[.bytes b t,.bytes g u],[]⟩)
  (fun _ R s=>∀ t' k,s.toks≤k→R (.ok (.ret (.bytes (b.map fun c=>g.getD c.toNat c) t'))) { s with toks:=k }):=by
 refine .of_wp fun prog w A R s hS=>?_
 unfold Builtin.«bytes.translate» Builtin.Bytes.translateM
 have e0:(Value.bytes g u==Value.none)=false:=rfl
 simp only [e0,d0y,if_false,List.any_nil,d0d,List.length_nil,List.head?_nil]
 rw [c9t (by decide)]
 refine c9L (wpAny_of_eq KBd.like_eq ?_)
 have e:(g.size != 256)=false:=by simp [h]
 simp only [e,d0y,if_false]
 refine c9L (c9M ?_)
 have e2:(b.filter fun x=>!(#[]:Array UInt8).contains x)=b:=by simp
 show wpAny _ _ (pure #[] >>= fun _=>_) _ _ s
 refine c9L (c9M ?_)
 refine c9L (c9M ?_)
 simp only [e2]
 split
 ·refine c9L (wpAny_rule ?_)
  refine c9L (c9M ?_)
  exact c9M ⟨_,rfl,by have:=hS t s.toks (c9n _);rw [show Array.map (fun c=>g.getD c.toNat c) b=b from by simpa using ‹(Array.map (fun c=>g.getD c.toNat c) b==b)=true›] at this;exact this⟩
 ·exact c9L (wpAny_mkBytes (c9M ⟨_,rfl,hS _ _ (c9A _)⟩) (by rw [Array.size_map];exact hb))
theorem a6l {Q:Value→Shared→Prop}(h:g.size=256)(hb:b.size≤16777216)(hQ:∀ t' k,s.toks≤k→Q (.bytes (b.map fun c=>g.getD c.toNat c) t') { s with toks:=k }) :
  wpAny (model prog w) A (call (.builtin "bytes.translate") [.bytes b t,.bytes g u]) Q E s:=
 call_meets a3t (typeIs_bytes _ _ _) a5E (a6h _ _) (b7h h (by rw [c9C];exact hb)) hQ
end
theorem b0m (c:Nat)(l:List (UInt8×UInt8))(a:Array UInt8)(d:UInt8)(hc:c<a.size)(h:a.getD c 0=d) :
  (l.foldl (fun t (f,x)=>t.setIfInBounds f.toNat x) a).getD c 0=l.foldl (fun (acc:UInt8) p=>if p.1.toNat=c then p.2 else acc) d:=by
 induction l generalizing a d with
 | nil=>exact h
 | cons p r ih=>
  obtain⟨f,x⟩:=p
  refine ih _ _ (Array.size_setIfInBounds.symm ▸ hc) ?_
  show (a.setIfInBounds f.toNat x).getD c 0=if f.toNat=c then x else d
  rw [d0P,Array.getElem?_setIfInBounds]
  by_cases e:f.toNat=c
  ·rw [c9r e,c9r e,c9r (e ▸ hc)];rfl
  ·rw [c9t e,c9t e,← d0P];exact h
theorem b0n (f g:Array UInt8)(c:UInt8):(a2C f g).getD c.toNat c=(f.toList.zip g.toList).foldl (fun (acc:UInt8) p=>if p.1=c then p.2 else acc) c:=by
 have hlt:=c.toNat_lt
 have hs:=a3u f g
 have e:(a2C f g).getD c.toNat c=(a2C f g).getD c.toNat 0:=by
  have:c.toNat<(a2C f g).size:=by rw [hs];exact hlt
  simp [Array.getD,this]
 rw [e]
 unfold a2C
 rw [b0m c.toNat _ _ c (by simp;exact hlt) (by
  have h2:c.toNat<((Array.range 256).map (·.toUInt8)).size:=by simp;exact hlt
  rw [Array.getD,dif_pos h2];simp)]
 congr 1
 funext acc p
 by_cases h:p.1=c
 ·simp [h]
 ·rw [c9t h,c9t fun q=>h (UInt8.toNat_inj.mp q)]
theorem b0o (b f g:Array UInt8):(b.map fun c=>(a2C f g).getD c.toNat c)=(a3S b.toList f.toList g.toList).toArray:=by
 have:b=b.toList.toArray:=by simp
 rw [this]
 simp only [a3S,List.map_toArray,b0n]
section
variable {G:GC}{F:Fns}{lvl:Nat}{Γ:Ctx}{sc:a0g}{σ:Store}{oa:Nat→Addr}{s s':Shared}
theorem a7Y:typeOf (.type "bytes")=pure (.type "type"):=by first | rfl | kernel_rfl
theorem a6m:findCls [] (.type "bytes") (.type "type") (Str.ofString "maketrans")=some (.val (.builtin "bytes.maketrans")):=by kernel_rfl
theorem b2O:Manifest.isStub "bytes"=false:=by decide +kernel
theorem a5F:handedIn (.builtin "bytes.maketrans")=true:=by decide +kernel
theorem c0t {h:Heap}{L:Addr}{m}(hn:h.Ns L m):Fr { objs:=#[] } L h m:=⟨hn,fun b o e=>absurd e (by simp [Heap.get?]),d0f _⟩
theorem c0u:Frag.In [] ({ objs:=#[] }:Heap):=fun a o e=>absurd e (by simp)
theorem a7Z {E:Value→Shared→Prop}(S:St G Γ lvl sc σ oa s){pl:Sem Bool}{Q:Value×List Value→Shared→Prop}(h:Q (.builtin "bytes.maketrans",[]) { s with toks:=s.toks+1 }) :
  wpAny (model G.prog G.w) Γ.A (getMethod (.type "bytes") (Str.ofString "maketrans") pl) Q E s:=by
 refine (S.slots).elim fun m Z1=>Z1.elim (fun hn _=>?_)
 refine method_type (K:=[]) (T:="bytes") (v:=.builtin "bytes.maketrans") (name:=Str.ofString "maketrans") (c0t hn) c0u ?_ ?_ ?_ ?_ ?_
 ·exact a7Y
 ·exact b2O
 ·exact a6m
 ·exact a5F
 ·exact h
theorem a6R {E:Value→Shared→Prop}(S:St G Γ lvl sc σ oa s)(hB:GlobsOK G){e o y z:Expr}(C:MCall (Str.ofString "maketrans") e o [y,z])(ho:b9U sc "bytes" o=true){Q:Value→Shared→Prop}
  (h:∀ s₁ pos,Kf s s₁→wpAny (model G.prog G.w) Γ.A (spliced (backTo pos (starEach [y,z] Γ.env))) (fun vs s₂=>wpAny (model G.prog G.w) Γ.A (call (.builtin "bytes.maketrans") vs) Q E s₂) E s₁) :
  wpAny (model G.prog G.w) Γ.A (eval e Γ.env) Q E s:=by
 obtain⟨⟨apos,pos,rfl,hline⟩,_,hs,_⟩:=C
 refine (a7T ho).elim fun Z1 hg=>Z1.elim (fun p Z2=>?_)
 subst Z2
 rw [arm_eval_Call]
 refine c9L (d0o (S.glob (a2O hg).1 (hB.types "bytes" (by decide)) ?_) (by decide))
 refine c9L (d0p ?_)
 have hform:methodCallForm ([y,z].length+([]:List Keyword).length) (backTo pos (starEach [y,z] Γ.env)) (backToKw pos (keywordEach [] Γ.env))=true:=by
  unfold methodCallForm
  rw [show (backTo pos (starEach [y,z] Γ.env)).all (fun x=>!x.1)=true from a3s hs]
  rfl
 have hpos:methodCallPos true (.Name (Str.ofString "bytes") p) Γ.env apos pos=pure pos:=by
  unfold methodCallPos
  rw [hline]
  rfl
 unfold methodCall
 rw [hform]
 refine c9L (c9J (a7Z S ?_))
 refine c9L (wpAny_of_eq hpos ?_)
 exact callWith_builtin (a0R hs) (a1g hs (h _ pos (Kf.tok (c9A _))))
theorem a8a {a b c:PE}{e o e' o' y z:Expr}(hB:GlobsOK G)(C:MCall (Str.ofString "translate") e o [e'])(C':MCall (Str.ofString "maketrans") e' o' [y,z])(ho:b9U sc "bytes" o'=true)
  (hA:EvJ G F lvl sc a o) (hY:EvJ G F lvl sc b y) (hZ:EvJ G F lvl sc c z):EvJ G F lvl sc (.btranslate a b c) e:=fun Γ σ oa s d S h Q E hQ=>by
 refine a0j (show (evE F σ a).bind _ = _ from h) fun u hu h=>?_
 refine a0j h (clear% h;fun v hv h=>?_)
 refine a0j h (clear% h;fun w hw h=>?_)
 refine a0j h (clear% h;fun bx hx h=>?_)
 refine a0j h (clear% h;fun by' hy h=>?_)
 refine a0j h (clear% h;fun bz hz h=>?_)
 refine a0J h (clear% h;fun hok Z1=>?_)
 subst Z1
 refine a0a hok (clear% hok;fun hsz hok=>?_)
 obtain⟨⟨apos,pos,rfl,hline⟩,hb,hs,_⟩:=C
 refine wpAny_Call_method (a3r hb) (by rw [a3s hs];rfl) hline FB.plainAttrs_bytes a3t a6g (hA _ _ _ _ _ S hu _ _ fun v s₁ R=>?_)
 rw [a4b hx] at R
 refine (R.rep.asBytes).elim fun t Z1=>?_
 subst Z1
 refine⟨typeIs_bytes _ _ _,nofun,callWith_builtin (a0R hs) (a1g hs (d0I ?_ (a0k (a0h hs).1)))⟩
 refine a6R (S.af R.af) hB C' ho fun s₂ pos' k₂=>a5I C'.star hY hZ ((S.af R.af).kf k₂) hv hw fun v w s₃ a₃ r₁ r₂=>?_
 refine RepT.bb (fun v w=>wpAny _ _ (call (.builtin "bytes.maketrans") [v,w]) _ E s₃) r₁ r₂ hy hz fun t₁ t₂=>?_
 refine a6Q (c9E hsz) (d0H (a6l (a3u _ _) (a1K hok) fun t' k hk=>?_))
 rw [b0o]
 exact hQ _ _ (.of (((R.af.kf k₂).trans a₃).kf (Kf.tok (c9v (c9A _) hk))) (.bytes _ _))
end
end
section
theorem c6p {β:Type}(f:Nat→β→Sem (ForInStep β))(a b:β)(l:List Nat)(h0:l=[]→a=b)(h1:l≠[]→∀ x,f x a=pure (.yield b))(h2:∀ x,f x b=pure (.done b)):forIn l a f=(pure b:Sem β):=by
 cases l with
 | nil=>rw [h0 rfl];rfl
 | cons x r=>
  rw [List.forIn_cons,h1 nofun]
  show (forIn r b f:Sem β) = _
  cases r with
  | nil=>rfl
  | cons y r=>rw [List.forIn_cons,h2];rfl
theorem b0p (l:List Nat)(acc:Array UInt8):l.foldl (fun acc y=>acc++([y.toUInt8]:List UInt8).toArray) acc=acc++(l.map fun c=>UInt8.ofNat c).toArray:=by
 induction l generalizing acc with
 | nil=>exact (Array.append_empty).symm
 | cons c r ih=>rw [d0L,ih];simp
theorem b2P (x:Str):Array.foldl (fun acc y=>acc++(Builtin._codecs.asciiCodec.bytesOf y).toArray) #[] x.cps=a2L x:=by
 rw [← Array.foldl_toList]
 show List.foldl (fun acc y=>acc++([y.toUInt8]:List UInt8).toArray) #[] x.cps.toList = _
 rw [b0p]
 simp [a2L]
open Builtin._codecs in
theorem b0q (id:String)(self:Value)(x:Str):∃ f:Nat→Nat×Array UInt8×Faults→Sem (ForInStep (Nat×Array UInt8×Faults)),encodeNarrow id asciiCodec none self x=(forIn [0:x.length] ((0,#[],{}):Nat×Array UInt8×Faults) f >>= fun r=>pure r.2.1) ∧
  (∀ n i out st,out.size≤sizeLine→x.cps[i]?=none→f n (i,out,st)=pure (.done (i,out,st))) ∧
  (∀ n i out st c,out.size≤sizeLine→x.cps[i]?=some c→asciiCodec.bad c=false→f n (i,out,st)=pure (.yield (i+((x.cps.extract i x.cps.size).findIdx? asciiCodec.bad).getD (x.cps.extract i x.cps.size).size,((x.cps.extract i x.cps.size).extract 0 (((x.cps.extract i x.cps.size).findIdx? asciiCodec.bad).getD (x.cps.extract i x.cps.size).size)).foldl (fun acc y=>acc++(asciiCodec.bytesOf y).toArray) out,st))):=by
 refine⟨_,rfl,fun n i out st h1 h2=>?_,fun n i out st c h1 h2 h3=>?_⟩
 ·refine (c9t (Nat.not_lt.mpr h1)).trans ?_
  rw [h2]
 ·refine (c9t (Nat.not_lt.mpr h1)).trans ?_
  rw [h2]
  exact c9r (by rw [h3];rfl)
theorem a7h (x:Str):(a2L x).size=x.length:=(c9I ..).trans ((d0a ..).trans Array.length_toList)
open Builtin._codecs in
theorem a8Z (id:String)(self:Value)(x:Str)(hx:x.cps.all (·<128)=true)(hl:x.length≤sizeLine):encodeNarrow id asciiCodec none self x=pure (a2L x):=by
 have hbad:∀ c∈x.cps,asciiCodec.bad c=false:=fun c hc=>c9Y (Nat.not_le.mpr (c9E (Array.all_eq_true_iff_forall_mem.mp hx c hc)))
 have hfind:x.cps.findIdx? asciiCodec.bad=none:=Array.findIdx?_eq_none_iff.mpr hbad
 obtain⟨f,e,hd,hy⟩:=b0q id self x
 rw [e,Std.Legacy.Range.forIn_eq_forIn_range']
 refine (c9o (· >>= _) (c6p (β:=Nat×Array UInt8×Faults) f _ (x.length,a2L x,{ }) _ (fun h=>?_) (fun hne n=>?_) fun n=>?_)).trans rfl
 ·have h0:x.length=0:=by
   have:=c9o List.length h
   simpa [Std.Legacy.Range.size] using this
  have e:x.cps=#[]:=Array.eq_empty_of_size_eq_zero h0
  unfold a2L
  rw [h0,e]
  rfl
 ·have hpos:0<x.cps.size:=Nat.pos_of_ne_zero fun q=>hne (by
   have h0:x.length=0:=q
   simp [h0,Std.Legacy.Range.size])
  rw [hy n 0 #[] {} x.cps[0] (d0f _) (d0q hpos) (hbad _ (Array.getElem_mem hpos)),Array.extract_size,hfind,Option.getD_none,Array.extract_size,b2P,d0E]
  rfl
 ·exact hd n _ _ _ (a7h x ▸ hl) (Array.getElem?_eq_none (c9n _))
open Builtin._codecs in
theorem b2Q (id:String)(self:Value)(x:Str):encodeRoad id self x (Str.ofString "ascii") none=(do mkBytes (← encodeNarrow id asciiCodec none self x)):=by kernel_rfl
open Builtin._codecs in
theorem a9a (x:Str)(t u:Tok):Builtin.«str.encode» ⟨[.str x t,.str (Str.ofString "ascii") u],[]⟩=(do ret (← encodeRoad "str.encode" (.str x t) x (Str.ofString "ascii") none)):=by kernel_rfl
theorem a9b {x:Str}{t u:Tok}(hx:x.cps.all (·<128)=true)(hl:x.length≤sizeLine) :
  Meets (Builtin.«str.encode» ⟨[.str x t,.str (Str.ofString "ascii") u],[]⟩) (fun _ R s=>R (.ok (.ret (.bytes (a2L x) s.toks))) { s with toks:=s.toks+1 }):=by
 refine .of_wp fun prog w A R s hS=>?_
 rw [a9a,b2Q,a8Z _ _ _ hx hl]
 refine c9L (c9L (c9M (wpAny_mkBytes (c9M ⟨_,rfl,hS⟩) ?_)))
 exact a7h x ▸ hl
section
variable {G:GC}{F:Fns}{lvl:Nat}{Γ:Ctx}{sc:a0g}{σ:Store}{oa:Nat→Addr}{s s':Shared}
theorem b4l {a:PE}{e o y:Expr}(C:MCall (Str.ofString "encode") e o [y])(hA:EvJ G F lvl sc a o)(hy:isC (.str (Str.ofString "ascii")) y=true):EvJ G F lvl sc (.encode a) e:=fun Γ σ oa s d S h Q E hQ=>by
 refine a0j (show (evE F σ a).bind _ = _ from h) fun u hu h=>?_
 refine a0j h (clear% h;fun x hx h=>?_)
 refine a0J h (clear% h;fun hok Z1=>?_)
 subst Z1
 refine a0a hok (clear% hok;fun h1 h2=>?_)
 refine (a1j hy).elim fun kn Z1=>Z1.elim (fun p Z2=>?_)
 subst Z2
 exact a2s PySem.F.slot_str_encode PySem.F.type_str_encode C hA S hu hx fun t s₁ pos a₁=>d0I (wpAny_Constant_str (d0H
  (call_meets PySem.F.slot_str_encode rfl PySem.F.entry_str_encode (PySem.F.args_str_encode_2 _ _) (a9b h1 (a0z h2)) (hQ _ _ (.of (a₁.kf (Kf.tok (c9V _ 2))) (.bytes _ _))))))
end
end
section
theorem LamTab.triples {h:Heap}{q:Str}{l:List Value}(x:LamTab h q l):TriplesOk l:=by
 induction x with
 | nil=>exact trivial
 | cons _ _ _ _ _ r _ _ ih=>exact ih
theorem LamTab.among {h:Heap}{q:Str}{l:List Value}(x:LamTab h q l)(pos:Pos):codeAmong pos l=none∨∃ c',codeAmong pos l=some (.ref c')∧CodeAt h c' (q++a5Q pos.col):=by
 induction x with
 | nil=>exact .inl rfl
 | cons line col t u c' r hc _ ih=>
  show (if (line==pos.line&&col==pos.col)=true then some (.ref c') else codeAmong pos r)=none∨∃ c'',(if (line==pos.line&&col==pos.col)=true then some (.ref c') else codeAmong pos r)=some (.ref c'')∧_
  by_cases e:(line==pos.line&&col==pos.col)=true
  ·rw [c9r e]
   exact .inr ⟨c',rfl,c9K (a0h e).2 ▸ hc⟩
  ·rw [c9t e];exact ih
section
variable {G:GC}{F:Fns}{lvl:Nat}{Γ:Ctx}{sc:a0g}{σ:Store}{oa:Nat→Addr}{s s':Shared}{E:Value→Shared→Prop}
theorem a3v {h h':Heap}{P:Addr}{mg:Str→Option Value}(x:h.BuiltinsAt mg P)(k:∀ b o,h.get? b=some o→h'.get? b=some o):h'.BuiltinsAt mg P:=by
 obtain⟨bm,ob,h1,h2,h3,h4,h5,h6⟩:=x
 exact⟨bm,ob,h1,h2,h3,h4,k _ _ h5,h6⟩
theorem a5w {h h':Heap}{v:Value}{q:Str}(x:h.CodeRec v q)(k:∀ b o,h.get? b=some o→h'.get? b=some o):h'.CodeRec v q:=by
 obtain⟨c,oc,vs,t,h1,h2,h3⟩:=x
 exact⟨c,oc,vs,t,h1,k _ _ h2,h3⟩
theorem b0r {h h':Heap}{c:Addr}{q:Str}(x:CodeAt h c q)(k:∀ b o,h.get? b=some o→h'.get? b=some o):CodeAt h' c q:=by
 obtain⟨o,vs,t,h1,h2,h3,h4⟩:=x
 exact⟨o,vs,t,k _ _ h1,h2,h3,h4⟩
theorem a9c {h:Heap}{c P:Addr}{ps:Array Value}{q:Str}(x:h.CodeRec (.ref c) q)(hc:h.IsCode c P ps)(ht:h.TableAt c P ps):CodeAt h c q:=by
 obtain⟨o,vs,_,_,_,_,_,_,_,e1,e2,_⟩:=CodeHd.of hc ht
 obtain⟨c',o',vs',t,e,g1,g2,g3⟩:=x
 cases e
 rw [e1] at g1
 cases g1
 exact⟨o,vs',t,e1,e2,g2,g3⟩
end
section
variable {prog:Program}{w:World}{A:Around}{E:Value→Shared→Prop}{s:Shared}
end
end
section
theorem c3x:PlainAttrs "re.Pattern":=⟨⟨"object.__getattribute__",by rw [d0N,d0O];kernel_rfl,by decide +kernel⟩,by rw [d0N,d0O];kernel_rfl⟩
theorem c3y:PlainAttrs "re.Match":=⟨⟨"object.__getattribute__",by rw [d0N,d0O];kernel_rfl,by decide +kernel⟩,by rw [d0N,d0O];kernel_rfl⟩
theorem c0v:Manifest.owners.lookup (String.ofList ['n','r','e','t','t','a','P','.','e','r'].reverse)=some Manifest.sig_re_Pattern:=by kernel_rfl
theorem c0w:Manifest.owners.lookup (String.ofList ['h','c','t','a','M','.','e','r'].reverse)=some Manifest.sig_re_Match:=by kernel_rfl
theorem a8b:PySem.Slot "re.Pattern" "sub" "re.Pattern.sub":=
 .of (owner:="re.Pattern") (n:="sub") (by rw [d0N,d0O];kernel_rfl) (by decide +kernel) (by decide +kernel) (by decide +kernel)
  (by first | exact .inl (by decide +kernel) | exact .inr (by decide +kernel)) (by rw [c9O];kernel_rfl)
theorem b7i:typeOf (.builtin "re.Pattern.sub")=pure (.type "method_descriptor"):=by show builtinType _ = _;rw [builtinType_eq_fast];kernel_rfl
theorem b4m:entryFor table "re.Pattern.sub"=some Builtin.«re.Pattern.sub»:=entryFor_of_tree (by kernel_rfl)
theorem b7j (a b c:Value):argsOk "re.Pattern.sub" ⟨[a,b,c],[]⟩:=by
 unfold argsOk;rw [signature?_of (id:="re.Pattern.sub") (n:=['b','u','s']) (o:=['n','r','e','t','t','a','P','.','e','r']) (by kernel_rfl) c0v];kernel_rfl
theorem a7i:PySem.Slot "re.Match" "group" "re.Match.group":=
 .of (owner:="re.Match") (n:="group") (by rw [d0N,d0O];kernel_rfl) (by decide +kernel) (by decide +kernel) (by decide +kernel)
  (by first | exact .inl (by decide +kernel) | exact .inr (by decide +kernel)) (by rw [c9O];kernel_rfl)
theorem b2R:typeOf (.builtin "re.Match.group")=pure (.type "method_descriptor"):=by show builtinType _ = _;rw [builtinType_eq_fast];kernel_rfl
theorem b0s:entryFor table "re.Match.group"=some Builtin.«re.Match.group»:=entryFor_of_tree (by kernel_rfl)
theorem b2S (a b:Value):argsOk "re.Match.group" ⟨[a,b],[]⟩:=by
 unfold argsOk;rw [signature?_of (id:="re.Match.group") (n:=['p','u','o','r','g']) (o:=['h','c','t','a','M','.','e','r']) (by kernel_rfl) c0w];kernel_rfl
theorem a7j:entryFor table "re.Pattern.sub.loop"=some Builtin.«re.Pattern.sub.loop»:=entryFor_of_tree (by kernel_rfl)
theorem a3N:plainId "re.Pattern.sub.loop"=true:=by decide +kernel
theorem b9d:((List.range 128).all fun c=>((decide (c<256)&&(a0Y.getD (5+(1+c / 32)) 0).testBit (c % 32))==(c==38||c==124||c==126))&&((decide (c<256)&&(a0Y.getD (19+(1+c / 32)) 0).testBit (c % 32))==(c==38||c==124||c==126)))=true:=by decide +kernel
theorem c0x (c:Nat)(seen:Sre.Seen):Sre.inSet a0Y c 32 5 true seen=if (decide (c<256)&&(a0Y.getD (5+(1+c / 32)) 0).testBit (c % 32))=true then .ok (true,seen.add 9) else .ok (false,(seen.add 9).add 0):=by kernel_rfl
theorem b7k (c:Nat)(seen:Sre.Seen):Sre.inSet a0Y c 32 19 true seen=if (decide (c<256)&&(a0Y.getD (19+(1+c / 32)) 0).testBit (c % 32))=true then .ok (true,seen.add 9) else .ok (false,(seen.add 9).add 0):=by kernel_rfl
theorem c6q {c:Nat}(hc:c<128)(seen:Sre.Seen):∃ s',Sre.inSet a0Y c 32 5 true seen=.ok (a4c c,s'):=by
 have h:=(d0t.mp (c9Q.mp b9d c (c9R.mpr hc))).1
 rw [c0x,c9K h]
 show ∃ s',(if a4c c=true then _ else _) = _
 cases a4c c
 ·exact⟨_,rfl⟩
 ·exact⟨_,rfl⟩
theorem c6r {c:Nat}(hc:c<128)(seen:Sre.Seen):∃ s',Sre.inSet a0Y c 32 19 true seen=.ok (a4c c,s'):=by
 have h:=(d0t.mp (c9Q.mp b9d c (c9R.mpr hc))).2
 rw [b7k,c9K h]
 show ∃ s',(if a4c c=true then _ else _) = _
 cases a4c c
 ·exact⟨_,rfl⟩
 ·exact⟨_,rfl⟩
theorem b1s (m:Sre.M)(hm:m.code=a0Y)(n s:Nat)(seen:Sre.Seen):Sre.M.admitted m (n+1) s seen=if s ≥ m.lim then .ok (none,seen) else
  match Sre.inSet a0Y (m.text.getD s 0) 32 5 true seen with
  | .ok (true,seen)=>.ok (some s,seen)
  | .ok (false,seen)=>Sre.M.admitted m n (s+1) seen
  | .error why=>.error why:=by
 show (if s ≥ m.lim then _ else match Sre.inSet m.code (m.text.getD s 0) m.code.size 5 true seen with | _=>_) = _
 rw [hm]
 rfl
theorem b7l (m:Sre.M)(hm:m.code=a0Y)(n s:Nat)(h:∀ i,s≤i→i<m.lim→m.text.getD i 0<128∧a4c (m.text.getD i 0)=false)(seen:Sre.Seen):∃ s',Sre.M.admitted m n s seen=.ok (none,s'):=by
 induction n generalizing s seen with
 | zero=>exact⟨_,rfl⟩
 | succ n ih=>
  rw [b1s m hm]
  by_cases q:s ≥ m.lim
  ·rw [c9r q];exact⟨_,rfl⟩
  ·rw [c9t q]
   have h1:=h s (c9n _) (Nat.lt_of_not_le q)
   refine (c6q h1.1 seen).elim fun s' e=>?_
   rw [e,h1.2]
   exact ih (s+1) (fun i hi=>h i (Nat.le_of_succ_le hi)) s'
theorem b7m (m:Sre.M)(hm:m.code=a0Y)(n s p:Nat)(hsp:s≤p)(hp:p<m.lim)(hn:p<s+n)(h:∀ i,s≤i→i<p→m.text.getD i 0<128∧a4c (m.text.getD i 0)=false)(hpc:m.text.getD p 0<128∧a4c (m.text.getD p 0)=true)(seen:Sre.Seen):∃ s',Sre.M.admitted m n s seen=.ok (some p,s'):=by
 induction n generalizing s seen with
 | zero=>exact absurd hn (Nat.not_lt.mpr hsp)
 | succ n ih=>
  rw [b1s m hm,c9t (Nat.not_le.mpr (c9D hsp hp))]
  by_cases q:s=p
  ·subst q
   refine (c6q hpc.1 seen).elim fun s' e=>?_
   rw [e,hpc.2]
   exact⟨_,rfl⟩
  ·have hlt:=Nat.lt_of_le_of_ne hsp q
   have h1:=h s (c9n _) hlt
   refine (c6q h1.1 seen).elim fun s' e=>?_
   rw [e,h1.2]
   exact ih (s+1) hlt (by omega) (fun i hi=>h i (Nat.le_of_succ_le hi)) s'
noncomputable def rxM (t:Array Nat)(lim pos last:Nat)(must:Bool):Sre.M:={ code:=a0Y,text:=t,lim,start:=pos,lastStart:=last,pc:=15,pos,handed:=pos,marks:=#[none,none],mustAdvance:=must,seen:=({}:Sre.Seen).add 14 }
theorem a9d (t:Array Nat)(pos lim:Nat)(must:Bool):Sre.forSearch a0Y t 1 pos lim must=if (decide (pos > lim)||decide (lim - pos<1))=true then (rxM t lim pos 0 must).say false else (rxM t lim pos lim must).attemptFrom pos true:=by kernel_rfl
theorem b4n (t:Array Nat)(pos lim last:Nat)(must:Bool):(rxM t lim pos last must).attemptFrom pos true=match Sre.M.admitted (rxM t lim pos last must) (lim+1 - pos) pos (rxM t lim pos last must).seen with
 | .ok (some s,seen)=>Sre.M.attemptAt { rxM t lim pos last must with mustAdvance:=false,seen:=seen } s true
 | .ok (none,seen)=>({ rxM t lim pos last must with seen:=seen }:Sre.M).say false
 | .error why=>(rxM t lim pos last must).stick why:=by kernel_rfl
open Builtin.Re in
theorem b2T (t:Array Nat)(lim pos last:Nat)(must:Bool)(seen:Sre.Seen)(n:Nat):reDrive (n+1) ((({ rxM t lim pos last must with seen:=seen }:Sre.M)).say false)=pure { rxM t lim pos last must with seen:=seen,answer:=some false,outcome:=some .failed }:=by kernel_rfl
noncomputable def c6s (t:Array Nat)(lim p last:Nat)(seen:Sre.Seen):Sre.M:={ code:=a0Y,text:=t,lim,start:=p,lastStart:=last,pc:=29,pos:=p+1,handed:=p,marks:=#[some p,none],lastmark:=0,frames:=[{ wait:=.nextStart,pc:=15,pos:=p,outermost:=true }],weight:=1,seen }
noncomputable def c6t (t:Array Nat)(lim p last:Nat)(seen:Sre.Seen):Sre.M:={ code:=a0Y,text:=t,lim,start:=p,lastStart:=last,pc:=31,pos:=p+1,handed:=p+1,marks:=#[some p,some (p+1)],lastmark:=1,lastindex:=1,frames:=[{ wait:=.nextStart,pc:=15,pos:=p,outermost:=true }],weight:=1,seen:=(seen.add 17).add 1,answer:=some true }
noncomputable def b0t (t:Array Nat)(lim p last:Nat)(seen:Sre.Seen):Sre.M:={ code:=a0Y,text:=t,lim,start:=p,lastStart:=last,pc:=15,pos:=p,handed:=p+1,marks:=#[some p,some (p+1)],lastmark:=1,lastindex:=1,seen:=(seen.add 17).add 1,answer:=some true,outcome:=some .matched }
theorem c6u (t:Array Nat)(lim p last:Nat)(seen:Sre.Seen):(c6s t lim p last seen).runFor 2=c6t t lim p last seen:=by kernel_rfl
theorem c3z (t:Array Nat)(lim p last:Nat)(seen:Sre.Seen):(c6t t lim p last seen).runFor 4=b0t t lim p last seen:=by kernel_rfl
noncomputable def c0y (t:Array Nat)(lim p last:Nat)(seen:Sre.Seen):Sre.M:={ code:=a0Y,text:=t,lim,start:=p,lastStart:=last,pc:=17,pos:=p,handed:=p,marks:=#[some p,none],lastmark:=0,frames:=[{ wait:=.nextStart,pc:=15,pos:=p,outermost:=true }],weight:=1,seen }
theorem c8K (t:Array Nat)(lim pos p last:Nat)(must:Bool)(seen:Sre.Seen):(Sre.M.attemptAt { rxM t lim pos last must with mustAdvance:=false,seen:=seen } p true).runFor 1=c0y t lim p last (seen.add 17):=by kernel_rfl
theorem c0z (t:Array Nat)(lim p last:Nat)(seen:Sre.Seen):(c0y t lim p last seen).step=if p ≥ lim then ({ c0y t lim p last seen with seen:=seen.add 13 }:Sre.M).say false else match Sre.inSet a0Y (t.getD p 0) 32 19 true (seen.add 13) with
  | .error why=>({ c0y t lim p last seen with seen:=seen.add 13 }:Sre.M).stick why
  | .ok (false,s')=>({ c0y t lim p last seen with seen:=s' }:Sre.M).say false
  | .ok (true,s')=>c6s t lim p last s':=by kernel_rfl
theorem c6v {t:Array Nat}{lim p last:Nat}{seen:Sre.Seen}(hp:p<lim)(hc:t.getD p 0<128∧a4c (t.getD p 0)=true):∃ s',(c0y t lim p last seen).step=c6s t lim p last s':=by
 refine (c6r hc.1 (seen.add 13)).elim fun s' e=>⟨s',?_⟩
 rw [c0z,c9t (Nat.not_le.mpr hp),e,hc.2]
theorem a6n (m:Sre.M)(h:m.outcome=none)(n:Nat):m.runFor (n+1)=m.step.runFor n:=by
 show (if m.outcome.isSome=true then m else _) = _
 rw [h]
 rfl
open Builtin.Re in
theorem b4o (n:Nat)(m:Sre.M)(h:(m.runFor 4).outcome.isSome=true):reDrive (n+1) m=pure (m.runFor 4):=c9r h
open Builtin.Re in
theorem b2U (n:Nat)(m:Sre.M)(h:(m.runFor 4).outcome.isSome=false):reDrive (n+1) m=(do rule "sre.turn";reDrive n (m.runFor 4)):=c9t (ne_true_of_eq_false h)
noncomputable def rxA (t:Array Nat)(lim pos p last:Nat)(must:Bool)(seen:Sre.Seen):Sre.M:=Sre.M.attemptAt { rxM t lim pos last must with mustAdvance:=false,seen:=seen } p true
theorem c0A (t:Array Nat)(lim pos p last:Nat)(must:Bool)(seen:Sre.Seen):(rxA t lim pos p last must seen).outcome=none:=by kernel_rfl
theorem b7n (t:Array Nat)(lim pos p last:Nat)(must:Bool)(seen:Sre.Seen):(rxA t lim pos p last must seen).step=c0y t lim p last (seen.add 17):=by kernel_rfl
theorem c8L {t:Array Nat}{lim pos p last:Nat}{must:Bool}{seen:Sre.Seen}(hp:p<lim)(hc:t.getD p 0<128∧a4c (t.getD p 0)=true):∃ s',(rxA t lim pos p last must seen).runFor 4=c6t t lim p last s':=by
 refine (c6v (last:=last) (seen:=seen.add 17) hp hc).elim fun s' e=>⟨s',?_⟩
 rw [a6n _ (c0A ..),b7n,a6n _ rfl,e,c6u]
open Builtin.Re in
theorem b2V {t:Array Nat}{lim pos p last:Nat}{must:Bool}{seen:Sre.Seen}(hp:p<lim)(hc:t.getD p 0<128∧a4c (t.getD p 0)=true)(n:Nat) :
  ∃ s',reDrive (n+1+1) (rxA t lim pos p last must seen)=(do rule "sre.turn";pure (b0t t lim p last s')):=by
 refine (c8L (pos:=pos) (must:=must) (seen:=seen) (last:=last) hp hc).elim fun s' e=>⟨s',?_⟩
 rw [b2U _ _ (by rw [e];rfl),e,b4o _ _ (by rw [c3z];rfl),c3z]
section
variable {M:Model}{A:Around}{E:Value→Shared→Prop}{s:Shared}
theorem b7o {l:List Nat}{m:Sre.M}{Q:PUnit→Shared→Prop}(h:Q ⟨⟩ s):wpAny M A (forIn l PUnit.unit fun i _=>(if m.seen.has i=true then do rule (Sre.names.getD i "");pure (ForInStep.yield PUnit.unit) else pure (ForInStep.yield PUnit.unit):Sem (ForInStep PUnit))) Q E s:=by
 induction l with
 | nil=>exact c9M h
 | cons i l ih=>
  rw [List.forIn_cons]
  refine c9L ?_
  cases m.seen.has i
  ·exact c9M ih
  ·exact c9L (wpAny_rule (c9M ih))
open Builtin.Re in
theorem b9e {m:Sre.M}{m0:Sre.M}(hd:wpAny M A (reDrive (2 ^ 64) m0) (fun x s'=>x=m∧s'=s) E s){Q:Option Sre.M→Shared→Prop}
  (h:match m.outcome with
   | some .matched=>Q (some m) s
   | some .failed=>Q none s
   | _=>False):wpAny M A (reRunToEnd m0) Q E s:=by
 refine c9L (d0n hd (fun x s' q=>?_) fun _ _ e=>e)
 rw [q.1,q.2]
 refine c9L (b7o ?_)
 cases ho:m.outcome with
 | none=>rw [ho] at h;exact h.elim
 | some o=>
  rw [ho] at h
  cases o with
  | matched=>exact c9M h
  | failed=>exact c9M h
  | stuck w=>exact h.elim
end
end
section
open Builtin.Re
noncomputable def a4g (a:Addr)(x:Str)(t:Tok):ReTarget:={ pattern:=.ref a,string:=.str x t,code:=a0Y,text:=x.cps,kind:=0,groups:=1,pos:=0,lim:=x.cps.size }
section
variable {prog:Program}{w:World}{A:Around}{E:Value→Shared→Prop}{s:Shared}{a ct:Addr}{x:Str}{t:Tok}
theorem b7p:((a0Y.map fun (w:Nat)=>rawInt w).map reRawOf).map Int.toNat=a0Y:=by kernel_rfl
theorem a8c {Q:ReTarget→Shared→Prop}(P:PatAt s.heap a ct)(hQ:Q (a4g a x t) s):wpAny (model prog w) A (reWholeTarget (.ref a) (.str x t)) Q E s:=by
 refine P.pat.elim fun o q=>q.elim fun p q=>q.elim fun y q=>?_
 refine P.code.elim fun oc qc=>qc.elim fun n qc=>?_
 unfold reWholeTarget
 refine c9L (wpAny_fieldsOf q.1 q.2.2.2 ?_)
 refine c9L (show wpAny _ _ (pure (x.cps,0)) _ _ _ from c9M ?_)
 show wpAny _ _ (reRawItems (.ref ct) >>= fun c=>pure { a4g a x t with code:=c.map Int.toNat }) _ _ _
 unfold reRawItems
 refine c9L (c9L (wpAny_seqItems qc.1 qc.2 (c9M (c9M ?_))))
 show Q { a4g a x t with code:=((a0Y.map fun (w:Nat)=>rawInt w).map reRawOf).map Int.toNat } s
 rw [b7p]
 exact hQ
theorem b4p {a:Addr}{t:Tok}{pos:Nat}{Q:Option Sre.M→Shared→Prop}(h:∀ i,pos≤i→i<x.cps.size→x.cps.getD i 0<128∧a4c (x.cps.getD i 0)=false)(hQ:Q none s) :
  wpAny (model prog w) A (reNextFound (a4g a x t) pos false) Q E s:=by
 unfold reNextFound
 show wpAny _ _ (reRunToEnd (Sre.forSearch a0Y x.cps 1 pos x.cps.size false)) _ _ _
 have go:∀ last seen,wpAny (model prog w) A (reRunToEnd ((({ rxM x.cps x.cps.size pos last false with seen:=seen }:Sre.M)).say false)) Q E s:=fun last seen=>
  b9e (m:={ rxM x.cps x.cps.size pos last false with seen:=seen,answer:=some false,outcome:=some .failed }) (by
   rw [show (2 ^ 64:Nat)=18446744073709551615+1 from rfl,b2T]
   exact c9M ⟨rfl,rfl⟩) hQ
 rw [a9d]
 by_cases q:(decide (pos > x.cps.size)||decide (x.cps.size - pos<1))=true
 ·rw [c9r q];exact go 0 _
 ·rw [c9t q,b4n]
  refine (b7l (rxM x.cps x.cps.size pos x.cps.size false) rfl (x.cps.size+1 - pos) pos h (rxM x.cps x.cps.size pos x.cps.size false).seen).elim fun s' e=>?_
  rw [e]
  exact go _ s'
theorem b4q {a:Addr}{t:Tok}{p:Nat}{Q:Option Sre.M→Shared→Prop}(hp:p<x.cps.size)(h:∀ i,i<p→x.cps.getD i 0<128∧a4c (x.cps.getD i 0)=false)(hc:x.cps.getD p 0<128∧a4c (x.cps.getD p 0)=true)
  (hQ:∀ s',Q (some (b0t x.cps x.cps.size p x.cps.size s')) s):wpAny (model prog w) A (reNextFound (a4g a x t) 0 false) Q E s:=by
 unfold reNextFound
 show wpAny _ _ (reRunToEnd (Sre.forSearch a0Y x.cps 1 0 x.cps.size false)) _ _ _
 have h1:(decide (0 > x.cps.size)||decide (x.cps.size - 0<1))=false:=by
  rw [c9Y (Nat.not_lt.mpr (d0f _)),c9Y (Nat.not_lt.mpr (c9v (Nat.succ_le_of_lt (c9D (d0f _) hp)) (d0c (Nat.sub_zero _).symm)))]
  rfl
 rw [a9d,c9t (ne_true_of_eq_false h1),b4n]
 refine (b7m (rxM x.cps x.cps.size 0 x.cps.size false) rfl (x.cps.size+1 - 0) 0 p (d0f _) hp (by show p<0+(x.cps.size+1 - 0);lia) (fun i _ hi=>h i hi) hc (rxM x.cps x.cps.size 0 x.cps.size false).seen).elim fun s₁ e=>?_
 rw [e]
 refine (b2V (lim:=x.cps.size) (pos:=0) (last:=x.cps.size) (must:=false) (seen:=s₁) hp hc 18446744073709551614).elim fun s' e'=>?_
 refine b9e (m:=b0t x.cps x.cps.size p x.cps.size s') ?_ (hQ s')
 show wpAny _ _ (reDrive (18446744073709551614+1+1) (rxA x.cps x.cps.size 0 p x.cps.size false s₁)) _ _ _
 rw [e']
 exact c9L (wpAny_rule (c9M ⟨rfl,rfl⟩))
theorem Kf.upd {s₀ s:Shared}(k:Kf s₀ s){l:Addr}(hl:s₀.heap.get? l=none)(f:Obj→Obj):Kf s₀ { s with heap:=s.heap.update l f }:=
 ⟨fun b o e=>(Heap.get?_update_other _ _ (fun q=>absurd e (by rw [← q,hl];nofun))).trans (k.heap b o e),k.os,k.toks,k.gens⟩
theorem a5b {h:Heap}{l:Addr}{vs:List Value}{v:Value}(hl:h.PlainList l vs.toArray):(h.update l (Obj.mapSeq (·.push v))).PlainList l (vs++[v]).toArray:=
 hl.elim fun n e=>⟨_,(Heap.get?_update_self _ e rfl).trans (c9o some (by show Obj.mk _ _ (.seq (vs.toArray.push v) _) _ = _;rw [List.push_toArray]))⟩
theorem b0u {l:Addr}{vs:List Value}{v:Value}{Q:Unit→Shared→Prop}(hl:s.heap.PlainList l vs.toArray)(hs:vs.length≤10)(hQ:Q () { s with heap:=s.heap.update l (Obj.mapSeq (·.push v)) }) :
  wpAny (model prog w) A (updateSeq l (·.push v)) Q E s:=
 hl.elim fun n e=>wpAny_updateSeq e rfl hQ (c9v (by rw [c9I];exact hs) (by rw [c9C];decide)) (by rw [Array.size_push,c9I,c9C];lia)
noncomputable def a0E (x:Str)(i j:Nat):Str:=⟨x.cps.extract i j⟩
theorem a8d {a:Addr}{i j:Nat}{Q:Value→Shared→Prop}(hx:x.length≤100)(hQ:Q (.str (a0E x i j) s.toks) { s with toks:=s.toks+1 }):wpAny (model prog w) A (reSlice (a4g a x t).text (a4g a x t).kind i j) Q E s:=by
 show wpAny _ _ (mkStr (a0E x i j)) _ _ _
 refine wpAny_mkStr hQ ?_
 rw [c9C]
 show (x.cps.extract i j).size≤_
 rw [Array.size_extract]
 have:x.cps.size≤100:=hx
 lia
theorem a3g (a b:List (Str×Tok)):strValues (a++b)=strValues a++strValues b:=d0Y
noncomputable def a5J (a f l:Addr)(x:Str)(t:Tok)(n k:Nat):Args:=⟨[.ref a,.str x t,.ref f,rawInt 1,rawInt 0,rawInt n,rawInt k,rawInt k,.bool false,.ref l,.bool false],[]⟩
noncomputable def a8e (a l:Addr)(x:Str)(t:Tok):Sem Fin:=reSlice (a4g a x t).text (a4g a x t).kind 0 0 >>= fun joiner=>seqItems? (.ref l) >>= fun r=>if (r.getD #[]).isEmpty=true then (pure joiner >>= fun text=>ret text) else (call (.builtin "str.join") [joiner,.ref l] >>= fun text=>ret text)
theorem a9e {s₀:Shared}{a f l:Addr}{n k:Nat}{L:List (Str×Tok)}{R:Result→Shared→Prop}(K:Kf s₀ s)(hl0:s₀.heap.get? l=none)(P:PatAt s.heap a ct)(hl:s.heap.PlainList l (strValues L).toArray)(hL:L.length≤5)(hx:x.length≤100)
  (h:∀ i,k≤i→i<x.cps.size→x.cps.getD i 0<128∧a4c (x.cps.getD i 0)=false) (hok:JoinOk Str.empty (L.map (·.1)++if k<x.cps.size then [a0E x k x.cps.size] else [])=true)
  (hR:∀ t' s',Kf s₀ s'→R (.ok (.ret (.str (Txt.join Str.empty (L.map (·.1)++if k<x.cps.size then [a0E x k x.cps.size] else [])) t'))) s') :
  codeAny (model prog w) A (.builtin "re.Pattern.sub.loop" (a5J a f l x t n k)) R s:=by
 refine codeAny_builtin a7j ?_
 rw [Around.under_plainId a3N _]
 show wpAny _ _ (reWholeTarget (.ref a) (.str x t) >>= _) _ _ _
 refine c9L (a8c P ?_)
 show wpAny _ _ (reNextFound (a4g a x t) k false >>= _) _ _ _
 refine c9L (b4p h ?_)
 have fin:∀ (L':List (Str×Tok)) (s₁:Shared),Kf s₀ s₁→s₁.heap.PlainList l (strValues L').toArray→L'.map (·.1)=(L.map (·.1)++if k<x.cps.size then [a0E x k x.cps.size] else []) →
   wpAny (model prog w) A.in1 (a8e a l x t) (fun fin s'=>match fin with | .done f=>R (.ok f) s' | .again c'=>c'.quiet=true∧codeAny (model prog w) A c' R s') (fun e s'=>R (.error e) s') s₁:=fun L' s₁ K₁ hl₁ hm=>by
  refine c9L (a8d hx ?_)
  have e0:a0E x 0 0=Str.empty:=by unfold a0E;rw [Array.extract_eq_empty_of_le (Nat.min_le_left ..)];rfl
  rw [e0]
  refine c9L (hl₁.elim fun c e=>wpAny_seqItems (show ({ s₁ with toks:=s₁.toks+1 }:Shared).heap.get? l = _ from e) rfl ?_)
  cases L' with
  | nil=>
   rw [← hm] at hR
   exact c9L (c9M (c9M (hR _ _ (K₁.trans (Kf.tok (c9A _))))))
  | cons p r=>
   refine c9L (m:=call (.builtin "str.join") [.str Str.empty s₁.toks,.ref l]) ?_
   exact c9F (n:=s₁.toks) (c9A _) (SC.join (show ({ s₁ with toks:=s₁.toks+1 }:Shared).heap.IsList l _ from hl₁.isList) hm hok fun t' k ht=>c9M (hR _ _ (K₁.trans (Kf.tok ht))))
 show wpAny _ _ (if k<x.cps.size then (reSlice (a4g a x t).text (a4g a x t).kind k x.cps.size >>= fun v=>updateSeq l (·.push v) >>= fun _=>a8e a l x t) else a8e a l x t) _ _ _
 by_cases q:k<x.cps.size
 ·rw [c9r q] at fin ⊢
  refine c9L (a8d hx (c9L (b0u hl (by show (List.map _ L).length≤10;rw [d0a];lia) ?_)))
  exact fin (L++[(a0E x k x.cps.size,s.toks)]) _ ((K.trans (Kf.tok (c9A _))).upd hl0 _) (by rw [a3g];exact a5b hl) d0Y
 ·rw [c9t q] at fin ⊢
  exact fin L _ K hl (d0z _).symm
end
end
section
open Builtin.Re
structure LamZ (h:Heap)(f:Addr)(params:Arguments)(body:Expr)(scope:Scope):Prop where
 out:∃ o qual pm cdv ctv,h.get? f=some o∧o.cls=.type "function"∧o.dict=none∧o.data=.func (kla_fn "<lambda>" qual params body scope [] pm cdv ctv)∧h.CodeRec cdv qual
section
variable {G:GC}{F:Fns}{lvl:Nat}{Γ:Ctx}{sc:a0g}{σ:Store}{oa:Nat→Addr}{s s':Shared}{E:Value→Shared→Prop}
theorem b4r {M:Model}{A:Around}{name qual:Str}{params:Arguments}{body:Expr}{scope:Scope}{env:Env}{c P:Addr}{ps:Array Value}{pos:Pos}{firstLine:Nat}{mg:Str→Option Value}
  {E Q:Value→Shared→Prop} (hcl:closureFor scope env=pure []) (hge0:env.globals=mainGlobals) (hg:s.heap.Ns mainGlobals mg) (hcode:env.code=.ref c) (C:CodeHd s.heap c P) (hP:s.heap.get? P=some (tabObj ps)) (ht:TriplesOk ps.toList)
  (hnf:codeAmong pos ps.toList=none) (hgP:mainGlobals≠P) (hb:s.heap.BuiltinsAt mg P)
  (h:∀ c' ctv h' tk,Heap.ExtBut P s.heap h'→s.heap.objs.size≤c'→c'<h'.objs.size→CodeAt h' c' qual→h'.get? P=some (tabObj (ps++#[rawInt pos.line,rawInt pos.col,.ref c'])) →
   Q (.ref h'.objs.size) { s with heap:=h'.push (kla_obj name qual params body scope [] ((mg "__name__").getD .none) c' ctv),toks:=tk }) :
  wpAny M A (makeFunction name qual params (.expr body) scope env [] [] [] pos firstLine) Q E s:=by
 rw [makeFunction_eq]
 simp only [List.zip_nil_right,List.filterMap_nil,List.isEmpty_nil,if_true,pure_bind]
 obtain⟨bm,ob,hbm,hne0,_,hneP,hbo,hcls,hdict,hdata⟩:=hb
 unfold makeTail
 rw [hcl,hge0]
 refine c9L (c9M ?_)
 simp only [List.isEmpty_nil,if_true]
 refine c9L (c9M ?_)
 refine c9L (wpAny_functionCodeX hcode (C.code hP ht) (C.tab hP) hnf fun c' h' tk hx hge hlt _ hrec htb hP'=>?_)
 obtain⟨P',_,hc',ht'⟩:=hP'
 have hg':=hg.extBut hx hgP
 refine c9L (wpAny_builtinsFor hg' hbm hne0 (hx _ _ hneP hbo) hcls hdict hdata ?_)
 refine c9L (wpAny_nsGet hg' ?_)
 exact c9L (c9M (wpAny_newObj_type (h c' _ h' tk hx hge hlt (a9c hrec hc' ht') htb.2) (by size_fits)))
theorem b4s (S:St G Γ lvl sc σ oa s)(hl:a3Q sc=some true){x:Str}{scope:Scope}(hn:scope.names=[(x,.local)])
  {params:Arguments} {body:Expr} {pos:Pos} (hp:a2i x params=true) (hcol:(pos.col==37)=false) {Q:Value→Shared→Prop}
  (hQ:∀ f s',Af G s s'→LamZ s'.heap f params body scope→s.heap.get? f=none→Q (.ref f) s') :
  wpAny (model G.prog G.w) Γ.A (eval (.Lambda params body scope pos) Γ.env) Q E s:=by
 refine (S.code true hl).elim fun hcode hqual=>?_
 obtain⟨C,ps,hP,LT⟩:=G.lamAt true _ S.gst.tab
 have hcol':((pos.col:Int)==37)=false:=by simp only [c9u,ne_eq] at hcol ⊢;lia
 have hnote:a5Q pos.col=("<lambda>":Str):=by unfold a5Q;rw [hcol'];rfl
 refine (a3W hp).elim fun pp Z1=>?_
 subst Z1
 refine c9F (n:=s.toks) (c9n _) ?_
 refine kla_eval rfl ?_
 have hcl:closureFor scope Γ.env=pure []:=by
  rw [a2X (fun y hy=>by
   rw [hn] at hy
   simp only [c9U,Prod.mk.injEq,reduceCtorEq,and_false,List.not_mem_nil,or_false] at hy),hn]
  rfl
 rw [hqual]
 have hg:s.heap.Ns mainGlobals G.mg:=S.gst.gns
 have hb:s.heap.BuiltinsAt G.mg (G.lamP true):=a3v (G.bmain true) S.gst.base
 have hgP:mainGlobals≠G.lamP true:=fun q=>by
  obtain⟨o,es,ep,e,hd,_⟩:=hg
  rw [q,hP] at e;cases e;cases hd
 have keepB:∀ {h':Heap},Heap.ExtBut (G.lamP true) s.heap h'→∀ b o,G.g.get? b=some o→h'.get? b=some o:=fun hx b o e=>
  hx b o (fun q=>by rw [q,G.tabNew _ (G.lamIn true)] at e;cases e) (S.gst.base b o e)
 rcases LT.among pos with hnf | ⟨c',hf,hr⟩
 rotate_left
 ·rw [hnote] at hr
  refine kla_makeFunctionHit (mg:=G.mg) hcl S.globals hg hcode C hP LT.triples hf hb fun ctv h' tk hk hsz ht=>?_
  refine hQ _ _ ⟨⟨fun b o hbT e=>c9w _ (hk b o e),rfl,ht,fun i y e=>e⟩,⟨c9v S.gst.tok ht,fun b o e=>c9w _ (hk _ _ (S.gst.base _ _ e)),G.mono _ _ (fun b o _ _ _ e=>c9w _ (hk b o e)) S.gst.tab,S.gst.bare⟩⟩
   ⟨_,_,_,_,_,c9H _ rfl,rfl,rfl,rfl,a5w hr.rec' fun b o e=>c9w _ (hk _ _ e)⟩ ?_
  exact Heap.get?_none_of_le hsz
 ·refine b4r (mg:=G.mg) hcl S.globals hg hcode C hP LT.triples hnf hgP hb fun c' ctv h' tk hx hge hlt hrec htb ht=>?_
  have hrec':=b0r hrec fun b o e=>c9w (kla_obj "<lambda>" (G.lamQ true++"<lambda>") { posonlyargs:=[],args:=[{ arg:=x,annotation:=none,pos:=pp }],vararg:=none,kwonlyargs:=[],kw_defaults:=[],kwarg:=none,defaults:=[] } body scope [] ((G.mg "__name__").getD .none) c' ctv) e
  have hx':Heap.ExtBut (G.lamP true) s.heap (h'.push (kla_obj "<lambda>" (G.lamQ true++"<lambda>") { posonlyargs:=[],args:=[{ arg:=x,annotation:=none,pos:=pp }],vararg:=none,kwonlyargs:=[],kw_defaults:=[],kwarg:=none,defaults:=[] } body scope [] ((G.mg "__name__").getD .none) c' ctv)):=
   fun b o hb e=>c9w _ (hx b o hb e)
  refine hQ _ _ ⟨⟨fun b o hbT e=>hx' b o (fun q=>hbT (q ▸ G.lamIn true)) e,rfl,ht,fun i y e=>e⟩,⟨c9v S.gst.tok ht,keepB hx',G.lamPut true _ _ ps c' pos S.gst.tab hP hx' (c9w _ htb) (hnote ▸ hrec'),S.gst.bare⟩⟩
   ⟨_,_,_,_,_,c9H _ rfl,rfl,rfl,rfl,hrec'.rec'⟩ ?_
  exact Heap.get?_none_of_le (c9v hge (Nat.le_of_lt hlt))
end
section
variable {prog:Program}{w:World}{A:Around}{E:Value→Shared→Prop}{s:Shared}{a ct:Addr}{x:Str}{t:Tok}
noncomputable def a2D (p:Nat):List Value:=[rawInt p,rawInt (p+1:Nat),rawInt p,rawInt (p+1:Nat)]
noncomputable def b9f (a:Addr)(x:Str)(t:Tok)(tup:Addr):Obj:={ cls:=.type "re.Match",data:=.fields [.str x t,.ref a,rawInt 0,rawInt x.cps.size,rawInt 1,.ref tup].toArray }
theorem a9f (v u:Value)(tx:Array Nat)(lim p last:Nat)(seen:Sre.Seen):reNewMatch v u 1 0 lim (b0t tx lim p last seen)=if (decide (p+1<p)||false)=true then (reWrongSpan >>= fun (_:PUnit)=>newTuple (a2D p) >>= fun tup=>newFields "re.Match" [u,v,rawInt 0,rawInt lim,rawInt 1,tup]) else (newTuple (a2D p) >>= fun tup=>newFields "re.Match" [u,v,rawInt 0,rawInt lim,rawInt 1,tup]):=by kernel_rfl
structure MatAt (h:Heap)(m:Addr)(a:Addr)(x:Str)(t:Tok)(p:Nat):Prop where
 out:∃ tup,h.get? m=some (b9f a x t tup)∧h.get? tup=some { cls:=.type "tuple",data:=.seq (a2D p).toArray }
theorem b7q {p:Nat}{seen:Sre.Seen}{Q:Value→Shared→Prop}(hQ:∀ m s',Kf s s'→MatAt s'.heap m a x t p→Q (.ref m) s'):wpAny (model prog w) A (reNewMatch (.ref a) (.str x t) 1 0 x.cps.size (b0t x.cps x.cps.size p x.cps.size seen)) Q E s:=by
 rw [a9f,c9t (fun q=>absurd (c9E ((Bool.or_false _).symm.trans q)) (Nat.not_lt.mpr (c9A p)))]
 refine c9L (wpAny_newTuple ?_ (by rw [c9C];exact (by decide:4≤16777216)))
 refine wpAny_newObj_type ?_ (by size_fits)
 have k1:Kf s { s with heap:=s.heap.push { cls:=.type "tuple",data:=.seq (a2D p).toArray } }:=Kf.push (c9n _)
 have k2:Kf { s with heap:=s.heap.push { cls:=.type "tuple",data:=.seq (a2D p).toArray } } { s with heap:=(s.heap.push { cls:=.type "tuple",data:=.seq (a2D p).toArray }).push (b9f a x t s.heap.objs.size) }:=Kf.push (c9n _)
 exact hQ _ _ (k1.trans k2) ⟨s.heap.objs.size,c9H _ rfl,k2.heap _ _ (c9H _ rfl)⟩
theorem c0B (F:Array Value)(p:Nat)(u:Tok):reGroupNumber ⟨F,(a2D p).toArray.map reRawOf⟩ (.int 1 u)=pure 1:=by kernel_rfl
theorem b7r (a tup:Addr)(x:Str)(t:Tok)(n p:Nat)(d:Value):reGroupText ⟨[.str x t,.ref a,rawInt 0,rawInt n,rawInt 1,.ref tup].toArray,(a2D p).toArray.map reRawOf⟩ 1 d=if (decide (((p:Nat):Int)<0)||decide (((p+1:Nat):Int)<0))=true then pure d else reSlice x.cps 0 p (p+1):=by kernel_rfl
theorem b7s {m:Addr}{p:Nat}{u:Tok}{Q:Value→Shared→Prop}(M:MatAt s.heap m a x t p)(hx:x.length≤100)(hQ:Q (.str (a0E x p (p+1)) s.toks) { s with toks:=s.toks+1 }):wpAny (model prog w) A (call (.builtin "re.Match.group") [.ref m,.int 1 u]) Q E s:=by
 refine M.out.elim fun tup q=>?_
 refine wpAny_call_entry a7i ⟨_,q.1,rfl⟩ b0s ?_ (b2S _ _)
 show wpAny _ _ (reFound (.ref m) >>= _) _ _ _
 unfold reFound
 refine c9L (c9L (wpAny_fieldsOf q.1 rfl ?_))
 show wpAny _ _ (reRawItems (.ref tup) >>= _) _ _ _
 unfold reRawItems
 refine c9L (c9L (wpAny_seqItems q.2 rfl (c9M ?_)))
 refine c9M ?_
 show wpAny _ _ (reGroupNumber ⟨_,(a2D p).toArray.map reRawOf⟩ (.int 1 u) >>= _) _ _ _
 rw [c0B]
 refine c9L (c9M ?_)
 show wpAny _ _ (reGroupText ⟨[.str x t,.ref a,rawInt 0,rawInt x.cps.size,rawInt 1,.ref tup].toArray,(a2D p).toArray.map reRawOf⟩ 1 .none >>= _) _ _ _
 rw [b7r,c9t]
 ·exact c9L (a8d (a:=a) (t:=t) hx (c9M ⟨_,rfl,hQ⟩))
 ·rw [c9Y (Int.not_lt.mpr (c9Z _)),c9Y (Int.not_lt.mpr (c9Z _))]
  exact c9p
theorem b7t {b:Expr}(h:b1q b=true):∃ k1 p1 k2 p2 k3 p3 pm pa pc po pb,b=.BinOp (.Constant (.str ⟨#[92]⟩) k1 p1) .Add (.BoolOp .Or [.Call (.Attribute (.Name ("_m":Str) pm) (Str.ofString "group") pa) [.Constant (.int 1) k2 p2] [] pc,.Constant (.str Str.empty) k3 p3] po) pb∧(pa.endLine==pc.line)=true:=by
 refine a0a h (clear% h;fun h h8=>?_)
 refine a0a h (clear% h;fun h h7=>?_)
 refine a0a h (clear% h;fun h h6=>?_)
 refine a0a h (clear% h;fun h h5=>?_)
 refine a0a h (clear% h;fun h h4=>?_)
 refine a0a h (clear% h;fun h h3=>?_)
 refine a0a h (clear% h;fun h1 h2=>?_)
 refine a0a h7 (clear% h7;fun h7 h11=>?_)
 refine a0a h7 (clear% h7;fun h9 h10=>?_)
 have e1:b=.BinOp (vw b).a (vw b).op (vw b).b (vw b).pos:=a0w h1
 have e2:(vw b).b=.BoolOp (vw (vw b).b).bo (vw (vw b).b).es (vw (vw b).b).pos:=a0w h4
 rw [c9K h5,es2 (d:=b) (c9K h6)] at e2
 refine (a1j h3).elim fun k1 q=>q.elim fun p1 e3=>?_
 refine (a1j h8).elim fun k3 q=>q.elim fun p3 e4=>?_
 refine (a1j h11).elim fun k2 q=>q.elim fun p2 e5=>?_
 refine (a7U h10).elim fun pm e6=>?_
 have M:=b6R h9
 refine M.eq.elim fun pa q=>q.elim fun pc q=>?_
 rw [e4,q.1,e5,e6] at e2
 rw [c9K h2,e3,e2] at e1
 exact⟨k1,p1,k2,p2,k3,p3,pm,pa,pc,_,_,e1,q.2⟩
theorem MatAt.keep {h h':Heap}{m a:Addr}{p:Nat}(M:MatAt h m a x t p)(k:∀ b o,h.get? b=some o→h'.get? b=some o):MatAt h' m a x t p:=M.out.elim fun tup q=>⟨tup,k _ _ q.1,k _ _ q.2⟩
theorem b7u {p:Nat}(hp:p<x.cps.size):(a0E x p (p+1)).length=1:=by
 show (x.cps.extract p (p+1)).size=1
 rw [Array.size_extract]
 lia
theorem b4t {G:GC}{f m:Addr}{p:Nat}{params:Arguments}{body:Expr}{scope:Scope}(hA:A.depth+2<recursionLimit)(hlim:s.heap.NoLimit)(L:LamZ s.heap f params body scope)(hps:a2i ("_m":Str) params=true)(hs:b0j scope=true)(hb:b1q body=true)
  (M:MatAt s.heap m a x t p) (hp:p<x.cps.size) (hx:x.length≤100) {Q:Value→Shared→Prop} (hQ:∀ tk s',Kf s s'→Q (.str (⟨#[92]⟩++a0E x p (p+1)) tk) s'):wpAny (model G.prog G.w) A (call (.ref f) [.ref m]) Q E s:=by
 refine (a3W hps).elim fun pp Z1=>?_
 subst Z1
 obtain⟨o,qual,pm,cdv,ctv,ho,_,_,hd,hrec⟩:=L.out
 refine a0a hs (clear% hs;fun hs hco=>?_)
 refine a0a hs (clear% hs;fun hs hgen=>?_)
 refine a0a hs (clear% hs;fun hk hnm=>?_)
 have hk:=c9K hk
 have hnm:=c9K hnm
 have lx:scope.names.lookup ("_m":Str)=some .local:=by rw [hnm];rfl
 refine c9F (n:=s.toks) (c9n _) ?_
 refine wpAny_call (kla_callFunE (Nat.lt_of_succ_lt (Nat.lt_of_succ_lt hA)) ho hd (a1L hco) (a1L hgen) rfl hrec ?_)
 have hbd:bindArgs (kla_fn "<lambda>" qual { posonlyargs:=[],args:=[{ arg:=("_m":Str),annotation:=none,pos:=pp }],vararg:=none,kwonlyargs:=[],kw_defaults:=[],kwarg:=none,defaults:=[] }
   body scope [] pm cdv ctv) ⟨[.ref m],[]⟩=pure [(("_m":Str),.ref m)]:=by kernel_rfl
 rw [hbd]
 refine c9M (wpAny_newFunctionEnv ?_ ?_ (fun h₁ hns hsb=>⟨hlim.fresh _ hsb,?_⟩) hk)
 ·intro y hy
  rw [show scope.names = _ from hnm] at hy
  rw [d0i.mp hy]
  nofun
 ·intro y hy
  rw [d0i] at hy;subst hy;exact lx
 have hk₁:∀ b o,s.heap.get? b=some o→h₁.get? b=some o:=fun b o e=>hsb.extBut b o (d0g (c9G e)) (c9w _ e)
 refine kla_codeExpr ?_
 refine (b7t hb).elim fun k1 q=>q.elim fun p1 q=>q.elim fun k2 q=>q.elim fun p2 q=>q.elim fun k3 q=>q.elim fun p3 q=>q.elim fun pm q=>q.elim fun pa q=>q.elim fun pc q=>q.elim fun po q=>q.elim fun pb q=>?_
 rw [q.1]
 refine wpAny_BinOp (wpAny_Constant_str (wpAny_Or2 ?_))
 have M₁:=M.keep hk₁
 refine wpAny_Call_method (a3r rfl) rfl q.2 c3y a7i b2R (d0o (wpAny_loadName_local (v:=.ref m) hk lx hns rfl ?_) (by decide))
 refine M₁.out.elim fun tup qm=>⟨⟨_,qm.1,rfl⟩,fun b e=>by injection e with e;exact e ▸ ⟨_,qm.1,rfl⟩,?_⟩
 refine callWith_builtin (a0R rfl) (a1g rfl (d0I (wpAny_Constant_int (d0H ?_)) (a0k rfl)))
 refine b7s (show MatAt ({ s with heap:=h₁,toks:=_ }:Shared).heap m a x t p from M₁) hx ?_
 have hl:=b7u hp
 refine P.truthy_str (by rw [hl];decide) ?_
 rw [hl]
 refine add_str (fun t' tk ht=>hQ _ _ ⟨hk₁,rfl,ht,rfl⟩) ?_
 rw [hl,c9C]
 decide
end
end
section
open Builtin.Re
theorem b7v (f:Value)(x:Value):reNamed "re.Pattern.sub" "sub" ["repl","string","count"] 2 [f,x] []=pure [some f,some x,none]:=by kernel_rfl
theorem c0C:typeLookup (.type "function") "__call__"=pure (some (.builtin "function.__call__")):=by rw [d0N,d0O];kernel_rfl
theorem c0D:isSubtype (.type "str") (.type "bytearray")=pure false:=by rw [c9O];kernel_rfl
section
variable {G:GC}{A:Around}{E:Value→Shared→Prop}{s:Shared}{a ct f:Addr}{x:Str}{t:Tok}
theorem b4u {params:Arguments}{body:Expr}{scope:Scope}(P:PatAt s.heap a ct)(L:LamZ s.heap f params body scope){Q:Value→Shared→Prop}
  (h:codeAny (model G.prog G.w) A (.builtin "re.Pattern.sub.loop" (a5J a f s.heap.objs.size x t 0 0)) (fun r s'=>match r with
   | .ok (.ret v)=>Q v s'
   | .ok _=>False
   | .error e=>E e s') { s with heap:=s.heap.push { cls:=.type "list",data:=.seq ([]:List Value).toArray } }) :
  wpAny (model G.prog G.w) A (call (.builtin "re.Pattern.sub") [.ref a,.ref f,.str x t]) Q E s:=by
 refine P.pat.elim fun o q=>q.elim fun p q=>q.elim fun y q=>?_
 refine L.out.elim fun of r=>r.elim fun qual r=>r.elim fun pm r=>r.elim fun cdv r=>r.elim fun ctv r=>?_
 refine wpAny_call (codeAny_call_builtin a8b.plain b4m (a8b.check _ _ _ _ _ _ _ _ ⟨o,q.1,q.2.1⟩ (b7j _ _ _) ?_))
 show wpAny _ _ (reNamed "re.Pattern.sub" "sub" ["repl","string","count"] 2 [.ref f,.str x t] [] >>= _) _ _ _
 rw [b7v]
 refine c9L (c9M ?_)
 show wpAny _ _ (specialOf (.ref f) "__call__" >>= _) _ _ _
 refine c9L (wpAny_specialOf ⟨of,r.1,r.2.1⟩ c0C ?_)
 show wpAny _ _ (holding [.ref f] (reWholeTarget (.ref a) (.str x t)) >>= _) _ _ _
 refine c9L (c9J (a8c P ?_))
 show wpAny _ _ (reNotHeld "re.Pattern.sub" (.str x t) >>= _) _ _ _
 refine c9L ?_
 show wpAny _ _ (isInstance (.str x t) (.type "bytearray") >>= _) _ _ _
 refine c9L (wpAny_isInstance (typeIs_str _ _ _) c0D (c9M ?_))
 show wpAny _ _ (newList [] >>= _) _ _ _
 refine c9L (wpAny_newList (c9M ⟨plainId_quiet a3N _,?_⟩) (d0f _))
 exact h
theorem LamZ.keep {h h':Heap}{params:Arguments}{body:Expr}{scope:Scope}(L:LamZ h f params body scope)(k:∀ b o,h.get? b=some o→h'.get? b=some o):LamZ h' f params body scope:=
 L.out.elim fun o r=>r.elim fun qual r=>r.elim fun pm r=>r.elim fun cdv r=>r.elim fun ctv r=>⟨o,qual,pm,cdv,ctv,k _ _ r.1,r.2.1,r.2.2.1,r.2.2.2.1,a5w r.2.2.2.2 k⟩
structure SubH (G:GC)(A:Around)(s₀:Shared)(a ct f l:Addr)(x:Str)(params:Arguments)(body:Expr)(scope:Scope):Prop where
 room:A.depth+3<recursionLimit
 lim:s₀.heap.NoLimit
 new:s₀.heap.get? l=none
 pat:PatAt s₀.heap a ct
 lam:LamZ s₀.heap f params body scope
 ps:a2i ("_m":Str) params=true
 sc:b0j scope=true
 bd:b1q body=true
 len:x.length≤100
theorem b4v {s₀:Shared}{l:Addr}{p:Nat}{params:Arguments}{body:Expr}{scope:Scope}{R:Result→Shared→Prop}(H:SubH G A s₀ a ct f l x params body scope)(K:Kf s₀ s)(hl:s.heap.PlainList l (strValues []).toArray)(hp:p<x.cps.size)
  (h1:∀ i,i<p→x.cps.getD i 0<128∧a4c (x.cps.getD i 0)=false) (hc:x.cps.getD p 0<128∧a4c (x.cps.getD p 0)=true)
  (h:∀ (L':List (Str×Tok)) s',Kf s₀ s'→s'.heap.PlainList l (strValues L').toArray→L'.map (·.1)=(if 0<p then [a0E x 0 p] else [])++[⟨#[92]⟩++a0E x p (p+1)]→codeAny (model G.prog G.w) A (.builtin "re.Pattern.sub.loop" (a5J a f l x t 1 (p+1))) R s') :
  codeAny (model G.prog G.w) A (.builtin "re.Pattern.sub.loop" (a5J a f l x t 0 0)) R s:=by
 have hx:=H.len
 refine codeAny_builtin a7j ?_
 rw [Around.under_plainId a3N _]
 show wpAny _ _ (reWholeTarget (.ref a) (.str x t) >>= _) _ _ _
 refine c9L (a8c (H.pat.keep K.heap) ?_)
 show wpAny _ _ (reNextFound (a4g a x t) 0 false >>= _) _ _ _
 refine c9L (b4q hp h1 hc fun seen=>?_)
 have hne:((p+1:Nat)==p)=false:=c9u.mpr (Nat.succ_ne_self p)
 have mid:∀ (L₁:List (Str×Tok)) (s₁:Shared),Kf s₀ s₁→s₁.heap.PlainList l (strValues L₁).toArray→L₁.length≤1→L₁.map (·.1)=(if 0<p then [a0E x 0 p] else []) →
   wpAny (model G.prog G.w) A.in1 (reNewMatch (.ref a) (.str x t) 1 0 x.cps.size (b0t x.cps x.cps.size p x.cps.size seen) >>= fun found=>holding [found] (call (.ref f) [found]) >>= fun item=>
    if (item != .none)=true then (updateSeq l (·.push item) >>= fun _=>(again (.builtin "re.Pattern.sub.loop" ⟨[.ref a,.str x t,.ref f,rawInt 1,rawInt 0,rawInt (0+1),rawInt (p+1:Nat),rawInt (p+1:Nat),.bool ((p+1:Nat)==p),.ref l,.bool false],[]⟩):Sem Fin))
    else (again (.builtin "re.Pattern.sub.loop" ⟨[.ref a,.str x t,.ref f,rawInt 1,rawInt 0,rawInt (0+1),rawInt (p+1:Nat),rawInt (p+1:Nat),.bool ((p+1:Nat)==p),.ref l,.bool false],[]⟩):Sem Fin))
    (fun fin s'=>match fin with | .done f=>R (.ok f) s' | .again c'=>c'.quiet=true∧codeAny (model G.prog G.w) A c' R s') (fun e s'=>R (.error e) s') s₁:=fun L₁ s₁ K₁ hl₁ hL hm=>by
  have up:∀ {s₂:Shared},Kf s₁ s₂→s₂.heap.PlainList l (strValues L₁).toArray:=fun k=>hl₁.at fun o e=>k.heap _ _ e
  refine c9L (b7q fun m s₂ k₂ M=>c9L (c9J (b4t (show A.in1.depth+2<recursionLimit from Nat.lt_of_succ_lt H.room) (H.lim.at fun o e=>(K₁.trans k₂).heap _ _ e) (H.lam.keep (K₁.trans k₂).heap) H.ps H.sc H.bd M hp hx fun tk s₃ k₃=>?_)))
  have hl₃:=up (k₂.trans k₃)
  show wpAny _ _ (updateSeq l (·.push _) >>= fun _=>_) _ _ _
  refine c9L (b0u hl₃ (by show (List.map _ L₁).length≤10;rw [d0a];lia) (c9M ⟨plainId_quiet a3N _,?_⟩))
  rw [hne]
  exact h (L₁++[(⟨#[92]⟩++a0E x p (p+1),tk)]) _ ((K₁.trans (k₂.trans k₃)).upd H.new _) (by rw [a3g];exact a5b hl₃) (by rw [d0Y,hm];rfl)
 show wpAny _ _ (if 0<p then (reSlice (a4g a x t).text (a4g a x t).kind 0 p >>= fun v=>updateSeq l (·.push v) >>= fun _=>_) else _) _ _ _
 by_cases q:0<p
 ·rw [c9r q] at mid ⊢
  refine c9L (a8d hx (c9L (b0u hl (d0f _) ?_)))
  exact mid [(a0E x 0 p,s.toks)] _ ((K.trans (Kf.tok (c9A _))).upd H.new _) (a5b hl) (c9n _) rfl
 ·rw [c9t q] at mid ⊢
  exact mid [] s K hl (d0f _) rfl
end
end
section
theorem a3O (l:List Str):(Txt.join Str.empty l).cps.toList=l.flatMap fun (s:Str)=>s.cps.toList:=by
 rw [show Txt.join Str.empty l=Str.join Str.empty l from StrLaws.glued_eq_join _ _]
 induction l with
 | nil=>rfl
 | cons x r ih=>
  cases r with
  | nil=>exact (d0z _).symm
  | cons y r=>
   show (x.cps++Str.empty.cps++(Str.join Str.empty (y :: r)).cps).toList = _
   rw [Array.toList_append,Array.toList_append,ih]
   show x.cps.toList++[]++_ = _
   rw [d0z]
   rfl
open Builtin Builtin.Str in
theorem a5c {sep:Str}{l:List Str}(h:(l.map fun s=>s.length+sep.length).sum≤16777216):JoinOk sep l=true:=by
 unfold JoinOk
 have go:∀ (l:List Str) (a:Nat),l.foldl (fun acc s=>acc+s.length+sep.length) a=a+(l.map fun s=>s.length+sep.length).sum:=fun l=>by
  induction l with
  | nil=>exact fun a=>rfl
  | cons x r ih=>
   intro a
   rw [d0L,ih,d0K,d0e]
   lia
 rw [List.foldl_toArray,go,d0E]
 have:tooLong (l.map fun s=>s.length+sep.length).sum=false:=c9Y (by rw [c9C];lia)
 rw [this]
 rfl
theorem b0v {l:List Nat}(h:∀ c∈l,a4c c=false):(l.flatMap fun c=>bif a4c c then [92,c] else [c])=l:=by
 induction l with
 | nil=>rfl
 | cons c r ih=>
  rw [d1a,h c d0r,ih fun d hd=>h d (d0u _ hd)]
  rfl
theorem a8f {x y:Str}(h:x.cps.toList=y.cps.toList):x=y:=by
 obtain⟨⟨a⟩⟩:=x
 obtain⟨⟨b⟩⟩:=y
 exact c9o (fun l:List Nat=>(⟨⟨l⟩⟩:Str)) h
theorem a4C (x:Str)(i j:Nat):(a0E x i j).cps.toList=(x.cps.toList.take j).drop i:=by
 show (x.cps.extract i j).toList = _
 rw [Array.toList_extract]
 show ((x.cps.toList.drop i).take (j - i)) = _
 rw [List.drop_take]
theorem b7w (l:List Nat):(∀ c∈l,a4c c=false)∨∃ a c b,l=a++c :: b∧a4c c=true∧∀ d∈a,a4c d=false:=by
 induction l with
 | nil=>exact .inl nofun
 | cons c r ih=>
  cases hc:a4c c with
  | true=>exact .inr ⟨[],c,r,rfl,hc,nofun⟩
  | false=>
   rcases ih with h | ⟨a,d,b,e,h1,h2⟩
   ·exact .inl fun d hd=>(c9U.mp hd).elim (fun q=>q ▸ hc) (h d)
   ·exact .inr ⟨c :: a,d,b,c9o (c :: ·) e,h1,fun y hy=>(c9U.mp hy).elim (fun q=>q ▸ hc) (h2 y)⟩
theorem a6o (x:Str)(i:Nat):x.cps.getD i 0=x.cps.toList.getD i 0:=by
 rw [d0P,c9S,Array.getElem?_toList]
theorem b0w (x:Str)(i j:Nat):(a0E x i j).length≤x.length:=by
 show (x.cps.extract i j).size≤x.cps.size
 rw [Array.size_extract]
 lia
section
variable {G:GC}{A:Around}{E:Value→Shared→Prop}{s:Shared}{a ct f:Addr}{x:Str}{t:Tok}
theorem c3A {params:Arguments}{body:Expr}{scope:Scope}(H:SubH G A s a ct f s.heap.objs.size x params body scope)(hok:b3y x=true){Q:Value→Shared→Prop}(hQ:∀ tk s',Kf s s'→Q (.str (a8L x) tk) s') :
  wpAny (model G.prog G.w) A (call (.builtin "re.Pattern.sub") [.ref a,.ref f,.str x t]) Q E s:=by
 refine c9F (n:=s.toks) (c9n _) ?_
 refine b4u H.pat H.lam ?_
 refine a0a hok (clear% hok;fun hok hcnt=>?_)
 refine a0a hok (clear% hok;fun hlen hasc=>?_)
 have k0:Kf s { s with heap:=s.heap.push { cls:=.type "list",data:=.seq ([]:List Value).toArray } }:=Kf.push (c9n _)
 have hp0:({ s with heap:=s.heap.push { cls:=.type "list",data:=.seq ([]:List Value).toArray } }:Shared).heap.PlainList s.heap.objs.size (strValues []).toArray:=⟨0,c9H _ rfl⟩
 have hsz:x.cps.size=x.cps.toList.length:=Array.length_toList.symm
 have ascD:∀ i,i<x.cps.size→x.cps.getD i 0<128:=fun i hi=>by
  have hi':i<x.cps.toList.length:=hsz ▸ hi
  rw [a6o,c9S,c9T hi']
  exact c9B (c9Q.mp hasc _ (List.getElem_mem hi'))
 have hlen':x.cps.size≤100:=H.len
 rcases b7w x.cps.toList with hn | ⟨u,c,v,e,hc,hu⟩
 ·have hall:∀ i,0≤i→i<x.cps.size→x.cps.getD i 0<128∧a4c (x.cps.getD i 0)=false:=fun i _ hi=>⟨ascD i hi,by
   have hi':i<x.cps.toList.length:=hsz ▸ hi
   rw [a6o,c9S,c9T hi']
   exact hn _ (List.getElem_mem hi')⟩
  have hj:∀ l,l=(if 0<x.cps.size then [a0E x 0 x.cps.size] else [])→JoinOk Str.empty ([]++l)=true∧Txt.join Str.empty ([]++l)=a8L x:=fun l hl=>by
   have er:(a8L x).cps.toList=x.cps.toList:=b0v hn
   by_cases q:0<x.cps.size
   ·rw [c9r q] at hl
    subst hl
    refine⟨a5c ?_,a8f ?_⟩
    ·show (a0E x 0 x.cps.size).length+0+0≤_
     have:=b0w x 0 x.cps.size
     have h2:x.length=x.cps.size:=rfl
     lia
    ·rw [a3O,er]
     show (a0E x 0 x.cps.size).cps.toList++[] = _
     rw [a4C,d0z,List.drop_zero,hsz,List.take_length]
   ·rw [c9t q] at hl
    subst hl
    refine⟨by decide +kernel,a8f ?_⟩
    rw [a3O,er,(List.eq_nil_of_length_eq_zero (hsz.symm.trans (Nat.eq_zero_of_not_pos q)):x.cps.toList=[])]
    rfl
  have hj:=hj _ rfl
  refine a9e (L:=[]) k0 (Heap.get?_none_of_le (c9n _)) (H.pat.keep k0.heap) hp0 (d0f _) H.len hall hj.1 fun t' s' k ht=>?_
  rw [show List.map _ ([]:List (Str×Tok))=[] from rfl,hj.2]
  exact hQ t' s' k
 ·have hpl:u.length<x.cps.size:=by rw [hsz,e,d0D,d0d];lia
  have hget:∀ i,x.cps.getD i 0=(u++c :: v).getD i 0:=fun i=>by rw [a6o,e]
  have hv:∀ d∈v,a4c d=false:=fun d hd=>by
   cases q:a4c d with
   | false=>rfl
   | true=>
    have h1:x.cps.toList.countP a4c≤1:=c9B hcnt
    rw [e,List.countP_append,List.countP_cons,hc] at h1
    have h2:0<v.countP a4c:=List.countP_pos_iff.mpr ⟨d,hd,q⟩
    simp only [if_true] at h1
    lia
  have e1:(a0E x 0 u.length).cps.toList=u:=by rw [a4C,e,List.take_left,List.drop_zero]
  have e2:(a0E x u.length (u.length+1)).cps.toList=[c]:=by rw [a4C,e,List.take_length_add_append,List.drop_left];rfl
  have e3:(a0E x (u.length+1) x.cps.size).cps.toList=v:=by
   rw [a4C,hsz,List.take_length,e,List.drop_length_add_append];rfl
  refine b4v H k0 hp0 hpl (fun i hi=>⟨ascD i (Nat.lt_trans hi hpl),?_⟩) ⟨ascD _ hpl,?_⟩ fun L' s₁ k₁ hp₁ hm=>?_
  ·rw [hget,c9S,List.getElem?_append_left hi,c9T hi]
   exact hu _ (List.getElem_mem hi)
  ·rw [hget,c9S,List.getElem?_append_right (c9n _),Nat.sub_self]
   exact hc
  ·have hj:∀ l1 l2,l1=(if 0<u.length then [a0E x 0 u.length] else [])→l2=(if u.length+1<x.cps.size then [a0E x (u.length+1) x.cps.size] else []) →
     (JoinOk Str.empty ((l1++[⟨#[92]⟩++a0E x u.length (u.length+1)])++l2)=true∧Txt.join Str.empty ((l1++[⟨#[92]⟩++a0E x u.length (u.length+1)])++l2)=a8L x)∧l1.length≤1:=fun l1 l2 h1 h2=>by
    have f1:(l1.flatMap fun (s:Str)=>s.cps.toList)=u∧(l1.map fun s=>s.length+Str.empty.length).sum≤100∧l1.length≤1:=by
     by_cases q:0<u.length
     ·rw [c9r q] at h1
      subst h1
      refine⟨by show (a0E x 0 u.length).cps.toList++[] = _;rw [e1,d0z],?_,c9n _⟩
      have:=b0w x 0 u.length
      show (a0E x 0 u.length).length+0+0≤_
      have h2:x.length=x.cps.size:=rfl
      lia
     ·rw [c9t q] at h1
      subst h1
      exact⟨(List.eq_nil_of_length_eq_zero (Nat.eq_zero_of_not_pos q)).symm,d0f _,d0f _⟩
    have f2:(l2.flatMap fun (s:Str)=>s.cps.toList)=v∧(l2.map fun s=>s.length+Str.empty.length).sum≤100:=by
     by_cases q:u.length+1<x.cps.size
     ·rw [c9r q] at h2
      subst h2
      refine⟨by show (a0E x (u.length+1) x.cps.size).cps.toList++[] = _;rw [e3,d0z],?_⟩
      have:=b0w x (u.length+1) x.cps.size
      show (a0E x (u.length+1) x.cps.size).length+0+0≤_
      have h2:x.length=x.cps.size:=rfl
      lia
     ·rw [c9t q] at h2
      subst h2
      refine⟨(List.eq_nil_of_length_eq_zero ?_).symm,d0f _⟩
      rw [hsz,e,d0D,d0d] at q
      lia
    have f3:(⟨#[92]⟩++a0E x u.length (u.length+1):Str).cps.toList=[92,c]:=by
     show ((#[92]:Array Nat)++(a0E x u.length (u.length+1)).cps).toList = _
     rw [Array.toList_append,e2]
     rfl
    have f4:(⟨#[92]⟩++a0E x u.length (u.length+1):Str).length=2:=by
     show (⟨#[92]⟩++a0E x u.length (u.length+1):Str).cps.size=2
     rw [← Array.length_toList,f3]
     rfl
    refine⟨⟨a5c ?_,a8f ?_⟩,f1.2.2⟩
    ·rw [d0Y,d0Y,List.sum_append,List.sum_append]
     have:=f1.2.1
     have:=f2.2
     show _+((⟨#[92]⟩++a0E x u.length (u.length+1):Str).length+0+0)+_≤_
     rw [f4]
     lia
    ·rw [a3O,d1b,d1b,f1.1,f2.1]
     show (u++((⟨#[92]⟩++a0E x u.length (u.length+1):Str).cps.toList++[]))++v=x.cps.toList.flatMap _
     rw [f3,e,d1b,d1a,b0v hu,b0v hv,hc]
     exact d0A ..
   have hj:=hj _ _ rfl rfl
   rw [← hm] at hj
   refine a9e k₁ H.new (H.pat.keep k₁.heap) hp₁ ?_ H.len (fun i hi hlt=>⟨ascD i hlt,?_⟩) hj.1.1 fun t' s' k ht=>?_
   ·have:=c9o List.length hm
    rw [d0a,d0D,d0Z] at this
    have:=hj.2
    lia
   ·rw [hget,c9S,List.getElem?_append_right (by lia)]
    have hi2:i - u.length=(i - u.length - 1)+1:=by lia
    rw [hi2,List.getElem?_cons_succ]
    have hlt2:i - u.length - 1<v.length:=by rw [hsz,e,d0D,d0d] at hlt;lia
    rw [c9T hlt2]
    exact hv _ (List.getElem_mem hlt2)
   ·rw [hj.1.2]
    exact hQ t' s' k
end
end
section
section
variable {G:GC}{F:Fns}{lvl:Nat}{Γ:Ctx}{sc:a0g}{σ:Store}{oa:Nat→Addr}{s:Shared}
theorem b7x (hB:GlobsOK G){z:Nat}{e:Expr}(h:(c8i sc e&&a8G G.nm z (arg e 1))=true):EvJ G F lvl sc (.resub z) e:=fun Γ σ oa s d S hd Q E hQ=>by
 refine a0j (show (σ.get z).bind _=some d from hd) fun sl hz hd=>?_
 refine a0j hd (clear% hd;fun u hu hd=>?_)
 refine a0j hd (clear% hd;fun y hy hd=>?_)
 refine a0J hd (clear% hd;fun hok Z1=>?_)
 subst Z1
 refine a0a h (clear% h;fun h h5=>?_)
 refine a0a h (clear% h;fun h h4=>?_)
 refine a0a h (clear% h;fun h h3=>?_)
 refine a0a h (clear% h;fun h1 h2=>?_)
 refine a0a h4 (clear% h4;fun h4 g6=>?_)
 refine a0a h4 (clear% h4;fun h4 g5=>?_)
 refine a0a h4 (clear% h4;fun h4 g4=>?_)
 refine a0a h4 (clear% h4;fun h4 g3=>?_)
 refine a0a h4 (clear% h4;fun g1 g2=>?_)
 have C:=c2W h1
 refine C.eq.elim fun pa q=>q.elim fun pc q=>?_
 refine (a7U h2).elim fun po e2=>?_
 have e3:arg e 0=.Lambda (vw (arg e 0)).ps (vw (arg e 0)).a (vw (arg e 0)).sc (vw (arg e 0)).pos:=a0w g1
 have hline:=q.2
 have hst:=C.star
 rw [q.1,e2,e3,a1a (a0h h5).1]
 rw [e3,a1a (a0h h5).1] at hst
 refine (a2O h3).elim fun k1 k2=>?_
 refine hB.rx.elim fun a r=>r.elim fun ct r=>?_
 have P:=r.2.keep S.gst.base
 refine wpAny_Call_method (a3r rfl) ?_ hline c3x a8b b7i (d0o (S.glob k1 r.1 ?_) k2)
 ·rw [a3s (env:=Γ.env) (pos:=pc) hst]
  rfl
 ·refine P.pat.elim fun o w=>w.elim fun _ w=>w.elim fun _ w=>⟨⟨o,w.1,w.2.1⟩,fun b eb=>by injection eb with eb;exact eb ▸ ⟨o,w.1,w.2.2.1⟩,?_⟩
  refine callWith_builtin (a0R hst) (a1g hst (d0I (b4s S (c9K g5) (c9K (a0h (a0h (a0h g4).1).1).2) g3 (a1L g2) fun f s₁ a₁ L hnew=>?_) (a0k (a0h hst).1)))
  have S₁:=S.af a₁
  refine d0I (d0o (S₁.read hz (fun vv sv=>?_) (a1L (a0h (a0h h5).2).2)) (a1L (a0h (a0h h5).2).1)) (a0k rfl)
  rw [a4r hu] at sv
  have sv:Rep (rc G Γ) (a0m Γ σ oa) s₁.heap s₁.toks vv u:=sv
  refine (a2g hy).elim fun g eg=>?_
  subst eg
  refine (RepT.deep sv).asStr.elim fun tk w=>w.elim fun ev _=>d0H ?_
  subst ev
  have hA:=S.aok.2.1
  have H:SubH G Γ.A s₁ a ct f s₁.heap.objs.size y (vw (arg e 0)).ps (vw (arg e 0)).a (vw (arg e 0)).sc:=⟨by lia,S₁.gst.lim,Heap.get?_none_of_le (c9n _),r.2.keep S₁.gst.base,L,g3,g4,g6,c9B (a0h (a0h hok).1).1⟩
  exact c3A H hok fun tk' s' k=>hQ _ _ (.of (a₁.kf k) (.str _ _ _ nofun))
end
end
section
structure GeElt (e:Expr):Prop where
 eq:∃ k1 p1 k2 p2 k3 p3 k4 p4 ps pa pc pb pd,e=.Call (.Attribute (.Call (.Attribute (.Name ("s":Str) ps) (Str.ofString "replace") pa) [.Constant (.str ⟨#[92]⟩) k1 p1,.Constant (.str ⟨#[92,92]⟩) k2 p2] [] pc) (Str.ofString "replace") pb) [.Constant (.str ⟨#[45]⟩) k3 p3,.Constant (.str ⟨#[92,45]⟩) k4 p4] [] pd ∧
  (pa.endLine==pc.line)=true∧(pb.endLine==pd.line)=true
theorem b7y {e:Expr}(h:c3a e=true):GeElt e:=by
 refine a0a h (clear% h;fun h h7=>?_)
 refine a0a h (clear% h;fun h h6=>?_)
 refine a0a h (clear% h;fun h h5=>?_)
 refine a0a h (clear% h;fun h h4=>?_)
 refine a0a h (clear% h;fun h h3=>?_)
 refine a0a h (clear% h;fun h1 h2=>?_)
 refine (c2W h1).eq.elim fun pb q=>q.elim fun pd q=>?_
 refine (c2W h4).eq.elim fun pa r=>r.elim fun pc r=>?_
 refine (a1j h2).elim fun k3 e3=>e3.elim fun p3 e3=>?_
 refine (a1j h3).elim fun k4 e4=>e4.elim fun p4 e4=>?_
 refine (a1j h5).elim fun k1 e1=>e1.elim fun p1 e1=>?_
 refine (a1j h6).elim fun k2 e2=>e2.elim fun p2 e2=>?_
 refine (a7U h7).elim fun ps es=>?_
 exact⟨k1,p1,k2,p2,k3,p3,k4,p4,ps,pa,pc,pb,pd,by rw [q.1,r.1,es,e1,e2,e3,e4],r.2,q.2⟩
section
variable {G:GC}{A:Around}{E:Value→Shared→Prop}{s:Shared}
open Builtin.Str in
theorem c3B {e:Expr}(he:GeElt e){env:Env}{m:Str→Option Value}(hk:env.scope.kind=.function)(hx:env.scope.names.lookup ("s":Str)=some .local)(hn:s.heap.Ns env.locals m){y:Str}{t:Tok}(hm:m ("s":Str)=some (.str y t))
  (hl:y.length≤100) (ho:(occurrences y ⟨#[92]⟩ 0 y.length (y.length+1)).isEmpty=true):wpAny (model G.prog G.w) A (eval e env) (fun v s'=>(∃ u,v=.str (c5I y) u)∧Keeps s s') E s:=by
 refine he.eq.elim fun k1 q=>q.elim fun p1 q=>q.elim fun k2 q=>q.elim fun p2 q=>q.elim fun k3 q=>q.elim fun p3 q=>q.elim fun k4 q=>q.elim fun p4 q=>q.elim fun ps q=>q.elim fun pa q=>q.elim fun pc q=>q.elim fun pb q=>q.elim fun pd q=>?_
 rw [q.1]
 refine wpAny_Call_method (a3r rfl) rfl q.2.2 PySem.F.plainAttrs_str PySem.F.slot_str_replace PySem.F.type_str_replace (wpAny_Call_method (a3r rfl) rfl q.2.1 PySem.F.plainAttrs_str PySem.F.slot_str_replace PySem.F.type_str_replace (d0o (wpAny_loadName_local (v:=.str y t) hk hx hn hm ?_) (by decide)))
 refine⟨rfl,nofun,callWith_builtin (a0R rfl) (a1g rfl (d0I (wpAny_Constant_str (d0I (wpAny_Constant_str (d0H ?_)) (a0k rfl))) (a0k rfl)))⟩
 have g:=gives_str_replace y ⟨#[92]⟩ ⟨#[92,92]⟩ t s.toks (s.toks+1) fun h=>by rw [ho] at h;exact absurd h nofun
 rw [ho] at g
 refine call_gives PySem.F.slot_str_replace (typeIs_str _ _ _) PySem.F.entry_str_replace (PySem.F.args_str_replace_3 _ _ _) g ?_
 refine⟨rfl,nofun,callWith_builtin (a0R rfl) (a1g rfl (d0I (wpAny_Constant_str (d0I (wpAny_Constant_str (d0H ?_)) (a0k rfl))) (a0k rfl)))⟩
 refine SC.replace (show s.toks+1+1≠0 from nofun) (show s.toks+1+1+1≠0 from nofun) (d0g (c9X _)) (by decide) ?_ fun t' k=>⟨⟨t',rfl⟩,⟨s.heap,k,rfl,fun _ _ e=>e⟩⟩
 show y.length+(y.length+1)*2≤_
 lia
end
structure GenE (nm:Nat→Str)(sc:a0g)(z:Nat)(g:Expr)(elt:Expr)(scope:Scope)(pos:Pos):Prop where
 eq:∃ pt pi,g=.GeneratorExp elt [⟨.Name ("s":Str) pt,.Name (nm z) pi,[],0⟩] scope pos
 col:pos.col=37
 ok:a9W (nm z)=true
 kind:scope.kind=.function
 names:scope.names=[((".0":Str),.local),(("s":Str),.local)]
 co:scope.isCoroutine=false
 lam:a3Q sc=some true
 el:GeElt elt
theorem c0E {nm:Nat→Str}{sc:a0g}{z:Nat}{g:Expr}(h:c8j nm sc z g=true):GenE nm sc z g (vw g).a (vw g).sc (vw g).pos:=by
 refine a0a h (clear% h;fun h h10=>?_)
 refine a0a h (clear% h;fun h h9=>?_)
 refine a0a h (clear% h;fun h h8=>?_)
 refine a0a h (clear% h;fun h h7=>?_)
 refine a0a h (clear% h;fun h h6=>?_)
 refine a0a h (clear% h;fun h h5=>?_)
 refine a0a h (clear% h;fun h h4=>?_)
 refine a0a h (clear% h;fun h h3=>?_)
 refine a0a h (clear% h;fun h1 h2=>?_)
 refine a0a h8 (clear% h8;fun h8 h13=>?_)
 refine a0a h8 (clear% h8;fun h11 h12=>?_)
 have e1:g=.GeneratorExp (vw g).a (vw g).gs (vw g).sc (vw g).pos:=a0w h1
 refine (a7U h4).elim fun pt e4=>?_
 have e5:=a1a (a0h h5).1
 have e6:=d0B.mp h6
 have e7:=c9K h7
 have hg:(vw g).gs=[gHd g]:=by
  unfold gHd
  cases hq:(vw g).gs with
  | nil=>rw [hq] at h3;cases h3
  | cons c r=>
   rw [hq] at h3
   rw [es0 (Nat.succ.inj (c9K h3))]
   rfl
 refine⟨⟨pt,(vw (gHd g).iter).pos,?_⟩,c9K h2,(a0h h5).2,c9K h11,c9K h12,a1L h13,c9K h9,b7y h10⟩
 rw [← e4,← e5,← e6,← e7]
 exact e1.trans (c9o (Expr.GeneratorExp _ · _ _) (hg.trans (by generalize gHd g=c;cases c;rfl)))
theorem b7z {l:List D}{y:Str}(h:c8b l=some y):∃ d,l=[d]∧d.asStr=some y:=by
 cases l with
 | nil=>exact a0e h
 | cons d r=>
  cases r with
  | nil=>exact⟨d,rfl,h⟩
  | cons=>exact a0e h
section
variable {G:GC}{F:Fns}{lvl:Nat}{Γ:Ctx}{sc:a0g}{σ:Store}{oa:Nat→Addr}{s:Shared}
theorem c3C (S:St G Γ lvl sc σ oa s){l:Addr}{s₃:Shared}(hx:∀ b o,b≠G.lamP true→(s.heap.push { cls:=.type "list_iterator",data:=.fields #[.ref l,.int 0 0] }).get? b=some o→s₃.heap.get? b=some o)(hsz:s.heap.objs.size<s₃.heap.objs.size)(htab:G.tabOk s₃.heap)(hos:s₃.os=s.os)(hgens:s₃.gens=s.gens)
  {h₅:Heap} {tk:Tok} {gs:GenState} (hgb:gs.bare=true) (hk₅:∀ b o,s₃.heap.get? b=some o→h₅.get? b=some o) {s':Shared} (hm:Moved (s₃.heap.objs.size :: [s.heap.objs.size]) (GenOnlyQ s₃.gens.size) { s₃ with gens:=s₃.gens.push gs,toks:=tk,heap:=h₅ } s') {n:Nat} (hn:s.toks≤n):Af G s { s' with toks:=n }:=by
 have old:∀ b o,s.heap.get? b=some o→b ∉ s₃.heap.objs.size :: [s.heap.objs.size]:=fun b o e q=>by
  have:=c9G e
  rcases c9U.mp q with q | q
  ·lia
  ·rw [d0i.mp q] at this;exact Nat.lt_irrefl _ this
 have keep:∀ b o,b≠G.lamP true→s.heap.get? b=some o→s'.heap.get? b=some o:=fun b o hb e=>hm.heap b o (old b o e) (hk₅ b o (hx b o hb (c9w _ e)))
 refine⟨⟨fun b o hb e=>keep b o (fun q=>hb (q ▸ G.lamIn true)) e,hm.os.trans hos,hn,fun i x e=>?_⟩,⟨c9v S.gst.tok hn,fun b o e=>keep b o (fun q=>by rw [q,G.tabNew _ (G.lamIn true)] at e;cases e) (S.gst.base b o e),G.mono _ _ (fun b o ws hd hc e=>?_) htab,?_⟩⟩
 ·have hi:i<s.gens.size:=(Array.getElem?_eq_some_iff.mp e).1
  have e2:(s₃.gens.push gs)[i]?=some x:=by
   rw [hgens,Array.getElem?_push,c9t (d0g hi)]
   exact e
  rcases hm.gens with q | ⟨⟨_,q⟩,_⟩
  ·exact (c9o (·[i]?) q).trans e2
  ·exact (q i (by rw [hgens];exact d0g hi)).trans e2
 ·refine hm.heap b o (fun q=>?_) (hk₅ b o e)
  rcases c9U.mp q with q | q
  ·exact Nat.lt_irrefl _ (q ▸ c9G e)
  ·have hne:s.heap.objs.size≠G.lamP true:=fun r=>S.newT (r ▸ G.lamIn true)
   have e3:=hx _ _ hne (c9H _ rfl)
   rw [d0i.mp q] at e
   rw [e3] at e
   cases e
   exact hc.elim nofun fun q=>by injection q with q;exact absurd q (by decide)
 ·have hb:AllBare (s₃.gens.push gs):=(hgens ▸ S.gst.bare:AllBare s₃.gens).push hgb
  exact hb.moved hm.gens
theorem b2W (z:Nat){e:Expr}(h:c8k G.nm sc z e=true):EvJ G F lvl sc (.joinEsc z) e:=fun Γ σ oa s d S hd Q E hQ=>by
 refine a0j (show (σ.get z).bind _=some d from hd) fun sl hz hd=>?_
 refine a0j hd (clear% hd;fun l hl hd=>?_)
 refine a0j hd (clear% hd;fun y hy hd=>?_)
 refine a0J hd (clear% hd;fun hok Z1=>?_)
 subst Z1
 refine (b7z hy).elim fun d0 q=>q.elim fun el hy0=>?_
 subst el
 refine a0a hok (clear% hok;fun hok hJ=>?_)
 refine a0a hok (clear% hok;fun hlen hocc=>?_)
 refine a0a h (clear% h;fun h h3=>?_)
 refine a0a h (clear% h;fun h1 h2=>?_)
 have C:=b6R h1
 have X:=c0E h3
 refine (a1j h2).elim fun kc q=>q.elim fun pk e2=>?_
 refine X.eq.elim fun pt q=>q.elim fun pi e3=>?_
 rw [e2,e3] at C
 refine a2s (F:=F) PySem.F.slot_str_join PySem.F.type_str_join C (a:=.str ⟨#[45]⟩) b9c S (u:=.str ⟨#[45]⟩) rfl rfl fun t s₁ pos a₁=>?_
 have S₁:=S.af a₁
 have hz:=hz.trans (c9o some (a2h hl))
 refine d0I (c9F (n:=s₁.toks) (c9n _) ?_) (a0k rfl)
 refine (S₁.code true X.lam).elim fun hcode hqual=>?_
 refine wpAny_GeneratorExp_walksQ (cl:=[]) S₁.aok.1 X.co ?_ ?_ (by rw [X.names];rfl) (x:=("s":Str)) (by rw [X.names];rfl) X.kind (c9D (m:=Γ.A.depth+lvl+20) (by lia) S₁.aok.2.1) ?_ fun x=>rfl
 ·rw [a2X (fun y hy=>by
   rw [X.names] at hy
   simp only [c9U,Prod.mk.injEq,reduceCtorEq,and_false,List.not_mem_nil,or_false] at hy),X.names]
  rfl
 ·rw [X.names]
  intro y hy
  exact (c9U.mp hy).elim (fun q=>q ▸ nofun) fun q=>(d0i.mp q) ▸ nofun
 refine d0o (S₁.read hz (fun v sv=>?_) (a1L (a0h X.ok).2)) (a1L (a0h X.ok).1)
 refine sv.elim (clear% sv;fun ev q=>q.elim fun vs q=>q.elim fun hp rl=>?_)
 subst ev
 refine rl.view.elim fun v0 q=>q.elim fun vr q=>q.elim fun evs q=>q.elim fun r0 rr=>?_
 have er:vr=[]:=d0U.mp rr.length
 subst er evs
 have hlst:=hp.isList
 have hlt:oa z<s₁.heap.objs.size:=hlst.elim fun o q=>c9G q.1
 refine wpAny_pyIter_list hlst ?_
 have kI:Kf s₁ { s₁ with heap:=s₁.heap.push { cls:=.type "list_iterator",data:=.fields #[.ref (oa z),.int 0 0] } }:=Kf.push (c9n _)
 have S₂:=S₁.kf kI
 refine⟨S₂.gst.lim,?_⟩
 refine (G.lamAt true _ S₂.gst.tab).elim fun CH q=>q.elim fun ps q=>q.elim fun hP LT=>?_
 have hnote:a5Q (vw (arg e 0)).pos.col=("<genexpr>":Str):=by rw [X.col];rfl
 have hgP:mainGlobals≠G.lamP true:=fun q=>by
  refine S₂.gst.gns.elim fun o Z1=>Z1.elim (fun es Z2=>Z2.elim (fun ep Z3=>Z3.elim (fun e Z4=>Z4.elim (fun hd _=>?_))))
  rw [q,hP] at e;cases e;cases hd
 have hb:s₁.heap.BuiltinsAt G.mg (G.lamP true):=a3v (G.bmain true) S₁.gst.base

 have go:∀ (code:Value) (s₃:Shared),(∀ b o,b≠G.lamP true→(s₁.heap.push { cls:=.type "list_iterator",data:=.fields #[.ref (oa z),.int 0 0] }).get? b=some o→s₃.heap.get? b=some o)→s₁.heap.objs.size<s₃.heap.objs.size→G.tabOk s₃.heap→s₃.os=s₁.os→s₃.gens=s₁.gens →
   wpAny (model G.prog G.w) Γ.A (builtinsFor Γ.env.globals Γ.env.builtins) (fun bi s₄=>∃ I fp wr n₀ P St₀ pz F,(.ref s₁.heap.objs.size:Value)=.ref I∧(∀ A':Around,A'.handled=none→Walks G.prog G.w A' I fp wr n₀ P St₀)∧St₀ 0 s₄.heap∧(∀ b∈fp,b<s₄.heap.objs.size)∧s₄.heap.NoLimit∧cStatics ∉ wr ∧
     (∀ href:Heap,(∀ b o,s₄.heap.get? b=some o→href.get? b=some o) →
      QuietGen G.prog G.w (genEnv (vw (arg e 0)).sc [] s₄.heap.objs.size code bi Γ.env) ("s":Str) [] (vw (arg e 0)).a (List.range s₄.heap.objs.size) wr P pz F href) ∧
     (∀ a h₅ tk gs,gs.bare=true→s₄.heap.objs.size<a→h₅.objs.size=a+1→(∀ b o,s₄.heap.get? b=some o→h₅.get? b=some o) →
      WalksS G.prog G.w Γ.A.in4 a (a :: s₄.heap.objs.size :: List.range s₄.heap.objs.size) (s₄.heap.objs.size :: wr) (GenOnlyQ s₄.gens.size) (passing pz n₀ 0).length
       (fun j y=>∃ i,(passing pz n₀ 0)[j]?=some i∧F i y) (GenAt G.prog G.w Γ.A.in4 a s₄.gens.size s₄.heap.objs.size (List.range s₄.heap.objs.size) wr pz n₀ F) →
      GenAt G.prog G.w Γ.A.in4 a s₄.gens.size s₄.heap.objs.size (List.range s₄.heap.objs.size) wr pz n₀ F 0 { s₄ with gens:=s₄.gens.push gs,toks:=tk,heap:=h₅ } →
      s₁.toks≤tk→wpAny (model G.prog G.w) Γ.A (spliced (backTo pos (starEach [] Γ.env))) (fun vs s₂=>wpAny (model G.prog G.w) Γ.A (call (.builtin "str.join") (.str ⟨#[45]⟩ t :: .ref a :: vs)) Q E s₂) E { s₄ with gens:=s₄.gens.push gs,toks:=tk,heap:=h₅ })) (fun e s'=>s₁.toks≤s'.toks→E e s') s₃:=fun code s₃ hx hsz htab hos hgens=>by
  refine hb.elim fun bm q=>q.elim fun ob q=>q.elim fun hbm q=>q.elim fun hne0 q=>q.elim fun hbG q=>q.elim fun hbP q=>q.elim fun hbo q=>q.elim fun hcls q=>q.elim fun hdict hdata=>?_
  have hg₃:s₃.heap.Ns mainGlobals G.mg:=S₂.gst.gns.extBut (fun b o h1 h2=>hx b o h1 h2) hgP
  rw [S₁.globals]
  refine wpAny_builtinsFor hg₃ hbm hne0 (hx _ _ hbP (c9w _ hbo)) hcls hdict hdata ?_
  have hst:cStatics<s₁.heap.objs.size:=S₁.gst.lim.elim fun _ q=>q.1.lt
  have hnP:oa z≠G.lamP true:=fun q=>S₁.ownBad z (a0X hz) (S₁.badT _ (q ▸ G.lamIn true))
  have hnI:s₁.heap.objs.size≠G.lamP true:=fun q=>S₁.newT (q ▸ G.lamIn true)
  have hlim:s₃.heap.NoLimit:=S₂.gst.lim.extBut (fun b o h1 h2=>hx b o h1 h2) fun q=>by
   refine S₁.gst.lim.elim fun _ q2=>q2.1.elim fun o q2=>q2.elim fun es q2=>q2.elim fun ep q2=>?_
   have:=c9w { cls:=.type "list_iterator",data:=.fields #[.ref (oa z),.int 0 0] } q2.1
   rw [q] at this
   have h5:=this.symm.trans hP
   cases h5
   exact absurd q2.2.1 nofun
  refine⟨s₁.heap.objs.size,[s₁.heap.objs.size,oa z],[s₁.heap.objs.size],[v0].toArray.size,_,_,fun _=>true,fun _ v=>∃ u,v=.str (c5I y) u,rfl,fun A' hA=>Walks.list hA _ _ (d0g hlt) [v0].toArray,?_,?_,hlim,fun q=>d0g hst (d0i.mp q),fun href hk=>⟨?_,?_⟩,fun a h₅ tk gs hgb hag hsz₅ hk₅ W hat htk=>?_⟩
  ·exact⟨⟨_,hx _ _ hnI (c9H _ rfl),rfl,rfl⟩,hlst.elim fun o q=>⟨o,hx _ _ hnP (c9w _ q.1),q.2⟩⟩
  ·intro b hb
   rcases c9U.mp hb with q | q
   ·rw [q];exact hsz
   ·rw [d0i.mp q];exact Nat.lt_trans hlt hsz
  ·exact fun A' E' i v s₅ m₂ _ _ _ _ _=>c9M ⟨rfl,⟨s₅.heap,s₅.toks,rfl,fun _ _ e=>e⟩⟩
  ·intro A' E' i v s₅ m₂ _ hPv _ hn hm _
   have hv:v=v0:=by
    cases i with
    | zero=>exact (c9x hPv).symm
    | succ i=>exact a0e (show none=some v from hPv)
   subst hv
   rw [a2g hy0 |>.choose_spec] at r0
   refine (RepT.deep r0).asStr.elim fun u q=>q.elim fun ev _=>?_
   subst ev
   exact c3B X.el X.kind (by show (vw (arg e 0)).sc.names.lookup _ = _;rw [X.names];rfl) hn hm (c9B hlen) hocc
  ·refine d0H (c9F (n:=tk) (c9n _) (SC.joinGen W.in4_2 (fun i s' st=>st.1.typeIs) hat ?_ d0r (fun i v hv=>hv.elim fun _ q=>q.2.elim fun u q=>⟨_,u,q⟩) (fun s' lt hm hacc=>?_) (by rw [c9C];exact (by decide:1≤16777216))))
   ·intro b hb
    show b<h₅.objs.size
    rw [hsz₅]
    rcases c9U.mp hb with q | hb
    ·rw [q];exact c9X _
    ·rcases c9U.mp hb with q | hb
     ·rw [q];exact Nat.lt_succ_of_lt hag
     ·exact Nat.lt_succ_of_lt (Nat.lt_trans (c9R.mp hb) hag)
   ·have hl1:lt.length=1:=by
     have:=hacc.1
     rw [c9I,strValues,d0a] at this
     exact this
    cases lt with
    | nil=>cases hl1
    | cons p r=>
     rw [List.eq_nil_of_length_eq_zero (Nat.succ.inj hl1)] at hacc ⊢
     refine (hacc.2 0 (.str p.1 p.2) rfl).elim fun _ q=>q.2.elim fun u q=>?_
     injection q with q1 q2
     show JoinOk _ [p.1]=true∧∀ t' k,_→Q (.str (Txt.join _ [p.1]) t') _
     rw [q1]
     refine⟨hJ,fun t' k hk=>hQ _ _ (.of (a₁.trans (c3C S₁ hx hsz htab hos hgens hgb hk₅ hm (c9v htk hk))) ?_)⟩
     exact .str _ _ _ nofun
 have LTt:=LT.triples
 rcases LT.among (vw (arg e 0)).pos with hnf | ⟨c',hf,hr⟩
 ·refine wpAny_genexprCodeX hcode (CH.code hP LTt) (CH.tab hP) hnf fun c' h' tk hx hge hlt' hcode' hrec htab' hP'=>?_
  refine hP'.elim fun P' q=>q.elim fun _ q=>q.elim fun hc' ht'=>?_
  rw [hqual] at hrec
  refine d0n (go (.ref c') { s₁ with heap:=h',toks:=tk } hx (c9m (by rw [d0h];exact c9X _) (c9v hge (Nat.le_of_lt hlt'))) (G.lamPut true _ _ ps c' (vw (arg e 0)).pos S₂.gst.tab hP hx htab'.2 (hnote ▸ a9c hrec hc' ht')) rfl rfl) (fun bi s₄ h4=>?_) fun _ _ x=>x
  exact h4
 ·refine wpAny_genexprCode_hit hcode (CH.code hP LTt) hf ?_
  refine d0n (go (.ref c') _ (fun b o _ e=>e) (by show _<(s₁.heap.push _).objs.size;rw [d0h];exact c9X _) S₂.gst.tab rfl rfl) (fun bi s₄ h4=>?_) fun _ _ x=>x
  exact h4
end
end
section
section
variable (G:GC)(F:Fns)(lvl:Nat)
noncomputable def M1 (pe:PE):Prop:=∀ (sc:a0g) (e:Expr),(mE G.nm sc pe e=true→EvJ G F lvl sc pe e)∧(mT G.nm sc pe e=true→TsJ G F lvl sc pe e)∧(mI G.nm sc pe e=true→a3q G F lvl sc pe e)
noncomputable def M2 (pes:PEs):Prop:=∀ (sc:a0g) (es:List Expr),(mEs G.nm sc pes es=true→es.all a0B=true→a5a G F lvl sc pes es)∧(c2z G.nm sc pes es=true→b6s G F lvl sc pes es)∧(mPs G.nm sc pes es=true→PsJ G F lvl sc pes es) ∧
 (mBs G.nm sc pes es=true→∀ op,BsJ G F lvl sc op pes es)
noncomputable def M3 (po:PO):Prop:=∀ (sc:a0g),(∀ ks,mKw G.nm sc po ks=true→KwJ G F lvl sc po ks)∧∀ o,mO G.nm sc po o=true→a7V G F lvl sc po o
noncomputable def M4 (pgs:PGs):Prop:=∀ (sc names:a0g) (gs:List Comprehension),mGs G.nm sc names pgs gs=true→(∀ g∈gs,g.is_async=0)∧((∀ x,a2S names x=true→a2S sc x=true)→∀ elt' elt,EvJ G F lvl sc elt' elt→GsJ G F lvl sc names elt' elt pgs gs)
end
section
variable {G:GC}{F:Fns}{lvl:Nat}
theorem no {P:Prop}(h:false=true):P:=absurd h c9p
theorem b9g:M2 G F lvl .nil:=fun sc es=>
 ⟨fun h _=>d0B.mp h ▸ args_nil,fun h=>d0B.mp h ▸ c0p,fun h=>d0B.mp h ▸ c3p,fun h op=>d0B.mp h ▸ c3s⟩
theorem b4w {pe:PE}{pes:PEs}(h1:M1 G F lvl pe)(h2:M2 G F lvl pes):M2 G F lvl (.cons pe pes):=fun sc es=>by
 cases es with
 | nil=>exact⟨fun h=>no (a0h (a0h h).1).1,fun h=>no (a0h (a0h h).1).1,fun h=>no (a0h (a0h (a0h h).1).1).1,fun h=>no (a0h (a0h h).1).1⟩
 | cons e es=>
  refine (h1 sc e).elim fun a1 Z1=>Z1.elim (fun a2 _=>?_)
  obtain⟨b1,b2,b3,b4⟩:=h2 sc es
  exact⟨fun h hs=>args_cons (a0h hs).1 (a1 (a0h (a0h h).1).2) (b1 (a0h h).2 (a0h hs).2),fun h=>b7e (a2 (a0h (a0h h).1).2) (b2 (a0h h).2),
   fun h=>c0e (a0h (a0h (a0h h).1).1).2 ((h1 sc (b3X e)).1 (a0h (a0h h).1).2) (b3 (a0h h).2),fun h op=>c0k (a2 (a0h (a0h h).1).2) (b4 (a0h h).2 op)⟩
theorem c6w:M3 G F lvl .no:=fun sc=>⟨fun ks h=>d0B.mp h ▸ c6n,fun o h=>d0C.mp h ▸ c0c⟩
theorem c3D {k:Keyword}{n:Option Str}(h:k.arg=n):k=⟨n,k.value,k.pos⟩:=by
 cases k
 exact h ▸ rfl
theorem c3E {pe:PE}(h1:M1 G F lvl pe):M3 G F lvl (.yes pe):=fun sc=>⟨fun ks h=>by
 refine a0a h (clear% h;fun h h3=>?_)
 refine a0a h (clear% h;fun h2 h4=>?_)
 have e1:=es1 (d:=(⟨none,default,default⟩:Keyword)) (c9K h2)
 cases ks with
 | nil=>cases h2
 | cons k r=>
  rw [e1]
  show KwJ G F lvl sc _ [k]
  rw [c3D (k:=k) (c9K h4)]
  exact c3i ((h1 sc k.value).1 h3),fun o h=>by
 cases o with
 | none=>exact no (a0h (a:=(none:Option Expr).isSome) (b:=mE G.nm sc pe default) h).1
 | some e=>exact b6X ((h1 sc e).1 (a0h (a:=(some e).isSome) (b:=mE G.nm sc pe e) h).2)⟩
theorem b9h:M4 G F lvl .nil:=fun sc names gs h=>by
 rw [d0B.mp h]
 exact⟨nofun,fun _ elt' elt hE=>c3b hE⟩
theorem b4x {t:Tgt}{iter:PE}{ifs:PEs}{pgs:PGs}(h1:M1 G F lvl iter)(h2:M2 G F lvl ifs)(h3:M4 G F lvl pgs):M4 G F lvl (.cons t iter ifs pgs):=fun sc names gs h=>by
 refine a0a h (clear% h;fun h k6=>?_)
 refine a0a h (clear% h;fun h k5=>?_)
 refine a0a h (clear% h;fun h k4=>?_)
 refine a0a h (clear% h;fun h k3=>?_)
 refine a0a h (clear% h;fun k1 k2=>?_)
 cases gs with
 | nil=>cases k1
 | cons g gs=>
  obtain⟨t',i',f',a⟩:=g
  have k1:a=0:=c9K k1
  subst k1
  refine (h3 sc names gs k6).elim fun b1 b2=>?_
  exact⟨fun g hg=>(c9U.mp hg).elim (fun q=>q ▸ rfl) (b1 g),fun hsub elt' elt hE=>b9Y k4 hsub k2 b1 ((h1 sc i').2.2 k3) ((h2 sc f').2.1 k5) (b2 hsub elt' elt hE)⟩
section
variable {pe:PE}
theorem m1E (hT:∀ sc e,mT G.nm sc pe e=false)(hI:∀ sc e,mI G.nm sc pe e=false)(h:∀ sc e,mE G.nm sc pe e=true→EvJ G F lvl sc pe e):M1 G F lvl pe:=fun sc e=>⟨h sc e,fun q=>no ((hT sc e).symm.trans q),fun q=>no ((hI sc e).symm.trans q)⟩
theorem c5N (hI:∀ sc e,mI G.nm sc pe e=false)(h:∀ sc e,mE G.nm sc pe e=true→EvJ G F lvl sc pe e)(h':∀ sc e,mT G.nm sc pe e=true→TsJ G F lvl sc pe e):M1 G F lvl pe:=fun sc e=>⟨h sc e,h' sc e,fun q=>no ((hI sc e).symm.trans q)⟩
theorem m1T (hE:∀ sc e,mE G.nm sc pe e=false)(hI:∀ sc e,mI G.nm sc pe e=false)(h:∀ sc e,mT G.nm sc pe e=true→TsJ G F lvl sc pe e):M1 G F lvl pe:=fun sc e=>⟨fun q=>no ((hE sc e).symm.trans q),h sc e,fun q=>no ((hI sc e).symm.trans q)⟩
theorem m1I (hE:∀ sc e,mE G.nm sc pe e=false)(hT:∀ sc e,mT G.nm sc pe e=false)(h:∀ sc e,mI G.nm sc pe e=true→a3q G F lvl sc pe e):M1 G F lvl pe:=fun sc e=>⟨fun q=>no ((hE sc e).symm.trans q),fun q=>no ((hT sc e).symm.trans q),h sc e⟩
theorem m1N (hE:∀ sc e,mE G.nm sc pe e=false)(hT:∀ sc e,mT G.nm sc pe e=false)(hI:∀ sc e,mI G.nm sc pe e=false):M1 G F lvl pe:=m1I hE hT fun sc e q=>no ((hI sc e).symm.trans q)
end
noncomputable abbrev ff:∀ (_:a0g) (_:Expr),false=false:=fun _ _=>rfl
section
variable (hF:FOK G F lvl)(hB:GlobsOK G){a b c t i:PE}{es:PEs}{lo hi:PO}(A:M1 G F lvl a)(B:M1 G F lvl b)(C:M1 G F lvl c)(T:M1 G F lvl t)(I:M1 G F lvl i)(Es:M2 G F lvl es)(Lo:M3 G F lvl lo)(Hi:M3 G F lvl hi)
theorem a1B {J:Expr→Prop}{e e':Expr}(h:e=e')(k:J e'):J e:=h.symm ▸ k
theorem c3F:M1 G F lvl .none:=m1E ff ff fun sc e h=>(a1j h).elim fun _ q=>q.elim fun _ q=>a1B q b9Z
theorem c3G (x:Bool):M1 G F lvl (.bool x):=c5N ff (fun sc e h=>(a1j h).elim fun _ q=>q.elim fun _ q=>a1B q c0a) fun sc e h=>(a1j h).elim fun _ q=>q.elim fun _ q=>a1B q c0m
theorem c6x (x:Int):M1 G F lvl (.int x):=m1E ff ff fun sc e h=>(a1j h).elim fun _ q=>q.elim fun _ q=>a1B q c3c
theorem c6y (x:Str):M1 G F lvl (.str x):=m1E ff ff fun sc e h=>(a1j h).elim fun _ q=>q.elim fun _ q=>a1B q b9c
theorem c0F (x:List UInt8):M1 G F lvl (.bytes x):=m1E ff ff fun sc e h=>(a1j h).elim fun _ q=>q.elim fun _ q=>a1B q b6W
theorem c6z (x:Nat):M1 G F lvl (.var x):=fun sc e=>⟨fun h=>a1B (a1a (a0h h).1) (b3Z (a0h h).2),fun h=>a1B (a1a (a0h h).1) (c0n (a0h h).2),fun h=>a1B (a1a (a0h h).1) (c0q (a0h h).2)⟩
include hB in
theorem c6A (n:String):M1 G F lvl (.typ n):=m1E ff ff fun sc e h=>(a7T (a0h h).1).1.elim fun _ q=>a1B q (b9b hB (a7T (a0h h).1).2 (a0h h).2)
include A B in
theorem c6B (op:Operator):M1 G F lvl (.bin op a b):=m1E ff ff fun sc e h=>by
 refine a0a h (clear% h;fun h h4=>?_)
 refine a0a h (clear% h;fun h h3=>?_)
 refine a0a h (clear% h;fun h1 h2=>?_)
 exact a1B (J:=EvJ G F lvl sc _) (a0w h1) (c9K h2 ▸ c3d ((A sc _).1 h3) ((B sc _).1 h4))
include A in
theorem c6C:M1 G F lvl (.neg a):=m1E ff ff fun sc e h=>by
 refine a0a h (clear% h;fun h h3=>?_)
 refine a0a h (clear% h;fun h1 h2=>?_)
 exact a1B (J:=EvJ G F lvl sc _) (a0w h1) ((c9K h2).symm ▸ c3e ((A sc _).1 h3))
include A in
theorem c6D:M1 G F lvl (.not a):=m1T ff ff fun sc e h=>by
 refine a0a h (clear% h;fun h h3=>?_)
 refine a0a h (clear% h;fun h1 h2=>?_)
 exact a1B (J:=TsJ G F lvl sc _) (a0w h1) ((c9K h2).symm ▸ c3q ((A sc _).2.1 h3))
include Es in
theorem c6E:M1 G F lvl (.and es):=m1T ff ff fun sc e h=>by
 refine a0a h (clear% h;fun h h3=>?_)
 refine a0a h (clear% h;fun h1 h2=>?_)
 exact a1B (J:=TsJ G F lvl sc _) (a0w h1) ((c9K h2).symm ▸ c3t ((Es sc _).2.2.2 h3 _))
include Es in
theorem c8M:M1 G F lvl (.or es):=m1T ff ff fun sc e h=>by
 refine a0a h (clear% h;fun h h3=>?_)
 refine a0a h (clear% h;fun h1 h2=>?_)
 exact a1B (J:=TsJ G F lvl sc _) (a0w h1) ((c9K h2).symm ▸ c6o ((Es sc _).2.2.2 h3 _))
include T A B in
theorem c6F:M1 G F lvl (.ite t a b):=c5N ff (fun sc e h=>by
 refine a0a h (clear% h;fun h h4=>?_)
 refine a0a h (clear% h;fun h h3=>?_)
 refine a0a h (clear% h;fun h1 h2=>?_)
 exact a1B (J:=EvJ G F lvl sc _) (a0w h1) (c3f ((T sc _).2.1 h2) ((A sc _).1 h3) ((B sc _).1 h4))) fun sc e h=>by
 refine a0a h (clear% h;fun h h4=>?_)
 refine a0a h (clear% h;fun h h3=>?_)
 refine a0a h (clear% h;fun h1 h2=>?_)
 exact a1B (J:=TsJ G F lvl sc _) (a0w h1) (c3r ((T sc _).2.1 h2) ((A sc _).2.1 h3) ((B sc _).2.1 h4))
include Es in
theorem c3H:M1 G F lvl (.list es):=m1E ff ff fun sc e h=>a1B (J:=EvJ G F lvl sc _) (a0w (a0h (a0h h).1).1) (c0b ((Es sc _).1 (a0h h).2 (a0h (a0h h).1).2))
include Es in
theorem c6G:M1 G F lvl (.tup es):=m1E ff ff fun sc e h=>a1B (J:=EvJ G F lvl sc _) (a0w (a0h (a0h h).1).1) (c3g ((Es sc _).1 (a0h h).2 (a0h (a0h h).1).2))
include A B in
theorem c6H (op:CmpOp):M1 G F lvl (.cmp op a b):=c5N ff (fun sc e h=>(a4z (a0h (a0h h).1).1).1.elim fun _ q=>a1B (J:=EvJ G F lvl sc _) q (c3h ((A sc _).1 (a0h (a0h h).1).2) ((B sc _).1 (a0h h).2) (a4z (a0h (a0h h).1).1).2))
 fun sc e h=>(a4z (a0h (a0h h).1).1).1.elim fun _ q=>a1B (J:=TsJ G F lvl sc _) q (c3u ((A sc _).1 (a0h (a0h h).1).2) ((B sc _).1 (a0h h).2) (a4z (a0h (a0h h).1).1).2)
include A B C in
theorem c3I (op op':CmpOp):M1 G F lvl (.cmp2 a op b op' c):=m1T ff ff fun sc e h=>by
 refine a0a h (clear% h;fun h h4=>?_)
 refine a0a h (clear% h;fun h h3=>?_)
 refine a0a h (clear% h;fun h1 h2=>?_)
 exact (a8V h1).1.elim fun _ q=>a1B (J:=TsJ G F lvl sc _) q (c0l ((A sc _).1 h2) ((B sc _).1 h3) ((C sc _).1 h4) (a8V h1).2)
include A I in
theorem c6I:M1 G F lvl (.idx a i):=fun sc e=>⟨fun h=>a1B (J:=EvJ G F lvl sc _) (a0w (a0h (a0h h).1).1) (b4a ((A sc _).1 (a0h (a0h h).1).2) ((I sc _).1 (a0h h).2)),
 fun h=>a1B (J:=TsJ G F lvl sc _) (a0w (a0h (a0h h).1).1) (c3v ((A sc _).1 (a0h (a0h h).1).2) ((I sc _).1 (a0h h).2)),fun h=>a1B (J:=a3q G F lvl sc _) (a0w (a0h (a0h h).1).1) (c3w ((A sc _).1 (a0h (a0h h).1).2) ((I sc _).1 (a0h h).2))⟩
include hB A in
theorem c6J:M1 G F lvl (.len a):=m1E ff ff fun sc e h=>c3j hB (b9T (a0h h).1) ((A sc _).1 (a0h h).2)
include hB A in
theorem c6K:M1 G F lvl (.sum a):=m1E ff ff fun sc e h=>c3k hB (b9T (a0h h).1) ((A sc _).1 (a0h h).2)
include hB A in
theorem b4y:M1 G F lvl (.bytesOf a):=m1E ff ff fun sc e h=>b2H hB (b9T (a0h h).1) ((A sc _).1 (a0h h).2)
include hB A in
theorem b7A:M1 G F lvl (.typeOf a):=m1E ff ff fun sc e h=>b4b hB (b9T (a0h h).1) ((A sc _).1 (a0h h).2)
include A B in
theorem c3J:M1 G F lvl (.join a b):=m1E ff ff fun sc e h=>c0d (b6R (a0h (a0h h).1).1) ((A sc _).1 (a0h (a0h h).1).2) ((B sc _).1 (a0h h).2)
include A in
theorem b4z:M1 G F lvl (.replace a b c):=m1E ff ff fun sc e h=>by
 refine a0a h (clear% h;fun h h4=>?_)
 refine a0a h (clear% h;fun h h3=>?_)
 refine a0a h (clear% h;fun h1 h2=>?_)
 exact b2J (c2W h1) ((A sc _).1 h2) h3 h4
include A in
theorem b4A:M1 G F lvl (.isascii a):=c5N ff (fun sc e h=>b2I (c8g (a0h h).1) ((A sc _).1 (a0h h).2)) fun sc e h=>b2N (c8g (a0h h).1) ((A sc _).1 (a0h h).2)
include hB A in
theorem c0G:M1 G F lvl (.isStr a):=m1T ff ff fun sc e h=>b7d hB (c8f (a0h (a0h h).1).1) ((A sc _).1 (a0h (a0h h).1).2) (a0h h).2
include A in
theorem b7B:M1 G F lvl (.encode a):=m1E ff ff fun sc e h=>b4l (b6R (a0h (a0h h).1).1) ((A sc _).1 (a0h (a0h h).1).2) (a0h h).2
include hB A B C in
theorem a9g:M1 G F lvl (.btranslate a b c):=m1E ff ff fun sc e h=>by
 refine a0a h (clear% h;fun h h6=>?_)
 refine a0a h (clear% h;fun h h5=>?_)
 refine a0a h (clear% h;fun h h4=>?_)
 refine a0a h (clear% h;fun h h3=>?_)
 refine a0a h (clear% h;fun h1 h2=>?_)
 exact a8a hB (b6R h1) (c2W h2) h3 ((A sc _).1 h4) ((B sc _).1 h5) ((C sc _).1 h6)
include A Lo Hi in
theorem c0H:M1 G F lvl (.slice a lo hi):=fun sc e=>by
 have K:b2G e=true→∀ {J:Expr→Prop},(∀ p q,J (.Subscript (vw e).a (.Slice (vw (vw e).b).lo (vw (vw e).b).hi none q) p))→J e:=fun h J k=>(b6S h).elim fun p r=>r.elim fun q r=>a1B r (k p q)
 have S:(b2G e&&mE G.nm sc a (vw e).a&&mO G.nm sc lo (vw (vw e).b).lo&&mO G.nm sc hi (vw (vw e).b).hi)=true→b2G e=true∧EvJ G F lvl sc a (vw e).a∧a7V G F lvl sc lo (vw (vw e).b).lo∧a7V G F lvl sc hi (vw (vw e).b).hi:=fun h=>by
  refine a0a h (clear% h;fun h h4=>?_)
  refine a0a h (clear% h;fun h h3=>?_)
  refine a0a h (clear% h;fun h1 h2=>?_)
  exact⟨h1,(A sc _).1 h2,(Lo sc).2 _ h3,(Hi sc).2 _ h4⟩
 exact⟨fun h=>K (S h).1 (J:=EvJ G F lvl sc _) fun _ _=>b1r (S h).2.1 (S h).2.2.1 (S h).2.2.2,fun h=>no h,fun h=>K (S h).1 (J:=a3q G F lvl sc _) fun _ _=>b7f (S h).2.1 (S h).2.2.1 (S h).2.2.2⟩
include hF Es in
theorem c3K (f:Nat){kw:PO}(Kw:M3 G F lvl kw):M1 G F lvl (.call f es kw):=fun sc e=>by
 have K:(b9S sc (G.nm f) e&&mEs G.nm sc es (vw e).es&&mKw G.nm sc kw (vw e).ks)=true→GCall sc (G.nm f) e (vw e).es (vw e).ks∧a5a G F lvl sc es (vw e).es∧KwJ G F lvl sc kw (vw e).ks:=fun h=>
  have c:=b3V (a0h (a0h h).1).1
  ⟨c,(Es sc _).1 (a0h (a0h h).1).2 c.star,(Kw sc).1 _ (a0h h).2⟩
 exact⟨fun h=>b6Y hF (K h).1 (K h).2.1 (K h).2.2,fun h=>c0o hF (K h).1 (K h).2.1 (K h).2.2,fun h=>c0r hF (K h).1 (K h).2.1 (K h).2.2⟩
include A I Es in
theorem c3L (fv:List Nat)(t:Tgt){gs:PGs}(Gs:M4 G F lvl gs):M1 G F lvl (.comp fv a t i es gs):=m1E ff ff fun sc e h=>by
 refine a0a h (clear% h;fun h h7=>?_)
 refine a0a h (clear% h;fun h h6=>?_)
 refine a0a h (clear% h;fun h h5=>?_)
 refine a0a h (clear% h;fun h h4=>?_)
 refine a0a h (clear% h;fun h h3=>?_)
 refine a0a h (clear% h;fun h1 h2=>?_)
 refine (Gs _ _ _ h6).elim fun g1 g2=>?_
 exact (a8W h1).elim fun _ q=>a1B (J:=EvJ G F lvl sc _) q (c0s h2 h4 (a0h h1).2 g1 ((I _ _).2.2 h3) ((Es _ _).2.1 h5) (g2 (fun x=>a6c) _ _ ((A _ _).1 h7)))
include Es in
theorem c3M:M1 G F lvl (.fstr es):=m1E ff ff fun sc e h=>by
 refine a0a h (clear% h;fun h h3=>?_)
 refine a0a h (clear% h;fun h1 h2=>?_)
 have q:e=.JoinedStr (vw e).es (vw e).pos:=a0w h1
 have P:=(Es sc _).2.2.1 h3
 refine a1B (J:=EvJ G F lvl sc _) q ?_
 match (vw e).es,h2,P with
 | x :: y :: r,_,P=>exact c0f P
include hB A in
theorem b7C:M1 G F lvl (.range1 a):=m1I ff ff fun sc e h=>b4h hB (b9T (a0h h).1) ((A sc _).1 (a0h h).2)
include hB A B in
theorem b7D:M1 G F lvl (.range2 a b):=m1I ff ff fun sc e h=>b4i hB (c8f (a0h (a0h h).1).1) ((A sc _).1 (a0h (a0h h).1).2) ((B sc _).1 (a0h h).2)
include hB A B C in
theorem b7E:M1 G F lvl (.range3 a b c):=m1I ff ff fun sc e h=>by
 refine a0a h (clear% h;fun h h4=>?_)
 refine a0a h (clear% h;fun h h3=>?_)
 refine a0a h (clear% h;fun h1 h2=>?_)
 exact b4j hB (c8H h1) ((A sc _).1 h2) ((B sc _).1 h3) ((C sc _).1 h4)
noncomputable def c8N (e:PE):PE:=match e.pv with
 | .r1 a=>a
 | _=>e
noncomputable def N1 (G:GC)(F:Fns)(lvl:Nat)(pe:PE):Prop:=isR1 pe=true→M1 G F lvl (c8N pe)
theorem n1 {pe:PE}(h:isR1 pe=false):N1 G F lvl pe:=fun q=>no (h.symm.trans q)
include hB A in
theorem b7F:M1 G F lvl (.sorted a):=m1E ff ff fun sc e h=>b4e hB (b9T (a0h h).1) ((A sc _).1 (a0h h).2)
include A in
theorem c3N (y:Nat):M1 G F lvl (.rep1 a y):=m1E ff ff fun sc e h=>by
 refine a0a h (clear% h;fun h h5=>?_)
 refine a0a h (clear% h;fun h h4=>?_)
 refine a0a h (clear% h;fun h h3=>?_)
 refine a0a h (clear% h;fun h1 h2=>?_)
 exact c0i (c8h h1) ((A sc _).1 h2) h3 h4 h5
include A B in
theorem c0I:M1 G F lvl (.count a b):=m1E ff ff fun sc e h=>b7c (b6R (a0h (a0h h).1).1) ((A sc _).1 (a0h (a0h h).1).2) ((B sc _).1 (a0h h).2)
include A B C T in
theorem c3O:M1 G F lvl (.find a b c t):=m1E ff ff fun sc e h=>by
 refine a0a h (clear% h;fun h h5=>?_)
 refine a0a h (clear% h;fun h h4=>?_)
 refine a0a h (clear% h;fun h h3=>?_)
 refine a0a h (clear% h;fun h1 h2=>?_)
 exact c0j (c8h h1) ((A sc _).1 h2) ((B sc _).1 h3) ((C sc _).1 h4) ((T sc _).1 h5)
include hB in
theorem c0J (x:Nat):M1 G F lvl (.resub x):=m1E ff ff fun sc e h=>b7x hB h
theorem b4B (x:Nat):M1 G F lvl (.joinEsc x):=m1E ff ff fun sc e h=>b2W x h
end
theorem a9h (hF:FOK G F lvl)(hB:GlobsOK G)(pe:PE):M1 G F lvl pe∧N1 G F lvl pe:=
 PE.rec (motive_1:=fun pe=>M1 G F lvl pe∧N1 G F lvl pe) (motive_2:=M2 G F lvl) (motive_3:=M3 G F lvl) (motive_4:=M4 G F lvl)
  (⟨c3F,n1 rfl⟩) (fun x=>⟨c3G x,n1 rfl⟩) (fun x=>⟨c6x x,n1 rfl⟩) (fun x=>⟨c6y x,n1 rfl⟩) (fun x=>⟨c0F x,n1 rfl⟩) (fun x=>⟨c6z x,n1 rfl⟩) (fun x=>⟨c6A hB x,n1 rfl⟩) (fun op _ _ A B=>⟨c6B A.1 B.1 op,n1 rfl⟩) (fun _ A=>⟨c6C A.1,n1 rfl⟩) (fun _ _ _ T A B=>⟨c6F A.1 B.1 T.1,n1 rfl⟩) (fun _ Es=>⟨c6E Es,n1 rfl⟩) (fun _ Es=>⟨c8M Es,n1 rfl⟩) (fun _ A=>⟨c6D A.1,n1 rfl⟩) (fun _ Es=>⟨c3H Es,n1 rfl⟩) (fun _ Es=>⟨c6G Es,n1 rfl⟩) (fun op _ _ A B=>⟨c6H A.1 B.1 op,n1 rfl⟩) (fun _ op _ op' _ A B C=>⟨c3I A.1 B.1 C.1 op op',n1 rfl⟩) (fun _ _ A I=>⟨c6I A.1 I.1,n1 rfl⟩) (fun _ _ _ A L U=>⟨c0H A.1 L U,n1 rfl⟩) (fun fv _ t _ _ _ A I Es Gs=>⟨c3L A.1 I.1 Es fv t Gs,n1 rfl⟩) (fun f _ _ Es Kw=>⟨c3K hF Es f Kw,n1 rfl⟩) (fun _ A=>⟨c6J hB A.1,n1 rfl⟩) (fun _ A=>⟨c6K hB A.1,n1 rfl⟩)
  (fun _ A=>⟨b4y hB A.1,n1 rfl⟩) (fun _ A=>⟨b7A hB A.1,n1 rfl⟩) (fun _ A=>⟨c0G hB A.1,n1 rfl⟩) (fun _ A=>⟨b7C hB A.1,fun _=>A.1⟩) (fun _ _ A B=>⟨b7D hB A.1 B.1,n1 rfl⟩) (fun _ _ _ A B C=>⟨b7E hB A.1 B.1 C.1,n1 rfl⟩) (fun _ _=>⟨m1N ff ff ff,n1 rfl⟩)
  (fun _ A=>⟨b7F hB A.1,n1 rfl⟩)
  (fun _ y A=>⟨c3N A.1 y,n1 rfl⟩)
  (fun _ _ A B=>⟨c0I A.1 B.1,n1 rfl⟩)
  (fun _ _ _ _ A B C T=>⟨c3O A.1 B.1 C.1 T.1,n1 rfl⟩)
  (fun x=>⟨c0J hB x,n1 rfl⟩)
  (fun x=>⟨b4B x,n1 rfl⟩)
  (fun _ _ _ A _ _=>⟨b4z A.1,n1 rfl⟩) (fun _ _ A B=>⟨c3J A.1 B.1,n1 rfl⟩)
  (fun _ A=>⟨b4A A.1,n1 rfl⟩) (fun _ A=>⟨b7B A.1,n1 rfl⟩) (fun _ _ _ A B C=>⟨a9g hB A.1 B.1 C.1,n1 rfl⟩) (fun _ Es=>⟨c3M Es,n1 rfl⟩)
  b9g (fun _ _ A B=>b4w A.1 B) c6w (fun _ A=>c3E A.1) b9h (fun t _ _ _ A B C=>b4x A.1 B C) pe
theorem b4C (hF:FOK G F lvl)(hB:GlobsOK G)(pes:PEs):M2 G F lvl pes:=
 PEs.rec (motive_1:=fun _=>True) (motive_2:=M2 G F lvl) (motive_3:=fun _=>True) (motive_4:=fun _=>True)
  trivial (fun _=>trivial) (fun _=>trivial) (fun _=>trivial) (fun _=>trivial) (fun _=>trivial) (fun _=>trivial) (fun _ _ _ _ _=>trivial) (fun _ _=>trivial) (fun _ _ _ _ _ _=>trivial) (fun _ _=>trivial) (fun _ _=>trivial) (fun _ _=>trivial) (fun _ _=>trivial) (fun _ _=>trivial) (fun _ _ _ _ _=>trivial) (fun _ _ _ _ _ _ _ _=>trivial) (fun _ _ _ _=>trivial) (fun _ _ _ _ _ _=>trivial) (fun _ _ _ _ _ _ _ _ _ _=>trivial) (fun _ _ _ _ _=>trivial) (fun _ _=>trivial) (fun _ _=>trivial)
  (fun _ _=>trivial) (fun _ _=>trivial) (fun _ _=>trivial) (fun _ _=>trivial) (fun _ _ _ _=>trivial) (fun _ _ _ _ _ _=>trivial) (fun _ _=>trivial)
  (fun _ _=>trivial)
  (fun _ _ _=>trivial)
  (fun _ _ _ _=>trivial)
  (fun _ _ _ _ _ _ _ _=>trivial)
  (fun _=>trivial)
  (fun _=>trivial)
  (fun _ _ _ _ _ _=>trivial) (fun _ _ _ _=>trivial)
  (fun _ _=>trivial) (fun _ _=>trivial) (fun _ _ _ _ _ _=>trivial) (fun _ _=>trivial)
  b9g (fun pe _ _ B=>b4w (a9h hF hB pe).1 B) trivial (fun _ _=>trivial) trivial (fun _ _ _ _ _ _ _=>trivial) pes
theorem c3P (hF:FOK G F lvl)(hB:GlobsOK G)(pgs:PGs):M4 G F lvl pgs:=
 PGs.rec (motive_1:=fun _=>True) (motive_2:=fun _=>True) (motive_3:=fun _=>True) (motive_4:=M4 G F lvl)
  trivial (fun _=>trivial) (fun _=>trivial) (fun _=>trivial) (fun _=>trivial) (fun _=>trivial) (fun _=>trivial) (fun _ _ _ _ _=>trivial) (fun _ _=>trivial) (fun _ _ _ _ _ _=>trivial) (fun _ _=>trivial) (fun _ _=>trivial) (fun _ _=>trivial) (fun _ _=>trivial) (fun _ _=>trivial) (fun _ _ _ _ _=>trivial) (fun _ _ _ _ _ _ _ _=>trivial) (fun _ _ _ _=>trivial) (fun _ _ _ _ _ _=>trivial) (fun _ _ _ _ _ _ _ _ _ _=>trivial) (fun _ _ _ _ _=>trivial) (fun _ _=>trivial) (fun _ _=>trivial)
  (fun _ _=>trivial) (fun _ _=>trivial) (fun _ _=>trivial) (fun _ _=>trivial) (fun _ _ _ _=>trivial) (fun _ _ _ _ _ _=>trivial) (fun _ _=>trivial)
  (fun _ _=>trivial)
  (fun _ _ _=>trivial)
  (fun _ _ _ _=>trivial)
  (fun _ _ _ _ _ _ _ _=>trivial)
  (fun _=>trivial)
  (fun _=>trivial)
  (fun _ _ _ _ _ _=>trivial) (fun _ _ _ _=>trivial)
  (fun _ _=>trivial) (fun _ _=>trivial) (fun _ _ _ _ _ _=>trivial) (fun _ _=>trivial)
  trivial (fun _ _ _ _=>trivial) trivial (fun _ _=>trivial) b9h (fun t it ifs _ _ _ C=>b4x (a9h hF hB it).1 (b4C hF hB ifs) C) pgs
theorem a9X (hF:FOK G F lvl)(hB:GlobsOK G)(pe:PE){sc:a0g}{e:Expr}(h:mE G.nm sc pe e=true):EvJ G F lvl sc pe e:=((a9h hF hB pe).1 sc e).1 h
theorem c5O (hF:FOK G F lvl)(hB:GlobsOK G)(pe:PE){sc:a0g}{e:Expr}(h:mT G.nm sc pe e=true):TsJ G F lvl sc pe e:=((a9h hF hB pe).1 sc e).2.1 h
theorem c8m (hF:FOK G F lvl)(hB:GlobsOK G)(pe:PE){sc:a0g}{e:Expr}(h:mI G.nm sc pe e=true):a3q G F lvl sc pe e:=((a9h hF hB pe).1 sc e).2.2 h
theorem c6L (hF:FOK G F lvl)(hB:GlobsOK G)(pes:PEs){sc:a0g}{es:List Expr}(h:mEs G.nm sc pes es=true)(hs:es.all a0B=true):a5a G F lvl sc pes es:=(b4C hF hB pes sc es).1 h hs
theorem c3Q (hF:FOK G F lvl)(hB:GlobsOK G)(pes:PEs){sc:a0g}{es:List Expr}(h:c2z G.nm sc pes es=true):b6s G F lvl sc pes es:=(b4C hF hB pes sc es).2.1 h
end
end
section
structure Goes (G:GC)(Γ:Ctx)(lvl:Nat)(sc:a0g)(W:Nat→Bool)(σ:Store)(oa:Nat→Addr)(s:Shared)(σ':Store)(oa':Nat→Addr)(s':Shared):Prop where
 st:St G Γ lvl sc σ' oa' s'
 step:Step G Γ W σ oa s σ' oa' s'
noncomputable def c0K (G:GC)(Γ:Ctx)(lvl:Nat)(sc:a0g)(W:Nat→Bool)(σ:Store)(oa:Nat→Addr)(s:Shared)(out:Out)(f:Flow)(s':Shared):Prop:=match out with
 | .next σ'=>f=.next∧∃ oa',Goes G Γ lvl sc W σ oa s σ' oa' s'
 | .brk σ'=>f=.brk∧∃ oa',Goes G Γ lvl sc W σ oa s σ' oa' s'
 | .cont σ'=>f=.cont∧∃ oa',Goes G Γ lvl sc W σ oa s σ' oa' s'
 | .ret d=>∃ v,f=.ret v∧(∃ σ' oa',Goes G Γ lvl sc W σ oa s σ' oa' s')∧Rep (rc G Γ) Γ.bad s'.heap s'.toks v d
noncomputable def Runs (G:GC)(Γ:Ctx)(lvl:Nat)(sc:a0g)(W:Nat→Bool)(σ:Store)(oa:Nat→Addr)(s:Shared)(out:Out)(m:Sem Flow):Prop:=
 ∀ (Q:Flow→Shared→Prop) (E:Value→Shared→Prop),(∀ f s',c0K G Γ lvl sc W σ oa s out f s'→Q f s')→wpAny (model G.prog G.w) Γ.A m Q E s
section
variable (G:GC)(F:Fns)(lvl fuel:Nat)(sc:a0g)
noncomputable def SJ (ps:PS)(st:Stmt):Prop:=∀ (Γ:Ctx) (W:Nat→Bool) (σ:Store) (oa:Nat→Addr) (s:Shared) (out:Out),(∀ x,c2H ps x=true→W x=true)→St G Γ lvl sc σ oa s→evS F fuel σ ps=some out →
 Runs G Γ lvl sc W σ oa s out (exec st Γ.env)
noncomputable def SsJ (ps:List PS)(st:List Stmt):Prop:=∀ (Γ:Ctx) (W:Nat→Bool) (σ:Store) (oa:Nat→Addr) (s:Shared) (out:Out),(∀ x,a4s ps x=true→W x=true)→St G Γ lvl sc σ oa s→a0y F fuel σ ps=some out →
 Runs G Γ lvl sc W σ oa s out (execs st Γ.env)
end
section
variable {G:GC}{F:Fns}{lvl fuel:Nat}{Γ:Ctx}{W:Nat→Bool}{sc names:a0g}{σ σ₀ σ':Store}{oa oa':Nat→Addr}{s s' s₁:Shared}{out:Out}{f:Flow}
theorem Goes.refl (S:St G Γ lvl sc σ oa s):Goes G Γ lvl sc W σ oa s σ oa s:=⟨S,.refl⟩
theorem Goes.trans {σ₂:Store}{oa₂:Nat→Addr}(a:Goes G Γ lvl sc W σ oa s σ' oa' s₁)(b:Goes G Γ lvl sc W σ' oa' s₁ σ₂ oa₂ s'):Goes G Γ lvl sc W σ oa s σ₂ oa₂ s':=⟨b.st,a.step.trans a.st b.step⟩
theorem Goes.af (S:St G Γ lvl sc σ oa s)(a:Af G s s₁):Goes G Γ lvl sc W σ oa s σ oa s₁:=⟨S.af a,.ofKp a.kp⟩
theorem Goes.behind (T:Goes G Γ lvl sc W σ oa s σ' oa' s₁)(O:c0K G Γ lvl sc W σ' oa' s₁ out f s'):c0K G Γ lvl sc W σ oa s out f s':=by
 cases out with
 | ret d=>exact O.elim fun v O=>⟨v,O.1,O.2.1.elim fun σ₂ h=>h.elim fun oa₂ h=>⟨σ₂,oa₂,T.trans h⟩,O.2.2⟩
 | _=>exact⟨O.1,O.2.elim fun oa₂ h=>⟨oa₂,T.trans h⟩⟩
theorem Runs.behind {m:Sem Flow}{Q:Flow→Shared→Prop}{E:Value→Shared→Prop}(h:Runs G Γ lvl sc W σ' oa' s₁ out m)(T:Goes G Γ lvl sc W σ oa s σ' oa' s₁)(hQ:∀ f s',c0K G Γ lvl sc W σ oa s out f s'→Q f s'):wpAny (model G.prog G.w) Γ.A m Q E s₁:=h Q E fun f s' O=>hQ f s' (T.behind O)
theorem a1u {Q:Flow→Shared→Prop}(hQ:∀ f s',c0K G Γ lvl sc W σ oa s (.next σ') f s'→Q f s')(T:Goes G Γ lvl sc W σ oa s σ' oa' s'):Q .next s':=hQ _ _ ⟨rfl,_,T⟩
theorem c3R:SsJ G F lvl fuel sc [] []:=fun Γ W σ oa s out _ S h Q E hQ=>wpAny_execs_nil (hQ _ s (c9x (show some (Out.next σ)=some out from h) ▸ ⟨rfl,oa,.refl S⟩))
theorem c0L {p:PS}{ps:List PS}{st:Stmt}{ss:List Stmt}(hE:SJ G F lvl fuel sc p st)(hR:SsJ G F lvl fuel sc ps ss):SsJ G F lvl fuel sc (p :: ps) (st :: ss):=fun Γ W σ oa s out hW S h Q E hQ=>by
 refine a0j (show (evS F fuel σ p).bind _ = _ from h) fun o h1 h=>?_
 refine wpAny_execs_cons (hE _ _ _ _ _ _ (fun x hx=>hW x (d0F.mpr (.inl hx))) S h1 _ _ fun f s₁ O=>?_)
 cases o with
 | next σ₁=>
  refine O.elim (clear% O;fun e Z1=>Z1.elim (fun oa₁ T=>?_))
  rw [e]
  exact (hR _ _ _ _ _ _ (fun x hx=>hW x (d0F.mpr (.inr hx))) T.st h).behind T hQ
 | ret d=>
  have q:=hQ f s₁ (c9x h ▸ O)
  refine O.elim (clear% O;fun v Z1=>Z1.elim (fun e _=>?_))
  rw [e] at q ⊢
  exact q
 | _=>
  have q:=hQ f s₁ (c9x h ▸ O)
  rw [O.1] at q ⊢
  exact q
theorem b1t {f:Nat→Bool}{x:Nat}:(σ.only f).get x=bif f x then σ.get x else none:=by
 induction σ with
 | nil=>show none=bif f x then none else none;cases f x <;> rfl
 | cons p r ih=>
  show Store.get (List.filter _ (p :: r)) x = _
  rw [d0S,a0S]
  by_cases hx:x=p.1
  ·rw [c9s.mpr hx,cond_true,← hx]
   cases hf:f x with
   | true=>rw [c9r rfl,a0S,c9s.mpr hx];rfl
   | false=>rw [c9t c9p];rw [hf] at ih;exact ih
  ·rw [c9u.mpr hx,cond_false]
   cases f p.1 with
   | true=>rw [c9r rfl,a0S,c9u.mpr hx];exact ih
   | false=>rw [c9t c9p];exact ih
theorem b1u {f:Nat→Bool}{x:Nat}{sl:Slot}(h:(σ.only f).get x=some sl):σ.get x=some sl:=by
 rw [b1t] at h
 cases hf:f x with
 | true=>rw [hf] at h;exact h
 | false=>rw [hf] at h;exact a0e h
theorem c0M {xs:List Nat}{ps:List PS}{ss:List Stmt}(hR:SsJ G F lvl fuel sc ps ss):SsJ G F lvl fuel sc (.drop xs :: ps) ss:=fun Γ W σ oa s out hW S h Q E hQ=>by
 refine a0j (show (evS F fuel σ (.drop xs)).bind _ = _ from h) fun o h1 h=>?_
 refine a0J h1 (clear% h1;fun hc h1=>?_)
 rw [← h1] at h
 have S₁:St G Γ lvl sc (σ.only fun y=>!(xs.contains y)) oa s:=S.forget (fun x sl=>b1u) fun x hx=>by
  unfold Store.isOwn at hx ⊢
  rw [b1t]
  cases q:xs.contains x with
  | false=>exact hx
  | true=>exact absurd hx (ne_true_of_eq_false (a1L (c9Q.mp hc x (d0J.mp q))))
 exact (hR _ _ _ _ _ _ (fun x hx=>hW x (d0F.mpr (.inr hx))) S₁ h).behind ⟨S₁,⟨fun _ _ _ _ e=>e,rfl,c9n _,fun _ _ e=>e,fun x hx=>(a2I hx).elim fun sl q=>.inl ⟨x,(a0X (b1u q.1)).trans q.2,rfl⟩,fun _ _=>rfl⟩⟩ hQ
theorem c0N {ps:List PS}{ss:List Stmt}:SsJ G F lvl fuel sc (.fail :: ps) ss:=fun Γ W σ oa s out hW S h=>a0e (show none=some out from h)
theorem c3S {st:Stmt}:SJ G F lvl fuel sc .fail st:=fun Γ W σ oa s out hW S h=>a0e (show none=some out from h)
theorem c6M {p:Pos}:SJ G F lvl fuel sc .brk (.Break p):=fun Γ W σ oa s out hW S h Q E hQ=>wpAny_Break (hQ _ s (c9x (show some (Out.brk σ)=some out from h) ▸ ⟨rfl,oa,.refl S⟩))
theorem c3T {p:Pos}:SJ G F lvl fuel sc .cont (.Continue p):=fun Γ W σ oa s out hW S h Q E hQ=>wpAny_Continue (hQ _ s (c9x (show some (Out.cont σ)=some out from h) ▸ ⟨rfl,oa,.refl S⟩))
theorem b7G {t:PE}{t':Expr}{m:Option Expr}{p:Pos}(hT:TsJ G F lvl sc t t'):SJ G F lvl fuel sc (.assert t) (.Assert t' m p):=fun Γ W σ oa s out hW S h Q E hQ=>by
 refine a0j (show (evT F σ t).bind _ = _ from h) fun b hb h=>?_
 refine a0J h (clear% h;fun hb1 h=>?_)
 exact wpAny_Assert_holds (hT _ _ _ _ _ S hb _ _ fun s₁ a=>⟨hb1,hQ _ _ (h ▸ ⟨rfl,oa,.af S a⟩)⟩)
theorem c6N {t:PE}{a b:List PS}{t':Expr}{a' b':List Stmt}{p:Pos}(hT:TsJ G F lvl sc t t')(hA:SsJ G F lvl fuel sc a a')(hB:SsJ G F lvl fuel sc b b'):SJ G F lvl fuel sc (.ifs t a b) (.If t' a' b' p):=fun Γ W σ oa s out hW S h Q E hQ=>by
 refine a0j (show (evT F σ t).bind _ = _ from h) fun q hq h=>?_
 refine wpAny_If (hT _ _ _ _ _ S hq _ _ fun s₁ af=>?_)
 cases q with
 | true=>exact (hA _ _ _ _ _ _ (fun x hx=>hW x (d0F.mpr (.inl hx))) (S.af af) h).behind (.af S af) hQ
 | false=>exact (hB _ _ _ _ _ _ (fun x hx=>hW x (d0F.mpr (.inr hx))) (S.af af) h).behind (.af S af) hQ
theorem c6O {body:List PS}{body':List Stmt}{h₀:ExceptHandler}{hs:List ExceptHandler}{p:Pos}(hA:SsJ G F lvl fuel sc body body'):SJ G F lvl fuel sc (.try body) (.Try body' (h₀ :: hs) [] [] p):=fun Γ W σ oa s out hW S h Q E hQ=>by
 refine a0j (show (a0y F fuel σ body).bind _ = _ from h) fun o hd h=>?_
 refine wpAny_Try_except (hA _ _ _ _ _ _ hW S hd _ _ fun f s₁ O=>?_)
 cases o with
 | ret d=>
  have q:=hQ f s₁ (c9x h ▸ O)
  refine O.elim (clear% O;fun v Z1=>Z1.elim (fun e _=>?_))
  rw [e] at q ⊢
  exact q
 | next σ₁=>
  have q:=hQ f s₁ (c9x h ▸ O)
  rw [O.1] at q ⊢
  exact wpAny_execs_nil q
 | _=>exact a0e h
theorem a7k {α:Type}{l:List (Nat×α)}{n:Nat}{c:α}(h:l.lookup n=some c):(n,c)∈l:=by
 induction l with
 | nil=>exact a0e h
 | cons p r ih=>
  obtain⟨k,v⟩:=p
  rw [c9q] at h
  cases hb:n==k with
  | true=>rw [hb] at h;rw [c9s.mp hb,← c9x h];exact d0r
  | false=>rw [hb] at h;exact d0u _ (ih h)
theorem a7l {x:Nat}{sl:Slot}(h:(freezeAll σ).get x=some sl):∃ sl₀,σ.get x=some sl₀∧sl₀.freeze=some sl:=by
 refine (List.mem_filterMap.mp (show (x,sl)∈σ.filterMap _ from a7k h)).elim fun p Z1=>Z1.elim (fun _ hp=>?_)
 refine a0j hp (clear% hp;fun sl₀ h0 hp=>?_)
 refine a2p hp (clear% hp;fun sl' h1 hp=>?_)
 refine (Prod.mk.inj hp).elim fun e1 e2=>?_
 exact⟨sl₀,e1 ▸ h0,e2 ▸ h1⟩
theorem Slot.freeze_no {sl₀ sl:Slot}(h:sl₀.freeze=some sl):sl.isOwn=false:=by
 cases sl₀ with
 | meth=>exact a0e h
 | _=>exact c9x h ▸ rfl
theorem a7m {x:Nat}:(freezeAll σ).isOwn x=false:=by
 cases e:(freezeAll σ).isOwn x with
 | false=>rfl
 | true=>
  refine (a2I e).elim fun sl Z1=>Z1.elim (fun h1 h2=>?_)
  refine (a7l h1).elim fun sl₀ Z1=>Z1.elim (fun _ h=>?_)
  exact (sl₀.freeze_no h).symm.trans h2 |>.symm
theorem St.freezeAll (S:St G Γ lvl sc σ oa s):St G Γ lvl sc (Mine.freezeAll σ) oa s:=by
 have own:∀ x {P:Prop},(Mine.freezeAll σ).isOwn x=true→P:=fun x P h=>absurd (a7m.symm.trans h) c9p
 have all:∀ b,a0m Γ (Mine.freezeAll σ) oa b→Γ.bad b:=fun b hb=>hb.elim id fun h=>h.elim fun x h=>own x h.1
 have all':∀ b,a0m Γ (Mine.freezeAll σ) oa b→a0m Γ σ oa b:=fun b hb=>.inl (all b hb)
 refine S.move Γ.st Γ.bad S.gst S.badT S.badL S.badC (fun x=>own x) (fun x y h=>own x h) (fun a ha=>S.alloc a (all' a ha)) (fun _ _ _ _ e=>e) fun x sl hx=>?_
 refine (a7l hx).elim fun sl₀ Z1=>Z1.elim (fun h0 hf=>?_)
 refine⟨sl₀,h0,fun v sv=>?_⟩
 cases sl₀ with
 | val d=>exact c9x hf ▸ Rep.weaken sv all'
 | own l=>
  obtain⟨e,vs,hp,r⟩:=sv
  exact c9x hf ▸ (e ▸ .list (fun q=>S.ownBad x (a0X h0) (all _ q)) hp.isList (r.weaken all'):Rep _ _ _ _ _ _)
 | ownD kv=>
  refine sv.elim (clear% sv;fun e hm=>?_)
  refine (hm.map).elim fun m Z1=>Z1.elim (fun h1 h2=>?_)
  exact c9x hf ▸ (e ▸ .dict (fun q=>S.ownBad x (a0X h0) (all _ q)) h1 h2:Rep _ _ _ _ _ _)
 | meth z=>exact a0e hf
theorem c6P {e:PE}{e':Expr}{p:Pos}(hE:EvJ G F lvl sc e e'):SJ G F lvl fuel sc (.ret e) (.Return (some e') p):=fun Γ W σ oa s out hW S h Q E hQ=>by
 refine (a0N h).elim fun hst h=>?_
 refine a2p h (clear% h;fun d hd h=>?_)
 have own:∀ x {P:Prop},(Mine.freezeAll σ).isOwn x=true→P:=fun x P h=>absurd (a7m.symm.trans h) c9p
 exact wpAny_Return_some (hE _ _ _ _ _ S.freezeAll hd _ _ fun v s₁ R=>hQ _ _ (h ▸ ⟨v,rfl,⟨_,oa,S.freezeAll.af R.af,fun b o hT _ e=>R.af.kp.heap b o hT e,R.af.kp.os,R.af.kp.toks,R.af.kp.gens,fun x=>own x,fun _ _=>rfl⟩,
  (R.deep hst).weaken fun b hb=>.inl hb⟩))
end
end
section
noncomputable def a2E (e:Expr):Bool:=isT e .comp||isT e .oth
section
variable {G:GC}{F:Fns}{lvl fuel:Nat}{Γ:Ctx}{W:Nat→Bool}{sc names:a0g}{σ σ₀ σ':Store}{oa oa':Nat→Addr}{s s' s₁ s₂:Shared}{E:Value→Shared→Prop}
theorem a4D {v:Expr}{t:Option Expr}{n:Nat}{env:Env}(h:a2E v=false):swapsWith v t n env=pure false:=by
 cases v <;> first | exact rfl | exact absurd h.symm c9p
theorem c6Q {x:Nat}{e:PE}{v':Expr}{p q:Pos}(hv:a5C e=none)(hc:a2E v'=false)(hst:a2S sc (G.nm x)=true)(hE:EvJ G F lvl sc e v'):SJ G F lvl fuel sc (.asg x false e) (.Assign [.Name (G.nm x) q] v' p):=fun Γ W σ oa s out hW S h Q E hQ=>by
 refine (a0N h).elim fun hm h=>?_
 rw [hv] at h
 refine (a0N (show grd (strict σ e) _=some out from h)).elim fun hs h=>?_
 refine a2p h (clear% h;fun d hd h=>?_)
 rw [← h] at hQ
 refine wpAny_Assign_Name (hE _ _ _ _ _ S hd _ _ fun v s₁ R=>?_) (a4D hc)
 exact (S.af R.af).store (W:=W) (a1H hst) hm (R.deep hs) fun s₂ S₂ k₂ t=>a1u hQ ((Goes.af S R.af).trans ⟨S₂,t⟩)
theorem c3U {x y:Nat}{p q r:Pos}(hst:a2S sc (G.nm x)=true)(hk:a9W (G.nm y)=true):SJ G F lvl fuel sc (.asg x false (.var y)) (.Assign [.Name (G.nm x) q] (.Name (G.nm y) r) p):=fun Γ W σ oa s out hW S h Q E hQ=>by
 refine a0a hk (clear% hk;fun k1 k2=>?_)
 refine (a0N h).elim fun hm h=>?_
 refine a0j (show (σ.get y).bind _=some out from h) fun sl hsl h=>?_

 have go:∀ (σ₁:Store) (d:D),Goes G Γ lvl sc W σ oa s σ₁ oa s→σ₁.get y=some (.val d)→noMeth σ₁ x=true→out=.next (σ₁.set x (.val d))→wpAny (model G.prog G.w) Γ.A (exec (.Assign [.Name (G.nm x) q] (.Name (G.nm y) r) p) Γ.env) Q E s:=fun σ₁ d T hg hm e=>by
  rw [e] at hQ
  refine wpAny_Assign_Name (d0o (T.st.read hg (fun v sv=>?_) (a1L k2)) (a1L k1)) rfl
  exact T.st.store (W:=W) (a1H hst) hm sv fun s₂ S₂ k₂ t=>a1u hQ (T.trans ⟨S₂,t⟩)
 rcases a0L h with h | h
 ·refine a0j h (clear% h;fun l hl h=>?_)
  refine a0J h (clear% h;fun hmy h=>?_)
  rw [a2h hl] at hsl
  refine (S.freeze (W:=W) hsl hmy).elim fun S₁ t₁=>?_
  exact go _ _ ⟨S₁,t₁⟩ (by rw [Store.get_set,c9r rfl]) (a2N rfl hm) h.symm
 ·refine a2p h (clear% h;fun d hd h=>?_)
  exact go _ _ (.refl S) (hsl.trans (c9o some (a4r hd))) hm h.symm
theorem a9i {x:Nat}{a:Addr}{sl:Slot}(S:St G Γ lvl sc σ oa s)(af:Af G s s₁)(ha:s.heap.get? a=none)(hal:∃ o,s₁.heap.get? a=some o)(hst:a2S sc (G.nm x)=true)(hm:noMeth σ x=true)(hW:W x=true)
  (N:NewV G Γ σ oa s₁.heap s₁.toks a sl) {Q:Unit→Shared→Prop} (hQ:∀ s',Goes G Γ lvl sc W σ oa s (σ.set x sl) (b6x oa x a) s'→Q () s') :
  wpAny (model G.prog G.w) Γ.A (storeName Γ.env (G.nm x) (.ref a)) Q E s₁:=
 (S.plusKp ha af.kp af.gst hal).storeNew S.badT S.badL S.badC (fun q=>(S.alloc _ (.inl q)).elim fun o e=>a0f ha e rfl) (a4Z S ha) (a1H hst) hm N fun s' S' k'=>hQ s' ⟨S',.ofNew af.kp k' ha hW⟩
theorem c3V {x:Nat}{pes:PEs}{es:List Expr}{p q r:Pos}(hst:a2S sc (G.nm x)=true)(hA:a5a G F lvl sc pes es):SJ G F lvl fuel sc (.asg x true (.list pes)) (.Assign [.Name (G.nm x) q] (.List es r) p):=fun Γ W σ oa s out hW S h Q E hQ=>by
 refine (a0N h).elim fun hm h=>?_
 refine a2p (show ((evE F σ (.list pes)).bind D.ownOf).map _=some out from h) fun sl h e=>?_
 refine a0j h (clear% h;fun d h hsl=>?_)
 refine a0j (show (a2V F σ pes).bind _ = _ from h) fun ds hds h=>?_
 refine a0J h (clear% h;fun hok h=>?_)
 rw [← h] at hsl
 rw [← e,← (c9x hsl:Slot.own ds=sl)] at hQ
 refine wpAny_Assign_Name (wpAny_List (hA _ _ _ _ _ S hds r _ _ fun vs s₁ a₁ rr=>⟨rr.length.symm ▸ a0z hok,?_⟩)) rfl
 have hn:s.heap.get? s₁.heap.objs.size=none:=a7b a₁.kp ((S.af a₁).gst.tab |> fun t q=>(G.tabGet _ t _ q).elim fun ps e=>a0f (fresh (c9n _)) e rfl) (fresh (c9n _))
 exact a9i (sl:=.own ds) S (a₁.kf (Kf.push (c9n _))) hn ⟨_,c9H _ rfl⟩ hst hm (hW x (d0F.mpr (.inl (c9y x)))) ⟨vs,⟨0,c9H _ rfl⟩,
  rr.plus (P:=(·=s₁.heap.objs.size)) (fun _ q=>q ▸ fresh (c9n _)) (c9n _) fun _ _ e=>c9w _ e⟩ fun s' T=>a1u hQ T
noncomputable def b4D (own:Bool)(r:List D):Slot:=match own with
 | true=>.own r
 | false=>.val (.list r)
noncomputable def oaL (own:Bool)(oa:Nat→Addr)(x:Nat)(a:Addr):Nat→Addr:=match own with
 | true=>b6x oa x a
 | false=>oa
theorem a7n {own:Bool}{x:Nat}{a:Addr}{r:List D}{vs:List Value}(S:St G (Γ.plus a) lvl sc σ oa s)(hT:∀ t∈G.T,Γ.bad t)(hL:Γ.bad Γ.env.locals)(hC:∀ x c,Γ.env.cells.lookup x=some c→Γ.bad c)(nb:¬ a0m Γ σ oa a)(ga:G.g.get? a=none)
  (hp:s.heap.PlainList a vs.toArray) (rr:RepL (rc G Γ) (a0m (Γ.plus a) σ oa) s.heap s.toks vs r) (hst:a2S sc (G.nm x)=true) (hm:noMeth σ x=true)
  {Q:Unit→Shared→Prop} (hQ:∀ s',St G Γ lvl sc (σ.set x (b4D own r)) (oaL own oa x a) s'→Kt G Γ x s s'→Q () s'):wpAny (model G.prog G.w) Γ.A (storeName Γ.env (G.nm x) (.ref a)) Q E s:=by
 cases own with
 | true=>exact S.storeNew hT hL hC (fun q=>nb (.inl q)) ga (a1H hst) hm (sl:=.own r) ⟨vs,hp,rr⟩ hQ
 | false=>
  refine hp.elim (clear% hp;fun n hp=>?_)
  have S₀:St G Γ lvl sc σ oa s:=S.doneBut hT hL hC (fun q=>nb (.inl q)) ga hp nofun (fun _ _ _ e=>e) (c9n _)
  exact S₀.store (W:=fun _=>true) (a1H hst) hm (.list nb ⟨_,hp,rfl,n,rfl⟩ (rr.weaken fun b hb=>a0I.mpr (.inl hb))) fun s' S' k _=>hQ s' S' k
theorem a9j {own:Bool}{x:Nat}{a:Addr}{r:List D}(k₁:Kp G s₁ s)(k:Kt G Γ x s s')(ha:s₁.heap.get? a=none)(hW:W x=true):Step G Γ W σ oa s₁ (σ.set x (b4D own r)) (oaL own oa x a) s':=by
 cases own with
 | true=>exact .ofNew k₁ k ha hW
 | false=>exact k.stepNo rfl k₁
theorem b4E {own:Bool}{x:Nat}{Dd C:Addr}{r:List D}(S:St G Γ lvl sc σ oa s)(O:CompOut G Γ σ oa s s' Dd C r)(hst:a2S sc (G.nm x)=true)(hm:noMeth σ x=true)(hW:W x=true){Q:Flow→Shared→Prop}
  (hQ:∀ s₂,Goes G Γ lvl sc W σ oa s (σ.set x (b4D own r)) (oaL own oa x Dd) s₂→Q .next s₂) :
  compPost (model G.prog G.w) Γ.A E none (fun v s₁=>wpAny (model G.prog G.w) Γ.A (storeName Γ.env (G.nm x) v) (fun _=>Q .next) E s₁) (.ref Dd) C (.ok .next) s':=by
 refine (O.ns).elim fun m hn=>?_
 refine (O.list).elim fun vs Z1=>Z1.elim (fun hp rr=>?_)
 refine⟨m,hn,fun h' hsb=>?_⟩
 have k:∀ b o,b≠C→s'.heap.get? b=some o→h'.get? b=some o:=fun b o hb=>hsb.extBut b o hb
 have af:=(O.done S k).1
 have hp':h'.PlainList Dd vs.toArray:=hp.elim fun n e=>⟨n,k _ _ O.ne e⟩
 exact a7n (Q:=fun _=>Q .next) (S.plusKp O.newD af.kp af.gst (hp'.elim fun n e=>⟨_,e⟩)) S.badT S.badL S.badC (fun q=>(S.alloc _ q).elim fun o e=>a0f O.newD e rfl) (a4Z S O.newD) hp'
  ((rr.keep (c9n _) fun b o hb=>k b o fun q=>hb (.inr (.inr q))).weaken fun b hb=>(a0I.mp hb).imp id .inl) hst hm fun s₂ S₂ k₂=>hQ s₂ ⟨S₂,a9j af.kp k₂ O.newD hW⟩
theorem b2X {own:Bool}{x:Nat}{q:Pos}{Dd C:Addr}{r:List D}(S:St G Γ lvl sc σ oa s)(O:CompOut G Γ σ oa s s' Dd C r)(hst:a2S sc (G.nm x)=true)(hm:noMeth σ x=true)(hW:W x=true){Q:Flow→Shared→Prop}
  (hQ:∀ s₂,Goes G Γ lvl sc W σ oa s (σ.set x (b4D own r)) (oaL own oa x Dd) s₂→Q .next s₂) :
  compPost (model G.prog G.w) Γ.A E (some (assign (.Name (G.nm x) q) Γ.env)) (fun _ s'=>Q .next s') (.ref Dd) C (.ok .next) s':=by
 refine (O.ns).elim fun m hn=>?_
 refine (a4V hn).elim fun oC Z1=>Z1.elim (fun eC cC=>?_)
 refine (O.list).elim fun vs Z1=>Z1.elim (fun hp rr=>?_)
 have al:∀ {b},s.heap.get? b=none→¬ a0m Γ σ oa b:=fun hb q=>(S.alloc _ q).elim fun o e=>a0f hb e rfl
 have nC:¬ Γ.bad C:=fun q=>al O.newC (.inl q)
 have SD:St G ((Γ.plus C).plus Dd) lvl sc σ oa s':=S.barKp (s':=s') (fun b=>(Γ.bad b∨b=C)∨b=Dd) (fun _ h=>.inl (.inl h)) (fun b hb=>hb.elim (fun hb=>hb.elim .inl fun hb=>.inr (hb ▸ ⟨O.newC,_,eC⟩)) fun hb=>.inr (hb ▸ ⟨O.newD,hp.elim fun n e=>⟨_,e⟩⟩)) O.af.kp O.af.gst
 refine wpAny_assign_Name (a7n (Γ:=Γ.plus C) (own:=own) SD (fun t ht=>.inl (S.badT t ht)) (.inl S.badL) (fun y c e=>.inl (S.badC y c e)) (fun h=>(a0I.mp h).elim (al O.newD) O.ne) (a4Z S O.newD) hp
  (rr.weaken fun b hb=>(a0I.mp hb).elim (fun h=>(a0I.mp h).imp id .inr) fun h=>.inr (.inl h)) hst hm fun s₂ S₂ k₂=>?_)
 have k₂:Kt G Γ x s' s₂:=⟨k₂.heap,k₂.os,k₂.toks,k₂.gens⟩
 have kC:∀ o,s'.heap.get? C=some o→s₂.heap.get? C=some o:=fun o=>k₂.heap C o (fun p=>nC (p ▸ S.badL)) fun p=>nC (S.badC _ _ p)
 refine⟨m,hn.at' kC,fun h' hsb=>?_⟩
 have k:∀ b o,b≠C→s₂.heap.get? b=some o→h'.get? b=some o:=fun b o hb=>hsb.extBut b o hb
 exact hQ _ ⟨S₂.doneBut S.badT S.badL S.badC nC (a4Z S O.newC) (kC _ eC) cC.ok k (c9n _),(a9j O.af.kp k₂ O.newD hW).butP (P:=(·=C)) (fun _ p=>p ▸ O.newC) k (c9n _)⟩
theorem c3W {x:Nat}{own:Bool}{elt':PE}{t:Tgt}{iter:PE}{ifs:PEs}{gs:PGs}{fv:List Nat}{elt t' iter':Expr}{ifs':List Expr}{gs':List Comprehension}{scope:Scope}{pos p q:Pos}(hst:a2S sc (G.nm x)=true)
  (hs:a3o G.nm sc scope fv=true) (ht:a3n G.nm scope.names t t'=true) (hset:a4w iter'=true) (hasync:∀ g∈gs',g.is_async=0)
  (hI:a3q G F lvl sc iter iter') (hT:b6s G F lvl (a4e sc scope.names) ifs ifs') (hG:GsJ G F lvl (a4e sc scope.names) scope.names elt' elt gs gs') :
  SJ G F lvl fuel sc (.asg x own (.comp fv elt' t iter ifs gs)) (.Assign [.Name (G.nm x) q] (.ListComp elt (⟨t',iter',ifs',0⟩ :: gs') scope pos) p):=fun Γ W σ oa s out hW S h Q E hQ=>by
 refine (a0N h).elim fun hm h=>?_
 have K:=a3L hs
 have hWx:W x=true:=hW x (d0F.mpr (.inl (c9y x)))

 have key:∃ d,evE F σ (.comp fv elt' t iter ifs gs)=some d∧∀ r,d=.list r→out=.next (σ.set x (b4D own r)):=by
  cases own with
  | true=>
   refine a2p (show ((evE F σ (.comp fv elt' t iter ifs gs)).bind D.ownOf).map _=some out from h) fun sl h e=>?_
   refine a0j h (clear% h;fun d hd hsl=>?_)
   exact⟨d,hd,fun r q=>by rw [q] at hsl;exact (e.symm.trans (c9o (fun sl=>Out.next (σ.set x sl)) (c9x hsl).symm))⟩
  | false=>
   refine a2p (show (evE F σ (.comp fv elt' t iter ifs gs)).map _=some out from h) fun d hd e=>?_
   exact⟨d,hd,fun r q=>e.symm.trans (q ▸ rfl)⟩
 refine key.elim (clear% key;fun d Z1=>Z1.elim (fun hd hout=>?_))
 have hns:∀ x∈scope.names,x.2=.local→scope.names.lookup x.1=some .local:=fun x hx hl=>(K.cons x hx).trans (c9o some hl)
 obtain⟨sw,hsw⟩:∃ b,swapsWith (.ListComp elt (⟨t',iter',ifs',0⟩ :: gs') scope pos) (some (.Name (G.nm x) q)) p.line Γ.env=pure b:=⟨_,rfl⟩
 cases sw with
 | false=>
  refine wpAny_Assign_Name ?_ hsw
  rw [eval_ListComp]
  obtain⟨hc,hw⟩:=a6d (E:=E) (elt:=elt) (pos:=pos) hs ht hasync hI hT hG S hd (RR:=fun acc C=>compPost (model G.prog G.w) Γ.A E none (fun v s₁=>wpAny (model G.prog G.w) Γ.A (storeName Γ.env (G.nm x) v) (fun _=>Q .next) E s₁) acc C)
   fun r Dd C s' e O=>b4E S O hst hm hWx fun s₂ T=>hQ _ _ (hout r e ▸ ⟨rfl,_,T⟩)
  exact wpAny_comprehension_free (use:=none) rfl (fun x=>a2P hset) hc K.kind hns hw
 | true=>
  rw [exec_Assign_Name_used _ _ _ _ hsw]
  refine c9L (d0p (c9L ?_))
  obtain⟨hc,hw⟩:=a6d (E:=E) (elt:=elt) (pos:=pos) hs ht hasync hI hT hG S hd (RR:=fun acc C=>compPost (model G.prog G.w) Γ.A E (some (assign (.Name (G.nm x) q) Γ.env)) (fun _ s'=>Q .next s') acc C)
   fun r Dd C s' e O=>b2X S O hst hm hWx fun s₂ T=>hQ _ _ (hout r e ▸ ⟨rfl,_,T⟩)
  show wpAny _ Γ.A (do let _ ← comprehension (.ListComp elt (⟨t',iter',ifs',0⟩ :: gs') scope pos) scope Γ.env _ (newList []) false (eval iter' Γ.env) (some (assign (.Name (G.nm x) q) Γ.env))) _ _ s
  exact c9L (d0n (wpAny_comprehension_free (use:=some (assign (.Name (G.nm x) q) Γ.env)) (Q:=fun _ s'=>Q .next s') rfl (fun x=>a2P hset) hc K.kind hns hw) (fun _ s' hq=>c9M (c9M hq)) fun _ _ e=>e)
end
end
section
noncomputable def b4F (v:Expr):Bool:=!(isT v .tup)||!((vw v).es.all (constantsAlone 8))||(vw v).es.all (foldedForSure 8)
section
variable {G:GC}{F:Fns}{lvl fuel:Nat}{Γ:Ctx}{W:Nat→Bool}{sc names:a0g}{σ σ₀ σ':Store}{oa oa':Nat→Addr}{s s' s₁:Shared}{v:Value}{d:D}{E:Value→Shared→Prop}
theorem a9k {nm:Nat→Str}{f:Expr→Option Str}(hf:∀ y p z,f (.Name y p)=some z→y=z){xs:List Nat}{ts:List Expr}(h:Tgts nm sc xs ts):(ts.filterMap f).length≤ts.length∧((ts.filterMap f).length=ts.length→ts.filterMap f=xs.map nm):=by
 induction h with
 | nil=>exact⟨c9n _,fun _=>rfl⟩
 | @cons x xs es p h r ih=>
  cases e:f (.Name (nm x) p) with
  | none=>
   rw [List.filterMap_cons_none e]
   exact⟨Nat.le_succ_of_le ih.1,fun q=>absurd ih.1 (Nat.not_le_of_lt (Nat.lt_of_succ_le (d0c q.symm)))⟩
  | some y=>
   rw [d0T e,← hf _ _ _ e]
   exact⟨Nat.succ_le_succ ih.1,fun q=>c9o (nm x :: ·) (ih.2 (Nat.succ.inj q))⟩
noncomputable def a9l (names:List Str)(m:Sem (Option (List Str))):Prop:=∃ r,m=pure r∧(r=none∨r=some names)
theorem a3w {names:List Str}:a9l names (pure none):=⟨_,rfl,.inl rfl⟩
theorem a6p {names:List Str}{c:Prop}[Decidable c]{a b:Sem (Option (List Str))}(h1:c→a9l names a)(h2:¬ c→a9l names b):a9l names (if c then a else b):=by
 by_cases h:c
 ·rw [c9r h];exact h1 h
 ·rw [c9t h];exact h2 h
theorem b7H {α:Type}{c:Bool}{a b:α}(h:(if c=true then some a else none)=some b):a=b:=by
 cases c with
 | true=>exact c9x h
 | false=>exact a0e h
theorem a8g {xs:List Nat}{ts:List Expr}{v':Expr}{k:Nat}{q:Pos}{env:Env}(ht:Tgts G.nm sc xs ts)(hok:b4F v'=true):a9l (xs.map G.nm) (swappedStores [.Tuple ts k q] v' env):=by
 cases hv:isT v' .tup with
 | false=>cases v' <;> first | exact a3w | exact absurd hv.symm c9p
 | true=>
  have e:v'=.Tuple (vw v').es (vw v').n (vw v').pos:=a0w hv
  have hok:(!(isT v' .tup)||!((vw v').es.all (constantsAlone 8))||(vw v').es.all (foldedForSure 8))=true:=hok
  rw [hv] at hok
  rw [e]
  generalize (vw v').es=vs at hok
  refine a6p (fun _=>a3w) fun _=>a6p (fun _=>a3w) fun _=>a6p (fun _=>a3w) fun h3=>a6p (fun _=>a3w) fun h4=>a6p (fun h5=>?_) fun _=>?_
  ·rcases or2 hok with h | h
   ·exact absurd (a1L h) (fun p=>c9p (p.symm.trans h5))
   ·exact absurd h h4
  ·refine⟨_,rfl,.inr (c9o some ((a9k (fun y p z h=>b7H h) ht).2 ?_))⟩
   exact c9E (p:=_ = _) (Bool.not_eq_false _ ▸ fun h=>h3 (d0F.mpr (.inl (bne_iff_ne.mpr (of_decide_eq_false h)))))
noncomputable def a2F (l:List (Nat×D))(σ:Store):Store:=l.foldl (fun σ p=>σ.set p.1 (.val p.2)) σ
theorem b4G {l:List (Nat×D)}{y:Nat}:(l.foldr (fun p σ=>σ.set p.1 (.val p.2)) σ).get y=((l.lookup y).map Slot.val).or (σ.get y):=by
 induction l with
 | nil=>rfl
 | cons p r ih=>
  show (Store.set (List.foldr _ σ r) p.1 (.val p.2)).get y=((List.lookup y ((p.1,p.2) :: r)).map _).or _
  rw [Store.get_set,c9q]
  by_cases q:y=p.1
  ·rw [c9r q,c9s.mpr q];rfl
  ·rw [c9t q,c9u.mpr q];exact ih
theorem b4H {l:List (Nat×D)}{y:Nat}(hn:(l.map (·.1)).Nodup):(a2F l σ).get y=((l.lookup y).map Slot.val).or (σ.get y):=by
 induction l generalizing σ with
 | nil=>rfl
 | cons p r ih=>
  refine (List.nodup_cons.mp hn).elim fun h1 h2=>?_
  show (a2F r (σ.set p.1 (.val p.2))).get y=((List.lookup y ((p.1,p.2) :: r)).map _).or _
  rw [ih h2,c9q,Store.get_set]
  by_cases q:y=p.1
  ·rw [c9r q,c9s.mpr q]
   cases e:r.lookup y with
   | none=>rfl
   | some c=>exact absurd (show p.1∈_ from q ▸ (List.mem_map_of_mem (f:=(·.1)) (a7k e):y∈_)) h1
  ·rw [c9t q,c9u.mpr q]
theorem RepL.reverse {C:RC}{B:Addr→Prop}{h:Heap}{n:Nat}{vs:List Value}{ds:List D}(r:RepL C B h n vs ds):RepL C B h n vs.reverse ds.reverse:=by
 induction ds generalizing vs with
 | nil=>rw [show vs=[] from d0U.mp r.length];exact .nil
 | cons d ds ih=>
  obtain⟨v',vs',rfl,a,r⟩:=r.view
  rw [List.reverse_cons,List.reverse_cons]
  exact (ih r).snoc a
theorem b4I {xs:List Nat}{vs:List Value}{ds:List D}(hst:∀ x∈xs,a2S sc (G.nm x)=true)(S:St G Γ lvl sc σ oa s)(hl:xs.length=ds.length)(hmeth:∀ x∈xs,noMeth σ x=true)
  (r:RL G Γ σ oa s vs ds) {Q:Unit→Shared→Prop} (h:∀ s',Goes G Γ lvl sc W σ oa s (a2F (xs.zip ds) σ) oa s'→Q () s') :
  wpAny (model G.prog G.w) Γ.A (assignInOrder ((xs.map G.nm).map fun n=>bindName Γ.env n) vs) Q E s:=by
 induction xs generalizing σ s vs ds with
 | nil=>
  cases ds with
  | cons _ _=>cases hl
  | nil=>exact c9M (h s (.refl S))
 | cons x xs ih=>
  cases ds with
  | nil=>cases hl
  | cons d ds=>
   obtain⟨v',vs',rfl,a,r⟩:=r.view
   have h1:=hmeth x d0r
   show wpAny _ _ (_ >>= fun _=>assignInOrder ((xs.map G.nm).map fun n=>bindName Γ.env n) vs') _ _ _
   refine c9L (c9J (wpAny_bindName (S.store (W:=W) (a1H (hst x d0r)) h1 a fun s₁ S₁ k₁ t₁=>?_)))
   have r₁:RL G Γ (σ.set x (.val d)) oa s₁ vs' ds:=r.chg ⟨k₁.toks,fun b o hb=>k₁.heap b o (fun q=>hb (.inl (q ▸ S.badL))) (fun q=>hb (.inl (S.badC _ _ q))),fun b _ hb _ q=>hb ((a2T (sl:=.val d) S rfl h1).all b q)⟩
   exact ih (fun y hy=>hst y (d0u _ hy)) S₁ (Nat.succ.inj hl) (fun y hy=>a2N rfl (hmeth y (d0u _ hy))) r₁ fun s' T=>h s' (Goes.trans ⟨S₁,t₁⟩ T)
theorem c0O {nm:Nat→Str}{xs:List Nat}{ts:List Expr}(h:Tgts nm sc xs ts):∀ x∈xs,a2S sc (nm x)=true:=by
 induction h with
 | nil=>exact fun x hx=>nomatch hx
 | cons p h r ih=>exact fun y hy=>(c9U.mp hy).elim (fun e=>e ▸ h) (ih y)
theorem c3X {xs:List Nat}{e:PE}{ts:List Expr}{v':Expr}{k:Nat}{p q:Pos}(ht:a4x G.nm sc xs ts=true)(hnd:xs.Nodup)(hok:b4F v'=true)(hc:a2E v'=false)(hE:EvJ G F lvl sc e v'):SJ G F lvl fuel sc (.asgT xs e) (.Assign [.Tuple ts k q] v' p):=fun Γ W σ oa s out hW S h Q E hQ=>by
 refine a0j (show (evE F σ e).bind _=some out from h) fun d hd h=>?_
 refine a2p h (clear% h;fun σ₁ hb h=>?_)
 rw [← h] at hQ
 refine a0j (show d.asTup.bind _=some σ₁ from hb) fun ds hds hb'=>?_
 refine a0J hb' (clear% hb';fun hc1 hb'=>?_)
 refine a0a hc1 (clear% hc1;fun hl hm=>?_)
 have hl:=c9E hl
 have T:=a8Q ht
 refine (a8g (G:=G) (env:=Γ.env) (k:=k) (q:=q) T hok).elim fun rr Z1=>Z1.elim (fun hr hcase=>?_)
 have hs:swapsWithSole [.Tuple ts k q] v' p.line Γ.env=pure false:=(a4D hc:swapsWith v' (some (.Tuple ts k q)) p.line Γ.env=pure false)
 rcases hcase with e | e
 ·rw [e] at hr
  refine PyProof.Rows.Assign_Tuple (hE _ _ _ _ _ S hd _ _ fun v s₁ R=>?_) hs hr
  exact a5X (W:=W) (S.af R.af) (t:=.many xs) (e:=.Tuple ts k q) (show a3n G.nm sc (.many xs) (.Tuple ts k q)=true from ht) (R.rep.rep (a2K hds ▸ rfl)) hb fun s₂ S₂ _ t=>a1u hQ ((Goes.af S R.af).trans ⟨S₂,t⟩)
 ·rw [e] at hr
  refine PyProof.Rows.Assign_Tuple_swapped (hE _ _ _ _ _ S hd _ _ fun v s₁ R=>?_) hs hr
  have r:=R.rep
  rw [a2K hds] at r
  obtain⟨a,vs,ev,_,hi,rl⟩:=r.asTup
  rw [ev,show (xs.map G.nm).length=vs.toArray.size from (d0a G.nm).trans (hl.trans rl.length.symm)]
  refine PyProof.Rows.unpackItems_tuple S.aok.1 hi fun h' he=>?_
  have kf:Kf s₁ { s₁ with heap:=h' }:=⟨fun b o e=>he b o (d0g (c9G e)) e,rfl,c9n _,rfl⟩
  have af:=R.af.kf kf
  rw [← List.map_reverse]
  refine b4I (W:=W) (fun x hx=>c0O T x (List.mem_reverse.mp hx)) (S.af af) (by rw [List.length_reverse,List.length_reverse];exact hl) (fun x hx=>c9Q.mp hm x (List.mem_reverse.mp hx)) (rl.keep (c9n _) fun b o _ e=>kf.heap b o e).reverse fun s₃ T₃=>?_
  have eg:∀ y,Store.get σ₁ y=(a2F (xs.reverse.zip ds.reverse) σ).get y:=fun y=>by
   rw [List.zip_eq_zipWith,← List.reverse_zipWith hl,← List.zip_eq_zipWith]
   unfold a2F
   rw [List.foldl_reverse,b4G,← hb']
   exact b4H ((c9o List.Nodup (List.map_fst_zip (d0c hl))).mpr hnd)
  have eo:∀ y,Store.isOwn σ₁ y=(a2F (xs.reverse.zip ds.reverse) σ).isOwn y:=fun y=>c9o (fun o=>(Option.map Slot.isOwn o).getD false) (eg y)
  have t:=(Step.ofKp (W:=W) af.kp).trans (S.af af) T₃.step
  exact a1u hQ ⟨T₃.st.forget (fun y sl hy=>(eg y).symm.trans hy) fun y hy=>(eo y).trans hy,t.heap,t.os,t.toks,t.gens,fun y hy=>t.own y ((eo y).symm.trans hy),t.addr⟩
end
end
section
section
variable {G:GC}{F:Fns}{lvl fuel:Nat}{Γ:Ctx}{W:Nat→Bool}{sc names:a0g}{σ σ₀ σ':Store}{oa oa₀ oa':Nat→Addr}{s s₀ s' s₁:Shared}{v:Value}{d:D}{E:Value→Shared→Prop}
theorem a3h {A:Around}{R:Result→Shared→Prop}{target:Expr}{it:Value}{body orelse:List Stmt}{env:Env}{E:Value→Shared→Prop}(hE:E=notedBy (model G.prog G.w) A env fun e s'=>R (.error e) s')
  (turn:wpAny (model G.prog G.w) A (pyNext it) (fun r s₁=>match r with
   | none=>wpAny (model G.prog G.w) A (execs orelse env) (fun f s₃=>R (.ok f) s₃) E s₁
   | some v=>wpAny (model G.prog G.w) A (letOwnedTupleGo target it v) (fun _ s₁'=>
     wpAny (model G.prog G.w) A (assign target env v) (fun _ s₂=>wpAny (model G.prog G.w) A (execs body env) (fun f s₃=>match f with
      | .next | .cont=>codeAny (model G.prog G.w) A (.forLoop target it body orelse env) R s₃
      | .brk=>R (.ok .next) s₃
      | .ret v=>R (.ok (.ret v)) s₃) E s₂) E s₁') E s₁) E s) :
  codeAny (model G.prog G.w) A (.forLoop target it body orelse env) R s:=by
 refine codeAny_of_tree ?_
 show wpAny _ A ((forTurn target it body orelse env).onRaise (fun x=>do noteFrame x env;theTreesLotGoes x)) _ _ s
 refine wpAny_noted ?_
 unfold forTurn
 rw [← hE]
 refine c9L (d0p (c9L (wpAny_onRaise (d0n turn (fun r s₁ h₁=>?_) fun _ _ h'=>d0p h'))))
 cases r with
 | none=>exact c9M ⟨rfl,codeAny_block (hE ▸ h₁)⟩
 | some v=>
  refine c9L (d0n h₁ (fun _ s₁' h₁'=>c9L (d0n h₁' (fun _ s₂ h₂=>c9L (d0n h₂ (fun f s₃ h₃=>?_) fun _ _ h'=>h')) fun _ _ h'=>h')) fun _ _ h'=>h')
  cases f with
  | next=>exact c9M ⟨rfl,h₃⟩
  | cont=>exact c9M ⟨rfl,h₃⟩
  | brk=>exact c9M h₃
  | ret v=>exact c9M h₃
theorem a8h (S:St G Γ lvl sc σ oa s){b:Addr}(h:Mut Γ σ oa b):a0m Γ σ oa b:=h.elim (fun h=>.inl (h ▸ S.badL)) fun h=>h.elim (fun h=>h.elim fun x h=>.inl (S.badC x b h)) fun h=>h.elim fun x h=>.inr ⟨x,h⟩
theorem Step.badOf (t:Step G Γ W σ oa s σ' oa' s'){b:Addr}{o:Obj}(hb:¬ a0m Γ σ oa b)(e:s.heap.get? b=some o):¬ a0m Γ σ' oa' b:=fun q=>q.elim (fun q=>hb (.inl q)) fun q=>q.elim fun x q=>(t.own x q.1).elim (fun h=>h.elim fun y h=>hb (.inr ⟨y,h.1,q.2.trans h.2⟩)) fun h=>a0f h e q.2
theorem Step.mutOf (t:Step G Γ W σ oa s σ' oa' s'){b:Addr}{o:Obj}(hb:¬ Mut Γ σ oa b)(e:s.heap.get? b=some o):¬ Mut Γ σ' oa' b:=fun q=>q.elim (fun q=>hb (.inl q)) fun q=>q.elim (fun q=>hb (.inr (.inl q))) fun q=>q.elim fun x q=>(t.own x q.1).elim (fun h=>h.elim fun y h=>hb (.inr (.inr ⟨y,h.1,q.2.trans h.2⟩))) fun h=>a0f h e q.2
theorem Step.chg {n:Nat}(S:St G Γ lvl sc σ oa s)(t:Step G Γ W σ oa s σ' oa' s'){n':Nat}(hn:n≤n'):Chg (a0m Γ σ oa) (a0m Γ σ' oa') s.heap s'.heap n n':=
 ⟨hn,fun b o hb=>t.heap b o (fun q=>hb (.inl (S.badT b q))) (fun q=>hb (a8h S q)),fun b o hb e=>t.badOf hb e⟩
theorem Rep.step (r:RD G Γ σ oa s v d)(S:St G Γ lvl sc σ oa s)(t:Step G Γ W σ oa s σ' oa' s'):RD G Γ σ' oa' s' v d:=Rep.chg (t.chg S t.toks) r
theorem Rep.stepN {n:Nat}(r:Rep (rc G Γ) (a0m Γ σ oa) s.heap n v d)(S:St G Γ lvl sc σ oa s)(t:Step G Γ W σ oa s σ' oa' s'):Rep (rc G Γ) (a0m Γ σ' oa') s'.heap n v d:=Rep.chg (t.chg S (c9n _)) r
theorem b2Y {t:PE}{t':Expr}{body:List Stmt}{pb:List PS}(hT:TsJ G F lvl sc t t')(hB:SsJ G F lvl fuel sc pb body)(hW:∀ x,a4s pb x=true→W x=true){R:Result→Shared→Prop}{out:Out}
  (hR:∀ f s',c0K G Γ lvl sc W σ₀ oa₀ s₀ out f s'→R (.ok f) s') (n:Nat) (T:Goes G Γ lvl sc W σ₀ oa₀ s₀ σ oa s) (h:a2B (evT F · t) (a0y F fuel · pb) n σ=some out) :
  codeAny (model G.prog G.w) Γ.A (.whileLoop t' body [] Γ.env) R s:=by
 induction n generalizing σ oa s with
 | zero=>exact a0e h
 | succ n ih=>
  refine a0j (show (evT F σ t).bind _=some out from h) fun b hq h=>?_
  refine codeAny_of_tree ?_
  show wpAny _ Γ.A ((whileTurn t' body [] Γ.env).onRaise (fun x=>do noteFrame x Γ.env;theTreesLotGoes x)) _ _ s
  refine wpAny_noted ?_
  unfold whileTurn
  refine c9L (hT _ _ _ _ _ T.st hq _ _ fun s₁ a=>?_)
  have T₁:=T.trans (.af T.st a)
  cases b with
  | false=>exact c9L (wpAny_execs_nil (c9M (hR _ _ (c9x h ▸ ⟨rfl,oa,T₁⟩))))
  | true=>
   refine a0j h (clear% h;fun o hb h=>?_)
   refine c9L (hB _ _ _ _ _ _ hW T₁.st hb _ _ fun f s₃ O=>?_)
   have O:=T₁.behind O
   cases o with
   | next σ₃=>
    refine O.elim (clear% O;fun e Z1=>Z1.elim (fun oa₃ T₃=>?_))
    rw [e]
    exact c9M ⟨rfl,ih T₃ h⟩
   | cont σ₃=>
    refine O.elim (clear% O;fun e Z1=>Z1.elim (fun oa₃ T₃=>?_))
    rw [e]
    exact c9M ⟨rfl,ih T₃ h⟩
   | brk σ₃=>
    refine O.elim (clear% O;fun e T₃=>?_)
    rw [e]
    exact c9M (hR _ _ (c9x h ▸ ⟨rfl,T₃⟩))
   | ret d=>
    have q:=hR _ _ (c9x h ▸ O)
    refine O.elim (clear% O;fun v Z1=>Z1.elim (fun e _=>?_))
    rw [e] at q ⊢
    exact c9M q
theorem c0P {t:PE}{t':Expr}{body:List Stmt}{pb:List PS}{p:Pos}(hT:TsJ G F lvl sc t t')(hB:SsJ G F lvl fuel sc pb body):SJ G F lvl fuel sc (.while t pb) (.While t' body [] p):=fun Γ W σ oa s out hW S h Q E hQ=>
 wpAny_While (b2Y (W:=W) hT hB hW (fun f s' O=>hQ f s' O) fuel (.refl S) h)
end
end
section
section
variable {G:GC}{F:Fns}{lvl fuel:Nat}{Γ:Ctx}{W:Nat→Bool}{sc names:a0g}{σ σ₀ σ':Store}{oa oa₀ oa':Nat→Addr}{s s₀ s' s₁:Shared}{va vb v:Value}{a b d:D}{E:Value→Shared→Prop}
theorem a9m {op:Operator}{f:Int→Int→Option Int}(ha:RT G Γ σ oa s va a)(hb:RT G Γ σ oa s vb b)(h:a9V a b f=some d)
  (hf:∀ x y z t u,f x y=some z→Does G Γ σ oa (inplaceOp op (.int x t) (.int y u)) s (.int z)):Does G Γ σ oa (inplaceOp op va vb) s d:=by
 refine a0j h (clear% h;fun x hx h1=>?_)
 refine a0j h1 (clear% h1;fun y hy h2=>?_)
 refine a2p h2 (clear% h2;fun z hz h=>?_)
 exact h ▸ RepT.ii (fun v w=>Does G Γ σ oa (inplaceOp op v w) s (.int z)) ha hb hx hy fun t u=>hf x y z t u hz
theorem a5d {op:Operator}(ha:RT G Γ σ oa s va a)(hb:RT G Γ σ oa s vb b)(h:c2w op a b=some d):Does G Γ σ oa (inplaceOp op va vb) s d:=by
 cases op with
 | Add=>
  rcases a0L (show (a9V a b fun x y=>some (x+y)).or (c5H a b fun x y=>grd (a0M (x.length+y.length)) (some (.str (x++y))))=some d from h) with h | h
  ·exact a9m ha hb h fun x y z t u h=>(c9x h:x+y=z) ▸ .int fun Q E hQ=>P.iadd_int fun ht=>hQ _ _ ht
  ·refine a0j h (clear% h;fun x hx h=>?_)
   refine a0j h (clear% h;fun y hy h=>?_)
   refine a0J h (clear% h;fun hc h=>?_)
   exact h ▸ RepT.ss (fun v w=>Does G Γ σ oa (inplaceOp .Add v w) s _) ha hb hx hy fun t u=>.str fun Q E hQ=>SB.iadd (fun t' k ht=>hQ _ _ ht) (a0z hc)
 | Mult=>exact a9m ha hb h fun x y z t u h=>(c5G h).2 ▸ .int fun Q E hQ=>P.imul_int (fun ht=>hQ _ _ ht) (b1f (c5G h).1)
 | _=>exact a0e (show none=some d from h)
theorem c6R {x:Nat}{op:Operator}{e:PE}{e':Expr}{p q:Pos}(hst:a2S sc (G.nm x)=true)(hk:a9W (G.nm x)=true)(hE:EvJ G F lvl sc e e'):SJ G F lvl fuel sc (.aug x op e) (.AugAssign (.Name (G.nm x) q) op e' p):=fun Γ W σ oa s out hW S h Q E hQ=>by
 refine a0j (show (σ.get x).bind _=some out from h) fun sl hx h=>?_
 refine a0j h (clear% h;fun a ha h=>?_)
 refine a0j h (clear% h;fun b hb h=>?_)
 refine (a0N h).elim fun hm h=>?_
 refine a2p h (clear% h;fun d hd h=>?_)
 rw [← h] at hQ
 refine wpAny_AugAssign_Name (S.read (hx.trans (c9o some (a4r ha))) (fun va sv=>?_) (a1L (a0h hk).2))
 refine hE _ _ _ _ _ S hb _ _ fun vb s₁ R=>?_
 have S₁:=S.af R.af
 exact a5d (RepT.kp S (.deep sv) R.af.kp) R.rep hd _ _ fun v s₂ kf r=>(S₁.kf kf).store (W:=W) (a1H hst) hm r fun s₃ S₃ _ t=>a1u hQ ((Goes.af S (R.af.kf kf)).trans ⟨S₃,t⟩)
theorem b1v {x:Nat}{sl:Slot}(S:St G Γ lvl sc σ oa s)(hx:σ.get x=some sl):∃ v,SlotV G Γ σ oa s.heap s.toks x v sl:=S.slots.elim fun m h=>(h.2 x sl hx).elim fun v q=>⟨v,q.2⟩
theorem a4E (S:St G Γ lvl sc σ oa s){x:Nat}{l:List D}(hx:σ.get x=some (.own l)):∃ vs:List Value,s.heap.PlainList (oa x) vs.toArray∧RL G Γ σ oa s vs l:=(b1v S hx).elim fun v h=>h.2
theorem a8i (S:St G Γ lvl sc σ oa s){x:Nat}{kv:List (Str×Int)}(hx:σ.get x=some (.ownD kv)):OwnDict G s.heap (oa x) kv:=(b1v S hx).elim fun v h=>h.2
theorem a8j (S:St G Γ lvl sc σ oa s){x:Nat}{l l':List D}(hx:σ.get x=some (.own l)){vs:List Value}{h':Heap}(hp:h'.PlainList (oa x) vs.toArray)(hs:Heap.SameBut (oa x) s.heap h')(r:RL G Γ σ oa s vs l') :
  Goes G Γ lvl sc W σ oa s (σ.set x (.own l')) oa { s with heap:=h' }:=by
 have k:∀ b o,b≠oa x→s.heap.get? b=some o→h'.get? b=some o:=fun b o hb e=>hs.extBut b o hb e
 have T:=S.ownT (W:=W) (tk:=s.toks) (sl:=.own l') hx rfl rfl k (hp.elim fun n e=>⟨_,e⟩) (c9n _) ⟨rfl,vs,hp,r.keep (c9n _) fun b o hb e=>k b o (fun q=>hb (.inr ⟨x,a0X hx,q⟩)) e⟩
 exact⟨T.1,T.2⟩
theorem b4J (S:St G Γ lvl sc σ oa s){x:Nat}{l:List D}(hx:σ.get x=some (.own l)){vs:List Value}{h':Heap}(rl:RL G Γ σ oa s vs l)(rv:RD G Γ σ oa s v d)(hp:h'.PlainList (oa x) (vs.toArray.push v))(hs:Heap.SameBut (oa x) s.heap h') :
  Goes G Γ lvl sc W σ oa s (σ.set x (.own (l++[d]))) oa { s with heap:=h' }:=
 a8j (vs:=vs++[v]) S hx (List.push_toArray vs v ▸ hp) hs (rl.snoc rv)
theorem b1w {vs:List Value}{l:List D}(rl:RL G Γ σ oa s vs l)(hok:a0M l.length=true):vs.toArray.size≤sizeLine:=c9v (d0c (show vs.toArray.size=l.length from rl.length)) (a0z hok)
theorem c6S {x:Nat}{e:PE}{e':Expr}{p q r u:Pos}(hk:a9W (G.nm x)=true)(hline:(q.endLine==r.line)=true)(hs:a0B e'=true)(hE:EvJ G F lvl sc e e'):SJ G F lvl fuel sc (.app x e) (.Expr (.Call (.Attribute (.Name (G.nm x) u) (Str.ofString "append") q) [e'] [] r) p):=fun Γ W σ oa s out hW S h Q E hQ=>by
 refine a0j (show (σ.get x).bind _=some out from h) fun sl hx h=>?_
 refine a0j h (clear% h;fun l hl h=>?_)
 refine a0j h (clear% h;fun d hd h=>?_)
 refine a0J h (clear% h;fun hc h=>?_)
 rw [← h] at hQ
 have hx:=hx.trans (c9o some (a2h hl))
 have htr:backTo r (starEach [e'] Γ.env)=[(false,eval e' Γ.env)]:=by rw [a0k hs];rfl
 refine wpAny_Expr_any ?_ (by unfold interactive;rw [S.kind];rfl) rfl
 refine wpAny_Call_append (a3r rfl) (by rw [htr];rfl) hline htr (d0o (S.read hx (fun v sv=>?_) (a1L (a0h hk).2)) (a1L (a0h hk).1))
 obtain⟨rfl,vs,⟨n,hp⟩,rl⟩:=sv
 refine⟨oa x,vs.toArray,rfl,⟨_,n,hp,rfl,rfl,rfl⟩,hE _ _ _ _ _ S hd _ _ fun v s₁ R=>?_⟩
 have S₁:=S.af R.af
 refine (a4E S₁ hx).elim fun vs₁ Z1=>Z1.elim (fun hp₁ rl₁=>?_)
 exact wpAny_list_append_plain hp₁ (fun h' hl hsb=>a1u hQ ((Goes.af S R.af).trans (b4J S₁ hx rl₁ (R.deep (a0h hc).1) hl hsb))) (b1w rl₁ (a0h hc).2)
theorem a8k {A:Around}{l:Addr}{items:Array Value}{k:Int}{j:Nat}{t:Tok}{v:Value}{Q:Unit→Shared→Prop}(hl:s.heap.PlainList l items)(hk:k=(j:Int))(hfit:k<2 ^ 63)(hj:j<items.size)
  (hQ:∀ h',h'.PlainList l (items.setIfInBounds j v)→Heap.SameBut l s.heap h'→Q () { s with heap:=h' }):wpAny (model G.prog G.w) A (setItem (.ref l) (.int k t) v) Q E s:=by
 have hL:=hl.isList
 refine hl.elim (clear% hl;fun n ho=>?_)
 unfold setItem
 try with_reducible refine c9J ?_
 first | refine c9L (c9M ?_) | skip
 refine c9L (wpAny_sequenceKey hL.typeIs (by decide) (c9L (wpAny_callSpecial?_slot (name:=Str.ofString "__setitem__") hL.typeIs slot_list_setitem
  (wpAny_call_entry slot_list_setitem hL.typeIs entry_list_setitem ?_ (args_list_setitem _ _ _)))))
 show wpAny _ _ (Builtin.List.listSubscript? (.int k t) >>= _) _ _ s
 refine c9L (wpAny_listSubscript_int (fitsIndex_of (hk ▸ c9Z j) hfit) ?_)
 rw [hk]
 show wpAny _ _ ((seqItemAt l j >>= fun r=>pure (r.map (j,·))) >>= _) _ _ s
 refine c9L (c9L (wpAny_seqItemAt ho rfl (c9M ?_)))
 rw [d0q hj]
 show wpAny _ _ (setSeqItemAt l j v >>= _) _ _ s
 refine c9L (wpAny_setSeqItemAt ho rfl ?_)
 have hf:(s.heap.update l (Obj.mapSeq (·.setIfInBounds j v))).PlainList l (items.setIfInBounds j v):=⟨_,Heap.get?_update_self _ ho rfl⟩
 first
  | exact c9L (c9M (c9M ⟨.none,rfl,c9M (hQ _ hf (Heap.SameBut.update ..))⟩))
  | exact c9M ⟨.none,rfl,c9M (hQ _ hf (Heap.SameBut.update ..))⟩
theorem RepL.set {C:RC}{B:Addr→Prop}{h:Heap}{n:Nat}{vs:List Value}{ds:List D}(r:RepL C B h n vs ds)(rv:Rep C B h n v d)(i:Nat):RepL C B h n (vs.set i v) (ds.set i d):=by
 induction ds generalizing vs i with
 | nil=>rw [show vs=[] from d0U.mp r.length];exact .nil
 | cons d ds ih=>
  obtain⟨v',vs',rfl,a,r⟩:=r.view
  cases i with
  | zero=>exact .cons rv r
  | succ i=>exact .cons a (ih r i)
theorem KV.length {a:List (Str×Value)}{b:List (Str×Int)}(h:KV a b):a.length=b.length:=by
 induction h with
 | nil=>rfl
 | cons _ _ _ _ ih=>exact c9o (·+1) ih
theorem KV.stay {a:List (Str×Value)}{b:List (Str×Int)}(h:KV a b){k:Str}(v:Value)(hk:k ∉ a.map (·.1)):KV (a.map fun kv=>if kv.1=k then (kv.1,v) else kv) b:=by
 induction h with
 | nil=>exact .nil
 | cons z j u h ih=>
  refine (not_or.mp fun q=>hk (c9U.mpr q)).elim fun h1 h2=>?_
  rw [d0K,c9t (Ne.symm h1)]
  exact .cons _ _ _ (ih h2)
theorem b4K {k y:Str}{j i:Int}{r:List (Str×Int)}(h:¬ y=k):dictSetD ((y,j) :: r) k i=(y,j) :: dictSetD r k i:=c9t fun q=>h (c9s.mp q).symm
theorem KV.new {a:List (Str×Value)}{b:List (Str×Int)}(h:KV a b){k:Str}(i:Int)(t:Tok)(q:¬ a.any (fun kv=>decide (kv.1=k))=true):KV (a++[(k,.int i t)]) (dictSetD b k i):=by
 induction h with
 | nil=>exact .cons _ _ _ .nil
 | cons y j u h ih=>
  rw [b4K fun e=>q (d0F.mpr (.inl (d0G e)))]
  exact .cons _ _ _ (ih fun p=>q (d0F.mpr (.inr p)))
theorem KV.old {a:List (Str×Value)}{b:List (Str×Int)}(h:KV a b)(hn:(a.map (·.1)).Nodup){k:Str}(i:Int)(t:Tok)(q:a.any (fun kv=>decide (kv.1=k))=true):KV (a.map fun kv=>if kv.1=k then (kv.1,.int i t) else kv) (dictSetD b k i):=by
 induction h with
 | nil=>exact absurd q c9p
 | @cons y j u a b h ih=>
  refine (List.nodup_cons.mp hn).elim fun n1 n2=>?_
  by_cases e:y=k
  ·rw [d0K,c9r e,show dictSetD ((y,j) :: b) k i=(y,i) :: b from c9r (c9s.mpr e.symm)]
   exact .cons _ _ _ (h.stay _ (e ▸ n1))
  ·rw [d0K,c9t e,b4K e]
   exact .cons _ _ _ (ih n2 ((or2 q).resolve_left fun p=>e (c9E p)))
theorem KV.stored {a:List (Str×Value)}{b:List (Str×Int)}(h:KV a b)(hn:(a.map (·.1)).Nodup)(k:Str)(i:Int)(t:Tok):KV (PySem.stored a k (.int i t)) (dictSetD b k i):=by
 unfold PySem.stored
 by_cases q:a.any (fun kv=>decide (kv.1=k))=true
 ·rw [c9r q];exact h.old hn i t q
 ·rw [c9t q];exact h.new i t q
theorem c3Y {x:Nat}{i e:PE}{i' e':Expr}{p q u:Pos}(hk:a9W (G.nm x)=true)(hc:a2E e'=false)(hI:EvJ G F lvl sc i i')(hE:EvJ G F lvl sc e e'):SJ G F lvl fuel sc (.asgI x i e) (.Assign [.Subscript (.Name (G.nm x) u) i' q] e' p):=fun Γ W σ oa s out hW S h Q E hQ=>by
 refine a0j (show (σ.get x).bind _=some out from h) fun sl hx h=>?_
 refine a0j h (clear% h;fun ui hi h=>?_)
 refine a0j h (clear% h;fun d hd h=>?_)
 refine a0j h (clear% h;fun kv hkv h=>?_)
 refine a0j h (clear% h;fun k hks h=>?_)
 refine a0j h (clear% h;fun j hj h=>?_)
 refine a0J h (clear% h;fun hok h=>?_)
 rw [← h] at hQ
 have hx:=hx.trans (c9o some (a6Z hkv))
 refine wpAny_Assign_Subscript (hE _ _ _ _ _ S hd _ _ fun v s₁ R=>?_) (a4D hc)
 have S₁:=S.af R.af
 refine d0o (S₁.read hx (fun w sv=>?_) (a1L (a0h hk).2)) (a1L (a0h hk).1)
 rw [sv.1]
 refine hI _ _ _ _ _ S₁ hi _ _ fun vi s₂ R₂=>?_
 have S₂:=S₁.af R₂.af
 refine (a8i S₂ hx).elim fun kvs Z1=>Z1.elim (fun hdict hkv=>?_)
 have hnod:(kvs.map (·.1)).Nodup:=hdict.elim fun _ h=>h.elim fun _ h=>h.elim fun _ h=>h.2.2.2.2.2
 refine R.rep.intP (P:=fun v=>wpAny _ _ (setItem _ vi v) _ E s₂) hj fun t=>R₂.rep.strP (P:=fun vi=>wpAny _ _ (setItem _ vi _) _ E s₂) hks fun t'=>?_
 refine wpAny_setItem_pairs (k:=k) (c9y k) hdict (fun h' hd' hsb=>?_) (c9v (d0c hkv.length) (c9v (c9A _) (a0z hok)))
 have T:=S₂.ownT (W:=W) (sl:=.ownD (dictSetD kv k j)) hx rfl rfl (fun b o hb e=>hsb.extBut b o hb e) (hd'.elim fun o h=>h.elim fun _ h=>h.elim fun _ h=>⟨o,h.1⟩) (c9A _) ⟨rfl,_,hd',hkv.stored hnod k j t⟩
 exact a1u hQ ((Goes.af S (R.af.trans R₂.af)).trans ⟨T.1,T.2⟩)
noncomputable def a4F (e:Expr):Bool:=!(isT e .slc)
theorem a6q {i:Expr}(h:a4F i=true)(ov iv new:Value):augStore i ov iv new=(do holding [new,ov,iv] (setItem ov iv new);release [new,ov,iv] [];pure .next):=by
 cases i <;> first | exact rfl | exact absurd h c9p
theorem c3Z {x:Nat}{i:PE}{op:Operator}{e:PE}{i' e':Expr}{p q u:Pos}(hk:a9W (G.nm x)=true)(hns:a4F i'=true)(hI:EvJ G F lvl sc i i')(hE:EvJ G F lvl sc e e'):SJ G F lvl fuel sc (.augI x i op e) (.AugAssign (.Subscript (.Name (G.nm x) u) i' q) op e' p):=fun Γ W σ oa s out hW S h Q E hQ=>by
 refine a0j (show (σ.get x).bind _=some out from h) fun sl hx h=>?_
 refine a0j h (clear% h;fun ui hi h=>?_)
 refine a0j h (clear% h;fun b hb h=>?_)
 refine a0j h (clear% h;fun l hl h=>?_)
 refine a0j h (clear% h;fun k hks h=>?_)
 refine a0j h (clear% h;fun j hj h=>?_)
 refine a0j h (clear% h;fun a ha h=>?_)
 refine a2p h (clear% h;fun d hd h=>?_)
 rw [← h] at hQ
 have hx:=hx.trans (c9o some (a2h hl))
 refine (a0N hj).elim fun h0 hj=>?_
 have hI0:=a7M hj
 have hjk:k=(j:Int):=(hI0.pos (c9E h0) ▸ (Int.toNat_of_nonneg (c9E h0)).symm)
 have hfit:(j:Int)<2 ^ 63:=hjk ▸ hI0.hi'
 have hlt:j<l.length:=Int.ofNat_lt.mp (hjk ▸ hI0.hi)
 refine wpAny_AugAssign_SubscriptAny (d0o (S.read hx (fun w sv=>?_) (a1L (a0h hk).2)) (a1L (a0h hk).1)) (fun ov iv new=>a6q hns ov iv new)
 rw [sv.1]
 refine hI _ _ _ _ _ S hi _ _ fun vi s₁ R=>R.rep.intP (P:=fun vi=>wpAny _ _ (getItem _ vi) (fun old s₃=>wpAny _ _ _ (fun v s₄=>wpAny _ _ (inplaceOp op old v) (fun new s₅=>wpAny _ _ (setItem _ vi new) _ E s₅) E s₄) E s₃) E s₁) hks fun t=>?_
 rw [hjk]
 have S₁:=S.af R.af
 refine (a4E S₁ hx).elim fun vs Z1=>Z1.elim (fun hp rl=>?_)
 refine (rl.get j a ha).elim fun vo Z1=>Z1.elim (fun hvo ro=>?_)
 refine wpAny_getItem_list hp.isList (c9Z j) hfit (x:=vo) (c9W.trans hvo) ?_
 refine hE _ _ _ _ _ S₁ hb _ _ fun vb s₂ R₂=>?_
 have S₂:=S₁.af R₂.af
 refine a5d (.deep (ro.kp S₁ R₂.af.kp)) R₂.rep hd _ _ fun v s₃ kf r=>?_
 have S₃:=S₂.kf kf
 refine (a4E S₃ hx).elim fun vs₃ Z1=>Z1.elim (fun hp₃ rl₃=>?_)
 refine a8k hp₃ rfl hfit (c9m hlt (d0c rl₃.length.symm)) fun h' hl hsb=>?_
 rw [List.setIfInBounds_toArray] at hl
 exact a1u hQ ((Goes.af S ((R.af.trans R₂.af).kf kf)).trans (a8j (l':=l.set j d) (vs:=vs₃.set j v) S₃ hx hl hsb (rl₃.set r _)))
end
end
section
namespace FA
theorem lk_list_append:typeLookup (.type "list") "append"=pure (some (.builtin "list.append")):=by rw [d0N,d0O];kernel_rfl
theorem ty_list_append:typeOf (.builtin "list.append")=pure (.type "method_descriptor"):=by show builtinType _ = _;rw [builtinType_eq_fast];kernel_rfl
theorem slot_md_get:PySem.Slot "method_descriptor" "__get__" "method_descriptor.__get__":=
 .of (owner:="method_descriptor") (n:="__get__") (by rw [d0N,d0O];kernel_rfl) (by decide +kernel) (by decide +kernel) (by decide +kernel)
  (by first | exact .inl (by decide +kernel) | exact .inr (by decide +kernel)) (by rw [c9O];kernel_rfl)
theorem no_md_set:typeLookup (.type "method_descriptor") "__set__"=pure none:=by rw [d0N,d0O];kernel_rfl
theorem no_md_delete:typeLookup (.type "method_descriptor") "__delete__"=pure none:=by rw [d0N,d0O];kernel_rfl
theorem entry_md_get:entryFor table "method_descriptor.__get__"=some Builtin.«method_descriptor.__get__»:=entryFor_of_tree (by kernel_rfl)
theorem args_md_get (a b c:Value):argsOk "method_descriptor.__get__" ⟨[a,b,c],[]⟩:=by unfold argsOk;kernel_rfl
theorem no_list_getattr:typeLookup (.type "list") "__getattr__"=pure none:=by rw [d0N,d0O];kernel_rfl
theorem a9n:(".".intercalate ("list.append".cutAt '.').dropLast)="list":=by
 have e0:"list.append".cutAt '.'=["list","append"]:=by first | rfl | decide +kernel
 rw [e0];decide +kernel
theorem sub_list_list:isSubtype (.type "list") (.type (".".intercalate ("list.append".cutAt '.').dropLast))=pure true:=by
 rw [a9n,c9O];kernel_rfl
theorem sub_list_module:isSubtype (.type "list") (.type "module")=pure false:=by rw [c9O];kernel_rfl
end FA
section
variable {prog:Program}{w:World}{A:Around}{E:Value→Shared→Prop}{h:Heap}{g:Array GenState}{d:Drawn}{t:Nat}{os:OsState}{a:Addr}{o:Obj}
theorem b2Z {R:Result→Shared→Prop}(hx:h.get? a=some o)(hc:o.cls=.type "list")(hq:R (.ok (.ret (.ref h.objs.size))) ⟨h.push (a4a a),g,d,t,os⟩) :
  codeAny (model prog w) A (.call (.builtin "method_descriptor.__get__") ⟨[.builtin "list.append",.ref a,.type "list"],[]⟩) R ⟨h,g,d,t,os⟩:=by
 have hT:(⟨h,g,d,t,os⟩:Shared).TypeIs (.ref a) "list":=⟨_,hx,hc⟩
 have hT5:(⟨h,g,d,t,os⟩:Shared).TypeIs (.builtin "list.append") "method_descriptor":=FA.ty_list_append
 have f8:=FA.sub_list_list
 refine codeAny_call_builtin FA.slot_md_get.plain FA.entry_md_get (FA.slot_md_get.check _ _ _ _ _ _ _ _ hT5 (FA.args_md_get _ _ _) ?_)
 repeat (any_goals (first | assumption | wp_step))
theorem a9o {tk:Tok}{Q:Fin→Shared→Prop}{xs:Array Value}{n:Nat}(hx:h.get? a=some { cls:=.type "list",data:=.seq xs n })(hq:Q (.done (.ret (.ref h.objs.size))) ⟨h.push (a4a a),g,d,t,os⟩) :
  wpAny (model prog w) A (Builtin.«object.__getattribute__» ⟨[.ref a,.str "append" tk],[]⟩) Q E ⟨h,g,d,t,os⟩:=by
 have hT:(⟨h,g,d,t,os⟩:Shared).TypeIs (.ref a) "list":=⟨_,hx,rfl⟩
 have hT5:(⟨h,g,d,t,os⟩:Shared).TypeIs (.builtin "list.append") "method_descriptor":=FA.ty_list_append
 have f4:=FA.lk_list_append
 have f5:=FA.ty_list_append
 have f6:=FA.slot_md_get.lookup
 have f7:=FA.no_md_set
 have f8:=FA.no_md_delete
 have f9:=FA.no_list_getattr
 repeat (any_goals (first | assumption | wp_step))
 refine b2Z hx rfl ?_
 repeat (any_goals (first | assumption | wp_step))
theorem b0x {tk:Tok}{R:Result→Shared→Prop}{xs:Array Value}{n:Nat}(hx:h.get? a=some { cls:=.type "list",data:=.seq xs n })(hq:R (.ok (.ret (.ref h.objs.size))) ⟨h.push (a4a a),g,d,t,os⟩) :
  codeAny (model prog w) A (.call (.builtin "list.__getattribute__") ⟨[.ref a,.str "append" tk],[]⟩) R ⟨h,g,d,t,os⟩:=
 codeAny_call_builtin d0V.plain PySem.F.entry_list_ga (d0V.check _ _ _ _ _ _ _ _ (show (⟨h,g,d,t,os⟩:Shared).TypeIs (.ref a) "list" from⟨_,hx,rfl⟩) (PySem.F.args_list_getattribute_2 _ _) (a9o hx hq))
theorem b4L {tk:Tok}{Q:Value→Shared→Prop}{xs:Array Value}{n:Nat}(hx:h.get? a=some { cls:=.type "list",data:=.seq xs n })(hq:Q (.ref h.objs.size) ⟨h.push (a4a a),g,d,t,os⟩) :
  wpAny (model prog w) A (getAttrBy (.ref a) (.str "append" tk) true true) Q E ⟨h,g,d,t,os⟩:=by
 have hT:(⟨h,g,d,t,os⟩:Shared).TypeIs (.ref a) "list":=⟨_,hx,rfl⟩
 have f2:=d0V.lookup
 have f3:=d0V.bind (.ref a)
 have f9:=FA.no_list_getattr
 repeat (any_goals (first | assumption | wp_step))
 refine b0x hx ?_
 repeat (any_goals (first | assumption | wp_step))
theorem a9p {m:Addr}{v:Value}{Q:Value→Shared→Prop}{xs:Array Value}{s:Shared}(hm:s.heap.get? m=some (a4a a))(hl:s.heap.PlainList a xs)(hsz:xs.size≤sizeLine)
  (hQ:∀ h',h'.PlainList a (xs.push v)→Heap.SameBut a s.heap h'→Q .none { s with heap:=h' }):wpAny (model prog w) A (call (.ref m) [v]) Q E s:=by
 refine hl.elim (clear% hl;fun n ho=>?_)
 have hT:s.TypeIs (.ref a) "list":=⟨_,ho,rfl⟩
 refine wpAny_call (codeAny_of_tree ?_)
 show wpAny _ A.in1 (callAny (.ref m) ⟨[v],[]⟩) _ _ s
 simp only [callAny]
 refine c9L (wpAny_load hm ?_)
 have hchk:wpAny (model prog w) A.in1 (checkBoundCall "list.append" ⟨[.ref a,v],[]⟩) (fun _ s'=>s'=s) (fun _ _=>False) s:=by
  have f1:=FA.sub_list_module
  repeat (any_goals (first | assumption | wp_step))
  rfl
 show wpAny _ _ (do checkBoundCall "list.append" ⟨[.ref a,v],[]⟩;again (.builtin "list.append" ⟨[.ref a,v],[]⟩)) _ _ s
 refine c9L (d0n hchk (fun _ s' e=>?_) fun _ _ f=>f.elim)
 rw [show s'=s from e]
 refine c9M ⟨Code.quiet_builtin _ (by decide +kernel),codeAny_builtin entry_list_append ?_⟩
 show wpAny _ _ (updateSeq a (·.push v) >>= fun _=>ret .none) _ _ s
 refine c9L ?_
 refine wpAny_updateSeq ho rfl (c9M (hQ _ ⟨n+1,?_⟩ (Heap.SameBut.update ..)))
 rw [Heap.get?_update_self _ ho (by rw [Obj.mapSeq_push_plain];rfl),Obj.mapSeq_push_plain]
end
section
variable {G:GC}{F:Fns}{lvl fuel:Nat}{Γ:Ctx}{W:Nat→Bool}{sc names:a0g}{σ σ₀ σ':Store}{oa oa₀ oa':Nat→Addr}{s s₀ s' s₁:Shared}{v:Value}{d:D}{E:Value→Shared→Prop}
theorem c4a {x y:Nat}{p q r u:Pos}(hst:a2S sc (G.nm x)=true)(hk:a9W (G.nm y)=true):SJ G F lvl fuel sc (.getm x y) (.Assign [.Name (G.nm x) q] (.Attribute (.Name (G.nm y) u) (Str.ofString "append") r) p):=fun Γ W σ oa s out hW S h Q E hQ=>by
 refine a0j (show (σ.get y).bind _=some out from h) fun sl hx h=>?_
 refine a0j h (clear% h;fun l hl h=>?_)
 refine a0J h (clear% h;fun hc h=>?_)
 refine a0a hc (clear% hc;fun hm hne=>?_)
 have hne:x≠y:=bne_iff_ne.mp hne
 rw [← h] at hQ
 have hl:=hx.trans (c9o some (a2h hl))
 refine wpAny_Assign_Name (Attribute_name (d0o (S.read hl (fun v sv=>?_) (a1L (a0h hk).2)) (a1L (a0h hk).1))) rfl
 obtain⟨rfl,vs,⟨n,hp⟩,_⟩:=sv
 unfold getAttr
 refine c9F (n:=s.toks) (c9n _) (c9L (wpAny_mkText ?_))
 refine b4L (a:=oa y) hp fun ht=>?_
 have kf:Kf s { s with heap:=s.heap.push (a4a (oa y)),toks:=s.toks+1 }:=Kf.push (c9A _)
 have T:=a2T (sl:=.meth y) S rfl hm
 have nb:¬ a0m Γ (σ.set x (.meth y)) oa s.heap.objs.size:=fun q=>S.newNot (T.all _ q)
 refine (S.kf kf).storeG (sl:=.meth y) (a1H hst) (a2T (S.kf kf) rfl hm) (fun h' tk ht k=>⟨?_,_,rfl,nb,k _ _ (fun q=>nb (.inl (q ▸ S.badL))) (fun q=>nb (.inl (S.badC _ _ q))) (c9H _ rfl)⟩) fun s₂ S₂ k=>a1u hQ ⟨S₂,k.stepNo rfl kf.kp⟩
 rw [a4q,c9t (Ne.symm hne)]
 exact a0X hl
theorem c4b {y:Nat}{e:PE}{e':Expr}{p q u:Pos}(hk:a9W (G.nm y)=true)(hs:a0B e'=true)(hE:EvJ G F lvl sc e e'):SJ G F lvl fuel sc (.appV y e) (.Expr (.Call (.Name (G.nm y) u) [e'] [] q) p):=fun Γ W σ oa s out hW S h Q E hQ=>by
 refine a0j (show (σ.get y).bind _=some out from h) fun sl hy h=>?_
 refine a0j h (clear% h;fun x hx h=>?_)
 refine a0j h (clear% h;fun sl' hx' h=>?_)
 refine a0j h (clear% h;fun l hl h=>?_)
 refine a0j h (clear% h;fun d hd h=>?_)
 refine a0J h (clear% h;fun hc h=>?_)
 rw [← h] at hQ
 have hy:=hy.trans (c9o some (b2r hx))
 have hx:=hx'.trans (c9o some (a2h hl))
 have hst:[e'].all a0B=true:=d0t.mpr ⟨hs,rfl⟩
 refine wpAny_Expr_any ?_ (by unfold interactive;rw [S.kind];rfl) rfl
 refine wpAny_Call_Name_kw (d0o (S.read hy (fun v sv=>?_) (a1L (a0h hk).2)) (a1L (a0h hk).1))
 obtain⟨hox,m,rfl,hb,hm⟩:=sv
 unfold callWith
 refine c9L (c9J (a1g hst (d0I (hE _ _ _ _ _ S hd _ _ fun v s₁ R=>d0H (c9L (d0p ?_))) (a0k hs))))
 have S₁:=S.af R.af
 have hm₁:=a8H S R.af.kp _ _ hb hm
 refine (a4E S₁ hx).elim fun vs₁ Z1=>Z1.elim (fun hp₁ rl₁=>?_)
 rw [show (backTo q (starEach [e'] Γ.env)).any (·.1)=false from a0R hst]
 refine c9L (m:=keeperOf (.ref m)) ?_
 unfold keeperOf
 refine c9L (wpAny_load hm₁ (c9M ?_))
 show wpAny _ _ ((call (.ref m) [v] >>= fun r=>holding [r] point >>= fun _=>pure r)) _ _ s₁
 refine c9L (a9p hm₁ hp₁ (b1w rl₁ (a0h hc).2) fun h' hl hsb=>?_)
 exact c9L (c9J (wpAny_point (c9M (a1u hQ ((Goes.af S R.af).trans (b4J S₁ hx rl₁ (R.deep (a0h hc).1) hl hsb))))))
end
end
section
structure Wkr (G:GC)(A:Around)(Ch:Addr→Prop)(fp:List Addr)(target:Expr)(it:Value)(n:Nat)(P:Nat→Nat→Value→Prop)(Stt:Nat→Heap→Prop)(wrap:Nat→D→D):Prop where
 frame:∀ i h h',Stt i h→(∀ b∈fp,∀ o,h.get? b=some o→h'.get? b=some o)→Stt i h'
 alive:∀ i h,Stt i h→∀ c,Ch c→∃ o,h.get? c=some o∧a7F o
 done:∀ (s:Shared) (Q:Option Value→Shared→Prop) (E:Value→Shared→Prop),Stt n s.heap→(∀ h' tk,(∀ b o,¬ Ch b→s.heap.get? b=some o→h'.get? b=some o)→Q none { s with heap:=h',toks:=tk })→wpAny (model G.prog G.w) A (pyNext it) Q E s
 item:∀ (i:Nat) (C:RC) (B:Addr→Prop) (s:Shared) (d:D) (N:Shared→Prop) (Q:Value→Shared→Prop) (E:Value→Shared→Prop),i<n→1≤s.toks→Stt i s.heap→(∀ a,B a→∃ o,s.heap.get? a=some o)→(∀ c,Ch c→B c) →
  (∀ tk v,s.toks≤tk→P i tk v→Rep C B s.heap tk v d)→(∀ v h' tk,s.toks≤tk→Stt (i+1) h'→(∀ b o,¬ Ch b→s.heap.get? b=some o→h'.get? b=some o)→Rep C B h' tk v (wrap i d)→Q v { s with heap:=h',toks:=tk }) →
  wpAny (model G.prog G.w) A (pyNext it) (fun r s₁=>match r with
   | none=>N s₁
   | some v=>wpAny (model G.prog G.w) A (letOwnedTupleGo target it v) (fun _ s₂=>Q v s₂) E s₁) E s
section
variable {G:GC}{F:Fns}{lvl fuel:Nat}{Γ:Ctx}{W:Nat→Bool}{sc names:a0g}{σ σ₀ σ':Store}{oa oa₀ oa':Nat→Addr}{s s₀ s' s₁:Shared}{v:Value}{d:D}{E:Value→Shared→Prop}
structure ForI (G:GC)(Γ:Ctx)(lvl:Nat)(sc:a0g)(W:Nat→Bool)(Ch:Addr→Prop)(fp:List Addr)(P:Nat→Nat→Value→Prop)(Stt:Nat→Heap→Prop)(σ₀:Store)(oa₀:Nat→Addr)(s₀:Shared)(i:Nat)(ds:List D)(σ:Store)(oa:Nat→Addr)(s:Shared):Prop where
 st:St G (Γ.plusP Ch) lvl sc σ oa s
 stt:Stt i s.heap
 fp:∀ b∈fp,(∃ o,s.heap.get? b=some o)∧b ∉ G.T∧¬ Mut Γ σ oa b
 step:Step G Γ W σ₀ oa₀ s₀ σ oa s
 coming:b8Y G (Γ.plusP Ch) σ oa P i ds s
theorem b4M {Ch:Addr→Prop}{fp:List Addr}{it:Value}{P:Nat→Nat→Value→Prop}{Stt:Nat→Heap→Prop}{wrap:Nat→D→D}{n:Nat}{t:Tgt}{target:Expr}{body:List Stmt}{pb:List PS}(S₀:St G Γ lvl sc σ₀ oa₀ s₀)(hI0:∀ a,Ch a→s₀.heap.get? a=none)
  (K:Wkr G Γ.A Ch fp target it n P Stt wrap) (ht:a3n G.nm sc t target=true) (hB:SsJ G F lvl fuel sc pb body) (hW:∀ x,a4s pb x=true→W x=true) {R:Result→Shared→Prop} {out:Out} (hR:∀ f s',c0K G Γ lvl sc W σ₀ oa₀ s₀ out f s'→R (.ok f) s')
  (ds:List D) (i:Nat) (hn:i+ds.length=n) (I:ForI G Γ lvl sc W Ch fp P Stt σ₀ oa₀ s₀ i ds σ oa s)
  (h:a5D (fun σ d=>(a0P σ t d).bind fun σ'=>a0y F fuel σ' pb) σ ((ds.zipIdx i).map fun p=>wrap p.2 p.1)=some out) :
  codeAny (model G.prog G.w) Γ.A (.forLoop target it body [] Γ.env) R s:=by
 have nI:∀ a,Ch a→¬ Γ.bad a:=fun a ha q=>(S₀.alloc _ (.inl q)).elim fun o e=>a0f (hI0 a ha) e rfl
 have gI:∀ a,Ch a→G.g.get? a=none:=fun a ha=>a4Z S₀ (hI0 a ha)
 have down:∀ {i:Nat} {σ:Store} {oa:Nat→Addr} {s:Shared},St G (Γ.plusP Ch) lvl sc σ oa s→Stt i s.heap→∀ {h':Heap} {tk:Nat},(∀ b o,¬ Ch b→s.heap.get? b=some o→h'.get? b=some o)→s.toks≤tk→St G Γ lvl sc σ oa { s with heap:=h',toks:=tk }:=
  fun S st _ _ k ht=>S.doneP S₀.badT S₀.badL S₀.badC nI gI (K.alive _ _ st) k ht
 induction ds generalizing i σ oa s with
 | nil=>
  have hn:i=n:=hn
  exact a3h rfl (c9F (n:=s.toks) (c9n _) (K.done _ _ _ (hn ▸ I.stt) fun h' tk k htk=>wpAny_execs_nil (hR _ _ (c9x (show some (Out.next σ)=some out from h) ▸ ⟨rfl,oa,down I.st I.stt k htk,I.step.butP hI0 k htk⟩))))
 | cons d ds ih=>
  refine a0j (show ((a0P σ t (wrap i d)).bind fun σ'=>a0y F fuel σ' pb).bind _=some out from h) fun o h1 h=>?_
  refine a0j h1 (clear% h1;fun σ' hb h1=>?_)
  refine a3h rfl (K.item i (rc G Γ) (a0m (Γ.plusP Ch) σ oa) s d _ _ _ (hn ▸ Nat.lt_add_of_pos_right (Nat.succ_pos _)) I.st.gst.tok I.stt I.st.alloc (fun c hc=>.inl (.inr hc)) (fun tk v htk hp=>I.coming 0 tk v d htk hp rfl) fun v h₁ tk₁ htk₁ st₁ k₁ rv=>?_)
  have S₁:St G (Γ.plusP Ch) lvl sc σ oa { s with heap:=h₁,toks:=tk₁ }:=I.st.butP (fun _=>.inr) (fun q=>nI _ q S₀.badL) (fun y c e q=>nI _ q (S₀.badC y c e)) gI (K.alive _ _ I.stt) k₁ (fun a ha=>(K.alive _ _ st₁ a ha).elim fun o e=>⟨o,e.1⟩) htk₁
  have fp₁:∀ b∈fp,(∃ o,h₁.get? b=some o)∧b ∉ G.T∧¬ Mut Γ σ oa b:=fun b hb=>⟨by
   by_cases q:Ch b
   ·exact (K.alive _ _ st₁ b q).elim fun o e=>⟨o,e.1⟩
   ·exact (I.fp b hb).1.elim fun o e=>⟨o,k₁ b o q e⟩,(I.fp b hb).2⟩
  refine a5X (Γ:=Γ.plusP Ch) (W:=W) S₁ ht rv hb fun s₂ S₂ _ t₂=>?_
  have after:∀ {σ₃:Store} {oa₃:Nat→Addr} {s₃:Shared},Goes G (Γ.plusP Ch) lvl sc W σ' oa s₂ σ₃ oa₃ s₃→ForI G Γ lvl sc W Ch fp P Stt σ₀ oa₀ s₀ (i+1) ds σ₃ oa₃ s₃:=fun {σ₃ oa₃ s₃} T₃=>by
   have t:=t₂.trans S₂ T₃.step
   have kfp:∀ b∈fp,∀ o,h₁.get? b=some o→s₃.heap.get? b=some o:=fun b hb o e=>t.heap b o (fp₁ b hb).2.1 (fp₁ b hb).2.2 e
   refine⟨T₃.st,K.frame _ _ _ st₁ kfp,fun b hb=>?_,(I.step.butP hI0 k₁ htk₁).trans (down I.st I.stt k₁ htk₁) t.bar,fun j tk v d htk hp hd=>?_⟩
   ·obtain⟨⟨o,e⟩,h2,h3⟩:=fp₁ b hb
    exact⟨⟨o,kfp b hb o e⟩,h2,t.bar.mutOf h3 e⟩
   ·have r:=I.coming (j+1) tk v d (c9v htk₁ (c9v t.toks htk)) (by rw [Nat.add_comm j 1,← Nat.add_assoc];exact hp) hd
    exact Rep.stepN (Γ:=Γ.plusP Ch) (s:={ s with heap:=h₁,toks:=tk₁ }) (r.keep (c9n _) fun b o hb=>k₁ b o fun q=>hb (.inl (.inr q))) S₁ t
  have fin:∀ {σ₃:Store} {oa₃:Nat→Addr} {s₃:Shared},Goes G (Γ.plusP Ch) lvl sc W σ' oa s₂ σ₃ oa₃ s₃→Goes G Γ lvl sc W σ₀ oa₀ s₀ σ₃ oa₃ s₃:=fun T₃=>⟨down T₃.st (after T₃).stt (fun _ _ _ e=>e) (c9n _),(after T₃).step⟩
  refine hB (Γ.plusP Ch) _ _ _ _ _ hW S₂ h1 _ _ fun f s₃ O=>?_
  cases o with
  | next σ₃=>
   refine O.elim (clear% O;fun e Z1=>Z1.elim (fun oa₃ T₃=>?_))
   rw [e]
   exact ih (i+1) ((Nat.succ_add_eq_add_succ ..).trans hn) (after T₃) h
  | cont σ₃=>
   refine O.elim (clear% O;fun e Z1=>Z1.elim (fun oa₃ T₃=>?_))
   rw [e]
   exact ih (i+1) ((Nat.succ_add_eq_add_succ ..).trans hn) (after T₃) h
  | brk σ₃=>
   refine O.elim (clear% O;fun e Z1=>Z1.elim (fun oa₃ T₃=>?_))
   rw [e]
   exact hR _ _ (c9x h ▸ ⟨rfl,oa₃,fin T₃⟩)
  | ret d=>
   obtain⟨v,e,⟨σ₃,oa₃,T₃⟩,r⟩:=O
   rw [e]
   exact hR _ _ (c9x h ▸ ⟨v,rfl,⟨σ₃,oa₃,fin T₃⟩,r.weaken fun b hb=>.inl hb⟩)
theorem c4c (ds:List D)(i:Nat):((ds.zipIdx i).map fun p=>p.1)=ds:=by
 induction ds generalizing i with
 | nil=>rfl
 | cons d r ih=>exact c9o (d :: ·) (ih (i+1))
theorem c4d {ds:List D}{st:Bool}{I:Addr}{fp:List Addr}{P:Nat→Nat→Value→Prop}{Stt:Nat→Heap→Prop}(W:Wk G Γ σ oa st ds s s' I fp P Stt)(target:Expr):Wkr G Γ.A (·=I) fp target (.ref I) ds.length P Stt (fun _ d=>d) where
 frame:=W.walks.frame
 alive:=fun i h st c hc=>(W.iter i h st).elim fun o q=>⟨o,hc ▸ q.1,q.2.ok⟩
 done:=W.walks.done
 item:=fun i C B s d N Q E hi h1 st hB hc hP hQ=>c9F (n:=s.toks) (c9n _) (W.walks.item i s _ _ hi h1 st fun v h' tk hv st' k ht=>a5r (W.iter _ _ st') (hQ v h' tk ht st' k ((hP tk v ht hv).keep (c9n _) fun b o hb=>k b o fun q=>hb (hc b q))))
theorem c6T {t:Tgt}{iter:PE}{pb:List PS}{target iter':Expr}{body:List Stmt}{p:Pos}(ht:a3n G.nm sc t target=true)(hset:a4w iter'=true)(hI:a3q G F lvl sc iter iter')(hB:SsJ G F lvl fuel sc pb body) :
  SJ G F lvl fuel sc (.for t iter pb) (.For target iter' body [] p):=fun Γ W σ oa s out hW S h Q E hQ=>by
 refine (a0N h).elim fun hok h=>?_
 refine a0j h (clear% h;fun items hit h=>?_)
 refine wpAny_For (hI _ _ _ _ _ S hit _ _ fun I fp P Stt s₂ a₂ K=>?_) (fun x=>a2P hset)
 have hIn:=K.newI.1
 refine b4M (W:=W) S (Ch:=(·=I)) (fun a ha=>ha ▸ hIn) (c4d K target) ht hB (fun x hx=>hW x (d0F.mpr (.inr hx))) (fun f s' O=>hQ f s' O) items 0 (d0E _)
  ⟨S.plusKp hIn a₂.kp a₂.gst (K.old I K.fpI).1,K.start,fun b hb=>⟨(K.old b hb).1,(K.old b hb).2,fun q=>K.strict hok b hb (a8h S q)⟩,.ofKp a₂.kp,fun j tk v d htk hp hd=>?_⟩ ((c9o (a5D _ σ) (c4c items 0)).trans h)
 exact (K.rep j tk v d htk (d0E j ▸ hp) hd).weaken fun b hb=>a0I.mp hb
structure EnumS (l e it:Addr)(items:Array Value)(i:Nat)(h:Heap):Prop where
 enm:∃ old,IsEnum h e it i old
 it:h.IsListIter it l i
 list:h.IsList l items
theorem b7I {A:Around}(hh:A.handled=none){e it l:Addr}{items:Array Value}{elts:List Expr}{k:Nat}{pos:Pos}(hne:e≠it)(hle:l≠e)(hli:l≠it) :
  Wkr G A (fun b=>b=e∨b=it) [e,it,l] (.Tuple elts k pos) (.ref e) items.size (fun i _ v=>items[i]?=some v) (EnumS l e it items) (fun i d=>.tup [.int i,d]) where
 frame:=fun i h h' st hk=>⟨st.enm.elim fun old x=>⟨old,hk e (.head _) _ x⟩,st.it.at fun o x=>hk it (.tail _ (.head _)) o x,st.list.at fun o x=>hk l (.tail _ (.tail _ (.head _))) o x⟩
 alive:=fun i h st c hc=>hc.elim (fun q=>q ▸ st.enm.elim fun old x=>⟨_,x,fun _ _=>⟨nofun,fun q=>absurd (Value.type.inj q) (by decide)⟩⟩) fun q=>q ▸ st.it.elim fun o x=>⟨o,x.1,fun _ _=>x.2.1 ▸ ⟨nofun,fun q=>absurd (Value.type.inj q) (by decide)⟩⟩
 done:=fun s Q E st hQ=>st.enm.elim fun old x=>wpAny_pyNext_enum_end hh x st.it st.list (Array.getElem?_eq_none (c9n _)) fun h' hk=>hQ h' s.toks fun b o hb eb=>hk b o (fun q=>hb (.inr q)) eb
 item:=fun i C B s d N Q E hi _ st hB hc hP hQ=>by
  obtain⟨⟨old,x⟩,h2,h3⟩:=st
  refine wpAny_pyNext_enum_item x h2 h3 (d0q hi) hne fun h' hout hit' hT hsz hk=>?_
  have rv:=hP s.toks items[i] (c9n _) (d0q hi)
  refine wpAny_letOwnedTupleGo_enum hout fun h'' hE hs=>?_
  have kk:∀ b o,¬ (b=e∨b=it)→s.heap.get? b=some o→h''.get? b=some o:=fun b o hb eb=>hs.extBut b o (fun q=>hb (.inl q)) (hk b o (fun q=>hb (.inl q)) (fun q=>hb (.inr q)) eb)
  have nT:¬ B s.heap.objs.size:=fun q=>(hB _ q).elim fun o eo=>Nat.lt_irrefl _ (c9G eo)
  refine hQ _ h'' (s.toks+1) (c9A _) ⟨⟨_,hE⟩,hit'.at fun o eo=>hs.extBut it o (Ne.symm hne) eo,h3.at fun o eo=>hs.extBut l o hle (hk l o hle hli eo)⟩ kk ?_
  exact .tup (vs:=[.int i s.toks,items[i]]) nT ⟨_,hs.extBut _ _ (Nat.ne_of_gt (c9G x)) hT,rfl,0,rfl⟩ (.cons (.int _ _) (.cons (rv.keep (c9A _) fun b o hb=>kk b o fun q=>hb (hc b q)) .nil))
theorem b4N {xs:List Nat}{a:PE}{pb:List PS}{elts:List Expr}{k:Nat}{pos:Pos}{e x:Expr}{body:List Stmt}{p:Pos}(hB0:GlobsOK G)(C:a1Q sc "enumerate" e [x])(hset:a4w e=true)(ht:a4x G.nm sc xs elts=true)(hA:EvJ G F lvl sc a x)(hB:SsJ G F lvl fuel sc pb body) :
  SJ G F lvl fuel sc (.for (.many xs) (.enum a) pb) (.For (.Tuple elts k pos) e body [] p):=fun Γ W σ oa s out hW S h Q E hQ=>by
 refine (a0N (show grd (forOk σ (.enum a)) _=some out from h)).elim fun hok h=>?_
 refine a0j h (clear% h;fun ds hit h=>?_)
 refine a0j (show (evE F σ a).bind _=some ds from hit) fun u hu hit=>?_
 refine a0j hit (clear% hit;fun l hl hit=>?_)
 refine a0J hit (clear% hit;fun hst hit=>?_)
 rw [← hit] at h
 obtain⟨⟨q,r,rfl⟩,g1,g2,g3⟩:=C
 refine wpAny_For ?_ (fun x=>a2P hset)
 refine a2M S g1 (hB0.types "enumerate" (by decide)) g2 g3 (d0I (hA _ _ _ _ _ S hu _ _ fun v s₁ R=>d0H ?_) (a0k (a0h g3).1))
 have rs:=R.deep hst
 rw [a2J hl] at rs
 obtain⟨la,vs,rfl,nbl,hL,rl⟩:=rs.view
 have S₁:=S.af R.af
 refine call_enumerate_list hL fun h' hE hI hsz hk=>wpAny_pyIter_enum hE ?_
 have hlt:la<s₁.heap.objs.size:=hL.elim fun o q=>c9G q.1
 have kf:Kf s₁ { s₁ with heap:=h' }:=⟨hk,rfl,c9n _,rfl⟩
 have nn:∀ b,b=s₁.heap.objs.size+1∨b=s₁.heap.objs.size→s₁.heap.get? b=none:=fun b q=>fresh (q.elim (fun q=>q ▸ c9A _) fun q=>q ▸ c9n _)
 have TT:∀ b,b=s₁.heap.objs.size+1∨b=s₁.heap.objs.size→b ∉ G.T:=fun b q p=>(G.tabGet _ R.af.gst.tab _ p).elim fun ps e=>a0f (nn b q) e rfl
 have al:∀ b,b=s₁.heap.objs.size+1∨b=s₁.heap.objs.size→∃ o,h'.get? b=some o:=fun b q=>q.elim (fun q=>q ▸ ⟨_,hE⟩) fun q=>q ▸ hI.elim fun o x=>⟨o,x.1⟩
 have hL':h'.IsList la vs.toArray:=a4p hL fun o=>hk _ o
 have nm:∀ b,b=s₁.heap.objs.size+1∨b=s₁.heap.objs.size→(∃ o,h'.get? b=some o)∧b ∉ G.T∧¬ Mut Γ σ oa b:=fun b q=>⟨al b q,TT b q,fun p=>(S₁.alloc _ (a8h S p)).elim fun o e=>a0f (nn b q) e rfl⟩
 refine b4M (W:=W) S (Ch:=fun b=>b=s₁.heap.objs.size+1∨b=s₁.heap.objs.size) (fp:=[s₁.heap.objs.size+1,s₁.heap.objs.size,la]) (t:=.many xs) (fun b q=>a7b R.af.kp (TT b q) (nn b q)) (b7I (items:=vs.toArray) S.aok.1 (Nat.succ_ne_self _) (d0g (Nat.lt_succ_of_lt hlt)) (d0g hlt))
  (show a3n G.nm sc (.many xs) (.Tuple elts k pos)=true from ht) hB (fun x hx=>hW x (d0F.mpr (.inr hx))) (fun f s' O=>hQ f s' O) l 0 ((d0E _).trans rl.length.symm)
  ⟨S₁.plusP nn kf.kp (kf.gst R.af.gst) al,⟨⟨_,hE⟩,hI,hL'⟩,fun b hb=>?_,.ofKp (R.af.kp.kf kf),fun j tk v d htk hp hd=>?_⟩ h
 ·rcases c9U.mp hb with q | hb
  ·exact nm b (.inl q)
  ·rcases c9U.mp hb with q | hb
   ·exact nm b (.inr q)
   ·rw [d0i.mp hb]
    exact⟨hL'.elim fun o q=>⟨o,q.1⟩,fun q=>nbl (.inl (S.badT _ q)),fun q=>nbl (a8h S q)⟩
 ·refine (rl.get j d hd).elim fun v' Z1=>Z1.elim (fun hv' r=>?_)
  have hp:vs.toArray[0+j]?=some v:=hp
  rw [d0E,c9W,hv'] at hp
  exact c9x hp ▸ r.chg ⟨htk,fun b o _=>hk b o,fun b o hb e q=>(a0I.mp q).elim hb fun q=>a0f (nn b q) e rfl⟩
end
end
section
section
variable {G:GC}{F:Fns}{lvl fuel:Nat}{Γ:Ctx}{W:Nat→Bool}{sc names:a0g}{σ σ₀ σ':Store}{oa oa₀ oa':Nat→Addr}{s s₀ s' s₁:Shared}{v:Value}{d:D}{E:Value→Shared→Prop}
theorem c0Q {e:PE}(h:e.pv.isComp=true):strict σ e=true:=by
 cases hv:e.pv with
 | comp=>obtain⟨_,_,_,_,_,_,rfl⟩:=a5U hv;rfl
 | _=>rw [hv] at h;exact absurd h c9p
theorem b4O {prog:Program}{w:World}{A:Around}{s:Shared}{env:Env}{k:Str}{i:Int}{k1 k2:Nat}{p1 p2 r:Pos}{Q:List (Value×Value)→Shared→Prop}(h:Q [(.str k s.toks,.int i (s.toks+1))] { s with toks:=s.toks+1+1 }) :
  wpAny (model prog w) A (evalPairs [(eval (.Constant (.str k) k1 p1) env,eval (.Constant (.int i) k2 p2) env >>= fun x=>standAt r >>= fun _=>pure x)]) Q E s:=by
 unfold evalPairs
 refine c9L (wpAny_Constant_str (c9L (c9J (c9L (wpAny_Constant_int (c9L (d0p (c9M ?_))))))))
 refine c9L (c9J ?_)
 unfold evalPairs
 exact c9M (c9M h)
theorem b7J {prog:Program}{w:World}{A:Around}{s:Shared}{env:Env}{k:Str}{i:Int}{k1 k2:Nat}{p1 p2 r:Pos}{Q:Value→Shared→Prop}
  (h:∀ h',h'.DictOf (PySem.strKind prog w) s.heap.objs.size [(k,.int i (s.toks+1))]→Heap.SameBut s.heap.objs.size (s.heap.push { cls:=.type "dict",data:=.dict #[] }) h'→Q (.ref s.heap.objs.size) { s with heap:=h',toks:=s.toks+1+1+1 }) :
  wpAny (model prog w) A (eval (.Dict [some (.Constant (.str k) k1 p1)] [.Constant (.int i) k2 p2] r) env) Q E s:=by
 have gD:(s.heap.push { cls:=.type "dict",data:=.dict #[] }).get? s.heap.objs.size=some { cls:=.type "dict",data:=.dict #[] }:=c9H _ rfl
 refine @wpAny_Dict_pairs prog w Str _ (PySem.strKind prog w) A E s env _ _ r [(eval (.Constant (.str k) k1 p1) env,eval (.Constant (.int i) k2 p2) env >>= fun x=>standAt r >>= fun _=>pure x)] Q rfl nofun (by decide:1≤15) (b4O ?_)
 exact⟨[(k,.int i (s.toks+1))],⟨strKind_is prog w k s.toks,rfl,trivial⟩,⟨_,#[],0,gD,⟨rfl,rfl,rfl⟩,rfl,fun _ he=>(Array.not_mem_empty _ he).elim,Pairs.nil,List.nodup_nil⟩,fun h' hd hsb=>h h' hd hsb⟩
theorem c4e {x:Nat}{k:Str}{i:Int}{k1 k2:Nat}{p1 p2 p q r:Pos}(hst:a2S sc (G.nm x)=true) :
  SJ G F lvl fuel sc (.asgD x k i) (.Assign [.Name (G.nm x) q] (.Dict [some (.Constant (.str k) k1 p1)] [.Constant (.int i) k2 p2] r) p):=fun Γ W σ oa s out hW S h Q E hQ=>by
 refine a0J (show grd (noMeth σ x) _=some out from h) fun hm h=>?_
 rw [← h] at hQ
 have hWx:W x=true:=hW x (c9y x)
 refine wpAny_Assign_Name ?_ ?_
 rotate_left
 ·rfl
 refine b7J ?_
 intro h' hd hsb
 have kf:Kf s { s with heap:=h',toks:=s.toks+1+1+1 }:=⟨fun b o e=>hsb.extBut b o (d0g (c9G e)) (c9w _ e),rfl,c9V _ 3,rfl⟩
 exact a9i (sl:=.ownD [(k,i)]) S (S.afR.kf kf) (fresh (c9n _)) (hd.elim fun o h=>h.elim fun _ h=>h.elim fun _ h=>⟨o,h.1⟩) hst hm hWx ⟨_,hd,.cons k i _ .nil⟩ fun s' T=>a1u hQ T
open Builtin.List in
theorem b0y {A:Around}{l b:Addr}{xs ys:Array Value}{Q:Value→Shared→Prop}(hl:s.heap.PlainList l xs)(hb:s.heap.IsList b ys)(hsz:xs.size+ys.size≤16777216)
  (hQ:∀ h',h'.PlainList l (xs++ys)→Heap.SameBut l s.heap h'→Q .none { s with heap:=h' }):wpAny (model G.prog G.w) A (call (.builtin "list.extend") [.ref l,.ref b]) Q E s:=by
 refine hl.elim fun n ho=>hb.elim fun ob q=>q.2.2.elim fun nb hd=>?_
 refine wpAny_call_entry PySem.F.slot_list_extend hl.isList.typeIs PySem.F.entry_list_extend ?_ (PySem.F.args_list_extend_2 _ _)
 show wpAny _ _ (listExtendWith (.ref l) (.ref b) .none) _ _ _
 unfold listExtendWith
 refine c9L (wpAny_typeOf hb.typeIs ?_)
 rw [c9r (show (listSameRef (.ref l) (.ref b)||Value.type "list"==Value.type "list"||Value.type "list"==Value.type "tuple")=true from by rw [show (Value.type "list"==Value.type "list")=true from rfl,Bool.or_true];rfl)]
 unfold listItems
 refine c9L (c9L (wpAny_seqItems q.1 hd (c9M ?_)))
 refine c9L (c9L (wpAny_seqItems ho rfl (c9M ?_)))
 have ht:listTooLong (xs.size+ys.size)=false:=c9Y (by rw [c9C];lia)
 rw [ht,Bool.and_false]
 show wpAny _ _ (updateSeq l (·++ys) >>= fun _=>ret .none) _ _ _
 exact c9L (wpAny_updateSeq ho rfl (c9M ⟨_,rfl,hQ _ ⟨_,Heap.get?_update_self _ ho rfl⟩ (Heap.SameBut.update ..)⟩) (by rw [c9C];lia) (by rw [Array.size_append,c9C];lia))
theorem RepL.app {C:RC}{B:Addr→Prop}{h:Heap}{n:Nat}{vs ws:List Value}{ds es:List D}(r:RepL C B h n vs ds)(q:RepL C B h n ws es):RepL C B h n (vs++ws) (ds++es):=r.append q
theorem c6U {x:Nat}{e:PE}{e':Expr}{p q r u:Pos}(hk:a9W (G.nm x)=true)(hline:(q.endLine==r.line)=true)(hs:a0B e'=true)(hE:EvJ G F lvl sc e e'):SJ G F lvl fuel sc (.ext x e) (.Expr (.Call (.Attribute (.Name (G.nm x) u) (Str.ofString "extend") q) [e'] [] r) p):=fun Γ W σ oa s out hW S h Q E hQ=>by
 refine a0j (show (σ.get x).bind _=some out from h) fun sl hx h=>?_
 refine a0j h (clear% h;fun l hl h=>?_)
 refine a0j h (clear% h;fun d hd h=>?_)
 refine a0j h (clear% h;fun y hy h=>?_)
 refine a0J h (clear% h;fun hc h=>?_)
 rw [← h] at hQ
 refine a0a hc (clear% hc;fun hcomp hok=>?_)
 have hx:=hx.trans (c9o some (a2h hl))
 have hst:[e'].all a0B=true:=by show (a0B e'&&true)=true;rw [hs];rfl
 refine wpAny_Expr_any ?_ (by unfold interactive;rw [S.kind];rfl) rfl
 refine wpAny_Call_method (a3r rfl) (by rw [a3s hst];rfl) hline PySem.F.plainAttrs_list PySem.F.slot_list_extend PySem.F.type_list_extend (d0o (S.read hx (fun v sv=>?_) (a1L (a0h hk).2)) (a1L (a0h hk).1))
 obtain⟨rfl,vs,hp,rl⟩:=sv
 refine⟨hp.isList.typeIs,fun b eb=>by injection eb with eb;exact hp.elim fun n ep=>⟨_,eb ▸ ep,rfl⟩,callWith_builtin (a0R hst) (a1g hst (d0I (hE _ _ _ _ _ S hd _ _ fun v s₁ R=>d0H ?_) (a0k hs)))⟩
 have S₁:=S.af R.af
 refine (a4E S₁ hx).elim fun vs₁ Z1=>Z1.elim (fun hp₁ rl₁=>?_)
 have rd:=R.deep (c0Q hcomp)
 rw [a2J hy] at rd
 refine rd.view.elim fun b q=>q.elim fun ws q=>?_
 obtain⟨e1,nb,hb,rw'⟩:=q
 subst e1
 refine b0y hp₁ hb ?_ fun h' hl' hsb=>a1u hQ ((Goes.af S R.af).trans (a8j (vs:=vs₁++ws) S₁ hx (by rw [← List.append_toArray];exact hl') hsb (rl₁.append rw')))
 have:=a1K hok
 rw [c9I,c9I,rl₁.length,rw'.length]
 exact this
theorem c4f {x:Nat}{i:PE}{op:Operator}{e:PE}{i' e':Expr}{p q u:Pos}(hk:a9W (G.nm x)=true)(hns:a4F i'=true)(hI:EvJ G F lvl sc i i')(hE:EvJ G F lvl sc e e'):SJ G F lvl fuel sc (.augD x i op e) (.AugAssign (.Subscript (.Name (G.nm x) u) i' q) op e' p):=fun Γ W σ oa s out hW S h Q E hQ=>by
 refine a0j (show (σ.get x).bind _=some out from h) fun sl hx h=>?_
 refine a0j h (clear% h;fun ui hi h=>?_)
 refine a0j h (clear% h;fun b hb h=>?_)
 refine a0j h (clear% h;fun kv hkv h=>?_)
 refine a0j h (clear% h;fun k hks h=>?_)
 refine a0j h (clear% h;fun a ha h=>?_)
 refine a0j h (clear% h;fun d hd h=>?_)
 refine a0j h (clear% h;fun j hj h=>?_)
 refine a0J h (clear% h;fun hok h=>?_)
 rw [← h] at hQ
 have hx:=hx.trans (c9o some (a6Z hkv))
 refine wpAny_AugAssign_SubscriptAny (d0o (S.read hx (fun w sv=>?_) (a1L (a0h hk).2)) (a1L (a0h hk).1)) (fun ov iv new=>a6q hns ov iv new)
 rw [sv.1]
 refine hI _ _ _ _ _ S hi _ _ fun vi s₁ R=>?_
 refine (a2g hks).elim fun g eg=>?_
 subst eg
 refine R.rep.asStr.elim fun t q=>q.elim fun ev _=>?_
 subst ev
 have S₁:=S.af R.af
 refine (a8i S₁ hx).map.elim fun m q=>?_
 have it:b1i G Γ σ oa s₁ (.int a) (.ref (oa x)) (.str k t):=a8M q.1 q.2 (by rw [ha];rfl)
 refine it.1 _ _ fun vo s₂ k₂ r₂=>?_
 have S₂:=S₁.kf k₂
 refine hE _ _ _ _ _ S₂ hb _ _ fun vb s₃ R₃=>?_
 have S₃:=S₂.af R₃.af
 refine a5d (.deep (r₂.kp S₂ R₃.af.kp)) R₃.rep hd _ _ fun vn s₄ k₄ r₄=>?_
 have S₄:=S₃.kf k₄
 refine (a8i S₄ hx).elim fun kvs Z1=>Z1.elim (fun hdict hkv=>?_)
 have hnod:(kvs.map (·.1)).Nodup:=hdict.elim fun _ h=>h.elim fun _ h=>h.elim fun _ h=>h.2.2.2.2.2
 rw [a5S hj] at r₄
 refine (RepT.deep r₄).intP (P:=fun v=>wpAny _ _ (setItem _ _ v) _ E s₄) rfl fun t'=>?_
 refine wpAny_setItem_pairs (k:=k) (c9y k) hdict (fun h' hd' hsb=>?_) (c9v (d0c hkv.length) (c9v (c9A _) (a0z hok)))
 have T:=S₄.ownT (W:=W) (sl:=.ownD (dictSetD kv k j)) hx rfl rfl (fun b o hb e=>hsb.extBut b o hb e) (hd'.elim fun o h=>h.elim fun _ h=>h.elim fun _ h=>⟨o,h.1⟩) (c9A _) ⟨rfl,_,hd',hkv.stored hnod k j t'⟩
 exact a1u hQ ((Goes.af S (((R.af.kf k₂).trans R₃.af).kf k₄)).trans ⟨T.1,T.2⟩)
end
end
section
inductive Ts where
 | asg | aug | exp | ifs | for | while | ret | brk | cont | assert | try | oth
 deriving DecidableEq
structure VS where
 tag:Ts
 pos:Pos
 t:Expr:=default
 v:Expr:=default
 op:Operator:=.Add
 es:List Expr:=[]
 a:List Stmt:=[]
 b:List Stmt:=[]
 o:Option Expr:=none
 hs:List ExceptHandler:=[]
 fin:List Stmt:=[]
noncomputable def vs (st:Stmt):VS:=match st with
 | .Assign ts v p=>{ tag:=.asg,pos:=p,es:=ts,v:=v }
 | .AugAssign t o v p=>{ tag:=.aug,pos:=p,t:=t,op:=o,v:=v }
 | .Expr e p=>{ tag:=.exp,pos:=p,v:=e }
 | .If t a b p=>{ tag:=.ifs,pos:=p,t:=t,a:=a,b:=b }
 | .For t i a b p=>{ tag:=.for,pos:=p,t:=t,v:=i,a:=a,b:=b }
 | .While t a b p=>{ tag:=.while,pos:=p,t:=t,a:=a,b:=b }
 | .Return o p=>{ tag:=.ret,pos:=p,o:=o }
 | .Break p=>{ tag:=.brk,pos:=p }
 | .Continue p=>{ tag:=.cont,pos:=p }
 | .Assert t o p=>{ tag:=.assert,pos:=p,t:=t,o:=o }
 | .Try a hs b fin p=>{ tag:=.try,pos:=p,a:=a,hs:=hs,b:=b,fin:=fin }
 | _=>{ tag:=.oth,pos:=default }
noncomputable def IsS (st:Stmt)(w:VS):Ts→Prop
 | .asg=>st=.Assign w.es w.v w.pos
 | .aug=>st=.AugAssign w.t w.op w.v w.pos
 | .exp=>st=.Expr w.v w.pos
 | .ifs=>st=.If w.t w.a w.b w.pos
 | .for=>st=.For w.t w.v w.a w.b w.pos
 | .while=>st=.While w.t w.a w.b w.pos
 | .ret=>st=.Return w.o w.pos
 | .brk=>st=.Break w.pos
 | .cont=>st=.Continue w.pos
 | .assert=>st=.Assert w.t w.o w.pos
 | .try=>st=.Try w.a w.hs w.b w.fin w.pos
 | .oth=>True
theorem c8O (st:Stmt):IsS st (vs st) (vs st).tag:=by
 cases st with
 | _=>first | exact rfl | exact trivial
noncomputable def isS (st:Stmt)(t:Ts):Bool:=decide ((vs st).tag=t)
theorem a1R {st:Stmt}{t:Ts}(h:isS st t=true):IsS st (vs st) t:=c9E h ▸ c8O st
noncomputable def tg (st:Stmt):Expr:=(vs st).es.getD 0 default
noncomputable def is1 (st:Stmt):Bool:=isS st .asg&&(vs st).es.length==1
theorem a7o {st:Stmt}(h:is1 st=true):∃ p,st=.Assign [tg st] (vs st).v p:=by
 have e:st=.Assign (vs st).es (vs st).v (vs st).pos:=a1R (a0h h).1
 rw [es1 (d:=default) (c9K (a0h h).2)] at e
 exact⟨_,e⟩
noncomputable def c6V (own:Bool)(e:PE)(v:Expr):Bool:=match e.pv with
 | .comp=>true
 | .lst=>true
 | .var _=>!own
 | _=>!own&&!(a2E v)
theorem b7K {e a:PE}(h:e.pv.asEnm=some a):e=.enum a:=by
 cases hv:e.pv with
 | enm b=>rw [hv] at h;exact c9x h ▸ a5U hv
 | _=>rw [hv] at h;exact a0e h
noncomputable def Tgt.asMany:Tgt→Option (List Nat)
 | .many xs=>some xs
 | .one _=>none
noncomputable def c8n (nm:Nat→Str)(sc:a0g)(t:Tgt)(iter:PE)(target iter':Expr):Bool:=match iter.pv.asEnm with
 | some a=>isT target .tup&&a4x nm sc (t.asMany.getD []) (vw target).es&&isG sc "enumerate" 1 iter'&&mE nm sc a (arg iter' 0)&&t.asMany.isSome
 | none=>a4w iter'&&mI nm sc iter iter'&&a3n nm sc t target
noncomputable def hd1 (l:List (Option Expr)):Option Expr:=l.headD none
noncomputable def c8o (k:Str)(i:Int)(v:Expr):Bool:=isT v .dict&&(vw v).os.length==1&&(vw v).es.length==1&&(hd1 (vw v).os).any (isC (.str k))&&isC (.int i) (arg v 0)
theorem c0R {k:Str}{i:Int}{v:Expr}(h:c8o k i v=true):∃ k1 p1 k2 p2 r,v=.Dict [some (.Constant (.str k) k1 p1)] [.Constant (.int i) k2 p2] r:=by
 refine a0a h (clear% h;fun h h5=>?_)
 refine a0a h (clear% h;fun h h4=>?_)
 refine a0a h (clear% h;fun h h3=>?_)
 refine a0a h (clear% h;fun h1 h2=>?_)
 have e1:v=.Dict (vw v).os (vw v).es (vw v).pos:=a0w h1
 refine (a1j h5).elim fun k2 q=>q.elim fun p2 e5=>?_
 rw [es1 (d:=v) (c9K h3),show (vw v).es.getD 0 v=arg v 0 from rfl,e5] at e1
 cases ho:(vw v).os with
 | nil=>rw [ho] at h2;cases h2
 | cons a r=>
  rw [ho] at h2 h4 e1
  rw [es0 (Nat.succ.inj (c9K h2))] at e1
  cases a with
  | none=>exact absurd h4 c9p
  | some e=>
   refine (a1j (show isC (.str k) e=true from h4)).elim fun k1 q=>q.elim fun p1 e6=>?_
   rw [e6] at e1
   exact⟨k1,p1,k2,p2,_,e1⟩
inductive PSV where
 | fail | drop (xs:List Nat) | oth
noncomputable def PS.psv:PS→PSV
 | .fail=>.fail
 | .drop xs=>.drop xs
 | _=>.oth
noncomputable def PSV.is (p:PS):PSV→Prop
 | .fail=>p=.fail
 | .drop xs=>p=.drop xs
 | .oth=>True
theorem c4g (p:PS):p.psv.is p:=by
 cases p with
 | _=>first | exact rfl | exact trivial
mutual
noncomputable def mS (nm:Nat→Str)(sc:a0g)(ps:PS)(st:Stmt):Bool:=match ps with
 | .asg x own e=>is1 st&&isN nm x (tg st)&&a2S sc (nm x)&&c6V own e (vs st).v&&mE nm sc e (vs st).v
 | .asgT xs e=>is1 st&&isT (tg st) .tup&&a4x nm sc xs (vw (tg st)).es&&decide xs.Nodup&&b4F (vs st).v&&!(a2E (vs st).v)&&mE nm sc e (vs st).v
 | .asgI x i e=>is1 st&&isT (tg st) .sub&&a8G nm x (vw (tg st)).a&&!(a2E (vs st).v)&&mE nm sc i (vw (tg st)).b&&mE nm sc e (vs st).v
 | .aug x op e=>isS st .aug&&a8G nm x (vs st).t&&a2S sc (nm x)&&op==(vs st).op&&mE nm sc e (vs st).v
 | .augI x i op e=>isS st .aug&&isT (vs st).t .sub&&a8G nm x (vw (vs st).t).a&&a4F (vw (vs st).t).b&&op==(vs st).op&&mE nm sc i (vw (vs st).t).b&&mE nm sc e (vs st).v
 | .app x e=>isS st .exp&&isM "append" 1 (vs st).v&&a8G nm x (a4S (vs st).v)&&mE nm sc e (arg (vs st).v 0)
 | .appV x e=>isS st .exp&&isT (vs st).v .call&&a8G nm x (vw (vs st).v).a&&(vw (vs st).v).es.length==1&&(vw (vs st).v).ks.isEmpty&&a0B (arg (vs st).v 0)&&mE nm sc e (arg (vs st).v 0)
 | .getm x y=>is1 st&&isN nm x (tg st)&&a2S sc (nm x)&&isT (vs st).v .attr&&(vw (vs st).v).id==("append":Str)&&a8G nm y (vw (vs st).v).a
 | .ifs t a b=>isS st .ifs&&mT nm sc t (vs st).t&&mSs nm sc a (vs st).a&&mSs nm sc b (vs st).b
 | .for t iter pb=>isS st .for&&(vs st).b.isEmpty&&c8n nm sc t iter (vs st).t (vs st).v&&mSs nm sc pb (vs st).a
 | .while t pb=>isS st .while&&(vs st).b.isEmpty&&mT nm sc t (vs st).t&&mSs nm sc pb (vs st).a
 | .ret e=>isS st .ret&&(vs st).o.isSome&&mE nm sc e ((vs st).o.getD default)
 | .brk=>isS st .brk
 | .cont=>isS st .cont
 | .assert t=>isS st .assert&&mT nm sc t (vs st).t
 | .try pb=>isS st .try&&!(vs st).hs.isEmpty&&(vs st).b.isEmpty&&(vs st).fin.isEmpty&&mSs nm sc pb (vs st).a
 | .ext x e=>isS st .exp&&isM "extend" 1 (vs st).v&&a8G nm x (a4S (vs st).v)&&mE nm sc e (arg (vs st).v 0)
 | .asgD x k i=>is1 st&&isN nm x (tg st)&&a2S sc (nm x)&&c8o k i (vs st).v
 | .augD x i op e=>isS st .aug&&isT (vs st).t .sub&&a8G nm x (vw (vs st).t).a&&a4F (vw (vs st).t).b&&op==(vs st).op&&mE nm sc i (vw (vs st).t).b&&mE nm sc e (vs st).v
 | _=>false
noncomputable def mSs (nm:Nat→Str)(sc:a0g)(ps:List PS)(ss:List Stmt):Bool:=match ps with
 | []=>ss.isEmpty
 | p :: ps=>match p.psv with
  | .fail=>true
  | .drop _=>mSs nm sc ps ss
  | .oth=>!ss.isEmpty&&mS nm sc p (ss.headD (.Pass default))&&mSs nm sc ps ss.tail
end
section
variable {G:GC}{F:Fns}{lvl fuel:Nat}
theorem a2j {sc:a0g}{ps:PS}{st st':Stmt}(h:st=st')(k:SJ G F lvl fuel sc ps st'):SJ G F lvl fuel sc ps st:=h.symm ▸ k
theorem c4h (hF:FOK G F lvl)(hB:GlobsOK G){sc:a0g}{x:Nat}{own:Bool}{e:PE}{v:Expr}{p q:Pos}(hst:a2S sc (G.nm x)=true)(ha:c6V own e v=true)(h:mE G.nm sc e v=true):SJ G F lvl fuel sc (.asg x own e) (.Assign [.Name (G.nm x) q] v p):=by
 have other:a5C e=none→(!own&&!(a2E v))=true→SJ G F lvl fuel sc (.asg x own e) (.Assign [.Name (G.nm x) q] v p):=fun hv h'=>by
  rw [a1L (a0h h').1]
  exact c6Q hv (a1L (a0h h').2) hst (a9X hF hB e h)
 unfold c6V at ha
 cases hv:e.pv with
 | comp=>
  obtain⟨fv,elt,t,iter,ifs,gs,e1⟩:=a5U hv
  rw [e1] at h ⊢
  refine a0a (show (isComp v&&a3o G.nm sc (vw v).sc fv&&mI G.nm sc iter (gHd v).iter&&a3n G.nm (vw v).sc.names t (gHd v).target&&c2z G.nm (a4e sc (vw v).sc.names) ifs (gHd v).ifs&&mGs G.nm (a4e sc (vw v).sc.names) (vw v).sc.names gs (vw v).gs.tail&&mE G.nm (a4e sc (vw v).sc.names) elt (vw v).a)=true from h) fun h h7=>?_
  refine a0a h (clear% h;fun h h6=>?_)
  refine a0a h (clear% h;fun h h5=>?_)
  refine a0a h (clear% h;fun h h4=>?_)
  refine a0a h (clear% h;fun h h3=>?_)
  refine a0a h (clear% h;fun h1 h2=>?_)
  refine (c3P hF hB gs _ _ _ h6).elim fun g1 g2=>?_
  refine (a8W h1).elim fun p' q'=>?_
  exact a2j (c9o (fun v=>Stmt.Assign _ v _) q') (c3W hst h2 h4 (a0h h1).2 g1 (c8m hF hB iter h3) (c3Q hF hB ifs h5) (g2 (fun x=>a6c) _ _ (a9X hF hB elt h7)))
 | lst=>
  refine (a5U hv).elim fun es e1=>?_
  cases own with
  | true=>
   rw [e1] at h ⊢
   refine a0a (show (isT v .list&&(vw v).es.all a0B&&mEs G.nm sc es (vw v).es)=true from h) fun h' h3=>?_
   exact a2j (c9o (fun v=>Stmt.Assign _ v _) (a0w (a0h h').1)) (c3V hst (c6L hF hB es h3 (a0h h').2))
  | false=>
   have h':mE G.nm sc (.list es) v=true:=e1 ▸ h
   have ht:isT v .list=true:=(a0h (a0h (show (isT v .list&&(vw v).es.all a0B&&mEs G.nm sc es (vw v).es)=true from h')).1).1
   exact other (show e.pv.asVar=none from hv ▸ rfl) (show (true&&!(a2E v))=true from by unfold a2E isT;rw [c9E ht];rfl)
 | var y=>
  rw [hv] at ha
  have e1:e=.var y:=a5U hv
  rw [a1L ha,e1]
  rw [e1] at h
  exact a2j (c9o (fun v=>Stmt.Assign _ v _) (a1a (a0h h).1)) (c3U hst (a0h h).2)
 | _=>rw [hv] at ha;exact other (show e.pv.asVar=none from hv ▸ rfl) ha
noncomputable def R1 (G:GC)(F:Fns)(lvl fuel:Nat)(ps:PS):Prop:=∀ (sc:a0g) (st:Stmt),mS G.nm sc ps st=true→SJ G F lvl fuel sc ps st
noncomputable def R2 (G:GC)(F:Fns)(lvl fuel:Nat)(ps:List PS):Prop:=∀ (sc:a0g) (ss:List Stmt),mSs G.nm sc ps ss=true→SsJ G F lvl fuel sc ps ss
theorem c4i:R2 G F lvl fuel []:=fun sc ss h=>d0B.mp h ▸ c3R
theorem c0S {p:PS}{ps:List PS}(h1:R1 G F lvl fuel p)(h2:R2 G F lvl fuel ps):R2 G F lvl fuel (p :: ps):=fun sc ss h=>by
 have h:(match p.psv with
  | .fail=>true
  | .drop _=>mSs G.nm sc ps ss
  | .oth=>!ss.isEmpty&&mS G.nm sc p (ss.headD (.Pass default))&&mSs G.nm sc ps ss.tail)=true:=h
 have hp:=c4g p
 cases hv:p.psv with
 | fail=>rw [hv] at hp;exact (show p=.fail from hp) ▸ c0N
 | drop xs=>rw [hv] at hp h;exact (show p=.drop xs from hp) ▸ c0M (h2 sc ss h)
 | oth=>
  rw [hv] at h
  cases ss with
  | nil=>exact absurd (a0h (a0h h).1).1 c9p
  | cons s ss=>exact c0L (h1 sc s (a0h (a0h h).1).2) (h2 sc ss (a0h h).2)
section
variable (hF:FOK G F lvl)(hB:GlobsOK G)
include hF hB
theorem c6W (x:Nat)(own:Bool)(e:PE):R1 G F lvl fuel (.asg x own e):=fun sc st h=>by
 refine a0a h (clear% h;fun h h5=>?_)
 refine a0a h (clear% h;fun h h4=>?_)
 refine a0a h (clear% h;fun h h3=>?_)
 refine a0a h (clear% h;fun h1 h2=>?_)
 refine (a7o h1).elim fun p e1=>?_
 rw [a1a h2] at e1
 exact a2j e1 (c4h hF hB h3 h4 h5)
theorem c4j (xs:List Nat)(e:PE):R1 G F lvl fuel (.asgT xs e):=fun sc st h=>by
 refine a0a h (clear% h;fun h h7=>?_)
 refine a0a h (clear% h;fun h h6=>?_)
 refine a0a h (clear% h;fun h h5=>?_)
 refine a0a h (clear% h;fun h h4=>?_)
 refine a0a h (clear% h;fun h h3=>?_)
 refine a0a h (clear% h;fun h1 h2=>?_)
 refine (a7o h1).elim fun p e1=>?_
 rw [show tg st=.Tuple (vw (tg st)).es (vw (tg st)).n (vw (tg st)).pos from a0w h2] at e1
 exact a2j e1 (c3X h3 (c9E h4) h5 (a1L h6) (a9X hF hB e h7))
theorem c4k (x:Nat)(i e:PE):R1 G F lvl fuel (.asgI x i e):=fun sc st h=>by
 refine a0a h (clear% h;fun h h6=>?_)
 refine a0a h (clear% h;fun h h5=>?_)
 refine a0a h (clear% h;fun h h4=>?_)
 refine a0a h (clear% h;fun h h3=>?_)
 refine a0a h (clear% h;fun h1 h2=>?_)
 refine (a7o h1).elim fun p e1=>?_
 have e2:tg st=.Subscript (vw (tg st)).a (vw (tg st)).b (vw (tg st)).pos:=a0w h2
 rw [a1a (a0h h3).1] at e2
 rw [e2] at e1
 exact a2j e1 (c3Y (a0h h3).2 (a1L h4) (a9X hF hB i h5) (a9X hF hB e h6))
theorem c6X (x:Nat)(op:Operator)(e:PE):R1 G F lvl fuel (.aug x op e):=fun sc st h=>by
 refine a0a h (clear% h;fun h h5=>?_)
 refine a0a h (clear% h;fun h h4=>?_)
 refine a0a h (clear% h;fun h h3=>?_)
 refine a0a h (clear% h;fun h1 h2=>?_)
 have e1:st=.AugAssign (vs st).t (vs st).op (vs st).v (vs st).pos:=a1R h1
 rw [a1a (a0h h2).1,← c9K h4] at e1
 exact a2j e1 (c6R h3 (a0h h2).2 (a9X hF hB e h5))
theorem c4l (x:Nat)(i:PE)(op:Operator)(e:PE):R1 G F lvl fuel (.augI x i op e):=fun sc st h=>by
 refine a0a h (clear% h;fun h h7=>?_)
 refine a0a h (clear% h;fun h h6=>?_)
 refine a0a h (clear% h;fun h h5=>?_)
 refine a0a h (clear% h;fun h h4=>?_)
 refine a0a h (clear% h;fun h h3=>?_)
 refine a0a h (clear% h;fun h1 h2=>?_)
 have e1:st=.AugAssign (vs st).t (vs st).op (vs st).v (vs st).pos:=a1R h1
 have e2:(vs st).t=.Subscript (vw (vs st).t).a (vw (vs st).t).b (vw (vs st).t).pos:=a0w h2
 rw [a1a (a0h h3).1] at e2
 rw [e2,← c9K h5] at e1
 exact a2j e1 (c3Z (a0h h3).2 h4 (a9X hF hB i h6) (a9X hF hB e h7))
theorem c6Y (x:Nat)(e:PE):R1 G F lvl fuel (.app x e):=fun sc st h=>by
 refine a0a h (clear% h;fun h h4=>?_)
 refine a0a h (clear% h;fun h h3=>?_)
 refine a0a h (clear% h;fun h1 h2=>?_)
 have e1:st=.Expr (vs st).v (vs st).pos:=a1R h1
 have C:=b6R h2
 obtain⟨r,q,e2,hl⟩:=C.eq
 rw [a1a (a0h h3).1] at e2
 rw [e2] at e1
 exact a2j e1 (c6S (a0h h3).2 hl (a0h C.star).1 (a9X hF hB e h4))
theorem c4m (x:Nat)(e:PE):R1 G F lvl fuel (.appV x e):=fun sc st h=>by
 refine a0a h (clear% h;fun h h7=>?_)
 refine a0a h (clear% h;fun h h6=>?_)
 refine a0a h (clear% h;fun h h5=>?_)
 refine a0a h (clear% h;fun h h4=>?_)
 refine a0a h (clear% h;fun h h3=>?_)
 refine a0a h (clear% h;fun h1 h2=>?_)
 have e1:st=.Expr (vs st).v (vs st).pos:=a1R h1
 have e2:(vs st).v=.Call (vw (vs st).v).a (vw (vs st).v).es (vw (vs st).v).ks (vw (vs st).v).pos:=a0w h2
 rw [a1a (a0h h3).1,es1 (d:=(vs st).v) (c9K h4),d0B.mp h5] at e2
 rw [e2] at e1
 exact a2j e1 (c4b (a0h h3).2 h6 (a9X hF hB e h7))
theorem c6Z (e:PE):R1 G F lvl fuel (.ret e):=fun sc st h=>by
 refine a0a h (clear% h;fun h h3=>?_)
 refine a0a h (clear% h;fun h1 h2=>?_)
 have e1:st=.Return (vs st).o (vs st).pos:=a1R h1
 cases ho:(vs st).o with
 | none=>rw [ho] at h2;exact absurd h2 c9p
 | some v=>
  rw [ho] at e1 h3
  exact a2j e1 (c6P (a9X hF hB e h3))
theorem b7L (t:PE):R1 G F lvl fuel (.assert t):=fun sc st h=>a2j (a1R (a0h h).1:st=.Assert _ _ _) (b7G (c5O hF hB t (a0h h).2))
theorem c7a (t:PE){a b:List PS}(A:R2 G F lvl fuel a)(B:R2 G F lvl fuel b):R1 G F lvl fuel (.ifs t a b):=fun sc st h=>by
 refine a0a h (clear% h;fun h h4=>?_)
 refine a0a h (clear% h;fun h h3=>?_)
 refine a0a h (clear% h;fun h1 h2=>?_)
 exact a2j (a1R h1:st=.If _ _ _ _) (c6N (c5O hF hB t h2) (A _ _ h3) (B _ _ h4))
theorem c0T (t:PE){a:List PS}(A:R2 G F lvl fuel a):R1 G F lvl fuel (.while t a):=fun sc st h=>by
 refine a0a h (clear% h;fun h h4=>?_)
 refine a0a h (clear% h;fun h h3=>?_)
 refine a0a h (clear% h;fun h1 h2=>?_)
 have e1:st=.While (vs st).t (vs st).a (vs st).b (vs st).pos:=a1R h1
 rw [d0B.mp h2] at e1
 exact a2j e1 (c0P (c5O hF hB t h3) (A _ _ h4))
theorem c7b (t:Tgt)(iter:PE){a:List PS}(A:R2 G F lvl fuel a):R1 G F lvl fuel (.for t iter a):=fun sc st h=>by
 refine a0a h (clear% h;fun h h4=>?_)
 refine a0a h (clear% h;fun h h3=>?_)
 refine a0a h (clear% h;fun h1 h2=>?_)
 have e1:st=.For (vs st).t (vs st).v (vs st).a (vs st).b (vs st).pos:=a1R h1
 rw [d0B.mp h2] at e1
 unfold c8n at h3
 cases hv:iter.pv.asEnm with
 | none=>
  rw [hv] at h3
  refine a0a h3 (clear% h3;fun h3 k3=>?_)
  exact a2j e1 (c6T k3 (a0h h3).1 (c8m hF hB iter (a0h h3).2) (A _ _ h4))
 | some b=>
  rw [hv] at h3
  refine a0a h3 (clear% h3;fun h3 k5=>?_)
  refine a0a h3 (clear% h3;fun h3 k4=>?_)
  refine a0a h3 (clear% h3;fun h3 k3=>?_)
  refine a0a h3 (clear% h3;fun k1 k2=>?_)
  cases t with
  | one x=>exact absurd k5 c9p
  | many xs=>
   rw [show (vs st).t=.Tuple (vw (vs st).t).es (vw (vs st).t).n (vw (vs st).t).pos from a0w k1] at e1
   rw [b7K hv]
   have C:=b9T k3
   exact a2j e1 (b4N hB C (C.eq.elim fun p q=>q.elim fun q e=>e ▸ rfl) k2 (a9X hF hB b k4) (A _ _ h4))
end
theorem c4n (x y:Nat):R1 G F lvl fuel (.getm x y):=fun sc st h=>by
 refine a0a h (clear% h;fun h h6=>?_)
 refine a0a h (clear% h;fun h h5=>?_)
 refine a0a h (clear% h;fun h h4=>?_)
 refine a0a h (clear% h;fun h h3=>?_)
 refine a0a h (clear% h;fun h1 h2=>?_)
 refine (a7o h1).elim fun p e1=>?_
 have e2:(vs st).v=.Attribute (vw (vs st).v).a (vw (vs st).v).id (vw (vs st).v).pos:=a0w h4
 rw [a1a (a0h h6).1,c9K h5] at e2
 rw [a1a h2,e2] at e1
 exact a2j e1 (c4a h3 (a0h h6).2)
theorem c7c {a:List PS}(A:R2 G F lvl fuel a):R1 G F lvl fuel (.try a):=fun sc st h=>by
 refine a0a h (clear% h;fun h h5=>?_)
 refine a0a h (clear% h;fun h h4=>?_)
 refine a0a h (clear% h;fun h h3=>?_)
 refine a0a h (clear% h;fun h1 h2=>?_)
 have e1:st=.Try (vs st).a (vs st).hs (vs st).b (vs st).fin (vs st).pos:=a1R h1
 rw [d0B.mp h3,d0B.mp h4] at e1
 cases hh:(vs st).hs with
 | nil=>rw [hh] at h2;exact absurd h2 c9p
 | cons h₀ hs=>
  rw [hh] at e1
  exact a2j e1 (c6O (A _ _ h5))
theorem c7d (hF:FOK G F lvl)(hB:GlobsOK G)(x:Nat)(e:PE):R1 G F lvl fuel (.ext x e):=fun sc st h=>by
 refine a0a h (clear% h;fun h h4=>?_)
 refine a0a h (clear% h;fun h h3=>?_)
 refine a0a h (clear% h;fun h1 h2=>?_)
 have e1:st=.Expr (vs st).v (vs st).pos:=a1R h1
 have C:=b6R h2
 obtain⟨r,q,e2,hl⟩:=C.eq
 rw [a1a (a0h h3).1] at e2
 rw [e2] at e1
 exact a2j e1 (c6U (a0h h3).2 hl (a0h C.star).1 (a9X hF hB e h4))
theorem c4o (x:Nat)(k:Str)(i:Int):R1 G F lvl fuel (.asgD x k i):=fun sc st h=>by
 refine a0a h (clear% h;fun h h4=>?_)
 refine a0a h (clear% h;fun h h3=>?_)
 refine a0a h (clear% h;fun h1 h2=>?_)
 refine (a7o h1).elim fun p e1=>?_
 obtain⟨k1,p1,k2,p2,r,e4⟩:=c0R h4
 rw [a1a h2,e4] at e1
 exact a2j e1 (@c4e G F lvl fuel sc x k i k1 k2 p1 p2 p _ r h3)
theorem c4p (hF:FOK G F lvl)(hB:GlobsOK G)(x:Nat)(i:PE)(op:Operator)(e:PE):R1 G F lvl fuel (.augD x i op e):=fun sc st h=>by
 refine a0a h (clear% h;fun h h7=>?_)
 refine a0a h (clear% h;fun h h6=>?_)
 refine a0a h (clear% h;fun h h5=>?_)
 refine a0a h (clear% h;fun h h4=>?_)
 refine a0a h (clear% h;fun h h3=>?_)
 refine a0a h (clear% h;fun h1 h2=>?_)
 have e1:st=.AugAssign (vs st).t (vs st).op (vs st).v (vs st).pos:=a1R h1
 have e2:(vs st).t=.Subscript (vw (vs st).t).a (vw (vs st).t).b (vw (vs st).t).pos:=a0w h2
 rw [a1a (a0h h3).1] at e2
 rw [e2,← c9K h5] at e1
 exact a2j e1 (c4f (a0h h3).2 h4 (a9X hF hB i h6) (a9X hF hB e h7))
theorem c8P {p:PS}(h:∀ sc st,mS G.nm sc p st=false):R1 G F lvl fuel p:=fun sc st q=>absurd ((h sc st).symm.trans q) c9p
theorem b7M (hF:FOK G F lvl)(hB:GlobsOK G)(ps:List PS){ss:List Stmt}{sc:a0g}(h:mSs G.nm sc ps ss=true):SsJ G F lvl fuel sc ps ss:=
 PS.rec_1 (motive_1:=R1 G F lvl fuel) (motive_2:=R2 G F lvl fuel) (c6W hF hB) (c4j hF hB) (c4k hF hB) (c6X hF hB) (c4l hF hB) (c6Y hF hB) (c4m hF hB) c4n
  (fun t _ _=>c7a hF hB t) (fun t iter _=>c7b hF hB t iter) (fun t _=>c0T hF hB t) (c6Z hF hB) (fun sc st h=>a2j (a1R h:st=.Break _) c6M) (fun sc st h=>a2j (a1R h:st=.Continue _) c3T) (b7L hF hB) (fun _=>c7c)
  (fun sc st h=>c3S) (fun _=>c8P fun _ _=>rfl)
  (c7d hF hB) c4o (c4p hF hB)
  c4i (fun _ _=>c0S) ps sc ss h
end
end
section
section
variable {G:GC}{F:Fns}{lvl fuel:Nat}{s s':Shared}{A:Around}{B:Addr→Prop}{E:Value→Shared→Prop}
noncomputable def a4h (h:Heap)(scope:Scope):Heap:=pushCells (h.push { cls:=.type "frame",data:=.dict #[] }) scope.names
noncomputable def a6r (h:Heap)(scope:Scope)(qual:Str)(func:Option Addr)(code:Value):Env:=
 newEnv scope h.objs.size mainGlobals (cellsFrom (h.objs.size+1) scope.names []) qual func code none builtinsNs
noncomputable def a9q (h:Heap)(scope:Scope)(qual:Str)(func:Option Addr)(code:Value)(A:Around)(st:Addr)(B:Addr→Prop):Ctx:=
 ⟨A,a6r h scope qual func code,st,fun a=>B a∨(h.get? a=none∧∃ o,(a4h h scope).get? a=some o)⟩
theorem a9r (h:Heap)(scope:Scope):CellsOk (a4h h scope) (h.objs.size+1) (cellsFrom (h.objs.size+1) scope.names []):=by
 have ok:=cellsFrom_ok scope.names (h.push { cls:=.type "frame",data:=.dict #[] }) (h.objs.size+1) [] ⟨fun _ _ hm=>(nomatch hm),List.Pairwise.nil⟩ (by rw [d0h];exact c9n _)
 rw [d0h] at ok
 exact ok
theorem a5K {h:Heap}{scope:Scope}{x:Str}{c:Addr}(e:(cellsFrom (h.objs.size+1) scope.names []).lookup x=some c):(a4h h scope).IsCell c none∧h.objs.size+1≤c:=(a9r h scope).empty x c (mem_of_lookup e)
theorem b4P (s:Shared)(scope:Scope):Kf s { s with heap:=a4h s.heap scope }:=⟨fun b o e=>pushCells_keeps _ _ b o (c9w _ e),rfl,c9n _,rfl⟩
theorem b1x {a:Addr}(g:GSt G s)(ha:s.heap.get? a=none):G.g.get? a=none:=by
 cases e:G.g.get? a with
 | none=>rfl
 | some o=>exact absurd rfl (a0f ha (g.base _ _ e))
theorem a3x {scope:Scope}{qual:Str}{func:Option Addr}{code:Value}{b:Addr}{h:Heap}{o:Obj}(e:h.get? b=some o) :
  b≠(a6r h scope qual func code).locals∧∀ y,(a6r h scope qual func code).cells.lookup y≠some b:=
 ⟨fun q=>Nat.lt_irrefl _ (q ▸ c9G e),fun y hy=>Nat.lt_irrefl _ (c9m (c9G e) (Nat.le_of_succ_le (a5K (h:=h) (scope:=scope) hy).2))⟩
structure ScOK (G:GC)(scope:Scope)(code:Value)(qual:Str):Prop where
 kind:scope.kind=.function
 cons:∀ p∈scope.names,scope.names.lookup p.1=some p.2
 free:∀ p∈scope.names,p.2≠.free
 lam:∀ i,a3Q scope.names=some i→code=.ref (G.lamC i)∧qual=G.lamQ i
theorem a9s {scope:Scope}{qual:Str}{func:Option Addr}{code:Value}{st:Addr}{oa:Nat→Addr}(g:GSt G s)(hA:AOk lvl A)(K:ScOK G scope code qual)(hT:∀ t∈G.T,B t)(hB:∀ a,B a→∃ o,s.heap.get? a=some o) :
  St G (a9q s.heap scope qual func code A st B) lvl scope.names [] oa { s with heap:=a4h s.heap scope }:=by
 have kf:=b4P s scope
 have lO:(a4h s.heap scope).get? s.heap.objs.size=some { cls:=.type "frame",data:=.dict #[] }:=pushCells_keeps _ _ _ _ (c9H _ rfl)
 have newL:=fresh (c9n s.heap.objs.size)
 have newC:∀ {x c},(cellsFrom (s.heap.objs.size+1) scope.names []).lookup x=some c→s.heap.get? c=none:=fun e=>fresh (Nat.le_of_succ_le (a5K e).2)
 exact {
  aok:=hA
  kind:=K.kind
  names:=rfl
  code:=K.lam
  globals:=rfl
  builtins:=rfl
  newL:=b1x g newL
  newC:=fun x c hc=>b1x g (newC hc)
  cellInj:=fun x y c hx hy=>name_of_addr (a9r s.heap scope).apart (mem_of_lookup hx) (mem_of_lookup hy)
  gst:=kf.gst g
  badT:=fun t ht=>.inl (hT t ht)
  badL:=.inr ⟨newL,_,lO⟩
  badC:=fun x c hc=>.inr ⟨newC hc,(a5K hc).1.elim fun o q=>⟨o,q.1⟩⟩
  own:=fun x hx=>absurd hx c9p
  ownInj:=fun x y hx=>absurd hx c9p
  alloc:=fun b hb=>hb.elim (fun hb=>hb.elim (fun hb=>(hB b hb).elim fun o e=>⟨o,kf.heap _ _ e⟩) fun hb=>hb.2) fun h=>h.elim fun x h=>absurd h.1 c9p
  cellAt:=fun x hx=>hx.elim (fun hx=>(a4y (n:=s.heap.objs.size+1) (mem_of_lookup hx)).elim fun c' hc'=>(a2W hc').elim fun c hc=>⟨c,none,hc,(a5K hc).1⟩) fun hx=>absurd rfl (K.free _ (mem_of_lookup hx))
  slots:=⟨_,(Heap.Ns.new s.heap (.type "frame")).keeps (pushCells_keeps _ _),fun x sl h=>a0e h⟩ }
structure Ks (Γ:Ctx)(s s':Shared):Prop where
 heap:∀ b o,b≠Γ.env.locals→(∀ y,Γ.env.cells.lookup y≠some b)→s.heap.get? b=some o→s'.heap.get? b=some o
 os:s'.os=s.os
 toks:s.toks≤s'.toks
 gens:s'.gens=s.gens
theorem a9t {Γ:Ctx}{sc:a0g}{oa:Nat→Addr}(f:Str×Value→PUnit→Sem (ForInStep PUnit))(hf:∀ n v u,f (n,v) u=(do storeName Γ.env n v;pure (.yield ⟨⟩)))
  (xs:List Nat) (vs:List Value) (ds:List D) (σ:Store) (s:Shared) {Q:PUnit→Shared→Prop} (S:St G Γ lvl sc σ oa s) (hm:∀ y,noMeth σ y=true)
  (hk:∀ x∈xs,sc.lookup (G.nm x)=some .local∨sc.lookup (G.nm x)=some .cell) (R:RL G Γ σ oa s vs ds) (hl:xs.length=vs.length)
  (h:∀ s',St G Γ lvl sc (a2F (xs.zip ds) σ) oa s'→Ks Γ s s'→Q ⟨⟩ s'):wpAny (model G.prog G.w) Γ.A (forIn ((xs.map G.nm).zip vs) ⟨⟩ f) Q E s:=by
 induction xs generalizing vs ds σ s with
 | nil=>exact c9M (h s S ⟨fun _ _ _ _ e=>e,rfl,c9n _,rfl⟩)
 | cons x xs ih=>
  cases vs with
  | nil=>cases hl
  | cons v vs=>
   cases ds with
   | nil=>exact absurd R.length (Nat.succ_ne_zero _)
   | cons d ds=>
    obtain⟨v',vs',e,r,R⟩:=R.view
    obtain⟨rfl,rfl⟩:=List.cons.inj e
    rw [d0K,List.zip_cons_cons,List.forIn_cons,hf]
    refine c9L (c9L (S.store (W:=fun _=>true) (hk x d0r) (hm x) r fun s₁ S₁ K _=>c9M ?_))
    have R₁:RL G Γ (σ.set x (.val d)) oa s₁ vs ds:=R.chg ⟨K.toks,fun b o hb=>K.heap b o (fun q=>hb (.inl (q ▸ S.badL))) (fun q=>hb (.inl (S.badC _ _ q))),fun b _ hb _ q=>hb ((a2T (sl:=.val d) S rfl (hm x)).all b q)⟩
    exact ih vs ds _ s₁ S₁ (fun y=>a2N rfl (hm y)) (fun y hy=>hk y (d0u _ hy)) R₁ (Nat.succ.inj hl) fun s' S' k=>h s' S' ⟨fun b o h1 h2 e=>k.heap b o h1 h2 (K.heap b o h1 (h2 _) e),k.os.trans K.os,c9v K.toks k.toks,k.gens.trans K.gens⟩
theorem AOk.in1 {A:Around}(h:AOk (lvl+1) A):AOk lvl A.in1:=by
 refine h.elim (clear% h;fun h1 Z1=>Z1.elim (fun h2 h3=>?_))
 refine⟨h1,c9D (d0l (d0m (c9A _) _) _) h2,?_⟩
 show A.units+1+8*lvl+200<_
 rw [Nat.add_assoc A.units]
 exact c9D (d0l (d0m (c9v (d0c (Nat.add_comm 1 _)) (d0m (by decide:1≤8) _)) _) _) h3
theorem St.around {Γ:Ctx}{sc:a0g}{σ:Store}{oa:Nat→Addr}(S:St G Γ lvl sc σ oa s){A:Around}(h:AOk lvl A):St G { Γ with A:=A } lvl sc σ oa s:=
 { S with aok:=h,slots:=S.slots }
theorem c0U {scope:Scope}{qual:Str}{func:Option Addr}{code:Value}{st:Addr}{oa:Nat→Addr}{xs:List Nat}{vs:List Value}{ds:List D}(g:GSt G s)(hA:AOk (lvl+1) A)(K:ScOK G scope code qual)
  (hT:∀ t∈G.T,B t) (hB:∀ a,B a→∃ o,s.heap.get? a=some o) (hk:∀ x∈xs,scope.names.lookup (G.nm x)=some .local∨scope.names.lookup (G.nm x)=some .cell)
  (hl:xs.length=vs.length) (R:RepL ⟨G.prog,G.w,st⟩ B s.heap s.toks vs ds) {Q:Env→Shared→Prop}
  (hQ:∀ s',St G (a9q s.heap scope qual func code (A.deeper (a6r s.heap scope qual func code)) st B) lvl scope.names (a2F (xs.zip ds) []) oa s'→Kf s s'→Q (a6r s.heap scope qual func code) s') :
  wpAny (model G.prog G.w) A.in1 (newFunctionEnv scope mainGlobals [] ((xs.map G.nm).zip vs) qual func code none builtinsNs) Q E s:=by
 have kf:=b4P s scope
 have S:=a9s (st:=st) (oa:=oa) (func:=func) g hA.in1 K hT hB
 simp only [newFunctionEnv,Option.isSome_none,d0y,if_false]
 refine c9L (wpAny_alloc ?_)
 refine c9L (wpAny_layCells _ (fun name kind cells=>by cases kind==NameKind.cell <;> rfl) _ _ _ _ ?_)
 rw [show ({ s with heap:=s.heap.push { cls:=.type "frame",data:=.dict #[] } }:Shared).heap.objs.size=s.heap.objs.size+1 from d0h ..]
 refine c9L (a9t (Γ:=a9q s.heap scope qual func code A.in1 st B) _ (fun _ _ _=>rfl) xs vs ds [] _ S (fun _=>rfl) hk ?_ hl fun s' S₁ k=>c9M (hQ s' (S₁.around hA.deeper) ⟨fun b o e=>k.heap b o (a3x e).1 (a3x e).2 (kf.heap b o e),k.os,k.toks,k.gens⟩))
 exact R.chg ⟨c9n _,fun b o _=>kf.heap b o,fun b o hb e q=>q.elim (fun q=>q.elim hb fun q=>a0f q.1 e rfl) fun h=>h.elim fun x h=>absurd h.1 c9p⟩
structure Kb (G:GC)(Γ:Ctx)(s s':Shared):Prop where
 heap:∀ b o,b ∉ G.T→b≠Γ.env.locals→(∀ y,Γ.env.cells.lookup y≠some b)→s.heap.get? b=some o→s'.heap.get? b=some o
 os:s'.os=s.os
 toks:s.toks≤s'.toks
 gens:∀ (i:Nat) (x:GenState),s.gens[i]?=some x→s'.gens[i]?=some x
 gst:GSt G s'
structure FdOK (G:GC)(f:Nat)(a:Addr)(o:Obj)(fd:FuncData)(body:List Stmt)(xs:List Nat):Prop where
 mg:G.mg (G.nm f)=some (.ref a)
 get:G.g.get? a=some o
 data:o.data=.func fd
 co:fd.scope.isCoroutine=false
 gen:fd.scope.isGenerator=false
 body:fd.body=.stmts body
 code:G.g.CodeRec fd.code fd.qualname
 clo:fd.closure=[]
 gl:fd.globals=mainGlobals
 bu:fd.builtins=builtinsNs
 sc:ScOK G fd.scope fd.code (fd.qualname++".<locals>.")
 par:∀ x∈xs,fd.scope.names.lookup (G.nm x)=some .local∨fd.scope.names.lookup (G.nm x)=some .cell
noncomputable def c0V (G:GC)(fd:FuncData)(xs:List Nat)(args:List D)(kw:Option D)(ds:List D):Prop:=
 ∀ (B:Addr→Prop) (st:Addr) (s:Shared) (vs:List Value) (kws:List (Str×Value)),GSt G s→RepL ⟨G.prog,G.w,st⟩ B s.heap s.toks vs args→b6K ⟨G.prog,G.w,st⟩ B s.heap s.toks kws kw →
  ∃ vs',BindsTo s fd ⟨vs,kws⟩ ((xs.map G.nm).zip vs')∧xs.length=vs'.length∧RepL ⟨G.prog,G.w,st⟩ B s.heap s.toks vs' ds
noncomputable def b4Q (G:GC)(Γ:Ctx)(s:Shared)(d:D)(m:Sem Flow):Prop:=
 ∀ (Q:Flow→Shared→Prop) (E:Value→Shared→Prop),(∀ fl v s',(fl=.ret v∨(fl=.next∧v=.none))→Kb G Γ s s'→Rep (rc G Γ) Γ.bad s'.heap s'.toks v d→Q fl s')→wpAny (model G.prog G.w) Γ.A m Q E s
theorem a6s {f:Nat}{a:Addr}{o:Obj}{fd:FuncData}{body:List Stmt}{xs:List Nat}{args ds:List D}{kw:Option D}{d:D}(K:FdOK G f a o fd body xs)(hbind:c0V G fd xs args kw ds)
  (hb:∀ (Γ:Ctx) (oa:Nat→Addr) (s:Shared),St G Γ lvl fd.scope.names (a2F (xs.zip ds) []) oa s→b4Q G Γ s d (execs body Γ.env)):c2y G (lvl+1) f args kw d:=by
 refine⟨a,o,fd,K.mg,K.get,K.data,fun A B st s vs kws Q E hA g hT hB R KW hQ=>?_⟩
 obtain⟨vs',hbt,hl,R'⟩:=hbind B st s vs kws g R KW
 refine wpAny_call (codeAny_call_function (c9D (c9v (c9V _ _) (c9V _ _)) hA.2.1) (g.base _ _ K.get) K.data K.co K.gen K.body (K.code.keeps g.base) (hbt _ _ _ _ ?_))
 rw [K.clo,K.gl,K.bu]
 refine c0U (oa:=fun _=>0) g hA K.sc hT hB K.par hl R' fun s₁ S₁ kf=>⟨g.lim.keeps kf.heap,codeAny_func (hb _ _ _ S₁ _ _ fun fl v s' hfl K' r=>?_)⟩
 have kp:Kp G s s':=⟨fun b o hbT e=>K'.heap b o hbT (a3x e).1 (a3x e).2 (kf.heap b o e),K'.os.trans kf.os,c9v kf.toks K'.toks,fun i x e=>K'.gens i x ((c9o (·[i]?) kf.gens).trans e)⟩
 have q:=hQ v s' ⟨kp,K'.gst⟩ (r.weaken fun b hb=>.inl hb)
 rcases hfl with e | ⟨e,e'⟩
 ·rw [e];exact q
 ·rw [e];exact e' ▸ q
theorem a8l {l:List (Nat×D)}{x:Nat}{P:Prop}(h:Store.isOwn (a2F l []) x=true):P:=absurd (a7c l h) c9p
theorem b7N {f:Nat}{a:Addr}{o:Obj}{fd:FuncData}{body:List Stmt}{ps:List PS}{xs:List Nat}{args ds:List D}{kw:Option D}{d:D}{out:Out}(K:FdOK G f a o fd body xs)(hbind:c0V G fd xs args kw ds)
  (hb:SsJ G F lvl fuel fd.scope.names ps body) (hev:a0y F fuel (a2F (xs.zip ds) []) ps=some out) (hout:out=.ret d∨∃ σ',out=.next σ'∧d=.none):c2y G (lvl+1) f args kw d:=by
 refine a6s K hbind fun Γ oa s S Q E hQ=>hb _ (fun _=>true) _ _ _ _ (fun _ _=>rfl) S hev _ _ fun fl s' O=>?_
 have kb:∀ {σ' oa'},Goes G Γ lvl fd.scope.names (fun _=>true) (a2F (xs.zip ds) []) oa s σ' oa' s'→Kb G Γ s s':=fun T=>
  ⟨fun b o hbT h1 h2 e=>T.step.heap b o hbT (fun q=>q.elim h1 fun q=>q.elim (fun q=>q.elim h2) fun q=>q.elim fun x h=>a8l h.1) e,T.step.os,T.step.toks,T.step.gens,T.st.gst⟩
 rcases hout with e | ⟨σ',e,e'⟩
 ·rw [e] at O
  obtain⟨v,e,⟨σ',oa',T⟩,r⟩:=O
  exact hQ _ v s' (.inl e) (kb T) r
 ·rw [e] at O
  refine O.elim (clear% O;fun e Z1=>Z1.elim (fun oa' T=>?_))
  exact hQ _ .none s' (.inr ⟨e,rfl⟩) (kb T) (e' ▸ .none)
end
end
section
theorem c0W {σ:Store}{x:Nat}{sl:Slot}(h:∀ p∈σ,p.1≠x):σ.set x sl=σ++[(x,sl)]:=by
 induction σ with
 | nil=>rfl
 | cons p r ih=>
  show (bif x==p.1 then (p.1,sl) :: r else p :: Store.set r x sl) = _
  rw [c9u.mpr (Ne.symm (h p d0r)),ih fun q hq=>h q (d0u _ hq)]
  rfl
theorem b7O {l:List (Nat×D)}{σ:Store}(hn:(l.map (·.1)).Nodup)(hd:∀ p∈σ,∀ q∈l,p.1≠q.1):a2F l σ=σ++l.map fun p=>(p.1,Slot.val p.2):=by
 induction l generalizing σ with
 | nil=>exact (d0z _).symm
 | cons p l ih=>
  refine (List.nodup_cons.mp hn).elim fun h1 h2=>?_
  show a2F l (σ.set p.1 (.val p.2)) = _
  rw [c0W fun q hq=>hd q hq p d0r,ih h2 fun q hq r hr=>?_,d0A]
  ·rfl
  ·rcases d0v.mp hq with hq | hq
   ·exact hd q hq r (d0u _ hr)
   ·rw [d0i.mp hq]
    exact fun e=>h1 (d0Q.mpr ⟨r,hr,e.symm⟩)
theorem b7P {ks:List Nat}{k:D}:ks.zip (ks.map fun _=>k)=ks.map fun x=>(x,k):=by
 induction ks with
 | nil=>rfl
 | cons a r ih=>exact c9o ((a,k) :: ·) ih
theorem b4R {xs ks:List Nat}{pos:List D}{k:D}(hn:(xs++ks).Nodup)(hl:pos.length=xs.length) :
  a2F ((xs++ks).zip (pos++ks.map fun _=>k)) []=(xs.zip pos++ks.map (fun x=>(x,k))).map fun p=>(p.1,Slot.val p.2):=by
 rw [b7O ((c9o List.Nodup (List.map_fst_zip (d0c (by rw [d0D,d0D,d0a,hl])))).mpr hn) fun p hp=>absurd hp List.not_mem_nil,List.zip_append hl.symm,b7P]
 rfl
structure DefAt (G:GC)(f:Nat)(params kwonly:List Nat)(dflt:List D)(P:a0g→List Stmt→Bool):Prop where
 nd:(params++kwonly).Nodup
 out:∃ (a:Addr) (o:Obj) (fd:FuncData) (body:List Stmt),FdOK G f a o fd body (params++kwonly)∧P fd.scope.names body=true ∧
  ∀ (args:List D) (kw:Option D),(kw=none∨kwonly≠[])→(args++dflt.drop (args.length+dflt.length - params.length)).length=params.length→c0V G fd (params++kwonly) args kw (args++dflt.drop (args.length+dflt.length - params.length)++kwonly.map fun _=>kw.getD (.bool false))
noncomputable def a8m (G:GC)(df:Def):Prop:=DefAt G df.f df.params df.kwonly df.dflt fun sc body=>mSs G.nm sc df.body body
end
section
theorem a9u:isSubtype (.type "KeyError") (.type "LookupError")=pure true:=by rw [c9O];kernel_rfl
section
variable {prog:Program}{w:World}{A:Around}{E:Value→Shared→Prop}{s:Shared}
theorem b1y {d:Addr}{f:Int→Option Value}{c:Nat}{y:Str}{tk:Tok}{Q:Builtin.Str.Mapped→Shared→Prop}(hm:Heap.MapOf (PySem.intKind prog w) s.heap d f)(hv:f c=some (.str y tk))
  (h:∀ s',Kf s s'→Q (.text y) s'):wpAny (model prog w) A (Builtin.Str.tableLookup (.ref d) c) Q E s:=by
 unfold Builtin.Str.tableLookup
 refine c9L (wpAny_attempt (c9L (wpAny_mkInt ?_)))
 refine wpAny_getItem_of (intKind_is prog w c _) hm hv ?_
 dsimp only
 refine c9L (m:=asInt? _) (c9M ?_)
 refine c9L (m:=asStr? _) (c9M ?_)
 exact c9M (h _ (Kf.tok (by show s.toks≤s.toks+1+1;lia)))
theorem b4S {d:Addr}{f:Int→Option Value}{c:Nat}{Q:Builtin.Str.Mapped→Shared→Prop}(hh:A.handled=none)(hd:(d==sysModules)=false)(hm:Heap.MapOf (PySem.intKind prog w) s.heap d f)(hv:f c=none)
  (h:∀ s',Kf s s'→Q .keep s'):wpAny (model prog w) A (Builtin.Str.tableLookup (.ref d) c) Q E s:=by
 unfold Builtin.Str.tableLookup
 refine c9L (wpAny_attempt (c9L (wpAny_mkInt ?_)))
 refine wpAny_getItem_missing_of (intKind_is prog w c _) hd hh hm hv fun h' e he=>?_
 dsimp only
 obtain⟨ob,t,h1,h2,h3⟩:=he.there
 refine c9L (wpAny_isInstance (T:="KeyError") ⟨ob,h1,h2⟩ a9u ?_)
 rw [c9r rfl]
 refine c9L (wpAny_rule ?_)
 exact c9M (h _ ⟨he.keeps,rfl,(by show s.toks≤s.toks+1+1;lia),rfl⟩)
theorem a6t {M:Model}{α:Type}{c:Prop}[Decidable c]{a b:Sem α}{Q:α→Shared→Prop}(hc:¬ c)(h:wpAny M A b Q E s):wpAny M A (if c then a else b) Q E s:=by rw [c9t hc];exact h
theorem b4T {M:Model}{α:Type}{c:Prop}[Decidable c]{a b:Sem α}{Q:α→Shared→Prop}(hc:c)(h:wpAny M A a Q E s):wpAny M A (if c then a else b) Q E s:=by rw [c9r hc];exact h
theorem a9v {M:Model}{α β:Type}{c:α}{b:β}{f:α→β→Sem (ForInStep β)}{Q:β→Shared→Prop}(h:wpAny M A (f c b) (fun r=>Q r.value) E s):wpAny M A (forIn #[c] b f) Q E s:=by
 rw [← Array.forIn_toList,List.forIn_cons]
 refine c9L (d0n h (fun r s₁ h₁=>?_) fun _ _ e=>e)
 cases r with
 | done b=>exact c9M h₁
 | yield b=>exact c9M h₁
theorem a8n {d:Addr}{f:Int→Option Value}{c:Nat}{t tk:Tok}{Q:PySem.Fin→Shared→Prop}(hm:Heap.MapOf (PySem.intKind prog w) s.heap d f)(hv:f c=some (.str ⟨#[92,c]⟩ tk))(hc:c<128)
  (h:∀ s' u,Kf s s'→Q (.done (.ret (.str ⟨#[92,c]⟩ u))) s'):wpAny (model prog w) A (Builtin.«str.translate» ⟨[.str ⟨#[c]⟩ t,.ref d],[]⟩) Q E s:=by
 unfold Builtin.«str.translate»
 refine c9L (wpAny_of_eq (a:=(.str ⟨#[c]⟩ t,⟨#[c]⟩,.ref d)) rfl ?_)
 refine a6t c9p (c9L (a9v ?_))
 have hf:(#[c]:Array Nat).all (fun x=>decide (x<128))=true:=by simp [hc]
 refine a6t (c:=Builtin.Str.tooLong 0=true) (by decide) (b4T hf ?_)
 refine c9L (b1y hm hv fun s₁ k₁=>?_)
 refine c9L (m:=pure none) (c9M ?_)
 refine c9L (wpAny_rule ?_)
 refine a6t c9p ?_
 refine c9L (b1y (a5G hm fun o e=>k₁.heap _ _ e) hv fun s₂ k₂=>?_)
 refine c9M ?_
 refine a6t (c:=Builtin.Str.tooLong 2=true) (by decide) ?_
 refine c9L (wpAny_mkStr (E:=E) (c9M (E:=E) (h _ _ ((k₁.trans k₂).trans (Kf.tok (c9A _))))) ?_)
 show (2:Nat)≤sizeLine
 rw [c9C];decide
theorem a6S {d:Addr}{f:Int→Option Value}{c:Nat}{t:Tok}{Q:PySem.Fin→Shared→Prop}(hh:A.handled=none)(hd:(d==sysModules)=false)(hm:Heap.MapOf (PySem.intKind prog w) s.heap d f)(hv:f c=none)(hc:c<128)
  (h:∀ s' u,Kf s s'→Q (.done (.ret (.str ⟨#[c]⟩ u))) s'):wpAny (model prog w) A (Builtin.«str.translate» ⟨[.str ⟨#[c]⟩ t,.ref d],[]⟩) Q E s:=by
 unfold Builtin.«str.translate»
 refine c9L (wpAny_of_eq (a:=(.str ⟨#[c]⟩ t,⟨#[c]⟩,.ref d)) rfl ?_)
 refine a6t c9p (c9L (a9v ?_))
 have hf:(#[c]:Array Nat).all (fun x=>decide (x<128))=true:=by simp [hc]
 refine a6t (c:=Builtin.Str.tooLong 0=true) (by decide) (b4T hf ?_)
 refine c9L (b4S hh hd hm hv fun s₁ k₁=>?_)
 refine c9M ?_
 refine a6t (c:=Builtin.Str.tooLong 1=true) (by decide) ?_
 refine c9L (wpAny_mkStr (E:=E) (c9M (E:=E) (h _ _ (k₁.trans (Kf.tok (c9A _))))) ?_)
 show (1:Nat)≤sizeLine
 rw [c9C];decide
end
end
section
theorem a7p:mroOf (.type "object")=pure [.type "object"]:=by rw [mroOf_type];kernel_rfl
theorem a5e:typeLookup (.type "object") "__new__"=pure (some (.builtin "object.__new__")):=by rw [d0N,d0O];kernel_rfl
theorem a5f:PySem.Slot "object" "__init__" "object.__init__":=
 .of (owner:="object") (n:="__init__") (by rw [d0N,d0O];kernel_rfl) (by decide +kernel) (by decide +kernel) (by decide +kernel)
  (by first | exact .inl (by decide +kernel) | exact .inr (by decide +kernel)) (by rw [c9O];kernel_rfl)
theorem a8o:TypeCalled "object" "object.__new__" "object.__init__":=
 ⟨by decide +kernel,by decide +kernel,⟨_,_,a7p⟩,madeBy_type a7p a5e (by decide +kernel),by decide +kernel,by rw [c9O];kernel_rfl,a5f⟩
theorem a6u:checkTypeCall "object" ⟨[],[]⟩=pure ():=by kernel_rfl
theorem a6T:checkBuiltinCall "object.__new__" ⟨[.type "object"],[]⟩=pure ():=by kernel_rfl
theorem a3i:plainId "object.__new__"=true:=by decide +kernel
theorem a4G:entryFor table "object.__init__"=some Builtin.«object.__init__»:=entryFor_of_tree (by kernel_rfl)
theorem a5g (a:Value):argsOk "object.__init__" ⟨[a],[]⟩:=by unfold argsOk;kernel_rfl
theorem b0z:Bind.madeHere "object.__new__" (.type "object")=pure ():=by kernel_rfl
theorem a6U:typeHasDict (.type "object")=false:=by decide +kernel
section
variable {prog:Program}{w:World}{A:Around}{E:Value→Shared→Prop}{s:Shared}
noncomputable def a8p:Obj:={ cls:=.type "object",data:=.plain }
theorem a6v {Q₁:Value→Shared→Prop}(h:Q₁ (.ref s.heap.objs.size) { s with heap:=s.heap.push a8p }) :
  codeAny (model prog w) A (.call (.builtin "object.__new__") ⟨[.type "object"],[]⟩) (wants Q₁ E) s:=by
 refine codeAny_of_tree ?_
 show wpAny _ A.in1 (do checkBuiltinCall "object.__new__" ⟨[.type "object"],[]⟩;again (.builtin "object.__new__" ⟨[.type "object"],[]⟩)) _ _ s
 refine c9L (wpAny_of_eq a6T (c9M ⟨plainId_quiet a3i _,codeAny_builtin PySem.F.entry_object_new ?_⟩))
 rw [Around.under_plainId a3i _]
 unfold Builtin.«object.__new__»
 refine c9L (wpAny_of_eq (a:=true) (by first | rfl | kernel_rfl) ?_)
 simp only [Bool.not_true,d0y,if_false]
 rw [c9t (by decide +kernel)]
 refine c9L (wpAny_of_eq b0z ?_)
 simp only [List.isEmpty_nil,Bool.not_true,Bool.or_false,d0y,if_false,a6U]
 refine c9L (c9M ?_)
 refine c9L (wpAny_newObj_type ?_)
 rw [c9t (by decide +kernel)]
 exact c9M h
theorem b0A {Q:Value→Shared→Prop}(h:Q (.ref s.heap.objs.size) { s with heap:=s.heap.push a8p }):wpAny (model prog w) A (call (.type "object") []) Q E s:=by
 refine callType_codes (Q₁:=fun obj s₁=>obj=.ref s.heap.objs.size∧s₁={ s with heap:=s.heap.push a8p }) a8o a6u a4G (a6v ⟨rfl,rfl⟩) fun obj s₁ h₁=>?_
 refine h₁.elim (clear% h₁;fun Z1 Z2=>?_)
 subst Z1
 subst Z2
 refine⟨⟨_,c9H _ rfl,rfl⟩,a5g _,?_⟩
 unfold Builtin.«object.__init__»
 dsimp only
 rw [c9t (by decide)]
 exact c9M ⟨rfl,h⟩
end
end
section
noncomputable def a0W:List Nat:=[40,41,91,93,123,125,63,42,43,45,124,94,36,92,46,38,126,35,32,9,10,13,11,12]
structure EscOK (G:GC):Prop where
 out:∃ (d:Addr) (f:Int→Option Value),b6J G ("_special_chars_map":Str) (.ref d)∧(d==sysModules)=false∧Heap.MapOf (PySem.intKind G.prog G.w) G.g d f ∧
  ∀ c:Nat,c<128→(a0W.contains c=true→∃ tk,f c=some (.str ⟨#[92,c]⟩ tk))∧(a0W.contains c=false→f c=none)
noncomputable def b4U (x:Str):Option Str:=match x.cps.toList with
 | [c]=>grd (decide (c<128)) (some (bif a0W.contains c then ⟨#[92,c]⟩ else ⟨#[c]⟩))
 | _=>none
theorem b4V {x y:Str}(h:b4U x=some y):∃ c,x=⟨#[c]⟩∧c<128∧y=bif a0W.contains c then ⟨#[92,c]⟩ else ⟨#[c]⟩:=by
 obtain⟨⟨l⟩⟩:=x
 cases l with
 | nil=>exact a0e (show none=some y from h)
 | cons c r=>
  cases r with
  | nil=>
   refine a0J (show grd (decide (c<128)) (some _)=some y from h) fun h1 h2=>?_
   exact⟨c,rfl,c9E h1,h2.symm⟩
  | cons=>exact a0e (show none=some y from h)
noncomputable def b7Q (st:Stmt):Expr:=(vs st).o.getD default
noncomputable def c0X (nm:Nat→Str)(p:Nat)(sc:a0g)(st r:Stmt):Bool:=
 isS st .ifs&&mT nm sc (.isStr (.var p)) (vs st).t&&(isS r .ret&&(vs r).o.isSome&&isM "translate" 1 (b7Q r)&&mE nm sc (.var p) (a4S (b7Q r))&&isT (arg (b7Q r) 0) .name&&(vw (arg (b7Q r) 0)).id==("_special_chars_map":Str))&&a5Z sc ("_special_chars_map":Str)
noncomputable def a5h (nm:Nat→Str)(p:Nat)(sc:a0g)(body:List Stmt):Bool:=match body with
 | []=>false
 | st :: _=>!(vs st).a.isEmpty&&c0X nm p sc st ((vs st).a.headD (.Pass default))
section
variable {G:GC}{F:Fns}{lvl:Nat}{Γ:Ctx}{sc:a0g}{σ:Store}{oa:Nat→Addr}{s s':Shared}
theorem Af.kb {Γ:Ctx}(a:Af G s s'):Kb G Γ s s':=⟨fun b o h _ _ e=>a.kp.heap b o h e,a.kp.os,a.kp.toks,a.kp.gens,a.gst⟩
theorem b1z:FOK G (fun _ _ _=>none) lvl:=fun _ _ _ _ h=>a0e h
theorem c4q {r:Stmt}(h:(isS r .ret&&(vs r).o.isSome)=true):∃ p,r=.Return (some (b7Q r)) p:=by
 have e:r=.Return (vs r).o (vs r).pos:=a1R (a0h h).1
 unfold b7Q
 cases ho:(vs r).o with
 | none=>have h2:=(a0h h).2;rw [ho] at h2;exact absurd h2 c9p
 | some v=>rw [ho] at e;exact⟨_,e⟩
theorem b0B {p:Nat}{d:D}:Store.get (a2F ([p].zip [d]) []) p=some (.val d):=by
 show Store.get [(p,Slot.val d)] p = _
 rw [a0S,c9y]
 rfl
theorem c0Y (hB:GlobsOK G)(hE:EscOK G){p:Nat}{body:List Stmt}(h:a5h G.nm p sc body=true){x y:Str}{g:Bool}(hx:b4U x=some y)(S:St G Γ lvl sc (a2F ([p].zip [.str x g]) []) oa s):b4Q G Γ s (.str y) (execs body Γ.env):=fun Q E hQ=>by
 cases body with
 | nil=>exact absurd h c9p
 | cons st rest=>
  refine a0a (show (!(vs st).a.isEmpty&&c0X G.nm p sc st ((vs st).a.headD (.Pass default)))=true from h) fun h0 h=>?_
  cases ha:(vs st).a with
  | nil=>rw [ha] at h0;exact absurd h0 c9p
  | cons r b=>
   rw [ha] at h
   refine a0a (show c0X G.nm p sc st r=true from h) fun h k5=>?_
   refine a0a h (clear% h;fun h hr=>?_)
   refine a0a h (clear% h;fun h1 h2=>?_)
   refine a0a hr (clear% hr;fun hr k4=>?_)
   refine a0a hr (clear% hr;fun hr k3=>?_)
   refine a0a hr (clear% hr;fun hr k2=>?_)
   refine a0a hr (clear% hr;fun hr k1=>?_)
   have e1:st=.If (vs st).t (vs st).a (vs st).b (vs st).pos:=a1R h1
   rw [ha] at e1
   refine (c4q hr).elim fun pr e2=>?_
   rw [e1,e2]
   refine wpAny_execs_cons (wpAny_If (c5O (lvl:=lvl) b1z hB (.isStr (.var p)) h2 _ _ _ _ true S (show ((evE _ _ (.var p)).bind fun u=>u.asStr.map fun _=>true)=some true from by rw [show evE (fun _ _ _=>none) (a2F ([p].zip [D.str x g]) []) (.var p)=some (.str x g) from by show (Store.get _ p).bind _ = _;rw [b0B];rfl];rfl) _ _ fun s₁ a₁=>?_))
   have S₁:=S.af a₁
   obtain⟨d,fm,hg,hd,hm,hf⟩:=hE.out
   have e3:arg (b7Q r) 0=.Name (vw (arg (b7Q r) 0)).id (vw (arg (b7Q r) 0)).pos:=a0w k3
   rw [c9K k4] at e3
   refine (a2O k5).elim fun k6 k7=>?_
   refine wpAny_execs_cons (wpAny_Return_some (a2s PySem.F.slot_str_translate PySem.F.type_str_translate (b6R k1) (a9X (F:=fun _ _ _=>none) b1z hB (.var p) k2) S₁ (u:=.str x g) (by show (Store.get _ p).bind _ = _;rw [b0B];rfl) (x:=x) rfl fun tk s₂ pos a₂=>?_))
   have a:=a₁.trans a₂
   rw [e3]
   refine d0I (d0o ((S.af a).glob k6 hg (d0H ?_)) k7)
   obtain⟨c,ex,hlt,ey⟩:=b4V hx
   have hm₂:Heap.MapOf (PySem.intKind G.prog G.w) s₂.heap d fm:=a5G hm fun o e=>a.gst.base _ _ e
   refine (hf c hlt).elim fun f1 f2=>?_
   rw [ex]
   rw [ey] at hQ
   refine wpAny_call_entry PySem.F.slot_str_translate rfl PySem.F.entry_str_translate ?_ (PySem.F.args_str_translate_2 _ _)
   cases hsp:a0W.contains c with
   | true=>
    rw [hsp] at hQ
    refine (f1 hsp).elim fun tk' htk=>?_
    exact a8n hm₂ htk hlt fun s' u k=>⟨_,rfl,hQ _ _ s' (.inl rfl) (a.kf k).kb (.str _ _ _ nofun)⟩
   | false=>
    rw [hsp] at hQ
    exact a6S S.aok.1 hd hm₂ (f2 hsp) hlt fun s' u k=>⟨_,rfl,hQ _ _ s' (.inl rfl) (a.kf k).kb (.str _ _ _ nofun)⟩
theorem c4r (hB:GlobsOK G)(hE:EscOK G){f p:Nat}(h:DefAt G f [p] [] [] (a5h G.nm p)){x y:Str}{g:Bool}(hx:b4U x=some y):c2y G (lvl+1) f [.str x g] none (.str y):=by
 obtain⟨nd,a,o,fd,body,K,hb,hbind⟩:=h
 exact a6s K (hbind [.str x g] none (.inl rfl) rfl) fun Γ oa s S=>c0Y hB hE hb hx S
end
end
section
structure Ids where
 esc:Nat
 tr:Nat
 tr1:Nat
 join:Nat
 pat:Nat
 star:Nat
 parts:Nat
 escP:Nat
noncomputable def a9w (I:Ids):List PS:=[.asg I.parts false (.call I.tr1 (.cons (.var I.pat) (.cons (.var I.star) (.cons (.str ⟨#[46]⟩) .nil))) .no),.ret (.call I.join (.cons (.var I.parts) (.cons (.var I.star) .nil)) .no)]
noncomputable def a7q (nm:Nat→Str)(I:Ids)(sc:a0g)(body:List Stmt):Bool:=match body with
 | []=>false
 | s1 :: rest=>is1 s1&&isN nm I.star (tg s1)&&isG sc "object" 0 (vs s1).v&&a2S sc (nm I.star)&&mSs nm sc (a9w I) rest&&(I.pat != I.star)&&(I.star != I.parts)
noncomputable def b0C (args:List D)(kw:Option D):Option (Str×Bool):=match args with
 | [d]=>grd kw.isNone d.strG
 | _=>none
theorem a9x {args:List D}{kw:Option D}{x:Str×Bool}(h:b0C args kw=some x):args=[.str x.1 x.2]∧kw=none:=by
 cases args with
 | nil=>exact a0e h
 | cons d r=>
  cases r with
  | nil=>
   refine (a0N h).elim fun h1 h2=>?_
   exact⟨c9o (fun d=>[d]) (a5H h2),d0C.mp h1⟩
  | cons=>exact a0e h
noncomputable def Out.res:Out→Option D
 | .ret d=>some d
 | .next _=>some .none
 | _=>none
theorem c0Z {o:Out}{d:D}(h:o.res=some d):o=.ret d∨∃ σ',o=.next σ'∧d=.none:=by
 cases o with
 | ret e=>exact .inl (c9o Out.ret (c9x h))
 | next σ=>exact .inr ⟨σ,rfl,(c9x h).symm⟩
 | _=>exact a0e h
noncomputable def b0D (df:Def)(args:List D):List D:=args++df.dflt.drop (args.length+df.dflt.length - df.params.length)
noncomputable def a4H (df:Def)(args:List D)(kw:Option D):Store:=(df.params.zip (b0D df args)++df.kwonly.map (fun x=>(x,kw.getD (.bool false)))).map fun p=>(p.1,Slot.val p.2)
noncomputable def runG (I:Ids)(tab:List Def)(fuel:Nat):Nat→Fns
 | 0=>fun _ _ _=>none
 | n+1=>fun f args kw=>
  bif f==I.esc then (b0C args kw).bind fun x=>(b4U x.1).map fun y=>.str y
  else bif f==I.tr then (b0C args kw).bind fun x=>(runG I tab fuel n I.tr1 [.str x.1 x.2,.star,.str ⟨#[46]⟩] none).bind fun d=>(runG I tab fuel n I.join [d,.star] none).bind fun r=>r.strG.map fun y=>.str y.1
  else (tab.find? (fun d=>d.f==f)).bind fun df=>grd (decide ((b0D df args).length=df.params.length)&&(kw.isNone||!df.kwonly.isEmpty)) ((a0y (runG I tab fuel n) fuel (a4H df args kw) df.body).bind Out.res)
structure ObjOK (G:GC):Prop where
 out:b6J G ("object":Str) (.type "object")
section
variable {G:GC}{F:Fns}{lvl fuel:Nat}{Γ:Ctx}{sc:a0g}{σ:Store}{oa:Nat→Addr}{s s':Shared}
theorem St.restar (S:St G Γ lvl sc σ oa s)(hσ:∀ x sl,σ.get x=some sl→∃ y g,sl=.val (.str y g))(a:Addr):St G (Γ.bar a Γ.bad) lvl sc σ oa s:=
 S.move a Γ.bad S.gst S.badT S.badL S.badC S.own S.ownInj S.alloc (fun _ _ _ _ e=>e) fun x sl hx=>⟨sl,hx,fun v sv=>by
  refine (hσ x sl hx).elim fun y Z1=>Z1.elim (fun g e=>?_)
  rw [e] at sv ⊢
  refine (Rep.view sv).elim fun t Z1=>Z1.elim (fun e q=>?_)
  exact e ▸ .str _ t _ q⟩
theorem c8p {x:Nat}{d:D}(h:σ.get x=some (.val d)):evE F σ (.var x)=some d∧strict σ (.var x)=true:=
 ⟨by show (σ.get x).bind _ = _;rw [h];rfl,by show ((σ.get x).bind _).isSome=true;rw [h];rfl⟩
theorem c5P {x:Nat}{d:D}{es:PEs}{l:List D}(h:σ.get x=some (.val d))(hl:a2V F σ es=some l):a2V F σ (.cons (.var x) es)=some (d :: l):=by
 show grd (strict σ (.var x)) ((evE F σ (.var x)).bind fun d=>(a2V F σ es).map fun l=>d :: l) = _
 rw [(c8p (F:=F) h).1,(c8p (F:=F) h).2,hl]
 rfl
theorem a7r {x:Nat}{d:D}(h:σ.get x=some (.val d)):(freezeAll σ).get x=some (.val d):=by
 have go:∀ l:Store,(l.lookup x).isSome=true→Store.get (l.filterMap fun p=>(σ.get p.1).bind fun s=>s.freeze.map fun s'=>(p.1,s')) x=some (.val d):=fun l hl=>by
  induction l with
  | nil=>exact absurd hl c9p
  | cons p r ih=>
   by_cases q:x=p.1
   ·rw [d0T (b:=(p.1,.val d)) (by rw [← q,h];rfl),a0S,c9s.mpr q]
    rfl
   ·have hl:((p :: r:Store).lookup x).isSome=true:=hl
    rw [show (p :: r:Store)=(p.1,p.2) :: r from rfl,c9q,c9u.mpr q] at hl
    cases e:(σ.get p.1).bind fun s=>s.freeze.map fun s'=>(p.1,s') with
    | none=>rw [List.filterMap_cons_none (f:=fun p:Nat×Slot=>(σ.get p.1).bind fun s=>s.freeze.map fun s'=>(p.1,s')) e];exact ih hl
    | some w=>
     obtain⟨s,_,e'⟩:=bnd e
     obtain⟨s',_,e'⟩:=mpd e'
     rw [d0T (f:=fun p:Nat×Slot=>(σ.get p.1).bind fun s=>s.freeze.map fun s'=>(p.1,s')) e,a0S,← e',c9u.mpr q]
     exact ih hl
 exact go σ (by rw [show σ.lookup x=some (.val d) from h];rfl)
theorem c7e {I:Ids}{x y:Str}{g g':Bool}{d:D}(h1:F I.tr1 [.str x g,.star,.str ⟨#[46]⟩] none=some d)(h2:F I.join [d,.star] none=some (.str y g'))(hp:σ.get I.pat=some (.val (.str x g)))(hs:σ.get I.star=some (.val .star))(hm:noMeth σ I.parts=true)(hn:I.star≠I.parts) :
  a0y F fuel σ (a9w I)=some (.ret (.str y g')):=by
 have a1:evE F σ (.call I.tr1 (.cons (.var I.pat) (.cons (.var I.star) (.cons (.str ⟨#[46]⟩) .nil))) .no)=some d:=by
  show (a2V F σ _).bind _ = _
  rw [c5P hp (c5P hs (rfl:a2V F σ (.cons (.str ⟨#[46]⟩) .nil)=some [.str ⟨#[46]⟩]))]
  exact h1
 have s1:evS F fuel σ (.asg I.parts false (.call I.tr1 (.cons (.var I.pat) (.cons (.var I.star) (.cons (.str ⟨#[46]⟩) .nil))) .no))=some (.next (σ.set I.parts (.val d))):=by
  show grd (noMeth σ I.parts) (grd true ((evE F σ _).map _)) = _
  rw [hm,a1]
  rfl
 have s2:evS F fuel (σ.set I.parts (.val d)) (.ret (.call I.join (.cons (.var I.parts) (.cons (.var I.star) .nil)) .no))=some (.ret (.str y g')):=by
  show grd true (((a2V F (freezeAll (σ.set I.parts (.val d))) _).bind _).map _) = _
  rw [c5P (a7r ((Store.get_set ..).trans (c9r rfl))) (c5P (a7r ((Store.get_set ..).trans ((c9t hn).trans hs))) rfl)]
  show Option.map _ (F I.join [d,.star] none) = _
  rw [h2]
  rfl
 show (evS F fuel σ _).bind _ = _
 rw [s1]
 show (evS F fuel _ _).bind _ = _
 rw [s2]
 rfl
theorem c4s (hF:FOK G F lvl)(hB:GlobsOK G)(hO:ObjOK G){I:Ids}{body:List Stmt}(h:a7q G.nm I sc body=true){x y:Str}{g g':Bool}{d:D}
  (h1:F I.tr1 [.str x g,.star,.str ⟨#[46]⟩] none=some d) (h2:F I.join [d,.star] none=some (.str y g')) (S:St G Γ lvl sc (a2F ([I.pat].zip [.str x g]) []) oa s):b4Q G Γ s (.str y) (execs body Γ.env):=fun Q E hQ=>by
 cases body with
 | nil=>exact absurd h c9p
 | cons s1 rest=>
  refine a0a (show (is1 s1&&isN G.nm I.star (tg s1)&&isG sc "object" 0 (vs s1).v&&a2S sc (G.nm I.star)&&mSs G.nm sc (a9w I) rest&&(I.pat != I.star)&&(I.star != I.parts))=true from h) fun h k7=>?_
  refine a0a h (clear% h;fun h k6=>?_)
  refine a0a h (clear% h;fun h k5=>?_)
  refine a0a h (clear% h;fun h k4=>?_)
  refine a0a h (clear% h;fun h k3=>?_)
  refine (a7o (a0h h).1).elim fun p e1=>?_
  refine (a6a k3).elim fun C hl=>?_
  rw [es0 hl] at C
  obtain⟨⟨po,pc,e2⟩,g1,g2,_⟩:=C
  rw [a1a (a0h h).2,e2] at e1
  rw [e1]
  refine wpAny_execs_cons (wpAny_Assign_Name ?_ (a4D rfl))
  refine a2M S g1 hO.out g2 rfl (d0H (b0A ?_))
  have kf:Kf s { s with heap:=s.heap.push a8p }:=Kf.push (c9n _)
  have S₁:=(S.kf kf).restar (fun z sl hz=>by
   rw [show a2F ([I.pat].zip [D.str x g]) []=[(I.pat,.val (.str x g))] from rfl,a0S] at hz
   cases q:z==I.pat with
   | true=>rw [q] at hz;exact⟨_,_,(c9x hz).symm⟩
   | false=>rw [q] at hz;exact a0e hz) s.heap.objs.size
  refine S₁.store (W:=fun _=>true) (d:=.star) (a1H k4) rfl (.star (fun q=>S.newNot q) (c9H _ rfl)) fun s₂ S₂ _ T₂=>?_
  have hev:a0y F 100 (Store.set (a2F ([I.pat].zip [.str x g]) []) I.star (.val .star)) (a9w I)=some (.ret (.str y g')):=
   c7e h1 h2 ((Store.get_set ..).trans ((c9t (bne_iff_ne.mp k6)).trans b0B)) ((Store.get_set ..).trans (c9r rfl)) (a2N rfl rfl) (bne_iff_ne.mp k7)
  refine b7M hF hB (a9w I) k5 (Γ.bar s.heap.objs.size Γ.bad) (fun _=>true) _ _ _ _ (fun _ _=>rfl) S₂ hev _ _ fun f s' O=>?_
  obtain⟨v,e,⟨σ',oa',T⟩,r⟩:=O
  refine hQ _ v s' (.inl e) ⟨fun b ob hbT q1 q2 eb=>?_,T.step.os.trans (T₂.os.trans kf.os),c9v kf.toks (c9v T₂.toks T.step.toks),fun i z ez=>T.step.gens i z (T₂.gens i z ((c9o (·[i]?) kf.gens).trans ez)),T.st.gst⟩ ?_
  ·exact T.step.heap b ob hbT (fun q=>q.elim q1 fun q=>q.elim (fun q=>q.elim q2) fun q=>q.elim fun z h=>a8l (a2A rfl h.1).2) (T₂.heap b ob hbT (fun q=>q.elim q1 fun q=>q.elim (fun q=>q.elim q2) fun q=>q.elim fun z h=>a8l h.1) (kf.heap _ _ eb))
  ·refine (r.view).elim fun t Z1=>Z1.elim (fun e _=>?_)
   exact e ▸ .str _ t _ nofun
theorem c7f (hF:FOK G F lvl)(hB:GlobsOK G)(hO:ObjOK G){I:Ids}(h:DefAt G I.tr [I.pat] [] [] (a7q G.nm I)){x y:Str}{g g':Bool}{d:D}
  (h1:F I.tr1 [.str x g,.star,.str ⟨#[46]⟩] none=some d) (h2:F I.join [d,.star] none=some (.str y g')):c2y G (lvl+1) I.tr [.str x g] none (.str y):=by
 obtain⟨nd,a,o,fd,body,K,hb,hbind⟩:=h
 exact a6s K (hbind [.str x g] none (.inl rfl) rfl) fun Γ oa s S=>c4s hF hB hO hb h1 h2 S
theorem b4W {I:Ids}{tab:List Def}(hB:GlobsOK G)(hE:EscOK G)(hO:ObjOK G)(he:DefAt G I.esc [I.escP] [] [] (a5h G.nm I.escP))(htr:DefAt G I.tr [I.pat] [] [] (a7q G.nm I))(ht:∀ df∈tab,a8m G df)(n:Nat):FOK G (runG I tab fuel n) n:=by
 induction n with
 | zero=>exact fun f args kw d h=>a0e h
 | succ n ih=>
  intro f args kw d h
  have h:(bif f==I.esc then (b0C args kw).bind fun x=>(b4U x.1).map fun y=>D.str y
   else bif f==I.tr then (b0C args kw).bind fun x=>(runG I tab fuel n I.tr1 [.str x.1 x.2,.star,.str ⟨#[46]⟩] none).bind fun d=>(runG I tab fuel n I.join [d,.star] none).bind fun r=>r.strG.map fun y=>D.str y.1
   else (tab.find? (fun d=>d.f==f)).bind fun df=>grd (decide ((b0D df args).length=df.params.length)&&(kw.isNone||!df.kwonly.isEmpty)) ((a0y (runG I tab fuel n) fuel (a4H df args kw) df.body).bind Out.res))=some d:=h
  cases b1:f==I.esc with
  | true=>
   rw [b1] at h
   refine a0j (show (b0C args kw).bind _=some d from h) fun x hx h=>?_
   refine a2p h (clear% h;fun y hy h=>?_)
   refine (a9x hx).elim fun ea ek=>?_
   rw [c9K b1,ea,ek,← h]
   exact c4r hB hE he hy
  | false=>
   rw [b1] at h
   cases b2:f==I.tr with
   | true=>
    rw [b2] at h
    refine a0j (show (b0C args kw).bind _=some d from h) fun x hx h=>?_
    refine a0j h (clear% h;fun d1 h1 h=>?_)
    refine a0j h (clear% h;fun r h2 h=>?_)
    refine a2p h (clear% h;fun y hy h=>?_)
    refine (a9x hx).elim fun ea ek=>?_
    rw [a5H hy] at h2
    rw [c9K b2,ea,ek,← h]
    exact c7f ih hB hO htr h1 h2
   | false=>
    rw [b2] at h
    refine a0j (show (tab.find? (fun d=>d.f==f)).bind _=some d from h) fun df hf h=>?_
    refine (a0N h).elim fun hc h=>?_
    refine a0j h (clear% h;fun o he ho=>?_)
    obtain⟨nd,a,ob,fd,body,K,hm,hbind⟩:=ht df (List.mem_of_find?_eq_some hf)
    have hl:=c9E (a0h hc).1
    have hff:(df.f==f)=true:=by have q:=List.find?_some hf;exact q
    rw [← c9K hff]
    refine b7N K (hbind args kw ((or2 (a0h hc).2).imp d0C.mp fun q e=>?_) hl) (b7M ih hB df.body hm) ((c9o (fun σ=>a0y _ fuel σ df.body) (b4R nd hl)).trans he) (c0Z ho)
    rw [e] at q
    exact c9p q
end
end
section
noncomputable def b0E:Value→Option Addr
 | .ref a=>some a
 | _=>none
theorem a6w {v:Value}{a:Addr}(h:b0E v=some a):v=.ref a:=by
 cases v with
 | ref b=>exact c9o Value.ref (c9x h)
 | _=>exact a0e h
noncomputable def b9i:Data→Option FuncData
 | .func fd=>some fd
 | _=>none
theorem b3a {d:Data}{fd:FuncData}(h:b9i d=some fd):d=.func fd:=by
 cases d with
 | func b=>exact c9o Data.func (c9x h)
 | _=>exact a0e h
noncomputable def b1A:Data→Option (Array Value)
 | .fields vs=>some vs
 | _=>none
theorem a9y {d:Data}{vs:Array Value}(h:b1A d=some vs):d=.fields vs:=by
 cases d with
 | fields b=>exact c9o Data.fields (c9x h)
 | _=>exact a0e h
noncomputable def b4X:Value→Option Str
 | .str x _=>some x
 | _=>none
theorem a7s {v:Value}{x:Str}(h:b4X v=some x):∃ t,v=.str x t:=by
 cases v with
 | str y t=>exact⟨t,c9o (Value.str · t) (c9x h)⟩
 | _=>exact a0e h
noncomputable def b4Y:FuncBody→Option (List Stmt)
 | .stmts b=>some b
 | _=>none
theorem b0F {d:FuncBody}{b:List Stmt}(h:b4Y d=some b):d=.stmts b:=by
 cases d with
 | stmts b=>exact c9o FuncBody.stmts (c9x h)
 | _=>exact a0e h
noncomputable def c1a (K:Frag)(a:Addr):Option FuncData:=(K.lookup a).bind fun o=>b9i o.data
noncomputable def b9j (K:Frag)(v:Value):Option Str:=(b0E v).bind fun c=>(K.lookup c).bind fun o=>(b1A o.data).bind fun vs=>vs[1]?.bind b4X
theorem b3b {K:Frag}{v:Value}{q:Str}{h:Heap}(X:K.In h)(e:b9j K v=some q):h.CodeRec v q:=by
 refine a0j e (clear% e;fun c h1 e=>?_)
 refine a0j e (clear% e;fun o h2 e=>?_)
 refine a0j e (clear% e;fun vs h3 e=>?_)
 refine a0j e (clear% e;fun w h4 e=>?_)
 refine (a7s e).elim fun t e=>?_
 exact⟨c,o,vs,t,a6w h1,X _ _ h2,a9y h3,h4.trans (c9o some e)⟩
noncomputable def c1b (K:Frag)(nm:Nat→Str)(lamC:Bool→Addr)(lamQ:Bool→Str)(ps:List Nat)(P:a0g→List Stmt→Bool)(fd:FuncData):Bool:=
 !fd.scope.isCoroutine&&!fd.scope.isGenerator&&(b4Y fd.body).any (P fd.scope.names)&&b9j K fd.code==some fd.qualname&&fd.closure.isEmpty&&fd.globals==mainGlobals&&fd.builtins==builtinsNs&&fd.scope.kind==.function &&
 fd.scope.names.all (fun p=>fd.scope.names.lookup p.1==some p.2&&p.2 != .free)&&(a3Q fd.scope.names).all (fun i=>b0E fd.code==some (lamC i)&&fd.qualname++".<locals>."==lamQ i) &&
 ps.all (fun x=>fd.scope.names.lookup (nm x)==some .local||fd.scope.names.lookup (nm x)==some .cell)
noncomputable def a9z (K:Frag)(nm:Nat→Str)(lamC:Bool→Addr)(lamQ:Bool→Str)(f:Nat)(a:Addr)(params kwonly:List Nat)(P:a0g→List Stmt→Bool):Bool:=
 ((nsIn K mainGlobals (nm f)).bind fun o=>o.bind b0E)==some a&&(c1a K a).any (c1b K nm lamC lamQ (params++kwonly) P)&&decide (params++kwonly).Nodup
theorem a5i {α:Type}{o:Option α}{p:α→Bool}(h:o.any p=true):∃ x,o=some x∧p x=true:=by
 cases o with
 | none=>exact absurd h c9p
 | some x=>exact⟨x,rfl,h⟩
theorem c4t {G:GC}{K:Frag}(X:K.In G.g){f:Nat}{a:Addr}{ps:List Nat}{P:a0g→List Stmt→Bool}(h1:((nsIn K mainGlobals (G.nm f)).bind fun o=>o.bind b0E)=some a){fd:FuncData}(hfd:c1a K a=some fd)(h:c1b K G.nm G.lamC G.lamQ ps P fd=true) :
  ∃ o body,FdOK G f a o fd body ps∧P fd.scope.names body=true:=by
 refine a0j h1 (clear% h1;fun ov hns h1=>?_)
 refine a0j h1 (clear% h1;fun v hv h1=>?_)
 rw [hv,a6w h1] at hns
 refine a0j hfd (clear% hfd;fun o ho hd=>?_)
 refine a0a h (clear% h;fun h c11=>?_)
 refine a0a h (clear% h;fun h c10=>?_)
 refine a0a h (clear% h;fun h c9=>?_)
 refine a0a h (clear% h;fun h c8=>?_)
 refine a0a h (clear% h;fun h c7=>?_)
 refine a0a h (clear% h;fun h c6=>?_)
 refine a0a h (clear% h;fun h c5=>?_)
 refine a0a h (clear% h;fun h c4=>?_)
 refine a0a h (clear% h;fun h c3=>?_)
 refine a0a h (clear% h;fun c1 c2=>?_)
 refine (a5i c3).elim fun body Z1=>Z1.elim (fun hb hP=>?_)
 refine⟨o,body,⟨mg_of X G.gns hns,X _ _ ho,b3a hd,a1L c1,a1L c2,b0F hb,b3b X (c9K c4),d0B.mp c5,c9K c6,c9K c7,⟨c9K c8,fun p hp=>c9K (a0h (c9Q.mp c9 p hp)).1,fun p hp=>bne_iff_ne.mp (a0h (c9Q.mp c9 p hp)).2,fun i hl=>?_⟩,fun x hx=>(or2 (c9Q.mp c11 x hx)).imp c9K c9K⟩,hP⟩
 rw [hl] at c10
 refine a0a (show (b0E fd.code==some (G.lamC i)&&fd.qualname++".<locals>."==G.lamQ i)=true from c10) fun d1 d2=>?_
 exact⟨a6w (c9K d1),c9K d2⟩
noncomputable def c1c (K:Frag)(G:GC)(fd:FuncData)(params kwonly:List Nat)(dflt:List D):Prop:=
 ∀ (args:List D) (kw:Option D) (B:Addr→Prop) (st:Addr) (s:Shared) (vs:List Value) (kws:List (Str×Value)),K.In s.heap→(kw=none∨kwonly≠[])→(args++dflt.drop (args.length+dflt.length - params.length)).length=params.length →
  RepL ⟨G.prog,G.w,st⟩ B s.heap s.toks vs args→b6K ⟨G.prog,G.w,st⟩ B s.heap s.toks kws kw →
  ∃ vs',(∀ S,peek K S (bindArgs fd ⟨vs,kws⟩)=some (((params++kwonly).map G.nm).zip vs'))∧(params++kwonly).length=vs'.length ∧
   RepL ⟨G.prog,G.w,st⟩ B s.heap s.toks vs' (args++dflt.drop (args.length+dflt.length - params.length)++kwonly.map fun _=>kw.getD (.bool false))
theorem a8q {G:GC}{K:Frag}(X:K.In G.g){f:Nat}{a:Addr}{params kwonly:List Nat}{dflt:List D}{P:a0g→List Stmt→Bool}(hc:a9z K G.nm G.lamC G.lamQ f a params kwonly P=true)
  (hb:∀ fd,c1a K a=some fd→c1c K G fd params kwonly dflt):DefAt G f params kwonly dflt P:=by
 refine a0a hc (clear% hc;fun hc h3=>?_)
 refine a0a hc (clear% hc;fun h1 h2=>?_)
 refine (a5i h2).elim fun fd Z1=>Z1.elim (fun hfd h2=>?_)
 obtain⟨o,body,F,hP⟩:=c4t X (c9K h1) hfd h2
 refine⟨c9E h3,a,o,fd,body,F,hP,fun args kw hkw hlen B st s vs kws g R KW=>?_⟩
 have Xs:K.In s.heap:=X.keeps g.base
 obtain⟨vs',e1,e2,e3⟩:=hb fd hfd args kw B st s vs kws Xs hkw hlen R KW
 exact⟨vs',kp_binds Xs e1,e2,e3⟩
theorem a4i {G:GC}{K:Frag}(X:K.In G.g){f:Nat}{a:Addr}{params:List Nat}{P:a0g→List Stmt→Bool}(hc:a9z K G.nm G.lamC G.lamQ f a params [] P=true)
  (hb:∀ vs:List Value,vs.length=params.length→∀ S,(c1a K a).bind (fun fd=>peek K S (bindArgs fd ⟨vs,[]⟩))=some ((params.map G.nm).zip vs)):DefAt G f params [] [] P:=by
 refine a8q X hc fun fd hfd args kw B st s vs kws Xs hkw hlen R KW=>?_
 rw [hkw.resolve_right fun h=>h rfl] at KW ⊢
 rw [List.drop_nil,d0z] at hlen ⊢
 have hl:vs.length=params.length:=R.length.trans hlen
 rw [show kws=[] from KW,d0z]
 exact⟨vs,fun S=>(show peek K S (bindArgs fd ⟨vs,[]⟩) = _ from by have:=hb vs hl S;rw [hfd] at this;exact this),hl.symm,(d0z args).symm ▸ R⟩
end
section
theorem LamTab.mono {h h':Heap}{q:Str}{l:List Value}(x:LamTab h q l)(k:∀ c r,CodeAt h c r→CodeAt h' c r):LamTab h' q l:=by
 induction x with
 | nil=>exact .nil
 | cons line col t u c' r hc _ ih=>exact .cons line col t u c' r (k _ _ hc) ih
theorem LamTab.snoc {h:Heap}{q:Str}{l:List Value}(x:LamTab h q l)(a b:Int){c:Addr}(hc:CodeAt h c (q++a5Q b)):LamTab h q (l++[rawInt a,rawInt b,.ref c]):=by
 induction x with
 | nil=>exact .cons a b _ _ c [] hc .nil
 | cons line col t u c' r hc' _ ih=>exact .cons line col t u c' _ hc' ih
theorem CodeAt.mono {h h':Heap}{c:Addr}{q:Str}(x:CodeAt h c q)(k:∀ o vs,o.data=.fields vs→o.cls=.type "code"→h.get? c=some o→h'.get? c=some o):CodeAt h' c q:=by
 obtain⟨o,vs,t,g1,g2,g3,g4⟩:=x
 exact⟨o,vs,t,k o vs g3 g2 g1,g2,g3,g4⟩
theorem a6x {h h':Heap}{c p:Addr}(x:CodeHd h c p)(k:∀ o vs,o.data=.fields vs→o.cls=.type "code"→h.get? c=some o→h'.get? c=some o):CodeHd h' c p:=by
 obtain⟨o,vs,a1,a2,a3,a4,a5,a6,a7,e1,e2,e3,r⟩:=x
 exact⟨o,vs,a1,a2,a3,a4,a5,a6,a7,k o vs e3 e2 e1,e2,e3,r⟩
noncomputable def b7R (C P:Bool→Addr)(Q:Bool→Str)(h:Heap):Prop:=∀ i,CodeHd h (C i) (P i)∧∃ ps,h.get? (P i)=some (tabObj ps)∧LamTab h (Q i) ps.toList
noncomputable def c8Q (prog:Program)(w:World)(g:Heap)(mg mb:Str→Option Value)(nm:Nat→Str)(nmInj:∀ i j,nm i=nm j→i=j)(C P:Bool→Addr)(Q:Bool→Str)(hPQ:∀ i j,P i=P j→Q i=Q j)
  (gns:g.Ns mainGlobals mg) (bns:g.Ns builtinsNs mb) (lim:g.NoLimit) (bm:∀ i,g.BuiltinsAt mg (P i)) (nw:∀ i,g.get? (P i)=none):GC where
 prog:=prog
 w:=w
 g:=g
 T:=[P false,P true]
 tabOk:=b7R C P Q
 tabGet:=fun h H t ht=>by
  rcases c9U.mp ht with rfl | ht
  ·obtain⟨_,ps,h2,_⟩:=H false;exact⟨_,h2⟩
  ·rw [d0i] at ht;subst ht;obtain⟨_,ps,h2,_⟩:=H true;exact⟨_,h2⟩
 mono:=fun h h' k H i=>by
  obtain⟨hd,ps,h2,l⟩:=H i
  exact⟨a6x hd fun o vs d c=>k _ o vs d (.inr c),ps,k _ _ _ rfl (.inl rfl) h2,l.mono fun c q x=>x.mono fun o vs d c=>k _ o vs d (.inr c)⟩
 tabNew:=fun t ht=>by
  rcases c9U.mp ht with rfl | ht
  ·exact nw _
  ·rw [d0i] at ht;subst ht;exact nw _
 nm:=nm
 nmInj:=nmInj
 mg:=mg
 mb:=mb
 gns:=gns
 bns:=bns
 lim:=lim
 lamC:=C
 lamP:=P
 lamQ:=Q
 lamIn:=fun i=>by cases i <;> simp
 lamAt:=fun i h H=>H i
 lamPut:=fun i h h' ps c' pos H hP hx hP' hc j=>by
  have old:∀ {c:Addr} (o:Obj) (vs:Array Value),o.data=.fields vs→o.cls=.type "code"→h.get? c=some o→h'.get? c=some o:=fun {c} o _ _ ho e=>hx _ _ (fun q=>by rw [q,hP] at e;rw [← c9x e] at ho;cases ho) e
  obtain⟨hd,ps',h2,l⟩:=H j
  refine⟨a6x hd old,?_⟩
  have l':LamTab h' (Q j) ps'.toList:=l.mono fun c q x=>x.mono old
  by_cases q:P j=P i
  ·rw [q,hP] at h2
   cases h2
   rw [q]
   refine⟨_,hP',?_⟩
   rw [Array.toList_append]
   exact l'.snoc _ _ (hPQ _ _ q ▸ hc)
  ·exact⟨ps',hx _ _ q h2,l'⟩
 bmain:=bm
section
variable {G:GC}{lvl:Nat}{s:Shared}
theorem b4Z {sx x:Nat}{d:D}{sl:Slot}(h:Store.get [(sx,.val d)] x=some sl):x=sx∧sl=.val d:=by
 rw [a0S] at h
 cases q:x==sx with
 | true=>rw [q] at h;exact⟨c9K q,(c9x h).symm⟩
 | false=>rw [q] at h;exact a0e h
theorem a6y {sx x:Nat}{d:D}{P:Prop}(h:Store.isOwn [(sx,.val d)] x=true):P:=by
 refine (a2I h).elim fun sl Z1=>Z1.elim (fun h1 h2=>?_)
 rw [(b4Z h1).2] at h2
 exact absurd h2 c9p
theorem b5a {L fa:Addr}{cd:Value}{name:Str}{scope:Scope}{m:Str→Option Value}{sx:Nat}{v:Value}{d:D}{A:Around}(g:GSt G s)(F:Fr G.g L s.heap m)(hkind:scope.kind=.function)
  (hcell:∀ x,scope.names.lookup x≠some .cell∧scope.names.lookup x≠some .free) (hlam:a3Q scope.names=none) (hx:scope.names.lookup (G.nm sx)=some .local) (hm:m (G.nm sx)=some v) (hA:AOk lvl A)
  (R:Rep ⟨G.prog,G.w,0⟩ (fun b=>b∈G.T∨b=L) s.heap s.toks v d) :
  St G ⟨A,envOf name scope L fa cd,0,fun b=>b∈G.T∨b=L⟩ lvl scope.names [(sx,.val d)] (fun _=>0) s where
 aok:=hA
 kind:=hkind
 names:=rfl
 code:=fun i q=>a0e (hlam.symm.trans q)
 globals:=rfl
 builtins:=rfl
 newL:=Heap.get?_none_of_le F.above
 newC:=fun x c hc=>a0e hc
 cellInj:=fun x y c hc=>a0e hc
 gst:=g
 badT:=fun t ht=>.inl ht
 badL:=.inr rfl
 badC:=fun x c hc=>a0e hc
 own:=fun x hx=>a6y hx
 ownInj:=fun x y hx=>a6y hx
 alloc:=fun a ha=>ha.elim (fun ha=>ha.elim (fun ha=>(G.tabGet _ g.tab a ha).elim fun ps e=>⟨_,e⟩) fun q=>(a4V F.ns).elim fun o e=>⟨o,q ▸ e.1⟩) fun h=>h.elim fun x h=>a6y h.1
 cellAt:=fun x hx=>hx.elim (fun h=>absurd h (hcell x).1) fun h=>absurd h (hcell x).2
 slots:=⟨m,F.ns,fun x sl hx'=>by
  refine (b4Z hx').elim fun e1 e2=>?_
  rw [e1,e2]
  exact⟨v,.loc hx hm,R.weaken fun b hb=>hb.elim id fun h=>h.elim fun y h=>a6y h.1⟩⟩
end
end
section
noncomputable def nmL (tab:List (List Nat))(i:Nat):List Nat:=(tab[i]?).getD [1114112+i]
noncomputable def c7g (tab:List (List Nat))(i:Nat):Str:=⟨⟨nmL tab i⟩⟩
theorem c1d {tab:List (List Nat)}(h1:tab.Nodup)(h2:tab.all (fun l=>l.all (·<1114112))=true){i j:Nat}(h:nmL tab i=nmL tab j):i=j:=by
 have no:∀ {i j:Nat} {l:List Nat},tab[i]?=some l→l≠[1114112+j]:=fun {i j l} e q=>by
  have p:=c9Q.mp h2 l (List.mem_of_getElem? e)
  rw [q] at p
  exact absurd (c9E (a0h (a:=decide (1114112+j<1114112)) p).1) (Nat.not_lt.mpr (c9V _ _))
 unfold nmL at h
 cases e1:tab[i]? with
 | none=>
  cases e2:tab[j]? with
  | none=>rw [e1,e2] at h;exact Nat.add_left_cancel (List.head_eq_of_cons_eq h)
  | some l=>rw [e1,e2] at h;exact absurd h.symm (no e2)
 | some l=>
  cases e2:tab[j]? with
  | none=>rw [e1,e2] at h;exact absurd h (no e1)
  | some l'=>
   rw [e1,e2] at h
   have h:l=l':=h
   exact (List.getElem?_inj (d0j.mp e1).1 h1).mp (e1.trans (h ▸ e2.symm))
theorem b7S {tab:List (List Nat)}(h1:tab.Nodup)(h2:tab.all (fun l=>l.all (·<1114112))=true)(i j:Nat)(h:c7g tab i=c7g tab j):i=j:=c1d h1 h2 (c9o (fun s=>s.cps.toList) h)
theorem c7h {G:GC}{I:Ids}{tab:List Def}{fuel n:Nat}(hB:GlobsOK G)(hE:EscOK G)(hO:ObjOK G)(he:DefAt G I.esc [I.escP] [] [] (a5h G.nm I.escP))(htr:DefAt G I.tr [I.pat] [] [] (a7q G.nm I))(ht:∀ df∈tab,a8m G df)
  {x:Nat} {body:List Stmt} {ps:List PS} {scope:Scope} (hm:mSs G.nm scope.names ps body=true)
  {L fa:Addr} {cd:Value} {name:Str} {m:Str→Option Value} {s:Shared} {v:Value} {d r:D} {A:Around} (g:GSt G s) (F:Fr G.g L s.heap m) (hkind:scope.kind=.function)
  (hcell:∀ y,scope.names.lookup y≠some .cell∧scope.names.lookup y≠some .free) (hlam:a3Q scope.names=none) (hx:scope.names.lookup (G.nm x)=some .local) (hmx:m (G.nm x)=some v) (hA:AOk n A)
  (R:Rep ⟨G.prog,G.w,0⟩ (fun b=>b∈G.T∨b=L) s.heap s.toks v d) (hev:a0y (runG I tab fuel n) fuel [(x,.val d)] ps=some (.ret r))
  {Q:Flow→Shared→Prop} {E:Value→Shared→Prop} (hQ:∀ v s' m',Rep ⟨G.prog,G.w,0⟩ (fun b=>b∈G.T∨b=L) s'.heap s'.toks v r→Fr G.g L s'.heap m'→s'.os=s.os→GSt G s'→Q (.ret v) s') :
  wpAny (model G.prog G.w) A (execs body (envOf name scope L fa cd)) Q E s:=by
 have S:=b5a (fa:=fa) (cd:=cd) (name:=name) g F hkind hcell hlam hx hmx hA R
 refine b7M (b4W hB hE hO he htr ht n) hB ps hm ⟨A,envOf name scope L fa cd,0,fun b=>b∈G.T∨b=L⟩ (fun _=>true) _ _ _ _ (fun _ _=>rfl) S hev _ _ fun f s' O=>?_
 obtain⟨v',e,⟨σ',oa',T⟩,R'⟩:=O
 refine (T.st.slots).elim fun m' Z1=>Z1.elim (fun hns _=>?_)
 exact e ▸ hQ _ _ m' R' ⟨hns,T.st.gst.base,F.above⟩ T.step.os T.st.gst
end
section
noncomputable def c7i:List (List Nat):=[[115],[116],[100,97,116,97],[120],[99],[97,115,99,105,105,95,100,97,116,97],[95,97,115,99,105,105,95,98,117,102,102,101,114],[115,116,114,105,99,116,95,109,111,100,101],[95,116,114,117,116,104],[111,117,116],[113,117,97,100,95,112,111,115],[108,101,102,116,99,104,97,114],[112,97,100,115],[105],[116,104,105,115,95,99,104],[95,98,54,52,95,118,97,108,117,101],[95,98,121,116,101,115,95,102,114,111,109,95,100,101,99,111,100,101,95,100,97,116,97],[97,108,116,99,104,97,114,115],[118,97,108,105,100,97,116,101],[97,50,98,95,98,97,115,101,54,52],[114,101,115],[97,100,100],[110],[112,97,116],[83,84,65,82],[106],[115,116,117,102,102],[99,104,117,110,107,115],[107],[99,104,117,110,107],[101,115,99,97,112,101],[105,110,112],[102,105,120,101,100],[116,101,120,116],[99,101,108,108,115],[115,99,114,105,112,116],[114,101,97,100,101,114,115],[99,101,108,108],[115,105,103,110,115],[108,101,102,116],[114,101,115,116],[115,105,122,101],[115,105,103,110],[112,105,99,107,115],[114,101,97,100,101,114],[108,111,111,115,101],[111,110,101],[116,119,111],[98,111,116,104],[95,108,97,119,95,108,101,116,116,101,114,115],[116,101,120,116,115],[98,97,103],[112,108,97,99,101],[119,97,121],[95,101,115,99,97,112,101,95,99,100,97,116,97],[95,101,115,99,97,112,101,95,99,100,97,116,97,95,99,49,52,110],[95,101,115,99,97,112,101,95,97,116,116,114,105,98],[95,101,115,99,97,112,101,95,97,116,116,114,105,98,95,99,49,52,110],[95,101,115,99,97,112,101,95,97,116,116,114,105,98,95,104,116,109,108],[116,111,108,100],[102,105,108,108],[112,97,103,101],[111,99,116,101,116,115],[98,54,52,100,101,99,111,100,101],[95,108,97,119,95,119,114,105,116,116,101,110],[117,110,108,105,107,101],[98,97,114,114,101,100],[108,97,116,101,114],[104,121,112,104,101,110,115],[98,114,97,99,107,101,116],[101,120,112,114,101,115,115,105,111,110],[116,114,97,110,115,108,97,116,101],[112,105,101,99,101],[114,111,119,115],[114,111,119],[98,97,103,115],[115,111,109,101],[99,111,117,110,116,115],[104,101,114,101],[116,111,114,110],[95,108,97,119,95,100,114,97,119,110],[95,108,97,119,95,108,111,111,115,101],[95,108,97,119,95,98,97,114,114,101,100],[95,108,97,119,95,116,101,120,116,115],[95,108,97,119,95,116,111,108,100],[95,108,97,119,95,117,110,108,105,107,101],[95,108,97,119,95,99,111,117,110,116,101,100],[115,116,114,97,105,103,104,116],[95,108,97,119,95,116,111,114,110],[95,116,114,97,110,115,108,97,116,101],[95,106,111,105,110,95,116,114,97,110,115,108,97,116,101,100,95,112,97,114,116,115],[112,97,114,116,115],[112,97,116,116,101,114,110],[108,97,119],[81,85,69,83,84,73,79,78,95,77,65,82,75]]
noncomputable def a1q:List PS:=[(.ifs (.isStr (.var 0)) [(.try [(.ret (.encode (.var 0)))])] []),.fail]
noncomputable def a6V:List PS:=[(.asg 1 false (.typeOf (.var 2))),(.ifs (.cmp .Is (.var 1) (.typ "str")) [(.ifs (.not (.isascii (.var 2) )) [.fail] []),(.ret (.encode (.var 2)))] []),(.ifs (.cmp .Is (.var 1) (.typ "bytes")) [(.ret (.var 2))] []),.fail]
noncomputable def c1e:List PS:=[(.asg 1 false (.typeOf (.var 3))),(.ifs (.or (.cons (.cmp .Is (.var 3) .none) (.cons (.cmp .Is (.var 1) (.typ "bool")) (.cons (.cmp .Is (.var 1) (.typ "int")) (.cons (.cmp .Is (.var 1) (.typ "float")) (.cons (.cmp .Is (.var 1) (.typ "complex")) (.cons (.cmp .Is (.var 1) (.typ "str")) (.cons (.cmp .Is (.var 1) (.typ "bytes")) (.cons (.cmp .Is (.var 1) (.typ "bytearray")) (.cons (.cmp .Is (.var 1) (.typ "list")) (.cons (.cmp .Is (.var 1) (.typ "tuple")) (.cons (.cmp .Is (.var 1) (.typ "dict")) (.cons (.cmp .Is (.var 1) (.typ "set")) (.cons (.cmp .Is (.var 1) (.typ "frozenset")) (.cons (.cmp .Is (.var 1) (.typ "range")) .nil))))))))))))))) [(.ret (.ite (.var 3) (.bool true) (.bool false)))] []),.fail]
noncomputable def b0G:List PS:=[(.ifs (.cmp2 (.int 65) .LtE (.var 4) .LtE (.int 90)) [(.ret (.bin .Sub (.var 4) (.int 65)))] []),(.ifs (.cmp2 (.int 97) .LtE (.var 4) .LtE (.int 122)) [(.ret (.bin .Sub (.var 4) (.int 71)))] []),(.ifs (.cmp2 (.int 48) .LtE (.var 4) .LtE (.int 57)) [(.ret (.bin .Add (.var 4) (.int 4)))] []),(.ifs (.cmp .Eq (.var 4) (.int 43)) [(.ret (.int 62))] []),(.ifs (.cmp .Eq (.var 4) (.int 47)) [(.ret (.int 63))] []),(.ret (.int 64))]
noncomputable def a1S:List PS:=[(.asg 5 false (.call 6 (.cons (.var 2) .nil) .no)),(.asg 7 false (.call 8 (.cons (.var 7) .nil) .no)),(.asg 9 true (.list .nil)),(.asg 10 false (.int 0)),(.asg 11 false (.int 0)),(.asg 12 false (.int 0)),(.asg 13 false (.int 0)),(.for (.one 14) (.var 5) [(.ifs (.cmp .Eq (.var 14) (.int 61)) [(.asg 12 false (.bin .Add (.var 12) (.int 1))),(.ifs (.and (.cons (.cmp .GtE (.var 10) (.int 2)) (.cons (.cmp .LtE (.bin .Add (.var 10) (.var 12)) (.int 4)) .nil))) [(.asg 13 false (.bin .Add (.var 13) (.int 1))),.cont] []),(.ifs (.not (.var 7)) [(.asg 13 false (.bin .Add (.var 13) (.int 1))),.cont] []),(.ifs (.cmp .Eq (.var 10) (.int 1)) [.brk] []),(.ifs (.and (.cons (.cmp .Eq (.var 10) (.int 0)) (.cons (.cmp .Eq (.var 13) (.int 0)) .nil))) [.fail] []),.fail] []),(.asg 14 false (.call 15 (.cons (.var 14) .nil) .no)),(.ifs (.cmp .GtE (.var 14) (.int 64)) [(.ifs (.var 7) [.fail] []),(.asg 13 false (.bin .Add (.var 13) (.int 1))),.cont] []),(.ifs (.and (.cons (.var 12) (.cons (.var 7) .nil))) [(.ifs (.cmp .Eq (.bin .Add (.var 10) (.var 12)) (.int 4)) [.fail] []),.fail] []),(.asg 12 false (.int 0)),(.ifs (.cmp .Eq (.var 10) (.int 0)) [(.asg 10 false (.int 1)),(.asg 11 false (.var 14))] [(.ifs (.cmp .Eq (.var 10) (.int 1)) [(.asg 10 false (.int 2)),(.app 9 (.bin .BitOr (.bin .LShift (.var 11) (.int 2)) (.bin .RShift (.var 14) (.int 4)))),(.asg 11 false (.bin .BitAnd (.var 14) (.int 15)))] [(.ifs (.cmp .Eq (.var 10) (.int 2)) [(.asg 10 false (.int 3)),(.app 9 (.bin .BitOr (.bin .LShift (.var 11) (.int 4)) (.bin .RShift (.var 14) (.int 2)))),(.asg 11 false (.bin .BitAnd (.var 14) (.int 3)))] [(.asg 10 false (.int 0)),(.app 9 (.bin .BitOr (.bin .LShift (.var 11) (.int 6)) (.var 14))),(.asg 11 false (.int 0))])])]),(.asg 13 false (.bin .Add (.var 13) (.int 1)))]),(.ifs (.cmp .Eq (.var 10) (.int 1)) [.fail] []),(.ifs (.and (.cons (.cmp .NotEq (.var 10) (.int 0)) (.cons (.cmp .Lt (.bin .Add (.var 10) (.var 12)) (.int 4)) .nil))) [.fail] []),(.ret (.bytesOf (.var 9)))]
noncomputable def a2k:List PS:=[(.asg 0 false (.call 16 (.cons (.var 0) .nil) .no)),(.ifs (.cmp .IsNot (.var 17) .none) [(.asg 17 false (.call 16 (.cons (.var 17) .nil) .no)),(.assert (.cmp .Eq (.len (.var 17)) (.int 2))),(.asg 0 false (.btranslate (.var 0) (.var 17) (.bytes [43,47])))] []),(.ret (.call 19 (.cons (.var 0) .nil) (.yes (.var 18))))]
noncomputable def a2Y:List PS:=[(.asg 20 true (.list .nil)),.getm 21 20,(.asgT [13,22] (.tup (.cons (.int 0) (.cons (.len (.var 23)) .nil)))),(.while (.cmp .Lt (.var 13) (.var 22)) [(.asg 4 false (.idx (.var 23) (.var 13))),(.asg 13 false (.bin .Add (.var 13) (.int 1))),(.ifs (.cmp .Eq (.var 4) (.str ⟨#[42]⟩)) [(.ifs (.or (.cons (.not (.var 20)) (.cons (.cmp .IsNot (.idx (.var 20) (.neg (.int 1))) (.var 24)) .nil))) [(.appV 21 (.var 24))] [])] [(.ifs (.cmp .Eq (.var 4) (.str ⟨#[63]⟩)) [.fail] [(.ifs (.cmp .Eq (.var 4) (.str ⟨#[91]⟩)) [(.asg 25 false (.var 13)),(.ifs (.and (.cons (.cmp .Lt (.var 25) (.var 22)) (.cons (.cmp .Eq (.idx (.var 23) (.var 25)) (.str ⟨#[33]⟩)) .nil))) [.fail] []),(.ifs (.and (.cons (.cmp .Lt (.var 25) (.var 22)) (.cons (.cmp .Eq (.idx (.var 23) (.var 25)) (.str ⟨#[93]⟩)) .nil))) [.fail] []),(.while (.and (.cons (.cmp .Lt (.var 25) (.var 22)) (.cons (.cmp .NotEq (.idx (.var 23) (.var 25)) (.str ⟨#[93]⟩)) .nil))) [(.asg 25 false (.bin .Add (.var 25) (.int 1)))]),(.ifs (.cmp .GtE (.var 25) (.var 22)) [.fail] [(.asg 26 false (.slice (.var 23) (.yes (.var 13)) (.yes (.var 25)))),(.ifs (.cmp .NotIn (.str ⟨#[45]⟩) (.var 26)) [(.asg 26 false (.replace (.var 26) (.str ⟨#[92]⟩) (.str ⟨#[92,92]⟩)))] [(.asg 27 true (.list .nil)),(.asg 28 false (.ite (.cmp .Eq (.idx (.var 23) (.var 13)) (.str ⟨#[33]⟩)) (.bin .Add (.var 13) (.int 2)) (.bin .Add (.var 13) (.int 1)))),(.while (.bool true) [(.asg 28 false (.find (.var 23) (.str ⟨#[45]⟩) (.var 28) (.var 25))),(.ifs (.cmp .Lt (.var 28) (.int 0)) [.brk] []),.fail]),(.asg 29 false (.slice (.var 23) (.yes (.var 13)) (.yes (.var 25)))),(.ifs (.var 29) [(.app 27 (.var 29))] [.fail]),(.for (.one 28) (.range3 (.bin .Sub (.len (.var 27)) (.int 1)) (.int 0) (.neg (.int 1))) [.fail]),(.asg 26 false (.joinEsc 27))]),(.asg 26 false (.resub 26)),(.asg 13 false (.bin .Add (.var 25) (.int 1))),(.ifs (.not (.var 26)) [.fail] [(.ifs (.cmp .Eq (.var 26) (.str ⟨#[33]⟩)) [.fail] [(.ifs (.cmp .Eq (.idx (.var 26) (.int 0)) (.str ⟨#[33]⟩)) [.fail] [(.ifs (.cmp .In (.idx (.var 26) (.int 0)) (.tup (.cons (.str ⟨#[94]⟩) (.cons (.str ⟨#[91]⟩) .nil)))) [.fail] [])]),(.appV 21 (.fstr (.cons (.str ⟨#[91]⟩) (.cons (.var 26) (.cons (.str ⟨#[93]⟩) .nil)))))])])])] [(.appV 21 (.call 30 (.cons (.var 4) .nil) .no))])])])]),(.assert (.cmp .Eq (.var 13) (.var 22))),(.ret (.var 20))]
noncomputable def a2Z:List PS:=[(.asg 20 true (.list .nil)),.getm 21 20,(.asgT [13,22] (.tup (.cons (.int 0) (.cons (.len (.var 31)) .nil)))),(.while (.and (.cons (.cmp .Lt (.var 13) (.var 22)) (.cons (.cmp .IsNot (.idx (.var 31) (.var 13)) (.var 24)) .nil))) [(.appV 21 (.idx (.var 31) (.var 13))),(.aug 13 .Add (.int 1))]),(.while (.cmp .Lt (.var 13) (.var 22)) [(.assert (.cmp .Is (.idx (.var 31) (.var 13)) (.var 24))),(.aug 13 .Add (.int 1)),(.ifs (.cmp .Eq (.var 13) (.var 22)) [(.appV 21 (.str ⟨#[46,42]⟩)),.brk] []),(.assert (.cmp .IsNot (.idx (.var 31) (.var 13)) (.var 24))),(.asg 32 true (.list .nil)),(.while (.and (.cons (.cmp .Lt (.var 13) (.var 22)) (.cons (.cmp .IsNot (.idx (.var 31) (.var 13)) (.var 24)) .nil))) [(.app 32 (.idx (.var 31) (.var 13))),(.aug 13 .Add (.int 1))]),(.asg 32 false (.join (.str ⟨#[]⟩) (.var 32))),(.ifs (.cmp .Eq (.var 13) (.var 22)) [(.appV 21 (.str ⟨#[46,42]⟩)),(.appV 21 (.var 32))] [(.appV 21 (.fstr (.cons (.str ⟨#[40,63,62,46,42,63]⟩) (.cons (.var 32) (.cons (.str ⟨#[41]⟩) .nil)))))])]),(.assert (.cmp .Eq (.var 13) (.var 22))),.drop [21],(.asg 20 false (.join (.str ⟨#[]⟩) (.var 20))),(.ret (.fstr (.cons (.str ⟨#[40,63,115,58]⟩) (.cons (.var 20) (.cons (.str ⟨#[41,92,90]⟩) .nil)))))]
noncomputable def a3X:List PS:=[(.try [(.ifs (.cmp .In (.str ⟨#[38]⟩) (.var 33)) [(.asg 33 false (.replace (.var 33) (.str ⟨#[38]⟩) (.str ⟨#[38,97,109,112,59]⟩)))] []),(.ifs (.cmp .In (.str ⟨#[60]⟩) (.var 33)) [(.asg 33 false (.replace (.var 33) (.str ⟨#[60]⟩) (.str ⟨#[38,108,116,59]⟩)))] []),(.ifs (.cmp .In (.str ⟨#[62]⟩) (.var 33)) [(.asg 33 false (.replace (.var 33) (.str ⟨#[62]⟩) (.str ⟨#[38,103,116,59]⟩)))] []),(.ret (.var 33))])]
noncomputable def a3y:List PS:=[(.try [(.ifs (.cmp .In (.str ⟨#[38]⟩) (.var 33)) [(.asg 33 false (.replace (.var 33) (.str ⟨#[38]⟩) (.str ⟨#[38,97,109,112,59]⟩)))] []),(.ifs (.cmp .In (.str ⟨#[60]⟩) (.var 33)) [(.asg 33 false (.replace (.var 33) (.str ⟨#[60]⟩) (.str ⟨#[38,108,116,59]⟩)))] []),(.ifs (.cmp .In (.str ⟨#[62]⟩) (.var 33)) [(.asg 33 false (.replace (.var 33) (.str ⟨#[62]⟩) (.str ⟨#[38,103,116,59]⟩)))] []),(.ifs (.cmp .In (.str ⟨#[34]⟩) (.var 33)) [(.asg 33 false (.replace (.var 33) (.str ⟨#[34]⟩) (.str ⟨#[38,113,117,111,116,59]⟩)))] []),(.ifs (.cmp .In (.str ⟨#[13]⟩) (.var 33)) [(.asg 33 false (.replace (.var 33) (.str ⟨#[13]⟩) (.str ⟨#[38,35,49,51,59]⟩)))] []),(.ifs (.cmp .In (.str ⟨#[10]⟩) (.var 33)) [(.asg 33 false (.replace (.var 33) (.str ⟨#[10]⟩) (.str ⟨#[38,35,49,48,59]⟩)))] []),(.ifs (.cmp .In (.str ⟨#[9]⟩) (.var 33)) [(.asg 33 false (.replace (.var 33) (.str ⟨#[9]⟩) (.str ⟨#[38,35,48,57,59]⟩)))] []),(.ret (.var 33))])]
noncomputable def a1Y:List PS:=[(.try [(.ifs (.cmp .In (.str ⟨#[38]⟩) (.var 33)) [(.asg 33 false (.replace (.var 33) (.str ⟨#[38]⟩) (.str ⟨#[38,97,109,112,59]⟩)))] []),(.ifs (.cmp .In (.str ⟨#[62]⟩) (.var 33)) [(.asg 33 false (.replace (.var 33) (.str ⟨#[62]⟩) (.str ⟨#[38,103,116,59]⟩)))] []),(.ifs (.cmp .In (.str ⟨#[34]⟩) (.var 33)) [(.asg 33 false (.replace (.var 33) (.str ⟨#[34]⟩) (.str ⟨#[38,113,117,111,116,59]⟩)))] []),(.ret (.var 33))])]
noncomputable def a2l:List PS:=[(.try [(.ifs (.cmp .In (.str ⟨#[38]⟩) (.var 33)) [(.asg 33 false (.replace (.var 33) (.str ⟨#[38]⟩) (.str ⟨#[38,97,109,112,59]⟩)))] []),(.ifs (.cmp .In (.str ⟨#[60]⟩) (.var 33)) [(.asg 33 false (.replace (.var 33) (.str ⟨#[60]⟩) (.str ⟨#[38,108,116,59]⟩)))] []),(.ifs (.cmp .In (.str ⟨#[62]⟩) (.var 33)) [(.asg 33 false (.replace (.var 33) (.str ⟨#[62]⟩) (.str ⟨#[38,103,116,59]⟩)))] []),(.ifs (.cmp .In (.str ⟨#[13]⟩) (.var 33)) [(.asg 33 false (.replace (.var 33) (.str ⟨#[13]⟩) (.str ⟨#[38,35,120,68,59]⟩)))] []),(.ret (.var 33))])]
noncomputable def a1Z:List PS:=[(.try [(.ifs (.cmp .In (.str ⟨#[38]⟩) (.var 33)) [(.asg 33 false (.replace (.var 33) (.str ⟨#[38]⟩) (.str ⟨#[38,97,109,112,59]⟩)))] []),(.ifs (.cmp .In (.str ⟨#[60]⟩) (.var 33)) [(.asg 33 false (.replace (.var 33) (.str ⟨#[60]⟩) (.str ⟨#[38,108,116,59]⟩)))] []),(.ifs (.cmp .In (.str ⟨#[34]⟩) (.var 33)) [(.asg 33 false (.replace (.var 33) (.str ⟨#[34]⟩) (.str ⟨#[38,113,117,111,116,59]⟩)))] []),(.ifs (.cmp .In (.str ⟨#[9]⟩) (.var 33)) [(.asg 33 false (.replace (.var 33) (.str ⟨#[9]⟩) (.str ⟨#[38,35,120,57,59]⟩)))] []),(.ifs (.cmp .In (.str ⟨#[10]⟩) (.var 33)) [(.asg 33 false (.replace (.var 33) (.str ⟨#[10]⟩) (.str ⟨#[38,35,120,65,59]⟩)))] []),(.ifs (.cmp .In (.str ⟨#[13]⟩) (.var 33)) [(.asg 33 false (.replace (.var 33) (.str ⟨#[13]⟩) (.str ⟨#[38,35,120,68,59]⟩)))] []),(.ret (.var 33))])]
noncomputable def a4j:List PS:=[(.asg 34 true (.list (.cons (.int 314) (.cons (.int 135) (.cons (.int 0) (.cons (.int 0) (.cons (.int 3505) (.cons (.int 592) .nil)))))))),(.for (.many [28,3]) (.enum (.slice (.var 35) .no (.yes (.int 60)))) [(.augI 34 (.bin .Mod (.var 28) (.int 6)) .Add (.bin .Mod (.var 3) (.int 1000000)))]),(.asg 36 true (.list .nil)),(.for (.one 37) (.slice (.var 34) .no (.yes (.bin .Add (.int 1) (.bin .Mod (.idx (.var 34) (.int 4)) (.int 4))))) [(.app 36 (.tup (.cons (.bin .Mod (.var 37) (.int 5)) (.cons (.bin .Add (.idx (.str ⟨#[60,62,34,9,10,13,45,46]⟩) (.bin .Mod (.bin .FloorDiv (.var 37) (.int 5)) (.int 8))) (.idx (.str ⟨#[60,62,34,9,10,13,45,46]⟩) (.bin .Mod (.bin .FloorDiv (.var 37) (.int 40)) (.int 8)))) .nil))))]),(.asgT [38,39,40] (.tup (.cons (.str ⟨#[]⟩) (.cons (.str ⟨#[38,60,62,34,9,10,13,45,46]⟩) (.cons (.bin .FloorDiv (.idx (.var 34) (.int 4)) (.int 4)) .nil))))),(.for (.one 41) (.range3 (.int 9) (.int 5) (.neg (.int 1))) [(.asg 42 false (.idx (.var 39) (.bin .Mod (.var 40) (.var 41)))),(.asgT [38,39,40] (.tup (.cons (.bin .Add (.var 38) (.var 42)) (.cons (.replace (.var 39) (.var 42) (.str ⟨#[]⟩)) (.cons (.bin .FloorDiv (.var 40) (.var 41)) .nil)))))]),(.asg 43 false (.sorted (.comp [34] (.bin .Mod (.bin .FloorDiv (.idx (.var 34) (.int 5)) (.bin .Pow (.int 4) (.var 28))) (.int 4)) (.one 28) (.range1 (.int 5)) .nil .nil))),(.ret (.tup (.cons (.var 36) (.cons (.var 38) (.cons (.join (.str ⟨#[]⟩) (.comp [38] (.idx (.var 38) (.var 28)) (.one 28) (.var 43) .nil .nil)) .nil)))))]
noncomputable def a8r:List PS:=[(.ifs (.cmp .In (.var 42) (.idx (.list (.cons (.str ⟨#[38,60,62]⟩) (.cons (.str ⟨#[38,60,62,13]⟩) (.cons (.str ⟨#[38,60,62,34,13,10,9]⟩) (.cons (.str ⟨#[38,60,34,13,10,9]⟩) (.cons (.str ⟨#[38,62,34]⟩) .nil)))))) (.idx (.var 44) (.int 0)))) [(.ret (.ite (.cmp .Eq (.var 42) (.str ⟨#[38]⟩)) (.int 3) (.ite (.cmp .Eq (.var 42) (.str ⟨#[34]⟩)) (.int 4) (.int 2))))] []),(.ret (.ite (.cmp .In (.var 42) (.idx (.var 44) (.int 1))) (.int 1) (.int 0)))]
noncomputable def a6z:List PS:=[(.asg 45 true (.list .nil)),(.for (.one 46) (.var 38) [(.for (.one 47) (.var 38) [(.asg 48 false (.comp [46,47] (.var 44) (.one 44) (.var 36) (.cons (.cmp .Gt (.bin .Mult (.call 49 (.cons (.var 44) (.cons (.var 46) .nil)) .no) (.call 49 (.cons (.var 44) (.cons (.var 47) .nil)) .no)) (.int 0)) .nil) .nil)),(.ifs (.and (.cons (.cmp .NotEq (.var 46) (.var 47)) (.cons (.cmp .Eq (.var 48) (.list .nil)) .nil))) [(.app 45 (.bin .Add (.var 46) (.var 47)))] [])])]),(.ret (.var 45))]
noncomputable def a6A:List PS:=[(.asg 50 false (.list (.cons (.tup (.cons (.str ⟨#[]⟩) (.cons (.var 51) .nil))) .nil))),(.for (.one 52) (.range1 (.len (.var 51))) [(.asg 50 false (.comp [38] (.tup (.cons (.bin .Add (.var 33) (.var 42)) (.cons (.rep1 (.var 40) 42) .nil))) (.many [33,40]) (.var 50) .nil (.cons (.one 42) (.var 38) (.cons (.cmp .In (.var 42) (.var 40)) .nil) .nil)))]),(.ret (.comp [] (.var 33) (.many [33,40]) (.var 50) .nil .nil))]
noncomputable def a3a:List PS:=[(.ifs (.cmp .Eq (.var 53) (.int 0)) [(.ret (.call 54 (.cons (.var 33) .nil) .no))] []),(.ifs (.cmp .Eq (.var 53) (.int 1)) [(.ret (.call 55 (.cons (.var 33) .nil) .no))] []),(.ifs (.cmp .Eq (.var 53) (.int 2)) [(.ret (.call 56 (.cons (.var 33) .nil) .no))] []),(.ifs (.cmp .Eq (.var 53) (.int 3)) [(.ret (.call 57 (.cons (.var 33) .nil) .no))] []),(.ret (.call 58 (.cons (.var 33) .nil) .no))]
noncomputable def a7t:List PS:=[(.asg 59 false (.comp [] (.bytes []) (.one 33) (.var 50) .nil .nil)),(.for (.one 44) (.var 36) [(.asg 60 false (.bin .Mult (.str ⟨#[65]⟩) (.bin .Mod (.neg (.sum (.comp [44] (.call 49 (.cons (.var 44) (.cons (.var 42) .nil)) .no) (.one 42) (.var 51) .nil .nil))) (.int 4)))),(.asg 61 false (.join (.str ⟨#[]⟩) (.comp [60] (.bin .Add (.var 33) (.var 60)) (.one 33) (.var 50) .nil .nil))),(.asg 62 false (.call 63 (.cons (.call 64 (.cons (.idx (.var 44) (.int 0)) (.cons (.var 61) .nil)) .no) (.cons (.idx (.var 44) (.int 1)) .nil)) .no)),(.asg 41 false (.bin .FloorDiv (.len (.var 62)) (.len (.var 50)))),(.asg 59 false (.comp [59,62,41] (.bin .Add (.idx (.var 59) (.var 28)) (.slice (.var 62) (.yes (.bin .Mult (.var 28) (.var 41))) (.yes (.bin .Add (.bin .Mult (.var 28) (.var 41)) (.var 41))))) (.one 28) (.range1 (.len (.var 50))) .nil .nil))]),(.ret (.var 59))]
noncomputable def a5x:List PS:=[(.asg 65 true (.list .nil)),(.for (.one 46) (.var 59) [(.ifs (.cmp .NotIn (.var 46) (.var 65)) [(.app 65 (.var 46))] [])]),(.ret (.var 65))]
noncomputable def a5y:List PS:=[(.asg 66 true (.list .nil)),(.for (.one 28) (.range1 (.len (.var 38))) [(.asg 67 false (.comp [38,28,45] (.var 42) (.one 42) (.slice (.var 38) (.yes (.bin .Add (.var 28) (.int 1))) .no) (.cons (.cmp .In (.bin .Add (.idx (.var 38) (.var 28)) (.var 42)) (.var 45)) .nil) .nil)),(.ifs (.cmp .NotEq (.var 67) (.list .nil)) [(.asg 68 false (.comp [] (.var 42) (.one 42) (.var 67) (.cons (.cmp .Eq (.var 42) (.str ⟨#[45]⟩)) .nil) .nil)),(.asg 69 false (.join (.str ⟨#[]⟩) (.bin .Add (.var 68) (.comp [] (.var 42) (.one 42) (.var 67) (.cons (.cmp .NotEq (.var 42) (.str ⟨#[45]⟩)) .nil) .nil)))),(.asg 70 false (.call 71 (.cons (.bin .Add (.bin .Add (.bin .Add (.bin .Add (.str ⟨#[42,91]⟩) (.var 69)) (.str ⟨#[93]⟩)) (.idx (.var 38) (.var 28))) (.str ⟨#[42]⟩)) .nil) .no)),(.ifs (.cmp .NotEq (.bin .Add (.slice (.var 70) .no (.yes (.int 11))) (.slice (.var 70) (.yes (.neg (.int 6))) .no)) (.str ⟨#[40,63,115,58,40,63,62,46,42,63,91,41,46,42,41,92,90]⟩)) [(.ret .none)] []),(.asg 72 false (.replace (.slice (.var 70) (.yes (.int 11)) (.yes (.neg (.int 6)))) (.str ⟨#[92]⟩) (.str ⟨#[]⟩))),(.ext 66 (.comp [72] (.bin .Add (.var 42) (.idx (.var 72) (.neg (.int 1)))) (.one 42) (.slice (.var 72) .no (.yes (.neg (.int 2)))) .nil .nil))] [])]),(.ret (.var 66))]
noncomputable def a4I:List PS:=[(.asg 73 false (.list (.cons (.str ⟨#[]⟩) .nil))),(.for (.one 42) (.var 38) [(.asg 73 false (.bin .Add (.var 73) (.comp [42,45] (.bin .Add (.var 74) (.var 42)) (.one 74) (.var 73) (.cons (.cmp .Eq (.comp [42,45] (.var 46) (.one 46) (.var 74) (.cons (.cmp .NotIn (.bin .Add (.var 46) (.var 42)) (.var 45)) .nil) .nil) (.list .nil)) .nil) .nil)))]),(.asg 75 false (.list (.cons (.str ⟨#[]⟩) .nil))),(.for (.one 42) (.var 38) [(.asg 75 false (.comp [42,51] (.bin .Add (.var 76) (.bin .Mult (.var 42) (.var 28))) (.one 76) (.var 75) .nil (.cons (.one 28) (.range1 (.bin .Add (.count (.var 51) (.var 42)) (.int 1))) .nil .nil)))]),(.asgD 77 ⟨#[]⟩ 1),(.for (.one 76) (.slice (.var 75) (.yes (.int 1)) .no) [(.asgI 77 (.var 76) (.int 0)),(.for (.one 74) (.slice (.var 73) (.yes (.int 1)) .no) [(.asg 40 false (.var 76)),(.for (.one 42) (.var 74) [(.asg 40 false (.rep1 (.var 40) 42))]),(.ifs (.cmp .Eq (.bin .Add (.len (.var 40)) (.len (.var 74))) (.len (.var 76))) [(.augD 77 (.var 76) .Add (.ite (.cmp .Eq (.bin .Mod (.len (.var 74)) (.int 2)) (.int 1)) (.idx (.var 77) (.var 40)) (.neg (.idx (.var 77) (.var 40)))))] [])])]),(.ret (.idx (.var 77) (.var 51)))]
noncomputable def a5j:List PS:=[(.asg 78 false (.join (.str ⟨#[]⟩) (.comp [51] (.var 42) (.one 42) (.var 38) (.cons (.cmp .In (.var 42) (.var 51)) .nil) .nil))),(.asg 79 true (.list .nil)),(.for (.one 28) (.range1 (.len (.var 78))) [(.for (.one 46) (.slice (.var 78) .no (.yes (.var 28))) [(.for (.one 47) (.slice (.var 78) (.yes (.bin .Add (.var 28) (.int 1))) .no) [(.ifs (.and (.cons (.cmp .In (.bin .Add (.var 46) (.idx (.var 78) (.var 28))) (.var 45)) (.cons (.cmp .In (.bin .Add (.idx (.var 78) (.var 28)) (.var 47)) (.var 45)) (.cons (.cmp .NotIn (.bin .Add (.var 46) (.var 47)) (.var 45)) .nil)))) [(.app 79 (.bin .Add (.bin .Add (.var 46) (.idx (.var 78) (.var 28))) (.var 47)))] [])])])]),(.ret (.var 79))]
noncomputable def b0H:List PS:=[(.asgT [36,38,51] (.call 80 (.cons (.var 35) .nil) .no)),(.asg 45 false (.call 81 (.cons (.var 36) (.cons (.var 38) .nil)) .no)),(.asg 66 false (.call 82 (.cons (.var 38) (.cons (.var 45) .nil)) .no)),(.ifs (.cmp .Is (.var 66) .none) [(.ret (.bool false))] []),(.asg 50 false (.call 83 (.cons (.var 38) (.cons (.var 51) .nil)) .no)),(.asg 59 false (.call 84 (.cons (.var 36) (.cons (.var 51) (.cons (.var 50) .nil))) .no)),(.asg 65 false (.call 85 (.cons (.var 59) .nil) .no)),(.ifs (.cmp .NotEq (.len (.var 65)) (.call 86 (.cons (.var 38) (.cons (.var 51) (.cons (.var 45) .nil))) .no)) [(.ret (.bool false))] []),(.asg 87 false (.comp [50,66,59] (.idx (.var 59) (.var 13)) (.one 13) (.range1 (.len (.var 50))) (.cons (.cmp .Eq (.comp [50,13,66] (.var 28) (.one 28) (.range1 (.int 4)) (.cons (.cmp .In (.slice (.idx (.var 50) (.var 13)) (.yes (.var 28)) (.yes (.bin .Add (.var 28) (.int 2)))) (.var 66)) .nil) .nil) (.list .nil)) .nil) .nil)),(.ifs (.cmp .NotEq (.comp [87] (.var 46) (.one 46) (.var 65) (.cons (.cmp .NotIn (.var 46) (.var 87)) .nil) .nil) (.list .nil)) [(.ret (.bool false))] []),(.ret (.cmp .Eq (.cmp .Eq (.len (.var 87)) (.len (.var 65))) (.cmp .Eq (.call 88 (.cons (.var 38) (.cons (.var 51) (.cons (.var 45) .nil))) .no) (.list .nil))))]
noncomputable def a0p:List Def:=[
 ⟨16,[0],[],[],a1q⟩,
 ⟨6,[2],[],[],a6V⟩,
 ⟨8,[3],[],[],c1e⟩,
 ⟨15,[4],[],[],b0G⟩,
 ⟨19,[2],[7],[],a1S⟩,
 ⟨63,[0,17,18],[],[.none,.bool false],a2k⟩,
 ⟨89,[23,24,94],[],[],a2Y⟩,
 ⟨90,[31,24],[],[],a2Z⟩,
 ⟨54,[33],[],[],a3X⟩,
 ⟨56,[33],[],[],a3y⟩,
 ⟨58,[33],[],[],a1Y⟩,
 ⟨55,[33],[],[],a2l⟩,
 ⟨57,[33],[],[],a1Z⟩,
 ⟨80,[35],[],[],a4j⟩,
 ⟨49,[44,42],[],[],a8r⟩,
 ⟨81,[36,38],[],[],a6z⟩,
 ⟨83,[38,51],[],[],a6A⟩,
 ⟨64,[53,33],[],[],a3a⟩,
 ⟨84,[36,51,50],[],[],a7t⟩,
 ⟨85,[59],[],[],a5x⟩,
 ⟨82,[38,45],[],[],a5y⟩,
 ⟨86,[38,51,45],[],[],a4I⟩,
 ⟨88,[38,51,45],[],[],a5j⟩,
 ⟨93,[35],[],[],b0H⟩]
noncomputable def ids:Ids:=⟨30,71,89,90,23,24,91,92⟩
noncomputable def c8q:Nat:=93
end
section
noncomputable def c5Q (p:Program)(w:World)(n₀:Nat)(ann:Option Value):Nat→SharedT→Thread→Option SharedT
 | 0,_,_=>none
 | n+1,s,t=>match through t with
  | true=>some s
  | false=>match stepOk n₀ ann t with
   | false=>none
   | true=>match stepT (denote treeTable) p w s t with
    | some (s',t')=>c5Q p w n₀ ann n s' t'
    | none=>none
theorem b5b {p:Program}{w:World}{n₀:Nat}{ann:Option Value}:∀ (n:Nat) (s s':SharedT) (t:Thread),c5Q p w n₀ ann n s t=some s'→topRun treeTable p w n₀ ann n s.abs t=some s'.abs
 | 0,_,_,_,h=>nomatch (show none=some _ from h)
 | n+1,s,s',t,h=>by
  unfold topRun
  unfold c5Q at h
  cases h1:through t with
  | true=>rw [h1] at h;rw [c9x h]
  | false=>
   rw [h1] at h
   cases h2:stepOk n₀ ann t with
   | false=>rw [h2] at h;cases h
   | true=>
    rw [h2] at h
    cases h3:stepT (denote treeTable) p w s t with
    | none=>rw [h3] at h;cases h
    | some r=>
     rw [h3] at h
     dsimp only
     rw [stepT_spec h3]
     exact b5b n _ _ _ h
noncomputable def b1B:List Obj→BT→Nat→Option (BT×Nat)
 | [],t,n=>some (t,n)
 | o :: r,t,n=>match (t.ins n o).get n with
  | some _=>b1B r (t.ins n o) (n+1)
  | none=>none
theorem a9A {life:Life}:∀ (l:List Obj) (t:BT) (n:Nat) (t':BT) (n':Nat) (h:Heap),b1B l t n=some (t',n')→absHeap t n life=h→absHeap t' n' life=l.foldl Heap.push h
 | [],t,n,t',n',h,e,r=>by cases e;exact r
 | o :: l,t,n,t',n',h,e,r=>by
  unfold b1B at e
  cases h1:(t.ins n o).get n with
  | none=>rw [h1] at e;cases e
  | some q=>
   rw [h1] at e
   exact a9A l _ _ _ _ _ e (by rw [absHeap_ins (by rw [h1];rfl),r])
theorem b1C {life:Life}:∀ (l:List Obj) (a:List Obj),l.foldl Heap.push ⟨a.toArray,life⟩=⟨(a++l).toArray,life⟩
 | [],a=>by rw [d0z];rfl
 | o :: l,a=>by
  rw [d0L,show Heap.push ⟨a.toArray,life⟩ o=⟨(a++[o]).toArray,life⟩ from by simp [Heap.push],b1C l,d0A];rfl
noncomputable def toT (s:Shared):Option SharedT:=(b1B s.heap.objs.toList .nil 0).map fun x=>{ tree:=x.1,n:=x.2,life:=s.heap.life,gens:=s.gens,drawn:=s.drawn,toks:=s.toks,os:=s.os }
theorem c1f {s:Shared}{t:SharedT}(h:toT s=some t):t.abs=s:=by
 obtain⟨⟨a,b⟩,h1,rfl⟩:=Option.map_eq_some_iff.mp h
 have:=(a9A (life:=s.heap.life) _ _ _ _ _ ⟨#[],s.heap.life⟩ h1 rfl).trans (b1C _ [])
 simp only [SharedT.abs,this]
 rfl
noncomputable def c8r (p:Program)(w:World)(N:Nat):Option Shared:=(fencedOpening treeTable p w N).bind fun s₀=>match s₀.heap.isNs mainGlobals&&s₀.gens.size==0 with
 | true=>(toT s₀).bind fun t₀=>(c5Q p w s₀.heap.objs.size (s₀.heap.nsMap mainGlobals "__annotations__") N t₀ (topStub p)).bind fun t₁=>
  match staticsOk (importedModules p.main.body) s₀.heap t₁.abs.heap&&namesBound p t₁.abs.heap&&gensDone t₁.abs&&laidKept s₀.heap t₁.abs.heap with
  | true=>some t₁.abs
  | false=>none
 | false=>none
theorem c1g {p:Program}{w:World}{N:Nat}{s:Shared}(h:c8r p w N=some s):openEnds treeTable p w N=some s:=by
 obtain⟨s₀,h1,h2⟩:=Option.bind_eq_some_iff.mp h
 unfold openEnds
 rw [h1,Option.bind_some]
 unfold topFrom
 cases h3:s₀.heap.isNs mainGlobals&&s₀.gens.size==0 with
 | false=>rw [h3] at h2;cases h2
 | true=>
  rw [h3] at h2
  obtain⟨t₀,h4,h5⟩:=Option.bind_eq_some_iff.mp h2
  obtain⟨t₁,h6,h7⟩:=Option.bind_eq_some_iff.mp h5
  have:=b5b _ _ _ _ h6
  rw [c1f h4] at this
  dsimp only
  rw [this,Option.bind_some]
  cases h8:staticsOk (importedModules p.main.body) s₀.heap t₁.abs.heap&&namesBound p t₁.abs.heap&&gensDone t₁.abs&&laidKept s₀.heap t₁.abs.heap with
  | false=>rw [h8] at h7;cases h7
  | true=>rw [h8] at h7;exact h7
noncomputable abbrev c4u (q:Program):Shared→Bool:=fun s=>xlAt q [] s&&recOk [] s
noncomputable def seenE (p q:Program)(loose:List Str)(as ts:List Addr)(w:World)(N:Nat):=(c8r p w N).map fun s=>(openSeen q loose (importedModules p.main.body) (c4u q) true s,as.map s.heap.get?,ts.map s.heap.get?)
noncomputable def goodE (q:Program)(loose:List Str)(K:Params→Frag)(ts:List Addr)(w:World):=some (openGood q loose,(K w.params).map (fun p=>some p.2),ts.map fun _=>some (tabObj #[]))
theorem c1h {p q:Program}{loose:List Str}{K:Params→Frag}{as ts:List Addr}{e:∀ P,as=(K P).map (·.1)}{N:Nat}{r1 r2:String}
  (h:∀ (w:World) (a b:Bool),seenE p q loose as ts ((w.withFollow r1 a).withFollow r2 b) N=goodE q loose K ts ((w.withFollow r1 a).withFollow r2 b)):LeftO p q loose (c4u q) (kmHook K as e ts).obs (kmHook K as e ts).val N:=by
 have go:∀ w,seenE p q loose as ts w N=goodE q loose K ts w→(openEnds treeTable p w N).map (fun s=>(openSeen q loose (importedModules p.main.body) (c4u q) true s,(kmHook K as e ts).obs s))=some (openGood q loose,(kmHook K as e ts).val w):=fun w h=>by
  obtain⟨s,h1,h2⟩:=Option.map_eq_some_iff.mp h
  rw [c1g h1]
  exact c9o some h2
 intro w
 refine go w (byRow2 r2 (P:=fun w=>seenE p q loose as ts w N=goodE q loose K ts w) ?_ ?_ w)
 ·exact byRow2 r1 (P:=fun w=>seenE p q loose as ts (w.withFollow r2 false) N=goodE q loose K ts (w.withFollow r2 false)) (fun w=>h w false false) (fun w=>h w true false)
 ·exact byRow2 r1 (P:=fun w=>seenE p q loose as ts (w.withFollow r2 true) N=goodE q loose K ts (w.withFollow r2 true)) (fun w=>h w false true) (fun w=>h w true true)
lay_quick Mine.seenE Mine.goodE
end
section
noncomputable abbrev S (s:String):Str:=Str.ofString s
noncomputable def fnO (i c:Nat)(m:Str)(t:Nat)(dv kv:Value):Obj:=match PySem.Challenge.pw_kt0036_01.main.body[i]? with
 | some (.FunctionDef name args body _ _ _ scope _ _ _)=>{ cls:=.type "function",data:=.func { name:=name,qualname:=name,params:=args,body:=.stmts body,scope:=scope,globals:=3,closure:=[],defaults:=dv,kwdefaults:=kv,pyModule:=.str m t,code:=.ref c } }
 | _=>default
noncomputable def cdO (n:Str)(k:Nat)(l p q r s:Nat)(a b c d e f g:Value)(x y:Nat):Obj:={ cls:=.type "code",data:=.fields #[.str n k,.str n (k+1),.str (S "/claim/cut.py") (k+2),.int l 0,.int p 0,.int q 0,.int r 0,.int s 0,a,b,.int 276 0,c,d,e,f,g,.int x 0,.int l 0,.str (S "/claim/cut.py") y] }
noncomputable def kE (P:Params)(k:Str)(t:Nat)(v:Value):DictEntry:={ hash:=PyData.keyHash P k,key:=.str k t,val:=v }
noncomputable def iE (k t:Nat)(s:Str)(u:Nat):DictEntry:={ hash:=k,key:=.int k t,val:=.str s u }
noncomputable def KH (P:Params):Frag:=[
 (3,{ cls:=.type "dict",data:=Data.dict #[kE P (S "__name__") 165 (.str (S "law_kt0036_01") 651),kE P (S "__doc__") 166 (.none),kE P (S "__package__") 167 (.none),kE P (S "__loader__") 168 (.builtin "__main__.__loader__#opaque"),kE P (S "__spec__") 169 (.none),kE P (S "__annotations__") 170 (.ref 6),kE P (S "__builtins__") 171 (.ref 4),kE P (S "__file__") 173 (.str (S "/claim/cut.py") 172),kE P (S "__cached__") 174 (.none),kE P (S "_sre") 275 (.ref 12),kE P (S "_wall") 288 (.ref 38),kE P (S "bytes_types") 291 (.ref 39),kE P (S "_bytes_from_decode_data") 298 (.ref 46),kE P (S "Error") 318 (.ref 56),kE P (S "_ascii_buffer") 326 (.ref 66),kE P (S "_truth") 334 (.ref 73),kE P (S "_b64_value") 341 (.ref 80),kE P (S "a2b_base64") 357 (.ref 88),kE P (S "b64decode") 368 (.ref 96),kE P (S "_twin_re_1") 408 (.ref 101),kE P (S "translate") 417 (.ref 108),kE P (S "_special_chars_map") 565 (.ref 110),kE P (S "escape") 572 (.ref 120),kE P (S "_translate") 593 (.ref 127),kE P (S "_join_translated_parts") 606 (.ref 134),kE P (S "_raise_serialization_error") 615 (.ref 141),kE P (S "_escape_cdata") 622 (.ref 148),kE P (S "_escape_attrib") 629 (.ref 155),kE P (S "_escape_attrib_html") 636 (.ref 162),kE P (S "_escape_cdata_c14n") 643 (.ref 169),kE P (S "_escape_attrib_c14n") 650 (.ref 176),kE P (S "_law_drawn") 658 (.ref 181),kE P (S "_law_letters") 666 (.ref 188),kE P (S "_law_loose") 672 (.ref 193),kE P (S "_law_texts") 678 (.ref 198),kE P (S "_law_written") 686 (.ref 205),kE P (S "_law_told") 692 (.ref 210),kE P (S "_law_unlike") 701 (.ref 217),kE P (S "_law_barred") 707 (.ref 222),kE P (S "_law_counted") 713 (.ref 227),kE P (S "_law_torn") 719 (.ref 232),kE P (S "law") 725 (.ref 237)] 42 }),
 (37,cdO (S "_wall") 282 2 1 0 0 3 (.ref 32) (.bool true) (.ref 33) .none (.ref 34) (.ref 35) (.ref 36) 286 287),
 (38,fnO 1 37 (S "__main__") 164 .none .none),
 (45,cdO (S "_bytes_from_decode_data") 292 7 1 0 0 3 (.ref 40) (.bool true) (.ref 41) .none (.ref 42) (.ref 43) (.ref 44) 296 297),
 (46,fnO 4 45 (S "cpy313.base64") 289 .none .none),
 (65,cdO (S "_ascii_buffer") 319 22 1 0 0 3 (.ref 60) (.bool true) (.ref 61) .none (.ref 62) (.ref 63) (.ref 64) 324 325),
 (66,fnO 7 65 (S "binascii") 299 .none .none),
 (72,cdO (S "_truth") 327 33 1 0 0 3 (.ref 67) (.bool true) (.ref 68) .none (.ref 69) (.ref 70) (.ref 71) 332 333),
 (73,fnO 8 72 (S "binascii") 299 .none .none),
 (79,cdO (S "_b64_value") 335 38 1 0 0 3 (.ref 74) (.bool true) (.ref 75) .none (.ref 76) (.ref 77) (.ref 78) 339 340),
 (80,fnO 9 79 (S "binascii") 299 .none .none),
 (81,{ cls:=.type "dict",data:=Data.dict #[kE P (S "strict_mode") 342 (.bool false)] 1 }),
 (87,cdO (S "a2b_base64") 343 50 1 1 1 3 (.ref 82) (.bool true) (.ref 83) .none (.ref 84) (.ref 85) (.ref 86) 355 356),
 (88,fnO 10 87 (S "binascii") 299 .none (.ref 81)),
 (89,{ cls:=.type "tuple",data:=Data.seq #[.none,.bool false] }),
 (95,cdO (S "b64decode") 360 105 3 0 0 3 (.ref 90) (.bool true) (.ref 91) .none (.ref 92) (.ref 93) (.ref 94) 366 367),
 (96,fnO 12 95 (S "cpy313.base64") 358 (.ref 89) .none),
 (100,{ cls:=.type "tuple",data:=Data.seq #[.int 14 0,.int 14 0,.int 4 0,.int 1 0,.int 1 0,.int 9 0,.int 0 0,.int 64 0,.int 0 0,.int 1342177280 0,.int 0 0,.int 0 0,.int 0 0,.int 0 0,.int 0 0,.int 17 0,.int 0 0,.int 13 0,.int 11 0,.int 9 0,.int 0 0,.int 64 0,.int 0 0,.int 1342177280 0,.int 0 0,.int 0 0,.int 0 0,.int 0 0,.int 0 0,.int 17 0,.int 1 0,.int 1 0] }),
 (101,{ cls:=.type "re.Pattern",data:=Data.fields #[.str (S "([&~|])") 372,.int 32 407,.int 1 0,.none,.none,.ref 100,.int 0 0] }),
 (107,cdO (S "translate") 409 114 1 0 0 3 (.ref 102) (.bool true) (.ref 103) .none (.ref 104) (.ref 105) (.ref 106) 415 416),
 (108,fnO 15 107 (S "cpy313.fnmatch") 369 .none .none),
 (110,{ cls:=.type "dict",data:=Data.dict #[iE 40 421 (S "\\(") 425,iE 41 427 (S "\\)") 431,iE 91 433 (S "\\[") 437,iE 93 439 (S "\\]") 443,iE 123 445 (S "\\{") 449,iE 125 451 (S "\\}") 455,iE 63 457 (S "\\?") 461,iE 42 463 (S "\\*") 467,iE 43 469 (S "\\+") 473,iE 45 475 (S "\\-") 479,iE 124 481 (S "\\|") 485,iE 94 487 (S "\\^") 491,iE 36 493 (S "\\$") 497,iE 92 499 (S "\\\\") 503,iE 46 505 (S "\\.") 509,iE 38 511 (S "\\&") 515,iE 126 517 (S "\\~") 521,iE 35 523 (S "\\#") 527,iE 32 529 (S "\\ ") 533,iE 9 535 (S "\\\t") 539,iE 10 541 (S "\\\n") 545,iE 13 547 (S "\\\x0d") 551,iE 11 553 (S "\\\x0b") 557,iE 12 559 (S "\\\x0c") 563] 24 }),
 (119,cdO (S "escape") 566 120 1 0 0 3 (.ref 114) (.bool true) (.ref 115) .none (.ref 116) (.ref 117) (.ref 118) 570 571),
 (120,fnO 18 119 (S "re") 418 .none .none),
 (126,cdO (S "_translate") 575 127 3 0 0 3 (.ref 121) (.bool true) (.ref 122) .none (.ref 123) (.ref 124) (.ref 125) 591 592),
 (127,fnO 20 126 (S "cpy313.fnmatch") 573 .none .none),
 (133,cdO (S "_join_translated_parts") 594 189 2 0 0 3 (.ref 128) (.bool true) (.ref 129) .none (.ref 130) (.ref 131) (.ref 132) 604 605),
 (134,fnO 21 133 (S "cpy313.fnmatch") 573 .none .none),
 (140,cdO (S "_raise_serialization_error") 609 217 1 0 0 3 (.ref 135) (.bool true) (.ref 136) .none (.ref 137) (.ref 138) (.ref 139) 613 614),
 (141,fnO 23 140 (S "cpy313.xml.etree.ElementTree") 607 .none .none),
 (147,cdO (S "_escape_cdata") 616 219 1 0 0 3 (.ref 142) (.bool true) (.ref 143) .none (.ref 144) (.ref 145) (.ref 146) 620 621),
 (148,fnO 24 147 (S "cpy313.xml.etree.ElementTree") 607 .none .none),
 (154,cdO (S "_escape_attrib") 623 230 1 0 0 3 (.ref 149) (.bool true) (.ref 150) .none (.ref 151) (.ref 152) (.ref 153) 627 628),
 (155,fnO 25 154 (S "cpy313.xml.etree.ElementTree") 607 .none .none),
 (161,cdO (S "_escape_attrib_html") 630 249 1 0 0 3 (.ref 156) (.bool true) (.ref 157) .none (.ref 158) (.ref 159) (.ref 160) 634 635),
 (162,fnO 26 161 (S "cpy313.xml.etree.ElementTree") 607 .none .none),
 (168,cdO (S "_escape_cdata_c14n") 637 260 1 0 0 3 (.ref 163) (.bool true) (.ref 164) .none (.ref 165) (.ref 166) (.ref 167) 641 642),
 (169,fnO 27 168 (S "cpy313.xml.etree.ElementTree") 607 .none .none),
 (175,cdO (S "_escape_attrib_c14n") 644 273 1 0 0 3 (.ref 170) (.bool true) (.ref 171) .none (.ref 172) (.ref 173) (.ref 174) 648 649),
 (176,fnO 28 175 (S "cpy313.xml.etree.ElementTree") 607 .none .none),
 (180,cdO (S "_law_drawn") 653 291 1 0 0 3 (.ref 177) (.bool true) (.ref 178) .none .none .none (.ref 179) 656 657),
 (181,fnO 30 180 (S "law_kt0036_01") 651 .none .none),
 (187,cdO (S "_law_letters") 659 304 2 0 0 3 (.ref 182) (.bool true) (.ref 183) .none (.ref 184) (.ref 185) (.ref 186) 664 665),
 (188,fnO 31 187 (S "law_kt0036_01") 651 .none .none),
 (192,cdO (S "_law_loose") 667 308 2 0 0 3 (.ref 189) (.bool true) (.ref 190) .none .none .none (.ref 191) 670 671),
 (193,fnO 32 192 (S "law_kt0036_01") 651 .none .none),
 (197,cdO (S "_law_texts") 673 316 2 0 0 3 (.ref 194) (.bool true) (.ref 195) .none .none .none (.ref 196) 676 677),
 (198,fnO 33 197 (S "law_kt0036_01") 651 .none .none),
 (204,cdO (S "_law_written") 679 321 2 0 0 3 (.ref 199) (.bool true) (.ref 200) .none (.ref 201) (.ref 202) (.ref 203) 684 685),
 (205,fnO 34 204 (S "law_kt0036_01") 651 .none .none),
 (209,cdO (S "_law_told") 687 331 3 0 0 3 (.ref 206) (.bool true) (.ref 207) .none .none .none (.ref 208) 690 691),
 (210,fnO 35 209 (S "law_kt0036_01") 651 .none .none),
 (216,cdO (S "_law_unlike") 693 340 1 0 0 3 (.ref 211) (.bool true) (.ref 212) .none (.ref 213) (.ref 214) (.ref 215) 699 700),
 (217,fnO 36 216 (S "law_kt0036_01") 651 .none .none),
 (221,cdO (S "_law_barred") 702 346 2 0 0 3 (.ref 218) (.bool true) (.ref 219) .none .none .none (.ref 220) 705 706),
 (222,fnO 37 221 (S "law_kt0036_01") 651 .none .none),
 (226,cdO (S "_law_counted") 708 359 3 0 0 3 (.ref 223) (.bool true) (.ref 224) .none .none .none (.ref 225) 711 712),
 (227,fnO 38 226 (S "law_kt0036_01") 651 .none .none),
 (231,cdO (S "_law_torn") 714 376 3 0 0 3 (.ref 228) (.bool true) (.ref 229) .none .none .none (.ref 230) 717 718),
 (232,fnO 39 231 (S "law_kt0036_01") 651 .none .none),
 (236,cdO (S "law") 720 385 1 0 0 3 (.ref 233) (.bool true) (.ref 234) .none .none .none (.ref 235) 723 724),
 (237,fnO 40 236 (S "law_kt0036_01") 651 .none .none)]
noncomputable def KA:List Addr:=[3,37,38,45,46,65,66,72,73,79,80,81,87,88,89,95,96,100,101,107,108,110,119,120,126,127,133,134,140,141,147,148,154,155,161,162,168,169,175,176,180,181,187,188,192,193,197,198,204,205,209,210,216,217,221,222,226,227,231,232,236,237]
end
section
noncomputable def q01:Program:=PySem.W.view PySem.Challenge.pw_kt0036_01 [0,1,3,4,6,7,8,9,14,15,17,18,20,21,23,24,25,26,27,28,30,31,32,33,34,35,36,37,38,39,40]
noncomputable def a1V:List Str:=[S "bytes_types",S "a2b_base64",S "b64decode",S "_twin_re_1",S "_special_chars_map"]
theorem c8R (w:World):seenE PySem.Challenge.pw_kt0036_01 q01 a1V KA [122] ((w.withFollow "comprehension-iter-twice" false).withFollow "special-get-raises" false) 5230=goodE q01 a1V KH [122] ((w.withFollow "comprehension-iter-twice" false).withFollow "special-get-raises" false):=by
 rw [PySem.W.Fast.te9581644899039172855,PySem.W.Fast.te15965131416259893120];kernel_rfl
theorem c8S (w:World):seenE PySem.Challenge.pw_kt0036_01 q01 a1V KA [122] ((w.withFollow "comprehension-iter-twice" false).withFollow "special-get-raises" true) 5230=goodE q01 a1V KH [122] ((w.withFollow "comprehension-iter-twice" false).withFollow "special-get-raises" true):=by
 rw [PySem.W.Fast.te9581644899039172855,PySem.W.Fast.te15965131416259893120];kernel_rfl
theorem c8T (w:World):seenE PySem.Challenge.pw_kt0036_01 q01 a1V KA [122] ((w.withFollow "comprehension-iter-twice" true).withFollow "special-get-raises" false) 5230=goodE q01 a1V KH [122] ((w.withFollow "comprehension-iter-twice" true).withFollow "special-get-raises" false):=by
 rw [PySem.W.Fast.te9581644899039172855,PySem.W.Fast.te15965131416259893120];kernel_rfl
theorem c8U (w:World):seenE PySem.Challenge.pw_kt0036_01 q01 a1V KA [122] ((w.withFollow "comprehension-iter-twice" true).withFollow "special-get-raises" true) 5230=goodE q01 a1V KH [122] ((w.withFollow "comprehension-iter-twice" true).withFollow "special-get-raises" true):=by
 rw [PySem.W.Fast.te9581644899039172855,PySem.W.Fast.te15965131416259893120];kernel_rfl
theorem c4v (w:World)(a b:Bool):seenE PySem.Challenge.pw_kt0036_01 q01 a1V KA [122] ((w.withFollow "comprehension-iter-twice" a).withFollow "special-get-raises" b) 5230=goodE q01 a1V KH [122] ((w.withFollow "comprehension-iter-twice" a).withFollow "special-get-raises" b):=by
 cases a <;> cases b
 ·exact c8R w
 ·exact c8S w
 ·exact c8T w
 ·exact c8U w
theorem c4w:LeftO PySem.Challenge.pw_kt0036_01 q01 a1V (c4u q01) (kmHook KH KA (fun _=>by rfl) [122]).obs (kmHook KH KA (fun _=>by rfl) [122]).val 5230:=c1h (r1:="comprehension-iter-twice") (r2:="special-get-raises") c4v
theorem c4x:PySem.Challenge.rw_kt0036_01.wellSaid=true:=by kernel_rfl
end
section
noncomputable def C01 (i:Bool):Addr:=126
noncomputable def P01 (i:Bool):Addr:=122
noncomputable def Q01 (i:Bool):Str:="_translate.<locals>."
noncomputable def a4T:Nat→Str:=c7g c7i
theorem b7T:∀ i j,a4T i=a4T j→i=j:=b7S (by decide +kernel) (by kernel_rfl)
noncomputable def a6B:List (Def×Addr):=a0p.zip [46,66,73,80,88,96,127,134,148,155,162,169,176,181,188,193,198,205,210,217,222,227,232,237]
theorem c1i:a6B.map (·.1)=a0p:=by kernel_rfl
noncomputable def grp (n:Nat):List (Def×Addr):=a6B.filter fun p=>p.1.kwonly.isEmpty&&p.1.dflt.isEmpty&&p.1.params.length==n
theorem c1j:(a6B.all fun p=>(p.1.kwonly.isEmpty&&p.1.dflt.isEmpty&&Nat.blt p.1.params.length 5&&Nat.blt 0 p.1.params.length)||p.1.f==19||p.1.f==63)=true:=by kernel_rfl
noncomputable def a4k (P:Params)(S:Setting)(vs:List Value)(kws:List (Str×Value))(a:Addr):Option (List (Str×Value)):=(c1a (KH P) a).bind fun fd=>peek (KH P) S (bindArgs fd ⟨vs,kws⟩)
theorem c7j (P:Params)(S:Setting)(a:Value):(grp 1).map (fun p=>a4k P S [a] [] p.2)=(grp 1).map fun p=>some ((p.1.params.map a4T).zip [a]):=by kernel_rfl
theorem c7k (P:Params)(S:Setting)(a b:Value):(grp 2).map (fun p=>a4k P S [a,b] [] p.2)=(grp 2).map fun p=>some ((p.1.params.map a4T).zip [a,b]):=by kernel_rfl
theorem c7l (P:Params)(S:Setting)(a b c:Value):(grp 3).map (fun p=>a4k P S [a,b,c] [] p.2)=(grp 3).map fun p=>some ((p.1.params.map a4T).zip [a,b,c]):=by kernel_rfl
theorem c7m (P:Params)(S:Setting)(a b c d:Value):(grp 4).map (fun p=>a4k P S [a,b,c,d] [] p.2)=(grp 4).map fun p=>some ((p.1.params.map a4T).zip [a,b,c,d]):=by kernel_rfl
theorem c1k (P:Params):(a6B.all fun p=>a9z (KH P) a4T C01 Q01 p.1.f p.2 p.1.params p.1.kwonly fun sc body=>mSs a4T sc p.1.body body)=true:=by kernel_rfl
theorem c1l (P:Params):a9z (KH P) a4T C01 Q01 30 120 [92] [] (a5h a4T 92)=true:=by kernel_rfl
theorem c4y (P:Params):a9z (KH P) a4T C01 Q01 71 108 [23] [] (a7q a4T ids)=true:=by kernel_rfl
end
section
section
variable {G:GC}{P:Params}(X:(KH P).In G.g)(hn:G.nm=a4T)(hC:G.lamC=C01)(hQ:G.lamQ=Q01)
theorem b3c {p:Def×Addr}(hp:p∈a6B)(h1:p.1.kwonly=[])(h2:p.1.dflt=[])(h5:p.1.params.length<5)(h0:0<p.1.params.length){vs:List Value}(hl:vs.length=p.1.params.length)(S:Setting):a4k P S vs [] p.2=some ((p.1.params.map a4T).zip vs):=by
 have mem:p∈grp vs.length:=d0W.mpr ⟨hp,by rw [h1,h2,hl];exact c9y _⟩
 match vs,mem,hl with
 | [],_,hl=>exact absurd h0 (Nat.not_lt.mpr (d0c hl.symm))
 | [a],mem,_=>exact List.map_inj_left.mp (c7j P S a) p mem
 | [a,b],mem,_=>exact List.map_inj_left.mp (c7k P S a b) p mem
 | [a,b,c],mem,_=>exact List.map_inj_left.mp (c7l P S a b c) p mem
 | [a,b,c,d],mem,_=>exact List.map_inj_left.mp (c7m P S a b c d) p mem
 | _ :: _ :: _ :: _ :: _ :: _,_,hl=>exact absurd (hl ▸ h5) (Nat.not_lt.mpr (Nat.le_add_left 5 _))
theorem c8s (P:Params)(S:Setting)(v k:Value):(a4k P S [v] [] 88,a4k P S [v] [(("strict_mode":Str),k)] 88)=(some (([2,7].map a4T).zip [v,.bool false]),some (([2,7].map a4T).zip [v,k])):=by kernel_rfl
theorem c7n (P:Params)(S:Setting)(a b c:Value):(a4k P S [a] [] 96,a4k P S [a,b] [] 96,a4k P S [a,b,c] [] 96)=(some (([0,17,18].map a4T).zip [a,.none,.bool false]),some (([0,17,18].map a4T).zip [a,b,.bool false]),some (([0,17,18].map a4T).zip [a,b,c])):=by kernel_rfl
theorem b7U (P:Params)(S:Setting)(v:Value):a4k P S [v] [] 120=some (([92].map a4T).zip [v]):=by kernel_rfl
theorem c1m (P:Params)(S:Setting)(v:Value):a4k P S [v] [] 108=some (([23].map a4T).zip [v]):=by kernel_rfl
theorem b1D:(a6B.filter fun p=>p.1.f==19||p.1.f==63)=[(⟨19,[2],[7],[],a1S⟩,88),(⟨63,[0,17,18],[],[.none,.bool false],a2k⟩,96)]:=by kernel_rfl
theorem c4z {a l:List D}{n:Nat}(h:(a++l).length=n):a.length≤n:=h ▸ d0D ▸ c9V _ _
theorem a5k {a:Addr}{fd:FuncData}(hfd:c1a (KH P) a=some fd){vs:List Value}{kws:List (Str×Value)}{S:Setting}{r:List (Str×Value)}(h:a4k P S vs kws a=some r):peek (KH P) S (bindArgs fd ⟨vs,kws⟩)=some r:=by
 unfold a4k at h
 rw [hfd] at h
 exact h
theorem c1n {K:Frag}{G:GC}{fd:FuncData}{x y:Nat}(e1:∀ a S,peek K S (bindArgs fd ⟨[a],[]⟩)=some (([x,y].map G.nm).zip [a,.bool false]))(e2:∀ a k S,peek K S (bindArgs fd ⟨[a],[(("strict_mode":Str),k)]⟩)=some (([x,y].map G.nm).zip [a,k])):c1c K G fd [x] [y] []:=by
 intro args kw B st s vs kws Xs hkw hlen R KW
 rw [List.drop_nil,d0z] at hlen ⊢
 refine (List.length_eq_one_iff.mp hlen).elim fun a Z1=>?_
 subst Z1
 obtain⟨v,vs',rfl,r,R'⟩:=R.view
 obtain rfl:=d0U.mp R'.length
 cases kw with
 | none=>exact (show kws=[] from KW) ▸ ⟨[v,.bool false],fun S=>e1 v S,rfl,R.append (.cons (.bool false) .nil)⟩
 | some k=>
  refine KW.elim (clear% KW;fun kv Z1=>Z1.elim (fun e rk=>?_))
  exact e ▸ ⟨[v,kv],fun S=>e2 v kv S,rfl,R.append (.cons rk .nil)⟩
theorem c1o {K:Frag}{G:GC}{fd:FuncData}{x y z:Nat}(e1:∀ a S,peek K S (bindArgs fd ⟨[a],[]⟩)=some (([x,y,z].map G.nm).zip [a,.none,.bool false]))(e2:∀ a b S,peek K S (bindArgs fd ⟨[a,b],[]⟩)=some (([x,y,z].map G.nm).zip [a,b,.bool false]))
  (e3:∀ a b c S,peek K S (bindArgs fd ⟨[a,b,c],[]⟩)=some (([x,y,z].map G.nm).zip [a,b,c])):c1c K G fd [x,y,z] [] [.none,.bool false]:=by
 intro args kw B st s vs kws Xs hkw hlen R KW
 rw [hkw.resolve_right fun h=>h rfl] at KW ⊢
 rw [show kws=[] from KW]
 cases args with
 | nil=>exact absurd hlen (by decide:¬ 2=3)
 | cons a args=>
  obtain⟨v,vs',rfl,r,R'⟩:=R.view
  cases args with
  | nil=>
   obtain rfl:=d0U.mp R'.length
   exact⟨[v,.none,.bool false],fun S=>e1 v S,rfl,R.append (.cons .none (.cons (.bool false) .nil))⟩
  | cons b args=>
   obtain⟨v',vs'',rfl,r',R''⟩:=R'.view
   cases args with
   | nil=>
    obtain rfl:=d0U.mp R''.length
    exact⟨[v,v',.bool false],fun S=>e2 v v' S,rfl,R.append (.cons (.bool false) .nil)⟩
   | cons d args=>
    obtain⟨v'',vs3,rfl,r'',R3⟩:=R''.view
    cases args with
    | nil=>
     obtain rfl:=d0U.mp R3.length
     exact⟨[v,v',v''],fun S=>e3 v v' v'' S,rfl,R.append .nil⟩
    | cons f args=>exact absurd (c4z hlen) (Nat.not_le_of_lt (Nat.le_add_left 4 args.length))
include X hn hC hQ
theorem b5c {p:Def×Addr}(hp:p∈a6B)(h1:p.1.kwonly=[])(h2:p.1.dflt=[])(h5:p.1.params.length<5)(h0:0<p.1.params.length):a8m G p.1:=by
 have c:=c9Q.mp (c1k P) p hp
 unfold a8m
 rw [h1,h2,hn]
 rw [h1] at c
 exact a4i X (by rw [hn,hC,hQ];exact c) fun vs hl S=>by rw [hn];exact b3c hp h1 h2 h5 h0 hl S
theorem b9k:a8m G ⟨19,[2],[7],[],a1S⟩:=by
 have hp:=(d0W.mp (b1D ▸ d0r:(_:Def×Addr)∈a6B.filter fun p=>p.1.f==19||p.1.f==63)).1
 have c:=c9Q.mp (c1k P) _ hp
 unfold a8m
 rw [hn]
 exact a8q X (by rw [hn,hC,hQ];exact c) fun fd hfd=>c1n (fun a S=>by rw [hn];exact a5k hfd (c9o Prod.fst (c8s P S a a))) fun a k S=>by rw [hn];exact a5k hfd (c9o Prod.snd (c8s P S a k))
theorem b9l:a8m G ⟨63,[0,17,18],[],[.none,.bool false],a2k⟩:=by
 have hp:=(d0W.mp (b1D ▸ d0u _ d0r:(_:Def×Addr)∈a6B.filter fun p=>p.1.f==19||p.1.f==63)).1
 have c:=c9Q.mp (c1k P) _ hp
 unfold a8m
 rw [hn]
 exact a8q X (by rw [hn,hC,hQ];exact c) fun fd hfd=>c1o (fun a S=>by rw [hn];exact a5k hfd (c9o Prod.fst (c7n P S a a a))) (fun a b S=>by rw [hn];exact a5k hfd (c9o (fun q=>q.2.1) (c7n P S a b a))) fun a b d S=>by rw [hn];exact a5k hfd (c9o (fun q=>q.2.2) (c7n P S a b d))
theorem c1p:DefAt G ids.esc [ids.escP] [] [] (a5h G.nm ids.escP):=by
 rw [hn]
 exact a4i X (by rw [hn,hC,hQ];exact c1l P) fun vs hl S=>by
  refine (List.length_eq_one_iff.mp hl).elim fun v e=>?_
  rw [hn,e]
  exact b7U P S v
theorem c4A:DefAt G ids.tr [ids.pat] [] [] (a7q G.nm ids):=by
 rw [hn]
 exact a4i X (by rw [hn,hC,hQ];exact c4y P) fun vs hl S=>by
  refine (List.length_eq_one_iff.mp hl).elim fun v e=>?_
  rw [hn,e]
  exact c1m P S v
theorem c4B:∀ df∈a0p,a8m G df:=fun df h=>by
 rw [← c1i] at h
 refine (d0Q.mp h).elim fun p Z1=>Z1.elim (fun hp e=>?_)
 rw [← e]
 have g:=c9Q.mp c1j p hp
 rcases or2 g with g | g59
 ·rcases or2 g with g | g19
  ·refine a0a g (clear% g;fun g g4=>?_)
   refine a0a g (clear% g;fun g g3=>?_)
   refine a0a g (clear% g;fun g1 g2=>?_)
   exact b5c X hn hC hQ hp (d0B.mp g1) (d0B.mp g2) (c9B g3) (c9B g4)
  ·have m:p∈a6B.filter fun p=>p.1.f==19||p.1.f==63:=d0W.mpr ⟨hp,d0F.mpr (.inl g19)⟩
   rw [b1D] at m
   rcases c9U.mp m with q | m
   ·rw [q];exact b9k X hn hC hQ
   ·rw [d0i.mp m];exact b9l X hn hC hQ
 ·have m:p∈a6B.filter fun p=>p.1.f==19||p.1.f==63:=d0W.mpr ⟨hp,d0F.mpr (.inr g59)⟩
  rw [b1D] at m
  rcases c9U.mp m with q | m
  ·rw [q];exact b9k X hn hC hQ
  ·rw [d0i.mp m];exact b9l X hn hC hQ
end
end
section
noncomputable def a5z:Array DictEntry:=(a0W.zipIdx.map fun p=>({ hash:=(p.1:Int),key:=.int p.1 (421+6*p.2),val:=.str ⟨#[92,p.1]⟩ (425+6*p.2) }:DictEntry)).toArray
noncomputable def c4C:Value→Option Int
 | .int k _=>some k
 | _=>none
theorem c4D {v:Value}{k:Int}(h:c4C v=some k):∃ t,v=.int k t:=by
 cases v with
 | int j t=>exact⟨t,c9o (Value.int · t) (c9x h)⟩
 | _=>exact a0e h
noncomputable def b9m (e:DictEntry):Bool:=(c4C e.key).any fun k=>e.hash==hashInt k&&Value.isInt k e.key
theorem b5d {e:DictEntry}(h:b9m e=true):∃ k,Value.isInt k e.key=true∧e.hash=hashInt k:=by
 refine (a5i h).elim fun k Z1=>Z1.elim (fun h1 h2=>?_)
 exact⟨k,(a0h h2).2,c9K (a0h h2).1⟩
noncomputable def b5e (c:Nat):Bool:=bif a0W.contains c then (findBy Value.isInt a5z (c:Int)).any (fun v=>b4X v==some ⟨#[92,c]⟩) else (findBy Value.isInt a5z (c:Int)).isNone
theorem b5f {c:Nat}(h:b5e c=true):(a0W.contains c=true→∃ tk,findBy Value.isInt a5z (c:Int)=some (.str ⟨#[92,c]⟩ tk))∧(a0W.contains c=false→findBy Value.isInt a5z (c:Int)=none):=by
 unfold b5e at h
 refine⟨fun q=>?_,fun q=>?_⟩
 ·rw [q] at h
  refine (a5i h).elim fun v Z1=>Z1.elim (fun h1 h2=>?_)
  refine (a7s (c9K h2)).elim fun t e=>?_
  exact⟨t,h1.trans (c9o some e)⟩
 ·rw [q] at h
  exact d0C.mp h
theorem c1q:(List.range 128).all b5e=true:=by kernel_rfl
theorem c1r:a5z.toList.all b9m=true:=by kernel_rfl
theorem c1s (P:Params):(KH P).lookup 110=some { cls:=.type "dict",data:=.dict a5z 24 }:=by kernel_rfl
theorem c1t (P:Params):nsIn (KH P) mainGlobals "_special_chars_map"=some (some (.ref 110)):=by kernel_rfl
theorem c7o (P:Params):(KH P).lookup 101=some { cls:=.type "re.Pattern",data:=Data.fields #[.str (S "([&~|])") 372,.int 32 407,.int 1 0,.none,.none,.ref 100,.int 0 0] }:=by kernel_rfl
theorem c1u (P:Params):(KH P).lookup 100=some { cls:=.type "tuple",data:=Data.seq (a0Y.map fun (w:Nat)=>rawInt w) }:=by kernel_rfl
theorem c7p (P:Params):nsIn (KH P) mainGlobals "_twin_re_1"=some (some (.ref 101)):=by kernel_rfl
noncomputable def c4E:Value→Option String
 | .builtin n=>some n
 | _=>none
theorem b5g {v:Value}{n:String}(h:c4E v=some n):v=.builtin n:=by
 cases v with
 | builtin m=>exact c9o Value.builtin (c9x h)
 | _=>exact a0e h
noncomputable def c1v:Value→Option String
 | .type n=>some n
 | _=>none
theorem a9B {v:Value}{n:String}(h:c1v v=some n):v=.type n:=by
 cases v with
 | type m=>exact c9o Value.type (c9x h)
 | _=>exact a0e h
noncomputable def a8s (P:Params)(f:Value→Option String)(n:String):Bool:=(nsIn (KH P) mainGlobals (Str.ofString n)).any (·.isNone)&&((bootBuiltins (Str.ofString n)).bind f)==some n&&Str.ofString n != ("__name__":Str)
theorem a6C (P:Params):(a3M.all (a8s P c4E)&&a1P.all (a8s P c1v)&&a8s P c1v "object")=true:=by kernel_rfl
section
variable {G:GC}{P:Params}(X:(KH P).In G.g)(hb:∀ x:Str,x≠"__name__"→G.mb x=bootBuiltins x)
include X
theorem c1w:EscOK G:=⟨110,findBy Value.isInt a5z,.inl (mg_of X G.gns (c1t P)),by decide +kernel,⟨_,a5z,24,X _ _ (c1s P),⟨rfl,rfl,rfl⟩,rfl,fun e he=>b5d (c9Q.mp c1r e (Array.mem_toList_iff.mpr he)),fun k=>rfl⟩,fun c hc=>b5f (c9Q.mp c1q c (c9R.mpr hc))⟩
include hb
theorem b0I {f:Value→Option String}{n:String}(h:a8s P f n=true):∃ v,f v=some n∧b6J G (Str.ofString n) v:=by
 refine a0a h (clear% h;fun h h3=>?_)
 refine a0a h (clear% h;fun h1 h2=>?_)
 refine (a5i h1).elim fun o Z1=>Z1.elim (fun e1 e2=>?_)
 refine a0j (c9K h2) fun v e3 e4=>?_
 exact⟨v,e4,.inr ⟨mg_none_of X G.gns (e1.trans (c9o some (d0C.mp e2))),(hb _ (bne_iff_ne.mp h3)).trans e3⟩⟩
theorem c1x:GlobsOK G:=
 ⟨⟨101,100,.inl (mg_of X G.gns (c7p P)),⟨⟨_,_,_,X _ _ (c7o P),rfl,rfl,rfl⟩,⟨_,0,X _ _ (c1u P),rfl⟩⟩⟩,fun n hn=>(b0I X hb (c9Q.mp (a0h (a0h (a6C P)).1).1 n hn)).elim fun v h=>b5g h.1 ▸ h.2,fun n hn=>(b0I X hb (c9Q.mp (a0h (a0h (a6C P)).1).2 n hn)).elim fun v h=>a9B h.1 ▸ h.2⟩
theorem c7q:ObjOK G:=⟨(b0I X hb (a0h (a6C P)).2).elim fun v h=>a9B h.1 ▸ h.2⟩
end
end
section
section
variable {G:GC}{F:Fns}{lvl fuel:Nat}{s s':Shared}{A:Around}{B:Addr→Prop}{E:Value→Shared→Prop}
theorem St.store1 {Γ:Ctx}{sc:a0g}{oa:Nat→Addr}(S:St G Γ lvl sc [] oa { s with toks:=s.toks+1 }){x:Nat}{v:Value}{d:D}(hk:sc.lookup (G.nm x)=some .local)(R:RD G Γ [] oa s v d){Q:Unit→Shared→Prop}
  (h:∀ s',St G Γ lvl sc [(x,.val d)] oa s'→Ks Γ s s'→Q () s'):wpAny (model G.prog G.w) Γ.A (storeName Γ.env (G.nm x) v) Q E s:=by
 refine (S.slots).elim fun m Z1=>Z1.elim (fun hn hm=>?_)
 refine wpAny_storeName_local (S.kindOf hk) hn (fun h' hn' hs=>?_) (by rw [S.kind];rfl)
 have k:∀ b o,b≠Γ.env.locals→s.heap.get? b=some o→h'.get? b=some o:=fun b o hb e=>(hs.2 b hb).trans e
 have P:=Put.local_ hk hn hn' k
 refine (a4V hn).elim fun o Z1=>Z1.elim (fun e hf=>?_)
 have T:=a2T (sl:=.val d) (x:=x) S rfl rfl
 have R':SlotV G Γ [(x,.val d)] oa h' (s.toks+1) x v (.val d):=Rep.chg ⟨c9A _,fun b o hb=>P.keep b o (fun q=>hb (.inl (q ▸ S.badL))) (fun q=>hb (.inl (S.badC _ _ q))),fun b _ hb _ q=>hb (T.all b q)⟩ R
 exact h _ (S.put (tk:=s.toks+1) T P hm (a4U S.gst k S.newL e hf.ok (c9n _)) (c9n _) R') ⟨fun b o h1 h2 e=>k b o h1 e,rfl,c9A _,rfl⟩
theorem b7V {scope:Scope}{qual:Str}{func:Option Addr}{code:Value}{st:Addr}{oa:Nat→Addr}{x:Nat}{v:Value}{d:D}(g:GSt G { s with toks:=s.toks+1 })(hA:AOk (lvl+1) A)(K:ScOK G scope code qual)
  (hT:∀ t∈G.T,B t) (hB:∀ a,B a→∃ o,s.heap.get? a=some o) (hk:scope.names.lookup (G.nm x)=some .local)
  (R:Rep ⟨G.prog,G.w,st⟩ B s.heap s.toks v d) {Q:Env→Shared→Prop}
  (hQ:∀ s',St G (a9q s.heap scope qual func code (A.deeper (a6r s.heap scope qual func code)) st B) lvl scope.names [(x,.val d)] oa s'→Kf s s'→Q (a6r s.heap scope qual func code) s') :
  wpAny (model G.prog G.w) A.in1 (newFunctionEnv scope mainGlobals [] [(G.nm x,v)] qual func code none builtinsNs) Q E s:=by
 have kf:=b4P s scope
 have S:=a9s (s:={ s with toks:=s.toks+1 }) (st:=st) (oa:=oa) (func:=func) g hA.in1 K hT hB
 simp only [newFunctionEnv,Option.isSome_none,d0y,if_false]
 refine c9L (wpAny_alloc ?_)
 refine c9L (wpAny_layCells _ (fun name kind cells=>by cases kind==NameKind.cell <;> rfl) _ _ _ _ ?_)
 rw [show ({ s with heap:=s.heap.push { cls:=.type "frame",data:=.dict #[] } }:Shared).heap.objs.size=s.heap.objs.size+1 from d0h ..]
 refine c9L ?_
 rw [List.forIn_cons]
 refine c9L (c9L (St.store1 (d:=d) (s:={ s with heap:=a4h s.heap scope }) (Γ:=a9q s.heap scope qual func code A.in1 st B) S hk ?_ fun s' S₁ k=>c9M ?_))
 ·exact R.chg ⟨c9n _,fun b o _=>kf.heap b o,fun b o hb e q=>q.elim (fun q=>q.elim hb fun q=>a0f q.1 e rfl) fun h=>h.elim fun x h=>absurd h.1 c9p⟩
 ·exact c9M (c9M (hQ s' (S₁.around hA.deeper) ⟨fun b o e=>k.heap b o (a3x e).1 (a3x e).2 (kf.heap b o e),k.os,k.toks,k.gens⟩))
theorem b7W {f:Nat}{a:Addr}{o:Obj}{fd:FuncData}{body:List Stmt}{ps:List PS}{x:Nat}{v:Value}{d r:D}(K:FdOK G f a o fd body [x])(hbt:BindsTo s fd ⟨[v],[]⟩ [(G.nm x,v)])(hx:fd.scope.names.lookup (G.nm x)=some .local)
  (hb:SsJ G F lvl fuel fd.scope.names ps body) (hev:a0y F fuel [(x,.val d)] ps=some (.ret r))
  (g:GSt G { s with toks:=s.toks+1 }) (hA:AOk (lvl+1) A) (R:Rep ⟨G.prog,G.w,0⟩ (·∈G.T) s.heap s.toks v d) {Q:Value→Shared→Prop}
  (hQ:∀ v s',Af G s s'→Rep ⟨G.prog,G.w,0⟩ (·∈G.T) s'.heap s'.toks v r→Q v s'):wpAny (model G.prog G.w) A (call (.ref a) [v] []) Q E s:=by
 refine wpAny_call (codeAny_call_function (c9D (c9v (c9V _ _) (c9V _ _)) hA.2.1) (g.base _ _ K.get) K.data K.co K.gen K.body (K.code.keeps g.base) (hbt _ _ _ _ ?_))
 rw [K.clo,K.gl,K.bu]
 refine b7V (oa:=fun _=>0) (B:=(·∈G.T)) g hA K.sc (fun t h=>h) (fun a ha=>(G.tabGet _ g.tab a ha).elim fun ps e=>⟨_,e⟩) hx R fun s₁ S₁ kf=>⟨g.lim.keeps kf.heap,codeAny_func ?_⟩
 refine hb _ (fun _=>true) _ _ _ _ (fun _ _=>rfl) S₁ hev _ _ fun fl s' O=>?_
 obtain⟨v,e,⟨σ',oa',T⟩,r⟩:=O
 have one:∀ {y:Nat} {P:Prop},Store.isOwn [(x,.val d)] y=true→P:=fun h=>a6y h
 have kp:Kp G s s':=⟨fun b o hbT e=>T.step.heap b o hbT (fun q=>q.elim (a3x e).1 fun q=>q.elim (fun q=>q.elim (a3x e).2) fun q=>q.elim fun x h=>one h.1) (kf.heap b o e),T.step.os.trans kf.os,c9v kf.toks T.step.toks,fun i x e=>T.step.gens i x ((c9o (·[i]?) kf.gens).trans e)⟩
 rw [e]
 exact hQ v s' ⟨kp,T.st.gst⟩ (r.weaken fun b hb=>.inl hb)
end
end
section
noncomputable def c4F:Prop:=∀ l:List Int,l.length≤63→∃ fuel n,n≤20∧a0y (runG ids a0p fuel n) fuel [(35,.val (.list (l.map .int)))] b0H=some (.ret (.bool true))
theorem c7r {p:Program}{lo:List Str}{em:ExcName→Option Value}{g:Heap}{mg mb:Str→Option Value}(T:Top p lo em mg mb g){a:Addr}(ha:g.get? a=none):g.BuiltinsAt mg a:=by
 obtain⟨bm,ob,b1,b2,b3,b4,b5,b6⟩:=T.bmain
 have hne:bm≠mainGlobals:=fun q=>by
  obtain⟨o,es,ep,ho,hd,_⟩:=T.g
  rw [← q,b3] at ho
  rw [← c9x ho,b6] at hd
  cases hd
 exact⟨bm,ob,b1,b2,hne,a0f ha b3,b3,b4,b5,b6⟩
theorem b7X {C:RC}{B:Addr→Prop}{h:Heap}{n:Nat}{vs:List Value}{ns:List Int}(I:IntsAre vs ns):RepL C B h n vs (ns.map .int):=by
 induction I with
 | nil=>exact .nil
 | cons k t r ih=>exact .cons (.int _ _) ih
noncomputable abbrev b5h:List (Addr×Addr):=[(126,122)]
theorem c4G (P:Params):((c1a (KH P) 237).any fun fd=>fd.scope.names.lookup (a4T 35)==some .local&&c1b (KH P) a4T C01 Q01 [35] (fun sc body=>mSs a4T sc b0H body) fd)=true:=by kernel_rfl
theorem c4H (P:Params):((nsIn (KH P) mainGlobals (a4T 93)).bind fun o=>o.bind b0E)=some 237:=by kernel_rfl
theorem b7Y (P:Params)(S:Setting)(v:Value):a4k P S [v] [] 237=some [(a4T 35,v)]:=by kernel_rfl
theorem b7Z:a4T 93="law":=by kernel_rfl
theorem c7s (hlaw:c4F){prog p:Program}{lo:List Str}{em:ExcName→Option Value}{w:World}{s:Shared}{mg mb:Str→Option Value}{vs:List Value}{ns:List Int}{a fa:Addr}
  (X:(KH w.params).In s.heap) (hK:noTabs (KH w.params)=true) (T:Top p lo em mg mb s.heap) (hT:TabsAt b5h s.heap) (hmg:mg "law"=some (.ref fa))
  (hl:s.heap.IsList a vs.toArray) (hI:IntsAre vs ns) (hg:s.gens=#[]) (hlen:¬ (63:Int)<(ns.length:Int)) {A:Around} (hA:AOk 21 A) {Q:Value→Shared→Prop} {E:Value→Shared→Prop}
  (hQ:∀ s',OldK s.heap s'.heap→s'.os=s.os→AllBare s'.gens→Q (.bool true) s'):wpAny (model prog w) A (call (.ref fa) [.ref a] []) Q E s:=by
 obtain⟨fuel,n,hn20,hev⟩:=hlaw ns (Int.ofNat_le.mp (Int.not_lt.mp hlen))
 have Tg:=ghost_top hT T
 have Xg:=ghost_K hT X hK
 have nw:(ghostOf s.heap b5h).get? 122=none:=hideAll_none _ d0r
 have h0:=hT _ (d0r (a:=((126:Addr),(122:Addr))))
 let G:GC:=c8Q prog w (ghostOf s.heap b5h) mg mb a4T b7T C01 P01 Q01 (fun i j e=>rfl) Tg.g Tg.b Tg.nolimit (fun i=>c7r Tg nw) fun i=>nw
 have hgst:GSt G { s with toks:=s.toks+1 }:=⟨Nat.le_add_left 1 _,fun b o e=>of_hideAll _ e,fun i=>⟨h0.1,_,h0.2,.nil⟩,.of_eq hg⟩
 refine (a5i (c4G w.params)).elim fun fd Z1=>Z1.elim (fun hfd h2=>?_)
 refine a0a h2 (clear% h2;fun hloc h2=>?_)
 obtain⟨o,body,K,hm⟩:=c4t (G:=G) (f:=93) Xg (c4H w.params) hfd h2
 have hfa:fa=237:=by
  have e:=K.mg
  rw [show G.nm 93="law" from b7Z] at e
  have e2:some (Value.ref fa)=some (.ref 237):=hmg.symm.trans e
  injection e2 with e2
  injection e2
 have hlist:G.g.IsList a vs.toArray:=ghost_list hT hl
 have hgl:=c1x (G:=G) Xg Tg.builtins
 rw [hfa]
 refine b7W (G:=G) (F:=runG ids a0p fuel n) (lvl:=n) (fuel:=fuel) (ps:=b0H) (r:=.bool true) (d:=.list (ns.map .int)) K (kp_binds X fun S=>a5k hfd (b7Y w.params S _)) (c9K hloc)
  (b7M (b4W hgl (c1w Xg) (c7q Xg Tg.builtins) (c1p Xg rfl rfl rfl) (c4A Xg rfl rfl rfl) (c4B Xg rfl rfl rfl) n) hgl b0H hm) hev hgst (hA.mono (Nat.succ_le_succ hn20)) (.list ?_ (a4p hlist fun o=>of_hideAll _) (b7X hI)) fun v s' K' R=>?_
 ·exact fun q=>hlist.elim fun o e=>(c9U.mp q).elim (fun q=>a0f nw e.1 q) fun q=>a0f nw e.1 (d0i.mp q)
 ·have e:v=.bool true:=R.view
  rw [e]
  refine hQ s' ⟨fun b o e=>?_,fun b o e=>?_⟩ K'.kp.os K'.gst.bare
  ·by_cases hb:b=122
   ·rw [hb,h0.2] at e
    refine (G.tabGet _ K'.gst.tab 122 d0r).elim fun ps h=>?_
    rw [hb]
    exact .inr (.inl ⟨(h0.1.tab h0.2).isCodeTable,(c9x e) ▸ rfl,#[],ps,(c9x e) ▸ rfl,by rw [Array.empty_append,← c9x e];exact h⟩)
   ·exact .inl (K'.kp.heap b o (fun q=>(c9U.mp q).elim hb fun q=>hb (d0i.mp q)) e)
  ·by_cases hb:b=122
   ·rw [hb]
    exact (G.tabGet _ K'.gst.tab 122 d0r).elim fun ps h=>⟨_,h⟩
   ·exact⟨o,K'.kp.heap b o (fun q=>(c9U.mp q).elim hb fun q=>hb (d0i.mp q)) e⟩
end
section
theorem top01 (hlaw:c4F):PySem.Challenge.rw_kt0036_01.Holds:=by
 w_on
 refine holds_law c4x fun said=>?_
 refine holds_open (q:=q01) (loose:=a1V) (Xt:=c4u q01) (XP:=XL q01 []) (Yf:=Hook.obs (kmHook KH KA (fun _=>by rfl) [122])) (Ya:=Hook.val (kmHook KH KA (fun _=>by rfl) [122])) (YP:=Hook.says (kmHook KH KA (fun _=>by rfl) [122])) (N:=5230) c4w (Hook.of _) (Hook.keeps _)
  (fun s e=>xl_of s (d0t.mp e).1) XL.keeps (by rfl) (by rfl) (by rfl) (fun s e=>recFacts_of (d0t.mp e).2) (by rfl) (by first | assumption | decide +kernel) (by decide +kernel) ⟨rfl,rfl,rfl,rfl,rfl,by decide +kernel⟩ ?hw ?hc
 case hw=>w_witness2
 intro w s₀ s₁ mg mb G Y fa o pm cd doc dV kV ho hd hcd hD hmg hg args vals as hpre hlay hrd hwl hlo
 have KX:=km_in_of Y
 km_tabs Y
 have X:=(Ground.X G).1
 have V:=(Ground.X G).2
 refine Ground.open G ?_
 intro T B D TE TW
 try (refine guard_noD D (by decide +kernel) ?_;clear D)
 have hT9:TabsAt ([(126,122)]:List (Addr×Addr)) _:=List.forall_mem_cons.mpr ⟨⟨codeHd_of_K (c:=126) (P:=122) KX (by kernel_rfl),hT8 122 (.head _)⟩,fun _ h=>nomatch h⟩
 clear hd hcd hD
 wrow_args hpre hlay hrd hwl hlo
 refine c7s hlaw KX (by kernel_rfl) T hT9 hmg (by assumption) (by assumption) hg (by assumption) ⟨rfl,by decide,by decide⟩ fun s' ok os bare=>?_
 refine⟨.inl ⟨_,_,[],rfl,raisesW_false ?_,.bool true,?_,unshared_nil⟩,ok,os,bare⟩
 ·wrow_none_raised
 ·kc_post
end
section
namespace LA
noncomputable def a1k:List (Nat×Nat):=[(0,1),(0,2),(0,3),(1,2),(1,3),(2,3)]
noncomputable def nl (g:List Bool)(i j:Nat):Bool:=(a1k.zip g).any fun p=>p.2&&((p.1.1==i&&p.1.2==j)||(p.1.1==j&&p.1.2==i))
noncomputable def lo (g:List Bool)(i j:Nat):Bool:=i != j&&!(nl g i j)
noncomputable def graphs:List (List Bool):=[false,true].flatMap fun a=>[false,true].flatMap fun b=>[false,true].flatMap fun c=>[false,true].flatMap fun d=>[false,true].flatMap fun e=>[false,true].map fun f=>[a,b,c,d,e,f]
theorem graphs_all (a b c d e f:Bool):[a,b,c,d,e,f]∈graphs:=by
 revert a b c d e f;decide +kernel
noncomputable def tStep (L:List (List Nat×List Nat)):List (List Nat×List Nat):=L.flatMap fun p=>([0,1,2,3].filter fun s=>p.2.contains s).map fun s=>(p.1++[s],p.2.erase s)
noncomputable def tLoop:Nat→List (List Nat×List Nat)→List (List Nat×List Nat)
 | 0,L=>L
 | n+1,L=>tLoop n (tStep L)
noncomputable def textsW (w:List Nat):List (List Nat):=(tLoop w.length [([],w)]).map (·.1)
noncomputable def prN (i j:Nat)(t:List Nat):Nat:=t.foldl (fun a c=>bif c==i then 2*a else bif c==j then 2*a+1 else a) 1
noncomputable def c8t (g:List Bool)(t:List Nat):Nat:=(a1k.zip g).foldr (fun p a=>a*64+(bif p.2 then prN p.1.1 p.1.2 t else 0)) 0
noncomputable def c7t (c:Nat):Nat:=a1k.foldr (fun p a=>a*64+(bif p.1==c||p.2==c then 63 else 0)) 0
noncomputable def c8V (c:Nat):Nat:=a1k.foldr (fun p a=>a*64+(bif p.2==c then 1 else 0)) 0
noncomputable def c7u (g:List Bool):Nat:=g.foldr (fun p a=>a*64+(bif p then 63 else 0)) 0
noncomputable def c8W:Nat:=a1k.foldr (fun p a=>a*64+1) 0
noncomputable def c7v (t:List Nat):Nat:=t.foldl (fun a c=>Nat.add (Nat.add a (Nat.land a (c7t c))) (c8V c)) c8W
noncomputable def keyK (g:List Bool)(t:List Nat):Nat:=Nat.land (c7v t) (c7u g)
noncomputable def allW:Nat→List (List Nat)
 | 0=>[[]]
 | n+1=>(allW n).flatMap fun t=>[0,1,2,3].map fun s=>t++[s]
noncomputable def a3z (g:List Bool)(l:List (List Nat))(acc:List (List Nat)):List (List Nat):=l.foldl (fun acc t=>bif acc.any fun u=>keyK g u==keyK g t then acc else acc++[t]) acc
noncomputable def numN (g:List Bool)(w:List Nat):Nat:=(a3z g (textsW w) []).length
noncomputable def words:List (List Nat):=(List.range 6).flatMap fun a=>(List.range 6).flatMap fun b=>(List.range 6).flatMap fun c=>((List.range 6).filter fun d=>Nat.ble (a+b+c+d) 5).map fun d=>List.replicate a 0++List.replicate b 1++List.replicate c 2++List.replicate d 3
noncomputable def bags:List (List Nat):=words.filter fun w=>w.length==5
noncomputable def rowsW (g:List Bool):List (List Nat):=[0,1,2,3].foldl (fun rows s=>rows++(rows.filter fun r=>r.all fun o=>lo g o s).map (·++[s])) [[]]
noncomputable def a1l (x r:List Nat):List Nat:=r.foldl (fun a s=>a.erase s) x
noncomputable def inW (x r:List Nat):Bool:=(a1l x r).length+r.length==x.length
noncomputable def c8X (g:List Bool)(x:List Nat)(a:Int)(r:List Nat):Int:=bif inW x r then a+(bif r.length % 2==1 then (numN g (a1l x r):Int) else -(numN g (a1l x r):Int)) else a
noncomputable def b9n (g:List Bool)(a b:Nat):Bool:=Nat.blt b a&&lo g b a
noncomputable def b5i (g:List Bool)(t:List Nat):Bool:=(List.range 4).any fun k=>b9n g (t.getD k 0) (t.getD (k+1) 0)
noncomputable def a0x (g:List Bool)(w:List Nat):List (List Nat):=(textsW w).filter fun t=>!(b5i g t)
noncomputable def a2a (w:List Nat):List Nat:=[0,1,2,3].filter fun s=>w.contains s
noncomputable def b3d (g:List Bool)(h:List Nat):Bool:=(List.range h.length).any fun k=>(h.take k).any fun a=>(h.drop (k+1)).any fun b=>lo g a (h.getD k 0)&&(lo g (h.getD k 0) b&&!(lo g a b))
noncomputable def c2A (a:Nat)(l:List Nat):Bool:=List.rec false (fun b _ ih=>Bool.rec ih true (Nat.beq b a)) l
noncomputable def ddR (l:List Nat):List Nat→List Nat:=List.rec (fun acc=>acc) (fun a _ ih acc=>Bool.rec (ih (a :: acc)) (ih acc) (c2A a acc)) l
noncomputable def c2B {α β:Type}(f:α→β)(l:List α):List β:=List.rec [] (fun a _ ih=>f a :: ih) l
noncomputable def b1E {α:Type}(p:α→Bool)(l:List α):Bool:=List.rec true (fun a _ ih=>Bool.rec false ih (p a)) l
noncomputable def c2C {α:Type}(l:List α):Nat:=List.rec 0 (fun _ _ ih=>Nat.succ ih) l
noncomputable def c7w (g:List Bool)(w:List Nat):Nat:=c2C (ddR (c2B (keyK g) (textsW w)) [])
noncomputable def c4I (x:List Nat):Nat:=List.rec 0 (fun c _ ih=>Nat.add (Nat.pow 6 c) ih) x
noncomputable def a6D (T:Nat)(x:List Nat):Nat:=Nat.land (Nat.shiftRight T (Nat.mul 6 (c4I x))) 63
noncomputable def c4J (g:List Bool):Nat:=List.rec 0 (fun x _ ih=>Nat.lor ih (Nat.shiftLeft (c7w g x) (Nat.mul 6 (c4I x)))) words
noncomputable def a9C (T:Nat)(x:List Nat)(q:Nat)(rows:List (List Nat)):Nat:=List.rec 0 (fun r _ ih=>Bool.rec ih (Nat.add (a6D T (a1l x r)) ih) (inW x r&&Nat.beq (Nat.mod r.length 2) q)) rows
noncomputable def c4K (g:List Bool)(T:Nat):Bool:=b1E (fun x=>Nat.beq (a6D T x) (c7w g x)) words&&b1E (fun x=>x.isEmpty||Nat.beq (a9C T x 1 ((rowsW g).drop 1)) (Nat.add (a9C T x 0 ((rowsW g).drop 1)) (a6D T x))) words
theorem b5j:b1E (fun g=>c4K g (c4J g)) graphs=true:=by decide +kernel
noncomputable def c8Y (g:List Bool)(w s:List (List Nat))(torn:Bool):Bool:=b1E (fun t=>c2A (keyK g t) (c2B (keyK g) s)) w&&((Nat.beq (c2C s) (c2C (ddR (c2B (keyK g) w) [])))==!torn)
theorem c1y:b1E (fun g=>b1E (fun w=>c8Y g (textsW w) (a0x g w) (b3d g (a2a w))) bags) graphs=true:=by decide +kernel
theorem b5k:b1E (fun t=>b1E (fun g=>Nat.beq (keyK g t) (c8t g t)) graphs) (allW 5)=true:=by decide +kernel
end LA
end
section
namespace LA
theorem a2t {α:Type}{p:α→Bool}{l:List α}(h:b1E p l=true):∀ x∈l,p x=true:=by
 induction l with
 | nil=>exact fun x hx=>nomatch hx
 | cons a r ih=>
  have h:Bool.rec false (b1E p r) (p a)=true:=h
  cases hp:p a with
  | false=>rw [hp] at h;exact absurd h c9p
  | true=>
   rw [hp] at h
   exact fun x hx=>(c9U.mp hx).elim (fun e=>e ▸ hp) (ih h x)
theorem b5l {α β:Type}{f:α→β}{l:List α}:c2B f l=l.map f:=by
 induction l with
 | nil=>rfl
 | cons a r ih=>exact c9o (f a :: ·) ih
theorem b5m {α:Type}{l:List α}:c2C l=l.length:=by
 induction l with
 | nil=>rfl
 | cons a r ih=>exact c9o Nat.succ ih
theorem b1F {a:Nat}{l:List Nat}:c2A a l=true↔a∈l:=by
 induction l with
 | nil=>exact⟨fun h=>absurd h c9p,fun h=>nomatch h⟩
 | cons b r ih=>
  show (Bool.rec (c2A a r) true (Nat.beq b a):Bool)=true↔_
  cases h:Nat.beq b a with
  | true=>exact⟨fun _=>by rw [Nat.eq_of_beq_eq_true h];exact .head _,fun _=>rfl⟩
  | false=>
   refine ih.trans ⟨fun q=>.tail _ q,fun q=>(c9U.mp q).elim (fun e=>?_) id⟩
   rw [e,Nat.beq_refl] at h
   exact absurd h.symm c9p
theorem b5n {a b:Bool}(h:a=true↔b=true):a=b:=c9P.mpr h
theorem b5o {g:List Bool}:∀ (l acc:List (List Nat)),ddR (l.map (keyK g)) (acc.map (keyK g)).reverse=((a3z g l acc).map (keyK g)).reverse
 | [],acc=>rfl
 | t :: r,acc=>by
  show (Bool.rec (ddR (r.map (keyK g)) (keyK g t :: (acc.map (keyK g)).reverse)) (ddR (r.map (keyK g)) (acc.map (keyK g)).reverse) (c2A (keyK g t) (acc.map (keyK g)).reverse):List Nat)=((a3z g r (bif acc.any fun u=>keyK g u==keyK g t then acc else acc++[t])).map (keyK g)).reverse
  have e:c2A (keyK g t) (acc.map (keyK g)).reverse=acc.any fun u=>keyK g u==keyK g t:=b5n (b1F.trans (by
   rw [List.mem_reverse,d0Q,List.any_eq_true]
   exact⟨fun ⟨u,hu,e⟩=>⟨u,hu,c9s.mpr e⟩,fun ⟨u,hu,e⟩=>⟨u,hu,c9s.mp e⟩⟩))
  rw [e]
  cases acc.any fun u=>keyK g u==keyK g t with
  | true=>exact b5o r acc
  | false=>
   have:=b5o (g:=g) r (acc++[t])
   rw [d0Y,List.reverse_append] at this
   exact this
theorem b5p {g:List Bool}{w:List Nat}:c7w g w=numN g w:=by
 show c2C (ddR (c2B (keyK g) (textsW w)) []) = _
 rw [b5m,b5l]
 have:=c9o List.length (b5o (g:=g) (textsW w) [])
 rw [List.length_reverse,d0a] at this
 exact this
noncomputable def a8t (T:Nat)(x:List Nat)(a:Int)(r:List Nat):Int:=bif inW x r then a+(bif r.length % 2==1 then (a6D T (a1l x r):Int) else -(a6D T (a1l x r):Int)) else a
theorem b1G {T:Nat}{x:List Nat}:∀ (rows:List (List Nat)) (a:Int),rows.foldl (a8t T x) a=a+(a9C T x 1 rows:Int) - (a9C T x 0 rows:Int)
 | [],a=>(show a=a+0 - 0 by lia)
 | r :: rows,a=>by
  have s:∀ q,a9C T x q (r :: rows)=Bool.rec (a9C T x q rows) (Nat.add (a6D T (a1l x r)) (a9C T x q rows)) (inW x r&&Nat.beq (Nat.mod r.length 2) q):=fun q=>rfl
  rw [d0L,b1G rows,s,s]
  unfold a8t
  cases inW x r with
  | false=>rfl
  | true=>
   have h2:r.length % 2=0∨r.length % 2=1:=by lia
   rcases h2 with h | h
   ·rw [show Nat.mod r.length 2=0 from h,h]
    show a+-(a6D T (a1l x r):Int)+(a9C T x 1 rows:Int) - (a9C T x 0 rows:Int)=a+(a9C T x 1 rows:Int) - ((a6D T (a1l x r)+a9C T x 0 rows:Nat):Int)
    lia
   ·rw [show Nat.mod r.length 2=1 from h,h]
    show a+(a6D T (a1l x r):Int)+(a9C T x 1 rows:Int) - (a9C T x 0 rows:Int)=a+((a6D T (a1l x r)+a9C T x 1 rows:Nat):Int) - (a9C T x 0 rows:Int)
    lia
theorem c1z {a b:Nat}:Nat.beq a b=(a==b):=b5n ⟨fun h=>c9s.mpr (Nat.eq_of_beq_eq_true h),fun h=>by rw [c9s.mp h];exact Nat.beq_refl _⟩
theorem a4J {a b:Bool}(h:(a&&b)=true):a=true∧b=true:=d0t.mp h
theorem count_of {g:List Bool}(hg:g∈graphs):∃ T,(∀ x∈words,a6D T x=numN g x)∧∀ x∈words,x≠[]→((rowsW g).drop 1).foldl (a8t T x) 0=(a6D T x:Int):=by
 have h:=a4J (a2t b5j g hg)
 refine⟨c4J g,fun x hx=>(Nat.eq_of_beq_eq_true (a2t h.1 x hx)).trans b5p,fun x hx hn=>?_⟩
 have h2:=a2t h.2 x hx
 cases x with
 | nil=>exact absurd rfl hn
 | cons a r=>
  have h3:a9C (c4J g) (a :: r) 1 ((rowsW g).drop 1)=a9C (c4J g) (a :: r) 0 ((rowsW g).drop 1)+a6D (c4J g) (a :: r):=Nat.eq_of_beq_eq_true h2
  rw [b1G,h3]
  lia
theorem ends_of {g:List Bool}(hg:g∈graphs){w:List Nat}(hw:w∈bags):(∀ t∈textsW w,∃ s∈a0x g w,keyK g s=keyK g t)∧(((a0x g w).length==numN g w)==!(b3d g (a2a w)))=true:=by
 have h:=a4J (a2t (a2t c1y g hg) w hw)
 refine⟨fun t ht=>?_,?_⟩
 ·have:=b1F.mp (a2t h.1 t ht)
  rw [b5l] at this
  exact d0Q.mp this
 ·have:=h.2
  rw [show c2C (ddR (c2B (keyK g) (textsW w)) [])=numN g w from b5p,b5m,c1z] at this
  exact this
noncomputable def b1H (u:List Bool):Nat:=u.foldl (fun a b=>bif b then 2*a+1 else 2*a) 1
theorem a4K {u:List Bool}{b:Bool}:b1H (u++[b])=bif b then 2*b1H u+1 else 2*b1H u:=by
 unfold b1H
 rw [List.foldl_append]
 rfl
theorem b1I (u:List Bool):1≤b1H u:=by
 unfold b1H
 suffices h:∀ a,1≤a→1≤u.foldl (fun a b=>bif b then 2*a+1 else 2*a) a from h 1 (c9n _)
 induction u with
 | nil=>exact fun a h=>h
 | cons b r ih=>exact fun a h=>ih _ (by cases b <;> simp <;> lia)
theorem a6E {α:Type}:∀ (l:List α),l=[]∨∃ r a,l=r++[a]
 | []=>.inl rfl
 | a :: r=>(a6E r).elim (fun e=>.inr ⟨[],a,by rw [e];rfl⟩) fun ⟨q,b,e⟩=>.inr ⟨a :: q,b,by rw [e];rfl⟩
theorem b1J:∀ (n:Nat) (u v:List Bool),u.length=n→b1H u=b1H v→u=v
 | n,u,v,hn,h=>by
  rcases a6E u with rfl | ⟨u',a,rfl⟩
  ·rcases a6E v with rfl | ⟨v',b,rfl⟩
   ·rfl
   ·rw [a4K] at h
    have:=b1I v'
    have h1:b1H ([]:List Bool)=1:=rfl
    rw [h1] at h
    cases b <;> simp at h <;> lia
  ·rcases a6E v with rfl | ⟨v',b,rfl⟩
   ·rw [a4K] at h
    have:=b1I u'
    have h1:b1H ([]:List Bool)=1:=rfl
    rw [h1] at h
    cases a <;> simp at h <;> lia
   ·rw [a4K,a4K] at h
    have hl:u'.length<n:=by rw [← hn,d0D];exact c9X _
    have e:a=b∧b1H u'=b1H v':=by cases a <;> cases b <;> simp at h ⊢ <;> lia
    rw [e.1,b1J u'.length u' v' rfl e.2]
 termination_by n=>n
noncomputable def prj (i j:Nat)(t:List Nat):List Nat:=t.filter fun c=>c==i||c==j
theorem b1K {i j:Nat}(t:List Nat):prN i j t=b1H ((prj i j t).map fun c=>!(c==i)):=by
 unfold prN b1H
 suffices h:∀ a,t.foldl (fun a c=>bif c==i then 2*a else bif c==j then 2*a+1 else a) a=((prj i j t).map fun c=>!(c==i)).foldl (fun a b=>bif b then 2*a+1 else 2*a) a from h 1
 induction t with
 | nil=>exact fun a=>rfl
 | cons c r ih=>
  intro a
  rw [d0L]
  unfold prj
  rw [d0S]
  cases h1:c==i with
  | true=>rw [Bool.true_or,c9r rfl,d0K,d0L,h1];exact ih _
  | false=>
   cases h2:c==j with
   | true=>rw [Bool.or_true,c9r rfl,d0K,d0L,h1];exact ih _
   | false=>rw [Bool.or_false,c9t c9p];exact ih _
theorem b5q {i j:Nat}:∀ {u v:List Nat},(∀ c∈u,c=i∨c=j)→(∀ c∈v,c=i∨c=j)→(u.map fun c=>!(c==i))=v.map (fun c=>!(c==i))→u=v
 | [],[],_,_,_=>rfl
 | [],_ :: _,_,_,h=>by simp at h
 | _ :: _,[],_,_,h=>by simp at h
 | a :: u,b :: v,hu,hv,h=>by
  rw [d0K,d0K] at h
  have h1:=List.cons.inj h
  have e:(a==i)=(b==i):=by
   have:=c9o (!·) h1.1
   simpa using this
  have:a=b:=by
   rcases hu a (.head _) with ha | ha <;> rcases hv b (.head _) with hb | hb
   ·rw [ha,hb]
   ·rw [ha,c9y] at e
    rw [ha,c9K e.symm]
   ·rw [hb,c9y] at e
    rw [hb,c9K e]
   ·rw [ha,hb]
  rw [this,b5q (fun c hc=>hu c (.tail _ hc)) (fun c hc=>hv c (.tail _ hc)) h1.2]
theorem b5r {i j:Nat}{t t':List Nat}:prN i j t=prN i j t'↔prj i j t=prj i j t':=by
 rw [b1K,b1K]
 have mem:∀ (t:List Nat),∀ c∈prj i j t,c=i∨c=j:=fun t c hc=>by
  have:=(d0W.mp hc).2
  rw [d0F,c9s,c9s] at this
  exact this
 exact⟨fun h=>b5q (mem t) (mem t') (b1J _ _ _ rfl h),fun h=>by rw [h]⟩
theorem b9o {i j:Nat}{t:List Nat}(h:t.length≤5):prN i j t<64:=by
 have go:∀ (t:List Nat) (a:Nat),t.foldl (fun a c=>bif c==i then 2*a else bif c==j then 2*a+1 else a) a<(a+1)*2 ^ t.length:=fun t=>by
  induction t with
  | nil=>intro a;simp
  | cons c r ih=>
   intro a
   rw [d0L,d0d,Nat.pow_succ]
   have p:=Nat.one_le_two_pow (n:=r.length)
   have q:=ih (bif c==i then 2*a else bif c==j then 2*a+1 else a)
   refine c9m q ?_
   rw [Nat.mul_comm (2 ^ r.length) 2,← Nat.mul_assoc]
   refine Nat.mul_le_mul_right _ ?_
   cases c==i <;> cases c==j <;> simp <;> lia
 have h1:=go t 1
 have h2:2 ^ t.length≤2 ^ 5:=Nat.pow_le_pow_right (by decide) h
 unfold prN
 lia
theorem b1L {t t':List Nat}(h:t.length≤5)(h':t'.length≤5):∀ (l:List ((Nat×Nat)×Bool)),l.foldr (fun p a=>a*64+(bif p.2 then prN p.1.1 p.1.2 t else 0)) 0=l.foldr (fun p a=>a*64+(bif p.2 then prN p.1.1 p.1.2 t' else 0)) 0↔∀ p∈l,p.2=true→prN p.1.1 p.1.2 t=prN p.1.1 p.1.2 t'
 | []=>⟨fun _ p hp=>absurd hp List.not_mem_nil,fun _=>rfl⟩
 | p :: l=>by
  have ih:=b1L h h' l
  rw [List.foldr_cons,List.foldr_cons]
  generalize l.foldr (fun p a=>a*64+(bif p.2 then prN p.1.1 p.1.2 t else 0)) 0=A at *
  generalize l.foldr (fun p a=>a*64+(bif p.2 then prN p.1.1 p.1.2 t' else 0)) 0=B at *
  have l1:=b9o (i:=p.1.1) (j:=p.1.2) h
  have l2:=b9o (i:=p.1.1) (j:=p.1.2) h'
  constructor
  ·intro e q hq hq2
   have:A=B∧(p.2=true→prN p.1.1 p.1.2 t=prN p.1.1 p.1.2 t'):=by
    cases hp:p.2 with
    | true=>rw [hp] at e;simp at e;exact⟨by lia,fun _=>by lia⟩
    | false=>rw [hp] at e;simp at e;exact⟨by lia,fun q=>absurd q c9p⟩
   rcases c9U.mp hq with rfl | hq
   ·exact this.2 hq2
   ·exact ih.mp this.1 q hq hq2
  ·intro k
   rw [ih.mpr fun q hq=>k q (.tail _ hq)]
   cases hp:p.2 with
   | true=>rw [k p (.head _) hp]
   | false=>rfl
theorem mem_allW:∀ {n:Nat} {t:List Nat},t.length=n→(∀ c∈t,c<4)→t∈allW n
 | 0,t,h,_=>by rw [d0U.mp h];exact .head _
 | n+1,t,h,hc=>by
  rcases a6E t with rfl | ⟨r,a,rfl⟩
  ·cases h
  ·refine List.mem_flatMap.mpr ⟨r,mem_allW (by rw [d0D] at h;exact Nat.succ.inj h) fun c q=>hc c (d0x _ q),d0Q.mpr ⟨a,?_,rfl⟩⟩
   have:a<4:=hc a (d0w _ (.head _))
   simp;lia
theorem key_iff {g:List Bool}(hg:g∈graphs){t t':List Nat}(h:t.length=5)(h':t'.length=5)(hc:∀ c∈t,c<4)(hc':∀ c∈t',c<4) :
  keyK g t=keyK g t'↔∀ p∈a1k.zip g,p.2=true→prj p.1.1 p.1.2 t=prj p.1.1 p.1.2 t':=by
 rw [Nat.eq_of_beq_eq_true (a2t (a2t b5k t (mem_allW h hc)) g hg),Nat.eq_of_beq_eq_true (a2t (a2t b5k t' (mem_allW h' hc')) g hg)]
 unfold c8t
 rw [b1L (d0c h) (d0c h')]
 exact⟨fun k p hp q=>b5r.mp (k p hp q),fun k p hp q=>b5r.mpr (k p hp q)⟩
end LA
end
section
namespace LA
noncomputable def a3b (w:List Nat)(B:List (List Nat))(s:Nat):List (List Nat):=B.flatMap fun b=>(List.range (w.count s+1)).map fun k=>b++List.replicate k s
noncomputable def bagsW (w:List Nat):List (List Nat):=[0,1,2,3].foldl (a3b w) [[]]
noncomputable def a2G (g:List Bool)(rows:List (List Nat))(s:Nat):List (List Nat):=rows++(rows.filter fun r=>r.all fun o=>lo g o s).map (·++[s])
theorem c5R (g:List Bool):rowsW g=[0,1,2,3].foldl (a2G g) [[]]:=rfl
noncomputable def rows15:List (List Nat):=[[0],[1],[2],[3],[0,1],[0,2],[0,3],[1,2],[1,3],[2,3],[0,1,2],[0,1,3],[0,2,3],[1,2,3],[0,1,2,3]]
noncomputable def eqL (a:List Nat):List Nat→Bool:=List.rec (fun b=>List.rec true (fun _ _ _=>false) b) (fun x _ ih b=>List.rec false (fun y t _=>Bool.rec false (ih t) (Nat.beq x y)) b) a
noncomputable def c1A (a:List Nat)(l:List (List Nat)):Bool:=List.rec false (fun b _ ih=>Bool.rec ih true (eqL a b)) l
theorem b0J:∀ {a b:List Nat},eqL a b=true↔a=b
 | [],[]=>⟨fun _=>rfl,fun _=>rfl⟩
 | [],_ :: _=>⟨fun h=>absurd h c9p,fun h=>nomatch h⟩
 | _ :: _,[]=>⟨fun h=>absurd h c9p,fun h=>nomatch h⟩
 | x :: a,y :: b=>by
  show (Bool.rec false (eqL a b) (Nat.beq x y):Bool)=true↔_
  cases h:Nat.beq x y with
  | true=>rw [Nat.eq_of_beq_eq_true h];exact b0J.trans ⟨fun e=>by rw [e],fun e=>(List.cons.inj e).2⟩
  | false=>
   refine⟨fun q=>absurd q c9p,fun q=>?_⟩
   rw [(List.cons.inj q).1,Nat.beq_refl] at h
   exact absurd h.symm c9p
theorem a4L {a:List Nat}{l:List (List Nat)}:c1A a l=true↔a∈l:=by
 induction l with
 | nil=>exact⟨fun h=>absurd h c9p,fun h=>nomatch h⟩
 | cons b r ih=>
  show (Bool.rec (c1A a r) true (eqL a b):Bool)=true↔_
  cases h:eqL a b with
  | true=>exact⟨fun _=>by rw [b0J.mp h];exact .head _,fun _=>rfl⟩
  | false=>
   refine ih.trans ⟨fun q=>.tail _ q,fun q=>(c9U.mp q).elim (fun e=>?_) id⟩
   rw [e,b0J.mpr rfl] at h
   exact absurd h.symm c9p
noncomputable def c7x (x:List Nat)(done:List (List Nat)):Bool:=!(c1A x done)&&(c1A x words&&b1E (fun r=>!(inW x r)||c1A (a1l x r) done) rows15)
noncomputable def c7y (l:List (List Nat)):List (List Nat)→Bool:=List.rec (fun _=>true) (fun x _ ih done=>c7x x done&&ih (x :: done)) l
theorem c1B:b1E (fun w=>(bagsW w).head?==some []&&(c1A w (bagsW w)&&c7y ((bagsW w).drop 1) [[]])) bags=true:=by decide +kernel
theorem b8a:b1E (fun g=>(rowsW g).head?==some []&&b1E (fun r=>c1A r rows15) ((rowsW g).drop 1)) graphs=true:=by decide +kernel
theorem b5s:∀ {l done:List (List Nat)},c7y l done=true→∀ pre x post,l=pre++x :: post→c7x x (pre.reverse++done)=true
 | [],_,_,pre,x,post,h=>absurd h (by simp)
 | a :: l,done,h,pre,x,post,e=>by
  have h:(c7x a done&&c7y l (a :: done))=true:=h
  cases pre with
  | nil=>rw [(List.cons.inj e).1] at h;exact (a4J h).1
  | cons b pre=>
   have e:=List.cons.inj (show a :: l=b :: (pre++x :: post) from e)
   have:=b5s (a4J h).2 pre x post e.2
   rw [e.1] at this
   rw [List.reverse_cons,d0A]
   exact this
structure BagAt (pre:List (List Nat))(x:List Nat):Prop where
 new:x ∉ pre
 mem:x∈words
 less:∀ r∈rows15,inW x r=true→a1l x r∈pre
theorem a9D {α:Type}{l:List α}{a:α}(h:l.head?=some a):l=a :: l.drop 1:=by
 cases l with
 | nil=>cases h
 | cons b r=>cases h;rfl
theorem bags_of {w:List Nat}(hw:w∈bags):bagsW w=[] :: (bagsW w).drop 1∧w∈bagsW w∧∀ pre x post,(bagsW w).drop 1=pre++x :: post→BagAt ([] :: pre) x:=by
 have h:=a4J (a2t c1B w hw)
 have h2:=a4J h.2
 refine⟨a9D (c9K h.1),a4L.mp h2.1,fun pre x post e=>?_⟩
 have k:=a4J (b5s h2.2 pre x post e)
 have k2:=a4J k.2
 have mm:∀ y,y∈pre.reverse++[[]]↔y∈[] :: pre:=fun y=>by
  rw [d0v,List.mem_reverse,d0i,c9U,Or.comm]
 refine⟨fun q=>?_,a4L.mp k2.1,fun r hr hin=>?_⟩
 ·have:=k.1
  rw [a4L.mpr ((mm x).mpr q)] at this
  exact absurd this c9p
 ·have:=a2t k2.2 r hr
  rw [hin] at this
  exact (mm _).mp (a4L.mp this)
theorem rows_of {g:List Bool}(hg:g∈graphs):rowsW g=[] :: (rowsW g).drop 1∧∀ r∈(rowsW g).drop 1,r∈rows15:=by
 have h:=a4J (a2t b8a g hg)
 exact⟨a9D (c9K h.1),fun r hr=>a4L.mp (a2t h.2 r hr)⟩
end LA
end
section
theorem a0G {n:Nat}(h:n≤16777216):a0M n=true:=Nat.ble_eq_true_of_le h
theorem a1b {α β γ:Type}{f:α→Option β}{e:γ→α}{g:γ→β}{l:List γ}(h:∀ x∈l,f (e x)=some (g x)):(l.map e).mapM f=some (l.map g):=by
 induction l with
 | nil=>rfl
 | cons a l ih=>rw [d0K,List.mapM_cons,h a (.head _),ih fun x hx=>h x (.tail _ hx)];rfl
theorem c5S {α β:Type}{f:α→Option β}{g:α→β}{l:List α}(h:∀ x∈l,f x=some (g x)):l.mapM f=some (l.map g):=by
 have q:=a1b (e:=id) (f:=f) (g:=g) (l:=l) h
 rw [List.map_id] at q
 exact q
theorem b9p {k:Int}{i n:Nat}(h:(if k<0 then k+n else k)=(i:Int))(hi:i<n):seqIndex? k n=some i:=by
 unfold seqIndex?
 show (if (decide (0≤if k<0 then k+(n:Int) else k)&&decide ((if k<0 then k+(n:Int) else k)<n))=true then some (if k<0 then k+(n:Int) else k).toNat else none)=some i
 rw [h,c9r (d0t.mpr ⟨d0G (c9Z i),d0G (Int.ofNat_lt.mpr hi)⟩)]
 rfl
theorem c4L {i n:Nat}(h:i<n):seqIndex? (i:Int) n=some i:=b9p (c9t (Int.not_lt.mpr (c9Z i))) h
theorem b8b {n:Nat}(h:0<n):seqIndex? (-1) n=some (n - 1):=b9p (by rw [c9r (by decide),Int.ofNat_sub h,Int.add_comm];rfl) (Nat.sub_lt h Nat.one_pos)
theorem a8u {i n:Nat}(h:i<n)(hn:n≤16777216):b1d (i:Int) n=some i:=(a0n (a0G hn)).trans (c4L h)
theorem c4M {n:Nat}(h:0<n)(hn:n≤16777216):b1d (-1) n=some (n - 1):=(a0n (a0G hn)).trans (b8b h)
theorem c4N {α:Type}{k:Int}{n i:Nat}{f:Nat→Option α}(hi:b1d k n=some i):(b1d k n).bind f=f i:=by rw [hi];rfl
theorem a8v {α:Type}{l:List α}{i:Nat}{d:α}(h:l[i]?=some d):i<l.length:=(d0j.mp h).1
theorem a1v {α:Type}{x y:Option α}{a:α}(h:x=some a):x.or y=some a:=by rw [h];rfl
theorem b3e {l:List D}{k:Int}{i:Nat}{d:D}(hi:b1d k l.length=some i)(h:l[i]?=some d):a8F (.list l) (.int k)=some d:=a1v ((c4N hi).trans h)
theorem a3A {l:List D}{i:Nat}{d:D}(h:l[i]?=some d)(hn:l.length≤16777216):a8F (.list l) (.int (i:Int))=some d:=b3e (a8u (a8v h) hn) h
theorem c5T {l:List D}{i:Nat}{d:D}(h:l[i]?=some d)(hn:l.length≤16777216):a8F (.tup l) (.int (i:Int))=some d:=a1v (x:=(b1d (i:Int) l.length).bind (l[·]?)) ((c4N (a8u (a8v h) hn)).trans h)
theorem a4M {s:Str}{g:Bool}{i:Nat}{c:Nat}(h:s.cps[i]?=some c)(hn:s.length≤16777216):a8F (.str s g) (.int (i:Int))=some (.str ⟨#[c]⟩ true):=by
 refine a1v (x:=b9E s i) ?_
 show Option.map _ ((b1d (i:Int) s.length).bind _) = _
 rw [a8u (show i<s.length from (Array.getElem?_eq_some_iff.mp h).1) hn]
 show Option.map _ (s.cps[i]?) = _
 rw [h]
 rfl
theorem b1M {n i:Nat}:clipAt n (i:Int)=min i n:=by
 unfold clipAt
 rw [c9t (Int.not_lt.mpr (c9Z i)),Int.max_eq_right (Int.le_min.mpr ⟨c9Z i,c9Z n⟩)]
 by_cases h:i≤n
 ·rw [Int.min_eq_left (Int.ofNat_le.mpr h),Nat.min_eq_left h];rfl
 ·rw [Int.min_eq_right (Int.ofNat_le.mpr (Nat.le_of_not_le h)),Nat.min_eq_right (Nat.le_of_not_le h)];rfl
theorem a8w {n i:Nat}(h:i≤n):clipAt n (i:Int)=i:=b1M.trans (Nat.min_eq_left h)
theorem c4O {n i:Nat}(h:n≤i):clipAt n (i:Int)=n:=b1M.trans (Nat.min_eq_right h)
theorem b9q {α:Type}{l:List α}{i:Nat}(h:i≤l.length):cut l none (some (i:Int))=l.take i:=by
 show (l.drop 0).take (clipAt l.length i - 0) = _
 rw [a8w h,List.drop_zero,Nat.sub_zero]
theorem b1N {α:Type}{l:List α}{i:Nat}(h:i≤l.length):cut l (some (i:Int)) none=l.drop i:=by
 show (l.drop (clipAt l.length i)).take (l.length - clipAt l.length i) = _
 rw [a8w h,List.take_of_length_le (d0c List.length_drop)]
theorem b5t {α:Type}{l:List α}{i j:Nat}(h:i≤j)(hj:j≤l.length):cut l (some (i:Int)) (some (j:Int))=(l.drop i).take (j - i):=by
 show (l.drop (clipAt l.length i)).take (clipAt l.length j - clipAt l.length i) = _
 rw [a8w (c9v h hj),a8w hj]
theorem b5u (k:Int):a2q (some (.int k))=grd (decide (-(2 ^ 62)<k)&&decide (k<2 ^ 62)) (some (some k)):=by kernel_rfl
theorem a1r {i:Nat}(h:i≤16777216):a2q (some (.int (i:Int)))=some (some (i:Int)):=by
 have h1:-(2 ^ 62)<(i:Int):=by lia
 have h2:(i:Int)<2 ^ 62:=by lia
 rw [b5u,a0n (d0t.mpr ⟨d0G h1,d0G h2⟩)]
theorem b0K {l:List D}{lo hi:Option Int}(h:l.length≤16777216):a3l (.list l) lo hi=some (.list (cut l lo hi)):=a1v (a0n (a0G h))
theorem b5v {s:Str}{g:Bool}{lo hi:Option Int}(h:s.length≤16777216):a3l (.str s g) lo hi=some (.str ⟨(cut s.cps.toList lo hi).toArray⟩):=a1v (x:=grd (a0M s.length) _) (a0n (a0G h))
theorem b8c {s:Array UInt8}{lo hi:Option Int}(h:s.size≤16777216):a3l (.bytes s) lo hi=some (.bytes (cut s.toList lo hi).toArray):=a0n (x:=some (D.bytes (cut s.toList lo hi).toArray)) (a0G h)
theorem b1O {a b:Nat}(ha:a<2 ^ 30)(hb:b<2 ^ 30):a5T (a:Int) (b:Int) 1=some ((List.range (b - a)).map fun (i:Nat)=>.int ((a+i:Nat):Int)):=by
 have low:∀ n:Nat,decide (-(2 ^ 30)<(n:Int))=true:=fun n=>d0G (Int.lt_of_lt_of_le (by decide) (c9Z n))
 have up:∀ {n:Nat},n<2 ^ 30→decide ((n:Int)<2 ^ 30)=true:=fun h=>d0G (Int.ofNat_lt.mpr h)
 refine (a0n (d0t.mpr ⟨d0t.mpr ⟨d0t.mpr ⟨low a,up ha⟩,low b⟩,up hb⟩)).trans ((c9r rfl).trans ?_)
 rw [show ((b:Int) - (a:Int)).toNat=b - a from Int.toNat_sub b a]
 exact c9o some (d0R fun i _=>c9o D.int (Int.natCast_add a i).symm)
theorem b3f {b:Nat}(hb:b<2 ^ 30):a5T 0 (b:Int) 1=some ((List.range b).map fun (i:Nat)=>.int (i:Int)):=by
 refine (b1O (a:=0) (by decide) hb).trans (c9o some (d0R fun i _=>?_))
 rw [d0E]
theorem c5U {α β:Type}(g:α→β)(l:List α):(l.map fun d=>[g d]).flatten=l.map g:=by
 induction l with
 | nil=>rfl
 | cons a l ih=>exact c9o (g a :: ·) ih
theorem b5w {α β:Type}(g:α→β)(p:α→Bool)(l:List α):(l.map fun d=>bif p d then [g d] else []).flatten=(l.filter p).map g:=by
 induction l with
 | nil=>rfl
 | cons a l ih=>
  rw [d0K,List.flatten_cons,ih,d0S]
  cases p a <;> rfl
section
variable {F:Fns}{fuel:Nat}{σ σ' σ₀:Store}{d:D}
theorem a0F {α:Type}{fv:List Nat}{elt iter:PE}{ifs:PEs}{t:Tgt}{xs:List α}{f g:α→D}{p:α→Bool}(hi:evI F σ iter=some (xs.map f))(hr:a0O σ fv=some σ₀)
  (hb:∀ x∈xs,∃ σ',a4d σ₀ t (f x)=some σ'∧b2s F σ' ifs=some (p x)∧(p x=true→strict σ' elt=true∧evE F σ' elt=some (g x))) (hl:xs.length≤16777216) :
  evE F σ (.comp fv elt t iter ifs .nil)=some (.list ((xs.filter p).map g)):=by
 show (evI F σ iter).bind _ = _
 rw [hi]
 show (a0O σ fv).bind _ = _
 rw [hr]
 show (List.mapM (m:=Option) _ (xs.map f)).bind _ = _
 rw [a1b (g:=fun x=>bif p x then [g x] else []) fun x hx=>by
  obtain⟨σ',h1,h2,h3⟩:=hb x hx
  show (a4d σ₀ t (f x)).bind _ = _
  rw [h1]
  show (b2s F σ' ifs).bind _ = _
  rw [h2]
  cases hp:p x with
  | false=>rfl
  | true=>
   refine (h3 hp).elim fun h4 h5=>?_
   show grd (strict σ' elt) ((evE F σ' elt).map _) = _
   rw [h4,h5]
   rfl]
 show grd (a0M (List.length (List.flatten _))) (some (D.list (List.flatten _))) = _
 rw [b5w,a0n (a0G (c9v (d0c (d0a g)) (c9v (d0X _ _) hl)))]
theorem a1w {α:Type}{fv:List Nat}{elt iter:PE}{t:Tgt}{xs:List α}{f g:α→D}(hi:evI F σ iter=some (xs.map f))(hr:a0O σ fv=some σ₀)
  (hb:∀ x∈xs,∃ σ',a4d σ₀ t (f x)=some σ'∧strict σ' elt=true∧evE F σ' elt=some (g x)) (hl:xs.length≤16777216):evE F σ (.comp fv elt t iter .nil .nil)=some (.list (xs.map g)):=by
 have h:=a0F (ifs:=.nil) (p:=fun _=>true) hi hr (fun x hx=>(hb x hx).elim fun σ' h=>⟨σ',h.1,rfl,fun _=>h.2⟩) hl
 rw [List.filter_eq_self.mpr fun _ _=>rfl] at h
 exact h
theorem c5V {fv:List Nat}{elt iter:PE}{t:Tgt}{items:List D}{g:D→D}(hi:evI F σ iter=some items)(hr:a0O σ fv=some σ₀)
  (hb:∀ d∈items,∃ σ',a4d σ₀ t d=some σ'∧strict σ' elt=true∧evE F σ' elt=some (g d)) (hl:items.length≤16777216):evE F σ (.comp fv elt t iter .nil .nil)=some (.list (items.map g)):=
 a1w (f:=id) (by rw [List.map_id];exact hi) hr hb hl
theorem c1C {fv:List Nat}{elt iter:PE}{ifs:PEs}{t:Tgt}{items:List D}{g:D→D}{p:D→Bool}(hi:evI F σ iter=some items)(hr:a0O σ fv=some σ₀)
  (hb:∀ d∈items,∃ σ',a4d σ₀ t d=some σ'∧b2s F σ' ifs=some (p d)∧(p d=true→strict σ' elt=true∧evE F σ' elt=some (g d))) (hl:items.length≤16777216) :
  evE F σ (.comp fv elt t iter ifs .nil)=some (.list ((items.filter p).map g)):=a0F (f:=id) (by rw [List.map_id];exact hi) hr hb hl
theorem a0b {α β:Type}{x:Option α}{a:α}{f:α→Option β}{o:Option β}(h:x=some a)(k:f a=o):x.bind f=o:=by rw [h];exact k
theorem a1c {α β:Type}{x:Option α}{a:α}{f:α→β}{b:β}(h:x=some a)(k:f a=b):x.map f=some b:=by rw [h,← k];rfl
theorem a3B {α:Type}{c:Bool}{x:Option α}{o:Option α}(h:c=true)(k:x=o):grd c x=o:=by rw [h];exact k
theorem a0Z {f:Nat}{args:PEs}{as:List D}(h1:a2V F σ args=some as)(h2:F f as none=some d):evE F σ (.call f args .no)=some d:=by
 show (a2V F σ args).bind _ = _
 rw [h1]
 exact h2
theorem b8d {ps:PS}{r:List PS}{o:Option Out}(h:evS F fuel σ ps=some (.next σ'))(k:a0y F fuel σ' r=o):a0y F fuel σ (ps :: r)=o:=by
 show (evS F fuel σ ps).bind _ = _
 rw [h]
 exact k
theorem a0c {ps:PS}{r:List PS}(h:evS F fuel σ ps=some (.next σ')):a0y F fuel σ (ps :: r)=a0y F fuel σ' r:=b8d h rfl
theorem a5l {ps:PS}{r:List PS}{o:Out}(h:evS F fuel σ ps=some o)(hn:∀ σ',o≠.next σ'):a0y F fuel σ (ps :: r)=some o:=by
 show (evS F fuel σ ps).bind _ = _
 rw [h]
 cases o <;> first | rfl | exact absurd rfl (hn _)
theorem a8x {body:Store→D→Option Out}{r:List D}{σ'':Option Out}(e:body σ d=some (.next σ')∨body σ d=some (.cont σ'))(h:a5D body σ' r=σ''):a5D body σ (d :: r)=σ'':=by
 show (body σ d).bind _ = _
 rcases e with e | e
 ·rw [e];exact h
 ·rw [e];exact h
theorem c7z {body:Store→D→Option Out}(P:List D→Store→Prop){items:List D}{σ:Store}(h:P items σ)(k:∀ d r σ,P (d :: r) σ→∃ σ',(body σ d=some (.next σ')∨body σ d=some (.cont σ'))∧P r σ') :
  ∃ σ',a5D body σ items=some (.next σ')∧P [] σ':=by
 induction items generalizing σ with
 | nil=>exact⟨σ,rfl,h⟩
 | cons d r ih=>
  refine (k d r σ h).elim fun σ' Z1=>Z1.elim (fun e h'=>?_)
  refine (ih h').elim fun σ'' Z1=>Z1.elim (fun e2 h''=>?_)
  exact⟨σ'',a8x e e2,h''⟩
theorem b8e {test:Store→Option Bool}{body:Store→Option Out}{n:Nat}(h:test σ=some false):a2B test body (n+1) σ=some (.next σ):=by
 show (test σ).bind _ = _
 rw [h]
 rfl
theorem a1I {test:Store→Option Bool}{body:Store→Option Out}{n:Nat}{o:Option Out}(h:test σ=some true)(e:body σ=some (.next σ'))(k:a2B test body n σ'=o):a2B test body (n+1) σ=o:=by
 show (test σ).bind _ = _
 rw [h]
 show (body σ).bind _ = _
 rw [e]
 exact k
theorem c4P {test:Store→Option Bool}{body:Store→Option Out}{n:Nat}(h:test σ=some true)(e:body σ=some (.ret d)):a2B test body (n+1) σ=some (.ret d):=by
 show (test σ).bind _ = _
 rw [h]
 show (body σ).bind _ = _
 rw [e]
 rfl
theorem c4Q {test:Store→Option Bool}{body:Store→Option Out}(P:Nat→Store→Prop){n fuel:Nat}{σ:Store}(hf:n<fuel)(h:P n σ)
  (k:∀ n σ,P (n+1) σ→test σ=some true∧∃ σ',body σ=some (.next σ')∧P n σ') (h0:∀ σ,P 0 σ→test σ=some false):∃ σ',a2B test body fuel σ=some (.next σ')∧P 0 σ':=by
 induction n generalizing fuel σ with
 | zero=>
  cases fuel with
  | zero=>cases hf
  | succ fuel=>exact⟨σ,b8e (h0 σ h),h⟩
 | succ n ih=>
  cases fuel with
  | zero=>cases hf
  | succ fuel=>
   obtain⟨e1,σ',e2,h'⟩:=k n σ h
   refine (ih (Nat.lt_of_succ_lt_succ hf) h').elim fun σ'' Z1=>Z1.elim (fun e3 h''=>?_)
   exact⟨σ'',a1I e1 e2 e3,h''⟩
end
theorem c4R {n f:Nat}{args:List D}{kw:Option D}{df:Def}{fuel:Nat}(hf:a0p.find? (fun d=>d.f==f)=some df)(h1:(f==ids.esc)=false)(h2:(f==ids.tr)=false)(hc:(decide ((b0D df args).length=df.params.length)&&(kw.isNone||!df.kwonly.isEmpty))=true) :
  runG ids a0p fuel (n+1) f args kw=(a0y (runG ids a0p fuel n) fuel (a4H df args kw) df.body).bind Out.res:=by
 show (bif f==ids.esc then _ else bif f==ids.tr then _ else (a0p.find? (fun d=>d.f==f)).bind _) = _
 rw [h1,h2,hf]
 exact a0n hc
theorem b0L {n f:Nat}{args:List D}{kw:Option D}{df:Def}{fuel:Nat}{d:D}{σ:Store}{ps:List PS}(hf:a0p.find? (fun d=>d.f==f)=some df)(h1:(f==ids.esc)=false)(h2:(f==ids.tr)=false)(hc:(decide ((b0D df args).length=df.params.length)&&(kw.isNone||!df.kwonly.isEmpty))=true)
  (hσ:a4H df args kw=σ) (hb:df.body=ps) (h:a0y (runG ids a0p fuel n) fuel σ ps=some (.ret d)):runG ids a0p fuel (n+1) f args kw=some d:=by
 rw [c4R hf h1 h2 hc,hσ,hb,h]
 rfl
theorem a1W {n f:Nat}{args:List D}{df:Def}{d:D}{fuel:Nat}(hf:a0p.find? (fun d=>d.f==f)=some df)(h1:f≠ids.esc)(h2:f≠ids.tr)(hd:df.dflt=[])(hk:df.kwonly=[])(hl:args.length=df.params.length)
  (h:a0y (runG ids a0p fuel n) fuel ((df.params.zip args).map fun p=>(p.1,Slot.val p.2)) df.body=some (.ret d)):runG ids a0p fuel (n+1) f args none=some d:=by
 have e:b0D df args=args:=by unfold b0D;rw [hd,List.drop_nil,d0z]
 refine b0L hf (c9u.mpr h1) (c9u.mpr h2) (by rw [e,hl,d0G rfl];rfl) ?_ rfl h
 unfold a4H
 rw [e,hk,List.map_nil,d0z]
end
section
section
variable {F:Fns}{fuel:Nat}{σ σ' σ₀:Store}{a b i x y z d:D}{ea eb ec:PE}
theorem a1D (h1:evE F σ ea=some x)(h2:evE F σ eb=some y)(h3:a8F x y=some z):evE F σ (.idx ea eb)=some z:=by
 show (evE F σ ea).bind _ = _;exact a0b h1 (a0b h2 h3)
theorem a0q {op:Operator}(h1:evE F σ ea=some x)(h2:evE F σ eb=some y)(h3:a2U op x y=some z):evE F σ (.bin op ea eb)=some z:=by
 show (evE F σ ea).bind _ = _;exact a0b h1 (a0b h2 h3)
theorem a0Q {op:CmpOp}{q:Bool}(h1:evE F σ ea=some x)(h2:evE F σ eb=some y)(h3:a3R op x y=some q):evT F σ (.cmp op ea eb)=some q:=by
 show (evE F σ ea).bind _ = _;exact a0b h1 (a0b h2 h3)
theorem a3Y {n:Nat}(h1:evE F σ ea=some x)(h2:c2F x=some n)(hn:n≤16777216):evE F σ (.len ea)=some (.int n):=by
 show (evE F σ ea).bind _ = _;exact a0b h1 (a0b h2 (a0n (a0G hn)))
theorem a3C {e:PE}{q:Bool}(h:evT F σ e=some q):b2s F σ (.cons e .nil)=some q:=by
 show (evT F σ e).bind _ = _;exact a0b h (by cases q <;> rfl)
theorem a1T {n:Nat}(h:evE F σ ea=some (.int n))(hn:n<2 ^ 30):evI F σ (.range1 ea)=some ((List.range n).map fun (i:Nat)=>.int (i:Int)):=by
 show (evE F σ ea).bind _ = _;exact a0b h (a0b rfl (b3f hn))
theorem c4S {m n:Nat}(h1:evE F σ ea=some (.int m))(h2:evE F σ eb=some (.int n))(hm:m<2 ^ 30)(hn:n<2 ^ 30):evI F σ (.range2 ea eb)=some ((List.range (n - m)).map fun (i:Nat)=>.int ((m+i:Nat):Int)):=by
 show (evE F σ ea).bind _ = _;exact a0b h1 (a0b h2 (a0b rfl (a0b rfl (b1O hm hn))))
theorem a2u {d:D}{e:PE}{r:List PS}(h1:strict (freezeAll σ) e=true)(h2:evE F (freezeAll σ) e=some d):a0y F fuel σ (.ret e :: r)=some (.ret d):=
 a5l (show grd _ _ = _ from a3B h1 (a1c h2 rfl)) nofun
theorem b9r {x:Nat}{e:PE}{d:D}(hn:noMeth σ x=true)(hv:a5C e=none)(hs:strict σ e=true)(h:evE F σ e=some d):evS F fuel σ (.asg x false e)=some (.next (σ.set x (.val d))):=by
 show grd _ (match a5C e with
  | some y=>(σ.get y).bind (b8W σ x y)
  | none=>grd (strict σ e) ((evE F σ e).map fun d=>.next (σ.set x (.val d)))) = _
 rw [hn,hv,hs,h]
 rfl
theorem a0U {t:PE}{A B:List PS}{q:Bool}(h:evT F σ t=some q):evS F fuel σ (.ifs t A B)=a0y F fuel σ (if q then A else B):=by
 show (evT F σ t).bind _ = _;exact a0b h (by cases q <;> rfl)
end
noncomputable def c8u (r:List Int):D:=.list (r.map .int)
theorem b9s {α β:Type}{f:α→β}{l:List α}{i:Nat}{d:α}(h:i<l.length):(l.map f)[i]?=some (f (l.getD i d)):=by
 rw [d0s,c9S,c9T h]
 rfl
theorem b5x {r:List Int}{j:Nat}(h:j<r.length)(hn:r.length≤16777216):a8F (c8u r) (.int (j:Int))=some (.int (r.getD j 0)):=a3A (b9s h) (c9v (d0c (d0a ..)) hn)
theorem b9t {y:Int}{c:Nat}(h0:y≠0)(hy:y.natAbs<2 ^ c):y.natAbs.log2<c:=(Nat.log2_lt (Int.natAbs_ne_zero.mpr h0)).mpr hy
theorem b5y {x:Int}{b:Nat}(h:x.natAbs<2 ^ b):Builtin.Int.intBits x≤b:=by
 unfold Builtin.Int.intBits
 by_cases hx:(x==0)=true
 ·rw [c9r hx];exact d0f _
 ·rw [c9t hx];exact b9t (fun q=>hx (c9s.mpr q)) h
theorem b8f {x y:Int}(h:a8J x y=true):a2U .Mult (.int x) (.int y)=some (.int (x*y)):=a1v (a1c (x:=grd (a8J x y) (some (x*y))) (a0n h) rfl)
theorem c1D {x y:Int}(h0:0≤y)(h:(Builtin.Int.intBits x:Int)*y≤2 ^ 27):a2U .Pow (.int x) (.int y)=some (.int (x ^ y.toNat)):=
 a1c (x:=grd (decide (0≤y)&&decide ((Builtin.Int.intBits x:Int)*y≤2 ^ 27)) (some (x ^ y.toNat))) (a0n (d0t.mpr ⟨d0G h0,d0G h⟩)) rfl
theorem b5z {x y:Int}{b c:Nat}(hx:x.natAbs<2 ^ b)(hy:y.natAbs<2 ^ c)(h:b+c≤1000000):a2U .Mult (.int x) (.int y)=some (.int (x*y)):=
 b8f (d0F.mpr (.inr (d0G (c9v (Nat.add_le_add (b5y hx) (b5y hy)) h))))
theorem b5A {x y:Int}{c:Nat}(hy:y.natAbs<2 ^ c)(hc:c≤8000):Builtin.divisionGoesByPylong x y=false:=by
 have h:(if (y==0)=true then 0 else y.natAbs.log2 / 30+1)≤300:=by
  by_cases h:(y==0)=true
  ·rw [c9r h];exact d0f _
  ·rw [c9t h]
   have:=b9t (fun q=>h (c9s.mpr q)) hy
   lia
 unfold Builtin.divisionGoesByPylong
 exact Bool.and_eq_false_iff.mpr (.inl (c9Y (Nat.not_lt.mpr h)))
theorem c4T {x y:Int}{c:Nat}(h0:y≠0)(hy:y.natAbs<2 ^ c)(hc:c≤8000):a2U .FloorDiv (.int x) (.int y)=some (.int (x.fdiv y)):=
 a1c (x:=grd (!(decide (y=0)||Builtin.divisionGoesByPylong x y)) (some (x.fdiv y))) (a0n (by rw [c9Y h0,b5A hy hc];rfl)) rfl
theorem c8v {p:Nat}(h:p≤1000):a2U .Pow (.int (-1)) (.int (p:Int))=some (.int ((-1) ^ p)):=by
 have e:Builtin.Int.intBits (-1)=1:=by decide +kernel
 exact c1D (c9Z p) (by rw [e];lia)
theorem c1E (p:Nat):((-1:Int) ^ p).natAbs=1:=by rw [Int.natAbs_pow];exact Nat.one_pow p
theorem a1x {α:Type}{l:List α}{i:Nat}{d:α}(h:i<l.length):l.getD i d∈l:=by
 rw [c9S,c9T h,Option.getD_some];exact List.getElem_mem h
section
variable {F:Fns}{fuel:Nat}
theorem c7A {r:List Int}{n:Nat}(h:r.length=n):c2F (c8u r)=some n:=c9o some ((d0a ..).trans h)
end
end
section
section
variable {F:Fns}{fuel:Nat}{σ:Store}{d x y z:D}{ea eb ec:PE}
theorem a1y {lo hi:PO}{l h:Option D}{l' h':Option Int}(h1:evE F σ ea=some x)(h2:evO F σ lo=some l)(h3:evO F σ hi=some h)(h4:a2q l=some l')(h5:a2q h=some h')(h6:a3l x l' h'=some z) :
  evE F σ (.slice ea lo hi)=some z:=by show (evE F σ ea).bind _ = _;exact a0b h1 (a0b h2 (a0b h4 (a0b h3 (a0b h5 h6))))
theorem a7u:a2V F σ .nil=some []:=rfl
theorem a1X {e:PE}{es:PEs}{l:List D}(s1:strict σ e=true)(h1:evE F σ e=some x)(h2:a2V F σ es=some l):a2V F σ (.cons e es)=some (x :: l):=by
 show grd _ ((evE F σ e).bind _) = _;exact a3B s1 (a0b h1 (a1c h2 rfl))
theorem c4U {es:PEs}{l:List D}(h:a2V F σ es=some l)(hl:l.length≤16777216):evE F σ (.tup es)=some (.tup l):=by
 show (a2V F σ es).bind _ = _;exact a0b h (a0n (a0G hl))
theorem c1F {es:PEs}{l:List D}(h:a2V F σ es=some l)(hl:l.length≤16777216):evE F σ (.list es)=some (.list l):=by
 show (a2V F σ es).bind _ = _;exact a0b h (a0n (a0G hl))
theorem b0M (s1:strict σ ea=true)(s2:strict σ eb=true)(h1:evE F σ ea=some x)(h2:evE F σ eb=some y):evE F σ (.tup (.cons ea (.cons eb .nil)))=some (.tup [x,y]):=
 c4U (a1X s1 h1 (a1X s2 h2 a7u)) (by decide:2≤16777216)
theorem a2v (h1:evE F σ ea=some x):evO F σ (.yes ea)=some (some x):=by show (evE F σ ea).map _ = _;exact a1c h1 rfl
theorem a8y {xs:List Nat}{e:PE}{ds:List D}{σ':Store}(h:evE F σ e=some (.tup ds))(h2:a0P σ (.many xs) (.tup ds)=some σ'):evS F fuel σ (.asgT xs e)=some (.next σ'):=by
 show (evE F σ e).bind _ = _;exact a0b h (a1c h2 rfl)
theorem a9E {l m:List D}(h:l.length+m.length≤16777216):a2U .Add (.list l) (.list m)=some (.list (l++m)):=a1v (x:=grd (a0M (l.length+m.length)) _) (a0n (a0G h))
end
end
section
noncomputable def NM (σ:Store):Prop:=∀ p∈σ,∀ y,p.2≠.meth y
theorem NM.no {σ:Store}(h:NM σ)(x:Nat):noMeth σ x=true:=c9Q.mpr fun p hp=>by
 have q:=h p hp
 cases hs:p.2 with
 | meth y=>exact absurd hs (q y)
 | _=>rfl
theorem NM.nil:NM []:=fun _ h=>nomatch h
theorem NM.cons {σ:Store}{x:Nat}{s:Slot}(hs:∀ y,s≠.meth y)(h:NM σ):NM ((x,s) :: σ):=fun p hp=>(c9U.mp hp).elim (fun e=>e ▸ hs) (h p)
theorem NM.set {σ:Store}(h:NM σ){x:Nat}{s:Slot}(hs:∀ y,s≠.meth y):NM (σ.set x s):=by
 induction σ with
 | nil=>exact NM.nil.cons hs
 | cons p r ih=>
  have hr:NM r:=fun q hq=>h q (.tail _ hq)
  show NM (bif x==p.1 then (p.1,s) :: r else p :: Store.set r x s)
  cases x==p.1 with
  | true=>exact hr.cons hs
  | false=>exact (ih hr).cons (h _ (.head _))
theorem NM.val {σ:Store}(h:NM σ){x:Nat}{d:D}:NM (σ.set x (.val d)):=h.set nofun
theorem NM.own {σ:Store}(h:NM σ){x:Nat}{l:List D}:NM (σ.set x (.own l)):=h.set nofun
theorem a0H {σ:Store}{x:Nat}{s s':Slot}(h:σ.get x=some s)(hs:s.freeze=some s'):(freezeAll σ).get x=some s':=by
 have go:∀ l:Store,(l.lookup x).isSome=true→Store.get (l.filterMap fun p:Nat×Slot=>(σ.get p.1).bind fun s=>s.freeze.map fun s'=>(p.1,s')) x=some s':=fun l hl=>by
  induction l with
  | nil=>exact absurd hl c9p
  | cons p r ih=>
   by_cases q:x=p.1
   ·rw [d0T (b:=(p.1,s')) (by rw [← q,h];exact a1c hs rfl),a0S,c9s.mpr q]
    rfl
   ·have hl:((p :: r:Store).lookup x).isSome=true:=hl
    rw [show (p :: r:Store)=(p.1,p.2) :: r from rfl,c9q,c9u.mpr q] at hl
    cases e:(σ.get p.1).bind fun s=>s.freeze.map fun s'=>(p.1,s') with
    | none=>rw [List.filterMap_cons_none (f:=fun p:Nat×Slot=>(σ.get p.1).bind fun s=>s.freeze.map fun s'=>(p.1,s')) e];exact ih hl
    | some w=>
     obtain⟨s,_,e'⟩:=bnd e
     obtain⟨s',_,e'⟩:=mpd e'
     rw [d0T (f:=fun p:Nat×Slot=>(σ.get p.1).bind fun s=>s.freeze.map fun s'=>(p.1,s')) e,a0S,← e',c9u.mpr q]
     exact ih hl
 exact go σ (by rw [show σ.lookup x=some s from h];rfl)
section
variable {F:Fns}{fuel:Nat}{σ σ' σ₀:Store}{d x y z:D}{ea eb ec:PE}
theorem a0i {k:Nat}(h:σ.get k=some (.val d)):evE F σ (.var k)=some d:=by show (σ.get k).bind _ = _;exact a0b h rfl
theorem a6F {k:Nat}{l:List D}(h:σ.get k=some (.own l)):evE F σ (.var k)=some (.list l):=by show (σ.get k).bind _ = _;exact a0b h rfl
theorem a0s {k:Nat}{e:PE}(hn:NM σ)(hv:a5C e=none)(hs:strict σ e=true)(h:evE F σ e=some d):evS F fuel σ (.asg k false e)=some (.next (σ.set k (.val d))):=b9r (hn.no k) hv hs h
theorem b5B {k:Nat}{es:PEs}{l:List D}(hn:NM σ)(h:evE F σ (.list es)=some (.list l)):evS F fuel σ (.asg k true (.list es))=some (.next (σ.set k (.own l))):=by
 show grd _ (((evE F σ (.list es)).bind D.ownOf).map _) = _;exact a3B (hn.no k) (a1c (a0b h rfl) rfl)
theorem c7B {k y:Nat}{l:List D}(hn:NM σ)(h:σ.get y=some (.own l)):evS F fuel σ (.asg k false (.var y))=some (.next ((σ.set y (.val (.list l))).set k (.val (.list l)))):=by
 show grd _ ((σ.get y).bind _) = _;exact a3B (hn.no k) (a0b h (a1v (x:=grd _ _) (a0n (hn.no y))))
theorem b1P {k y:Nat}(hn:NM σ)(h:σ.get y=some (.val d)):evS F fuel σ (.asg k false (.var y))=some (.next (σ.set k (.val d))):=by
 show grd _ ((σ.get y).bind _) = _;exact a3B (hn.no k) (a0b h rfl)
theorem a9F {k:Nat}{e:PE}{l:List D}(h:σ.get k=some (.own l))(he:evE F σ e=some d)(hs:strict σ e=true)(hl:l.length≤16777216):evS F fuel σ (.app k e)=some (.next (σ.set k (.own (l++[d])))):=by
 show (σ.get k).bind _ = _;exact a0b h (a0b (a:=l) rfl (a0b he (a0n (d0t.mpr ⟨hs,a0G hl⟩))))
theorem a0V {k:Nat}(hn:NM σ):a0P σ (.one k) d=some (σ.set k (.val d)):=a0n (hn.no k)
theorem c5W {e:PE}(hs:strict σ e=true)(h:evE F σ e=some d):evE F σ (.list (.cons e .nil))=some (.list [d]):=c1F (a1X hs h a7u) (by decide:1≤16777216)
theorem a0t {k:Nat}(h:σ.get k=some (.val d)):strict σ (.var k)=true:=by show ((σ.get k).bind _).isSome=true;rw [h];rfl
theorem a1E {t:Tgt}{iter:PE}{body:List PS}{items:List D}{o:Option Out}(h1:forOk σ iter=true)(h2:evI F σ iter=some items)(h3:a5D (fun σ d=>(a0P σ t d).bind fun σ'=>a0y F fuel σ' body) σ items=o):evS F fuel σ (.for t iter body)=o:=by
 show grd _ ((evI F σ iter).bind _) = _;exact a3B h1 (a0b h2 h3)
theorem c1G {a:Nat}{p:Slot}(ha:σ.get a=some p)(hp:∀ y,p≠.meth y):(σ.get a).bind (Slot.keep a)=some (a,p):=by
 rw [ha]
 cases p with
 | meth y=>exact absurd rfl (hp y)
 | _=>rfl
theorem a3c {a:Nat}{p:Slot}{r:List Nat}(ha:σ.get a=some p)(hp:∀ y,p≠.meth y)(hr:a0O σ r=some σ'):a0O σ (a :: r)=some ((a,p) :: σ'):=by
 unfold a0O at hr ⊢
 rw [List.mapM_cons,c1G ha hp,hr]
 rfl
theorem a1z {a:Nat}{p:Slot}(ha:σ.get a=some p)(hp:∀ y,p≠.meth y):a0O σ [a]=some [(a,p)]:=a3c ha hp rfl
theorem a4N {a b:Nat}{p q:Slot}(ha:σ.get a=some p)(hb:σ.get b=some q)(hp:∀ y,p≠.meth y)(hq:∀ y,q≠.meth y):a0O σ [a,b]=some [(a,p),(b,q)]:=a3c ha hp (a1z hb hq)
theorem b1Q {α β:Type}{fv:List Nat}{elt iter iter2:PE}{ifs2:PEs}{t t2:Tgt}{xs:List α}{ys:α→List β}{f:α→D}{f2:α→β→D}{g:α→β→D}{p:α→β→Bool}(hi:evI F σ iter=some (xs.map f))(hr:a0O σ fv=some σ₀)
  (hb:∀ x∈xs,∃ σ',a4d σ₀ t (f x)=some σ'∧evI F σ' iter2=some ((ys x).map (f2 x))∧∀ y∈ys x,∃ σ'',a4d σ' t2 (f2 x y)=some σ''∧b2s F σ'' ifs2=some (p x y)∧(p x y=true→strict σ'' elt=true∧evE F σ'' elt=some (g x y)))
  (hl:(xs.flatMap fun x=>((ys x).filter (p x)).map (g x)).length≤16777216):evE F σ (.comp fv elt t iter .nil (.cons t2 iter2 ifs2 .nil))=some (.list (xs.flatMap fun x=>((ys x).filter (p x)).map (g x))):=by
 show (evI F σ iter).bind _ = _
 refine a0b hi ?_
 show (a0O σ fv).bind _ = _
 refine a0b hr ?_
 show (List.mapM (m:=Option) _ (xs.map f)).bind _ = _
 refine a0b (a1b (g:=fun x=>((ys x).filter (p x)).map (g x)) fun x hx=>?_) ?_
 ·obtain⟨σ',h1,h2,h3⟩:=hb x hx
  show (a4d σ₀ t (f x)).bind _ = _
  refine a0b h1 ?_
  show (evI F σ' iter2).bind _ = _
  refine a0b h2 ?_
  show Option.map _ (List.mapM (m:=Option) _ ((ys x).map (f2 x))) = _
  refine a1c (a1b (g:=fun y=>bif p x y then [g x y] else []) fun y hy=>?_) (b5w ..)
  obtain⟨σ'',k1,k2,k3⟩:=h3 y hy
  show (a4d σ' t2 (f2 x y)).bind _ = _
  refine a0b k1 ?_
  show (b2s F σ'' ifs2).bind _ = _
  refine a0b k2 ?_
  cases hp:p x y with
  | false=>rfl
  | true=>
   refine (k3 hp).elim fun k4 k5=>?_
   show grd (strict σ'' elt) ((evE F σ'' elt).map _) = _
   exact a3B k4 (a1c k5 rfl)
 ·rw [← List.flatMap_def]
  exact a0n (a0G hl)
end
end
section
noncomputable abbrev WS:=List Nat×Bool
noncomputable def rnd (sig:Nat→Nat)(p:WS):D:=.str ⟨(p.1.map sig).toArray⟩ p.2
noncomputable def c7C (sig:Nat→Nat)(s:List WS):D:=.list (s.map (rnd sig))
theorem c7D {α:Type}{f:α→D}{l:List α}{n:Nat}(h:l.length=n):c2F (.list (l.map f))=some n:=c9o some ((d0a ..).trans h)
theorem a1e {F:Fns}{σ:Store}{k:Nat}{d:D}{ds:List D}(h:σ.get k=some (.val d))(hd:a5B d=some ds):evI F σ (.var k)=some ds:=by show (σ.get k).bind _ = _;exact a0b h hd
theorem c1H (a b:Nat):((a:Int)==(b:Int))=(a==b):=by rw [c9P,c9s,c9s];exact Int.ofNat_inj
theorem a6G {a b:Nat}:a3R .Eq (.int (a:Int)) (.int (b:Int))=some (a==b):=c9o some (c1H a b)
theorem c4V {a b:Nat}:a3R .Gt (.int (a:Int)) (.int (b:Int))=some (decide (b<a)):=c9o some (decide_eq_decide.mpr Int.ofNat_lt)
theorem c8w {a b:Nat}:a3R .Lt (.int (a:Int)) (.int (b:Int))=some (decide (a<b)):=c9o some (decide_eq_decide.mpr Int.ofNat_lt)
theorem a2m {l:List Nat}:(⟨l.toArray⟩:Str).length=l.length:=by simp [Str.length]
theorem c1I {a b:List Nat}:((⟨a.toArray⟩:Str)++⟨b.toArray⟩)=⟨(a++b).toArray⟩:=by
 show (⟨a.toArray++b.toArray⟩:Str) = _
 rw [List.append_toArray]
theorem a2b {f:Nat→Nat}{l:List Nat}:(⟨(l.map f).toArray⟩:Str).length=l.length:=a2m.trans (d0a ..)
theorem b8g {x y:Str}{g g':Bool}(h:x.length+y.length≤16777216):a2U .Add (.str x g) (.str y g')=some (.str (x++y)):=by
 show (grd (a0M (x.length+y.length)) (some (D.str (x++y)))).or _ = _
 exact a1v (a0n (a0G h))
theorem a2w {a b:List Nat}{g g':Bool}(h:a.length+b.length≤16777216):a2U .Add (.str ⟨a.toArray⟩ g) (.str ⟨b.toArray⟩ g')=some (.str ⟨(a++b).toArray⟩):=
 (b8g (by rw [a2m,a2m];exact h)).trans (by rw [c1I])
theorem a3D {sig:Nat→Nat}{p q:WS}(h:p.1.length+q.1.length≤16777216):a2U .Add (rnd sig p) (rnd sig q)=some (rnd sig (p.1++q.1,false)):=by
 refine (a2w (by rw [d0a,d0a];exact h)).trans ?_
 rw [← d0Y]
 rfl
theorem a1n {sig:Nat→Nat}{p:WS}(hs:∀ i,sig i<128):a5B (rnd sig p)=some (p.1.map fun i=>rnd sig ([i],true)):=by
 refine a1v (x:=grd ((p.1.map sig).toArray.all (·<128)) (some (a7H ⟨(p.1.map sig).toArray⟩))) (a3B ?_ (c9o some (d0k ..)))
 rw [← Array.all_toList]
 exact c9Q.mpr fun x hx=>(d0Q.mp hx).elim fun i h=>h.2 ▸ d0G (hs i)
theorem c5X {α:Type}{body:Store→D→Option Out}{f:α→D}(P:List α→Store→Prop){xs done:List α}{σ:Store}(h:P done σ)
  (k:∀ done x σ,x∈xs→P done σ→∃ σ',(body σ (f x)=some (.next σ')∨body σ (f x)=some (.cont σ'))∧P (done++[x]) σ'):∃ σ',a5D body σ (xs.map f)=some (.next σ')∧P (done++xs) σ':=by
 induction xs generalizing done σ with
 | nil=>exact⟨σ,rfl,(d0z done).symm ▸ h⟩
 | cons x xs ih=>
  refine (k done x σ (.head _) h).elim fun σ' Z1=>Z1.elim (fun e h'=>?_)
  refine (ih h' fun d y σ hy=>k d y σ (.tail _ hy)).elim fun σ'' Z1=>Z1.elim (fun e2 h''=>?_)
  exact⟨σ'',a8x e e2,by rw [d0A] at h'';exact h''⟩
theorem a1f {α:Type}{body:Store→D→Option Out}{f:α→D}(P:List α→Store→Prop){all:List α}{σ:Store}(h0:P [] σ)
  (k:∀ done x rest σ,done++x :: rest=all→P done σ→∃ σ',(body σ (f x)=some (.next σ')∨body σ (f x)=some (.cont σ'))∧P (done++[x]) σ'):∃ σ',a5D body σ (all.map f)=some (.next σ')∧P all σ':=by
 have aux:∀ (xs done:List α) (σ:Store),done++xs=all→P done σ→∃ σ',a5D body σ (xs.map f)=some (.next σ')∧P all σ':=fun xs=>by
  induction xs with
  | nil=>exact fun done σ e h=>⟨σ,rfl,e ▸ (d0z done).symm ▸ h⟩
  | cons x xs ih=>
   intro done σ e h
   refine (k done x xs σ e h).elim fun σ' Z1=>Z1.elim (fun e1 h'=>?_)
   refine (ih (done++[x]) σ' (by rw [d0A];exact e) h').elim fun σ'' Z1=>Z1.elim (fun e2 h''=>?_)
   exact⟨σ'',a8x e1 e2,h''⟩
 exact aux all [] σ rfl h0
section
variable {F:Fns}{fuel:Nat}{sig:Nat→Nat}{lo:Nat→Nat→Bool}{loose:List D}
noncomputable def a2n (sig:Nat→Nat)(lo:Nat→Nat→Bool)(loose:List D):Prop:=∀ i j,i<4→j<4→∀ g,inD (.str ⟨#[sig i,sig j]⟩ g) (.list loose)=some (lo i j)
theorem c8x {s:List WS}{k:Nat}(hk:k<s.length)(hl:s.length≤16777216):a8F (c7C sig s) (.int (k:Int))=some (rnd sig (s.getD k ([],false))):=a3A (b9s hk) (c9v (d0c (d0a ..)) hl)
theorem a9G {α:Type}{f:α→Nat}{l:List α}{k:Nat}(h:∀ x∈l,f x≤k):(l.map f).sum≤l.length*k:=by
 induction l with
 | nil=>exact d0f _
 | cons a r ih=>
  rw [d0K,d0e,d0d,Nat.add_mul,Nat.one_mul,Nat.add_comm]
  exact Nat.add_le_add (ih fun x hx=>h x (.tail _ hx)) (h a (.head _))
end
end
section
open LA (nl graphs a1k)
theorem a0d {σ:Store}{x y:Nat}{s:Slot}(h:y≠x):(σ.set x s).get y=σ.get y:=by rw [Store.get_set,c9t h]
theorem a0o {σ:Store}{x:Nat}{s:Slot}:(σ.set x s).get x=some s:=by rw [Store.get_set,c9r rfl]
theorem a1A {α β:Type}{f:α→List β}{k:Nat}:∀ {l:List α},(∀ x∈l,(f x).length≤k)→(l.flatMap f).length≤l.length*k
 | [],_=>by simp
 | a :: l,h=>by
  rw [d1a,d0D,d0d,Nat.add_mul]
  have h1:=h a (.head _)
  have h2:=a1A (l:=l) fun x hx=>h x (.tail _ hx)
  lia
noncomputable def isInt (d:Option D)(i:Int):Bool:=match d with
 | some (.int j)=>j==i
 | _=>false
theorem b1R {d:Option D}{i:Int}(h:isInt d i=true):d=some (.int i):=by
 unfold isInt at h
 split at h
 ·rw [c9s] at h;rw [h]
 ·cases h
structure Sig (sig:Nat→Nat):Prop where
 lt:∀ i,sig i<128
 inj:∀ i j,i<4→j<4→sig i=sig j→i=j
section
variable {F:Fns}{fuel:Nat}{sig:Nat→Nat}{loose:List D}{σ:Store}{d x y z:D}{ea eb ec:PE}
theorem c7E (hS:Sig sig){l:List Nat}(hl:∀ x∈l,x<4){j:Nat}(hj:j<4){b:Bool}{fl:Nat→Bool}:inD (rnd sig ([j],b)) (.list (l.map fun i=>rnd sig ([i],fl i)))=some (l.contains j):=by
 show (Option.map _ (List.mapM D.asStr (l.map fun i=>rnd sig ([i],fl i)))).or _ = _
 refine a1v (a1c (a1b (f:=D.asStr) (e:=fun i=>rnd sig ([i],fl i)) (g:=fun i=>(⟨#[sig i]⟩:Str)) fun i _=>rfl) ?_)
 rw [c9P]
 simp only [List.any_eq_true,d0J,c9s]
 constructor
 ·rintro⟨x,hx,e⟩
  refine (d0Q.mp hx).elim fun i Z1=>Z1.elim (fun hi Z2=>?_)
  subst Z2
  have:sig i=sig j:=by
   have:=c9o (fun s=>s.cps.toList) e
   simpa using this
  rw [← hS.inj i j (hl i hi) hj this]
  exact hi
 ·intro h
  exact⟨⟨#[sig j]⟩,d0Q.mpr ⟨j,h,rfl⟩,rfl⟩
theorem b0N {a b:PE}{p q:Bool}{σ:Store}(h1:evT F σ a=some p)(h2:p=true→evT F σ b=some q):evT F σ (.and (.cons a (.cons b .nil)))=some (p&&q):=by
 show (evT F σ a).bind _ = _
 refine a0b h1 ?_
 cases p with
 | false=>rfl
 | true=>show (evT F σ b).bind _ = _;exact a0b (h2 rfl) (by cases q <;> rfl)
theorem a2x (s1:strict σ ea=true)(s2:strict σ eb=true)(h1:evE F σ ea=some x)(h2:evE F σ eb=some y):a2V F σ (.cons ea (.cons eb .nil))=some [x,y]:=a1X s1 h1 (a1X s2 h2 a7u)
theorem a2c (s1:strict σ ea=true)(h1:evE F σ ea=some x):a2V F σ (.cons ea .nil)=some [x]:=a1X s1 h1 a7u
theorem c8y {k:Nat}{op:Operator}{e:PE}{a b c:D}(hn:NM σ)(h:σ.get k=some (.val a))(he:evE F σ e=some b)(hv:c2w op a b=some c):evS F fuel σ (.aug k op e)=some (.next (σ.set k (.val c))):=by
 show (σ.get k).bind _ = _;exact a0b h (a0b (a:=a) rfl (a0b he (a3B (hn.no k) (a1c hv rfl))))
theorem a3E {ea:PE}{lo hi:PO}{x:D}{l:List D}(h:evE F σ (.slice ea lo hi)=some x)(h2:a5B x=some l):evI F σ (.slice ea lo hi)=some l:=by
 refine a0j (x:=evE F σ ea) h fun a h1 h=>?_
 refine a0j h (clear% h;fun b h3 h=>?_)
 refine a0j h (clear% h;fun c h4 h=>?_)
 refine a0j h (clear% h;fun d h5 h=>?_)
 refine a0j h (clear% h;fun e h6 h=>?_)
 show (evE F σ ea).bind _ = _
 exact a0b h1 (a0b h3 (a0b h4 (a0b h5 (a0b h6 (a0b h h2)))))
theorem a0u {i:Int}:evE F σ (.int i)=some (.int i):=rfl
theorem a1o {s:Str}:evE F σ (.str s)=some (.str s):=rfl
theorem a3Z {x y:Int}(h:y≠0):a2U .Mod (.int x) (.int y)=some (.int (x.fmod y)):=a1c (x:=grd (!decide (y=0)) (some (x.fmod y))) (a0n (by rw [c9Y h];rfl)) rfl
theorem a5m {x y:Int}(h:y≠0)(hy:y.natAbs<2 ^ 60):a2U .FloorDiv (.int x) (.int y)=some (.int (x.fdiv y)):=c4T h hy (by decide)
theorem a1J {x:Int}{n:Nat}(h:0<n):∃ k:Nat,x.fmod (n:Int)=(k:Int)∧k<n:=by
 have h1:=Int.fmod_nonneg_of_pos x (b:=(n:Int)) (by lia)
 have h2:=Int.fmod_lt_of_pos x (b:=(n:Int)) (by lia)
 exact⟨(x.fmod n).toNat,by lia,by lia⟩
theorem b8h {a b:Nat}{x y:D}(hn:NM σ):a0P σ (.many [a,b]) (.tup [x,y])=some ((σ.set a (.val x)).set b (.val y)):=a0n (show (true&&(noMeth σ a&&(noMeth σ b&&true)))=true by rw [hn.no,hn.no];rfl)
theorem c1J {k j:Nat}{i e:PE}{op:Operator}{l:List D}{a b d:D}(h:σ.get k=some (.own l))(hi:evE F σ i=some (.int (j:Int)))(he:evE F σ e=some b)(ha:l[j]?=some a)(hl:l.length≤16777216)(hd:c2w op a b=some d) :
  evS F fuel σ (.augI k i op e)=some (.next (σ.set k (.own (l.set j d)))):=by
 show (σ.get k).bind _ = _
 refine a0b h (a0b hi (a0b he (a0b (a:=l) rfl (a0b (a:=(j:Int)) rfl (a0b (a:=j) ?_ (a0b ha (a1c hd rfl)))))))
 exact a3B (d0G (c9Z j)) (a8u (a8v ha) hl)
theorem c1K {e:PE}{l:List D}(hs:strict σ e=true)(h:evE F σ e=some (.list l)):evI F σ (.enum e)=some (l.zipIdx.map fun p=>.tup [.int p.2,p.1]):=by
 show (evE F σ e).bind _ = _
 exact a0b h (a0b (a:=l) rfl (a0n (x:=some (l.zipIdx.map fun p=>D.tup [.int p.2,p.1])) hs))
theorem b0O (s1:strict σ ea=true)(s2:strict σ eb=true)(s3:strict σ ec=true)(h1:evE F σ ea=some x)(h2:evE F σ eb=some y)(h3:evE F σ ec=some z):evE F σ (.tup (.cons ea (.cons eb (.cons ec .nil))))=some (.tup [x,y,z]):=by
 show (a2V F σ _).bind _ = _;exact a0b (a1X s1 h1 (a1X s2 h2 (a1X s3 h3 a7u))) rfl
theorem a5n {a b c:Nat}(hn:NM σ):a0P σ (.many [a,b,c]) (.tup [x,y,z])=some (((σ.set a (.val x)).set b (.val y)).set c (.val z)):=a0n (show (true&&(noMeth σ a&&(noMeth σ b&&(noMeth σ c&&true))))=true by rw [hn.no,hn.no,hn.no];rfl)
theorem b0P {x y z:Str}{g g':Bool}{h:Bool}(h1:evE F σ ea=some (.str x g))(h2:evE F σ eb=some (.str y g'))(h3:evE F σ ec=some (.str z h))(ho:b3z eb ec g'=true)(hy:(y != z)=true)(hl:x.length+(x.length+1)*z.length≤16777216) :
  evE F σ (.replace ea eb ec)=some (.str (Txt.replace x y z)):=by
 show (evE F σ ea).bind _ = _
 exact a0b h1 (a0b h2 (a0b h3 (a0b (a:=x) rfl (a0b (a:=(y,g')) rfl (a0b (a:=z) rfl (a0n (d0t.mpr ⟨d0t.mpr ⟨ho,hy⟩,a0G hl⟩)))))))
theorem c4W {l:List Int}(h:evE F σ ea=some (.list (l.map .int)))(h1:l.length≤1000)(h2:∀ i∈l,i.natAbs<2 ^ 40):evE F σ (.sum ea)=some (.int l.sum):=by
 show (evE F σ ea).bind _ = _
 refine a0b h (a0b (a:=l.map .int) rfl (a0b (x:=(l.map D.int).mapM D.asInt) (a:=l) ((a1b (e:=D.int) (g:=id) fun _ _=>rfl).trans (by rw [List.map_id])) (a0n (d0t.mpr ⟨d0G h1,c9Q.mpr fun i hi=>d0G (h2 i hi)⟩))))
theorem c1L {x:Str}{g:Bool}{l:List D}{p:List Str}(h1:evE F σ ea=some (.str x g))(h2:evE F σ eb=some (.list l))(h3:l.mapM D.asStr=some p)(h4:JoinOk x p=true):evE F σ (.join ea eb)=some (.str (Txt.join x p)):=by
 show (evE F σ ea).bind _ = _
 exact a0b h1 (a0b h2 (a0b (a:=x) rfl (a0b (a:=l) rfl (a0b h3 (a0n h4)))))
theorem a7v {i:Int}(h:evE F σ ea=some (.int i)):evE F σ (.neg ea)=some (.int (-i)):=by show (evE F σ ea).bind _ = _;exact a0b h rfl
theorem a6H {a b c:Nat}{p q r:D}(ha:σ.get a=some (.val p))(hb:σ.get b=some (.val q))(hc:σ.get c=some (.val r)):a0O σ [a,b,c]=some [(a,.val p),(b,.val q),(c,.val r)]:=a3c ha nofun (a4N hb hc nofun nofun)
theorem a5L {α:Type}{eb:PE}{xs:List α}{f:α→List Nat}{fl:α→Bool}(h:evE F σ eb=some (.list (xs.map fun p=>.str ⟨(f p).toArray⟩ (fl p))))(hl:((xs.map f).map List.length).sum≤16777216):evE F σ (.join (.str ⟨#[]⟩) eb)=some (.str ⟨(xs.flatMap f).toArray⟩):=by
 have h3:(xs.map fun p=>D.str ⟨(f p).toArray⟩ (fl p)).mapM D.asStr=some (xs.map fun p=>(⟨(f p).toArray⟩:Str)):=a1b (f:=D.asStr) (e:=fun p=>D.str ⟨(f p).toArray⟩ (fl p)) (g:=fun p=>(⟨(f p).toArray⟩:Str)) fun p _=>rfl
 have e:Txt.join ⟨#[]⟩ (xs.map fun p=>(⟨(f p).toArray⟩:Str))=⟨(xs.flatMap f).toArray⟩:=by
  have:(Txt.join ⟨#[]⟩ (xs.map fun p=>(⟨(f p).toArray⟩:Str))).cps.toList=xs.flatMap f:=(a3O _).trans (by rw [List.flatMap_map])
  rw [← this]
 rw [← e]
 refine c1L (x:=⟨#[]⟩) (g:=false) rfl h h3 (a5c ?_)
 rw [d0k] at hl ⊢
 exact c9v (d0c (c9o List.sum (d0R fun p _=>a2m))) hl
theorem b1S {F:Fns}{σ:Store}{a b c:PE}{x y z:D}(s1:strict σ a=true)(s2:strict σ b=true)(s3:strict σ c=true)(h1:evE F σ a=some x)(h2:evE F σ b=some y)(h3:evE F σ c=some z):a2V F σ (.cons a (.cons b (.cons c .nil)))=some [x,y,z]:=by
 exact a1X s1 h1 (a1X s2 h2 (a1X s3 h3 a7u))
end
theorem NM.vals (l:List (Nat×D)):NM (l.map fun p=>(p.1,.val p.2)):=fun p h=>by
 refine (d0Q.mp h).elim fun q Z1=>Z1.elim (fun _ Z2=>?_)
 subst Z2
 nofun
theorem a0C {α:Type}{l:List α}{n:Nat}(h:l.length=n+1):∃ a r,l=a :: r∧r.length=n:=by
 cases l with
 | nil=>cases h
 | cons a r=>exact⟨a,r,rfl,Nat.succ.inj h⟩
theorem b8i {α:Type}{l:List α}(h:l.length=4):∃ a b c d,l=[a,b,c,d]:=by
 obtain⟨a,r1,rfl,h1⟩:=a0C h
 obtain⟨b,r2,rfl,h2⟩:=a0C h1
 obtain⟨c,r3,rfl,h3⟩:=a0C h2
 obtain⟨d,r4,rfl,h4⟩:=a0C h3
 rw [d0U.mp h4]
 exact⟨a,b,c,d,rfl⟩
theorem b8j {α:Type}{P:List α→Prop}(h0:P [])(h1:∀ r a,P r→P (r++[a]))(l:List α):P l:=by
 have:∀ l:List α,P l.reverse:=by
  intro l
  induction l with
  | nil=>exact h0
  | cons a r ih=>rw [List.reverse_cons];exact h1 _ _ ih
 have:=this l.reverse
 rwa [List.reverse_reverse] at this
end
section
open LA (nl graphs a1k)
noncomputable def a3j:List Nat:=[60,62,34,9,10,13,45,46]
noncomputable def a0D:List Nat:=[38,60,62,34,9,10,13,45,46]
noncomputable def c1M:List (List Nat):=[[38,60,62],[38,60,62,13],[38,60,62,34,13,10,9],[38,60,34,13,10,9],[38,62,34]]
structure Rdr where
 way:Nat
 m1:Nat
 m2:Nat
structure Rdr.Ok (r:Rdr):Prop where
 way:r.way<5
 m1:r.m1∈a3j
 m2:r.m2∈a3j
noncomputable def a2d (r:Rdr):D:=.tup [.int (r.way:Int),.str ⟨#[r.m1,r.m2]⟩]
noncomputable def b1T (r:Rdr)(c:Nat):Nat:=if (c1M.getD r.way []).contains c then (if c=38 then 3 else if c=34 then 4 else 2) else if c=r.m1∨c=r.m2 then 1 else 0
theorem c1N (fuel m:Nat)(g:Bool):((List.range 5).all fun w=>a3j.all fun m1=>a3j.all fun m2=>a0D.all fun c=>isInt (runG ids a0p fuel (m+1) 49 [a2d ⟨w,m1,m2⟩,.str ⟨#[c]⟩ g] none) (b1T ⟨w,m1,m2⟩ c))=true:=by kernel_rfl
theorem b0Q {fuel m:Nat}{g:Bool}{r:Rdr}(h:r.Ok){c:Nat}(hc:c∈a0D):runG ids a0p fuel (m+1) 49 [a2d r,.str ⟨#[c]⟩ g] none=some (.int (b1T r c)):=
 b1R (c9Q.mp (c9Q.mp (c9Q.mp (c9Q.mp (c1N fuel m g) r.way (c9R.mpr h.way)) r.m1 h.m1) r.m2 h.m2) c hc)
end
section
noncomputable def subst (c:Nat)(z:List Nat)(l:List Nat):List Nat:=l.flatMap fun k=>if k=c then z else [k]
theorem a2y {c:Nat}{z a b:List Nat}:subst c z (a++b)=subst c z a++subst c z b:=d1b
theorem a2Q {c:Nat}{z:List Nat}:∀ {l:List Nat},c ∉ l→subst c z l=l
 | [],_=>rfl
 | k :: r,h=>by
  have h1:k≠c:=fun e=>h (e ▸ d0r ..)
  have h2:c ∉ r:=fun m=>h (d0u _ m)
  have:=a2Q (z:=z) h2
  unfold subst at this ⊢
  rw [d1a,c9t h1,this];rfl
theorem a7w (c:Nat)(z:Str):∀ parts:List Str,(∀ p∈parts,c ∉ p.cps.toList)→subst c z.cps.toList (Str.join ⟨#[c]⟩ parts).cps.toList=(Str.join z parts).cps.toList
 | [],_=>rfl
 | [p],h=>a2Q (h p (d0i.mpr rfl))
 | p :: q :: r,h=>by
  have ih:=a7w c z (q :: r) fun a ha=>h a (d0u _ ha)
  show subst c _ (p++⟨#[c]⟩++Str.join ⟨#[c]⟩ (q :: r)).cps.toList=(p++z++Str.join z (q :: r)).cps.toList
  simp only [Str.cps_append,Array.toList_append]
  rw [a2y,a2y,ih,a2Q (h p (d0r ..))]
  congr 2
  simp [subst]
theorem b1U (x z:Str)(c:Nat):Txt.replace x ⟨#[c]⟩ z=⟨(subst c z.cps.toList x.cps.toList).toArray⟩:=by
 have:(Txt.replace x ⟨#[c]⟩ z).cps.toList=subst c z.cps.toList x.cps.toList:=by
  rw [StrLaws.replace_one,← a7w c z _ (StrLaws.split_free x c),StrLaws.join_split]
 rw [← this]
theorem b5C (y:Str)(c:Nat):b1e y ⟨#[c]⟩=y.cps.toList.contains c:=by
 unfold b1e
 rw [StrLaws.found_one,c9P,d0M,d0J]
theorem b5D (sep:List Nat):∀ (p:Str) (r:List Str),(Str.join ⟨sep.toArray⟩ (p :: r)).cps.toList++sep=(p :: r).flatMap fun (t:Str)=>t.cps.toList++sep
 | p,[]=>by simp [Str.join]
 | p,q :: r=>by
  have ih:=b5D sep q r
  show (p++⟨sep.toArray⟩++Str.join ⟨sep.toArray⟩ (q :: r)).cps.toList++sep = _
  simp only [Str.cps_append,Array.toList_append,d0A]
  rw [ih]
  simp
theorem a8z {c:Nat}:∀ {a a' b b':List Nat},c ∉ a→c ∉ a'→a++c :: b=a'++c :: b'→a=a'∧b=b'
 | [],[],_,_,_,_,h=>by simpa using h
 | [],y :: a',_,_,_,h2,h=>by
  simp at h;exact absurd (h.1 ▸ d0r ..) h2
 | x :: a,[],_,_,h1,_,h=>by
  simp at h;exact absurd (h.1 ▸ d0r ..) h1
 | x :: a,y :: a',b,b',h1,h2,h=>by
  simp at h
  refine (a8z (fun m=>h1 (d0u _ m)) (fun m=>h2 (d0u _ m)) h.2).elim fun h3 h4=>?_
  exact⟨by rw [h.1,h3],h4⟩
theorem c4X {c:Nat}{a b:List Nat}(ha:c ∉ a)(hb:c ∉ b):Txt.split ⟨(a++c :: b).toArray⟩ ⟨#[c]⟩=[⟨a.toArray⟩,⟨b.toArray⟩]:=by
 have hj:=StrLaws.join_split ⟨(a++c :: b).toArray⟩ ⟨#[c]⟩
 have hf:=StrLaws.split_free ⟨(a++c :: b).toArray⟩ c
 have back:∀ (p:Str) (l:List Nat),p.cps.toList=l→p=⟨l.toArray⟩:=fun p l e=>by rw [← e]
 match h:Txt.split ⟨(a++c :: b).toArray⟩ ⟨#[c]⟩,hj,hf with
 | [],hj,_=>
  have:=c9o (fun s:Str=>s.cps.toList) hj
  simp [Str.join,Str.empty] at this
 | [p],hj,hf=>
  have hp:=hf p (d0i.mpr rfl)
  have:=c9o (fun s:Str=>s.cps.toList) hj
  simp [Str.join] at this
  rw [this] at hp
  exact absurd (by simp) hp
 | [p,q],hj,hf=>
  have hp:=hf p (by simp)
  have:=c9o (fun s:Str=>s.cps.toList) hj
  simp only [Str.join,Str.cps_append,Array.toList_append] at this
  have h2:p.cps.toList++c :: q.cps.toList=a++c :: b:=by simpa using this
  refine (a8z hp ha h2).elim fun e1 e2=>?_
  rw [back p a e1,back q b e2]
 | p :: q :: r :: t,hj,hf=>
  have hp:=hf p (by simp)
  have hq:=hf q (by simp)
  have:=c9o (fun s:Str=>s.cps.toList) hj
  simp only [Str.join,Str.cps_append,Array.toList_append] at this
  have h2:p.cps.toList++c :: (q.cps.toList++c :: (Str.join ⟨#[c]⟩ (r :: t)).cps.toList)=a++c :: b:=by simpa using this
  refine (a8z hp ha h2).elim fun e1 e2=>?_
  rw [← e2] at hb
  exact absurd (by simp) hb
end
section
section
variable {F:Fns}{fuel:Nat}{σ:Store}
noncomputable def b5E:List Int:=[314,135,0,0,3505,592]
structure PC' (σ:Store)(cells:List Int):Prop where
 nm:NM σ
 len:cells.length=6
 g34:σ.get 34=some (.own (cells.map .int))
noncomputable def c1O:List PS:=[.augI 34 (.bin .Mod (.var 28) (.int 6)) .Add (.bin .Mod (.var 3) (.int 1000000))]
theorem b3g {l:List Int}(hl:l.length≤1000){cells:List Int}(I:PC' σ cells)(h35:σ.get 35=some (.val (.list (l.map .int)))) :
  ∃ σ' cells',evS F fuel σ (.for (.many [28,3]) (.enum (.slice (.var 35) .no (.yes (.int 60)))) c1O)=some (.next σ')∧PC' σ' cells':=by
 let body:Store→D→Option Out:=fun σ d=>(a0P σ (.many [28,3]) d).bind fun σ'=>a0y F fuel σ' c1O
 obtain⟨σ',e,cells',I'⟩:=a1f (body:=body) (f:=fun (p:Int×Nat)=>D.tup [.int (p.2:Int),.int p.1]) (all:=(cut l none (some 60)).zipIdx) (σ:=σ) (fun done σ=>∃ cells,PC' σ cells) ⟨cells,I⟩ fun done p rest σ hd ⟨cells,I⟩=>by
  have hb:body σ (.tup [.int (p.2:Int),.int p.1])=a0y F fuel ((σ.set 28 (.val (.int (p.2:Int)))).set 3 (.val (.int p.1))) c1O:=by
   show ((a0P σ (.many [28,3]) _).bind fun σ'=>a0y F fuel σ' _) = _
   rw [b8h I.nm];rfl
  rw [hb]
  have nm:NM ((σ.set 28 (.val (.int (p.2:Int)))).set 3 (.val (.int p.1))):=I.nm.val.val
  have k28:((σ.set 28 (.val (.int (p.2:Int)))).set 3 (.val (.int p.1))).get 28=some (.val (.int (p.2:Int))):=(a0d (by decide)).trans a0o
  have k3:((σ.set 28 (.val (.int (p.2:Int)))).set 3 (.val (.int p.1))).get 3=some (.val (.int p.1)):=a0o
  have k34:((σ.set 28 (.val (.int (p.2:Int)))).set 3 (.val (.int p.1))).get 34=some (.own (cells.map .int)):=(a0d (by decide)).trans ((a0d (by decide)).trans I.g34)
  generalize (σ.set 28 (.val (.int (p.2:Int)))).set 3 (.val (.int p.1))=σ₁ at *
  refine (a1J (x:=(p.2:Int)) (n:=6) (by decide)).elim fun k Z1=>Z1.elim (fun hk hk6=>?_)
  have e1:evE F σ₁ (.bin .Mod (.var 28) (.int 6))=some (.int (k:Int)):=a0q (a0i k28) a0u (by rw [a3Z (by decide)];exact c9o (fun i=>some (D.int i)) hk)
  have e2:evE F σ₁ (.bin .Mod (.var 3) (.int 1000000))=some (.int (p.1.fmod 1000000)):=a0q (a0i k3) a0u (a3Z (by decide))
  have hlen:=I.len
  have e3:evS F fuel σ₁ (.augI 34 (.bin .Mod (.var 28) (.int 6)) .Add (.bin .Mod (.var 3) (.int 1000000)))=some (.next (σ₁.set 34 (.own ((cells.set k (cells.getD k 0+p.1.fmod 1000000)).map .int)))):=by
   have h1:(cells.map D.int)[k]?=some (.int (cells.getD k 0)):=by
    rw [d0s,c9S,c9T (by lia)];rfl
   rw [List.map_set]
   exact c1J k34 e1 e2 h1 (by rw [d0a,hlen];decide) rfl
  refine⟨_,.inl ((a0c e3).trans rfl),_,nm.own,?_,a0o⟩
  rw [List.length_set,hlen]
 refine⟨σ',cells',a1E (by kernel_rfl) ?_ e,I'⟩
 have es:evE F σ (.slice (.var 35) .no (.yes (.int 60)))=some (.list ((cut l none (some 60)).map .int)):=by
  refine a1y (a0i h35) (l:=none) (by kernel_rfl) (a2v a0u) (l':=none) rfl (h':=some 60) (by kernel_rfl) ?_
  rw [b0K (by simpa using c9v hl (by decide))]
  simp [cut,List.map_take]
 rw [c1K (by kernel_rfl) es,List.zipIdx_map,d0k]
 rfl
noncomputable def c5Y:PE:=.tup (.cons (.bin .Mod (.var 37) (.int 5)) (.cons (.bin .Add (.idx (.str ⟨#[60,62,34,9,10,13,45,46]⟩) (.bin .Mod (.bin .FloorDiv (.var 37) (.int 5)) (.int 8))) (.idx (.str ⟨#[60,62,34,9,10,13,45,46]⟩) (.bin .Mod (.bin .FloorDiv (.var 37) (.int 40)) (.int 8)))) .nil))
theorem a8A {k:Nat}(h:k<8):(#[60,62,34,9,10,13,45,46]:Array Nat)[k]?=some (a3j.getD k 0)∧a3j.getD k 0∈a3j:=by
 refine⟨?_,a1x h⟩
 rw [c9S,c9T h]
 exact d0q (xs:=#[60,62,34,9,10,13,45,46]) h
theorem c4Y {c:Int}(h37:σ.get 37=some (.val (.int c))):∃ r,evE F σ c5Y=some (a2d r)∧r.Ok:=by
 refine (a1J (x:=c) (n:=5) (by decide)).elim fun k Z1=>Z1.elim (fun hk hk5=>?_)
 refine (a1J (x:=c.fdiv 5) (n:=8) (by decide)).elim fun a Z1=>Z1.elim (fun ha ha8=>?_)
 refine (a1J (x:=c.fdiv 40) (n:=8) (by decide)).elim fun b Z1=>Z1.elim (fun hb hb8=>?_)
 refine⟨⟨k,a3j.getD a 0,a3j.getD b 0⟩,?_,hk5,(a8A ha8).2,(a8A hb8).2⟩
 have e1:evE F σ (.bin .Mod (.var 37) (.int 5))=some (.int (k:Int)):=a0q (a0i h37) a0u (by rw [a3Z (by decide)];exact c9o (fun i=>some (D.int i)) hk)
 have e2:evE F σ (.bin .Mod (.bin .FloorDiv (.var 37) (.int 5)) (.int 8))=some (.int (a:Int)):=a0q (a0q (a0i h37) a0u (a5m (by decide) (by decide))) a0u (by rw [a3Z (by decide)];exact c9o (fun i=>some (D.int i)) ha)
 have e3:evE F σ (.bin .Mod (.bin .FloorDiv (.var 37) (.int 40)) (.int 8))=some (.int (b:Int)):=a0q (a0q (a0i h37) a0u (a5m (by decide) (by decide))) a0u (by rw [a3Z (by decide)];exact c9o (fun i=>some (D.int i)) hb)
 refine b0M (by kernel_rfl) (by kernel_rfl) e1 (a0q (a1D a1o e2 (a4M (a8A ha8).1 (by decide))) (a1D a1o e3 (a4M (a8A hb8).1 (by decide))) ?_)
 rfl
structure PR' (σ:Store)(cells:List Int)(rs:List Rdr):Prop extends PC' σ cells where
 g36:σ.get 36=some (.own (rs.map a2d))
 ok:∀ r∈rs,r.Ok
theorem a9H {cells:List Int}(I:PR' σ cells []):∃ σ' rs,evS F fuel σ (.for (.one 37) (.slice (.var 34) .no (.yes (.bin .Add (.int 1) (.bin .Mod (.idx (.var 34) (.int 4)) (.int 4))))) [.app 36 c5Y])=some (.next σ')∧PR' σ' cells rs∧rs.length≤4:=by
 have hlen:=I.len
 refine (a1J (x:=cells.getD 4 0) (n:=4) (by decide)).elim fun k Z1=>Z1.elim (fun hk hk4=>?_)
 have e0:evE F σ (.bin .Add (.int 1) (.bin .Mod (.idx (.var 34) (.int 4)) (.int 4)))=some (.int ((1+k:Nat):Int)):=by
  have h1:a8F (.list (cells.map .int)) (.int ((4:Nat):Int))=some (.int (cells.getD 4 0)):=b5x (by lia) (by lia)
  have h2:evE F σ (.bin .Mod (.idx (.var 34) (.int 4)) (.int 4))=some (.int (k:Int)):=a0q (a1D (a6F I.g34) a0u h1) a0u ((a3Z (by decide)).trans (c9o (fun i=>some (D.int i)) hk))
  exact a0q a0u h2 rfl
 let body:Store→D→Option Out:=fun σ d=>(a0P σ (.one 37) d).bind fun σ'=>a0y F fuel σ' [.app 36 c5Y]
 obtain⟨σ',e,rs,I',hrs⟩:=a1f (body:=body) (f:=D.int) (all:=cells.take (1+k)) (σ:=σ) (fun done σ=>∃ rs,PR' σ cells rs∧rs.length=done.length) ⟨[],I,rfl⟩ fun done c rest σ hd ⟨rs,I,hrs⟩=>by
  have hdl:done.length≤7:=by have:=c9o List.length hd;simp at this;lia
  have hb:body σ (.int c)=a0y F fuel (σ.set 37 (.val (.int c))) [.app 36 c5Y]:=by
   show ((a0P σ (.one 37) _).bind fun σ'=>a0y F fuel σ' _) = _
   rw [a0V I.nm];rfl
  rw [hb]
  refine (c4Y (F:=F) (σ:=σ.set 37 (.val (.int c))) a0o).elim fun r Z1=>Z1.elim (fun er ok=>?_)
  have ap:=a9F (F:=F) (fuel:=fuel) (k:=36) ((a0d (by decide)).trans I.g36) er (by kernel_rfl) (by rw [d0a];lia)
  refine⟨_,.inl ((a0c ap).trans rfl),rs++[r],⟨⟨I.nm.val.own,I.len,(a0d (by decide)).trans ((a0d (by decide)).trans I.g34)⟩,by rw [a0o,d0Y];rfl,fun x hx=>?_⟩,by simp [hrs]⟩
  rcases d0v.mp hx with hx | hx
  ·exact I.ok x hx
  ·rw [d0i] at hx;subst hx;exact ok
 refine⟨σ',rs,a1E (by kernel_rfl) ?_ e,I',by rw [hrs,List.length_take];lia⟩
 refine a3E (x:=.list ((cells.take (1+k)).map .int)) (a1y (a6F I.g34) (l:=none) (by kernel_rfl) (a2v e0) (l':=none) rfl (a1r (by lia)) ?_) rfl
 rw [b0K (by simp;lia),b9q (by simp;lia),List.map_take]
end
end
section
structure SigOk (sig:Nat→Nat):Prop extends Sig sig where
 mem:∀ j,j<4→sig j∈a0D
section
variable {F:Fns}{fuel:Nat}{σ:Store}{x y z:D}{ea eb ec:PE}
structure PS' (σ:Store)(cells:List Int)(rs:List Rdr)(s lf:List Nat):Prop where
 nm:NM σ
 g34:σ.get 34=some (.own (cells.map .int))
 g36:σ.get 36=some (.own (rs.map a2d))
 g38:∃ g,σ.get 38=some (.val (.str ⟨s.toArray⟩ g))
 g39:∃ g,σ.get 39=some (.val (.str ⟨lf.toArray⟩ g))
 g40:∃ i,σ.get 40=some (.val (.int i))
 nd:(s++lf).Nodup
 mem:∀ x∈s++lf,x∈a0D
 len:s.length+lf.length=9
noncomputable def b8k:List PS:=[.asg 42 false (.idx (.var 39) (.bin .Mod (.var 40) (.var 41))),.asgT [38,39,40] (.tup (.cons (.bin .Add (.var 38) (.var 42)) (.cons (.replace (.var 39) (.var 42) (.str ⟨#[]⟩)) (.cons (.bin .FloorDiv (.var 40) (.var 41)) .nil))))]
theorem b5F {cells:List Int}{rs:List Rdr}{s lf:List Nat}(I:PS' σ cells rs s lf)(h4:4≤lf.length)(h41:σ.get 41=some (.val (.int (lf.length:Int)))) :
  ∃ σ' c,a0y F fuel σ b8k=some (.next σ')∧PS' σ' cells rs (s++[c]) (lf.erase c)∧c∈lf:=by
 refine (I.g40).elim fun i h40=>?_
 refine (I.g39).elim fun g6 h39=>?_
 refine (I.g38).elim fun g5 h38=>?_
 have hl:=I.len
 refine (a1J (x:=i) (n:=lf.length) (by lia)).elim fun k Z1=>Z1.elim (fun hk hkn=>?_)
 have e1:evE F σ (.bin .Mod (.var 40) (.var 41))=some (.int (k:Int)):=a0q (a0i h40) (a0i h41) ((a3Z (by lia)).trans (c9o (fun i=>some (D.int i)) hk))
 have hget:(lf.toArray)[k]?=some (lf.getD k 0):=by
  rw [c9W,c9S,c9T hkn];rfl
 have hmem:lf.getD k 0∈lf:=a1x hkn
 generalize lf.getD k 0=c at *
 have e2:evE F σ (.idx (.var 39) (.bin .Mod (.var 40) (.var 41)))=some (.str ⟨#[c]⟩ true):=a1D (a0i h39) e1 (a4M hget (by rw [a2m];lia))
 have s1:=a0s (F:=F) (fuel:=fuel) (k:=42) I.nm (by kernel_rfl) (by kernel_rfl) e2
 have nm:=I.nm.val (x:=42) (d:=.str ⟨#[c]⟩ true)
 have k42:(σ.set 42 (.val (.str ⟨#[c]⟩ true))).get 42=some (.val (.str ⟨#[c]⟩ true)):=a0o
 have k34:(σ.set 42 (.val (.str ⟨#[c]⟩ true))).get 34 = _:=(a0d (by decide)).trans I.g34
 have k36:(σ.set 42 (.val (.str ⟨#[c]⟩ true))).get 36 = _:=(a0d (by decide)).trans I.g36
 have k38:(σ.set 42 (.val (.str ⟨#[c]⟩ true))).get 38 = _:=(a0d (by decide)).trans h38
 have k39:(σ.set 42 (.val (.str ⟨#[c]⟩ true))).get 39 = _:=(a0d (by decide)).trans h39
 have k40:(σ.set 42 (.val (.str ⟨#[c]⟩ true))).get 40 = _:=(a0d (by decide)).trans h40
 have k41:(σ.set 42 (.val (.str ⟨#[c]⟩ true))).get 41 = _:=(a0d (by decide)).trans h41
 generalize σ.set 42 (.val (.str ⟨#[c]⟩ true))=σ₁ at *
 have hnd:=I.nd
 rw [List.nodup_append] at hnd
 have herase:Txt.replace ⟨lf.toArray⟩ ⟨#[c]⟩ ⟨#[]⟩=⟨(lf.erase c).toArray⟩:=by
  have:(Txt.replace ⟨lf.toArray⟩ ⟨#[c]⟩ ⟨#[]⟩).cps.toList=lf.erase c:=by
   rw [replace_strikes,hnd.2.1.erase_eq_filter]
  rw [← this]
 have e3:evE F σ₁ (.bin .Add (.var 38) (.var 42))=some (.str ⟨(s++[c]).toArray⟩ false):=by
  refine a0q (a0i k38) (a0i k42) ?_
  exact a2w (b:=[c]) (by rw [d0Z];lia)
 have e4:evE F σ₁ (.replace (.var 39) (.var 42) (.str ⟨#[]⟩))=some (.str ⟨(lf.erase c).toArray⟩ false):=by
  rw [← herase]
  exact b0P (a0i k39) (a0i k42) (z:=⟨#[]⟩) rfl rfl rfl (by rw [a2m];exact c9v (show lf.length+(lf.length+1)*0≤9 by lia) (by decide))
 have e5:evE F σ₁ (.bin .FloorDiv (.var 40) (.var 41))=some (.int (i.fdiv (lf.length:Int))):=a0q (a0i k40) (a0i k41) (a5m (by lia) (by
  rw [d1c]
  exact c9D (show lf.length≤9 by lia) (by decide)))
 have s2:=a8y (F:=F) (fuel:=fuel) (xs:=[38,39,40]) (b0O (by kernel_rfl) (by kernel_rfl) (by kernel_rfl) e3 e4 e5) (a5n nm)
 refine⟨((σ₁.set 38 (.val (.str ⟨(s++[c]).toArray⟩ false))).set 39 (.val (.str ⟨(lf.erase c).toArray⟩ false))).set 40 (.val (.int (i.fdiv (lf.length:Int)))),c,?_,⟨nm.val.val.val,(a0d (by decide)).trans ((a0d (by decide)).trans ((a0d (by decide)).trans k34)),(a0d (by decide)).trans ((a0d (by decide)).trans ((a0d (by decide)).trans k36)),⟨false,(a0d (by decide)).trans ((a0d (by decide)).trans a0o)⟩,⟨false,(a0d (by decide)).trans a0o⟩,⟨_,a0o⟩,?_,?_,?_⟩,hmem⟩
 ·show a0y F fuel σ [_,_] = _
  rw [a0c s1,a0c s2];rfl
 ·rw [d0A,List.nodup_append]
  refine⟨hnd.1,?_,fun a ha b hb=>?_⟩
  ·show (c :: lf.erase c).Nodup
   rw [List.nodup_cons]
   exact⟨fun q=>by rw [hnd.2.1.mem_erase_iff] at q;exact q.1 rfl,hnd.2.1.erase c⟩
  ·rcases c9U.mp hb with rfl | hb
   ·exact hnd.2.2 a ha _ hmem
   ·exact hnd.2.2 a ha b (List.mem_of_mem_erase hb)
 ·intro x hx
  rw [d0A] at hx
  rcases d0v.mp hx with hx | hx
  ·exact I.mem x (d0x _ hx)
  ·rcases c9U.mp hx with rfl | hx
   ·exact I.mem _ (d0w _ hmem)
   ·exact I.mem x (d0w _ (List.mem_of_mem_erase hx))
 ·rw [d0D,d0Z,List.length_erase_of_mem hmem];lia
theorem b3h {cells:List Int}{rs:List Rdr}(I:PS' σ cells rs [] a0D):∃ (σ':Store) (s:List Nat),evS F fuel σ (.for (.one 41) (.range3 (.int 9) (.int 5) (.neg (.int 1))) b8k)=some (.next σ')∧NM σ'∧σ'.get 34=some (.own (cells.map .int))∧σ'.get 36=some (.own (rs.map a2d))∧(∃ g,σ'.get 38=some (.val (.str ⟨s.toArray⟩ g)))∧s.length=4∧s.Nodup∧∀ x∈s,x∈a0D:=by
 let body:Store→D→Option Out:=fun σ d=>(a0P σ (.one 41) d).bind fun σ'=>a0y F fuel σ' b8k
 obtain⟨σ',e,s,lf,I',hs⟩:=a1f (body:=body) (f:=fun (n:Nat)=>D.int (n:Int)) (all:=[9,8,7,6]) (σ:=σ) (fun done σ=>∃ s lf,PS' σ cells rs s lf∧s.length=done.length) ⟨[],a0D,I,rfl⟩ fun done n rest σ hd ⟨s,lf,I,hs⟩=>by
  have hl:=I.len
  have hn:n=lf.length:=by
   have h1:[9,8,7,6][done.length]?=some n:=by rw [← hd];simp
   have hdl:done.length<4:=by have:=c9o List.length hd;simp at this;lia
   obtain q | q | q | q:done.length=0∨done.length=1∨done.length=2∨done.length=3:=by lia
   all_goals (rw [q] at h1;simp at h1;lia)
  have hdl:done.length<4:=by have:=c9o List.length hd;simp at this;lia
  have hb:body σ (.int (n:Int))=a0y F fuel (σ.set 41 (.val (.int (n:Int)))) b8k:=by
   show ((a0P σ (.one 41) _).bind fun σ'=>a0y F fuel σ' _) = _
   rw [a0V I.nm];rfl
  rw [hb]
  refine (I.g38).elim fun g5 h5=>?_
  refine (I.g39).elim fun g6 h6=>?_
  refine (I.g40).elim fun i h7=>?_
  have I₁:PS' (σ.set 41 (.val (.int (n:Int)))) cells rs s lf:=⟨I.nm.val,(a0d (by decide)).trans I.g34,(a0d (by decide)).trans I.g36,⟨g5,(a0d (by decide)).trans h5⟩,⟨g6,(a0d (by decide)).trans h6⟩,⟨i,(a0d (by decide)).trans h7⟩,I.nd,I.mem,I.len⟩
  obtain⟨σ',c,e,I',_⟩:=b5F (F:=F) (fuel:=fuel) I₁ (by lia) (by rw [a0o,hn])
  exact⟨σ',.inl e,s++[c],lf.erase c,I',by simp [hs]⟩
 have hnd:=I'.nd
 rw [List.nodup_append] at hnd
 exact⟨σ',s,a1E (by kernel_rfl) (by kernel_rfl) e,I'.nm,I'.g34,I'.g36,I'.g38,by simpa using hs,hnd.1,fun x hx=>I'.mem x (d0x _ hx)⟩
theorem b8l:((LA.allW 5).all fun t=>LA.bags.any fun w=>b2q (t.map fun (k:Nat)=>(k:Int))==w.map fun (k:Nat)=>(k:Int))=true:=by decide +kernel
noncomputable def c7F:PE:=.comp [34] (.bin .Mod (.bin .FloorDiv (.idx (.var 34) (.int 5)) (.bin .Pow (.int 4) (.var 28))) (.int 4)) (.one 28) (.range1 (.int 5)) .nil .nil
theorem c8Z {k:Nat}(h:k<5):∃ y:Int,a2U .Pow (.int 4) (.int (k:Int))=some (.int y)∧y≠0∧y.natAbs<2 ^ 60:=by
 obtain rfl | rfl | rfl | rfl | rfl:k=0∨k=1∨k=2∨k=3∨k=4:=by lia
 ·exact⟨1,by kernel_rfl,by decide,by decide⟩
 ·exact⟨4,by kernel_rfl,by decide,by decide⟩
 ·exact⟨16,by kernel_rfl,by decide,by decide⟩
 ·exact⟨64,by kernel_rfl,by decide,by decide⟩
 ·exact⟨256,by kernel_rfl,by decide,by decide⟩
theorem c4Z {cells:List Int}(h34:σ.get 34=some (.own (cells.map .int)))(hlen:cells.length=6):∃ t∈LA.allW 5,evE F σ c7F=some (.list (t.map fun (k:Nat)=>.int (k:Int))):=by
 have at1:∀ k,∃ n:Nat,k<5→n<4∧evE F [(34,.own (cells.map .int)),(28,.val (.int ((k:Nat):Int)))] (.bin .Mod (.bin .FloorDiv (.idx (.var 34) (.int 5)) (.bin .Pow (.int 4) (.var 28))) (.int 4))=some (.int (n:Int)):=fun k=>by
  by_cases hk:k<5
  ·obtain⟨y,hy,hy0,hy1⟩:=c8Z hk
   refine (a1J (x:=(cells.getD 5 0).fdiv y) (n:=4) (by decide)).elim fun n Z1=>Z1.elim (fun hn hn4=>?_)
   refine⟨n,fun _=>⟨hn4,?_⟩⟩
   have h1:a8F (.list (cells.map .int)) (.int ((5:Nat):Int))=some (.int (cells.getD 5 0)):=b5x (by lia) (by lia)
   refine a0q (y:=.int 4) (a0q (a1D (a6F (k:=34) (l:=cells.map .int) (by kernel_rfl)) a0u h1) (a0q a0u (a0i (k:=28) (d:=.int (k:Int)) (by kernel_rfl)) hy) (a5m hy0 hy1)) a0u ?_
   rw [a3Z (by decide)]
   exact c9o (fun i=>some (D.int i)) hn
  ·exact⟨0,fun q=>absurd q hk⟩
 refine (Classical.axiomOfChoice at1).elim fun p hp=>?_
 refine⟨(List.range 5).map p,LA.mem_allW (by rw [d0a,d0b]) fun c hc=>?_,?_⟩
 ·refine (d0Q.mp hc).elim fun k Z1=>Z1.elim (fun hk e=>?_)
  exact e ▸ (hp k (c9R.mp hk)).1
 ·rw [d0k]
  refine a1w (xs:=List.range 5) (f:=fun (k:Nat)=>.int (k:Int)) (σ₀:=[(34,.own (cells.map .int))]) (a1T (n:=5) rfl (by decide)) (a1z h34 nofun) (fun k hk=>?_) (by simp)
  exact⟨[(34,.own (cells.map .int)),(28,.val (.int (k:Int)))],by kernel_rfl,by kernel_rfl,(hp k (c9R.mp hk)).2⟩
theorem b8m {cells:List Int}(h34:σ.get 34=some (.own (cells.map .int)))(hlen:cells.length=6):∃ w∈LA.bags,evE F σ (.sorted c7F)=some (.list (w.map fun (k:Nat)=>.int (k:Int))):=by
 refine (c4Z (F:=F) h34 hlen).elim fun t Z1=>Z1.elim (fun ht e=>?_)
 refine (List.any_eq_true.mp (c9Q.mp b8l t ht)).elim fun w Z1=>Z1.elim (fun hw h=>?_)
 refine⟨w,hw,?_⟩
 show (evE F σ c7F).bind _ = _
 refine a0b e (a0b (a:=t.map fun (k:Nat)=>D.int (k:Int)) rfl (a0b (a1b (f:=D.asInt) (e:=fun (k:Nat)=>D.int (k:Int)) (g:=fun (k:Nat)=>(k:Int)) fun _ _=>rfl) (a3B (d0G ?_) ?_)))
 ·rw [d0a]
  refine c9D (d0c (?_:t.length=5)) (by decide)
  exact c9E (c9Q.mp (by decide +kernel:((LA.allW 5).all fun t=>decide (t.length=5))=true) t ht)
 ·rw [c9K h,d0k]
  rfl
theorem a3d {α β:Type}{f:α→β}:∀ l:List α,(l.flatMap fun k=>[f k])=l.map f
 | []=>rfl
 | a :: r=>c9o (f a :: ·) (a3d r)
theorem c1P {sig:Nat→Nat}{g:Bool}{k:Nat}(h:k<4):a8F (rnd sig ([0,1,2,3],g)) (.int (k:Int))=some (.str ⟨#[sig k]⟩ true):=by
 refine a4M ?_ (by simp [Str.length])
 obtain rfl | rfl | rfl | rfl:k=0∨k=1∨k=2∨k=3:=by lia
 all_goals rfl
noncomputable def c9a:PE:=.join (.str ⟨#[]⟩) (.comp [38] (.idx (.var 38) (.var 28)) (.one 28) (.var 43) .nil .nil)
theorem c5a:(LA.bags.all fun w=>w.all (·<4)&&w.length==5)=true:=by decide +kernel
theorem a1i {w:List Nat}(hw:w∈LA.bags):(∀ k∈w,k<4)∧w.length=5:=by
 have h:=a0h (c9Q.mp c5a w hw)
 exact⟨fun k hk=>c9E (c9Q.mp h.1 k hk),c9K h.2⟩
theorem c5b {sig:Nat→Nat}{g:Bool}{w:List Nat}(hw:w∈LA.bags)(h38:σ.get 38=some (.val (rnd sig ([0,1,2,3],g))))(h43:σ.get 43=some (.val (.list (w.map fun (k:Nat)=>.int (k:Int))))):evE F σ c9a=some (rnd sig (w,false)):=by
 have e:evE F σ (.comp [38] (.idx (.var 38) (.var 28)) (.one 28) (.var 43) .nil .nil)=some (.list (w.map fun k=>.str ⟨[sig k].toArray⟩ true)):=by
  refine a1w (xs:=w) (f:=fun (k:Nat)=>.int (k:Int)) (σ₀:=[(38,.val (rnd sig ([0,1,2,3],g)))]) (a1e h43 rfl) (a1z h38 nofun) (fun k hk=>?_) (by rw [(a1i hw).2];decide)
  exact⟨[(38,.val (rnd sig ([0,1,2,3],g))),(28,.val (.int (k:Int)))],by kernel_rfl,by kernel_rfl,a1D (x:=rnd sig ([0,1,2,3],g)) (y:=.int (k:Int)) (by kernel_rfl) (by kernel_rfl) (c1P ((a1i hw).1 k hk))⟩
 refine (a5L (f:=fun k=>[sig k]) (fl:=fun _=>true) e ?_).trans ?_
 ·have:=a9G (f:=fun _:Nat=>1) (l:=w) (k:=1) fun _ _=>c9n _
  rw [d0k]
  refine c9v this ?_
  rw [(a1i hw).2]
  decide
 ·rw [a3d]
  rfl
theorem b5G {fuel m:Nat}{l:List Int}(hl:l.length≤1000):∃ (rs:List Rdr) (sig:Nat→Nat) (g:Bool) (w:List Nat),runG ids a0p fuel (m+1) 80 [.list (l.map .int)] none=some (.tup [.list (rs.map a2d),rnd sig ([0,1,2,3],g),rnd sig (w,false)])∧(∀ r∈rs,r.Ok)∧rs.length≤4∧SigOk sig∧w∈LA.bags:=by
 suffices h:∃ (rs:List Rdr) (sig:Nat→Nat) (g:Bool) (w:List Nat),a0y (runG ids a0p fuel m) fuel [(35,.val (.list (l.map .int)))] a4j=some (.ret (.tup [.list (rs.map a2d),rnd sig ([0,1,2,3],g),rnd sig (w,false)]))∧(∀ r∈rs,r.Ok)∧rs.length≤4∧SigOk sig∧w∈LA.bags by
  obtain⟨rs,sig,g,w,h1,h2⟩:=h
  exact⟨rs,sig,g,w,a1W (df:=⟨80,[35],[],[],a4j⟩) rfl (by decide) (by decide) rfl rfl rfl h1,h2⟩
 generalize runG ids a0p fuel m=F
 have a1:evS F fuel [(35,.val (.list (l.map .int)))] (.asg 34 true (.list (.cons (.int 314) (.cons (.int 135) (.cons (.int 0) (.cons (.int 0) (.cons (.int 3505) (.cons (.int 592) .nil))))))))=some (.next [(35,.val (.list (l.map .int))),(34,.own (b5E.map .int))]):=by kernel_rfl
 obtain⟨σ₁,cells,e1,I₁⟩:=b3g (F:=F) (fuel:=fuel) hl (σ:=[(35,.val (.list (l.map .int))),(34,.own (b5E.map .int))]) (cells:=b5E) ⟨(NM.nil.cons (fun _=>by simp)).cons (fun _=>by simp),rfl,by kernel_rfl⟩ (by kernel_rfl)
 have a2:=b5B (F:=F) (fuel:=fuel) (k:=36) (es:=.nil) (l:=[]) I₁.nm (by kernel_rfl)
 obtain⟨σ₂,rs,e2,I₂,hrs⟩:=a9H (F:=F) (fuel:=fuel) (σ:=σ₁.set 36 (.own [])) (cells:=cells) ⟨⟨I₁.nm.own,I₁.len,(a0d (by decide)).trans I₁.g34⟩,a0o,fun _ h=>nomatch h⟩
 have hlen:=I₂.len
 have e3:evE F σ₂ (.bin .FloorDiv (.idx (.var 34) (.int 4)) (.int 4))=some (.int ((cells.getD 4 0).fdiv 4)):=by
  have h1:a8F (.list (cells.map .int)) (.int ((4:Nat):Int))=some (.int (cells.getD 4 0)):=b5x (by lia) (by lia)
  exact a0q (a1D (a6F I₂.g34) a0u h1) a0u (a5m (by decide) (by decide))
 have a3:=a8y (F:=F) (fuel:=fuel) (xs:=[38,39,40]) (b0O (by kernel_rfl) (by kernel_rfl) (by kernel_rfl) (a1o (s:=⟨#[]⟩)) (a1o (s:=⟨#[38,60,62,34,9,10,13,45,46]⟩)) e3) (a5n I₂.nm)
 have I₃:PS' (((σ₂.set 38 (.val (.str ⟨#[]⟩ false))).set 39 (.val (.str ⟨#[38,60,62,34,9,10,13,45,46]⟩ false))).set 40 (.val (.int ((cells.getD 4 0).fdiv 4)))) cells rs [] a0D:=
  ⟨I₂.nm.val.val.val,(a0d (by decide)).trans ((a0d (by decide)).trans ((a0d (by decide)).trans I₂.g34)),(a0d (by decide)).trans ((a0d (by decide)).trans ((a0d (by decide)).trans I₂.g36)),⟨false,(a0d (by decide)).trans ((a0d (by decide)).trans a0o)⟩,⟨false,(a0d (by decide)).trans a0o⟩,⟨_,a0o⟩,by decide,fun x hx=>hx,rfl⟩
 obtain⟨σ₃,s,e4,nm3,h34,h36,⟨g,h38⟩,hs4,hnd,hmem⟩:=b3h (F:=F) (fuel:=fuel) I₃
 obtain⟨a,b,c,d,rfl⟩:=b8i hs4
 refine (b8m (F:=F) h34 I₂.len).elim fun w Z1=>Z1.elim (fun hw e5=>?_)
 have a5:=a0s (F:=F) (fuel:=fuel) (k:=43) nm3 (by kernel_rfl) (by kernel_rfl) e5
 have hlt:∀ x∈a0D,x<128:=by decide
 refine⟨rs,fun j=>[a,b,c,d].getD j 38,g,w,?_,I₂.ok,hrs,⟨⟨fun i=>?_,fun i j hi hj e=>?_⟩,fun j hj=>?_⟩,hw⟩
 ·show a0y F fuel _ [_,_,_,_,_,_,_,_] = _
  refine (a0c a1).trans ((a0c e1).trans ((a0c a2).trans ((a0c e2).trans ((a0c a3).trans ((a0c e4).trans ((a0c a5).trans ?_))))))
  have f36:=a0H ((a0d (s:=.val (.list (w.map fun (k:Nat)=>.int (k:Int)))) (by decide:(36:Nat)≠43)).trans h36) (s':=.val (.list (rs.map a2d))) rfl
  have f38:=a0H ((a0d (s:=.val (.list (w.map fun (k:Nat)=>.int (k:Int)))) (by decide:(38:Nat)≠43)).trans h38) (s':=.val (.str ⟨[a,b,c,d].toArray⟩ g)) rfl
  have f43:=a0H (a0o (σ:=σ₃) (x:=43) (s:=.val (.list (w.map fun (k:Nat)=>.int (k:Int))))) rfl
  exact a2u (by kernel_rfl) (b0O (a0t f36) (a0t f38) (by kernel_rfl) (a0i f36) (a0i f38) (c5b (sig:=fun j=>[a,b,c,d].getD j 38) hw f38 f43))
 ·by_cases h:i<4
  ·exact hlt _ (hmem _ (a1x h))
  ·have:[a,b,c,d].getD i 38=38:=by
    rw [c9S,List.getElem?_eq_none (by simp;lia)];rfl
   rw [this];decide
 ·have h1:[a,b,c,d][i]?=[a,b,c,d][j]?:=by
   rw [c9S,c9S,c9T (show i<[a,b,c,d].length from hi),c9T (show j<[a,b,c,d].length from hj)] at e
   rw [c9T (show i<[a,b,c,d].length from hi),c9T (show j<[a,b,c,d].length from hj)]
   exact c9o some e
  exact (List.getElem?_inj (show i<[a,b,c,d].length from hi) hnd).mp h1
 ·exact hmem _ (a1x hj)
end
end
section
open LA (nl graphs a1k)
noncomputable def a5M (sig:Nat→Nat)(r:Rdr)(j:Nat):Bool:=decide (0<b1T r (sig j))
noncomputable def nlR (sig:Nat→Nat)(rs:List Rdr)(i j:Nat):Bool:=rs.any fun r=>a5M sig r i&&a5M sig r j
noncomputable def lo2 (sig:Nat→Nat)(rs:List Rdr)(i j:Nat):Bool:=i != j&&!(nlR sig rs i j)
noncomputable def a4O (sig:Nat→Nat)(rs:List Rdr):List D:=(List.range 4).flatMap fun i=>((List.range 4).filter (lo2 sig rs i)).map fun j=>rnd sig ([i,j],false)
theorem a8B (r:Rdr)(c:Nat):b1T r c≤4:=by unfold b1T;split;split;lia;split <;> lia;split <;> lia
section
variable {F:Fns}{fuel:Nat}{sig:Nat→Nat}{σ:Store}{rs:List Rdr}{b:Bool}
noncomputable def c5c:PE:=.comp [46,47] (.var 44) (.one 44) (.var 36) (.cons (.cmp .Gt (.bin .Mult (.call 49 (.cons (.var 44) (.cons (.var 46) .nil)) .no) (.call 49 (.cons (.var 44) (.cons (.var 47) .nil)) .no)) (.int 0)) .nil) .nil
theorem b8n {a b:Nat}:decide (0<a*b)=(decide (0<a)&&decide (0<b)):=by
 rw [c9P,d0t,decide_eq_true_iff,decide_eq_true_iff,decide_eq_true_iff]
 exact⟨fun h=>⟨Nat.pos_of_mul_pos_right h,Nat.pos_of_mul_pos_left h⟩,fun h=>Nat.mul_pos h.1 h.2⟩
theorem c1Q {m:Nat}(hF:F=runG ids a0p fuel (m+1))(hS:SigOk sig)(hr:∀ r∈rs,r.Ok)(hl:rs.length≤1000){i j:Nat}(hi:i<4)(hj:j<4)(h36:σ.get 36=some (.val (.list (rs.map a2d))))(h46:σ.get 46=some (.val (rnd sig ([i],true))))(h47:σ.get 47=some (.val (rnd sig ([j],true)))) :
  evE F σ c5c=some (.list ((rs.filter fun r=>a5M sig r i&&a5M sig r j).map a2d)):=by
 refine a0F (xs:=rs) (f:=a2d) (σ₀:=[(46,.val (rnd sig ([i],true))),(47,.val (rnd sig ([j],true)))]) (a1e h36 rfl) (a4N h46 h47 nofun nofun) (fun r hrm=>?_) (by lia)
 refine⟨[(46,.val (rnd sig ([i],true))),(47,.val (rnd sig ([j],true))),(44,.val (a2d r))],by kernel_rfl,?_,fun _=>⟨by kernel_rfl,by kernel_rfl⟩⟩
 have l1:=b0Q (fuel:=fuel) (m:=m) (g:=true) (hr r hrm) (hS.mem i hi)
 have l2:=b0Q (fuel:=fuel) (m:=m) (g:=true) (hr r hrm) (hS.mem j hj)
 rw [← hF] at l1 l2
 have b1:=a8B r (sig i)
 have b2:=a8B r (sig j)
 have small:∀ n:Nat,n≤4→(n:Int).natAbs<2 ^ 10:=fun n h=>by rw [d1c];exact c9D h (by decide)
 refine a3C (a0Q (x:=.int ((b1T r (sig i)*b1T r (sig j):Nat):Int)) (y:=.int ((0:Nat):Int)) (a0q (a0Z (F:=F) (f:=49) (a2x (x:=a2d r) (y:=rnd sig ([i],true)) (by kernel_rfl) (by kernel_rfl) (by kernel_rfl) (by kernel_rfl)) l1) (a0Z (F:=F) (f:=49) (a2x (x:=a2d r) (y:=rnd sig ([j],true)) (by kernel_rfl) (by kernel_rfl) (by kernel_rfl) (by kernel_rfl)) l2) ?_) (by kernel_rfl) ?_)
 ·exact b5z (small _ b1) (small _ b2) (by decide)
 ·rw [c4V,b8n]
  rfl
noncomputable def tLo:PE:=.and (.cons (.cmp .NotEq (.var 46) (.var 47)) (.cons (.cmp .Eq (.var 48) (.list .nil)) .nil))
theorem c5d (hS:SigOk sig){i j:Nat}(hi:i<4)(hj:j<4){g g':Bool}:a3R .NotEq (rnd sig ([i],g)) (rnd sig ([j],g'))=some (!(i==j)):=by
 refine c9o some (show (!((⟨#[sig i]⟩:Str)==⟨#[sig j]⟩))=!(i==j) from c9o _ ?_)
 rw [c9P,c9s,c9s]
 constructor
 ·intro e
  have:sig i=sig j:=by
   have:=c9o (fun s=>s.cps.toList) e
   simpa using this
  exact hS.inj i j hi hj this
 ·rintro rfl;rfl
theorem b1V {l:List D}:a3R .Eq (.list l) (.list [])=some l.isEmpty:=by cases l <;> rfl
theorem c5e {l:List D}:a3R .NotEq (.list l) (.list [])=some (!l.isEmpty):=by cases l <;> rfl
theorem c7G (hS:SigOk sig){i j:Nat}(hi:i<4)(hj:j<4)(h48:σ.get 48=some (.val (.list ((rs.filter fun r=>a5M sig r i&&a5M sig r j).map a2d))))(h46:σ.get 46=some (.val (rnd sig ([i],true))))(h47:σ.get 47=some (.val (rnd sig ([j],true)))) :
  evT F σ tLo=some (lo2 sig rs i j):=by
 refine b0N (a0Q (a0i h46) (a0i h47) (c5d hS hi hj)) fun _=>a0Q (a0i h48) (y:=.list []) (by kernel_rfl) (b1V.trans (c9o some ?_))
 unfold nlR
 rw [c9P]
 simp [List.filter_eq_nil_iff]
structure PLo (sig:Nat→Nat)(rs:List Rdr)(b:Bool)(σ:Store)(acc:List D):Prop where
 nm:NM σ
 g38:σ.get 38=some (.val (rnd sig ([0,1,2,3],b)))
 g36:σ.get 36=some (.val (.list (rs.map a2d)))
 g45:σ.get 45=some (.own acc)
theorem PLo.set {acc:List D}(h:PLo sig rs b σ acc){x:Nat}{d:D}(h1:38≠x)(h2:36≠x)(h3:45≠x):PLo sig rs b (σ.set x (.val d)) acc:=
 ⟨h.nm.val,(a0d h1).trans h.g38,(a0d h2).trans h.g36,(a0d h3).trans h.g45⟩
noncomputable def b0R:List PS:=[.asg 48 false c5c,.ifs tLo [.app 45 (.bin .Add (.var 46) (.var 47))] []]
theorem b8o {m:Nat}(hF:F=runG ids a0p fuel (m+1))(hS:SigOk sig)(hr:∀ r∈rs,r.Ok)(hl:rs.length≤1000){acc:List D}{i:Nat}(hi:i<4)(I:PLo sig rs b σ acc)(h46:σ.get 46=some (.val (rnd sig ([i],true))))(hacc:acc.length≤1000) :
  ∃ σ',evS F fuel σ (.for (.one 47) (.var 38) b0R)=some (.next σ')∧PLo sig rs b σ' (acc++((List.range 4).filter (lo2 sig rs i)).map fun j=>rnd sig ([i,j],false)):=by
 let body:Store→D→Option Out:=fun σ d=>(a0P σ (.one 47) d).bind fun σ'=>a0y F fuel σ' b0R
 obtain⟨σ',e,I',_⟩:=a1f (body:=body) (f:=fun j=>rnd sig ([j],true)) (all:=List.range 4) (σ:=σ) (fun done σ=>PLo sig rs b σ (acc++(done.filter (lo2 sig rs i)).map fun j=>rnd sig ([i,j],false))∧σ.get 46=some (.val (rnd sig ([i],true)))) ⟨by simpa using I,h46⟩ fun done j rest σ hd ⟨I,h46⟩=>by
  have hj:j<4:=c9R.mp (show j∈List.range 4 by rw [← hd];simp)
  have hdl:done.length≤4:=by have:=c9o List.length hd;simp at this;lia
  have hb:body σ (rnd sig ([j],true))=a0y F fuel (σ.set 47 (.val (rnd sig ([j],true)))) b0R:=by
   show ((a0P σ (.one 47) _).bind fun σ'=>a0y F fuel σ' _) = _
   rw [a0V I.nm];rfl
  rw [hb]
  have I₁:=I.set (x:=47) (d:=rnd sig ([j],true)) (by decide) (by decide) (by decide)
  have k46:(σ.set 47 (.val (rnd sig ([j],true)))).get 46=some (.val (rnd sig ([i],true))):=(a0d (by decide)).trans h46
  have k47:(σ.set 47 (.val (rnd sig ([j],true)))).get 47=some (.val (rnd sig ([j],true))):=a0o
  generalize σ.set 47 (.val (rnd sig ([j],true)))=σ₁ at *
  have s1:=a0s (F:=F) (fuel:=fuel) (k:=48) I₁.nm (by kernel_rfl) (by kernel_rfl) (c1Q hF hS hr hl hi hj I₁.g36 k46 k47)
  have I₂:=I₁.set (x:=48) (d:=.list ((rs.filter fun r=>a5M sig r i&&a5M sig r j).map a2d)) (by decide) (by decide) (by decide)
  have h46:(σ₁.set 48 (.val (.list ((rs.filter fun r=>a5M sig r i&&a5M sig r j).map a2d)))).get 46 = _:=(a0d (by decide)).trans k46
  have h47:(σ₁.set 48 (.val (.list ((rs.filter fun r=>a5M sig r i&&a5M sig r j).map a2d)))).get 47 = _:=(a0d (by decide)).trans k47
  have h48:(σ₁.set 48 (.val (.list ((rs.filter fun r=>a5M sig r i&&a5M sig r j).map a2d)))).get 48 = _:=a0o
  generalize σ₁.set 48 (.val (.list ((rs.filter fun r=>a5M sig r i&&a5M sig r j).map a2d)))=σ₂ at *
  have hifs:=a0U (F:=F) (fuel:=fuel) (A:=[.app 45 (.bin .Add (.var 46) (.var 47))]) (B:=[]) (c7G (F:=F) hS hi hj h48 h46 h47)
  cases hq:lo2 sig rs i j with
  | false=>
   rw [hq] at hifs
   refine⟨σ₂,.inl ((a0c s1).trans ((a0c hifs).trans rfl)),?_,h46⟩
   rw [List.filter_append,d0S,hq]
   simpa using I₂
  | true=>
   rw [hq] at hifs
   have hfl:=d0X (lo2 sig rs i) done
   have ap:=a9F (F:=F) (fuel:=fuel) (k:=45) I₂.g45 (a0q (a0i h46) (a0i h47) (a3D (p:=([i],true)) (q:=([j],true)) (by simp))) (by kernel_rfl) (by rw [d0D,d0a];lia)
   have hifs':=hifs.trans ((a0c ap).trans rfl)
   refine⟨_,.inl ((a0c s1).trans ((a0c hifs').trans rfl)),⟨I₂.nm.own,(a0d (by decide)).trans I₂.g38,(a0d (by decide)).trans I₂.g36,?_⟩,(a0d (by decide)).trans h46⟩
   rw [a0o,List.filter_append,d0S,hq]
   simp
 exact⟨σ',a1E (a0t I.g38) (a1e I.g38 (a1n hS.lt)) e,I'⟩
theorem b5H {m:Nat}(hS:SigOk sig)(hr:∀ r∈rs,r.Ok)(hl:rs.length≤1000):runG ids a0p fuel (m+2) 81 [.list (rs.map a2d),rnd sig ([0,1,2,3],b)] none=some (.list (a4O sig rs)):=by
 refine a1W (df:=⟨81,[36,38],[],[],a6z⟩) rfl (by decide) (by decide) rfl rfl rfl ?_
 generalize hF:runG ids a0p fuel (m+1)=F
 show a0y F fuel [(36,.val (.list (rs.map a2d))),(38,.val (rnd sig ([0,1,2,3],b)))] [.asg 45 true (.list .nil),.for (.one 46) (.var 38) [.for (.one 47) (.var 38) b0R],.ret (.var 45)] = _
 have nm0:NM [(36,.val (.list (rs.map a2d))),(38,.val (rnd sig ([0,1,2,3],b)))]:=NM.vals [(36,.list (rs.map a2d)),(38,rnd sig ([0,1,2,3],b))]
 rw [a0c (b5B (F:=F) (fuel:=fuel) (k:=45) (es:=.nil) (l:=[]) nm0 (by kernel_rfl))]
 have I0:PLo sig rs b (Store.set [(36,.val (.list (rs.map a2d))),(38,.val (rnd sig ([0,1,2,3],b)))] 45 (.own [])) []:=⟨nm0.own,by kernel_rfl,by kernel_rfl,by kernel_rfl⟩
 generalize Store.set [(36,.val (.list (rs.map a2d))),(38,.val (rnd sig ([0,1,2,3],b)))] 45 (.own [])=σ₂ at *
 let body:Store→D→Option Out:=fun σ d=>(a0P σ (.one 46) d).bind fun σ'=>a0y F fuel σ' [.for (.one 47) (.var 38) b0R]
 obtain⟨σ',e,I'⟩:=a1f (body:=body) (f:=fun i=>rnd sig ([i],true)) (all:=List.range 4) (σ:=σ₂) (fun done σ=>PLo sig rs b σ (done.flatMap fun i=>((List.range 4).filter (lo2 sig rs i)).map fun j=>rnd sig ([i,j],false))) (by simpa using I0) fun done i rest σ hd I=>by
  have hi:i<4:=c9R.mp (show i∈List.range 4 by rw [← hd];simp)
  have hdl:done.length≤4:=by have:=c9o List.length hd;simp at this;lia
  have hb:body σ (rnd sig ([i],true))=a0y F fuel (σ.set 46 (.val (rnd sig ([i],true)))) [.for (.one 47) (.var 38) b0R]:=by
   show ((a0P σ (.one 46) _).bind fun σ'=>a0y F fuel σ' _) = _
   rw [a0V I.nm];rfl
  rw [hb]
  have I₁:=I.set (x:=46) (d:=rnd sig ([i],true)) (by decide) (by decide) (by decide)
  have k46:(σ.set 46 (.val (rnd sig ([i],true)))).get 46=some (.val (rnd sig ([i],true))):=a0o
  generalize σ.set 46 (.val (rnd sig ([i],true)))=σ₁ at *
  have hacc:=a1A (l:=done) (f:=fun i=>((List.range 4).filter (lo2 sig rs i)).map fun j=>rnd sig ([i,j],false)) (k:=4) fun i _=>by
   rw [d0a]
   have:=d0X (lo2 sig rs i) (List.range 4)
   rwa [d0b] at this
  refine (b8o (F:=F) (fuel:=fuel) hF.symm hS hr hl hi I₁ k46 (by lia)).elim fun σ' Z1=>Z1.elim (fun e I'=>?_)
  refine⟨σ',.inl ((a0c e).trans rfl),?_⟩
  rw [d1b]
  simpa using I'
 have e':evS F fuel σ₂ (.for (.one 46) (.var 38) [.for (.one 47) (.var 38) b0R])=some (.next σ'):=a1E (a0t I0.g38) (a1e I0.g38 (a1n hS.lt)) e
 rw [a0c e']
 have f45:=a0H I'.g45 (s':=.val (.list (a4O sig rs))) rfl
 exact a2u (a0t f45) (a0i f45)
end
noncomputable def a0l (sig:Nat→Nat)(rs:List Rdr):List Bool:=a1k.map fun p=>nlR sig rs p.1 p.2
theorem a6I (sig:Nat→Nat)(rs:List Rdr):a0l sig rs∈graphs:=LA.graphs_all _ _ _ _ _ _
theorem b1W {sig:Nat→Nat}{rs:List Rdr}{i j:Nat}:nlR sig rs i j=nlR sig rs j i:=by
 unfold nlR
 simp only [Bool.and_comm]
theorem a9I:((List.range 4).all fun i=>(List.range 4).all fun j=>i==j||(a1k.contains (i,j)||a1k.contains (j,i)))=true:=by kernel_rfl
theorem b8p {sig:Nat→Nat}{rs:List Rdr}{i j:Nat}(hi:i<4)(hj:j<4)(h:i≠j):nl (a0l sig rs) i j=nlR sig rs i j:=by
 show (a1k.any fun p=>nlR sig rs p.1 p.2&&((p.1==i&&p.2==j)||(p.1==j&&p.2==i))) = _
 rw [c9P,List.any_eq_true]
 constructor
 ·rintro⟨p,_,e⟩
  refine a0a e (clear% e;fun e e'=>?_)
  rcases or2 e' with e' | e'
  ·rw [← c9K (a0h e').1,← c9K (a0h e').2];exact e
  ·rw [← c9K (a0h e').1,← c9K (a0h e').2,b1W];exact e
 ·intro e
  rcases or2 (c9Q.mp (c9Q.mp a9I i (c9R.mpr hi)) j (c9R.mpr hj)) with q | q
  ·exact absurd (c9K q) h
  ·rcases or2 q with q | q
   ·refine⟨(i,j),d0J.mp q,?_⟩
    show (nlR sig rs i j&&((i==i&&j==j)||_))=true
    rw [e,c9y,c9y];rfl
   ·refine⟨(j,i),d0J.mp q,?_⟩
    show (nlR sig rs j i&&((j==i&&i==j)||(j==j&&i==i)))=true
    rw [b1W,e,c9y,c9y];exact Bool.or_true _
theorem b8q {sig:Nat→Nat}{rs:List Rdr}{i j:Nat}(hi:i<4)(hj:j<4):LA.lo (a0l sig rs) i j=lo2 sig rs i j:=by
 unfold LA.lo lo2
 by_cases h:i=j
 ·subst h;simp
 ·rw [b8p hi hj h]
theorem b1X {sig:Nat→Nat}{rs:List Rdr}(hS:SigOk sig):a2n sig (LA.lo (a0l sig rs)) (a4O sig rs):=by
 intro i j hi hj g
 rw [b8q hi hj]
 have:(a4O sig rs).mapM D.asStr=some ((List.range 4).flatMap fun i=>((List.range 4).filter (lo2 sig rs i)).map fun j=>(⟨#[sig i,sig j]⟩:Str)):=by
  have e:∀ l:List (Nat×Nat),(l.map fun p=>rnd sig ([p.1,p.2],false)).mapM D.asStr=some (l.map fun p=>(⟨#[sig p.1,sig p.2]⟩:Str)):=fun l=>a1b fun p _=>rfl
  have h1:a4O sig rs=((List.range 4).flatMap fun i=>((List.range 4).filter (lo2 sig rs i)).map fun j=>(i,j)).map fun p=>rnd sig ([p.1,p.2],false):=by
   unfold a4O
   rw [List.map_flatMap]
   simp [d0k,Function.comp_def]
  rw [h1,e,List.map_flatMap]
  simp [d0k,Function.comp_def]
 show (Option.map _ (List.mapM D.asStr (a4O sig rs))).or _ = _
 refine a1v (a1c this ?_)
 rw [c9P]
 simp only [List.any_eq_true,List.mem_flatMap,d0Q,d0W,c9R,c9s]
 constructor
 ·rintro⟨x,⟨i',hi',j',⟨hj',hlo⟩,rfl⟩,e⟩
  have h2:=c9o (fun s=>s.cps.toList) e
  simp at h2
  rw [← hS.inj i' i hi' hi h2.1,← hS.inj j' j hj' hj h2.2]
  exact hlo
 ·intro h
  exact⟨_,⟨i,hi,j,⟨hj,h⟩,rfl⟩,rfl⟩
end
section
section
open StrLaws Builtin Builtin.Str
theorem b1Y (s sub:Str)(hi:Nat):∀ (l:List Nat) (st:Array Nat×Nat),1≤st.fst.size→(forIn l st (occBody s sub hi 1)).run.fst=st.fst
 | [],st,h=>rfl
 | a :: l,st,h=>by
  rw [List.forIn_cons]
  unfold occBody
  rw [c9t fun q=>absurd q.1.1.1 (Nat.not_lt.mpr h)]
  exact b1Y s sub hi l _ h
theorem a9J (s sub:Str)(hi:Nat):∀ (n a free:Nat),free≤a →
  ((forIn (List.range' a n) ((#[]:Array Nat),free) (occBody s sub hi 1)).run.fst.toList=[]∧∀ i,a≤i→i<a+n→¬ (i+sub.length≤hi∧subAt s sub i=true)) ∨
  ∃ i,(forIn (List.range' a n) ((#[]:Array Nat),free) (occBody s sub hi 1)).run.fst.toList=[i]∧(i+sub.length≤hi∧subAt s sub i=true)∧∀ j,a≤j→j<i→¬ (j+sub.length≤hi∧subAt s sub j=true)
 | 0,a,free,h=>.inl ⟨rfl,fun i h1 h2=>absurd h1 (Nat.not_le.mpr h2)⟩
 | n+1,a,free,h=>by
  rw [List.range'_succ,List.forIn_cons]
  by_cases hc:a+sub.length≤hi∧subAt s sub a=true
  ·refine .inr ⟨a,?_,hc,fun j h1 h2=>absurd h1 (Nat.not_le.mpr h2)⟩
   unfold occBody
   rw [c9r ⟨⟨⟨Nat.one_pos,h⟩,hc.1⟩,hc.2⟩]
   exact c9o Array.toList (b1Y s sub hi _ (#[a],a+sub.length) (c9n 1))
  ·have e:occBody s sub hi 1 a (#[],free)=pure (ForInStep.yield (#[],free)):=c9t fun q=>hc ⟨q.1.2,q.2⟩
   rw [e]
   rcases a9J s sub hi n (a+1) free (Nat.le_succ_of_le h) with⟨h1,h2⟩ | ⟨i,h1,h2,h3⟩
   ·refine .inl ⟨h1,fun i k1 k2=>?_⟩
    by_cases q:i=a
    ·rw [q];exact hc
    ·exact h2 i (by lia) (by lia)
   ·refine .inr ⟨i,h1,h2,fun j k1 k2=>?_⟩
    by_cases q:j=a
    ·rw [q];exact hc
    ·exact h3 j (by lia) k2
theorem b5I {l:List Nat}{c i:Nat}(h:l[i]?=some c)(hn:∀ j,j<i→l[j]?≠some c):l.take i++l.drop (i+1)=l.erase c:=by
 have hi:=(d0j.mp h)
 refine hi.elim fun hlt he=>?_
 have e:l=l.take i++c :: l.drop (i+1):=by
  rw [← he,List.getElem_cons_drop,List.take_append_drop]
 have nt:c ∉ l.take i:=fun q=>by
  refine (List.mem_iff_getElem?.mp q).elim fun j hj=>?_
  have hji:j<i:=by
   have:=(d0j.mp hj).1
   rw [List.length_take] at this
   lia
  rw [List.getElem?_take,c9r hji] at hj
  exact hn j hji hj
 conv=>rhs;rw [e]
 rw [List.erase_append_right _ nt,List.erase_cons_head]
theorem b8r (x:Str)(c:Nat):(a6O x ⟨#[c]⟩).cps.toList=x.cps.toList.erase c:=by
 unfold a6O
 have key:=a9J x ⟨#[c]⟩ x.length (x.length+1 - 0) 0 0 (c9n _)
 rw [← occ_eq] at key
 rcases key with⟨h1,h2⟩ | ⟨i,h1,h2,h3⟩
 ·rw [h1]
  refine (List.erase_of_not_mem fun q=>?_).symm
  refine (List.mem_iff_getElem?.mp q).elim fun j hj=>?_
  have:=(subAt_one x c j).mpr hj
  exact h2 j (d0f _) (by have:=this.1;lia) this
 ·rw [h1]
  show (glued Str.empty (partsBetween x [i] 1)).cps.toList = _
  rw [← b5I ((subAt_one x c i).mp h2) fun j hj q=>h3 j (d0f _) hj ((subAt_one x c j).mpr q)]
  show ((strSub x 0 i).cps++Str.empty.cps++(strSub x (i+1) x.length).cps).toList = _
  show ((x.cps.extract 0 i)++#[]++(x.cps.extract (i+1) x.cps.size)).toList = _
  simp
  exact List.take_of_length_le (by simp)
end
section
variable {F:Fns}{fuel:Nat}{sig:Nat→Nat}{σ:Store}
theorem a9K (hS:Sig sig){s:Nat}(hs:s<4):∀ {r:List Nat},(∀ x∈r,x<4)→(r.map sig).erase (sig s)=(r.erase s).map sig
 | [],_=>rfl
 | a :: r,h=>by
  rw [d0K,List.erase_cons,List.erase_cons]
  by_cases q:a=s
  ·rw [q,c9y,c9y,c9r rfl,c9r rfl]
  ·have q':sig a≠sig s:=fun e=>q (hS.inj a s (h a (.head _)) hs e)
   rw [c9u.mpr q,c9u.mpr q',c9t c9p,c9t c9p,d0K,a9K hS hs fun x hx=>h x (.tail _ hx)]
theorem b1Z (hS:Sig sig){r:List Nat}(hr:∀ x∈r,x<4){s:Nat}(hs:s<4):a6O ⟨(r.map sig).toArray⟩ ⟨#[sig s]⟩=⟨((r.erase s).map sig).toArray⟩:=by
 have e:(a6O ⟨(r.map sig).toArray⟩ ⟨#[sig s]⟩).cps.toList=(r.erase s).map sig:=(b8r _ _).trans (a9K hS hs hr)
 rw [← e]
theorem b9u (hS:Sig sig){r:List Nat}(hr:∀ x∈r,x<4){s:Nat}(hs:s<4){g g':Bool}:inD (rnd sig ([s],g)) (rnd sig (r,g'))=some (r.contains s):=by
 refine a1v (x:=some (b1e ⟨(r.map sig).toArray⟩ ⟨#[sig s]⟩)) (c9o some ((b5C _ _).trans ?_))
 rw [c9P,d0J,d0J]
 refine⟨fun h=>?_,fun h=>d0Q.mpr ⟨s,h,rfl⟩⟩
 refine (d0Q.mp h).elim fun x Z1=>Z1.elim (fun hx e=>?_)
 rw [← hS.inj x s (hr x hx) hs e]
 exact hx
theorem b5J {a:PE}{k:Nat}{x y:Str}{g:Bool}(h1:evE F σ a=some (.str x g))(h2:σ.get k=some (.val (.str y true)))(hl:x.length≤16777216)(hy:(y.length==0)=false):evE F σ (.rep1 a k)=some (.str (a6O x y)):=by
 show (evE F σ a).bind _ = _
 exact a0b h1 (a0b h2 (a0b (a:=D.str y true) rfl (a0b (a:=x) rfl (a0b (a:=(y,true)) rfl (a0n (by rw [a0G hl,hy];rfl))))))
theorem a3F:∀ s∈[0,1,2,3],s<4:=by decide
noncomputable def a5o (sig:Nat→Nat)(p:List Nat×List Nat):D:=.tup [rnd sig (p.1,false),rnd sig (p.2,false)]
noncomputable def b5K:PE:=.comp [38] (.tup (.cons (.bin .Add (.var 33) (.var 42)) (.cons (.rep1 (.var 40) 42) .nil))) (.many [33,40]) (.var 50) .nil (.cons (.one 42) (.var 38) (.cons (.cmp .In (.var 42) (.var 40)) .nil) .nil)
structure TOk (n:Nat)(L:List (List Nat×List Nat)):Prop where
 p1:∀ p∈L,p.1.length≤n∧∀ x∈p.1,x<4
 p2:∀ p∈L,p.2.length≤5∧∀ x∈p.2,x<4
 len:L.length≤4 ^ n
theorem TOk.step {n:Nat}{L:List (List Nat×List Nat)}(h:TOk n L):TOk (n+1) (LA.tStep L) where
 p1:=fun q hq=>by
  refine (List.mem_flatMap.mp hq).elim fun p Z1=>Z1.elim (fun hp hm=>?_)
  refine (d0Q.mp hm).elim fun s Z1=>Z1.elim (fun hs e=>?_)
  subst e
  have k:=h.p1 p hp
  refine⟨by rw [d0D,d0Z];lia,fun x hx=>(d0v.mp hx).elim (k.2 x) fun hx=>?_⟩
  rw [d0i.mp hx]
  exact a3F s (d0W.mp hs).1
 p2:=fun q hq=>by
  refine (List.mem_flatMap.mp hq).elim fun p Z1=>Z1.elim (fun hp hm=>?_)
  refine (d0Q.mp hm).elim fun s Z1=>Z1.elim (fun hs e=>?_)
  subst e
  have k:=h.p2 p hp
  exact⟨c9v (List.length_erase_le) k.1,fun x hx=>k.2 x (List.mem_of_mem_erase hx)⟩
 len:=by
  refine c9v (a1A (k:=4) fun p hp=>?_) (c9v (Nat.mul_le_mul_right 4 h.len) (d0c (Nat.pow_succ ..).symm))
  rw [d0a]
  exact d0X _ _
theorem c1R (hS:Sig sig){n:Nat}(hn:n≤5){L:List (List Nat×List Nat)}(T:TOk n L){b:Bool}(h38:σ.get 38=some (.val (rnd sig ([0,1,2,3],b))))(h50:σ.get 50=some (.val (.list (L.map (a5o sig))))):evE F σ b5K=some (.list ((LA.tStep L).map (a5o sig))):=by
 have hlen:(L.flatMap fun p=>(([0,1,2,3].filter fun s=>p.2.contains s)).map fun s=>a5o sig (p.1++[s],p.2.erase s)).length≤16777216:=by
  refine c9v (a1A (k:=4) fun p hp=>?_) (c9v (Nat.mul_le_mul_right 4 (c9v T.len (Nat.pow_le_pow_right (by decide) hn))) (by decide))
  rw [d0a]
  exact d0X _ _
 refine (b1Q (xs:=L) (ys:=fun _=>[0,1,2,3]) (f:=a5o sig) (f2:=fun _ s=>rnd sig ([s],true)) (g:=fun p s=>a5o sig (p.1++[s],p.2.erase s)) (p:=fun p s=>p.2.contains s) (σ₀:=[(38,.val (rnd sig ([0,1,2,3],b)))]) (a1e h50 rfl) (a1z h38 nofun) (fun p hp=>?_) hlen).trans ?_
 ·refine⟨[(38,.val (rnd sig ([0,1,2,3],b))),(33,.val (rnd sig (p.1,false))),(40,.val (rnd sig (p.2,false)))],by kernel_rfl,?_,fun s hs=>?_⟩
  ·exact (by kernel_rfl:evI F [(38,.val (rnd sig ([0,1,2,3],b))),(33,.val (rnd sig (p.1,false))),(40,.val (rnd sig (p.2,false)))] (.var 38)=a5B (rnd sig ([0,1,2,3],b))).trans (a1n hS.lt)
  ·have k1:=T.p1 p hp
   have k2:=T.p2 p hp
   refine⟨[(38,.val (rnd sig ([0,1,2,3],b))),(33,.val (rnd sig (p.1,false))),(40,.val (rnd sig (p.2,false))),(42,.val (rnd sig ([s],true)))],by kernel_rfl,?_,fun _=>⟨by kernel_rfl,?_⟩⟩
   ·exact a3C (a0Q (x:=rnd sig ([s],true)) (y:=rnd sig (p.2,false)) (by kernel_rfl) (by kernel_rfl) (b9u hS k2.2 (a3F s hs)))
   ·refine b0M (by kernel_rfl) (by kernel_rfl) (a0q (x:=rnd sig (p.1,false)) (y:=rnd sig ([s],true)) (by kernel_rfl) (by kernel_rfl) (a3D (p:=(p.1,false)) (q:=([s],true)) ?_)) ((b5J (x:=⟨(p.2.map sig).toArray⟩) (y:=⟨#[sig s]⟩) (g:=false) (by kernel_rfl) (by kernel_rfl) ?_ rfl).trans ?_)
    ·show p.1.length+1≤_
     lia
    ·rw [a2b];lia
    ·rw [b1Z hS k2.2 (a3F s hs)];rfl
 ·refine c9o (fun l=>some (D.list l)) ?_
  unfold LA.tStep
  rw [List.map_flatMap]
  exact c9o (fun f=>L.flatMap f) (funext fun p=>(d0k (f:=fun s=>(p.1++[s],p.2.erase s)) (g:=a5o sig)).symm)
theorem a7x:∀ (n:Nat) (L:List (List Nat×List Nat)),LA.tLoop (n+1) L=LA.tStep (LA.tLoop n L)
 | 0,L=>rfl
 | n+1,L=>a7x n (LA.tStep L)
structure PT' (sig:Nat→Nat)(b:Bool)(σ:Store)(L:List (List Nat×List Nat)):Prop where
 nm:NM σ
 g38:σ.get 38=some (.val (rnd sig ([0,1,2,3],b)))
 g50:σ.get 50=some (.val (.list (L.map (a5o sig))))
noncomputable def a0A (sig:Nat→Nat)(w:List Nat):D:=.list ((LA.textsW w).map fun t=>rnd sig (t,false))
theorem b5L {m:Nat}(hS:Sig sig){w:List Nat}(hw:w∈LA.bags){b:Bool}:runG ids a0p fuel (m+1) 83 [rnd sig ([0,1,2,3],b),rnd sig (w,false)] none=some (a0A sig w):=by
 refine a1W (df:=⟨83,[38,51],[],[],a6A⟩) rfl (by decide) (by decide) rfl rfl rfl ?_
 generalize hF:runG ids a0p fuel m=F
 have hb:=a1i hw
 show a0y F fuel [(38,.val (rnd sig ([0,1,2,3],b))),(51,.val (rnd sig (w,false)))] [.asg 50 false (.list (.cons (.tup (.cons (.str ⟨#[]⟩) (.cons (.var 51) .nil))) .nil)),.for (.one 52) (.range1 (.len (.var 51))) [.asg 50 false b5K],.ret (.comp [] (.var 33) (.many [33,40]) (.var 50) .nil .nil)] = _
 have s1:evS F fuel [(38,.val (rnd sig ([0,1,2,3],b))),(51,.val (rnd sig (w,false)))] (.asg 50 false (.list (.cons (.tup (.cons (.str ⟨#[]⟩) (.cons (.var 51) .nil))) .nil)))=some (.next [(38,.val (rnd sig ([0,1,2,3],b))),(51,.val (rnd sig (w,false))),(50,.val (.list [a5o sig ([],w)]))]):=by kernel_rfl
 rw [a0c s1]
 have T0:TOk 0 [([],w)]:=⟨fun p hp=>(d0i.mp hp) ▸ ⟨c9n 0,fun _ h=>nomatch h⟩,fun p hp=>(d0i.mp hp) ▸ ⟨d0c hb.2,hb.1⟩,c9n 1⟩
 let body:Store→D→Option Out:=fun σ d=>(a0P σ (.one 52) d).bind fun σ'=>a0y F fuel σ' [.asg 50 false b5K]
 obtain⟨σ',e,I',T'⟩:=a1f (body:=body) (f:=fun (i:Nat)=>D.int (i:Int)) (all:=List.range 5) (σ:=[(38,.val (rnd sig ([0,1,2,3],b))),(51,.val (rnd sig (w,false))),(50,.val (.list [a5o sig ([],w)]))])
  (fun done σ=>PT' sig b σ (LA.tLoop done.length [([],w)])∧TOk done.length (LA.tLoop done.length [([],w)])) ⟨⟨NM.vals [(38,rnd sig ([0,1,2,3],b)),(51,rnd sig (w,false)),(50,.list [a5o sig ([],w)])],by kernel_rfl,by kernel_rfl⟩,T0⟩ fun done k rest σ hd ⟨I,T⟩=>by
   have hdl:done.length≤5:=by have:=c9o List.length hd;simp at this;lia
   have hb:body σ (.int (k:Int))=a0y F fuel (σ.set 52 (.val (.int (k:Int)))) [.asg 50 false b5K]:=by
    show ((a0P σ (.one 52) _).bind fun σ'=>a0y F fuel σ' _) = _
    rw [a0V I.nm];rfl
   rw [hb]
   have s2:=a0s (F:=F) (fuel:=fuel) (k:=50) (I.nm.val (x:=52) (d:=.int (k:Int))) (by kernel_rfl) (by kernel_rfl) (c1R (F:=F) hS hdl T ((a0d (by decide)).trans I.g38) ((a0d (by decide)).trans I.g50))
   refine⟨_,.inl ((a0c s2).trans rfl),?_⟩
   rw [d0D,d0Z,a7x]
   exact⟨⟨I.nm.val.val,(a0d (by decide)).trans ((a0d (by decide)).trans I.g38),a0o⟩,T.step⟩
 ·have e':=a1E (F:=F) (fuel:=fuel) (t:=.one 52) (iter:=.range1 (.len (.var 51))) (body:=[.asg 50 false b5K]) (σ:=[(38,.val (rnd sig ([0,1,2,3],b))),(51,.val (rnd sig (w,false))),(50,.val (.list [a5o sig ([],w)]))]) (by kernel_rfl)
   (a1T (n:=5) (a3Y (x:=rnd sig (w,false)) (by kernel_rfl) (c9o some (a2b.trans hb.2)) (by decide)) (by decide)) e
  rw [a0c e']
  have f50:=a0H I'.g50 (s':=.val (.list ((LA.tLoop 5 [([],w)]).map (a5o sig)))) rfl
  refine a2u rfl ?_
  unfold a0A LA.textsW
  rw [hb.2,d0k]
  refine a1w (xs:=LA.tLoop 5 [([],w)]) (f:=a5o sig) (σ₀:=[]) (a1e f50 rfl) rfl (fun p _=>?_) ?_
  ·exact⟨[(33,.val (rnd sig (p.1,false))),(40,.val (rnd sig (p.2,false)))],by kernel_rfl,by kernel_rfl,by kernel_rfl⟩
  ·refine c9v T'.len (by decide)
end
end
section
noncomputable abbrev Pr:=Nat×List Nat
noncomputable def a6J (p:Pr):PS:=.ifs (.cmp .In (.str ⟨#[p.1]⟩) (.var 33)) [.asg 33 false (.replace (.var 33) (.str ⟨#[p.1]⟩) (.str ⟨p.2.toArray⟩))] []
noncomputable def b5M (ps:List Pr)(l:List Nat):List Nat:=ps.foldl (fun l p=>subst p.1 p.2 l) l
theorem b3i {c:Nat}{z:List Nat}{f:Nat→List Nat}{l:List Nat}:subst c z (l.flatMap f)=l.flatMap fun k=>subst c z (f k):=by
 unfold subst;rw [List.flatMap_assoc]
section
variable {F:Fns}{fuel:Nat}
theorem b8s {p:Pr}{l:List Nat}{g:Bool}{r:List PS}(hl:l.length≤10000)(hz:p.2≠[p.1])(hzl:p.2.length≤10):∃ g',a0y F fuel [(33,.val (.str ⟨l.toArray⟩ g))] (a6J p :: r)=a0y F fuel [(33,.val (.str ⟨(subst p.1 p.2 l).toArray⟩ g'))] r:=by
 have t:evT F [(33,.val (.str ⟨l.toArray⟩ g))] (.cmp .In (.str ⟨#[p.1]⟩) (.var 33))=some (l.contains p.1):=by
  refine a0Q (x:=.str ⟨#[p.1]⟩) (y:=.str ⟨l.toArray⟩ g) (by kernel_rfl) (by kernel_rfl) ?_
  exact c9o some (b5C ⟨l.toArray⟩ p.1)
 have hifs:=a0U (F:=F) (fuel:=fuel) (A:=[.asg 33 false (.replace (.var 33) (.str ⟨#[p.1]⟩) (.str ⟨p.2.toArray⟩))]) (B:=[]) t
 cases hc:l.contains p.1 with
 | false=>
  rw [hc] at hifs
  have hn:p.1 ∉ l:=fun h=>by rw [← d0J,hc] at h;cases h
  refine⟨g,?_⟩
  rw [a2Q hn]
  exact a0c hifs
 | true=>
  rw [hc] at hifs
  refine⟨false,?_⟩
  have e:evE F [(33,.val (.str ⟨l.toArray⟩ g))] (.replace (.var 33) (.str ⟨#[p.1]⟩) (.str ⟨p.2.toArray⟩))=some (.str ⟨(subst p.1 p.2 l).toArray⟩ false):=by
   have v:evE F [(33,.val (.str ⟨l.toArray⟩ g))] (.var 33)=some (.str ⟨l.toArray⟩ g):=by kernel_rfl
   have hr:=b1U ⟨l.toArray⟩ ⟨p.2.toArray⟩ p.1
   have hy:((⟨#[p.1]⟩:Str) != ⟨p.2.toArray⟩)=true:=by
    rw [bne_iff_ne]
    intro q
    have:=c9o (fun s:Str=>s.cps.toList) q
    simp at this
    exact hz this.symm
   exact (b0P v a1o a1o rfl hy (by
    rw [a2m,a2m]
    have:(l.length+1)*p.2.length≤10001*10:=Nat.mul_le_mul (by lia) hzl
    lia)).trans (c9o (fun s=>some (D.str s false)) hr)
  have a:=b9r (F:=F) (fuel:=fuel) (x:=33) (σ:=[(33,.val (.str ⟨l.toArray⟩ g))]) (by kernel_rfl) (by kernel_rfl) (by kernel_rfl) e
  exact a0c (hifs.trans ((a0c a).trans rfl))
theorem a9L {l:List Nat}(hl:l.length≤1000)(al:List Nat)(hal:∀ k∈l,k∈al):∀ {ps:List Pr} {f:Nat→List Nat} {g:Bool},(∀ p∈ps,p.2≠[p.1]∧p.2.length≤10)→(∀ i,i≤ps.length→∀ k∈al,(b5M (ps.take i) (f k)).length≤6) →
  ∃ g',a0y F fuel [(33,.val (.str ⟨(l.flatMap f).toArray⟩ g))] (ps.map a6J++[.ret (.var 33)])=some (.ret (.str ⟨(l.flatMap fun k=>b5M ps (f k)).toArray⟩ g'))
 | [],f,g,_,_=>⟨g,by kernel_rfl⟩
 | p :: ps,f,g,h1,h2=>by
  have hlen:(l.flatMap f).length≤10000:=by
   have:=a1A (l:=l) (f:=f) (k:=6) fun k hk=>h2 0 (by simp) k (hal k hk)
   lia
  refine (b8s (F:=F) (fuel:=fuel) (p:=p) (l:=l.flatMap f) (g:=g) (r:=ps.map a6J++[.ret (.var 33)]) hlen (h1 p (.head _)).1 (h1 p (.head _)).2).elim fun g' e=>?_
  obtain⟨g'',e'⟩:=a9L hl al hal (ps:=ps) (f:=fun k=>subst p.1 p.2 (f k)) (g:=g') (fun q hq=>h1 q (.tail _ hq)) fun i hi k hk=>by
   have:=h2 (i+1) (by simpa using hi) k hk
   simpa [b5M] using this
  refine⟨g'',?_⟩
  rw [d0K,List.cons_append,e,b3i,e']
  rfl
end
noncomputable def a2z:List (List Pr):=[
 [(38,[38,97,109,112,59]),(60,[38,108,116,59]),(62,[38,103,116,59])],
 [(38,[38,97,109,112,59]),(60,[38,108,116,59]),(62,[38,103,116,59]),(13,[38,35,120,68,59])],
 [(38,[38,97,109,112,59]),(60,[38,108,116,59]),(62,[38,103,116,59]),(34,[38,113,117,111,116,59]),(13,[38,35,49,51,59]),(10,[38,35,49,48,59]),(9,[38,35,48,57,59])],
 [(38,[38,97,109,112,59]),(60,[38,108,116,59]),(34,[38,113,117,111,116,59]),(9,[38,35,120,57,59]),(10,[38,35,120,65,59]),(13,[38,35,120,68,59])],
 [(38,[38,97,109,112,59]),(62,[38,103,116,59]),(34,[38,113,117,111,116,59])]]
noncomputable def c1S:List Nat:=65 :: a0D
noncomputable def b3j (way:Nat)(k:Nat):List Nat:=b5M (a2z.getD way []) [k]
theorem b5N:((List.range 5).all fun w=>(a2z.getD w []).all (fun p=>decide (p.2≠[p.1])&&decide (p.2.length≤10))&&(List.range ((a2z.getD w []).length+1)).all fun i=>c1S.all fun k=>decide ((b5M ((a2z.getD w []).take i) [k]).length≤6))=true:=by decide +kernel
noncomputable def b3k:List Nat:=[54,55,56,57,58]
theorem b5O (l:List Nat):(l.flatMap fun k=>[k])=l:=by induction l with
 | nil=>rfl
 | cons a r ih=>rw [d1a,ih];rfl
theorem b8t {fuel m w:Nat}{l:List Nat}{g:Bool}(hw:w<5)(hl:l.length≤1000)(hal:∀ k∈l,k∈c1S):∃ g',runG ids a0p fuel (m+1) (b3k.getD w 0) [.str ⟨l.toArray⟩ g] none=some (.str ⟨(l.flatMap (b3j w)).toArray⟩ g'):=by
 have hc:=c9Q.mp b5N w (c9R.mpr hw)
 simp only [c9z,c9Q,d0M] at hc
 refine (a9L (F:=runG ids a0p fuel m) (fuel:=fuel) hl c1S hal (ps:=a2z.getD w []) (f:=fun k=>[k]) (g:=g) hc.1 fun i hi k hk=>hc.2 i (c9R.mpr (by lia)) k hk).elim fun g' e=>?_
 rw [b5O] at e
 refine⟨g',?_⟩
 have key:∀ (body:List PS),body=[.try ((a2z.getD w []).map a6J++[.ret (.var 33)])]→a0p.find? (fun d=>d.f==b3k.getD w 0)=some ⟨b3k.getD w 0,[33],[],[],body⟩→b3k.getD w 0≠ids.esc→b3k.getD w 0≠ids.tr→_:=fun body hb hf h1 h2=>by
  refine a1W (n:=m) (f:=b3k.getD w 0) (args:=[.str ⟨l.toArray⟩ g]) (d:=.str ⟨(l.flatMap (b3j w)).toArray⟩ g') (fuel:=fuel) hf h1 h2 rfl rfl rfl ?_
  subst hb
  refine a5l (o:=.ret (.str ⟨(l.flatMap (b3j w)).toArray⟩ g')) ?_ (fun _ h=>by cases h)
  show (a0y _ _ _ _).bind _ = _
  have e':a0y (runG ids a0p fuel m) fuel (([33].zip [D.str ⟨l.toArray⟩ g]).map fun p=>(p.1,Slot.val p.2)) ((a2z.getD w []).map a6J++[.ret (.var 33)])=some (.ret (.str ⟨(l.flatMap (b3j w)).toArray⟩ g')):=e
  exact a0b e' rfl
 obtain rfl | rfl | rfl | rfl | rfl:w=0∨w=1∨w=2∨w=3∨w=4:=by lia
 ·exact key a3X rfl rfl (by decide) (by decide)
 ·exact key a2l rfl rfl (by decide) (by decide)
 ·exact key a3y rfl rfl (by decide) (by decide)
 ·exact key a1Z rfl rfl (by decide) (by decide)
 ·exact key a1Y rfl rfl (by decide) (by decide)
theorem b0S {fuel m w:Nat}{l:List Nat}{g:Bool}(hw:w<5)(hl:l.length≤1000)(hal:∀ k∈l,k∈c1S):∃ g',runG ids a0p fuel (m+2) 64 [.int (w:Int),.str ⟨l.toArray⟩ g] none=some (.str ⟨(l.flatMap (b3j w)).toArray⟩ g'):=by
 refine (b8t (fuel:=fuel) (m:=m) (g:=g) hw hl hal).elim fun g' e=>?_
 refine⟨g',a1W (df:=⟨64,[53,33],[],[],a3a⟩) rfl (by decide) (by decide) rfl rfl rfl ?_⟩
 generalize runG ids a0p fuel (m+1)=F at *
 generalize hx:D.str ⟨l.toArray⟩ g=x at *
 generalize D.str ⟨(l.flatMap (b3j w)).toArray⟩ g'=y at *
 have last:∀ f (r:List PS),F f [x] none=some y→a0y F fuel [(53,.val (.int (w:Int))),(33,.val x)] (.ret (.call f (.cons (.var 33) .nil) .no) :: r)=some (.ret y):=fun f r h=>
  a2u (by kernel_rfl) (a0Z (a2c (by kernel_rfl) (by kernel_rfl)) h)
 have skip:∀ (i:Nat) (f:Nat) (r:List PS),w≠i→a0y F fuel [(53,.val (.int (w:Int))),(33,.val x)] (.ifs (.cmp .Eq (.var 53) (.int (i:Nat))) [.ret (.call f (.cons (.var 33) .nil) .no)] [] :: r)=a0y F fuel [(53,.val (.int (w:Int))),(33,.val x)] r:=fun i f r h=>by
  refine a0c ((a0U (q:=false) (a0Q (x:=.int (w:Int)) (y:=.int (i:Nat)) (by kernel_rfl) a0u ?_)).trans rfl)
  exact a6G.trans (c9o some (c9u.mpr h))
 have take:∀ (i:Nat) (f:Nat) (r:List PS),w=i→F f [x] none=some y→a0y F fuel [(53,.val (.int (w:Int))),(33,.val x)] (.ifs (.cmp .Eq (.var 53) (.int (i:Nat))) [.ret (.call f (.cons (.var 33) .nil) .no)] [] :: r)=some (.ret y):=fun i f r h hf=>by
  refine a5l ((a0U (q:=true) (a0Q (x:=.int (w:Int)) (y:=.int (i:Nat)) (by kernel_rfl) a0u ?_)).trans (last f [] hf)) (fun _ h=>by cases h)
  exact a6G.trans (c9o some (c9s.mpr h))
 show a0y F fuel [(53,.val (.int (w:Int))),(33,.val x)] a3a = _
 obtain rfl | rfl | rfl | rfl | rfl:w=0∨w=1∨w=2∨w=3∨w=4:=by lia
 ·exact take 0 54 _ rfl e
 ·exact (skip 0 54 _ (by decide)).trans (take 1 55 _ rfl e)
 ·exact (skip 0 54 _ (by decide)).trans ((skip 1 55 _ (by decide)).trans (take 2 56 _ rfl e))
 ·exact (skip 0 54 _ (by decide)).trans ((skip 1 55 _ (by decide)).trans ((skip 2 56 _ (by decide)).trans (take 3 57 _ rfl e)))
 ·exact (skip 0 54 _ (by decide)).trans ((skip 1 55 _ (by decide)).trans ((skip 2 56 _ (by decide)).trans ((skip 3 57 _ (by decide)).trans (last 58 _ e))))
end
section
noncomputable def a4l (c:Nat):Nat:=if 65≤c∧c≤90 then c - 65 else if 97≤c∧c≤122 then c - 71 else if 48≤c∧c≤57 then c+4 else if c=43 then 62 else if c=47 then 63 else 64
theorem c1T (fuel m:Nat):((List.range 128).all fun c=>isInt (runG ids a0p fuel (m+1) 15 [.int (c:Nat)] none) ((a4l c:Nat):Int))=true:=by kernel_rfl
theorem c1U {fuel m c:Nat}(h:c<128):runG ids a0p fuel (m+1) 15 [.int (c:Int)] none=some (.int (a4l c:Int)):=b1R (c9Q.mp (c1T fuel m) c (c9R.mpr h))
theorem c1V {fuel m:Nat}{b:Array UInt8}:runG ids a0p fuel (m+1) 6 [.bytes b] none=some (.bytes b):=by kernel_rfl
theorem b5P {fuel m:Nat}:runG ids a0p fuel (m+1) 8 [.bool false] none=some (.bool false):=by kernel_rfl
structure S6 where
 q:Nat
 left:Nat
 out:List Nat
noncomputable def S6.next (s:S6)(v:Nat):S6:=match s.q with
 | 0=>⟨1,v,s.out⟩
 | 1=>⟨2,v % 16,s.out++[s.left*4+v / 16]⟩
 | 2=>⟨3,v % 4,s.out++[s.left*16+v / 4]⟩
 | _=>⟨0,0,s.out++[s.left*64+v]⟩
structure S6.Ok (s:S6):Prop where
 q:s.q<4
 left:(s.q=0→s.left=0)∧(s.q=1→s.left<64)∧(s.q=2→s.left<16)∧(s.q=3→s.left<4)
 out:∀ x∈s.out,x<256
theorem S6.Ok.next {s:S6}(h:s.Ok){v:Nat}(hv:v<64):(s.next v).Ok:=by
 obtain⟨q,left,out⟩:=s
 obtain⟨h1,⟨l0,l1,l2,l3⟩,h3⟩:=h
 simp only at h1 l0 l1 l2 l3 h3
 obtain rfl | rfl | rfl | rfl:q=0∨q=1∨q=2∨q=3:=by lia
 ·exact⟨by simp [S6.next],by simp [S6.next];lia,h3⟩
 ·refine⟨by simp [S6.next],by simp [S6.next];lia,fun x hx=>?_⟩
  rcases d0v.mp hx with hx | hx
  ·exact h3 x hx
  ·have hx:x=left*4+v / 16:=d0i.mp hx
   have:=l1 rfl
   lia
 ·refine⟨by simp [S6.next],by simp [S6.next];lia,fun x hx=>?_⟩
  rcases d0v.mp hx with hx | hx
  ·exact h3 x hx
  ·have hx:x=left*16+v / 4:=d0i.mp hx
   have:=l2 rfl
   lia
 ·refine⟨by simp [S6.next],by simp [S6.next],fun x hx=>?_⟩
  rcases d0v.mp hx with hx | hx
  ·exact h3 x hx
  ·have hx:x=left*64+v:=d0i.mp hx
   have:=l3 rfl
   lia
theorem b8u:((List.range 64).all fun v=>Builtin.bitAnd (v:Nat) 15==((v % 16:Nat):Int)&&Builtin.bitAnd (v:Nat) 3==((v % 4:Nat):Int)&&((v:Nat):Int).fdiv (2 ^ 4)==((v / 16:Nat):Int)&&((v:Nat):Int).fdiv (2 ^ 2)==((v / 4:Nat):Int)&&(List.range 64).all fun l=>
  Builtin.bitOr ((l:Nat)*2 ^ 2) ((v / 16:Nat):Int)==((l*4+v / 16:Nat):Int)&&(16≤l||Builtin.bitOr ((l:Nat)*2 ^ 4) ((v / 4:Nat):Int)==((l*16+v / 4:Nat):Int))&&(4≤l||Builtin.bitOr ((l:Nat)*2 ^ 6) ((v:Nat):Int)==((l*64+v:Nat):Int)))=true:=by decide +kernel
section
variable {F:Fns}{fuel:Nat}{σ:Store}
structure A64 (σ:Store)(s:S6)(i:Int):Prop where
 nm:NM σ
 g7:σ.get 7=some (.val (.bool false))
 g9:σ.get 9=some (.own (s.out.map fun (n:Nat)=>.int (n:Int)))
 g10:σ.get 10=some (.val (.int (s.q:Int)))
 g11:σ.get 11=some (.val (.int (s.left:Int)))
 g12:σ.get 12=some (.val (.int 0))
 g13:σ.get 13=some (.val (.int i))
theorem A64.set {s:S6}{i:Int}(h:A64 σ s i){x:Nat}{d:D}(hx:x=14):A64 (σ.set x (.val d)) s i:=by
 subst hx
 exact⟨h.nm.val,(a0d (by decide)).trans h.g7,(a0d (by decide)).trans h.g9,(a0d (by decide)).trans h.g10,(a0d (by decide)).trans h.g11,(a0d (by decide)).trans h.g12,(a0d (by decide)).trans h.g13⟩
noncomputable def a9M (k j:Int):PE:=.bin .BitOr (.bin .LShift (.var 11) (.int k)) (.bin .RShift (.var 14) (.int j))
noncomputable def aQ1:List PS:=[.asg 10 false (.int 2),.app 9 (a9M 2 4),.asg 11 false (.bin .BitAnd (.var 14) (.int 15))]
noncomputable def aQ2:List PS:=[.asg 10 false (.int 3),.app 9 (a9M 4 2),.asg 11 false (.bin .BitAnd (.var 14) (.int 3))]
noncomputable def aQ3:List PS:=[.asg 10 false (.int 0),.app 9 (.bin .BitOr (.bin .LShift (.var 11) (.int 6)) (.var 14)),.asg 11 false (.int 0)]
noncomputable def aQ:PS:=.ifs (.cmp .Eq (.var 10) (.int 0)) [.asg 10 false (.int 1),.asg 11 false (.var 14)] [.ifs (.cmp .Eq (.var 10) (.int 1)) aQ1 [.ifs (.cmp .Eq (.var 10) (.int 2)) aQ2 aQ3]]
theorem b5Q {a b:Nat}{k:Nat}(h:σ.get k=some (.val (.int (a:Int)))):evT F σ (.cmp .Eq (.var k) (.int (b:Int)))=some (decide (a=b)):=by
 refine a0Q (a0i h) a0u ?_
 exact a6G
theorem c1W {s:S6}{i:Int}(h:A64 σ s i){q l y:Nat}{e1 e2:PE}{v:D}(hv:σ.get 14=some (.val v))(hs1:∀ σ,strict σ e1=true)
  (h1:evE F (σ.set 10 (.val (.int (q:Int)))) e1=some (.int (y:Int))) (hout:s.out.length≤100000)
  (h2:∀ σ',σ'.get 14=some (.val v)→evE F σ' e2=some (.int (l:Int))) (hi2:a5C e2=none) (hs2:∀ σ,strict σ e2=true) :
  ∃ σ',a0y F fuel σ [.asg 10 false (.int (q:Int)),.app 9 e1,.asg 11 false e2]=some (.next σ')∧A64 σ' ⟨q,l,s.out++[y]⟩ i:=by
 have s1:=a0s (F:=F) (fuel:=fuel) (k:=10) h.nm rfl (by kernel_rfl) (a0u (i:=(q:Int)))
 have s2:=a9F (F:=F) (fuel:=fuel) (k:=9) (σ:=σ.set 10 (.val (.int (q:Int)))) ((a0d (by decide)).trans h.g9) h1 (hs1 _) (by rw [d0a];lia)
 have k14:((σ.set 10 (.val (.int (q:Int)))).set 9 (.own (s.out.map (fun (n:Nat)=>D.int (n:Int))++[.int (y:Int)]))).get 14=some (.val v):=(a0d (by decide)).trans ((a0d (by decide)).trans hv)
 have s3:=a0s (F:=F) (fuel:=fuel) (k:=11) (e:=e2) (h.nm.val.own) hi2 (hs2 _) (h2 _ k14)
 refine⟨_,(a0c s1).trans ((a0c s2).trans ((a0c s3).trans rfl)),h.nm.val.own.val,?_,?_,?_,a0o,?_,?_⟩
 ·exact (a0d (by decide)).trans ((a0d (by decide)).trans ((a0d (by decide)).trans h.g7))
 ·refine (a0d (by decide)).trans (a0o.trans ?_)
  simp
 ·exact (a0d (by decide)).trans ((a0d (by decide)).trans a0o)
 ·exact (a0d (by decide)).trans ((a0d (by decide)).trans ((a0d (by decide)).trans h.g12))
 ·exact (a0d (by decide)).trans ((a0d (by decide)).trans ((a0d (by decide)).trans h.g13))
theorem b9v {l k:Nat}(h:l<64)(hk:k≤1000):a2U .LShift (.int (l:Int)) (.int (k:Int))=some (.int ((l:Int)*2 ^ k)):=by
 have h1:(l:Int).natAbs<2 ^ 64:=by rw [d1c];lia
 refine a1c (x:=grd (decide (0≤(k:Int))&&decide ((k:Int)≤1000000)&&decide ((l:Int).natAbs<2 ^ 64)) (some ((l:Int)*2 ^ (k:Int).toNat))) (a0n ?_) rfl
 rw [d0G (c9Z k),d0G (show (k:Int)≤1000000 by lia),d0G h1];rfl
theorem c5f {l:Int}{k:Nat}:a2U .RShift (.int l) (.int (k:Int))=some (.int (l.fdiv (2 ^ k))):=by
 exact a1c (x:=grd (decide (0≤(k:Int))) (some (l.fdiv (2 ^ (k:Int).toNat)))) (a0n (d0G (c9Z k))) rfl
theorem c7H {s:S6}{i:Int}(h:A64 σ s i)(ok:s.Ok){v:Nat}(hv:v<64)(h14:σ.get 14=some (.val (.int (v:Int))))(hout:s.out.length≤100000) :
  ∃ σ',evS F fuel σ aQ=some (.next σ')∧A64 σ' (s.next v) i:=by
 obtain⟨q,left,out⟩:=s
 obtain⟨h1,⟨l0,l1,l2,l3⟩,h3⟩:=ok
 simp only at h1 l0 l1 l2 l3 h3
 have ba:=c9Q.mp b8u v (c9R.mpr hv)
 simp only [c9z,c9s] at ba
 obtain⟨⟨⟨⟨b1,b2⟩,b3⟩,b4⟩,b5⟩:=ba
 have b6:=fun (hl:left<64)=>c9Q.mp b5 left (c9R.mpr hl)
 simp only [c9z,c9s,Bool.or_eq_true,d0M] at b6
 have t0:=b5Q (F:=F) (b:=0) h.g10
 have t1:=b5Q (F:=F) (b:=1) h.g10
 have t2:=b5Q (F:=F) (b:=2) h.g10
 have v14:∀ σ',σ'.get 14=some (.val (.int (v:Int)))→evE F σ' (.var 14)=some (.int (v:Int)):=fun σ' h=>a0i h
 have k14:∀ q:Int,(σ.set 10 (.val (.int q))).get 14=some (.val (.int (v:Int))):=fun q=>(a0d (by decide)).trans h14
 have k11:∀ q:Int,(σ.set 10 (.val (.int q))).get 11=some (.val (.int (left:Int))):=fun q=>(a0d (by decide)).trans h.g11
 have shift:∀ (q:Int) (k j:Nat),left<64→k≤1000→evE F (σ.set 10 (.val (.int q))) (a9M (k:Int) (j:Int))=some (.int (Builtin.bitOr ((left:Int)*2 ^ k) ((v:Int).fdiv (2 ^ j)))):=fun q k j hl hk=>
  a0q (a0q (a0i (k11 q)) a0u (b9v hl hk)) (a0q (a0i (k14 q)) a0u c5f) rfl
 obtain rfl | rfl | rfl | rfl:q=0∨q=1∨q=2∨q=3:=by lia
 ·have s1:=a0s (F:=F) (fuel:=fuel) (k:=10) h.nm (by kernel_rfl) (by kernel_rfl) (a0u (i:=(1:Int)))
  have s2:=b1P (F:=F) (fuel:=fuel) (k:=11) (y:=14) (σ:=σ.set 10 (.val (.int 1))) h.nm.val (k14 1)
  refine⟨_,(a0U t0).trans ((a0c s1).trans ((a0c s2).trans rfl)),h.nm.val.val,?_,?_,?_,a0o,?_,?_⟩
  ·exact (a0d (by decide)).trans ((a0d (by decide)).trans h.g7)
  ·exact (a0d (by decide)).trans ((a0d (by decide)).trans h.g9)
  ·exact (a0d (by decide)).trans a0o
  ·exact (a0d (by decide)).trans ((a0d (by decide)).trans h.g12)
  ·exact (a0d (by decide)).trans ((a0d (by decide)).trans h.g13)
 ·have hl:=l1 rfl
  refine (b6 hl).elim fun Z1 _=>Z1.elim (fun c1 _=>?_)
  obtain⟨σ',e,A⟩:=c1W (F:=F) (fuel:=fuel) h (q:=2) (l:=v % 16) (y:=left*4+v / 16) (e1:=a9M 2 4) (e2:=.bin .BitAnd (.var 14) (.int 15)) h14 (fun _=>by kernel_rfl)
   ((shift 2 2 4 hl (by decide)).trans (by rw [b3,c1])) hout (fun σ' h=>a0q (v14 σ' h) a0u (c9o (fun i=>some (D.int i)) b1)) (by kernel_rfl) (fun _=>by kernel_rfl)
  exact⟨σ',(a0U t0).trans ((a0c ((a0U t1).trans e)).trans rfl),A⟩
 ·have hl:=l2 rfl
  refine (b6 (by lia)).elim fun Z1 _=>Z1.elim (fun _ c2=>?_)
  have c2:=c2.resolve_left (by lia)
  obtain⟨σ',e,A⟩:=c1W (F:=F) (fuel:=fuel) h (q:=3) (l:=v % 4) (y:=left*16+v / 4) (e1:=a9M 4 2) (e2:=.bin .BitAnd (.var 14) (.int 3)) h14 (fun _=>by kernel_rfl)
   ((shift 3 4 2 (by lia) (by decide)).trans (by rw [b4,c2])) hout (fun σ' h=>a0q (v14 σ' h) a0u (c9o (fun i=>some (D.int i)) b2)) (by kernel_rfl) (fun _=>by kernel_rfl)
  exact⟨σ',(a0U t0).trans ((a0c ((a0U t1).trans ((a0c ((a0U t2).trans e)).trans rfl))).trans rfl),A⟩
 ·have hl:=l3 rfl
  refine (b6 (by lia)).elim fun Z1 c3=>Z1.elim (fun _ _=>?_)
  have c3:=c3.resolve_left (by lia)
  obtain⟨σ',e,A⟩:=c1W (F:=F) (fuel:=fuel) h (q:=0) (l:=0) (y:=left*64+v) (e1:=.bin .BitOr (.bin .LShift (.var 11) (.int 6)) (.var 14)) (e2:=.int 0) h14 (fun _=>by kernel_rfl)
   (a0q (a0q (a0i (k11 _)) a0u (b9v (k:=6) (by lia) (by decide))) (a0i (k14 _)) (c9o (fun i=>some (D.int i)) c3)) hout (fun σ' h=>a0u) (by kernel_rfl) (fun _=>by kernel_rfl)
  exact⟨σ',(a0U t0).trans ((a0c ((a0U t1).trans ((a0c ((a0U t2).trans e)).trans rfl))).trans rfl),A⟩
end
end
section
section
variable {F:Fns}{fuel:Nat}{σ:Store}
theorem c5g {a b:Nat}:a3R .GtE (.int (b:Int)) (.int (a:Int))=some (decide (a≤b)):=c9o some (decide_eq_decide.mpr Int.ofNat_le)
theorem b2a {k:Nat}{d:D}{b:Bool}(h:σ.get k=some (.val d))(hd:a6Y d=some b):evT F σ (.var k)=some b:=by show (σ.get k).bind _ = _;exact a0b h hd
theorem c5h {q:List PS}:∀ {p:List PS} {σ σ':Store},a0y F fuel σ p=some (.next σ')→a0y F fuel σ (p++q)=a0y F fuel σ' q:=fun {p}=>by
 induction p with
 | nil=>intro σ σ' h;cases (show some (Out.next σ) = _ from h);rfl
 | cons x p ih=>
  intro σ σ' h
  refine a0j (x:=evS F fuel σ x) h fun o h1 h2=>?_
  show (evS F fuel σ x).bind _ = _
  refine a0b h1 ?_
  cases o with
  | next σ₁=>exact ih h2
  | _=>cases h2
theorem b8v {e:PE}{l:List Int}(h:evE F σ e=some (.list (l.map .int)))(hb:l.all (fun i=>decide (0≤i∧i<256))=true)(hl:l.length≤16777216):evE F σ (.bytesOf e)=some (.bytes (byteArr l)):=by
 show (evE F σ e).bind _ = _
 refine a0b h (a0b (a:=l.map .int) rfl (a0b (x:=(l.map D.int).mapM D.asInt) (a:=l) ?_ (a0n (d0t.mpr ⟨hb,a0G hl⟩))))
 exact (a1b (e:=D.int) (g:=id) fun _ _=>rfl).trans (by rw [List.map_id])
noncomputable def c8z:PS:=.ifs (.cmp .Eq (.var 14) (.int 61)) [(.asg 12 false (.bin .Add (.var 12) (.int 1))),(.ifs (.and (.cons (.cmp .GtE (.var 10) (.int 2)) (.cons (.cmp .LtE (.bin .Add (.var 10) (.var 12)) (.int 4)) .nil))) [(.asg 13 false (.bin .Add (.var 13) (.int 1))),.cont] []),(.ifs (.not (.var 7)) [(.asg 13 false (.bin .Add (.var 13) (.int 1))),.cont] []),(.ifs (.cmp .Eq (.var 10) (.int 1)) [.brk] []),(.ifs (.and (.cons (.cmp .Eq (.var 10) (.int 0)) (.cons (.cmp .Eq (.var 13) (.int 0)) .nil))) [.fail] []),.fail] []
noncomputable def c5i:PS:=.ifs (.cmp .GtE (.var 14) (.int 64)) [(.ifs (.var 7) [.fail] []),(.asg 13 false (.bin .Add (.var 13) (.int 1))),.cont] []
noncomputable def b5R:PS:=.ifs (.and (.cons (.var 12) (.cons (.var 7) .nil))) [(.ifs (.cmp .Eq (.bin .Add (.var 10) (.var 12)) (.int 4)) [.fail] []),.fail] []
noncomputable def c8A:PS:=.asg 13 false (.bin .Add (.var 13) (.int 1))
noncomputable def b5S:List PS:=[c8z,.asg 14 false (.call 15 (.cons (.var 14) .nil) .no),c5i,b5R,.asg 12 false (.int 0),aQ,c8A]
noncomputable def S6.take (s:S6)(c:Nat):S6:=if a4l c<64 then s.next (a4l c) else s
theorem c5j {m:Nat}(hF:F=runG ids a0p fuel (m+1)){s:S6}{i:Int}(h:A64 σ s i)(ok:s.Ok){c:Nat}(hc:c<128)(h61:c≠61)(h14:σ.get 14=some (.val (.int (c:Int))))(hout:s.out.length≤100000) :
  ∃ σ',(a0y F fuel σ b5S=some (.next σ')∨a0y F fuel σ b5S=some (.cont σ'))∧A64 σ' (s.take c) (i+1):=by
 have t0:=b5Q (F:=F) (b:=61) h14
 rw [c9Y h61] at t0
 have s0:evS F fuel σ c8z=some (.next σ):=(a0U t0).trans rfl
 have r15:=c1U (fuel:=fuel) (m:=m) hc
 rw [← hF] at r15
 have s1:=a0s (F:=F) (fuel:=fuel) (k:=14) h.nm (by kernel_rfl) (by kernel_rfl) (a0Z (F:=F) (f:=15) (a2c (a0t h14) (a0i h14)) r15)
 have A:=h.set (x:=14) (d:=.int (a4l c:Int)) rfl
 have k14:(σ.set 14 (.val (.int (a4l c:Int)))).get 14=some (.val (.int (a4l c:Int))):=a0o
 generalize σ.set 14 (.val (.int (a4l c:Int)))=σ₁ at *
 have t2:evT F σ₁ (.cmp .GtE (.var 14) (.int 64))=some (decide (64≤a4l c)):=by
  refine a0Q (a0i k14) a0u ?_
  exact c5g (a:=64)
 have inc:∀ {σ:Store} {s:S6},A64 σ s i→∃ σ',evS F fuel σ c8A=some (.next σ')∧A64 σ' s (i+1):=fun {σ s} A=>by
  refine⟨_,a0s A.nm (by kernel_rfl) (by kernel_rfl) (a0q (a0i A.g13) a0u rfl),A.nm.val,(a0d (by decide)).trans A.g7,(a0d (by decide)).trans A.g9,(a0d (by decide)).trans A.g10,(a0d (by decide)).trans A.g11,(a0d (by decide)).trans A.g12,a0o⟩
 have t7:∀ {σ:Store},σ.get 7=some (.val (.bool false))→evT F σ (.var 7)=some false:=fun h=>b2a h rfl
 by_cases hv:a4l c<64
 ·rw [c9Y (by lia)] at t2
  have s2:evS F fuel σ₁ c5i=some (.next σ₁):=(a0U t2).trans rfl
  have t3:evT F σ₁ (.and (.cons (.var 12) (.cons (.var 7) .nil)))=some false:=by
   have:evT F σ₁ (.var 12)=some false:=b2a A.g12 rfl
   exact b0N (q:=false) this (fun h=>by cases h)
  have s3:evS F fuel σ₁ b5R=some (.next σ₁):=(a0U t3).trans rfl
  have s4:=a0s (F:=F) (fuel:=fuel) (k:=12) A.nm (by kernel_rfl) (by kernel_rfl) (a0u (i:=0))
  have A4:A64 (σ₁.set 12 (.val (.int 0))) s i:=⟨A.nm.val,(a0d (by decide)).trans A.g7,(a0d (by decide)).trans A.g9,(a0d (by decide)).trans A.g10,(a0d (by decide)).trans A.g11,a0o,(a0d (by decide)).trans A.g13⟩
  have k14':(σ₁.set 12 (.val (.int 0))).get 14 = _:=(a0d (by decide)).trans k14
  refine (c7H (F:=F) (fuel:=fuel) A4 ok hv k14' hout).elim fun σ₂ Z1=>Z1.elim (fun s5 A5=>?_)
  refine (inc A5).elim fun σ₃ Z1=>Z1.elim (fun s6 A6=>?_)
  refine⟨σ₃,.inl ((a0c s0).trans ((a0c s1).trans ((a0c s2).trans ((a0c s3).trans ((a0c s4).trans ((a0c s5).trans ((a0c s6).trans rfl))))))),?_⟩
  unfold S6.take
  rw [c9r hv]
  exact A6
 ·rw [d0G (by lia)] at t2
  refine (inc A).elim fun σ₃ Z1=>Z1.elim (fun s6 A6=>?_)
  refine⟨σ₃,.inr ((a0c s0).trans ((a0c s1).trans (a5l (o:=.cont σ₃) ((a0U t2).trans ((a0c ((a0U (t7 A.g7)).trans rfl)).trans ((a0c s6).trans rfl))) (fun _ h=>by cases h)))),?_⟩
  unfold S6.take
  rw [c9t hv]
  exact A6
theorem b8w {s:S6}{c:Nat}:(s.take c).out.length≤s.out.length+1:=by
 obtain⟨q,left,out⟩:=s
 unfold S6.take
 split
 ·unfold S6.next
  simp only
  split <;> simp
 ·simp
theorem c1X {s:S6}(h:s.Ok){c:Nat}:(s.take c).Ok:=by
 unfold S6.take
 split
 ·exact h.next ‹_›
 ·exact h
noncomputable def a1U (l:List Nat):S6:=l.foldl S6.take ⟨0,0,[]⟩
theorem a7y {l:List Nat}{c:Nat}:a1U (l++[c])=(a1U l).take c:=by simp [a1U]
theorem b2b (l:List Nat):(a1U l).Ok∧(a1U l).out.length≤l.length:=by
 refine b8j (P:=fun l=>(a1U l).Ok∧(a1U l).out.length≤l.length) ⟨⟨by decide,by simp [a1U],by simp [a1U]⟩,by simp [a1U]⟩ (fun r a ih=>?_) l
 rw [a7y]
 refine⟨c1X ih.1,?_⟩
 have:=b8w (s:=a1U r) (c:=a)
 rw [d0D,d0Z];lia
theorem c5k {m:Nat}(hF:F=runG ids a0p fuel (m+1)){l:List Nat}(hl:∀ c∈l,c<128∧c≠61)(hn:l.length≤100000){b:Array UInt8}(hb:b.toList.map (fun c=>D.int (c.toNat:Int))=l.map fun (c:Nat)=>D.int (c:Int)){i:Int}(h:A64 σ ⟨0,0,[]⟩ i)(h5:σ.get 5=some (.val (.bytes b))) :
  ∃ σ' i',evS F fuel σ (.for (.one 14) (.var 5) b5S)=some (.next σ')∧A64 σ' (a1U l) i':=by
 let body:Store→D→Option Out:=fun σ d=>(a0P σ (.one 14) d).bind fun σ'=>a0y F fuel σ' b5S
 obtain⟨σ',e,i',A⟩:=a1f (body:=body) (f:=fun (c:Nat)=>D.int (c:Int)) (all:=l) (σ:=σ) (fun done σ=>∃ i,A64 σ (a1U done) i) ⟨i,h⟩ fun done c rest σ hd ⟨i,A⟩=>by
  have hcm:c∈l:=by rw [← hd];simp
  have hdl:done.length≤l.length:=by rw [← hd];simp
  have hb:body σ (.int (c:Int))=a0y F fuel (σ.set 14 (.val (.int (c:Int)))) b5S:=by
   show ((a0P σ (.one 14) _).bind fun σ'=>a0y F fuel σ' _) = _
   rw [a0V A.nm];rfl
  rw [hb]
  refine (b2b done).elim fun ok ho=>?_
  refine (c5j hF (A.set (x:=14) (d:=.int (c:Int)) rfl) ok (hl c hcm).1 (hl c hcm).2 a0o (by lia)).elim fun σ' Z1=>Z1.elim (fun e A'=>?_)
  exact⟨σ',e,i+1,by rw [a7y];exact A'⟩
 refine⟨σ',i',a1E (a0t h5) (a1e h5 (c9o some hb)) e,A⟩
theorem c1Y {m:Nat}{l:List Nat}(hl:∀ c∈l,c<128∧c≠61)(hn:l.length≤100000){b:Array UInt8}(hb:b.toList.map (fun c=>D.int (c.toNat:Int))=l.map fun (c:Nat)=>D.int (c:Int))(hq:(a1U l).q=0) :
  runG ids a0p fuel (m+2) 19 [.bytes b] (some (.bool false))=some (.bytes (byteArr ((a1U l).out.map fun (n:Nat)=>(n:Int)))):=by
 suffices h:a0y (runG ids a0p fuel (m+1)) fuel [(2,.val (.bytes b)),(7,.val (.bool false))] a1S=some (.ret (.bytes (byteArr ((a1U l).out.map fun (n:Nat)=>(n:Int))))) by
  exact b0L (ps:=a1S) (σ:=[(2,.val (.bytes b)),(7,.val (.bool false))]) rfl rfl rfl rfl rfl rfl h
 generalize hF:runG ids a0p fuel (m+1)=F
 have r6:=c1V (fuel:=fuel) (m:=m) (b:=b)
 have r8:=b5P (fuel:=fuel) (m:=m)
 rw [hF] at r6 r8
 have nm0:NM [(2,.val (.bytes b)),(7,.val (.bool false))]:=(NM.nil.cons (fun _=>by simp)).cons (fun _=>by simp)
 have s1:=a0s (F:=F) (fuel:=fuel) (k:=5) nm0 (by kernel_rfl) (by kernel_rfl) (a0Z (F:=F) (f:=6) (args:=.cons (.var 2) .nil) (a2c (by kernel_rfl) (by kernel_rfl)) r6)
 have s2:=a0s (F:=F) (fuel:=fuel) (k:=7) (nm0.val (x:=5) (d:=.bytes b)) (by kernel_rfl) (by kernel_rfl) (a0Z (F:=F) (f:=8) (args:=.cons (.var 7) .nil) (a2c (by kernel_rfl) (by kernel_rfl)) r8)
 have hst:(((Store.set [(2,.val (.bytes b)),(7,.val (.bool false))] 5 (.val (.bytes b))).set 7 (.val (.bool false))))=[(2,.val (.bytes b)),(7,.val (.bool false)),(5,.val (.bytes b))]:=by kernel_rfl
 rw [hst] at s2
 have mid:a0y F fuel [(2,.val (.bytes b)),(7,.val (.bool false)),(5,.val (.bytes b))] [.asg 9 true (.list .nil),.asg 10 false (.int 0),.asg 11 false (.int 0),.asg 12 false (.int 0),.asg 13 false (.int 0)] =
   some (.next [(2,.val (.bytes b)),(7,.val (.bool false)),(5,.val (.bytes b)),(9,.own []),(10,.val (.int 0)),(11,.val (.int 0)),(12,.val (.int 0)),(13,.val (.int 0))]):=by kernel_rfl
 obtain⟨σ',i',e,A⟩:=c5k hF.symm hl hn hb (σ:=[(2,.val (.bytes b)),(7,.val (.bool false)),(5,.val (.bytes b)),(9,.own []),(10,.val (.int 0)),(11,.val (.int 0)),(12,.val (.int 0)),(13,.val (.int 0))]) (i:=0)
  ⟨by intro p hp y;simp at hp;rcases hp with rfl | rfl | rfl | rfl | rfl | rfl | rfl | rfl <;> simp,by kernel_rfl,by kernel_rfl,by kernel_rfl,by kernel_rfl,by kernel_rfl,by kernel_rfl⟩ (by kernel_rfl)
 refine (b2b l).elim fun ok hol=>?_
 have t1:=b5Q (F:=F) (b:=1) A.g10
 rw [hq] at t1
 have t0:evT F σ' (.cmp .NotEq (.var 10) (.int 0))=some false:=by
  refine a0Q (a0i A.g10) a0u ?_
  rw [hq];rfl
 have e1:evS F fuel σ' (.ifs (.cmp .Eq (.var 10) (.int 1)) [.fail] [])=some (.next σ'):=(a0U t1).trans rfl
 have e2:evS F fuel σ' (.ifs (.and (.cons (.cmp .NotEq (.var 10) (.int 0)) (.cons (.cmp .Lt (.bin .Add (.var 10) (.var 12)) (.int 4)) .nil))) [.fail] [])=some (.next σ'):=(a0U (b0N (q:=false) t0 (fun h=>by cases h))).trans rfl
 have f9:=a0H A.g9 (s':=.val (.list ((a1U l).out.map fun (n:Nat)=>.int (n:Int)))) rfl
 have e3:a0y F fuel σ' [.ret (.bytesOf (.var 9))]=some (.ret (.bytes (byteArr ((a1U l).out.map fun (n:Nat)=>(n:Int))))):=by
  refine a2u (by kernel_rfl) ?_
  refine b8v (l:=(a1U l).out.map fun (n:Nat)=>(n:Int)) (by rw [d0k];exact a0i f9) (c9Q.mpr fun x hx=>?_) (by rw [d0a];lia)
  refine (d0Q.mp hx).elim fun n Z1=>Z1.elim (fun hn Z2=>?_)
  subst Z2
  exact d0G ⟨c9Z n,Int.ofNat_lt.mpr (ok.out n hn)⟩
 refine (a0c s1).trans ((a0c s2).trans ?_)
 refine (c5h (p:=[.asg 9 true (.list .nil),.asg 10 false (.int 0),.asg 11 false (.int 0),.asg 12 false (.int 0),.asg 13 false (.int 0)]) mid).trans ?_
 exact (a0c e).trans ((a0c e1).trans ((a0c e2).trans e3))
end
end
section
theorem b5T {fuel m:Nat}{x:Str}{g:Bool}(h1:x.cps.all (·<128)=true)(h2:x.length≤16777216):runG ids a0p fuel (m+1) 16 [.str x g] none=some (.bytes (a2L x)):=by
 refine a1W (df:=⟨16,[0],[],[],a1q⟩) rfl (by decide) (by decide) rfl rfl rfl ?_
 generalize runG ids a0p fuel m=F
 show a0y F fuel [(0,.val (.str x g))] [.ifs (.isStr (.var 0)) [.try [.ret (.encode (.var 0))]] [],.fail] = _
 have t:evT F [(0,.val (.str x g))] (.isStr (.var 0))=some true:=by kernel_rfl
 have e:a0y F fuel [(0,.val (.str x g))] [.ret (.encode (.var 0))]=some (.ret (.bytes (a2L x))):=by
  refine a2u (by kernel_rfl) ?_
  have hf:freezeAll [(0,.val (.str x g))]=[(0,.val (.str x g))]:=by kernel_rfl
  rw [hf]
  have v:evE F [(0,.val (.str x g))] (.var 0)=some (.str x g):=by kernel_rfl
  show (evE F _ (.var 0)).bind _ = _
  exact a0b v (a0b (a:=x) rfl (a0n (d0t.mpr ⟨h1,a0G h2⟩)))
 have e2:evS F fuel [(0,.val (.str x g))] (.try [.ret (.encode (.var 0))])=some (.ret (.bytes (a2L x))):=by show (a0y _ _ _ _).bind _ = _;exact a0b e rfl
 exact a5l ((a0U t).trans (a5l e2 (fun _ h=>by cases h))) (fun _ h=>by cases h)
noncomputable def trN (m1 m2 k:Nat):Nat:=if m2=k then 47 else if m1=k then 43 else k
theorem b8x {l:List Nat}{m1 m2:Nat}(h1:m1<128)(h2:m2<128)(hl:∀ c∈l,c<128) :
  (a3S (l.map UInt8.ofNat) [UInt8.ofNat m1,UInt8.ofNat m2] [43,47]).map (fun c=>D.int (c.toNat:Int))=(l.map (trN m1 m2)).map fun (c:Nat)=>D.int (c:Int):=by
 unfold a3S
 rw [d0k,d0k,d0k]
 refine d0R fun c hc=>?_
 have hc:=hl c hc
 have inj:∀ a b:Nat,a<128→b<128→(UInt8.ofNat a=UInt8.ofNat b↔a=b):=fun a b ha hb=>by
  constructor
  ·intro e
   have:=c9o UInt8.toNat e
   simp at this
   lia
  ·rintro rfl;rfl
 simp only [Function.comp,List.zip_cons_cons,List.zip_nil_right,d0L,List.foldl_nil,inj m1 c h1 hc,inj m2 c h2 hc]
 unfold trN
 by_cases q2:m2=c
 ·rw [c9r q2,c9r q2];rfl
 ·rw [c9t q2,c9t q2]
  by_cases q1:m1=c
  ·rw [c9r q1,c9r q1];rfl
  ·rw [c9t q1,c9t q1]
   congr 2
   simp
   lia
theorem b3l {fuel m:Nat}{l:List Nat}{g g2:Bool}{m1 m2:Nat}(h1:m1<128)(h2:m2<128)(hl:∀ c∈l,c<128∧trN m1 m2 c≠61)(hn:l.length≤100000)(hq:(a1U (l.map (trN m1 m2))).q=0) :
  runG ids a0p fuel (m+3) 63 [.str ⟨l.toArray⟩ g,.str ⟨#[m1,m2]⟩ g2] none=some (.bytes (byteArr ((a1U (l.map (trN m1 m2))).out.map fun (n:Nat)=>(n:Int)))):=by
 suffices h:a0y (runG ids a0p fuel (m+2)) fuel [(0,.val (.str ⟨l.toArray⟩ g)),(17,.val (.str ⟨#[m1,m2]⟩ g2)),(18,.val (.bool false))] a2k=some (.ret (.bytes (byteArr ((a1U (l.map (trN m1 m2))).out.map fun (n:Nat)=>(n:Int))))) by
  exact b0L (ps:=a2k) (σ:=[(0,.val (.str ⟨l.toArray⟩ g)),(17,.val (.str ⟨#[m1,m2]⟩ g2)),(18,.val (.bool false))]) rfl rfl rfl rfl rfl rfl h
 have r1:=b5T (fuel:=fuel) (m:=m+1) (x:=⟨l.toArray⟩) (g:=g) (by simp;intro x hx;exact (hl x hx).1) (by rw [a2m];lia)
 have r2:=b5T (fuel:=fuel) (m:=m+1) (x:=⟨#[m1,m2]⟩) (g:=g2) (by simp [h1,h2]) (by simp [Str.length])
 have htr:∀ c,c<128→trN m1 m2 c<128:=fun c hc=>by unfold trN;split;lia;split <;> lia
 have r3:=c1Y (fuel:=fuel) (m:=m) (l:=l.map (trN m1 m2)) (b:=(a3S (l.map UInt8.ofNat) [UInt8.ofNat m1,UInt8.ofNat m2] [43,47]).toArray) (fun c hc=>by
  refine (d0Q.mp hc).elim fun k Z1=>Z1.elim (fun hk Z2=>?_)
  subst Z2
  exact⟨htr k (hl k hk).1,(hl k hk).2⟩) (by simpa using hn) (b8x h1 h2 fun c hc=>(hl c hc).1) hq
 generalize hB:byteArr ((a1U (l.map (trN m1 m2))).out.map fun (n:Nat)=>(n:Int))=B at *
 generalize runG ids a0p fuel (m+2)=F at *
 have a1:a2L ⟨l.toArray⟩=(l.map UInt8.ofNat).toArray:=rfl
 have a2:a2L ⟨#[m1,m2]⟩=#[UInt8.ofNat m1,UInt8.ofNat m2]:=rfl
 rw [a1] at r1
 rw [a2] at r2
 have hL8:(l.map UInt8.ofNat).length≤100000:=by rw [d0a];exact hn
 generalize (l.map UInt8.ofNat)=L8 at *
 have nm0:NM [(0,.val (.str ⟨l.toArray⟩ g)),(17,.val (.str ⟨#[m1,m2]⟩ g2)),(18,.val (.bool false))]:=((NM.nil.cons (fun _=>by simp)).cons (fun _=>by simp)).cons (fun _=>by simp)
 have s1:=a0s (F:=F) (fuel:=fuel) (k:=0) nm0 (by kernel_rfl) (by kernel_rfl) (a0Z (F:=F) (f:=16) (args:=.cons (.var 0) .nil) (a2c (by kernel_rfl) (by kernel_rfl)) r1)
 have st1:Store.set [(0,.val (.str ⟨l.toArray⟩ g)),(17,.val (.str ⟨#[m1,m2]⟩ g2)),(18,.val (.bool false))] 0 (.val (.bytes L8.toArray))=[(0,.val (.bytes L8.toArray)),(17,.val (.str ⟨#[m1,m2]⟩ g2)),(18,.val (.bool false))]:=by kernel_rfl
 rw [st1] at s1
 have nm1:NM [(0,.val (.bytes L8.toArray)),(17,.val (.str ⟨#[m1,m2]⟩ g2)),(18,.val (.bool false))]:=((NM.nil.cons (fun _=>by simp)).cons (fun _=>by simp)).cons (fun _=>by simp)
 have t:evT F [(0,.val (.bytes L8.toArray)),(17,.val (.str ⟨#[m1,m2]⟩ g2)),(18,.val (.bool false))] (.cmp .IsNot (.var 17) .none)=some true:=by kernel_rfl
 have s2:=a0s (F:=F) (fuel:=fuel) (k:=17) nm1 (by kernel_rfl) (by kernel_rfl) (a0Z (F:=F) (f:=16) (args:=.cons (.var 17) .nil) (a2c (by kernel_rfl) (by kernel_rfl)) r2)
 have st2:Store.set [(0,.val (.bytes L8.toArray)),(17,.val (.str ⟨#[m1,m2]⟩ g2)),(18,.val (.bool false))] 17 (.val (.bytes #[UInt8.ofNat m1,UInt8.ofNat m2]))=[(0,.val (.bytes L8.toArray)),(17,.val (.bytes #[UInt8.ofNat m1,UInt8.ofNat m2])),(18,.val (.bool false))]:=by kernel_rfl
 rw [st2] at s2
 have nm2:NM [(0,.val (.bytes L8.toArray)),(17,.val (.bytes #[UInt8.ofNat m1,UInt8.ofNat m2])),(18,.val (.bool false))]:=((NM.nil.cons (fun _=>by simp)).cons (fun _=>by simp)).cons (fun _=>by simp)
 have s3:evS F fuel [(0,.val (.bytes L8.toArray)),(17,.val (.bytes #[UInt8.ofNat m1,UInt8.ofNat m2])),(18,.val (.bool false))] (.assert (.cmp .Eq (.len (.var 17)) (.int 2)))=some (.next [(0,.val (.bytes L8.toArray)),(17,.val (.bytes #[UInt8.ofNat m1,UInt8.ofNat m2])),(18,.val (.bool false))]):=by kernel_rfl
 have e4:evE F [(0,.val (.bytes L8.toArray)),(17,.val (.bytes #[UInt8.ofNat m1,UInt8.ofNat m2])),(18,.val (.bool false))] (.btranslate (.var 0) (.var 17) (.bytes [43,47]))=some (.bytes (a3S L8 [UInt8.ofNat m1,UInt8.ofNat m2] [43,47]).toArray):=by
  have v0:evE F [(0,.val (.bytes L8.toArray)),(17,.val (.bytes #[UInt8.ofNat m1,UInt8.ofNat m2])),(18,.val (.bool false))] (.var 0)=some (.bytes L8.toArray):=by kernel_rfl
  have v17:evE F [(0,.val (.bytes L8.toArray)),(17,.val (.bytes #[UInt8.ofNat m1,UInt8.ofNat m2])),(18,.val (.bool false))] (.var 17)=some (.bytes #[UInt8.ofNat m1,UInt8.ofNat m2]):=by kernel_rfl
  show (evE F _ (.var 0)).bind _ = _
  exact a0b v0 (a0b v17 (a0b (a:=.bytes #[43,47]) rfl (a0b (a:=L8.toArray) rfl (a0b (a:=#[UInt8.ofNat m1,UInt8.ofNat m2]) rfl (a0b (a:=#[43,47]) rfl (a0n (d0t.mpr ⟨rfl,a0G (show L8.length≤16777216 from c9v hL8 (by decide))⟩)))))))
 have s4:=a0s (F:=F) (fuel:=fuel) (k:=0) nm2 (by kernel_rfl) (by kernel_rfl) e4
 have st4:Store.set [(0,.val (.bytes L8.toArray)),(17,.val (.bytes #[UInt8.ofNat m1,UInt8.ofNat m2])),(18,.val (.bool false))] 0 (.val (.bytes (a3S L8 [UInt8.ofNat m1,UInt8.ofNat m2] [43,47]).toArray))=[(0,.val (.bytes (a3S L8 [UInt8.ofNat m1,UInt8.ofNat m2] [43,47]).toArray)),(17,.val (.bytes #[UInt8.ofNat m1,UInt8.ofNat m2])),(18,.val (.bool false))]:=by kernel_rfl
 rw [st4] at s4
 generalize (a3S L8 [UInt8.ofNat m1,UInt8.ofNat m2] [43,47]).toArray=TB at *
 refine (a0c s1).trans ((a0c ((a0U t).trans ((a0c s2).trans ((a0c s3).trans ((a0c s4).trans rfl))))).trans ?_)
 refine a2u (by kernel_rfl) ?_
 have hf:freezeAll [(0,.val (.bytes TB)),(17,.val (.bytes #[UInt8.ofNat m1,UInt8.ofNat m2])),(18,.val (.bool false))]=[(0,.val (.bytes TB)),(17,.val (.bytes #[UInt8.ofNat m1,UInt8.ofNat m2])),(18,.val (.bool false))]:=by kernel_rfl
 rw [hf]
 have v0:a2V F [(0,.val (.bytes TB)),(17,.val (.bytes #[UInt8.ofNat m1,UInt8.ofNat m2])),(18,.val (.bool false))] (.cons (.var 0) .nil)=some [.bytes TB]:=by kernel_rfl
 have v18:evK F [(0,.val (.bytes TB)),(17,.val (.bytes #[UInt8.ofNat m1,UInt8.ofNat m2])),(18,.val (.bool false))] (.yes (.var 18))=some (some (.bool false)):=by kernel_rfl
 show (a2V F _ _).bind _ = _
 exact a0b v0 (a0b v18 r3)
end
section
noncomputable def c7I (r:Rdr)(k:Nat):List Nat:=(b3j r.way k).map (trN r.m1 r.m2)
noncomputable def a2H (r:Rdr)(k:Nat):List Nat:=((c7I r k).map a4l).filter (·<64)
noncomputable def pfx:List Nat→List Nat→Bool
 | [],_=>true
 | _ :: _,[]=>false
 | a :: r,b :: q=>a==b&&pfx r q
noncomputable def b5U (r:Rdr):Bool:=
 (c1S.all fun k=>(c7I r k).all fun c=>decide (c<128)&&c != 61)&&a2H r 65==[0]&&(a0D.all fun k=>(a2H r k).length==b1T r k) &&
 (let cs:=a0D.map fun k=>(k,a2H r k)
  cs.all fun p=>p.2.isEmpty||cs.all fun q=>p.1==q.1||q.2.isEmpty||!(pfx p.2 q.2))
theorem c1Z:((List.range 5).all fun w=>a3j.all fun m1=>a3j.all fun m2=>b5U ⟨w,m1,m2⟩)=true:=by decide +kernel
theorem c2a {r:Rdr}(h:r.Ok):b5U r=true:=
 c9Q.mp (c9Q.mp (c9Q.mp c1Z r.way (c9R.mpr h.way)) r.m1 h.m1) r.m2 h.m2
structure CodeFacts (r:Rdr):Prop where
 ok:∀ k∈c1S,∀ c∈c7I r k,c<128∧c≠61
 pad:a2H r 65=[0]
 len:∀ k∈a0D,(a2H r k).length=b1T r k
 free:∀ a∈a0D,∀ b∈a0D,a≠b→0<b1T r a→0<b1T r b→pfx (a2H r a) (a2H r b)=false
theorem a2e {r:Rdr}(h:r.Ok):CodeFacts r:=by
 have hc:=c2a h
 unfold b5U at hc
 simp only [c9z,c9Q,d0M,bne_iff_ne,c9s] at hc
 obtain⟨⟨⟨h1,h2⟩,h3⟩,h4⟩:=hc
 refine⟨h1,h2,h3,fun a ha b hb hne la lb=>?_⟩
 have h5:=h4 (a,a2H r a) (d0Q.mpr ⟨a,ha,rfl⟩)
 rw [Bool.or_eq_true] at h5
 have ea:(a2H r a).isEmpty=false:=by
  have:=h3 a ha
  cases hq:a2H r a with
  | nil=>rw [hq] at this;simp at this;lia
  | cons _ _=>rfl
 rcases h5 with h5 | h5
 ·simp only [ea] at h5;cases h5
 ·rw [c9Q] at h5
  have h6:=h5 (b,a2H r b) (d0Q.mpr ⟨b,hb,rfl⟩)
  have eb:(a2H r b).isEmpty=false:=by
   have:=h3 b hb
   cases hq:a2H r b with
   | nil=>rw [hq] at this;simp at this;lia
   | cons _ _=>rfl
  simp only [eb,Bool.or_false,Bool.or_eq_true,c9s,Bool.not_eq_true'] at h6
  rcases h6 with h6 | h6
  ·exact absurd h6 hne
  ·exact h6
theorem b8y {r:Rdr}{k v:Nat}(h:v∈a2H r k):v<64:=by
 have:=(d0W.mp h).2
 simpa using this
noncomputable def a3k:List Nat→List Nat
 | a :: b :: c :: d :: r=>(a*4+b / 16) :: ((b % 16)*16+c / 4) :: ((c % 4)*64+d) :: a3k r
 | _=>[]
theorem a9N:∀ (n:Nat) (vs:List Nat) (out:List Nat),vs.length=4*n→vs.foldl S6.next ⟨0,0,out⟩=⟨0,0,out++a3k vs⟩
 | 0,vs,out,h=>by
  obtain rfl:vs=[]:=d0U.mp h
  simp [a3k]
 | n+1,vs,out,h=>by
  match vs,h with
  | a :: b :: c :: d :: r,h=>
   have ih:=a9N n r (out++[a*4+b / 16]++[(b % 16)*16+c / 4]++[(c % 4)*64+d]) (by simp at h;lia)
   simp only [d0L,S6.next]
   rw [ih]
   simp [a3k]
  | [],h=>simp at h
  | [_],h=>simp at h;lia
  | [_,_],h=>simp at h;lia
  | [_,_,_],h=>simp at h;lia
theorem b3m (l:List Nat):a1U l=((l.map a4l).filter (·<64)).foldl S6.next ⟨0,0,[]⟩:=by
 unfold a1U
 generalize (⟨0,0,[]⟩:S6)=s
 induction l generalizing s with
 | nil=>rfl
 | cons c l ih=>
  rw [d0L,d0K,d0S,ih]
  unfold S6.take
  by_cases h:a4l c<64
  ·rw [c9r h,c9r (by simpa using h),d0L]
  ·rw [c9t h,c9t (by simpa using h)]
theorem a6K:∀ (n:Nat) (a b:List Nat),a.length=4*n→a3k (a++b)=a3k a++a3k b
 | 0,a,b,h=>by
  obtain rfl:a=[]:=d0U.mp h
  simp [a3k]
 | n+1,vs,e,h=>by
  match vs,h with
  | a :: b :: c :: d :: r,h=>
   have ih:=a6K n r e (by simp at h;lia)
   simp only [List.cons_append,a3k,ih]
  | [],h=>simp at h
  | [_],h=>simp at h;lia
  | [_,_],h=>simp at h;lia
  | [_,_,_],h=>simp at h;lia
theorem a4P:∀ (n:Nat) (a:List Nat),a.length=4*n→(a3k a).length=3*n
 | 0,a,h=>by
  obtain rfl:a=[]:=d0U.mp h
  simp [a3k]
 | n+1,vs,h=>by
  match vs,h with
  | a :: b :: c :: d :: r,h=>
   have ih:=a4P n r (by simp at h;lia)
   simp only [a3k,d0d,ih];lia
  | [],h=>simp at h
  | [_],h=>simp at h;lia
  | [_,_],h=>simp at h;lia
  | [_,_,_],h=>simp at h;lia
theorem b2c:∀ (n:Nat) (a b:List Nat),a.length=4*n→b.length=4*n→(∀ x∈a,x<64)→(∀ x∈b,x<64)→a3k a=a3k b→a=b
 | 0,a,b,h,h',_,_,_=>by rw [d0U.mp h,d0U.mp h']
 | n+1,vs,ws,h,h',l1,l2,e=>by
  match vs,ws,h,h' with
  | a :: b :: c :: d :: r,a' :: b' :: c' :: d' :: r',h,h'=>
   simp only [a3k,List.cons.injEq] at e
   obtain⟨e1,e2,e3,e4⟩:=e
   have ha:=l1 a (by simp);have hb:=l1 b (by simp);have hc:=l1 c (by simp);have hd:=l1 d (by simp)
   have ha':=l2 a' (by simp);have hb':=l2 b' (by simp);have hc':=l2 c' (by simp);have hd':=l2 d' (by simp)
   have ih:=b2c n r r' (by simp at h;lia) (by simp at h';lia) (fun x hx=>l1 x (by simp [hx])) (fun x hx=>l2 x (by simp [hx])) e4
   obtain rfl:a=a':=by lia
   obtain rfl:b=b':=by lia
   obtain rfl:c=c':=by lia
   obtain rfl:d=d':=by lia
   rw [ih]
  | [],_,h,_=>simp at h
  | [_],_,h,_=>simp at h;lia
  | [_,_],_,h,_=>simp at h;lia
  | [_,_,_],_,h,_=>simp at h;lia
  | _,[],_,h=>simp at h
  | _,[_],_,h=>simp at h;lia
  | _,[_,_],_,h=>simp at h;lia
  | _,[_,_,_],_,h=>simp at h;lia
theorem b8z:∀ a:List Nat,pfx a a=true
 | []=>rfl
 | x :: r=>by simp [pfx,b8z r]
theorem b9w:∀ {a b u v:List Nat},a++u=b++v→pfx a b=true∨pfx b a=true
 | [],b,_,_,_=>.inl rfl
 | x :: a,[],_,_,_=>.inr rfl
 | x :: a,y :: b,u,v,h=>by
  simp at h
  rcases b9w h.2 with q | q
  ·left;simp [pfx,h.1,q]
  ·right;simp [pfx,h.1,q]
theorem a9O {c:Nat→List Nat}{S:Nat→Prop}(hne:∀ i,S i→c i≠[])(hfree:∀ i j,S i→S j→i≠j→pfx (c i) (c j)=false):∀ {u v:List Nat},(∀ i∈u,S i)→(∀ i∈v,S i)→u.flatMap c=v.flatMap c→u=v
 | [],[],_,_,_=>rfl
 | [],j :: v,_,h2,h=>by
  rw [d1a] at h
  exact absurd (List.append_eq_nil_iff.mp h.symm).1 (hne j (h2 j (.head _)))
 | i :: u,[],h1,_,h=>by
  rw [d1a] at h
  exact absurd (List.append_eq_nil_iff.mp h).1 (hne i (h1 i (.head _)))
 | i :: u,j :: v,h1,h2,h=>by
  rw [d1a,d1a] at h
  have:i=j:=by
   by_cases e:i=j
   ·exact e
   ·rcases b9w h with q | q
    ·rw [hfree i j (h1 i (.head _)) (h2 j (.head _)) e] at q;cases q
    ·rw [hfree j i (h2 j (.head _)) (h1 i (.head _)) fun q=>e q.symm] at q;cases q
  subst this
  rw [a9O hne hfree (fun k hk=>h1 k (.tail _ hk)) (fun k hk=>h2 k (.tail _ hk)) (List.append_cancel_left h)]
end
section
open LA (nl graphs a1k)
theorem b0T:(LA.bags.all fun w=>((LA.textsW w).all fun t=>t.isPerm w)&&Nat.ble (LA.textsW w).length 60&&Nat.ble 1 (LA.textsW w).length)=true:=by decide +kernel
theorem a2R {w:List Nat}(hw:w∈LA.bags){t:List Nat}(h:t∈LA.textsW w):t.Perm w:=List.isPerm_iff.mp (c9Q.mp (a0h (a0h (c9Q.mp b0T w hw)).1).1 t h)
theorem a1m {w:List Nat}(hw:w∈LA.bags):(LA.textsW w).length≤60∧1≤(LA.textsW w).length:=⟨c9B (a0h (a0h (c9Q.mp b0T w hw)).1).2,c9B (a0h (c9Q.mp b0T w hw)).2⟩
theorem a3G {w:List Nat}(hw:w∈LA.bags){t:List Nat}(h:t∈LA.textsW w):t.length=5∧∀ k∈t,k<4:=⟨(a2R hw h).length_eq.trans (a1i hw).2,fun k hk=>(a1i hw).1 k ((a2R hw h).mem_iff.mp hk)⟩
noncomputable def b6u (sig:Nat→Nat)(w:List Nat)(r:Rdr):Nat:=(w.map fun j=>b1T r (sig j)).sum
noncomputable def padN (sig:Nat→Nat)(w:List Nat)(r:Rdr):Nat:=(4 - b6u sig w r % 4) % 4
noncomputable def a1C (sig:Nat→Nat)(w:List Nat)(r:Rdr):Nat:=(b6u sig w r+padN sig w r) / 4
theorem b0U {w:List Nat}(hw:w∈LA.bags)(sig:Nat→Nat)(r:Rdr):b6u sig w r≤20:=by
 have:=a9G (f:=fun j=>b1T r (sig j)) (l:=w) (k:=4) fun j _=>a8B r _
 rw [(a1i hw).2] at this
 exact this
theorem c2b:((List.range 21).all fun n=>(n+(4 - n % 4) % 4==4*((n+(4 - n % 4) % 4) / 4)&&Nat.blt ((4 - n % 4) % 4) 4)&&(-(n:Int)).fmod 4==(((4 - n % 4) % 4:Nat):Int))=true:=by kernel_rfl
theorem b5V {w:List Nat}(hw:w∈LA.bags)(sig:Nat→Nat)(r:Rdr):(((b6u sig w r+padN sig w r==4*a1C sig w r)&&Nat.blt (padN sig w r) 4)&&(-(b6u sig w r:Int)).fmod 4==(padN sig w r:Int))=true:=c9Q.mp c2b (b6u sig w r) (c9R.mpr (Nat.lt_succ_of_le (b0U hw sig r)))
theorem a5N {w:List Nat}(hw:w∈LA.bags)(sig:Nat→Nat)(r:Rdr):b6u sig w r+padN sig w r=4*a1C sig w r∧padN sig w r<4:=⟨c9K (a0h (a0h (b5V hw sig r)).1).1,c9B (a0h (a0h (b5V hw sig r)).1).2⟩
noncomputable def Vt (sig:Nat→Nat)(w:List Nat)(r:Rdr)(t:List Nat):List Nat:=(t.flatMap fun j=>a2H r (sig j))++List.replicate (padN sig w r) 0
theorem b2d {c:Nat→List Nat}:∀ {t:List Nat},(t.flatMap c).length=(t.map fun j=>(c j).length).sum
 | []=>rfl
 | a :: t=>by rw [d1a,d0D,d0K,d0e,b2d]
theorem a7z {sig:Nat→Nat}(hS:SigOk sig){r:Rdr}(C:CodeFacts r){w:List Nat}(hw:w∈LA.bags){t:List Nat}(h:t∈LA.textsW w):(Vt sig w r t).length=4*a1C sig w r:=by
 unfold Vt
 rw [d0D,List.length_replicate,b2d,← (a5N hw sig r).1]
 congr 1
 rw [((a2R hw h).map fun j=>(a2H r (sig j)).length).sum_nat]
 exact c9o List.sum (d0R fun j hj=>C.len _ (hS.mem j ((a1i hw).1 j hj)))
theorem c2c {sig:Nat→Nat}{w:List Nat}{r:Rdr}{t:List Nat}:∀ v∈Vt sig w r t,v<64:=fun v hv=>by
 unfold Vt at hv
 rcases d0v.mp hv with hv | hv
 ·refine (List.mem_flatMap.mp hv).elim fun j Z1=>Z1.elim (fun _ hj=>?_)
  exact b8y hj
 ·have:=List.eq_of_mem_replicate hv;lia
noncomputable def a4m (sig:Nat→Nat)(w:List Nat)(p:Nat):List Nat:=(LA.textsW w).flatMap fun t=>t.map sig++List.replicate p 65
theorem a5p {sig:Nat→Nat}(hS:SigOk sig){w:List Nat}(hw:w∈LA.bags){p:Nat}:∀ k∈a4m sig w p,k∈c1S:=fun k hk=>by
 refine (List.mem_flatMap.mp hk).elim fun t Z1=>Z1.elim (fun ht hk=>?_)
 rcases d0v.mp hk with hk | hk
 ·refine (d0Q.mp hk).elim fun j Z1=>Z1.elim (fun hj Z2=>?_)
  subst Z2
  exact d0u _ (hS.mem j ((a3G hw ht).2 j hj))
 ·rw [List.eq_of_mem_replicate hk];exact .head _
theorem b5W {sig:Nat→Nat}{w:List Nat}(hw:w∈LA.bags){p:Nat}(hp:p<4):(a4m sig w p).length≤480:=by
 have:=a1A (l:=LA.textsW w) (f:=fun t=>t.map sig++List.replicate p 65) (k:=8) fun t ht=>by
  rw [d0D,d0a,List.length_replicate,(a3G hw ht).1];lia
 exact c9v this (Nat.mul_le_mul_right 8 (a1m hw).1)
theorem b3n {sig:Nat→Nat}{w:List Nat}{r:Rdr}(C:CodeFacts r):((((a4m sig w (padN sig w r)).flatMap (b3j r.way)).map (trN r.m1 r.m2)).map a4l).filter (·<64)=(LA.textsW w).flatMap (Vt sig w r):=by
 have h1:∀ l:List Nat,(((l.flatMap (b3j r.way)).map (trN r.m1 r.m2)).map a4l).filter (·<64)=l.flatMap (a2H r):=fun l=>by
  induction l with
  | nil=>rfl
  | cons a l ih=>rw [d1a,d0Y,d0Y,List.filter_append,ih,d1a];rfl
 rw [h1]
 unfold a4m Vt
 rw [List.flatMap_assoc]
 congr 1
 funext t
 rw [d1b]
 congr 1
 ·rw [List.flatMap_map]
 ·generalize padN sig w r=p
  induction p with
  | zero=>rfl
  | succ p ih=>rw [List.replicate_succ,List.replicate_succ,d1a,ih,C.pad];rfl
theorem a9P {sig:Nat→Nat}(hS:SigOk sig){r:Rdr}(C:CodeFacts r){w:List Nat}(hw:w∈LA.bags):∀ {ts:List (List Nat)},(∀ t∈ts,t∈LA.textsW w)→a3k (ts.flatMap (Vt sig w r))=ts.flatMap (fun t=>a3k (Vt sig w r t))∧(ts.flatMap (Vt sig w r)).length=4*(ts.length*a1C sig w r)
 | [],_=>by simp [a3k]
 | t :: ts,h=>by
  refine (a9P hS C hw (ts:=ts) fun x hx=>h x (.tail _ hx)).elim fun h1 h2=>?_
  have hl:=a7z hS C hw (h t (.head _))
  rw [d1a,d1a,a6K _ _ _ hl,h1,d0D,hl,h2,d0d]
  refine⟨rfl,?_⟩
  rw [← Nat.mul_add,Nat.add_mul,Nat.one_mul,Nat.add_comm]
theorem b5X {sig:Nat→Nat}(hS:SigOk sig){r:Rdr}(C:CodeFacts r){w:List Nat}(hw:w∈LA.bags):a1U (((a4m sig w (padN sig w r)).flatMap (b3j r.way)).map (trN r.m1 r.m2))=⟨0,0,(LA.textsW w).flatMap fun t=>a3k (Vt sig w r t)⟩:=by
 refine (a9P hS C hw (ts:=LA.textsW w) fun t h=>h).elim fun h1 h2=>?_
 rw [b3m,b3n C,a9N _ _ _ h2,h1]
 rfl
noncomputable def b5Y (sig:Nat→Nat)(w:List Nat)(r:Rdr):Array UInt8:=byteArr (((LA.textsW w).flatMap fun t=>a3k (Vt sig w r t)).map fun (n:Nat)=>(n:Int))
theorem b3o {fuel m:Nat}{sig:Nat→Nat}(hS:SigOk sig){r:Rdr}(hr:r.Ok){w:List Nat}(hw:w∈LA.bags){g g2:Bool}:∃ x,runG ids a0p fuel (m+3) 64 [.int (r.way:Int),.str ⟨(a4m sig w (padN sig w r)).toArray⟩ g] none=some x∧runG ids a0p fuel (m+3) 63 [x,.str ⟨#[r.m1,r.m2]⟩ g2] none=some (.bytes (b5Y sig w r)):=by
 have C:=a2e hr
 have hp:=(a5N hw sig r).2
 have hsl:=b5W (sig:=sig) hw hp
 refine (b0S (fuel:=fuel) (m:=m+1) (g:=g) hr.way (by lia) (a5p hS hw (p:=padN sig w r))).elim fun g' e=>?_
 refine⟨_,e,?_⟩
 have hm:∀ x∈a3j,x<128:=by decide
 have hrun:=b5X hS C hw
 have hok:∀ c∈(a4m sig w (padN sig w r)).flatMap (b3j r.way),c<128∧trN r.m1 r.m2 c≠61:=fun c hc=>by
  refine (List.mem_flatMap.mp hc).elim fun k Z1=>Z1.elim (fun hk hc=>?_)
  refine (C.ok k (a5p hS hw k hk) (trN r.m1 r.m2 c) (d0Q.mpr ⟨c,hc,rfl⟩)).elim fun q1 q2=>?_
  refine⟨?_,q2⟩
  unfold trN at q1
  split at q1
  ·rename_i h;have:=hm _ hr.m2;lia
  ·split at q1
   ·rename_i h;have:=hm _ hr.m1;lia
   ·exact q1
 have hlen:((a4m sig w (padN sig w r)).flatMap (b3j r.way)).length≤100000:=by
  have hc:=c9Q.mp b5N r.way (c9R.mpr hr.way)
  simp only [c9z,c9Q,d0M] at hc
  have:=a1A (l:=a4m sig w (padN sig w r)) (f:=b3j r.way) (k:=6) fun k hk=>by
   have:=hc.2 (a2z.getD r.way []).length (c9R.mpr (by lia)) k (a5p hS hw k hk)
   rw [List.take_length] at this
   exact this
  lia
 have d:=b3l (fuel:=fuel) (m:=m) (g:=g') (g2:=g2) (hm _ hr.m1) (hm _ hr.m2) hok hlen (by rw [hrun])
 rw [hrun] at d
 exact d
end
section
noncomputable def a0K (l:List Nat):Array UInt8:=byteArr (l.map fun (n:Nat)=>(n:Int))
theorem a3e (l:List Nat):(a0K l).toList=l.map fun n=>n.toUInt8:=by
 unfold a0K byteArr
 rw [d0k]
 rfl
theorem a8C (a b:List Nat):a0K a++a0K b=a0K (a++b):=by
 unfold a0K byteArr
 rw [d0Y,d0Y,List.append_toArray]
theorem a4n (l:List Nat):(a0K l).size=l.length:=by simp [a0K,byteArr]
theorem c5l {α β:Type}{f:α→List β}{s:Nat}(d:α):∀ {ts:List α} {k:Nat},(∀ t∈ts,(f t).length=s)→k<ts.length→((ts.flatMap f).drop (k*s)).take s=f (ts.getD k d)
 | [],_,_,h=>by simp at h
 | t :: ts,0,h,_=>by
  rw [d1a,Nat.zero_mul,List.drop_zero,List.take_append_of_le_length (by rw [h t (.head _)];lia),List.take_of_length_le (by rw [h t (.head _)];lia)]
  rfl
 | t :: ts,k+1,h,hk=>by
  have ih:=c5l d (ts:=ts) (k:=k) (fun x hx=>h x (.tail _ hx)) (by simpa using hk)
  rw [d1a,Nat.add_mul,Nat.one_mul,Nat.add_comm (k*s) s,← List.drop_drop,← h t (.head _),List.drop_left,h t (.head _),ih]
  simp
theorem b8A {p:Nat}(h:p<4):a2U .Mult (.str ⟨#[65]⟩) (.int (p:Int))=some (.str ⟨(List.replicate p 65).toArray⟩):=by
 obtain rfl | rfl | rfl | rfl:p=0∨p=1∨p=2∨p=3:=by lia
 all_goals kernel_rfl
theorem b2e {f:Nat→Nat}:∀ l:List Nat,(l.map fun j=>((f j:Nat):Int)).sum=(((l.map f).sum:Nat):Int)
 | []=>rfl
 | a :: r=>by rw [d0K,d0K,d0e,d0e,b2e r];rfl
section
variable {F:Fns}{fuel:Nat}{σ:Store}{sig:Nat→Nat}{w:List Nat}{acc:List Nat→List Nat}
noncomputable def a1d (w:List Nat)(acc:List Nat→List Nat):D:=.list ((LA.textsW w).map fun t=>.bytes (a0K (acc t)))
structure TT (sig:Nat→Nat)(w:List Nat)(σ:Store)(acc:List Nat→List Nat):Prop where
 nm:NM σ
 g51:σ.get 51=some (.val (rnd sig (w,false)))
 g50:σ.get 50=some (.val (a0A sig w))
 g59:σ.get 59=some (.val (a1d w acc))
theorem TT.set (h:TT sig w σ acc){x:Nat}{d:D}(h1:51≠x)(h2:50≠x)(h3:59≠x):TT sig w (σ.set x (.val d)) acc:=
 ⟨h.nm.val,(a0d h1).trans h.g51,(a0d h2).trans h.g50,(a0d h3).trans h.g59⟩
noncomputable def c7J:PE:=.sum (.comp [44] (.call 49 (.cons (.var 44) (.cons (.var 42) .nil)) .no) (.one 42) (.var 51) .nil .nil)
noncomputable def c5m:PE:=.bin .Mult (.str ⟨#[65]⟩) (.bin .Mod (.neg c7J) (.int 4))
noncomputable def c5n:PE:=.join (.str ⟨#[]⟩) (.comp [60] (.bin .Add (.var 33) (.var 60)) (.one 33) (.var 50) .nil .nil)
noncomputable def c8B:PE:=.call 63 (.cons (.call 64 (.cons (.idx (.var 44) (.int 0)) (.cons (.var 61) .nil)) .no) (.cons (.idx (.var 44) (.int 1)) .nil)) .no
noncomputable def c5o:PE:=.bin .FloorDiv (.len (.var 62)) (.len (.var 50))
noncomputable def c7K:PE:=.comp [59,62,41] (.bin .Add (.idx (.var 59) (.var 28)) (.slice (.var 62) (.yes (.bin .Mult (.var 28) (.var 41))) (.yes (.bin .Add (.bin .Mult (.var 28) (.var 41)) (.var 41))))) (.one 28) (.range1 (.len (.var 50))) .nil .nil
noncomputable def b5Z:List PS:=[.asg 60 false c5m,.asg 61 false c5n,.asg 62 false c8B,.asg 41 false c5o,.asg 59 false c7K]
theorem c5p {m:Nat}(hF:F=runG ids a0p fuel (m+1))(hS:SigOk sig)(hw:w∈LA.bags){r:Rdr}(hr:r.Ok)(h44:σ.get 44=some (.val (a2d r)))(h51:σ.get 51=some (.val (rnd sig (w,false)))):evE F σ c7J=some (.int (b6u sig w r:Int)):=by
 have e:evE F σ (.comp [44] (.call 49 (.cons (.var 44) (.cons (.var 42) .nil)) .no) (.one 42) (.var 51) .nil .nil)=some (.list ((w.map fun j=>(b1T r (sig j):Int)).map .int)):=by
  rw [d0k]
  refine a1w (xs:=w) (f:=fun j=>rnd sig ([j],true)) (σ₀:=[(44,.val (a2d r))]) ?_ (a1z h44 nofun) (fun j hj=>?_) (by rw [(a1i hw).2];decide)
  ·exact a1e h51 (a1n hS.lt)
  ·have hj:=(a1i hw).1 j hj
   have lr:=b0Q (fuel:=fuel) (m:=m) (g:=true) hr (hS.mem j hj)
   rw [← hF] at lr
   exact⟨[(44,.val (a2d r)),(42,.val (rnd sig ([j],true)))],by kernel_rfl,by kernel_rfl,a0Z (F:=F) (f:=49) (a2x (x:=a2d r) (y:=rnd sig ([j],true)) (by kernel_rfl) (by kernel_rfl) (by kernel_rfl) (by kernel_rfl)) lr⟩
 have:=c4W e (by rw [d0a,(a1i hw).2];decide) (fun i hi=>by
  refine (d0Q.mp hi).elim fun j Z1=>Z1.elim (fun _ Z2=>?_)
  subst Z2
  have:=a8B r (sig j)
  rw [d1c]
  exact c9D this (by decide))
 unfold c7J
 rw [this]
 congr 2
 unfold b6u
 exact b2e w
theorem c2d (hw:w∈LA.bags){p:Nat}(hp:p<4)(h60:σ.get 60=some (.val (.str ⟨(List.replicate p 65).toArray⟩)))(h50:σ.get 50=some (.val (a0A sig w))):evE F σ c5n=some (.str ⟨(a4m sig w p).toArray⟩):=by
 have e:evE F σ (.comp [60] (.bin .Add (.var 33) (.var 60)) (.one 33) (.var 50) .nil .nil)=some (.list ((LA.textsW w).map fun t=>.str ⟨(t.map sig++List.replicate p 65).toArray⟩ false)):=by
  refine a1w (xs:=LA.textsW w) (f:=fun t=>rnd sig (t,false)) (σ₀:=[(60,.val (.str ⟨(List.replicate p 65).toArray⟩))]) (a1e h50 rfl) (a1z h60 nofun) (fun t ht=>?_) (c9v (a1m hw).1 (by decide))
  refine⟨[(60,.val (.str ⟨(List.replicate p 65).toArray⟩)),(33,.val (rnd sig (t,false)))],by kernel_rfl,by kernel_rfl,a0q (x:=rnd sig (t,false)) (y:=.str ⟨(List.replicate p 65).toArray⟩) (by kernel_rfl) (by kernel_rfl) (a2w ?_)⟩
  rw [d0a,List.length_replicate,(a3G hw ht).1]
  lia
 refine a5L (f:=fun (t:List Nat)=>t.map sig++List.replicate p 65) (fl:=fun _=>false) e ?_
 rw [d0k]
 refine c9v (a9G (k:=8) fun t ht=>?_) (c9v (Nat.mul_le_mul_right 8 (a1m hw).1) (by decide))
 show (t.map sig++List.replicate p 65).length≤8
 rw [d0D,d0a,List.length_replicate,(a3G hw ht).1]
 lia
theorem b6a {m:Nat}(hF:F=runG ids a0p fuel (m+3))(hS:SigOk sig)(hw:w∈LA.bags){r:Rdr}(hr:r.Ok)(I:TT sig w σ acc)(h44:σ.get 44=some (.val (a2d r)))(hacc:∀ t∈LA.textsW w,(acc t).length≤1000) :
  ∃ σ',a0y F fuel σ b5Z=some (.next σ')∧TT sig w σ' fun t=>acc t++a3k (Vt sig w r t):=by
 have C:=a2e hr
 refine (a5N hw sig r).elim fun q1 q2=>?_
 have hlets:=b0U hw sig r
 refine (a1m hw).elim fun hn60 hn1=>?_
 have ef:evE F σ c5m=some (.str ⟨(List.replicate (padN sig w r) 65).toArray⟩):=by
  refine a0q a1o (a0q (a7v (c5p (m:=m+2) hF hS hw hr h44 I.g51)) a0u (a3Z (by decide))) ?_
  have:(-(b6u sig w r:Int)).fmod 4=(padN sig w r:Int):=c9K (a0h (b5V hw sig r)).2
  rw [this]
  exact b8A q2
 have s1:=a0s (F:=F) (fuel:=fuel) (k:=60) I.nm (by kernel_rfl) (by kernel_rfl) ef
 have I₁:=I.set (x:=60) (d:=.str ⟨(List.replicate (padN sig w r) 65).toArray⟩) (by decide) (by decide) (by decide)
 have k44:(σ.set 60 (.val (.str ⟨(List.replicate (padN sig w r) 65).toArray⟩))).get 44 = _:=(a0d (by decide)).trans h44
 have k60:(σ.set 60 (.val (.str ⟨(List.replicate (padN sig w r) 65).toArray⟩))).get 60=some (.val (.str ⟨(List.replicate (padN sig w r) 65).toArray⟩)):=a0o
 generalize σ.set 60 (.val (.str ⟨(List.replicate (padN sig w r) 65).toArray⟩))=σ₁ at *
 have s2:=a0s (F:=F) (fuel:=fuel) (k:=61) I₁.nm (by kernel_rfl) (by kernel_rfl) (c2d (F:=F) hw q2 k60 I₁.g50)
 have I₂:=I₁.set (x:=61) (d:=.str ⟨(a4m sig w (padN sig w r)).toArray⟩) (by decide) (by decide) (by decide)
 have k44₂:(σ₁.set 61 (.val (.str ⟨(a4m sig w (padN sig w r)).toArray⟩))).get 44 = _:=(a0d (by decide)).trans k44
 have k61₂:(σ₁.set 61 (.val (.str ⟨(a4m sig w (padN sig w r)).toArray⟩))).get 61=some (.val (.str ⟨(a4m sig w (padN sig w r)).toArray⟩)):=a0o
 generalize σ₁.set 61 (.val (.str ⟨(a4m sig w (padN sig w r)).toArray⟩))=σ₂ at *
 refine (b3o (fuel:=fuel) (m:=m) hS hr hw (g:=false) (g2:=false)).elim fun x Z1=>Z1.elim (fun r64 r63=>?_)
 rw [← hF] at r64 r63
 have eo:evE F σ₂ c8B=some (.bytes (b5Y sig w r)):=by
  refine a0Z (a2x (by kernel_rfl) (by kernel_rfl) (a0Z (a2x (by kernel_rfl) (a0t k61₂) (a1D (a0i k44₂) (y:=.int 0) a0u rfl) (a0i k61₂)) r64) (a1D (a0i k44₂) (y:=.int 1) a0u rfl)) r63
 have s3:=a0s (F:=F) (fuel:=fuel) (k:=62) I₂.nm (by kernel_rfl) (by kernel_rfl) eo
 have I₃:=I₂.set (x:=62) (d:=.bytes (b5Y sig w r)) (by decide) (by decide) (by decide)
 have k62₃:(σ₂.set 62 (.val (.bytes (b5Y sig w r)))).get 62=some (.val (.bytes (b5Y sig w r))):=a0o
 generalize σ₂.set 62 (.val (.bytes (b5Y sig w r)))=σ₃ at *
 have hq4:a1C sig w r≤6:=by lia
 have hblk:∀ t∈LA.textsW w,(a3k (Vt sig w r t)).length=3*a1C sig w r:=fun t ht=>a4P _ _ (a7z hS C hw ht)
 have hsz:(b5Y sig w r).size=(LA.textsW w).length*(3*a1C sig w r):=by
  show (a0K _).size = _
  rw [a4n,List.length_flatMap]
  have:(LA.textsW w).map (fun j=>(a3k (Vt sig w r j)).length)=(LA.textsW w).map fun _=>3*a1C sig w r:=d0R fun t ht=>hblk t ht
  rw [this]
  generalize LA.textsW w=ps
  induction ps with
  | nil=>simp
  | cons a l ih=>rw [d0K,d0e,d0d,ih,Nat.add_mul];lia
 generalize hN:(LA.textsW w).length=N at *
 have hN3:N*(3*a1C sig w r)≤60*18:=Nat.mul_le_mul hn60 (by lia)
 have len50:∀ {σ:Store},σ.get 50=some (.val (a0A sig w))→evE F σ (.len (.var 50))=some (.int (N:Int)):=fun h=>a3Y (n:=N) (a0i h) (c9o some ((d0a ..).trans hN)) (by lia)
 have es:evE F σ₃ c5o=some (.int ((3*a1C sig w r:Nat):Int)):=by
  refine a0q (a3Y (n:=N*(3*a1C sig w r)) (a0i k62₃) (c9o some hsz) (by lia)) (len50 I₃.g50) ((a5m (by lia) ?_).trans ?_)
  ·rw [d1c]
   exact c9D hn60 (by decide)
  ·congr 2
   rw [Int.fdiv_eq_ediv_of_nonneg _ (c9Z _),Int.natCast_mul,Int.mul_ediv_cancel_left _ (by lia)]
 have s4:=a0s (F:=F) (fuel:=fuel) (k:=41) I₃.nm (by kernel_rfl) (by kernel_rfl) es
 have I₄:=I₃.set (x:=41) (d:=.int ((3*a1C sig w r:Nat):Int)) (by decide) (by decide) (by decide)
 have k62₄:(σ₃.set 41 (.val (.int ((3*a1C sig w r:Nat):Int)))).get 62 = _:=(a0d (by decide)).trans k62₃
 have k41₄:(σ₃.set 41 (.val (.int ((3*a1C sig w r:Nat):Int)))).get 41=some (.val (.int ((3*a1C sig w r:Nat):Int))):=a0o
 generalize σ₃.set 41 (.val (.int ((3*a1C sig w r:Nat):Int)))=σ₄ at *
 have en:evE F σ₄ c7K=some (a1d w fun t=>acc t++a3k (Vt sig w r t)):=by
  have:=a1w (F:=F) (σ:=σ₄) (fv:=[59,62,41]) (elt:=.bin .Add (.idx (.var 59) (.var 28)) (.slice (.var 62) (.yes (.bin .Mult (.var 28) (.var 41))) (.yes (.bin .Add (.bin .Mult (.var 28) (.var 41)) (.var 41))))) (t:=.one 28) (iter:=.range1 (.len (.var 50)))
   (xs:=List.range N) (f:=fun (k:Nat)=>.int (k:Int)) (g:=fun k=>.bytes (a0K (acc ((LA.textsW w).getD k [])++a3k (Vt sig w r ((LA.textsW w).getD k []))))) (σ₀:=[(59,.val (a1d w acc)),(62,.val (.bytes (b5Y sig w r))),(41,.val (.int ((3*a1C sig w r:Nat):Int)))])
   (a1T (len50 I₄.g50) (by lia)) (a6H I₄.g59 k62₄ k41₄) (fun k hk=>?_) (by rw [d0b];lia)
  ·unfold c7K a1d
   rw [this]
   have e:LA.textsW w=(List.range N).map fun k=>(LA.textsW w).getD k []:=by
    refine List.ext_getElem (by rw [d0a,d0b,hN]) fun i h1 h2=>?_
    rw [List.getElem_map,List.getElem_range,c9S,c9T h1,Option.getD_some]
   conv=>rhs;rw [e,d0k]
   rfl
  ·have hk:=c9R.mp hk
   generalize hσ:[(59,Slot.val (a1d w acc)),(62,.val (.bytes (b5Y sig w r))),(41,.val (.int ((3*a1C sig w r:Nat):Int))),(28,.val (.int (k:Int)))]=σ₅
   refine⟨σ₅,by subst hσ;kernel_rfl,by kernel_rfl,?_⟩
   have v59:evE F σ₅ (.var 59)=some (a1d w acc):=by subst hσ;kernel_rfl
   have v62:evE F σ₅ (.var 62)=some (.bytes (b5Y sig w r)):=by subst hσ;kernel_rfl
   have v41:evE F σ₅ (.var 41)=some (.int ((3*a1C sig w r:Nat):Int)):=by subst hσ;kernel_rfl
   have v28:evE F σ₅ (.var 28)=some (.int (k:Int)):=by subst hσ;kernel_rfl
   have hkq:k*(3*a1C sig w r)≤60*18:=Nat.mul_le_mul (by lia) (by lia)
   have m1:evE F σ₅ (.bin .Mult (.var 28) (.var 41))=some (.int ((k*(3*a1C sig w r):Nat):Int)):=by
    refine a0q v28 v41 ((b5z (b:=10) (c:=10) (by rw [d1c];have:(2:Nat) ^ 10=1024:=rfl;lia) (by rw [d1c];have:(2:Nat) ^ 10=1024:=rfl;lia) (by decide)).trans ?_)
    congr 2
   have m2:evE F σ₅ (.bin .Add (.bin .Mult (.var 28) (.var 41)) (.var 41))=some (.int ((k*(3*a1C sig w r)+3*a1C sig w r:Nat):Int)):=by
    refine a0q m1 v41 ?_
    rfl
   have hlt:(LA.textsW w).getD k []∈LA.textsW w:=a1x (by rw [hN];exact hk)
   have hle:k*(3*a1C sig w r)+3*a1C sig w r≤N*(3*a1C sig w r):=by
    have:(k+1)*(3*a1C sig w r)≤N*(3*a1C sig w r):=Nat.mul_le_mul_right _ (by lia)
    rw [Nat.add_mul,Nat.one_mul] at this;exact this
   have sl:evE F σ₅ (.slice (.var 62) (.yes (.bin .Mult (.var 28) (.var 41))) (.yes (.bin .Add (.bin .Mult (.var 28) (.var 41)) (.var 41))))=some (.bytes (a0K (a3k (Vt sig w r ((LA.textsW w).getD k []))))):=by
    refine a1y v62 (a2v m1) (a2v m2) (a1r (by lia)) (a1r (by lia)) ?_
    rw [b8c (by lia),b5t (by lia) (by rw [Array.length_toList,hsz];exact hle)]
    congr 2
    have h1:(b5Y sig w r).toList=((LA.textsW w).flatMap fun t=>a3k (Vt sig w r t)).map fun n=>n.toUInt8:=a3e _
    rw [h1,← List.map_drop,← List.map_take,Nat.add_sub_cancel_left,c5l [] hblk (by rw [hN];exact hk),← a3e]
   have ix:evE F σ₅ (.idx (.var 59) (.var 28))=some (.bytes (a0K (acc ((LA.textsW w).getD k [])))):=by
    refine a1D v59 v28 (a3A ?_ (by rw [d0a,hN];lia))
    rw [d0s,c9T (by rw [hN];exact hk),Option.map_some,c9S,c9T (by rw [hN];exact hk),Option.getD_some]
   refine a0q ix sl ?_
   have h1:=hacc _ hlt
   have h2:=hblk _ hlt
   exact (a0n (x:=some (D.bytes (a0K (acc ((LA.textsW w).getD k []))++a0K (a3k (Vt sig w r ((LA.textsW w).getD k [])))))) (a0G (by rw [a4n,a4n];lia))).trans (c9o (fun b=>some (D.bytes b)) (a8C _ _))
 have s5:=a0s (F:=F) (fuel:=fuel) (k:=59) I₄.nm (by kernel_rfl) (by kernel_rfl) en
 refine⟨_,(a0c s1).trans ((a0c s2).trans ((a0c s3).trans ((a0c s4).trans ((a0c s5).trans rfl)))),⟨I₄.nm.val,(a0d (by decide)).trans I₄.g51,(a0d (by decide)).trans I₄.g50,a0o⟩⟩
noncomputable def a1p (sig:Nat→Nat)(w:List Nat)(rs:List Rdr)(t:List Nat):List Nat:=rs.flatMap fun r=>a3k (Vt sig w r t)
theorem b3p (hS:SigOk sig)(hw:w∈LA.bags){r:Rdr}(hr:r.Ok){t:List Nat}(ht:t∈LA.textsW w):(a3k (Vt sig w r t)).length≤18:=by
 rw [a4P _ _ (a7z hS (a2e hr) hw ht)]
 refine (a5N hw sig r).elim fun q1 q2=>?_
 have:=b0U hw sig r
 lia
theorem b8B {m:Nat}{rs:List Rdr}(hS:SigOk sig)(hw:w∈LA.bags)(hr:∀ r∈rs,r.Ok)(hl:rs.length≤4):runG ids a0p fuel (m+4) 84 [.list (rs.map a2d),rnd sig (w,false),a0A sig w] none=some (a1d w (a1p sig w rs)):=by
 refine a1W (df:=⟨84,[36,51,50],[],[],a7t⟩) rfl (by decide) (by decide) rfl rfl rfl ?_
 generalize hF:runG ids a0p fuel (m+3)=F
 show a0y F fuel [(36,.val (.list (rs.map a2d))),(51,.val (rnd sig (w,false))),(50,.val (a0A sig w))] [.asg 59 false (.comp [] (.bytes []) (.one 33) (.var 50) .nil .nil),.for (.one 44) (.var 36) b5Z,.ret (.var 59)] = _
 have e1:evE F [(36,.val (.list (rs.map a2d))),(51,.val (rnd sig (w,false))),(50,.val (a0A sig w))] (.comp [] (.bytes []) (.one 33) (.var 50) .nil .nil)=some (a1d w (a1p sig w [])):=by
  refine a1w (xs:=LA.textsW w) (f:=fun t=>rnd sig (t,false)) (σ₀:=[]) (by kernel_rfl) (by kernel_rfl) (fun t ht=>?_) (c9v (a1m hw).1 (by decide))
  exact⟨[(33,.val (rnd sig (t,false)))],by kernel_rfl,by kernel_rfl,by kernel_rfl⟩
 have nm0:NM [(36,.val (.list (rs.map a2d))),(51,.val (rnd sig (w,false))),(50,.val (a0A sig w))]:=NM.vals [(36,.list (rs.map a2d)),(51,rnd sig (w,false)),(50,a0A sig w)]
 have s1:=a0s (F:=F) (fuel:=fuel) (k:=59) nm0 (by kernel_rfl) (by kernel_rfl) e1
 have st1:Store.set [(36,.val (.list (rs.map a2d))),(51,.val (rnd sig (w,false))),(50,.val (a0A sig w))] 59 (.val (a1d w (a1p sig w [])))=[(36,.val (.list (rs.map a2d))),(51,.val (rnd sig (w,false))),(50,.val (a0A sig w)),(59,.val (a1d w (a1p sig w [])))]:=by kernel_rfl
 rw [st1] at s1
 rw [a0c s1]
 let body:Store→D→Option Out:=fun σ d=>(a0P σ (.one 44) d).bind fun σ'=>a0y F fuel σ' b5Z
 obtain⟨σ',e,I'⟩:=a1f (body:=body) (f:=a2d) (all:=rs) (σ:=[(36,.val (.list (rs.map a2d))),(51,.val (rnd sig (w,false))),(50,.val (a0A sig w)),(59,.val (a1d w (a1p sig w [])))]) (fun done σ=>TT sig w σ (a1p sig w done))
  ⟨NM.vals [(36,.list (rs.map a2d)),(51,rnd sig (w,false)),(50,a0A sig w),(59,a1d w (a1p sig w []))],by kernel_rfl,by kernel_rfl,by kernel_rfl⟩ fun done r rest σ hd I=>by
   have hrm:r∈rs:=by rw [← hd];simp
   have hdl:done.length≤4:=by have:=c9o List.length hd;simp at this;lia
   have hdr:∀ x∈done,x∈rs:=fun x hx=>by rw [← hd];exact d0x _ hx
   have hb:body σ (a2d r)=a0y F fuel (σ.set 44 (.val (a2d r))) b5Z:=by
    show ((a0P σ (.one 44) _).bind fun σ'=>a0y F fuel σ' _) = _
    rw [a0V I.nm];rfl
   rw [hb]
   obtain⟨σ',e,I'⟩:=b6a hF.symm hS hw (hr r hrm) (I.set (x:=44) (d:=a2d r) (by decide) (by decide) (by decide)) a0o fun t ht=>by
    have:=a1A (l:=done) (f:=fun r=>a3k (Vt sig w r t)) (k:=18) fun x hx=>b3p hS hw (hr x (hdr x hx)) ht
    show (done.flatMap fun r=>a3k (Vt sig w r t)).length≤1000
    lia
   refine⟨σ',.inl e,?_⟩
   have:a1p sig w (done++[r])=fun t=>a1p sig w done t++a3k (Vt sig w r t):=by
    funext t
    unfold a1p
    rw [d1b]
    simp
   rw [this]
   exact I'
 have e':=a1E (F:=F) (fuel:=fuel) (t:=.one 44) (iter:=.var 36) (body:=b5Z) (σ:=[(36,.val (.list (rs.map a2d))),(51,.val (rnd sig (w,false))),(50,.val (a0A sig w)),(59,.val (a1d w (a1p sig w [])))]) (by kernel_rfl) (by kernel_rfl) e
 rw [a0c e']
 have f59:=a0H I'.g59 (s':=.val (a1d w (a1p sig w rs))) rfl
 exact a2u (a0t f59) (a0i f59)
end
end
section
open LA (nl graphs a1k prj)
theorem a4o {w:List Nat}(hw:w∈LA.bags){t:List Nat}(h:t∈LA.textsW w):∀ j∈t,j<4:=(a3G hw h).2
theorem c2e {a b:Nat}(ha:a<4)(hb:b<4)(h:a≠b):(a,b)∈a1k∨(b,a)∈a1k:=by
 rcases or2 (c9Q.mp (c9Q.mp a9I a (c9R.mpr ha)) b (c9R.mpr hb)) with q | q
 ·exact absurd (c9K q) h
 ·exact (or2 q).imp d0J.mp d0J.mp
theorem a5O {i j a:Nat}{u:List Nat}(h:a=i∨a=j):prj i j (a :: u)=a :: prj i j u:=by
 unfold prj
 rw [d0S,c9r (by rw [d0F,c9s,c9s];exact h)]
theorem b2f:∀ {u v:List Nat},u.Perm v→(∀ c∈u,c<4)→(∀ q∈a1k,q.1∈u→q.2∈u→prj q.1 q.2 u=prj q.1 q.2 v)→u=v
 | [],v,hp,_,_=>(List.nil_perm.mp hp).symm
 | a :: u,[],hp,_,_=>absurd hp.length_eq (Nat.succ_ne_zero _)
 | a :: u,b :: v,hp,h4,h=>by
  have hb:b∈a :: u:=hp.mem_iff.mpr (.head _)
  have e:a=b:=by
   refine Classical.byContradiction fun hne=>?_
   rcases c2e (h4 a (.head _)) (h4 b hb) hne with q | q
   ·have:=h _ q (.head _) hb
    rw [a5O (.inl rfl),a5O (.inr rfl)] at this
    exact hne (List.cons.inj this).1
   ·have:=h _ q hb (.head _)
    rw [a5O (.inr rfl),a5O (.inl rfl)] at this
    exact hne (List.cons.inj this).1
  subst e
  rw [b2f (List.Perm.cons_inv hp) (fun c hc=>h4 c (.tail _ hc)) fun q hq h1 h2=>?_]
  have:=h q hq (.tail _ h1) (.tail _ h2)
  unfold prj at this ⊢
  rw [d0S,d0S] at this
  cases hc:(a==q.1||a==q.2) with
  | true=>rw [hc,c9r rfl,c9r rfl] at this;exact (List.cons.inj this).2
  | false=>rw [hc,c9t c9p,c9t c9p] at this;exact this
theorem a3P {i j:Nat}{p:Nat→Bool}(hi:p i=true)(hj:p j=true)(t:List Nat):prj i j (t.filter p)=prj i j t:=by
 unfold prj
 rw [List.filter_filter]
 refine List.filter_congr fun c _=>?_
 cases h1:c==i with
 | true=>rw [c9K h1,hi];rfl
 | false=>
  cases h2:c==j with
  | true=>rw [c9K h2,hj];rfl
  | false=>rfl
theorem a7A (p:Nat→Bool){w:List Nat}(hw:w∈LA.bags){t t':List Nat}(h:t∈LA.textsW w)(h':t'∈LA.textsW w):t.filter p=t'.filter p↔∀ q∈a1k,p q.1=true→p q.2=true→prj q.1 q.2 t=prj q.1 q.2 t':=by
 constructor
 ·intro e q _ h1 h2
  rw [← a3P h1 h2 t,e,a3P h1 h2 t']
 ·intro k
  refine b2f (((a2R hw h).trans (a2R hw h').symm).filter p) (fun c hc=>a4o hw h c (d0W.mp hc).1) fun q hq h1 h2=>?_
  have h1:=(d0W.mp h1).2
  have h2:=(d0W.mp h2).2
  rw [a3P h1 h2,a3P h1 h2]
  exact k q hq h1 h2
section
variable {sig:Nat→Nat}{r:Rdr}{w:List Nat}
theorem a6L (hS:SigOk sig)(C:CodeFacts r):∀ {t:List Nat},(∀ j∈t,j<4)→t.flatMap (fun j=>a2H r (sig j))=(t.filter (a5M sig r)).flatMap fun j=>a2H r (sig j)
 | [],_=>rfl
 | j :: t,h=>by
  have ih:=a6L hS C (t:=t) fun x hx=>h x (.tail _ hx)
  have hl:=C.len _ (hS.mem j (h j (.head _)))
  rw [d1a,d0S]
  cases hq:a5M sig r j with
  | true=>rw [c9r rfl,d1a,ih]
  | false=>
   have:a2H r (sig j)=[]:=by
    unfold a5M at hq
    rw [decide_eq_false_iff_not] at hq
    exact d0U.mp (by lia)
   rw [this];simpa using ih
theorem b9x (hS:SigOk sig)(hr:r.Ok)(hw:w∈LA.bags){t t':List Nat}(h:t∈LA.textsW w)(h':t'∈LA.textsW w):Vt sig w r t=Vt sig w r t'↔t.filter (a5M sig r)=t'.filter (a5M sig r):=by
 have C:=a2e hr
 unfold Vt
 rw [a6L hS C (a4o hw h),a6L hS C (a4o hw h')]
 constructor
 ·intro e
  have e:=List.append_cancel_right e
  refine a9O (c:=fun j=>a2H r (sig j)) (S:=fun j=>j<4∧a5M sig r j=true) (fun j hj q=>?_) (fun i j hi hj hne=>?_) (fun j hj=>?_) (fun j hj=>?_) e
  ·have hl:=C.len _ (hS.mem j hj.1)
   have hs:=hj.2
   unfold a5M at hs
   rw [d0M] at hs
   rw [q] at hl
   simp at hl
   lia
  ·have h1:=hi.2
   have h2:=hj.2
   unfold a5M at h1 h2
   rw [d0M] at h1 h2
   exact C.free _ (hS.mem i hi.1) _ (hS.mem j hj.1) (fun q=>hne (hS.inj i j hi.1 hj.1 q)) h1 h2
  ·exact⟨a4o hw h j (d0W.mp hj).1,(d0W.mp hj).2⟩
  ·exact⟨a4o hw h' j (d0W.mp hj).1,(d0W.mp hj).2⟩
 ·intro e;rw [e]
theorem b2g (hS:SigOk sig)(hw:w∈LA.bags):∀ {rs:List Rdr},(∀ r∈rs,r.Ok)→∀ {t t':List Nat},t∈LA.textsW w→t'∈LA.textsW w→(a1p sig w rs t=a1p sig w rs t'↔∀ r∈rs,Vt sig w r t=Vt sig w r t')
 | [],_,t,t',_,_=>by simp [a1p]
 | r :: rs,hr,t,t',h,h'=>by
  have ih:=b2g hS hw (rs:=rs) (fun x hx=>hr x (.tail _ hx)) h h'
  have C:=a2e (hr r (.head _))
  have l1:=a7z hS C hw h
  have l2:=a7z hS C hw h'
  show a3k (Vt sig w r t)++a1p sig w rs t=a3k (Vt sig w r t')++a1p sig w rs t'↔_
  constructor
  ·intro e
   refine (List.append_inj e (by rw [a4P _ _ l1,a4P _ _ l2])).elim fun e1 e2=>?_
   intro x hx
   rcases c9U.mp hx with rfl | hx
   ·exact b2c _ _ _ l1 l2 c2c c2c e1
   ·exact ih.mp e2 x hx
  ·intro e
   rw [e r (.head _),ih.mpr fun x hx=>e x (.tail _ hx)]
theorem b8C (hS:SigOk sig){rs:List Rdr}(hr:∀ r∈rs,r.Ok)(hw:w∈LA.bags){t t':List Nat}(h:t∈LA.textsW w)(h':t'∈LA.textsW w):a1p sig w rs t=a1p sig w rs t'↔LA.keyK (a0l sig rs) t=LA.keyK (a0l sig rs) t':=by
 rw [b2g hS hw hr h h',LA.key_iff (a6I sig rs) (a3G hw h).1 (a3G hw h').1 (a4o hw h) (a4o hw h')]
 have hz:a1k.zip (a0l sig rs)=a1k.map fun q=>(q,nlR sig rs q.1 q.2):=rfl
 rw [hz]
 constructor
 ·intro e p hp hq
  refine (d0Q.mp hp).elim fun q Z1=>Z1.elim (fun hqm Z2=>?_)
  subst Z2
  have hq:nlR sig rs q.1 q.2=true:=hq
  unfold nlR at hq
  refine (List.any_eq_true.mp hq).elim fun r Z1=>Z1.elim (fun hrm hs=>?_)
  rw [c9z] at hs
  exact (a7A _ hw h h').mp ((b9x hS (hr r hrm) hw h h').mp (e r hrm)) q hqm hs.1 hs.2
 ·intro e r hrm
  rw [b9x hS (hr r hrm) hw h h',a7A _ hw h h']
  intro q hqm a b
  refine e (q,nlR sig rs q.1 q.2) (d0Q.mpr ⟨q,hqm,rfl⟩) ?_
  show nlR sig rs q.1 q.2=true
  unfold nlR
  exact List.any_eq_true.mpr ⟨r,hrm,by rw [a,b];rfl⟩
end
theorem b6b:∀ (n:Nat) (a:List Nat),a.length=4*n→(∀ x∈a,x<64)→∀ x∈a3k a,x<256
 | 0,a,h,_=>by
  obtain rfl:a=[]:=d0U.mp h
  simp [a3k]
 | n+1,vs,h,l=>by
  match vs,h with
  | a :: b :: c :: d :: r,h=>
   have ih:=b6b n r (by simp at h;lia) fun x hx=>l x (by simp [hx])
   have ha:=l a (by simp);have hb:=l b (by simp);have hc:=l c (by simp);have hd:=l d (by simp)
   intro x hx
   simp only [a3k,c9U] at hx
   rcases hx with rfl | rfl | rfl | hx
   ·lia
   ·lia
   ·lia
   ·exact ih x hx
  | [],h=>simp at h
  | [_],h=>simp at h;lia
  | [_,_],h=>simp at h;lia
  | [_,_,_],h=>simp at h;lia
theorem b3q {a b:List Nat}(ha:∀ x∈a,x<256)(hb:∀ x∈b,x<256)(h:(a0K a).toList=(a0K b).toList):a=b:=by
 rw [a3e,a3e] at h
 induction a generalizing b with
 | nil=>cases b with
  | nil=>rfl
  | cons _ _=>simp at h
 | cons x a ih=>cases b with
  | nil=>simp at h
  | cons y b=>
   simp only [d0K,List.cons.injEq] at h
   have hx:=ha x (.head _)
   have hy:=hb y (.head _)
   have:x=y:=by
    have:=c9o UInt8.toNat h.1
    simp at this
    lia
   rw [this,ih (fun z hz=>ha z (.tail _ hz)) (fun z hz=>hb z (.tail _ hz)) h.2]
theorem b6c {sig:Nat→Nat}(hS:SigOk sig){rs:List Rdr}(hr:∀ r∈rs,r.Ok){w:List Nat}(hw:w∈LA.bags){t:List Nat}(h:t∈LA.textsW w):∀ x∈a1p sig w rs t,x<256:=fun x hx=>by
 refine (List.mem_flatMap.mp hx).elim fun r Z1=>Z1.elim (fun hrm hx=>?_)
 exact b6b _ _ (a7z hS (a2e (hr r hrm)) hw h) c2c x hx
theorem a9Q {sig:Nat→Nat}(hS:SigOk sig){rs:List Rdr}(hr:∀ r∈rs,r.Ok){w:List Nat}(hw:w∈LA.bags){t t':List Nat}(h:t∈LA.textsW w)(h':t'∈LA.textsW w) :
  (a0K (a1p sig w rs t)).toList=(a0K (a1p sig w rs t')).toList↔LA.keyK (a0l sig rs) t=LA.keyK (a0l sig rs) t':=by
 rw [← b8C hS hr hw h h']
 exact⟨b3q (b6c hS hr hw h) (b6c hS hr hw h'),fun e=>by rw [e]⟩
end
section
open LA (keyK a3z textsW)
theorem b0V {g:List Bool}:∀ {l acc:List (List Nat)},∀ t∈a3z g l acc,t∈acc∨t∈l
 | [],acc,t,h=>.inl h
 | a :: r,acc,t,h=>by
  have h:t∈a3z g r (bif acc.any fun u=>keyK g u==keyK g a then acc else acc++[a]):=h
  rcases b0V t h with q | q
  ·cases hq:acc.any fun u=>keyK g u==keyK g a with
   | true=>rw [hq] at q;exact .inl q
   | false=>
    rw [hq] at q
    rcases d0v.mp q with q | q
    ·exact .inl q
    ·exact .inr (d0i.mp q ▸ .head _)
  ·exact .inr (.tail _ q)
theorem b8D {g:List Bool}{l:List (List Nat)}{t:List Nat}:a3z g (l++[t]) []=bif (a3z g l []).any fun u=>keyK g u==keyK g t then a3z g l [] else a3z g l []++[t]:=by
 unfold a3z
 rw [List.foldl_append]
 rfl
theorem a8D {g:List Bool}:∀ {l acc:List (List Nat)},(a3z g l acc).length≤acc.length+l.length
 | [],acc=>c9n _
 | a :: r,acc=>by
  have h:=a8D (g:=g) (l:=r) (acc:=bif acc.any fun u=>keyK g u==keyK g a then acc else acc++[a])
  refine c9v h ?_
  cases acc.any fun u=>keyK g u==keyK g a with
  | true=>exact d0m (c9A _) _
  | false=>show (acc++[a]).length+r.length≤acc.length+(r.length+1);rw [d0D,d0Z];lia
noncomputable def a3H (sig:Nat→Nat)(w:List Nat)(rs:List Rdr)(l:List (List Nat)):List D:=l.map fun t=>.bytes (a0K (a1p sig w rs t))
section
variable {F:Fns}{fuel:Nat}{σ:Store}{sig:Nat→Nat}{w:List Nat}{rs:List Rdr}
theorem b9y (hS:SigOk sig)(hr:∀ r∈rs,r.Ok)(hw:w∈LA.bags){t:List Nat}(ht:t∈textsW w){l:List (List Nat)}(hl:∀ u∈l,u∈textsW w):inD (.bytes (a0K (a1p sig w rs t))) (.list (a3H sig w rs l))=some (l.any fun u=>keyK (a0l sig rs) u==keyK (a0l sig rs) t):=by
 show Option.map _ (List.mapM D.asBytes (a3H sig w rs l)) = _
 refine a1c (a1b (f:=D.asBytes) (e:=fun t=>D.bytes (a0K (a1p sig w rs t))) (g:=fun t=>a0K (a1p sig w rs t)) fun _ _=>rfl) ?_
 rw [c9P,List.any_eq_true,List.any_eq_true]
 constructor
 ·intro h
  refine h.elim fun y Z1=>Z1.elim (fun hy e=>?_)
  refine (d0Q.mp hy).elim fun u Z1=>Z1.elim (fun hu Z2=>?_)
  subst Z2
  exact⟨u,hu,c9s.mpr ((a9Q hS hr hw (hl u hu) ht).mp (c9K e))⟩
 ·intro h
  refine h.elim fun u Z1=>Z1.elim (fun hu e=>?_)
  exact⟨_,d0Q.mpr ⟨u,hu,rfl⟩,c9s.mpr ((a9Q hS hr hw (hl u hu) ht).mpr (c9K e))⟩
structure PU' (sig:Nat→Nat)(w:List Nat)(rs:List Rdr)(σ:Store)(l:List (List Nat)):Prop where
 nm:NM σ
 g65:σ.get 65=some (.own (a3H sig w rs l))
theorem b3r {m:Nat}(hS:SigOk sig)(hr:∀ r∈rs,r.Ok)(hw:w∈LA.bags):runG ids a0p fuel (m+1) 85 [a1d w (a1p sig w rs)] none=some (.list (a3H sig w rs (a3z (a0l sig rs) (textsW w) []))):=by
 refine a1W (df:=⟨85,[59],[],[],a5x⟩) rfl (by decide) (by decide) rfl rfl rfl ?_
 generalize hF:runG ids a0p fuel m=F
 show a0y F fuel [(59,.val (a1d w (a1p sig w rs)))] [.asg 65 true (.list .nil),.for (.one 46) (.var 59) [.ifs (.cmp .NotIn (.var 46) (.var 65)) [.app 65 (.var 46)] []],.ret (.var 65)] = _
 have s1:evS F fuel [(59,.val (a1d w (a1p sig w rs)))] (.asg 65 true (.list .nil))=some (.next [(59,.val (a1d w (a1p sig w rs))),(65,.own [])]):=by kernel_rfl
 rw [a0c s1]
 let body:Store→D→Option Out:=fun σ d=>(a0P σ (.one 46) d).bind fun σ'=>a0y F fuel σ' [.ifs (.cmp .NotIn (.var 46) (.var 65)) [.app 65 (.var 46)] []]
 have nm0:NM [(59,.val (a1d w (a1p sig w rs))),(65,.own [])]:=(NM.nil.cons (s:=.own []) (x:=65) nofun).cons nofun
 obtain⟨σ',e,I'⟩:=a1f (body:=body) (f:=fun t=>D.bytes (a0K (a1p sig w rs t))) (all:=textsW w) (σ:=[(59,.val (a1d w (a1p sig w rs))),(65,.own [])]) (fun done σ=>PU' sig w rs σ (a3z (a0l sig rs) done []))
  ⟨nm0,by kernel_rfl⟩ fun done t rest σ hd I=>by
   have ht:t∈textsW w:=by rw [← hd];simp
   have hdone:∀ u∈done,u∈textsW w:=fun u hu=>by rw [← hd];exact d0x _ hu
   have hdl:done.length≤60:=by have:=c9o List.length hd;have h60:=(a1m hw).1;simp at this;lia
   have hacc:=a8D (g:=a0l sig rs) (l:=done) (acc:=[])
   have hb:body σ (.bytes (a0K (a1p sig w rs t)))=a0y F fuel (σ.set 46 (.val (.bytes (a0K (a1p sig w rs t))))) [.ifs (.cmp .NotIn (.var 46) (.var 65)) [.app 65 (.var 46)] []]:=by
    show ((a0P σ (.one 46) _).bind fun σ'=>a0y F fuel σ' _) = _
    rw [a0V I.nm];rfl
   rw [hb]
   have k46:(σ.set 46 (.val (.bytes (a0K (a1p sig w rs t))))).get 46=some (.val (.bytes (a0K (a1p sig w rs t)))):=a0o
   have k65:(σ.set 46 (.val (.bytes (a0K (a1p sig w rs t))))).get 65 = _:=(a0d (by decide)).trans I.g65
   have nm:=I.nm.val (x:=46) (d:=.bytes (a0K (a1p sig w rs t)))
   generalize σ.set 46 (.val (.bytes (a0K (a1p sig w rs t))))=σ₁ at *
   have hin:=b9y hS hr hw ht (l:=a3z (a0l sig rs) done []) fun u hu=>(b0V u hu).elim (fun h=>absurd h List.not_mem_nil) (hdone u)
   have hifs:=a0U (F:=F) (fuel:=fuel) (A:=[.app 65 (.var 46)]) (B:=[]) (a0Q (op:=.NotIn) (a0i k46) (a6F k65) (a1c hin rfl))
   rw [b8D]
   cases hq:(a3z (a0l sig rs) done []).any fun u=>keyK (a0l sig rs) u==keyK (a0l sig rs) t with
   | true=>
    rw [hq] at hifs
    exact⟨σ₁,.inl ((a0c hifs).trans rfl),nm,k65⟩
   | false=>
    rw [hq] at hifs
    have ap:=a9F (F:=F) (fuel:=fuel) (k:=65) k65 (a0i k46) (a0t k46) (by unfold a3H;rw [d0a];simp at hacc;lia)
    have hifs':=hifs.trans ((a0c ap).trans rfl)
    refine⟨_,.inl ((a0c hifs').trans rfl),nm.own,?_⟩
    rw [a0o]
    unfold a3H
    rw [cond_false,d0Y]
    rfl
 have e':=a1E (F:=F) (fuel:=fuel) (t:=.one 46) (iter:=.var 59) (body:=[.ifs (.cmp .NotIn (.var 46) (.var 65)) [.app 65 (.var 46)] []]) (σ:=[(59,.val (a1d w (a1p sig w rs))),(65,.own [])]) (by kernel_rfl) (by kernel_rfl) e
 rw [a0c e']
 have f65:=a0H I'.g65 (s':=.val (.list (a3H sig w rs (a3z (a0l sig rs) (textsW w) [])))) rfl
 exact a2u (a0t f65) (a0i f65)
end
end
section
section
open StrLaws Builtin Builtin.Str
theorem a6M (s:Str)(c hi limit:Nat):∀ (n a free:Nat) (found:Array Nat),free≤a→found.size+n≤limit →
  (forIn (List.range' a n) (found,free) (occBody s ⟨#[c]⟩ hi limit)).run.fst.size=found.size+(List.range' a n).countP fun i=>decide (i+(⟨#[c]⟩:Str).length≤hi∧subAt s ⟨#[c]⟩ i=true)
 | 0,a,free,found,h,hl=>rfl
 | n+1,a,free,found,h,hl=>by
  rw [List.range'_succ,List.forIn_cons,List.countP_cons]
  by_cases hc:a+(⟨#[c]⟩:Str).length≤hi∧subAt s ⟨#[c]⟩ a=true
  ·have e:occBody s ⟨#[c]⟩ hi limit a (found,free)=pure (ForInStep.yield (found.push a,a+1)):=c9r ⟨⟨⟨show found.size<limit by lia,h⟩,hc.1⟩,hc.2⟩
   rw [e,c9r (d0G hc)]
   have:=a6M s c hi limit n (a+1) (a+1) (found.push a) (c9n _) (by rw [Array.size_push];lia)
   rw [Array.size_push] at this
   refine Eq.trans this ?_
   lia
  ·have e:occBody s ⟨#[c]⟩ hi limit a (found,free)=pure (ForInStep.yield (found,free)):=c9t fun q=>hc ⟨q.1.2,q.2⟩
   rw [e,c9t (by rw [c9Y hc];exact c9p)]
   exact a6M s c hi limit n (a+1) free found (Nat.le_succ_of_le h) (by lia)
theorem b2h (c k:Nat):∀ l:List Nat,((List.range (l.length+k)).countP fun i=>l[i]?==some c)=l.count c
 | []=>List.countP_eq_zero.mpr fun i _=>by rw [List.getElem?_nil];exact c9p
 | b :: l=>by
  have ih:=b2h c k l
  rw [d0d,Nat.add_right_comm,List.range_succ_eq_map,List.countP_cons,List.countP_map,List.count_cons]
  refine congr (c9o HAdd.hAdd ?_) ?_
  ·exact ih
  ·by_cases q:b=c
   ·rw [q];simp
   ·simp [q]
theorem b6d (x:Str)(c:Nat):Txt.count x ⟨#[c]⟩=((x.cps.toList.count c:Nat):Int):=by
 show (((occurrences x ⟨#[c]⟩ 0 x.length (x.length+1)).length:Nat):Int) = _
 rw [occ_eq,Array.length_toList,a6M x c x.length (x.length+1) (x.length+1 - 0) 0 0 #[] (c9n _) (by simp)]
 congr 1
 rw [← b2h c 1 x.cps.toList,← List.range_eq_range']
 show 0+_ = _
 rw [d0E]
 have hl:x.length+1 - 0=x.cps.toList.length+1:=by rw [Array.length_toList];rfl
 rw [hl]
 refine List.countP_congr fun i _=>?_
 rw [decide_eq_true_iff,c9s]
 exact subAt_one x c i
end
theorem a5P {kv:List (Str×Int)}{k k':Str}{i:Int}:(dictSetD kv k i).lookup k'=if k'=k then some i else kv.lookup k':=by
 induction kv with
 | nil=>
  by_cases h:k'=k
  ·subst h;simp [dictSetD,List.lookup]
  ·have hb:(k'==k)=false:=by simpa using h
   simp [dictSetD,List.lookup,hb,h]
 | cons p r ih=>
  obtain⟨x,j⟩:=p
  unfold dictSetD
  by_cases hx:k=x
  ·subst hx
   rw [c9r (by simp)]
   by_cases h:k'=k
   ·subst h;simp [List.lookup]
   ·have hb:(k'==k)=false:=by simpa using h
    simp [List.lookup,hb,h]
  ·rw [c9t (by simpa using hx)]
   by_cases h:k'=x
   ·subst h
    rw [c9t (fun q=>hx q.symm)]
    simp [List.lookup]
   ·have hb:(k'==x)=false:=by simpa using h
    simp only [List.lookup,hb]
    exact ih
theorem b2i {kv:List (Str×Int)}{k:Str}{i:Int}:(dictSetD kv k i).length≤kv.length+1:=by
 induction kv with
 | nil=>simp [dictSetD]
 | cons p r ih=>
  unfold dictSetD
  split
  ·simp
  ·simp;lia
section
variable {F:Fns}{fuel:Nat}{sig:Nat→Nat}{σ:Store}
theorem a9R (hS:Sig sig){s:Nat}(hs:s<4):∀ {r:List Nat},(∀ x∈r,x<4)→(r.map sig).count (sig s)=r.count s
 | [],_=>rfl
 | a :: r,h=>by
  rw [d0K,List.count_cons,List.count_cons,a9R hS hs fun x hx=>h x (.tail _ hx)]
  by_cases q:a=s
  ·rw [q];simp
  ·have q':sig a≠sig s:=fun e=>q (hS.inj a s (h a (.head _)) hs e)
   simp [q,q']
theorem c2f (c:Nat){k:Nat}{g:Bool}(h:k≤5):a2U .Mult (.str ⟨#[c]⟩ g) (.int (k:Int))=some (.str ⟨(List.replicate k c).toArray⟩):=by
 obtain rfl | rfl | rfl | rfl | rfl | rfl:k=0∨k=1∨k=2∨k=3∨k=4∨k=5:=by lia
 all_goals kernel_rfl
theorem b8E {ea eb:PE}{x y:Str}{g g':Bool}(h1:evE F σ ea=some (.str x g))(h2:evE F σ eb=some (.str y g')):evE F σ (.count ea eb)=some (.int (Txt.count x y)):=by
 show (evE F σ ea).bind _ = _
 exact a0b h1 (a0b h2 (a0b (a:=x) rfl rfl))
end
end
section
open LA (lo a2G a3b)
noncomputable def a1F (sig:Nat→Nat)(l:List (List Nat)):List D:=l.map fun r=>rnd sig (r,false)
structure Small (n k:Nat)(l:List (List Nat)):Prop where
 len:l.length≤k
 each:∀ r∈l,r.length≤n∧∀ c∈r,c<4
section
variable {F:Fns}{fuel:Nat}{σ:Store}{sig:Nat→Nat}{w:List Nat}{g:List Bool}{loose:List D}{b:Bool}
noncomputable def eNo:PE:=.comp [42,45] (.var 46) (.one 46) (.var 74) (.cons (.cmp .NotIn (.bin .Add (.var 46) (.var 42)) (.var 45)) .nil) .nil
noncomputable def b6e:PE:=.bin .Add (.var 73) (.comp [42,45] (.bin .Add (.var 74) (.var 42)) (.one 74) (.var 73) (.cons (.cmp .Eq eNo (.list .nil)) .nil) .nil)
theorem c7L (hS:Sig sig)(HL:a2n sig (lo g) loose){s:Nat}(hs:s<4){r:List Nat}(hr:r.length≤10∧∀ c∈r,c<4) :
  evT F [(42,.val (rnd sig ([s],true))),(45,.val (.list loose)),(74,.val (rnd sig (r,false)))] (.cmp .Eq eNo (.list .nil))=some (r.all fun o=>lo g o s):=by
 have e:evE F [(42,.val (rnd sig ([s],true))),(45,.val (.list loose)),(74,.val (rnd sig (r,false)))] eNo=some (.list ((r.filter fun o=>!(lo g o s)).map fun o=>rnd sig ([o],true))):=by
  refine a0F (xs:=r) (f:=fun o=>rnd sig ([o],true)) (σ₀:=[(42,.val (rnd sig ([s],true))),(45,.val (.list loose))]) ?_ (by kernel_rfl) (fun o ho=>?_) (by lia)
  ·exact (by kernel_rfl:evI F [(42,.val (rnd sig ([s],true))),(45,.val (.list loose)),(74,.val (rnd sig (r,false)))] (.var 74)=a5B (rnd sig (r,false))).trans (a1n hS.lt)
  ·refine⟨[(42,.val (rnd sig ([s],true))),(45,.val (.list loose)),(46,.val (rnd sig ([o],true)))],by kernel_rfl,?_,fun _=>⟨by kernel_rfl,by kernel_rfl⟩⟩
   exact a3C (a0Q (op:=.NotIn) (x:=rnd sig ([o]++[s],false)) (y:=.list loose) (a0q (by kernel_rfl) (by kernel_rfl) (a3D (p:=([o],true)) (q:=([s],true)) (by simp))) (by kernel_rfl) (a1c (HL o s (hr.2 o ho) hs false) rfl))
 refine a0Q e (y:=.list []) (by kernel_rfl) (b1V.trans (c9o some ?_))
 rw [c9P]
 simp [List.filter_eq_nil_iff]
theorem c2g (hS:Sig sig)(HL:a2n sig (lo g) loose){s:Nat}(hs:s<4){rows:List (List Nat)}(hr:Small 4 100 rows)(h42:σ.get 42=some (.val (rnd sig ([s],true))))(h45:σ.get 45=some (.val (.list loose)))(h73:σ.get 73=some (.val (.list (a1F sig rows)))) :
  evE F σ b6e=some (.list (a1F sig (a2G g rows s))):=by
 have e:evE F σ (.comp [42,45] (.bin .Add (.var 74) (.var 42)) (.one 74) (.var 73) (.cons (.cmp .Eq eNo (.list .nil)) .nil) .nil)=some (.list ((rows.filter fun r=>r.all fun o=>lo g o s).map fun r=>rnd sig (r++[s],false))):=by
  refine a0F (xs:=rows) (f:=fun r=>rnd sig (r,false)) (σ₀:=[(42,.val (rnd sig ([s],true))),(45,.val (.list loose))]) (a1e h73 rfl) (a4N h42 h45 nofun nofun) (fun r hrm=>?_) (c9v hr.len (by decide))
  have k:=hr.each r hrm
  refine⟨[(42,.val (rnd sig ([s],true))),(45,.val (.list loose)),(74,.val (rnd sig (r,false)))],by kernel_rfl,a3C (c7L hS HL hs ⟨by lia,k.2⟩),fun _=>⟨by kernel_rfl,?_⟩⟩
  refine a0q (x:=rnd sig (r,false)) (y:=rnd sig ([s],true)) (by kernel_rfl) (by kernel_rfl) (a3D (p:=(r,false)) (q:=([s],true)) ?_)
  show r.length+1≤_
  lia
 refine a0q (a0i h73) e ((a9E ?_).trans ?_)
 ·have h1:=d0X (fun r=>r.all fun o=>lo g o s) rows
  have h2:=hr.len
  unfold a1F
  rw [d0a,d0a]
  lia
 ·unfold a1F a2G
  rw [d0Y,d0k]
  rfl
theorem a3I {n k:Nat}{rows:List (List Nat)}(h:Small n k rows){s:Nat}(hs:s<4):Small (n+1) (2*k) (a2G g rows s) where
 len:=by
  unfold a2G
  rw [d0D,d0a]
  have h1:=d0X (fun r=>r.all fun o=>lo g o s) rows
  have h2:=h.len
  lia
 each:=fun r hr=>by
  rcases d0v.mp hr with hr | hr
  ·exact⟨Nat.le_succ_of_le (h.each r hr).1,(h.each r hr).2⟩
  ·refine (d0Q.mp hr).elim fun r' Z1=>Z1.elim (fun hr' Z2=>?_)
   subst Z2
   have k:=h.each r' (d0W.mp hr').1
   refine⟨by rw [d0D,d0Z];lia,fun c hc=>(d0v.mp hc).elim (k.2 c) fun hc=>?_⟩
   rw [d0i.mp hc]
   exact hs
theorem a7B {n m k l:Nat}{L:List (List Nat)}(h:Small n k L)(h1:n≤m)(h2:k≤l):Small m l L:=⟨c9v h.len h2,fun r hr=>⟨c9v (h.each r hr).1 h1,(h.each r hr).2⟩⟩
theorem a4Q:Small 0 1 [[]]:=⟨c9n 1,fun r hr=>by rw [d0i.mp hr];exact⟨c9n 0,fun c hc=>absurd hc List.not_mem_nil⟩⟩
structure PM' (sig:Nat→Nat)(w:List Nat)(loose:List D)(b:Bool)(σ:Store)(rows:List (List Nat)):Prop where
 nm:NM σ
 g38:σ.get 38=some (.val (rnd sig ([0,1,2,3],b)))
 g51:σ.get 51=some (.val (rnd sig (w,false)))
 g45:σ.get 45=some (.val (.list loose))
 g73:σ.get 73=some (.val (.list (a1F sig rows)))
theorem PM'.set {rows:List (List Nat)}(h:PM' sig w loose b σ rows){x:Nat}{d:D}(h1:38≠x)(h2:51≠x)(h3:45≠x)(h4:73≠x):PM' sig w loose b (σ.set x (.val d)) rows:=
 ⟨h.nm.val,(a0d h1).trans h.g38,(a0d h2).trans h.g51,(a0d h3).trans h.g45,(a0d h4).trans h.g73⟩
theorem c7M {done rest all:List Nat}{x:Nat}(h:done++x :: rest=all):done=all.take done.length:=by rw [← h,List.take_left]
theorem b6f (hS:Sig sig)(HL:a2n sig (lo g) loose)(I:PM' sig w loose b σ [[]]):∃ σ',evS F fuel σ (.for (.one 42) (.var 38) [.asg 73 false b6e])=some (.next σ')∧PM' sig w loose b σ' (LA.rowsW g):=by
 let body:Store→D→Option Out:=fun σ d=>(a0P σ (.one 42) d).bind fun σ'=>a0y F fuel σ' [.asg 73 false b6e]
 obtain⟨σ',e,I',_⟩:=a1f (body:=body) (f:=fun s=>rnd sig ([s],true)) (all:=[0,1,2,3]) (σ:=σ) (fun done σ=>PM' sig w loose b σ (done.foldl (a2G g) [[]])∧Small done.length (2 ^ done.length) (done.foldl (a2G g) [[]]))
  ⟨I,a4Q⟩ fun done s rest σ hd ⟨I,T⟩=>by
   have hs:s<4:=a3F s (by rw [← hd];simp)
   have hdl:done.length≤3:=by have:=c9o List.length hd;simp at this;lia
   have hb:body σ (rnd sig ([s],true))=a0y F fuel (σ.set 42 (.val (rnd sig ([s],true)))) [.asg 73 false b6e]:=by
    show ((a0P σ (.one 42) _).bind fun σ'=>a0y F fuel σ' _) = _
    rw [a0V I.nm];rfl
   rw [hb]
   have I₁:=I.set (x:=42) (d:=rnd sig ([s],true)) (by decide) (by decide) (by decide) (by decide)
   have k42:(σ.set 42 (.val (rnd sig ([s],true)))).get 42=some (.val (rnd sig ([s],true))):=a0o
   generalize σ.set 42 (.val (rnd sig ([s],true)))=σ₁ at *
   have hk:2 ^ done.length≤2 ^ 3:=Nat.pow_le_pow_right (by decide) hdl
   have s1:=a0s (F:=F) (fuel:=fuel) (k:=73) I₁.nm (by kernel_rfl) (by kernel_rfl) (c2g (F:=F) hS HL hs (a7B T (by lia) (by lia)) k42 I₁.g45 I₁.g73)
   refine⟨_,.inl ((a0c s1).trans rfl),?_⟩
   rw [List.foldl_append,d0D,d0Z,Nat.pow_succ,Nat.mul_comm]
   exact⟨⟨I₁.nm.val,(a0d (by decide)).trans I₁.g38,(a0d (by decide)).trans I₁.g51,(a0d (by decide)).trans I₁.g45,a0o⟩,a3I T hs⟩
 exact⟨σ',a1E (a0t I.g38) (a1e I.g38 (a1n hS.lt)) e,I'⟩
noncomputable def b6g:PE:=.comp [42,51] (.bin .Add (.var 76) (.bin .Mult (.var 42) (.var 28))) (.one 76) (.var 75) .nil (.cons (.one 28) (.range1 (.bin .Add (.count (.var 51) (.var 42)) (.int 1))) .nil .nil)
theorem c2h (hS:Sig sig)(hw:w∈LA.bags){s:Nat}(hs:s<4){B:List (List Nat)}(hB:Small 15 216 B)(h42:σ.get 42=some (.val (rnd sig ([s],true))))(h51:σ.get 51=some (.val (rnd sig (w,false))))(h75:σ.get 75=some (.val (.list (a1F sig B)))) :
  evE F σ b6g=some (.list (a1F sig (a3b w B s))):=by
 have hb:=a1i hw
 have hc:w.count s≤5:=c9v List.count_le_length (d0c hb.2)
 refine (b1Q (xs:=B) (ys:=fun _=>List.range (w.count s+1)) (f:=fun r=>rnd sig (r,false)) (f2:=fun _ k=>.int (k:Int)) (g:=fun r k=>rnd sig (r++List.replicate k s,false)) (p:=fun _ _=>true) (σ₀:=[(42,.val (rnd sig ([s],true))),(51,.val (rnd sig (w,false)))]) (a1e h75 rfl) (a4N h42 h51 nofun nofun) (fun r hr=>?_) ?_).trans ?_
 ·refine⟨[(42,.val (rnd sig ([s],true))),(51,.val (rnd sig (w,false))),(76,.val (rnd sig (r,false)))],by kernel_rfl,?_,fun k hk=>?_⟩
  ·refine a1T (n:=w.count s+1) ?_ (by lia)
   refine a0q (x:=.int ((w.count s:Nat):Int)) ((b8E (x:=⟨(w.map sig).toArray⟩) (y:=⟨#[sig s]⟩) (g:=false) (g':=true) (by kernel_rfl) (by kernel_rfl)).trans ?_) a0u rfl
   rw [b6d]
   exact c9o (fun n:Nat=>some (D.int (n:Int))) (a9R hS hs hb.1)
  ·have hk:=c9R.mp hk
   refine⟨[(42,.val (rnd sig ([s],true))),(51,.val (rnd sig (w,false))),(76,.val (rnd sig (r,false))),(28,.val (.int (k:Int)))],by kernel_rfl,by kernel_rfl,fun _=>⟨by kernel_rfl,?_⟩⟩
   refine (a0q (x:=rnd sig (r,false)) (by kernel_rfl) (a0q (x:=rnd sig ([s],true)) (y:=.int (k:Int)) (by kernel_rfl) (by kernel_rfl) (c2f (sig s) (by lia))) (a2w ?_)).trans ?_
   ·have:=(hB.each r hr).1
    rw [d0a,List.length_replicate]
    lia
   ·refine c9o (fun l:List Nat=>some (D.str ⟨l.toArray⟩ false)) ?_
    rw [d0Y,List.map_replicate]
 ·refine c9v (a1A (k:=6) fun r _=>?_) (c9v (Nat.mul_le_mul_right 6 hB.len) (by decide))
  rw [d0a]
  have:=d0X (fun _=>true) (List.range (w.count s+1))
  rw [d0b] at this
  lia
 ·refine c9o (fun l=>some (D.list l)) ?_
  unfold a1F a3b
  rw [List.map_flatMap]
  refine c9o (fun f=>B.flatMap f) (funext fun r=>?_)
  rw [List.filter_eq_self.mpr fun _ _=>rfl,d0k]
  rfl
theorem a3J {n k:Nat}{B:List (List Nat)}(hw:w∈LA.bags)(h:Small n k B){s:Nat}(hs:s<4):Small (n+5) (6*k) (a3b w B s) where
 len:=by
  have hc:w.count s≤5:=c9v List.count_le_length (d0c (a1i hw).2)
  refine c9v (a1A (k:=6) fun r _=>?_) (by have:=h.len;lia)
  rw [d0a,d0b]
  lia
 each:=fun r hr=>by
  have hc:w.count s≤5:=c9v List.count_le_length (d0c (a1i hw).2)
  refine (List.mem_flatMap.mp hr).elim fun r' Z1=>Z1.elim (fun hr' hm=>?_)
  refine (d0Q.mp hm).elim fun k Z1=>Z1.elim (fun hk Z2=>?_)
  subst Z2
  have j:=h.each r' hr'
  have hk:=c9R.mp hk
  refine⟨by rw [d0D,List.length_replicate];lia,fun c hc=>(d0v.mp hc).elim (j.2 c) fun hc=>?_⟩
  rw [List.eq_of_mem_replicate hc]
  exact hs
structure PB' (sig:Nat→Nat)(w:List Nat)(loose:List D)(b:Bool)(σ:Store)(rows B:List (List Nat)):Prop extends PM' sig w loose b σ rows where
 g75:σ.get 75=some (.val (.list (a1F sig B)))
theorem b6h {rows:List (List Nat)}(hS:Sig sig)(hw:w∈LA.bags)(I:PB' sig w loose b σ rows [[]]):∃ σ',evS F fuel σ (.for (.one 42) (.var 38) [.asg 75 false b6g])=some (.next σ')∧PB' sig w loose b σ' rows (LA.bagsW w):=by
 let body:Store→D→Option Out:=fun σ d=>(a0P σ (.one 42) d).bind fun σ'=>a0y F fuel σ' [.asg 75 false b6g]
 obtain⟨σ',e,I',_⟩:=a1f (body:=body) (f:=fun s=>rnd sig ([s],true)) (all:=[0,1,2,3]) (σ:=σ) (fun done σ=>PB' sig w loose b σ rows (done.foldl (a3b w) [[]])∧Small (5*done.length) (6 ^ done.length) (done.foldl (a3b w) [[]]))
  ⟨I,a4Q⟩ fun done s rest σ hd ⟨I,T⟩=>by
   have hs:s<4:=a3F s (by rw [← hd];simp)
   have hdl:done.length≤3:=by have:=c9o List.length hd;simp at this;lia
   have hb:body σ (rnd sig ([s],true))=a0y F fuel (σ.set 42 (.val (rnd sig ([s],true)))) [.asg 75 false b6g]:=by
    show ((a0P σ (.one 42) _).bind fun σ'=>a0y F fuel σ' _) = _
    rw [a0V I.nm];rfl
   rw [hb]
   have I₁:=I.toPM'.set (x:=42) (d:=rnd sig ([s],true)) (by decide) (by decide) (by decide) (by decide)
   have k42:(σ.set 42 (.val (rnd sig ([s],true)))).get 42=some (.val (rnd sig ([s],true))):=a0o
   have k75:(σ.set 42 (.val (rnd sig ([s],true)))).get 75 = _:=(a0d (by decide)).trans I.g75
   generalize σ.set 42 (.val (rnd sig ([s],true)))=σ₁ at *
   have hk:6 ^ done.length≤6 ^ 3:=Nat.pow_le_pow_right (by decide) hdl
   have s1:=a0s (F:=F) (fuel:=fuel) (k:=75) I₁.nm (by kernel_rfl) (by kernel_rfl) (c2h (F:=F) hS hw hs (a7B T (by lia) hk) k42 I₁.g51 k75)
   refine⟨_,.inl ((a0c s1).trans rfl),?_⟩
   rw [List.foldl_append,d0D,d0Z,Nat.pow_succ,Nat.mul_comm (6 ^ done.length),Nat.mul_add]
   exact⟨⟨I₁.set (by decide) (by decide) (by decide) (by decide),a0o⟩,a3J hw T hs⟩
 exact⟨σ',a1E (a0t I.g38) (a1e I.g38 (a1n hS.lt)) e,I'⟩
end
end
section
open LA (lo a2G a3b a1l inW a6D a8t)
noncomputable def txt (sig:Nat→Nat)(t:List Nat):Str:=⟨(t.map sig).toArray⟩
theorem b6i {sig:Nat→Nat}(hS:Sig sig):∀ {t t':List Nat},(∀ c∈t,c<4)→(∀ c∈t',c<4)→txt sig t=txt sig t'→t=t':=by
 have go:∀ {t t':List Nat},(∀ c∈t,c<4)→(∀ c∈t',c<4)→t.map sig=t'.map sig→t=t':=fun {t}=>by
  induction t with
  | nil=>exact fun {t'} _ _ h=>(List.map_eq_nil_iff.mp h.symm).symm
  | cons a r ih=>
   intro t' h1 h2 h
   cases t' with
   | nil=>cases h
   | cons b q=>
    have h:=List.cons.inj (show sig a :: r.map sig=sig b :: q.map sig from h)
    rw [hS.inj a b (h1 a (.head _)) (h2 b (.head _)) h.1,ih (fun c hc=>h1 c (.tail _ hc)) (fun c hc=>h2 c (.tail _ hc)) h.2]
 exact fun {t t'} h1 h2 h=>go h1 h2 (c9o (fun s:Str=>s.cps.toList) h)
theorem c2i {x:List Nat}(hx:∀ c∈x,c<4):∀ r:List Nat,∀ c∈a1l x r,c<4:=fun r=>by
 unfold a1l
 induction r generalizing x with
 | nil=>exact hx
 | cons s r ih=>exact ih fun c hc=>hx c (List.mem_of_mem_erase hc)
theorem b2j (x:List Nat):∀ r:List Nat,(a1l x r).length≤x.length:=fun r=>by
 unfold a1l
 induction r generalizing x with
 | nil=>exact c9n _
 | cons s r ih=>exact c9v (ih _) List.length_erase_le
theorem b6j {x r:List Nat}{s:Nat}:a1l x (r++[s])=(a1l x r).erase s:=by
 unfold a1l
 rw [List.foldl_append]
 rfl
section
variable {F:Fns}{fuel:Nat}{σ:Store}{sig:Nat→Nat}{w:List Nat}{g:List Bool}{loose:List D}{b:Bool}{rows B:List (List Nat)}{kv:List (Str×Int)}{T:Nat}
structure PC2 (sig:Nat→Nat)(w:List Nat)(loose:List D)(b:Bool)(σ:Store)(rows B:List (List Nat))(kv:List (Str×Int)):Prop extends PB' sig w loose b σ rows B where
 g77:σ.get 77=some (.ownD kv)
theorem PC2.set (h:PC2 sig w loose b σ rows B kv){x:Nat}{d:D}(h1:38≠x)(h2:51≠x)(h3:45≠x)(h4:73≠x)(h5:75≠x)(h6:77≠x):PC2 sig w loose b (σ.set x (.val d)) rows B kv:=
 ⟨⟨h.toPM'.set h1 h2 h3 h4,(a0d h5).trans h.g75⟩,(a0d h6).trans h.g77⟩
theorem PC2.put (h:PC2 sig w loose b σ rows B kv){kv':List (Str×Int)}:PC2 sig w loose b (σ.set 77 (.ownD kv')) rows B kv':=
 ⟨⟨⟨h.nm.set nofun,(a0d (by decide)).trans h.g38,(a0d (by decide)).trans h.g51,(a0d (by decide)).trans h.g45,(a0d (by decide)).trans h.g73⟩,(a0d (by decide)).trans h.g75⟩,a0o⟩
theorem b6k (hS:Sig sig)(I:PC2 sig w loose b σ rows B kv){x r:List Nat}(hx:x.length≤100∧∀ c∈x,c<4)(hr:∀ c∈r,c<4)(h40:σ.get 40=some (.val (rnd sig (x,false))))(h74:σ.get 74=some (.val (rnd sig (r,false))))(h76:σ.get 76=some (.val (rnd sig (x,false)))) :
  ∃ σ',evS F fuel σ (.for (.one 42) (.var 74) [.asg 40 false (.rep1 (.var 40) 42)])=some (.next σ')∧PC2 sig w loose b σ' rows B kv∧σ'.get 40=some (.val (rnd sig (a1l x r,false)))∧σ'.get 74=some (.val (rnd sig (r,false)))∧σ'.get 76=some (.val (rnd sig (x,false))):=by
 let body:Store→D→Option Out:=fun σ d=>(a0P σ (.one 42) d).bind fun σ'=>a0y F fuel σ' [.asg 40 false (.rep1 (.var 40) 42)]
 obtain⟨σ',e,I'⟩:=a1f (body:=body) (f:=fun s=>rnd sig ([s],true)) (all:=r) (σ:=σ) (fun done σ=>PC2 sig w loose b σ rows B kv∧σ.get 40=some (.val (rnd sig (a1l x done,false)))∧σ.get 74=some (.val (rnd sig (r,false)))∧σ.get 76=some (.val (rnd sig (x,false))))
  ⟨I,h40,h74,h76⟩ fun done s rest σ hd ⟨I,h40,h74,h76⟩=>by
   have hs:s<4:=hr s (by rw [← hd];simp)
   have hb:body σ (rnd sig ([s],true))=a0y F fuel (σ.set 42 (.val (rnd sig ([s],true)))) [.asg 40 false (.rep1 (.var 40) 42)]:=by
    show ((a0P σ (.one 42) _).bind fun σ'=>a0y F fuel σ' _) = _
    rw [a0V I.nm];rfl
   rw [hb]
   have I₁:=I.set (x:=42) (d:=rnd sig ([s],true)) (by decide) (by decide) (by decide) (by decide) (by decide) (by decide)
   have k42:(σ.set 42 (.val (rnd sig ([s],true)))).get 42=some (.val (rnd sig ([s],true))):=a0o
   have k40:(σ.set 42 (.val (rnd sig ([s],true)))).get 40 = _:=(a0d (by decide)).trans h40
   have k74:(σ.set 42 (.val (rnd sig ([s],true)))).get 74 = _:=(a0d (by decide)).trans h74
   have k76:(σ.set 42 (.val (rnd sig ([s],true)))).get 76 = _:=(a0d (by decide)).trans h76
   generalize σ.set 42 (.val (rnd sig ([s],true)))=σ₁ at *
   have hll:=b2j x done
   have e1:evE F σ₁ (.rep1 (.var 40) 42)=some (rnd sig (a1l x (done++[s]),false)):=by
    refine (b5J (x:=⟨((a1l x done).map sig).toArray⟩) (y:=⟨#[sig s]⟩) (a0i k40) k42 (by rw [a2b];lia) rfl).trans ?_
    rw [b1Z hS (c2i hx.2 done) hs,b6j]
    rfl
   have s1:=a0s (F:=F) (fuel:=fuel) (k:=40) I₁.nm (by kernel_rfl) (by kernel_rfl) e1
   exact⟨_,.inl ((a0c s1).trans rfl),I₁.set (by decide) (by decide) (by decide) (by decide) (by decide) (by decide),a0o,(a0d (by decide)).trans k74,(a0d (by decide)).trans k76⟩
 exact⟨σ',a1E (a0t h74) (a1e h74 (a1n hS.lt)) e,I'⟩
noncomputable def c8C:PE:=.cmp .Eq (.bin .Add (.len (.var 40)) (.len (.var 74))) (.len (.var 76))
noncomputable def c7N:PE:=.ite (.cmp .Eq (.bin .Mod (.len (.var 74)) (.int 2)) (.int 1)) (.idx (.var 77) (.var 40)) (.neg (.idx (.var 77) (.var 40)))
noncomputable def a7C:List PS:=[.asg 40 false (.var 76),.for (.one 42) (.var 74) [.asg 40 false (.rep1 (.var 40) 42)],.ifs c8C [.augD 77 (.var 76) .Add c7N] []]
theorem c2j {k:Nat}{i e:PE}{x:Str}{gx:Bool}{a j:Int}(h:σ.get k=some (.ownD kv))(hi:evE F σ i=some (.str x gx))(he:evE F σ e=some (.int j))(ha:kv.lookup x=some a)(hl:kv.length≤1000000) :
  evS F fuel σ (.augD k i .Add e)=some (.next (σ.set k (.ownD (dictSetD kv x (a+j))))):=by
 show (σ.get k).bind _ = _
 refine a0b h (a0b hi (a0b he ?_))
 exact a0b (a:=kv) rfl (a0b (a:=x) rfl (a0b ha (a0b (a:=D.int (a+j)) rfl (a0b (a:=a+j) rfl (a0n (a0G (by lia)))))))
theorem c2k {k:Nat}{i e:PE}{x:Str}{gx:Bool}{j:Int}(h:σ.get k=some (.ownD kv))(hi:evE F σ i=some (.str x gx))(he:evE F σ e=some (.int j))(hl:kv.length≤1000000) :
  evS F fuel σ (.asgI k i e)=some (.next (σ.set k (.ownD (dictSetD kv x j)))):=by
 show (σ.get k).bind _ = _
 refine a0b h (a0b hi (a0b he ?_))
 exact a0b (a:=kv) rfl (a0b (a:=x) rfl (a0b (a:=j) rfl (a0n (a0G (by lia)))))
theorem c7O {ea:PE}{i:Int}(h:evE F σ ea=some (.int i)):evE F σ (.neg ea)=some (.int (-i)):=a7v h
theorem c7P (n:Nat):((n:Int)).fmod 2=((n % 2:Nat):Int):=by
 rw [Int.fmod_eq_emod_of_nonneg _ (by decide)]
 rfl
structure RowsAt (sig:Nat→Nat)(T:Nat)(pre:List (List Nat))(x:List Nat)(a:Int)(kv:List (Str×Int)):Prop where
 old:∀ y∈pre,kv.lookup (txt sig y)=some (a6D T y:Int)
 here:kv.lookup (txt sig x)=some a
theorem RowsAt.put (hS:Sig sig){pre:List (List Nat)}{x:List Nat}{a c:Int}(R:RowsAt sig T pre x a kv)(hx:∀ c∈x,c<4)(hp:∀ y∈pre,∀ c∈y,c<4)(hn:x ∉ pre):RowsAt sig T pre x c (dictSetD kv (txt sig x) c):=
 ⟨fun y hy=>by rw [a5P,c9t fun q=>hn (b6i hS (hp y hy) hx q ▸ hy)];exact R.old y hy,by rw [a5P,c9r rfl]⟩
theorem b8F (hS:Sig sig)(I:PC2 sig w loose b σ rows B kv){pre:List (List Nat)}{x r:List Nat}{a:Int}(hx:x.length≤100∧∀ c∈x,c<4)(hr:r.length≤100∧∀ c∈r,c<4)(hp:∀ y∈pre,∀ c∈y,c<4)(hn:x ∉ pre)
  (hless:inW x r=true→a1l x r∈pre) (R:RowsAt sig T pre x a kv) (hkv:kv.length≤1000000) (h74:σ.get 74=some (.val (rnd sig (r,false)))) (h76:σ.get 76=some (.val (rnd sig (x,false)))) :
  ∃ σ' kv',a0y F fuel σ a7C=some (.next σ')∧PC2 sig w loose b σ' rows B kv'∧RowsAt sig T pre x (a8t T x a r) kv'∧kv'.length≤kv.length+1∧σ'.get 76=some (.val (rnd sig (x,false))):=by
 have s1:=b1P (F:=F) (fuel:=fuel) (k:=40) I.nm h76
 have I₁:=I.set (x:=40) (d:=rnd sig (x,false)) (by decide) (by decide) (by decide) (by decide) (by decide) (by decide)
 obtain⟨σ₂,s2,I₂,k40,k74,k76⟩:=b6k (F:=F) (fuel:=fuel) hS I₁ hx hr.2 a0o ((a0d (by decide)).trans h74) ((a0d (by decide)).trans h76)
 have hll:=b2j x r
 have lens:∀ {k:Nat} {t:List Nat},t.length≤100→σ₂.get k=some (.val (rnd sig (t,false)))→evE F σ₂ (.len (.var k))=some (.int ((t.length:Nat):Int)):=fun ht h=>a3Y (a0i h) (c9o some a2b) (by lia)
 have t3:evT F σ₂ c8C=some (inW x r):=a0Q (x:=.int (((a1l x r).length+r.length:Nat):Int)) (a0q (lens (by lia) k40) (lens hr.1 k74) rfl) (lens hx.1 k76) a6G
 have hifs:=a0U (F:=F) (fuel:=fuel) (A:=[.augD 77 (.var 76) .Add c7N]) (B:=[]) t3
 unfold a7C a8t
 cases hin:inW x r with
 | false=>
  rw [hin] at hifs
  exact⟨σ₂,kv,(a0c s1).trans ((a0c s2).trans ((a0c hifs).trans rfl)),I₂,R,c9A _,k76⟩
 | true=>
  rw [hin] at hifs
  have hlook:=R.old _ (hless hin)
  have ei:evE F σ₂ (.idx (.var 77) (.var 40))=some (.int (a6D T (a1l x r):Int)):=by
   refine a1D (x:=.dict kv) (by show (σ₂.get 77).bind _ = _;exact a0b I₂.g77 rfl) (a0i k40) ?_
   show Option.map D.int (kv.lookup (txt sig (a1l x r))) = _
   rw [hlook]
   rfl
  have ea:evE F σ₂ c7N=some (.int (bif r.length % 2==1 then (a6D T (a1l x r):Int) else -(a6D T (a1l x r):Int))):=by
   have tq:evT F σ₂ (.cmp .Eq (.bin .Mod (.len (.var 74)) (.int 2)) (.int 1))=some (r.length % 2==1):=a0Q (x:=.int ((r.length % 2:Nat):Int)) (y:=.int ((1:Nat):Int)) (a0q (lens hr.1 k74) a0u ((a3Z (by decide)).trans (c9o (fun i=>some (D.int i)) (c7P _)))) a0u a6G
   show (evT F σ₂ _).bind _ = _
   refine a0b tq ?_
   cases r.length % 2==1 with
   | true=>exact ei
   | false=>exact a7v ei
  have s4:=c2j (F:=F) (fuel:=fuel) I₂.g77 (a0i k76) ea R.here hkv
  have hifs':=hifs.trans ((a0c s4).trans rfl)
  refine⟨_,_,(a0c s1).trans ((a0c s2).trans ((a0c hifs').trans rfl)),I₂.put,R.put hS hx.2 hp hn,b2i,(a0d (by decide)).trans k76⟩
end
end
section
open LA (lo a2G a3b a1l inW a6D a8t)
theorem b6l:(LA.rows15.all fun r=>Nat.ble r.length 4&&r.all fun c=>Nat.blt c 4)=true:=by decide +kernel
theorem c7Q {r:List Nat}(h:r∈LA.rows15):r.length≤4∧∀ c∈r,c<4:=by
 have k:=a0h (c9Q.mp b6l r h)
 exact⟨c9B k.1,fun c hc=>c9B (c9Q.mp k.2 c hc)⟩
theorem b3s {w:List Nat}(hw:w∈LA.bags):Small 20 1296 (LA.bagsW w):=a3J hw (a3J hw (a3J hw (a3J hw a4Q (by decide)) (by decide)) (by decide)) (by decide)
theorem b3t (g:List Bool):Small 4 16 (LA.rowsW g):=a3I (a3I (a3I (a3I a4Q (by decide)) (by decide)) (by decide)) (by decide)
section
variable {F:Fns}{fuel:Nat}{σ:Store}{sig:Nat→Nat}{w:List Nat}{g:List Bool}{loose:List D}{b:Bool}{B:List (List Nat)}{kv:List (Str×Int)}{T:Nat}
theorem a7D {l:List (List Nat)}{k:Nat}(h:σ.get k=some (.val (.list (a1F sig l))))(h1:1≤l.length)(h2:l.length≤10000):evI F σ (.slice (.var k) (.yes (.int 1)) .no)=some ((l.drop 1).map fun r=>rnd sig (r,false)):=by
 refine a3E (x:=.list ((l.drop 1).map fun r=>rnd sig (r,false))) (a1y (a0i h) (a2v a0u) (h:=none) rfl (l':=some ((1:Nat):Int)) (a1r (by decide)) (h':=none) rfl ?_) rfl
 have hl:(a1F sig l).length=l.length:=d0a ..
 rw [b0K (by rw [hl];lia),b1N (by rw [hl];exact h1)]
 unfold a1F
 rw [List.map_drop]
noncomputable def a9S:List PS:=[.asgI 77 (.var 76) (.int 0),.for (.one 74) (.slice (.var 73) (.yes (.int 1)) .no) a7C]
theorem b8G (hS:Sig sig)(hg:g∈LA.graphs)(I:PC2 sig w loose b σ (LA.rowsW g) B kv){pre:List (List Nat)}{x:List Nat}(hx:x.length≤100∧∀ c∈x,c<4)(hp:∀ y∈pre,∀ c∈y,c<4)(A:LA.BagAt pre x)
  (hT:((LA.rowsW g).drop 1).foldl (a8t T x) 0=(a6D T x:Int)) (R:∀ y∈pre,kv.lookup (txt sig y)=some (a6D T y:Int)) (hkv:kv.length≤100000) (h76:σ.get 76=some (.val (rnd sig (x,false)))) :
  ∃ σ' kv',a0y F fuel σ a9S=some (.next σ')∧PC2 sig w loose b σ' (LA.rowsW g) B kv'∧(∀ y∈pre++[x],kv'.lookup (txt sig y)=some (a6D T y:Int))∧kv'.length≤kv.length+20:=by
 refine (LA.rows_of hg).elim fun hrow hr15=>?_
 have hsm:=b3t g
 have s1:=c2k (F:=F) (fuel:=fuel) (j:=0) I.g77 (a0i h76) a0u (by lia)
 have I₁:PC2 sig w loose b (σ.set 77 (.ownD (dictSetD kv (txt sig x) 0))) (LA.rowsW g) B (dictSetD kv (txt sig x) 0):=I.put
 have k76:(σ.set 77 (.ownD (dictSetD kv (txt sig x) 0))).get 76 = _:=(a0d (by decide)).trans h76
 have R₁:RowsAt sig T pre x 0 (dictSetD kv (txt sig x) 0):=⟨fun y hy=>by rw [a5P,c9t fun q=>A.new (b6i hS (hp y hy) hx.2 q ▸ hy)];exact R y hy,by rw [a5P,c9r rfl]⟩
 have hl₁:(dictSetD kv (txt sig x) 0).length≤kv.length+1:=b2i
 have s1':evS F fuel σ (.asgI 77 (.var 76) (.int 0))=some (.next (σ.set 77 (.ownD (dictSetD kv (txt sig x) 0)))):=s1
 generalize dictSetD kv (txt sig x) 0=kv₁ at *
 generalize σ.set 77 (.ownD kv₁)=σ₁ at *
 let body:Store→D→Option Out:=fun σ d=>(a0P σ (.one 74) d).bind fun σ'=>a0y F fuel σ' a7C
 obtain⟨σ',e,kv',I',R',hl',_⟩:=a1f (body:=body) (f:=fun r=>rnd sig (r,false)) (all:=(LA.rowsW g).drop 1) (σ:=σ₁)
  (fun done σ=>∃ kv,PC2 sig w loose b σ (LA.rowsW g) B kv∧RowsAt sig T pre x (done.foldl (a8t T x) 0) kv∧kv.length≤kv₁.length+done.length∧σ.get 76=some (.val (rnd sig (x,false))))
  ⟨kv₁,I₁,R₁,c9n _,k76⟩ fun done r rest σ hd ⟨kv₂,I,R,hl,h76⟩=>by
   have hr:=hr15 r (by rw [← hd];simp)
   have k:=c7Q hr
   have hdl:done.length≤16:=by have:=c9o List.length hd;have:=hsm.len;simp at *;lia
   have hb:body σ (rnd sig (r,false))=a0y F fuel (σ.set 74 (.val (rnd sig (r,false)))) a7C:=by
    show ((a0P σ (.one 74) _).bind fun σ'=>a0y F fuel σ' _) = _
    rw [a0V I.nm];rfl
   rw [hb]
   obtain⟨σ',kv',e,I',R',hl',k76⟩:=b8F (F:=F) (fuel:=fuel) (r:=r) hS (I.set (x:=74) (d:=rnd sig (r,false)) (by decide) (by decide) (by decide) (by decide) (by decide) (by decide)) hx ⟨by lia,k.2⟩ hp A.new (A.less r hr) R (by lia) a0o ((a0d (by decide)).trans h76)
   refine⟨σ',.inl e,kv',I',?_,by rw [d0D,d0Z];lia,k76⟩
   rw [List.foldl_append]
   exact R'
 have e':=a1E (F:=F) (fuel:=fuel) (t:=.one 74) (iter:=.slice (.var 73) (.yes (.int 1)) .no) (body:=a7C) (σ:=σ₁) (by kernel_rfl) (a7D I₁.g73 (by rw [hrow];exact Nat.le_add_left 1 _) (c9v hsm.len (by decide))) e
 refine⟨σ',kv',(a0c s1').trans ((a0c e').trans rfl),I',fun y hy=>?_,?_⟩
 ·rcases d0v.mp hy with hy | hy
  ·exact R'.old y hy
  ·rw [d0i.mp hy,← hT]
   exact R'.here
 ·have:=hsm.len
  have h2:((LA.rowsW g).drop 1).length≤16:=by rw [List.length_drop];lia
  lia
theorem b6m:(LA.bags.all fun w=>LA.words.contains w)=true:=by decide +kernel
theorem b8H:[]∈LA.words:=by decide +kernel
theorem b0W {m:Nat}(hS:Sig sig)(hg:g∈LA.graphs)(HL:a2n sig (lo g) loose)(hw:w∈LA.bags):runG ids a0p fuel (m+1) 86 [rnd sig ([0,1,2,3],b),rnd sig (w,false),.list loose] none=some (.int ((LA.numN g w:Nat):Int)):=by
 refine a1W (df:=⟨86,[38,51,45],[],[],a4I⟩) rfl (by decide) (by decide) rfl rfl rfl ?_
 generalize hF:runG ids a0p fuel m=F
 have hb:=a1i hw
 refine (LA.count_of hg).elim fun T Z1=>Z1.elim (fun hTn hTt=>?_)
 refine (LA.bags_of hw).elim fun hB Z1=>Z1.elim (fun hwB hAt=>?_)
 have hsB:=b3s hw
 show a0y F fuel [(38,.val (rnd sig ([0,1,2,3],b))),(51,.val (rnd sig (w,false))),(45,.val (.list loose))] [.asg 73 false (.list (.cons (.str ⟨#[]⟩) .nil)),.for (.one 42) (.var 38) [.asg 73 false b6e],.asg 75 false (.list (.cons (.str ⟨#[]⟩) .nil)),.for (.one 42) (.var 38) [.asg 75 false b6g],.asgD 77 ⟨#[]⟩ 1,.for (.one 76) (.slice (.var 75) (.yes (.int 1)) .no) a9S,.ret (.idx (.var 77) (.var 51))] = _
 have s1:evS F fuel [(38,.val (rnd sig ([0,1,2,3],b))),(51,.val (rnd sig (w,false))),(45,.val (.list loose))] (.asg 73 false (.list (.cons (.str ⟨#[]⟩) .nil)))=some (.next [(38,.val (rnd sig ([0,1,2,3],b))),(51,.val (rnd sig (w,false))),(45,.val (.list loose)),(73,.val (.list (a1F sig [[]])))]):=by kernel_rfl
 rw [a0c s1]
 have I1:PM' sig w loose b [(38,.val (rnd sig ([0,1,2,3],b))),(51,.val (rnd sig (w,false))),(45,.val (.list loose)),(73,.val (.list (a1F sig [[]])))] [[]]:=⟨NM.vals [(38,rnd sig ([0,1,2,3],b)),(51,rnd sig (w,false)),(45,.list loose),(73,.list (a1F sig [[]]))],by kernel_rfl,by kernel_rfl,by kernel_rfl,by kernel_rfl⟩
 refine (b6f (F:=F) (fuel:=fuel) hS HL I1).elim fun σ₂ Z1=>Z1.elim (fun s2 I2=>?_)
 rw [a0c s2]
 have s3:=a0s (F:=F) (fuel:=fuel) (k:=75) (d:=.list (a1F sig [[]])) I2.nm (by kernel_rfl) (by kernel_rfl) (by kernel_rfl:evE F σ₂ (.list (.cons (.str ⟨#[]⟩) .nil))=some (.list (a1F sig [[]])))
 rw [a0c s3]
 have I3:PB' sig w loose b (σ₂.set 75 (.val (.list (a1F sig [[]])))) (LA.rowsW g) [[]]:=⟨I2.set (by decide) (by decide) (by decide) (by decide),a0o⟩
 refine (b6h (F:=F) (fuel:=fuel) hS hw I3).elim fun σ₄ Z1=>Z1.elim (fun s4 I4=>?_)
 rw [a0c s4]
 have s5:evS F fuel σ₄ (.asgD 77 ⟨#[]⟩ 1)=some (.next (σ₄.set 77 (.ownD [(⟨#[]⟩,1)]))):=a0n (I4.nm.no 77)
 rw [a0c s5]
 have I5:PC2 sig w loose b (σ₄.set 77 (.ownD [(⟨#[]⟩,1)])) (LA.rowsW g) (LA.bagsW w) [(⟨#[]⟩,1)]:=⟨⟨⟨I4.nm.set nofun,(a0d (by decide)).trans I4.g38,(a0d (by decide)).trans I4.g51,(a0d (by decide)).trans I4.g45,(a0d (by decide)).trans I4.g73⟩,(a0d (by decide)).trans I4.g75⟩,a0o⟩
 generalize σ₄.set 77 (.ownD [(⟨#[]⟩,1)])=σ₅ at *
 let body:Store→D→Option Out:=fun σ d=>(a0P σ (.one 76) d).bind fun σ'=>a0y F fuel σ' a9S
 obtain⟨σ',e,kv',I',R',_⟩:=a1f (body:=body) (f:=fun x=>rnd sig (x,false)) (all:=(LA.bagsW w).drop 1) (σ:=σ₅)
  (fun done σ=>∃ kv,PC2 sig w loose b σ (LA.rowsW g) (LA.bagsW w) kv∧(∀ y∈[] :: done,kv.lookup (txt sig y)=some (a6D T y:Int))∧kv.length≤1+20*done.length)
  ⟨[(⟨#[]⟩,1)],I5,fun y hy=>by rw [d0i.mp hy,hTn [] b8H];rfl,c9n _⟩ fun done x rest σ hd ⟨kv,I,R,hl⟩=>by
   have A:=hAt done x rest hd.symm
   have inB:∀ y∈(LA.bagsW w).drop 1,y.length≤20∧∀ c∈y,c<4:=fun y hy=>hsB.each y (List.mem_of_mem_drop hy)
   have hx:=inB x (by rw [← hd];simp)
   have hne:x≠[]:=fun q=>A.new (q ▸ .head _)
   have hdl:done.length≤1296:=by have:=c9o List.length hd;have:=hsB.len;simp at *;lia
   have hb:body σ (rnd sig (x,false))=a0y F fuel (σ.set 76 (.val (rnd sig (x,false)))) a9S:=by
    show ((a0P σ (.one 76) _).bind fun σ'=>a0y F fuel σ' _) = _
    rw [a0V I.nm];rfl
   rw [hb]
   refine (b8G (F:=F) (fuel:=fuel) hS hg (I.set (x:=76) (d:=rnd sig (x,false)) (by decide) (by decide) (by decide) (by decide) (by decide) (by decide)) ⟨by lia,hx.2⟩ (fun y hy=>?_) A (hTt x A.mem hne) R (by lia) a0o).elim fun σ' Z1=>Z1.elim (fun kv' Z1=>Z1.elim (fun e Z1=>Z1.elim (fun I' Z1=>Z1.elim (fun R' hl'=>?_))))
   ·rcases c9U.mp hy with q | hy
    ·rw [q];exact fun c hc=>absurd hc List.not_mem_nil
    ·exact (inB y (by rw [← hd];exact d0x _ hy)).2
   ·exact⟨σ',.inl e,kv',I',R',by rw [d0D,d0Z];lia⟩
 have e':=a1E (F:=F) (fuel:=fuel) (t:=.one 76) (iter:=.slice (.var 75) (.yes (.int 1)) .no) (body:=a9S) (σ:=σ₅) (by kernel_rfl) (a7D I5.g75 (by rw [hB];exact Nat.le_add_left 1 _) (c9v hsB.len (by decide))) e
 rw [a0c e']
 have f77:=a0H I'.g77 (s':=.val (.dict kv')) rfl
 have f51:=a0H I'.g51 (s':=.val (rnd sig (w,false))) rfl
 refine a2u (by kernel_rfl) (a1D (a0i f77) (a0i f51) ?_)
 show Option.map D.int (kv'.lookup (txt sig w)) = _
 have hww:w∈LA.words:=d0J.mp (c9Q.mp b6m w hw)
 rw [R' w (hB ▸ hwB),hTn w hww]
 rfl
end
end
section
open LA (lo a2a b3d)
section
variable {F:Fns}{fuel:Nat}{σ:Store}{sig:Nat→Nat}{w h:List Nat}{g:List Bool}{loose acc:List D}{b:Bool}
theorem c2l {a b c:PE}{p q r:Bool}(h1:evT F σ a=some p)(h2:p=true→evT F σ b=some q)(h3:p=true→q=true→evT F σ c=some r):evT F σ (.and (.cons a (.cons b (.cons c .nil))))=some (p&&(q&&r)):=by
 show (evT F σ a).bind _ = _
 refine a0b h1 ?_
 cases p with
 | false=>rfl
 | true=>
  show (evT F σ b).bind _ = _
  refine a0b (h2 rfl) ?_
  cases q with
  | false=>rfl
  | true=>show (evT F σ c).bind _ = _;exact a0b (h3 rfl rfl) (by cases r <;> rfl)
theorem b0X {k:Nat}{g:Bool}(hk:k<h.length)(hl:h.length≤1000):a8F (rnd sig (h,g)) (.int (k:Int))=some (rnd sig ([h.getD k 0],true)):=by
 refine a4M ?_ (by rw [a2b];lia)
 show (h.map sig).toArray[k]? = _
 rw [c9W,d0s,c9S,c9T hk]
 rfl
theorem b8I {k:Nat}{gf:Bool}{ea eb:PE}(hs:∀ i,sig i<128)(hk:k≤h.length)(hl:h.length≤1000)(e1:evE F σ ea=some (rnd sig (h,gf)))(e2:evE F σ eb=some (.int (k:Int))):evI F σ (.slice ea .no (.yes eb))=some ((h.take k).map fun i=>rnd sig ([i],true)):=by
 refine a3E (x:=rnd sig (h.take k,false)) (a1y e1 (l:=none) rfl (a2v e2) (l':=none) rfl (a1r (by lia)) ?_) (a1n hs)
 refine (b5v (by rw [a2b];lia)).trans ?_
 show some (D.str ⟨(cut (h.map sig) none (some (k:Int))).toArray⟩ false) = _
 rw [b9q (by rw [d0a];exact hk),← List.map_take]
 rfl
theorem b2k {k:Nat}{gf:Bool}{ea eb:PE}(hs:∀ i,sig i<128)(hk:k≤h.length)(hl:h.length≤1000)(e1:evE F σ ea=some (rnd sig (h,gf)))(e2:evE F σ eb=some (.int (k:Int))):evI F σ (.slice ea (.yes eb) .no)=some ((h.drop k).map fun i=>rnd sig ([i],true)):=by
 refine a3E (x:=rnd sig (h.drop k,false)) (a1y e1 (a2v e2) (h:=none) rfl (a1r (by lia)) (h':=none) rfl ?_) (a1n hs)
 refine (b5v (by rw [a2b];lia)).trans ?_
 show some (D.str ⟨(cut (h.map sig) (some (k:Int)) none).toArray⟩ false) = _
 rw [b1N (by rw [d0a];exact hk),← List.map_drop]
 rfl
noncomputable def c7R:PE:=.join (.str ⟨#[]⟩) (.comp [51] (.var 42) (.one 42) (.var 38) (.cons (.cmp .In (.var 42) (.var 51)) .nil) .nil)
theorem c2m (hS:Sig sig)(hw:w∈LA.bags)(h38:σ.get 38=some (.val (rnd sig ([0,1,2,3],b))))(h51:σ.get 51=some (.val (rnd sig (w,false)))):evE F σ c7R=some (rnd sig (a2a w,false)):=by
 have e:evE F σ (.comp [51] (.var 42) (.one 42) (.var 38) (.cons (.cmp .In (.var 42) (.var 51)) .nil) .nil)=some (.list ((([0,1,2,3]:List Nat).filter fun s=>w.contains s).map fun s=>.str ⟨[sig s].toArray⟩ true)):=by
  refine a0F (xs:=[0,1,2,3]) (f:=fun s=>rnd sig ([s],true)) (σ₀:=[(51,.val (rnd sig (w,false)))]) (a1e h38 (a1n hS.lt)) (a1z h51 nofun) (fun s hs=>?_) (by decide)
  exact⟨[(51,.val (rnd sig (w,false))),(42,.val (rnd sig ([s],true)))],by kernel_rfl,a3C (a0Q (x:=rnd sig ([s],true)) (y:=rnd sig (w,false)) (by kernel_rfl) (by kernel_rfl) (b9u hS (a1i hw).1 (a3F s hs))),fun _=>⟨by kernel_rfl,by kernel_rfl⟩⟩
 refine (a5L (f:=fun s:Nat=>[sig s]) (fl:=fun _=>true) e ?_).trans ?_
 ·rw [d0k]
  refine c9v (a9G (k:=1) fun _ _=>c9n 1) ?_
  have:=d0X (fun s=>w.contains s) [0,1,2,3]
  exact c9v (Nat.mul_le_mul_right 1 this) (by decide)
 ·rw [a3d]
  rfl
structure PTn (sig:Nat→Nat)(h:List Nat)(loose:List D)(σ:Store)(acc:List D):Prop where
 nm:NM σ
 g78:σ.get 78=some (.val (rnd sig (h,false)))
 g45:σ.get 45=some (.val (.list loose))
 g79:σ.get 79=some (.own acc)
theorem PTn.set (I:PTn sig h loose σ acc){x:Nat}{d:D}(h1:78≠x)(h2:45≠x)(h3:79≠x):PTn sig h loose (σ.set x (.val d)) acc:=
 ⟨I.nm.val,(a0d h1).trans I.g78,(a0d h2).trans I.g45,(a0d h3).trans I.g79⟩
noncomputable def c5q:PE:=.and (.cons (.cmp .In (.bin .Add (.var 46) (.idx (.var 78) (.var 28))) (.var 45)) (.cons (.cmp .In (.bin .Add (.idx (.var 78) (.var 28)) (.var 47)) (.var 45)) (.cons (.cmp .NotIn (.bin .Add (.var 46) (.var 47)) (.var 45)) .nil)))
noncomputable def tn3:List PS:=[.ifs c5q [.app 79 (.bin .Add (.bin .Add (.var 46) (.idx (.var 78) (.var 28))) (.var 47))] []]
noncomputable def tn2:List PS:=[.for (.one 47) (.slice (.var 78) (.yes (.bin .Add (.var 28) (.int 1))) .no) tn3]
noncomputable def tn1:List PS:=[.for (.one 46) (.slice (.var 78) .no (.yes (.var 28))) tn2]
noncomputable def b0Y (g:List Bool)(m a c:Nat):Bool:=lo g a m&&(lo g m c&&!(lo g a c))
theorem c7S (hS:Sig sig)(HL:a2n sig (lo g) loose)(hh:h.length≤4∧∀ c∈h,c<4){k a:Nat}(hk:k<h.length)(ha:a<4)(I:PTn sig h loose σ acc)(hacc:acc.length≤1000)(h28:σ.get 28=some (.val (.int (k:Int))))(h46:σ.get 46=some (.val (rnd sig ([a],true)))) :
  ∃ σ' acc',a0y F fuel σ tn2=some (.next σ')∧PTn sig h loose σ' acc'∧acc'.isEmpty=(acc.isEmpty&&!((h.drop (k+1)).any (b0Y g (h.getD k 0) a)))∧acc'.length≤acc.length+4∧σ'.get 28=some (.val (.int (k:Int))):=by
 have hm:h.getD k 0<4:=hh.2 _ (a1x hk)
 let body:Store→D→Option Out:=fun σ d=>(a0P σ (.one 47) d).bind fun σ'=>a0y F fuel σ' tn3
 obtain⟨σ',e,acc',I',h28',h46',hE,hL⟩:=a1f (body:=body) (f:=fun i=>rnd sig ([i],true)) (all:=h.drop (k+1)) (σ:=σ)
  (fun done σ=>∃ acc',PTn sig h loose σ acc'∧σ.get 28=some (.val (.int (k:Int)))∧σ.get 46=some (.val (rnd sig ([a],true)))∧acc'.isEmpty=(acc.isEmpty&&!(done.any (b0Y g (h.getD k 0) a)))∧acc'.length≤acc.length+done.length)
  ⟨acc,I,h28,h46,by simp,c9n _⟩ fun done c rest σ hd ⟨acc',I,h28,h46,hE,hL⟩=>by
   have hc:c<4:=hh.2 c (List.mem_of_mem_drop (show c∈h.drop (k+1) by rw [← hd];simp))
   have hdl:done.length≤4:=by have:=c9o List.length hd;simp at this;lia
   have hb:body σ (rnd sig ([c],true))=a0y F fuel (σ.set 47 (.val (rnd sig ([c],true)))) tn3:=by
    show ((a0P σ (.one 47) _).bind fun σ'=>a0y F fuel σ' _) = _
    rw [a0V I.nm];rfl
   rw [hb]
   have I₁:=I.set (x:=47) (d:=rnd sig ([c],true)) (by decide) (by decide) (by decide)
   have k47:(σ.set 47 (.val (rnd sig ([c],true)))).get 47=some (.val (rnd sig ([c],true))):=a0o
   have k28:(σ.set 47 (.val (rnd sig ([c],true)))).get 28 = _:=(a0d (by decide)).trans h28
   have k46:(σ.set 47 (.val (rnd sig ([c],true)))).get 46 = _:=(a0d (by decide)).trans h46
   generalize σ.set 47 (.val (rnd sig ([c],true)))=σ₁ at *
   have ei:evE F σ₁ (.idx (.var 78) (.var 28))=some (rnd sig ([h.getD k 0],true)):=a1D (a0i I₁.g78) (a0i k28) (b0X hk (by lia))
   have two:∀ {i j:Nat} {ea eb:PE},evE F σ₁ ea=some (rnd sig ([i],true))→evE F σ₁ eb=some (rnd sig ([j],true))→evE F σ₁ (.bin .Add ea eb)=some (rnd sig ([i,j],false)):=fun h1 h2=>a0q h1 h2 (a3D (p:=([_],true)) (q:=([_],true)) (by simp))
   have t:evT F σ₁ c5q=some (b0Y g (h.getD k 0) a c):=c2l (a0Q (two (a0i k46) ei) (a0i I₁.g45) (HL a _ ha hm false)) (fun _=>a0Q (two ei (a0i k47)) (a0i I₁.g45) (HL _ c hm hc false)) fun _ _=>a0Q (op:=.NotIn) (two (a0i k46) (a0i k47)) (a0i I₁.g45) (a1c (HL a c ha hc false) rfl)
   have hifs:=a0U (F:=F) (fuel:=fuel) (A:=[.app 79 (.bin .Add (.bin .Add (.var 46) (.idx (.var 78) (.var 28))) (.var 47))]) (B:=[]) t
   cases hq:b0Y g (h.getD k 0) a c with
   | false=>
    rw [hq] at hifs
    refine⟨σ₁,.inl ((a0c hifs).trans rfl),acc',I₁,k28,k46,?_,by rw [d0D];lia⟩
    rw [hE,List.any_append,List.any_cons,hq]
    simp
   | true=>
    rw [hq] at hifs
    have ap:=a9F (F:=F) (fuel:=fuel) (k:=79) I₁.g79 (a0q (two (a0i k46) ei) (a0i k47) (a3D (p:=([a,h.getD k 0],false)) (q:=([c],true)) (by simp))) (by kernel_rfl) (by lia)
    have hifs':=hifs.trans ((a0c ap).trans rfl)
    refine⟨_,.inl ((a0c hifs').trans rfl),_,⟨I₁.nm.own,(a0d (by decide)).trans I₁.g78,(a0d (by decide)).trans I₁.g45,a0o⟩,(a0d (by decide)).trans k28,(a0d (by decide)).trans k46,?_,by rw [d0D,d0D,d0Z,d0Z];lia⟩
    rw [List.any_append,List.any_cons,hq]
    simp
 have e1:evE F σ (.bin .Add (.var 28) (.int 1))=some (.int ((k+1:Nat):Int)):=a0q (a0i h28) a0u rfl
 have e':=a1E (F:=F) (fuel:=fuel) (t:=.one 47) (iter:=.slice (.var 78) (.yes (.bin .Add (.var 28) (.int 1))) .no) (body:=tn3) (σ:=σ) (by kernel_rfl) (b2k hS.lt hk (by lia) (a0i I.g78) e1) e
 refine⟨σ',acc',(a0c e').trans rfl,I',hE,?_,h28'⟩
 rw [List.length_drop] at hL
 lia
theorem c7T (hS:Sig sig)(HL:a2n sig (lo g) loose)(hh:h.length≤4∧∀ c∈h,c<4){k:Nat}(hk:k<h.length)(I:PTn sig h loose σ acc)(hacc:acc.length≤900)(h28:σ.get 28=some (.val (.int (k:Int)))) :
  ∃ σ' acc',a0y F fuel σ tn1=some (.next σ')∧PTn sig h loose σ' acc'∧acc'.isEmpty=(acc.isEmpty&&!((h.take k).any fun a=>(h.drop (k+1)).any (b0Y g (h.getD k 0) a)))∧acc'.length≤acc.length+16:=by
 let body:Store→D→Option Out:=fun σ d=>(a0P σ (.one 46) d).bind fun σ'=>a0y F fuel σ' tn2
 obtain⟨σ',e,acc',I',h28',hE,hL⟩:=a1f (body:=body) (f:=fun i=>rnd sig ([i],true)) (all:=h.take k) (σ:=σ)
  (fun done σ=>∃ acc',PTn sig h loose σ acc'∧σ.get 28=some (.val (.int (k:Int)))∧acc'.isEmpty=(acc.isEmpty&&!(done.any fun a=>(h.drop (k+1)).any (b0Y g (h.getD k 0) a)))∧acc'.length≤acc.length+4*done.length)
  ⟨acc,I,h28,by simp,c9n _⟩ fun done a rest σ hd ⟨acc',I,h28,hE,hL⟩=>by
   have ha:a<4:=hh.2 a (List.mem_of_mem_take (show a∈h.take k by rw [← hd];simp))
   have hdl:done.length≤4:=by have:=c9o List.length hd;simp at this;lia
   have hb:body σ (rnd sig ([a],true))=a0y F fuel (σ.set 46 (.val (rnd sig ([a],true)))) tn2:=by
    show ((a0P σ (.one 46) _).bind fun σ'=>a0y F fuel σ' _) = _
    rw [a0V I.nm];rfl
   rw [hb]
   obtain⟨σ',acc'',e,I',hE',hL',k28⟩:=c7S (F:=F) (fuel:=fuel) (g:=g) hS HL hh hk ha (I.set (x:=46) (d:=rnd sig ([a],true)) (by decide) (by decide) (by decide)) (by lia) ((a0d (by decide)).trans h28) a0o
   refine⟨σ',.inl e,acc'',I',k28,?_,by rw [d0D,d0Z];lia⟩
   rw [hE',hE,List.any_append,List.any_cons]
   cases acc.isEmpty <;> simp
 have e':=a1E (F:=F) (fuel:=fuel) (t:=.one 46) (iter:=.slice (.var 78) .no (.yes (.var 28))) (body:=tn2) (σ:=σ) (by kernel_rfl) (b8I hS.lt (Nat.le_of_lt hk) (by lia) (a0i I.g78) (a0i h28)) e
 refine⟨σ',acc',(a0c e').trans rfl,I',hE,?_⟩
 rw [List.length_take] at hL
 lia
theorem b8J {m:Nat}(hS:Sig sig)(HL:a2n sig (lo g) loose)(hw:w∈LA.bags):∃ l,runG ids a0p fuel (m+1) 88 [rnd sig ([0,1,2,3],b),rnd sig (w,false),.list loose] none=some (.list l)∧l.isEmpty=!(b3d g (a2a w)):=by
 suffices k:∃ l,a0y (runG ids a0p fuel m) fuel [(38,.val (rnd sig ([0,1,2,3],b))),(51,.val (rnd sig (w,false))),(45,.val (.list loose))] a5j=some (.ret (.list l))∧l.isEmpty=!(b3d g (a2a w)) by
  refine k.elim fun l Z1=>Z1.elim (fun e h=>?_)
  exact⟨l,a1W (df:=⟨88,[38,51,45],[],[],a5j⟩) rfl (by decide) (by decide) rfl rfl rfl e,h⟩
 generalize hF:runG ids a0p fuel m=F
 have hh:(a2a w).length≤4∧∀ c∈a2a w,c<4:=⟨d0X _ _,fun c hc=>a3F c (d0W.mp hc).1⟩
 have nm0:NM [(38,.val (rnd sig ([0,1,2,3],b))),(51,.val (rnd sig (w,false))),(45,.val (.list loose))]:=NM.vals [(38,rnd sig ([0,1,2,3],b)),(51,rnd sig (w,false)),(45,.list loose)]
 have s1:=a0s (F:=F) (fuel:=fuel) (k:=78) nm0 (by kernel_rfl) (by kernel_rfl) (c2m (F:=F) hS hw (b:=b) (σ:=[(38,.val (rnd sig ([0,1,2,3],b))),(51,.val (rnd sig (w,false))),(45,.val (.list loose))]) (by kernel_rfl) (by kernel_rfl))
 have st1:Store.set [(38,.val (rnd sig ([0,1,2,3],b))),(51,.val (rnd sig (w,false))),(45,.val (.list loose))] 78 (.val (rnd sig (a2a w,false)))=[(38,.val (rnd sig ([0,1,2,3],b))),(51,.val (rnd sig (w,false))),(45,.val (.list loose)),(78,.val (rnd sig (a2a w,false)))]:=by kernel_rfl
 rw [st1] at s1
 have s2:evS F fuel [(38,.val (rnd sig ([0,1,2,3],b))),(51,.val (rnd sig (w,false))),(45,.val (.list loose)),(78,.val (rnd sig (a2a w,false)))] (.asg 79 true (.list .nil))=some (.next [(38,.val (rnd sig ([0,1,2,3],b))),(51,.val (rnd sig (w,false))),(45,.val (.list loose)),(78,.val (rnd sig (a2a w,false))),(79,.own [])]):=by kernel_rfl
 have I0:PTn sig (a2a w) loose [(38,.val (rnd sig ([0,1,2,3],b))),(51,.val (rnd sig (w,false))),(45,.val (.list loose)),(78,.val (rnd sig (a2a w,false))),(79,.own [])] []:=⟨by intro p hp y;simp at hp;rcases hp with rfl | rfl | rfl | rfl | rfl <;> simp,by kernel_rfl,by kernel_rfl,by kernel_rfl⟩
 generalize hσ:[(38,Slot.val (rnd sig ([0,1,2,3],b))),(51,.val (rnd sig (w,false))),(45,.val (.list loose)),(78,.val (rnd sig (a2a w,false))),(79,.own [])]=σ₂ at *
 let body:Store→D→Option Out:=fun σ d=>(a0P σ (.one 28) d).bind fun σ'=>a0y F fuel σ' tn1
 obtain⟨σ',e,acc',I',hE,hL⟩:=a1f (body:=body) (f:=fun (i:Nat)=>D.int (i:Int)) (all:=List.range (a2a w).length) (σ:=σ₂)
  (fun done σ=>∃ acc',PTn sig (a2a w) loose σ acc'∧acc'.isEmpty=!(done.any fun k=>((a2a w).take k).any fun a=>((a2a w).drop (k+1)).any (b0Y g ((a2a w).getD k 0) a))∧acc'.length≤16*done.length)
  ⟨[],I0,rfl,c9n _⟩ fun done k rest σ hd ⟨acc',I,hE,hL⟩=>by
   have hk:k<(a2a w).length:=c9R.mp (show k∈List.range (a2a w).length by rw [← hd];simp)
   have hdl:done.length≤4:=by have:=c9o List.length hd;simp at this;lia
   have hb:body σ (.int (k:Int))=a0y F fuel (σ.set 28 (.val (.int (k:Int)))) tn1:=by
    show ((a0P σ (.one 28) _).bind fun σ'=>a0y F fuel σ' _) = _
    rw [a0V I.nm];rfl
   rw [hb]
   obtain⟨σ',acc'',e,I',hE',hL'⟩:=c7T (F:=F) (fuel:=fuel) (g:=g) hS HL hh hk (I.set (x:=28) (d:=.int (k:Int)) (by decide) (by decide) (by decide)) (by lia) a0o
   refine⟨σ',.inl e,acc'',I',?_,by rw [d0D,d0Z];lia⟩
   rw [hE',hE,List.any_append,List.any_cons]
   simp
 have e':=a1E (F:=F) (fuel:=fuel) (t:=.one 28) (iter:=.range1 (.len (.var 78))) (body:=tn1) (σ:=σ₂) (by kernel_rfl) (a1T (a3Y (n:=(a2a w).length) (a0i I0.g78) (c9o some a2b) (by lia)) (by lia)) e
 have f79:=a0H I'.g79 (s':=.val (.list acc')) rfl
 refine⟨acc',?_,hE⟩
 show a0y F fuel _ [_,_,_,_] = _
 exact (a0c s1).trans ((a0c s2).trans ((a0c e').trans (a2u (a0t f79) (a0i f79))))
end
end
section
open LA (lo a2a b3d b9n b5i a0x textsW a3z keyK numN)
noncomputable def b8K (sig:Nat→Nat)(g:List Bool)(barred:List D):Prop:=∀ i j,i<4→j<4→inD (rnd sig ([i,j],false)) (.list barred)=some (b9n g i j)
section
variable {F:Fns}{fuel:Nat}{σ:Store}{sig:Nat→Nat}{w:List Nat}{rs:List Rdr}{barred:List D}{g:List Bool}
noncomputable def b2l:PE:=.comp [50,13,66] (.var 28) (.one 28) (.range1 (.int 4)) (.cons (.cmp .In (.slice (.idx (.var 50) (.var 13)) (.yes (.var 28)) (.yes (.bin .Add (.var 28) (.int 2)))) (.var 66)) .nil) .nil
noncomputable def a9T:PE:=.comp [50,66,59] (.idx (.var 59) (.var 13)) (.one 13) (.range1 (.len (.var 50))) (.cons (.cmp .Eq b2l (.list .nil)) .nil) .nil
theorem b8L (hB:b8K sig g barred)(hw:w∈LA.bags){i:Nat}(hi:i<(textsW w).length){T:D} :
  evT F [(50,.val (a0A sig w)),(66,.val (.list barred)),(59,.val T),(13,.val (.int (i:Int)))] (.cmp .Eq b2l (.list .nil))=some (!(b5i g ((textsW w).getD i []))):=by
 have ht:(textsW w).getD i []∈textsW w:=a1x hi
 have hat:(textsW w)[i]?=some ((textsW w).getD i []):=by rw [c9S,c9T hi];rfl
 have hn:=(a1m hw).1
 generalize (textsW w).getD i []=t at *
 have htm:=a3G hw ht
 have e:evE F [(50,.val (a0A sig w)),(66,.val (.list barred)),(59,.val T),(13,.val (.int (i:Int)))] b2l=some (.list (((List.range 4).filter fun k=>b9n g (t.getD k 0) (t.getD (k+1) 0)).map fun (k:Nat)=>.int (k:Int))):=by
  refine a0F (xs:=List.range 4) (f:=fun (k:Nat)=>.int (k:Int)) (σ₀:=[(50,.val (a0A sig w)),(13,.val (.int (i:Int))),(66,.val (.list barred))]) (a1T (n:=4) rfl (by decide)) (by kernel_rfl) (fun k hk=>?_) (by simp)
  have hk:=c9R.mp hk
  refine⟨[(50,.val (a0A sig w)),(13,.val (.int (i:Int))),(66,.val (.list barred)),(28,.val (.int (k:Int)))],by kernel_rfl,?_,fun _=>⟨by kernel_rfl,by kernel_rfl⟩⟩
  have e1:evE F [(50,.val (a0A sig w)),(13,.val (.int (i:Int))),(66,.val (.list barred)),(28,.val (.int (k:Int)))] (.idx (.var 50) (.var 13))=some (rnd sig (t,false)):=by
   refine a1D (x:=a0A sig w) (y:=.int (i:Int)) (by kernel_rfl) (by kernel_rfl) (a3A ?_ (by rw [d0a];lia))
   rw [d0s,hat]
   rfl
  have e2:evE F [(50,.val (a0A sig w)),(13,.val (.int (i:Int))),(66,.val (.list barred)),(28,.val (.int (k:Int)))] (.bin .Add (.var 28) (.int 2))=some (.int ((k+2:Nat):Int)):=a0q (x:=.int (k:Int)) (by kernel_rfl) a0u rfl
  have e3:evE F [(50,.val (a0A sig w)),(13,.val (.int (i:Int))),(66,.val (.list barred)),(28,.val (.int (k:Int)))] (.slice (.idx (.var 50) (.var 13)) (.yes (.var 28)) (.yes (.bin .Add (.var 28) (.int 2))))=some (rnd sig ([t.getD k 0,t.getD (k+1) 0],false)):=by
   refine a1y e1 (a2v (x:=.int (k:Int)) (by kernel_rfl)) (a2v e2) (a1r (by lia)) (a1r (by lia)) ((b5v (by rw [a2b];lia)).trans ?_)
   show some (D.str ⟨(cut (t.map sig) (some (k:Int)) (some ((k+2:Nat):Int))).toArray⟩ false) = _
   rw [b5t (by lia) (by rw [d0a];lia),← List.map_drop,← List.map_take,Nat.add_sub_cancel_left]
   have h5:=htm.1
   have:(t.drop k).take 2=[t.getD k 0,t.getD (k+1) 0]:=by
    refine List.ext_getElem? fun j=>?_
    rw [List.getElem?_take,List.getElem?_drop]
    obtain rfl | rfl | hj:j=0∨j=1∨2≤j:=by lia
    ·rw [c9r (by decide),c9S,Nat.add_zero,c9T (show k<t.length by lia)];rfl
    ·rw [c9r (by decide),c9S,c9S,c9T (show k+1<t.length by lia)];rfl
    ·rw [c9t (by lia),List.getElem?_eq_none (by simpa using hj)]
   rw [this]
   rfl
  exact a3C (a0Q e3 (y:=.list barred) (by kernel_rfl) (hB _ _ (htm.2 _ (a1x (by rw [htm.1];lia))) (htm.2 _ (a1x (by rw [htm.1];lia)))))
 refine a0Q e (y:=.list []) (by kernel_rfl) (b1V.trans (c9o some ?_))
 unfold b5i
 rw [c9P]
 simp [List.filter_eq_nil_iff]
theorem b8M {α:Type}{l:List α}{d:α}:(List.range l.length).map (fun i=>l.getD i d)=l:=by
 refine List.ext_getElem (by rw [d0a,d0b]) fun i h1 h2=>?_
 rw [List.getElem_map,List.getElem_range,c9S,c9T h2,Option.getD_some]
theorem b0Z (hB:b8K sig g barred)(hw:w∈LA.bags)(h50:σ.get 50=some (.val (a0A sig w)))(h66:σ.get 66=some (.val (.list barred)))(h59:σ.get 59=some (.val (a1d w (a1p sig w rs)))) :
  evE F σ a9T=some (.list (a3H sig w rs (a0x g w))):=by
 have hn:=(a1m hw).1
 have e:=a0F (F:=F) (σ:=σ) (fv:=[50,66,59]) (elt:=.idx (.var 59) (.var 13)) (t:=.one 13) (iter:=.range1 (.len (.var 50))) (ifs:=.cons (.cmp .Eq b2l (.list .nil)) .nil) (xs:=List.range (textsW w).length) (f:=fun (k:Nat)=>.int (k:Int))
  (g:=fun i=>.bytes (a0K (a1p sig w rs ((textsW w).getD i [])))) (p:=fun i=>!(b5i g ((textsW w).getD i []))) (σ₀:=[(50,.val (a0A sig w)),(66,.val (.list barred)),(59,.val (a1d w (a1p sig w rs)))])
  (a1T (a3Y (a0i h50) (c9o some (d0a ..)) (by lia)) (by lia)) (a6H h50 h66 h59) (fun i hi=>?_) (by rw [d0b];lia)
 ·unfold a9T a3H a0x
  rw [e]
  refine c9o (fun l=>some (D.list l)) ?_
  conv=>rhs;rw [← b8M (l:=textsW w) (d:=[]),List.filter_map,d0k]
  rfl
 ·have hi:=c9R.mp hi
  refine⟨[(50,.val (a0A sig w)),(66,.val (.list barred)),(59,.val (a1d w (a1p sig w rs))),(13,.val (.int (i:Int)))],by kernel_rfl,a3C (b8L hB hw hi),fun _=>⟨by kernel_rfl,?_⟩⟩
  refine a1D (x:=a1d w (a1p sig w rs)) (y:=.int (i:Int)) (by kernel_rfl) (by kernel_rfl) (a3A ?_ (by rw [d0a];lia))
  rw [d0s,c9S,c9T hi]
  rfl
noncomputable def c2n:PE:=.comp [87] (.var 46) (.one 46) (.var 65) (.cons (.cmp .NotIn (.var 46) (.var 87)) .nil) .nil
theorem c2o (hS:SigOk sig)(hr:∀ r∈rs,r.Ok)(hw:w∈LA.bags)(h65:σ.get 65=some (.val (.list (a3H sig w rs (a3z (a0l sig rs) (textsW w) [])))))(h87:σ.get 87=some (.val (.list (a3H sig w rs (a0x (a0l sig rs) w))))) :
  evE F σ c2n=some (.list []):=by
 have hmem:∀ t∈a3z (a0l sig rs) (textsW w) [],t∈textsW w:=fun t ht=>(b0V t ht).elim (fun h=>absurd h List.not_mem_nil) id
 have hl:=a8D (g:=a0l sig rs) (l:=textsW w) (acc:=[])
 have hn:=(a1m hw).1
 have e:evE F σ c2n=some (.list (((a3z (a0l sig rs) (textsW w) []).filter fun t=>!((a0x (a0l sig rs) w).any fun u=>keyK (a0l sig rs) u==keyK (a0l sig rs) t)).map fun t=>.bytes (a0K (a1p sig w rs t)))):=by
  refine a0F (xs:=a3z (a0l sig rs) (textsW w) []) (f:=fun t=>.bytes (a0K (a1p sig w rs t))) (σ₀:=[(87,.val (.list (a3H sig w rs (a0x (a0l sig rs) w))))]) (a1e h65 rfl) (a1z h87 nofun) (fun t ht=>?_) (by simp at hl;lia)
  exact⟨[(87,.val (.list (a3H sig w rs (a0x (a0l sig rs) w)))),(46,.val (.bytes (a0K (a1p sig w rs t))))],by kernel_rfl,a3C (a0Q (op:=.NotIn) (x:=.bytes (a0K (a1p sig w rs t))) (y:=.list (a3H sig w rs (a0x (a0l sig rs) w))) (by kernel_rfl) (by kernel_rfl) (a1c (b9y hS hr hw (hmem t ht) fun u hu=>(d0W.mp hu).1) rfl)),fun _=>⟨by kernel_rfl,by kernel_rfl⟩⟩
 rw [e,List.filter_eq_nil_iff.mpr fun t ht=>?_]
 ·rfl
 ·refine ((LA.ends_of (a6I sig rs) hw).1 t (hmem t ht)).elim fun s Z1=>Z1.elim (fun hs e=>?_)
  rw [show ((a0x (a0l sig rs) w).any fun u=>keyK (a0l sig rs) u==keyK (a0l sig rs) t)=true from List.any_eq_true.mpr ⟨s,hs,c9s.mpr e⟩]
  exact c9p
theorem b1a {op:CmpOp}{ea eb:PE}{x y:D}{q:Bool}(h1:evE F σ ea=some x)(h2:evE F σ eb=some y)(h3:a3R op x y=some q):evE F σ (.cmp op ea eb)=some (.bool q):=by
 show (evE F σ ea).bind _ = _
 exact a0b h1 (a0b h2 (a1c h3 rfl))
theorem b8N {m:Nat}(hF:F=runG ids a0p fuel (m+5)){b:Bool}(hS:SigOk sig)(hr:∀ r∈rs,r.Ok)(hl:rs.length≤4)(hw:w∈LA.bags){S:D}(r80:F 80 [S] none=some (.tup [.list (rs.map a2d),rnd sig ([0,1,2,3],b),rnd sig (w,false)]))
  (hB:b8K sig (a0l sig rs) barred) (r82:F 82 [rnd sig ([0,1,2,3],b),.list (a4O sig rs)] none=some (.list barred)):a0y F fuel [(35,.val S)] b0H=some (.ret (.bool true)):=by
 have hg:=a6I sig rs
 have HL:=b1X (rs:=rs) hS
 have r81:=b5H (fuel:=fuel) (m:=m+3) (b:=b) hS hr (rs:=rs) (by lia)
 have r83:=b5L (fuel:=fuel) (m:=m+4) (b:=b) hS.toSig hw
 have r84:=b8B (fuel:=fuel) (m:=m+1) hS hw hr hl
 have r85:=b3r (fuel:=fuel) (m:=m+4) hS hr hw
 have r86:=b0W (fuel:=fuel) (m:=m+4) (b:=b) hS.toSig hg HL hw
 refine (b8J (fuel:=fuel) (m:=m+4) (b:=b) (g:=a0l sig rs) hS.toSig HL hw).elim fun tl Z1=>Z1.elim (fun r88 htl=>?_)
 rw [← hF] at r81 r83 r84 r85 r86 r88
 have ends:=LA.ends_of hg hw
 have hn:=(a1m hw).1
 have hul:=a8D (g:=a0l sig rs) (l:=textsW w) (acc:=[])
 generalize hR:D.list (rs.map a2d)=R at *
 generalize hSg:rnd sig ([0,1,2,3],b)=G at *
 generalize hLo:a4O sig rs=LO at *
 have v:∀ {l:List (Nat×D)},NM (l.map fun p=>(p.1,.val p.2)):=NM.vals _
 have s1:=a8y (F:=F) (fuel:=fuel) (xs:=[36,38,51]) (a0Z (F:=F) (f:=80) (a2c (F:=F) (σ:=[(35,.val S)]) (ea:=.var 35) (by kernel_rfl) (by kernel_rfl)) r80) (a5n (NM.vals [(35,S)]))
 have st1:((Store.set [(35,.val S)] 36 (.val R)).set 38 (.val G)).set 51 (.val (rnd sig (w,false)))=[(35,.val S),(36,.val R),(38,.val G),(51,.val (rnd sig (w,false)))]:=by kernel_rfl
 rw [st1] at s1
 have s2:=a0s (F:=F) (fuel:=fuel) (k:=45) (NM.vals [(35,S),(36,R),(38,G),(51,rnd sig (w,false))]) (by kernel_rfl) (by kernel_rfl) (a0Z (F:=F) (f:=81) (args:=.cons (.var 36) (.cons (.var 38) .nil)) (a2x (by kernel_rfl) (by kernel_rfl) (by kernel_rfl) (by kernel_rfl)) r81)
 have st2:Store.set ([(35,S),(36,R),(38,G),(51,rnd sig (w,false))].map fun p=>(p.1,Slot.val p.2)) 45 (.val (.list LO))=[(35,S),(36,R),(38,G),(51,rnd sig (w,false)),(45,.list LO)].map fun p=>(p.1,Slot.val p.2):=by kernel_rfl
 rw [st2] at s2
 have s3:=a0s (F:=F) (fuel:=fuel) (k:=66) (NM.vals [(35,S),(36,R),(38,G),(51,rnd sig (w,false)),(45,.list LO)]) (by kernel_rfl) (by kernel_rfl) (a0Z (F:=F) (f:=82) (args:=.cons (.var 38) (.cons (.var 45) .nil)) (a2x (by kernel_rfl) (by kernel_rfl) (by kernel_rfl) (by kernel_rfl)) r82)
 have st3:Store.set ([(35,S),(36,R),(38,G),(51,rnd sig (w,false)),(45,.list LO)].map fun p=>(p.1,Slot.val p.2)) 66 (.val (.list barred))=[(35,S),(36,R),(38,G),(51,rnd sig (w,false)),(45,.list LO),(66,.list barred)].map fun p=>(p.1,Slot.val p.2):=by kernel_rfl
 rw [st3] at s3
 have s4:evS F fuel ([(35,S),(36,R),(38,G),(51,rnd sig (w,false)),(45,.list LO),(66,.list barred)].map fun p=>(p.1,Slot.val p.2)) (.ifs (.cmp .Is (.var 66) .none) [.ret (.bool false)] [])=some (.next ([(35,S),(36,R),(38,G),(51,rnd sig (w,false)),(45,.list LO),(66,.list barred)].map fun p=>(p.1,Slot.val p.2))):=by kernel_rfl
 have s5:=a0s (F:=F) (fuel:=fuel) (k:=50) (NM.vals [(35,S),(36,R),(38,G),(51,rnd sig (w,false)),(45,.list LO),(66,.list barred)]) (by kernel_rfl) (by kernel_rfl) (a0Z (F:=F) (f:=83) (args:=.cons (.var 38) (.cons (.var 51) .nil)) (a2x (by kernel_rfl) (by kernel_rfl) (by kernel_rfl) (by kernel_rfl)) r83)
 have st5:Store.set ([(35,S),(36,R),(38,G),(51,rnd sig (w,false)),(45,.list LO),(66,.list barred)].map fun p=>(p.1,Slot.val p.2)) 50 (.val (a0A sig w))=[(35,S),(36,R),(38,G),(51,rnd sig (w,false)),(45,.list LO),(66,.list barred),(50,a0A sig w)].map fun p=>(p.1,Slot.val p.2):=by kernel_rfl
 rw [st5] at s5
 have s6:=a0s (F:=F) (fuel:=fuel) (k:=59) (NM.vals [(35,S),(36,R),(38,G),(51,rnd sig (w,false)),(45,.list LO),(66,.list barred),(50,a0A sig w)]) (by kernel_rfl) (by kernel_rfl) (a0Z (F:=F) (f:=84) (args:=.cons (.var 36) (.cons (.var 51) (.cons (.var 50) .nil))) (b1S (by kernel_rfl) (by kernel_rfl) (by kernel_rfl) (by kernel_rfl) (by kernel_rfl) (by kernel_rfl)) r84)
 have st6:Store.set ([(35,S),(36,R),(38,G),(51,rnd sig (w,false)),(45,.list LO),(66,.list barred),(50,a0A sig w)].map fun p=>(p.1,Slot.val p.2)) 59 (.val (a1d w (a1p sig w rs)))=[(35,S),(36,R),(38,G),(51,rnd sig (w,false)),(45,.list LO),(66,.list barred),(50,a0A sig w),(59,a1d w (a1p sig w rs))].map fun p=>(p.1,Slot.val p.2):=by kernel_rfl
 rw [st6] at s6
 have s7:=a0s (F:=F) (fuel:=fuel) (k:=65) (NM.vals [(35,S),(36,R),(38,G),(51,rnd sig (w,false)),(45,.list LO),(66,.list barred),(50,a0A sig w),(59,a1d w (a1p sig w rs))]) (by kernel_rfl) (by kernel_rfl) (a0Z (F:=F) (f:=85) (args:=.cons (.var 59) .nil) (a2c (by kernel_rfl) (by kernel_rfl)) r85)
 have nm7:=(NM.vals [(35,S),(36,R),(38,G),(51,rnd sig (w,false)),(45,.list LO),(66,.list barred),(50,a0A sig w),(59,a1d w (a1p sig w rs))]).val (x:=65) (d:=.list (a3H sig w rs (a3z (a0l sig rs) (textsW w) [])))
 have g38:(Store.set ([(35,S),(36,R),(38,G),(51,rnd sig (w,false)),(45,.list LO),(66,.list barred),(50,a0A sig w),(59,a1d w (a1p sig w rs))].map fun p=>(p.1,Slot.val p.2)) 65 (.val (.list (a3H sig w rs (a3z (a0l sig rs) (textsW w) []))))).get 38=some (.val G):=by kernel_rfl
 have g51:(Store.set ([(35,S),(36,R),(38,G),(51,rnd sig (w,false)),(45,.list LO),(66,.list barred),(50,a0A sig w),(59,a1d w (a1p sig w rs))].map fun p=>(p.1,Slot.val p.2)) 65 (.val (.list (a3H sig w rs (a3z (a0l sig rs) (textsW w) []))))).get 51=some (.val (rnd sig (w,false))):=by kernel_rfl
 have g45:(Store.set ([(35,S),(36,R),(38,G),(51,rnd sig (w,false)),(45,.list LO),(66,.list barred),(50,a0A sig w),(59,a1d w (a1p sig w rs))].map fun p=>(p.1,Slot.val p.2)) 65 (.val (.list (a3H sig w rs (a3z (a0l sig rs) (textsW w) []))))).get 45=some (.val (.list LO)):=by kernel_rfl
 have g66:(Store.set ([(35,S),(36,R),(38,G),(51,rnd sig (w,false)),(45,.list LO),(66,.list barred),(50,a0A sig w),(59,a1d w (a1p sig w rs))].map fun p=>(p.1,Slot.val p.2)) 65 (.val (.list (a3H sig w rs (a3z (a0l sig rs) (textsW w) []))))).get 66=some (.val (.list barred)):=by kernel_rfl
 have g50:(Store.set ([(35,S),(36,R),(38,G),(51,rnd sig (w,false)),(45,.list LO),(66,.list barred),(50,a0A sig w),(59,a1d w (a1p sig w rs))].map fun p=>(p.1,Slot.val p.2)) 65 (.val (.list (a3H sig w rs (a3z (a0l sig rs) (textsW w) []))))).get 50=some (.val (a0A sig w)):=by kernel_rfl
 have g59:(Store.set ([(35,S),(36,R),(38,G),(51,rnd sig (w,false)),(45,.list LO),(66,.list barred),(50,a0A sig w),(59,a1d w (a1p sig w rs))].map fun p=>(p.1,Slot.val p.2)) 65 (.val (.list (a3H sig w rs (a3z (a0l sig rs) (textsW w) []))))).get 59=some (.val (a1d w (a1p sig w rs))):=by kernel_rfl
 have g65:(Store.set ([(35,S),(36,R),(38,G),(51,rnd sig (w,false)),(45,.list LO),(66,.list barred),(50,a0A sig w),(59,a1d w (a1p sig w rs))].map fun p=>(p.1,Slot.val p.2)) 65 (.val (.list (a3H sig w rs (a3z (a0l sig rs) (textsW w) []))))).get 65=some (.val (.list (a3H sig w rs (a3z (a0l sig rs) (textsW w) [])))):=a0o
 generalize Store.set ([(35,S),(36,R),(38,G),(51,rnd sig (w,false)),(45,.list LO),(66,.list barred),(50,a0A sig w),(59,a1d w (a1p sig w rs))].map fun p=>(p.1,Slot.val p.2)) 65 (.val (.list (a3H sig w rs (a3z (a0l sig rs) (textsW w) []))))=σ₇ at *
 have lenU:∀ {σ:Store},σ.get 65=some (.val (.list (a3H sig w rs (a3z (a0l sig rs) (textsW w) []))))→evE F σ (.len (.var 65))=some (.int ((numN (a0l sig rs) w:Nat):Int)):=fun h=>a3Y (a0i h) (c9o some (d0a ..)) (show (a3z (a0l sig rs) (textsW w) []).length≤16777216 from c9v hul (by rw [List.length_nil,d0E];exact c9v hn (by decide)))
 have args3:∀ {σ:Store},σ.get 38=some (.val G)→σ.get 51=some (.val (rnd sig (w,false)))→σ.get 45=some (.val (.list LO))→a2V F σ (.cons (.var 38) (.cons (.var 51) (.cons (.var 45) .nil)))=some [G,rnd sig (w,false),.list LO]:=fun h1 h2 h3=>b1S (a0t h1) (a0t h2) (a0t h3) (a0i h1) (a0i h2) (a0i h3)
 have s8:evS F fuel σ₇ (.ifs (.cmp .NotEq (.len (.var 65)) (.call 86 (.cons (.var 38) (.cons (.var 51) (.cons (.var 45) .nil))) .no)) [.ret (.bool false)] [])=some (.next σ₇):=by
  refine (a0U (q:=false) (a0Q (op:=.NotEq) (lenU g65) (a0Z (args3 g38 g51 g45) r86) ?_)).trans rfl
  exact c9o (fun b:Bool=>some (!b)) (c9y ((numN (a0l sig rs) w:Nat):Int))
 have s9:=a0s (F:=F) (fuel:=fuel) (k:=87) nm7 (by kernel_rfl) (by kernel_rfl) (b0Z (F:=F) hB hw g50 g66 g59)
 have nm9:=nm7.val (x:=87) (d:=.list (a3H sig w rs (a0x (a0l sig rs) w)))
 have k38:(σ₇.set 87 (.val (.list (a3H sig w rs (a0x (a0l sig rs) w))))).get 38 = _:=(a0d (by decide)).trans g38
 have k51:(σ₇.set 87 (.val (.list (a3H sig w rs (a0x (a0l sig rs) w))))).get 51 = _:=(a0d (by decide)).trans g51
 have k45:(σ₇.set 87 (.val (.list (a3H sig w rs (a0x (a0l sig rs) w))))).get 45 = _:=(a0d (by decide)).trans g45
 have k65:(σ₇.set 87 (.val (.list (a3H sig w rs (a0x (a0l sig rs) w))))).get 65 = _:=(a0d (by decide)).trans g65
 have k87:(σ₇.set 87 (.val (.list (a3H sig w rs (a0x (a0l sig rs) w))))).get 87=some (.val (.list (a3H sig w rs (a0x (a0l sig rs) w)))):=a0o
 generalize σ₇.set 87 (.val (.list (a3H sig w rs (a0x (a0l sig rs) w))))=σ₉ at *
 have s10:evS F fuel σ₉ (.ifs (.cmp .NotEq c2n (.list .nil)) [.ret (.bool false)] [])=some (.next σ₉):=(a0U (q:=false) (a0Q (op:=.NotEq) (c2o (F:=F) hS hr hw k65 k87) (y:=.list []) (by kernel_rfl) rfl)).trans rfl
 have hst:(a0x (a0l sig rs) w).length≤60:=c9v (d0X _ _) hn
 have f38:=a0H k38 (s':=.val G) rfl
 have f51:=a0H k51 (s':=.val (rnd sig (w,false))) rfl
 have f45:=a0H k45 (s':=.val (.list LO)) rfl
 have f65:=a0H k65 (s':=.val (.list (a3H sig w rs (a3z (a0l sig rs) (textsW w) [])))) rfl
 have f87:=a0H k87 (s':=.val (.list (a3H sig w rs (a0x (a0l sig rs) w)))) rfl
 have s11:a0y F fuel σ₉ [.ret (.cmp .Eq (.cmp .Eq (.len (.var 87)) (.len (.var 65))) (.cmp .Eq (.call 88 (.cons (.var 38) (.cons (.var 51) (.cons (.var 45) .nil))) .no) (.list .nil)))]=some (.ret (.bool true)):=by
  refine a2u (by kernel_rfl) (b1a (b1a (a3Y (a0i f87) (c9o some (d0a ..)) (by lia)) (lenU f65) a6G) (b1a (a0Z (args3 f38 f51 f45) r88) (y:=.list []) (by kernel_rfl) b1V) ?_)
  rw [htl]
  exact c9o some ends.2
 show a0y F fuel _ [_,_,_,_,_,_,_,_,_,_,_] = _
 exact (a0c s1).trans ((a0c s2).trans ((a0c s3).trans ((a0c s4).trans ((a0c s5).trans ((a0c s6).trans ((a0c s7).trans ((a0c s8).trans ((a0c s9).trans ((a0c s10).trans s11)))))))))
end
end
section
noncomputable def b3u:PE:=match a2Y with
 | [_,_,_,.while t _,_,_]=>t
 | _=>.none
noncomputable def b8O:List PS:=match a2Y with
 | [_,_,_,.while _ b,_,_]=>b
 | _=>[]
noncomputable def a2o (L:List Nat)(s:Nat):Str:=⟨([42,91]++L++[93,s,42]).toArray⟩
noncomputable def st0 (p:Str)(res:List D)(i n:Nat)(R:Store):Store:=(23,.val (.str p false)) :: (24,.val .star) :: (94,.val (.str ⟨#[46]⟩ false)) :: (20,.own res) :: (21,.meth 20) :: (13,.val (.int (i:Int))) :: (22,.val (.int (n:Int))) :: R
noncomputable def b2m (L:List Nat):List Nat:=L.flatMap fun c=>bif c==38||c==45 then [92,c] else [c]
noncomputable def brX (L:List Nat):Str:=⟨([91]++b2m L++[93]).toArray⟩
noncomputable def st2R (L:List Nat):Store:=(4,.val (.str ⟨#[91]⟩ true)) :: (25,.val (.int ((L.length+2:Nat):Int))) :: (26,.val (.str ⟨(b2m L).toArray⟩ false)) :: (bif L.contains 45 then [(27,.own [.str ⟨L.toArray⟩ false]),(28,.val (.int (-1))),(29,.val (.str ⟨L.toArray⟩ false))] else [])
noncomputable def a6W:List (List Nat):=a0D.flatMap fun a=>[a] :: ((a0D.filter fun b=>b != a&&b != 45).flatMap fun b=>[a,b] :: ((a0D.filter fun c=>c != a&&c != b&&c != 45).map fun c=>[a,b,c]))
theorem it2 (F:Fns)(s:Nat):(a6W.map fun L=>a0y F 60 (st0 (a2o L s) [.star] 1 (L.length+5) [(4,.val (.str ⟨#[42]⟩ true))]) b8O)=a6W.map fun L=>some (.next (st0 (a2o L s) [.star,.str (brX L) false] (L.length+3) (L.length+5) (st2R L))):=by kernel_rfl
end
section
noncomputable def b3v (s:Nat):List Nat:=bif a0W.contains s then [92,s] else [s]
noncomputable def wh (F:Fns)(n:Nat)(σ:Store):Option Out:=a2B (fun σ=>evT F σ b3u) (fun σ=>a0y F 60 σ b8O) n σ
noncomputable def endP (X:Str)(s:Nat):List D:=[.star,.str X,.str ⟨(b3v s).toArray⟩,.star]
theorem c9b (F:Fns)(a s:Nat):wh F 60 (st0 (a2o [a] s) [] 0 6 [])=wh F 59 (st0 (a2o [a] s) [.star] 1 6 [(4,.val (.str ⟨#[42]⟩ true))]):=a1I (n:=59) (by kernel_rfl) (by kernel_rfl) rfl
theorem c9c (F:Fns)(a s:Nat):evT F (st0 (a2o [a] s) [.star] 1 6 [(4,.val (.str ⟨#[42]⟩ true))]) b3u=some true:=by kernel_rfl
theorem e1n (m a:Nat)(X:Str)(v w:D):(a0D.map fun s=>wh (runG ids a0p 60 (m+1)) 58 (st0 (a2o [a] s) [.star,.str X] 4 6 [(4,.val (.str ⟨#[91]⟩ true)),(25,.val v),(26,.val w)]))=a0D.map fun s=>some (.next (st0 (a2o [a] s) (endP X s) 6 6 [(4,.val (.str ⟨#[42]⟩ true)),(25,.val v),(26,.val w)])):=by kernel_rfl
theorem e1h (m a:Nat)(X:Str)(v w x y:D)(l:List D):(a0D.map fun s=>wh (runG ids a0p 60 (m+1)) 58 (st0 (a2o [a] s) [.star,.str X] 4 6 [(4,.val (.str ⟨#[91]⟩ true)),(25,.val v),(26,.val w),(27,.own l),(28,.val x),(29,.val y)]))=a0D.map fun s=>some (.next (st0 (a2o [a] s) (endP X s) 6 6 [(4,.val (.str ⟨#[42]⟩ true)),(25,.val v),(26,.val w),(27,.own l),(28,.val x),(29,.val y)])):=by kernel_rfl
theorem c9d (F:Fns)(a b s:Nat):wh F 60 (st0 (a2o [a,b] s) [] 0 7 [])=wh F 59 (st0 (a2o [a,b] s) [.star] 1 7 [(4,.val (.str ⟨#[42]⟩ true))]):=a1I (n:=59) (by kernel_rfl) (by kernel_rfl) rfl
theorem c9e (F:Fns)(a b s:Nat):evT F (st0 (a2o [a,b] s) [.star] 1 7 [(4,.val (.str ⟨#[42]⟩ true))]) b3u=some true:=by kernel_rfl
theorem e2n (m a b:Nat)(X:Str)(v w:D):(a0D.map fun s=>wh (runG ids a0p 60 (m+1)) 58 (st0 (a2o [a,b] s) [.star,.str X] 5 7 [(4,.val (.str ⟨#[91]⟩ true)),(25,.val v),(26,.val w)]))=a0D.map fun s=>some (.next (st0 (a2o [a,b] s) (endP X s) 7 7 [(4,.val (.str ⟨#[42]⟩ true)),(25,.val v),(26,.val w)])):=by kernel_rfl
theorem e2h (m a b:Nat)(X:Str)(v w x y:D)(l:List D):(a0D.map fun s=>wh (runG ids a0p 60 (m+1)) 58 (st0 (a2o [a,b] s) [.star,.str X] 5 7 [(4,.val (.str ⟨#[91]⟩ true)),(25,.val v),(26,.val w),(27,.own l),(28,.val x),(29,.val y)]))=a0D.map fun s=>some (.next (st0 (a2o [a,b] s) (endP X s) 7 7 [(4,.val (.str ⟨#[42]⟩ true)),(25,.val v),(26,.val w),(27,.own l),(28,.val x),(29,.val y)])):=by kernel_rfl
theorem c9f (F:Fns)(a b c s:Nat):wh F 60 (st0 (a2o [a,b,c] s) [] 0 8 [])=wh F 59 (st0 (a2o [a,b,c] s) [.star] 1 8 [(4,.val (.str ⟨#[42]⟩ true))]):=a1I (n:=59) (by kernel_rfl) (by kernel_rfl) rfl
theorem c9g (F:Fns)(a b c s:Nat):evT F (st0 (a2o [a,b,c] s) [.star] 1 8 [(4,.val (.str ⟨#[42]⟩ true))]) b3u=some true:=by kernel_rfl
theorem e3n (m a b c:Nat)(X:Str)(v w:D):(a0D.map fun s=>wh (runG ids a0p 60 (m+1)) 58 (st0 (a2o [a,b,c] s) [.star,.str X] 6 8 [(4,.val (.str ⟨#[91]⟩ true)),(25,.val v),(26,.val w)]))=a0D.map fun s=>some (.next (st0 (a2o [a,b,c] s) (endP X s) 8 8 [(4,.val (.str ⟨#[42]⟩ true)),(25,.val v),(26,.val w)])):=by kernel_rfl
theorem e3h (m a b c:Nat)(X:Str)(v w x y:D)(l:List D):(a0D.map fun s=>wh (runG ids a0p 60 (m+1)) 58 (st0 (a2o [a,b,c] s) [.star,.str X] 6 8 [(4,.val (.str ⟨#[91]⟩ true)),(25,.val v),(26,.val w),(27,.own l),(28,.val x),(29,.val y)]))=a0D.map fun s=>some (.next (st0 (a2o [a,b,c] s) (endP X s) 8 8 [(4,.val (.str ⟨#[42]⟩ true)),(25,.val v),(26,.val w),(27,.own l),(28,.val x),(29,.val y)])):=by kernel_rfl
noncomputable def RB2 (L:List Nat)(R:Store):Prop:=(∃ v w,R=[(4,.val (.str ⟨#[91]⟩ true)),(25,.val v),(26,.val w)])∨∃ v w x y l,R=[(4,.val (.str ⟨#[91]⟩ true)),(25,.val v),(26,.val w),(27,.own l),(28,.val x),(29,.val y)]
theorem c7U (L:List Nat):RB2 L (st2R L):=by
 unfold st2R
 cases L.contains 45 with
 | true=>exact .inr ⟨_,_,_,_,_,rfl⟩
 | false=>exact .inl ⟨_,_,rfl⟩
noncomputable def c5Z (o:Option Out)(X:Str)(s n:Nat)(L:List Nat):Prop:=∃ R,o=some (.next (st0 (a2o L s) (endP X s) n n ((4,.val (.str ⟨#[42]⟩ true)) :: R)))
theorem c7V {m a:Nat}{X:Str}{s:Nat}(hs:s∈a0D){R:Store}(hR:RB2 [a] R):c5Z (wh (runG ids a0p 60 (m+1)) 58 (st0 (a2o [a] s) [.star,.str X] 4 6 R)) X s 6 [a]:=by
 rcases hR with⟨v,w,rfl⟩ | ⟨v,w,x,y,l,rfl⟩
 ·exact⟨_,List.map_inj_left.mp (e1n m a X v w) s hs⟩
 ·exact⟨_,List.map_inj_left.mp (e1h m a X v w x y l) s hs⟩
theorem c7W {m a b:Nat}{X:Str}{s:Nat}(hs:s∈a0D){R:Store}(hR:RB2 [a,b] R):c5Z (wh (runG ids a0p 60 (m+1)) 58 (st0 (a2o [a,b] s) [.star,.str X] 5 7 R)) X s 7 [a,b]:=by
 rcases hR with⟨v,w,rfl⟩ | ⟨v,w,x,y,l,rfl⟩
 ·exact⟨_,List.map_inj_left.mp (e2n m a b X v w) s hs⟩
 ·exact⟨_,List.map_inj_left.mp (e2h m a b X v w x y l) s hs⟩
theorem c7X {m a b c:Nat}{X:Str}{s:Nat}(hs:s∈a0D){R:Store}(hR:RB2 [a,b,c] R):c5Z (wh (runG ids a0p 60 (m+1)) 58 (st0 (a2o [a,b,c] s) [.star,.str X] 6 8 R)) X s 8 [a,b,c]:=by
 rcases hR with⟨v,w,rfl⟩ | ⟨v,w,x,y,l,rfl⟩
 ·exact⟨_,List.map_inj_left.mp (e3n m a b c X v w) s hs⟩
 ·exact⟨_,List.map_inj_left.mp (e3h m a b c X v w x y l) s hs⟩
theorem b6n:(a6W.all fun L=>L.length==1||L.length==2||L.length==3)=true:=by decide +kernel
noncomputable def c9l (o:Option Out):Option D:=o.bind Out.res
theorem b8P {m:Nat}{L:List Nat}(hL:L∈a6W){s:Nat}(hs:s∈a0D):c5Z (wh (runG ids a0p 60 (m+1)) 60 (st0 (a2o L s) [] 0 (L.length+5) [])) (brX L) s (L.length+5) L:=by
 have h2:=List.map_inj_left.mp (it2 (runG ids a0p 60 (m+1)) s) L hL
 have hR:=c7U L
 have hl:=c9Q.mp b6n L hL
 have hl:L.length=1∨L.length=2∨L.length=3:=by
  rcases or2 hl with h | h
  ·exact (or2 h).elim (fun h=>.inl (c9K h)) fun h=>.inr (.inl (c9K h))
  ·exact .inr (.inr (c9K h))
 generalize brX L=X at *
 generalize st2R L=R at *
 rcases hl with h | h | h
 ·obtain⟨a,rfl⟩:=List.length_eq_one_iff.mp h
  rw [show [a].length+5=6 from rfl] at *
  rw [c9b,show wh (runG ids a0p 60 (m+1)) 59 _=wh (runG ids a0p 60 (m+1)) 58 _ from a1I (n:=58) (c9c _ a s) h2 rfl]
  exact c7V hs hR
 ·obtain⟨a,r,rfl,hr⟩:=a0C h
  obtain⟨b,rfl⟩:=List.length_eq_one_iff.mp hr
  rw [show [a,b].length+5=7 from rfl] at *
  rw [c9d,show wh (runG ids a0p 60 (m+1)) 59 _=wh (runG ids a0p 60 (m+1)) 58 _ from a1I (n:=58) (c9e _ a b s) h2 rfl]
  exact c7W hs hR
 ·obtain⟨a,r,rfl,hr⟩:=a0C h
  obtain⟨b,q,rfl,hq⟩:=a0C hr
  obtain⟨c,rfl⟩:=List.length_eq_one_iff.mp hq
  rw [show [a,b,c].length+5=8 from rfl] at *
  rw [c9f,show wh (runG ids a0p 60 (m+1)) 59 _=wh (runG ids a0p 60 (m+1)) 58 _ from a1I (n:=58) (c9g _ a b c s) h2 rfl]
  exact c7X hs hR
theorem c2p {L:List Nat}{s:Nat}:(a2o L s).length=L.length+5:=by
 unfold a2o
 rw [a2m]
 simp
theorem b6o {F:Fns}{fuel:Nat}{σ:Store}{t:PE}(h:evT F σ t=some true):evS F fuel σ (.assert t)=some (.next σ):=by
 show (evT F σ t).bind _ = _
 exact a0b h rfl
theorem c2q {m:Nat}{L:List Nat}(hL:L∈a6W){s:Nat}(hs:s∈a0D)(hle:L.length≤3):runG ids a0p 60 (m+2) 89 [.str (a2o L s) false,.star,.str ⟨#[46]⟩] none=some (.list (endP (brX L) s)):=by
 refine a1W (df:=⟨89,[23,24,94],[],[],a2Y⟩) rfl (by decide) (by decide) rfl rfl rfl ?_
 refine (b8P (m:=m) hL hs).elim fun R hw=>?_
 generalize hF:runG ids a0p 60 (m+1)=F at *
 have hn:evE F [(23,.val (.str (a2o L s) false)),(24,.val .star),(94,.val (.str ⟨#[46]⟩ false)),(20,.own []),(21,.meth 20)] (.len (.var 23))=some (.int ((L.length+5:Nat):Int)):=a3Y (x:=.str (a2o L s) false) (by kernel_rfl) (c9o some c2p) (by lia)
 have s3:evS F 60 [(23,.val (.str (a2o L s) false)),(24,.val .star),(94,.val (.str ⟨#[46]⟩ false)),(20,.own []),(21,.meth 20)] (.asgT [13,22] (.tup (.cons (.int 0) (.cons (.len (.var 23)) .nil))))=some (.next (st0 (a2o L s) [] 0 (L.length+5) [])):=
  a8y (b0M (by kernel_rfl) (by kernel_rfl) a0u hn) (by kernel_rfl)
 show a0y F 60 [(23,.val (.str (a2o L s) false)),(24,.val .star),(94,.val (.str ⟨#[46]⟩ false))] (.asg 20 true (.list .nil) :: .getm 21 20 :: .asgT [13,22] (.tup (.cons (.int 0) (.cons (.len (.var 23)) .nil))) :: .while b3u b8O :: [.assert (.cmp .Eq (.var 13) (.var 22)),.ret (.var 20)]) = _
 refine (a0c (σ':=[(23,.val (.str (a2o L s) false)),(24,.val .star),(94,.val (.str ⟨#[46]⟩ false)),(20,.own [])]) (by kernel_rfl)).trans ((a0c (σ':=[(23,.val (.str (a2o L s) false)),(24,.val .star),(94,.val (.str ⟨#[46]⟩ false)),(20,.own []),(21,.meth 20)]) (by kernel_rfl)).trans ((a0c s3).trans ((a0c (show evS F 60 _ (.while b3u b8O) = _ from hw)).trans ?_)))
 generalize endP (brX L) s=P
 have s5:evS F 60 (st0 (a2o L s) P (L.length+5) (L.length+5) ((4,.val (.str ⟨#[42]⟩ true)) :: R)) (.assert (.cmp .Eq (.var 13) (.var 22)))=some (.next (st0 (a2o L s) P (L.length+5) (L.length+5) ((4,.val (.str ⟨#[42]⟩ true)) :: R))):=by
  have t:evT F (st0 (a2o L s) P (L.length+5) (L.length+5) ((4,.val (.str ⟨#[42]⟩ true)) :: R)) (.cmp .Eq (.var 13) (.var 22))=some true:=a0Q (x:=.int ((L.length+5:Nat):Int)) (y:=.int ((L.length+5:Nat):Int)) (by kernel_rfl) (by kernel_rfl) (a6G.trans (c9o some (c9y _)))
  exact b6o t
 rw [a0c s5]
 have f20:=a0H (σ:=st0 (a2o L s) P (L.length+5) (L.length+5) ((4,.val (.str ⟨#[42]⟩ true)) :: R)) (x:=20) (s:=.own P) (s':=.val (.list P)) (by kernel_rfl) rfl
 exact a2u (a0t f20) (a0i f20)
end
section
noncomputable def a8E (E Y:List Nat):List Nat:=[40,63,115,58,40,63,62,46,42,63,91]++E++[93]++Y++[41,46,42,41,92,90]
noncomputable def c5r (E Y:List Nat):D:=.list [.star,.str ⟨([91]++E++[93]).toArray⟩,.str ⟨Y.toArray⟩,.star]
structure Cuts (E Y:List Nat):Prop where
 join:∀ m,runG ids a0p 60 (m+2) 90 [c5r E Y,.star] none=some (.str ⟨(a8E E Y).toArray⟩)
 head:a3l (.str ⟨(a8E E Y).toArray⟩) none (some 11)=some (.str ⟨#[40,63,115,58,40,63,62,46,42,63,91]⟩)
 tail:a3l (.str ⟨(a8E E Y).toArray⟩) (some (-6)) none=some (.str ⟨#[41,46,42,41,92,90]⟩)
 mid:a3l (.str ⟨(a8E E Y).toArray⟩) (some 11) (some (-6))=some (.str ⟨(E++[93]++Y).toArray⟩)
theorem c5s (a y:Nat):Cuts [a] [y]:=⟨fun m=>by kernel_rfl,by kernel_rfl,by kernel_rfl,by kernel_rfl⟩
theorem c5t (a z y:Nat):Cuts [a] [z,y]:=⟨fun m=>by kernel_rfl,by kernel_rfl,by kernel_rfl,by kernel_rfl⟩
theorem c5u (a b y:Nat):Cuts [a,b] [y]:=⟨fun m=>by kernel_rfl,by kernel_rfl,by kernel_rfl,by kernel_rfl⟩
theorem c5v (a b z y:Nat):Cuts [a,b] [z,y]:=⟨fun m=>by kernel_rfl,by kernel_rfl,by kernel_rfl,by kernel_rfl⟩
theorem c5w (a b c y:Nat):Cuts [a,b,c] [y]:=⟨fun m=>by kernel_rfl,by kernel_rfl,by kernel_rfl,by kernel_rfl⟩
theorem c5x (a b c z y:Nat):Cuts [a,b,c] [z,y]:=⟨fun m=>by kernel_rfl,by kernel_rfl,by kernel_rfl,by kernel_rfl⟩
theorem c5y (a b c d y:Nat):Cuts [a,b,c,d] [y]:=⟨fun m=>by kernel_rfl,by kernel_rfl,by kernel_rfl,by kernel_rfl⟩
theorem c5z (a b c d z y:Nat):Cuts [a,b,c,d] [z,y]:=⟨fun m=>by kernel_rfl,by kernel_rfl,by kernel_rfl,by kernel_rfl⟩
theorem c5A (a b c d e y:Nat):Cuts [a,b,c,d,e] [y]:=⟨fun m=>by kernel_rfl,by kernel_rfl,by kernel_rfl,by kernel_rfl⟩
theorem c5B (a b c d e z y:Nat):Cuts [a,b,c,d,e] [z,y]:=⟨fun m=>by kernel_rfl,by kernel_rfl,by kernel_rfl,by kernel_rfl⟩
theorem c2r {E Y:List Nat}(hE:E.length=1∨E.length=2∨E.length=3∨E.length=4∨E.length=5)(hY:Y.length=1∨Y.length=2):Cuts E Y:=by
 rcases hY with hY | hY
 all_goals
  obtain⟨y,Y₁,rfl,hY₁⟩:=a0C hY
  first
  | (obtain rfl:=d0U.mp hY₁)
  | (obtain⟨z,Z,rfl,hZ⟩:=a0C hY₁
     obtain rfl:=d0U.mp hZ)
  rcases hE with h | h | h | h | h
  ·obtain⟨a,r1,rfl,h1⟩:=a0C h
   obtain rfl:=d0U.mp h1
   first | exact c5s _ _ | exact c5t _ _ _
  ·obtain⟨a,r1,rfl,h1⟩:=a0C h
   obtain⟨b,r2,rfl,h2⟩:=a0C h1
   obtain rfl:=d0U.mp h2
   first | exact c5u _ _ _ | exact c5v _ _ _ _
  ·obtain⟨a,r1,rfl,h1⟩:=a0C h
   obtain⟨b,r2,rfl,h2⟩:=a0C h1
   obtain⟨c,r3,rfl,h3⟩:=a0C h2
   obtain rfl:=d0U.mp h3
   first | exact c5w _ _ _ _ | exact c5x _ _ _ _ _
  ·obtain⟨a,r1,rfl,h1⟩:=a0C h
   obtain⟨b,r2,rfl,h2⟩:=a0C h1
   obtain⟨c,r3,rfl,h3⟩:=a0C h2
   obtain⟨d,r4,rfl,h4⟩:=a0C h3
   obtain rfl:=d0U.mp h4
   first | exact c5y _ _ _ _ _ | exact c5z _ _ _ _ _ _
  ·obtain⟨a,r1,rfl,h1⟩:=a0C h
   obtain⟨b,r2,rfl,h2⟩:=a0C h1
   obtain⟨c,r3,rfl,h3⟩:=a0C h2
   obtain⟨d,r4,rfl,h4⟩:=a0C h3
   obtain⟨e,r5,rfl,h5⟩:=a0C h4
   obtain rfl:=d0U.mp h5
   first | exact c5A _ _ _ _ _ _ | exact c5B _ _ _ _ _ _ _
theorem c2s:(a6W.all fun L=>[1,2,3,4,5].contains (b2m L).length&&(subst 92 [] (b2m L)==L)&&Nat.ble L.length 3)=true:=by decide +kernel
theorem b8Q:(a0D.all fun s=>[1,2].contains (b3v s).length&&(subst 92 [] (b3v s)==[s]))=true:=by decide +kernel
structure LetOk (L:List Nat)(s:Nat):Prop where
 cuts:Cuts (b2m L) (b3v s)
 back:subst 92 [] (b2m L++[93]++b3v s)=L++[93,s]
 le:L.length≤3
 small:(b2m L++[93]++b3v s).length≤20
theorem b9z {L:List Nat}(hL:L∈a6W){s:Nat}(hs:s∈a0D):LetOk L s:=by
 have h:=a0h (c9Q.mp c2s L hL)
 have h1:=a0h h.1
 have k:=a0h (c9Q.mp b8Q s hs)
 have l1:=d0J.mp h1.1
 have l2:=d0J.mp k.1
 simp only [c9U,List.not_mem_nil,or_false] at l1 l2
 refine⟨c2r l1 l2,?_,c9B h.2,?_⟩
 ·rw [a2y,a2y,c9K h1.2,c9K k.2,a2Q (by decide),d0A]
  rfl
 ·rw [d0D,d0D,d0Z]
  lia
theorem b6p {m:Nat}{L:List Nat}(hL:L∈a6W){s:Nat}(hs:s∈a0D):runG ids a0p 60 (m+3) 71 [.str (a2o L s) false] none=some (.str ⟨(a8E (b2m L) (b3v s)).toArray⟩):=by
 have O:=b9z hL hs
 show ((some (a2o L s,false)).bind fun x=>(runG ids a0p 60 (m+2) 89 [.str x.1 x.2,.star,.str ⟨#[46]⟩] none).bind fun d=>(runG ids a0p 60 (m+2) 90 [d,.star] none).bind fun r=>r.strG.map fun y=>D.str y.1) = _
 refine a0b rfl (a0b (c2q (m:=m) hL hs O.le) (a0b (O.cuts.join m) rfl))
end
section
open LA (lo b9n)
theorem b6q {L:List Nat}(hn:L≠[])(hl:L.length≤3)(hd:L.Nodup)(hm:∀ c∈L,c∈a0D)(hh:45 ∉ L.tail):L∈a6W:=by
 match L,hn with
 | a :: r,_=>
  refine List.mem_flatMap.mpr ⟨a,hm a (.head _),?_⟩
  match r with
  | []=>exact .head _
  | b :: q=>
   have hd1:=List.nodup_cons.mp hd
   have hb:b∈a0D.filter fun b=>b != a&&b != 45:=d0W.mpr ⟨hm b (by simp),d0t.mpr ⟨bne_iff_ne.mpr fun e=>hd1.1 (e ▸ .head _),bne_iff_ne.mpr fun e=>hh (e ▸ .head _)⟩⟩
   refine .tail _ (List.mem_flatMap.mpr ⟨b,hb,?_⟩)
   match q with
   | []=>exact .head _
   | c :: p=>
    have hd2:=List.nodup_cons.mp hd1.2
    have hp:p=[]:=by simpa using hl
    subst hp
    refine .tail _ (d0Q.mpr ⟨c,d0W.mpr ⟨hm c (by simp),?_⟩,rfl⟩)
    refine d0t.mpr ⟨d0t.mpr ⟨bne_iff_ne.mpr fun e=>hd1.1 (e ▸ .tail _ (.head _)),bne_iff_ne.mpr fun e=>hd2.1 (e ▸ .head _)⟩,bne_iff_ne.mpr fun e=>hh (e ▸ .tail _ (.head _))⟩
noncomputable def laterJ (g:List Bool)(k:Nat):List Nat:=([0,1,2,3].drop (k+1)).filter fun j=>lo g k j
noncomputable def a5A (sig:Nat→Nat)(J:List Nat):List Nat:=(J.filter fun j=>sig j==45)++J.filter fun j=>!(sig j==45)
theorem a4R {sig:Nat→Nat}{J:List Nat}{j:Nat}:j∈a5A sig J↔j∈J:=by
 unfold a5A
 rw [d0v,d0W,d0W]
 cases h:sig j==45 <;> simp
theorem a6N {sig:Nat→Nat}(J:List Nat):(a5A sig J).Perm J:=List.filter_append_perm _ J
theorem b8R {sig:Nat→Nat}(hS:SigOk sig){J:List Nat}(hn:J≠[])(hl:J.length≤3)(hd:J.Nodup)(h4:∀ j∈J,j<4):(a5A sig J).map sig∈a6W:=by
 have p:=a6N (sig:=sig) J
 have nd:((a5A sig J).map sig).Nodup:=List.pairwise_map.mpr ((p.nodup_iff.mpr hd).imp_of_mem fun ha hb hne e=>hne (hS.inj _ _ (h4 _ (a4R.mp ha)) (h4 _ (a4R.mp hb)) e))
 refine b6q (fun q=>hn ?_) (by rw [d0a,p.length_eq];exact hl) nd (fun c hc=>?_) ?_
 ·have h0:(a5A sig J).length=0:=by rw [← d0a (f:=sig),q];rfl
  rw [p.length_eq] at h0
  exact d0U.mp h0
 ·refine (d0Q.mp hc).elim fun j Z1=>Z1.elim (fun hj e=>?_)
  exact e ▸ hS.mem j (h4 j (a4R.mp hj))
 ·unfold a5A at nd ⊢
  have no:45 ∉ (J.filter fun j=>!(sig j==45)).map sig:=fun q=>by
   refine (d0Q.mp q).elim fun j Z1=>Z1.elim (fun hj e=>?_)
   have:=(d0W.mp hj).2
   rw [e] at this
   exact absurd this c9p
  cases hf:J.filter fun j=>sig j==45 with
  | nil=>rw [List.nil_append];exact fun q=>no (List.mem_of_mem_tail q)
  | cons a r=>
   have ha:sig a=45:=c9K (d0W.mp (show a∈J.filter fun j=>sig j==45 by rw [hf];exact .head _)).2
   rw [hf,List.cons_append,d0K,ha] at nd
   rw [List.cons_append,d0K]
   exact (List.nodup_cons.mp nd).1
section
variable {F:Fns}{fuel:Nat}{σ:Store}{sig:Nat→Nat}{g:List Bool}{loose acc:List D}{b:Bool}
noncomputable def b9A:PE:=.comp [38,28,45] (.var 42) (.one 42) (.slice (.var 38) (.yes (.bin .Add (.var 28) (.int 1))) .no) (.cons (.cmp .In (.bin .Add (.idx (.var 38) (.var 28)) (.var 42)) (.var 45)) .nil) .nil
noncomputable def a1G (sig:Nat→Nat)(J:List Nat):List D:=J.map fun j=>rnd sig ([j],true)
theorem a9U {k j:Nat}(h:j∈([0,1,2,3]:List Nat).drop k):j<4:=a3F j (List.mem_of_mem_drop h)
theorem b2n {k:Nat}(hk:k<4):([0,1,2,3]:List Nat).getD k 0=k:=by
 obtain rfl | rfl | rfl | rfl:k=0∨k=1∨k=2∨k=3:=by lia
 all_goals rfl
theorem b8S (hS:Sig sig)(HL:a2n sig (lo g) loose){k:Nat}(hk:k<4)(h38:σ.get 38=some (.val (rnd sig ([0,1,2,3],b))))(h28:σ.get 28=some (.val (.int (k:Int))))(h45:σ.get 45=some (.val (.list loose))):evE F σ b9A=some (.list (a1G sig (laterJ g k))):=by
 have e1:evE F σ (.bin .Add (.var 28) (.int 1))=some (.int ((k+1:Nat):Int)):=a0q (a0i h28) a0u rfl
 refine a0F (xs:=([0,1,2,3]:List Nat).drop (k+1)) (f:=fun j=>rnd sig ([j],true)) (σ₀:=[(38,.val (rnd sig ([0,1,2,3],b))),(28,.val (.int (k:Int))),(45,.val (.list loose))]) (b2k hS.lt (show k+1≤4 by lia) (by decide) (a0i h38) e1) (a6H h38 h28 h45) (fun j hj=>?_) ?_
 ·have hj:=a9U hj
  refine⟨[(38,.val (rnd sig ([0,1,2,3],b))),(28,.val (.int (k:Int))),(45,.val (.list loose)),(42,.val (rnd sig ([j],true)))],by kernel_rfl,?_,fun _=>⟨by kernel_rfl,by kernel_rfl⟩⟩
  have ei:evE F [(38,.val (rnd sig ([0,1,2,3],b))),(28,.val (.int (k:Int))),(45,.val (.list loose)),(42,.val (rnd sig ([j],true)))] (.idx (.var 38) (.var 28))=some (rnd sig ([k],true)):=a1D (x:=rnd sig ([0,1,2,3],b)) (y:=.int (k:Int)) (by kernel_rfl) (by kernel_rfl) ((b0X (h:=[0,1,2,3]) hk (by decide)).trans (by rw [b2n hk]))
  exact a3C (a0Q (x:=rnd sig ([k,j],false)) (y:=.list loose) (a0q ei (y:=rnd sig ([j],true)) (by kernel_rfl) (a3D (p:=([k],true)) (q:=([j],true)) (by simp))) (by kernel_rfl) (HL k j hk hj false))
 ·rw [List.length_drop]
  exact c9v (Nat.sub_le _ _) (by decide)
end
end
section
open LA (lo b9n)
structure Cuts2 (L:List Nat)(s:Nat):Prop where
 pre:∀ g,a3l (.str ⟨(L++[93,s]).toArray⟩ g) none (some (-2))=some (.str ⟨L.toArray⟩)
 last:∀ g,a8F (.str ⟨(L++[93,s]).toArray⟩ g) (.int (-1))=some (.str ⟨#[s]⟩ true)
theorem c9h (a s:Nat):Cuts2 [a] s:=⟨fun g=>by kernel_rfl,fun g=>by kernel_rfl⟩
theorem c9i (a b s:Nat):Cuts2 [a,b] s:=⟨fun g=>by kernel_rfl,fun g=>by kernel_rfl⟩
theorem c9j (a b c s:Nat):Cuts2 [a,b,c] s:=⟨fun g=>by kernel_rfl,fun g=>by kernel_rfl⟩
theorem b8T {L:List Nat}(hn:L≠[])(hl:L.length≤3)(s:Nat):Cuts2 L s:=by
 match L,hn,hl with
 | [a],_,_=>exact c9h a s
 | [a,b],_,_=>exact c9i a b s
 | [a,b,c],_,_=>exact c9j a b c s
 | _ :: _ :: _ :: _ :: _,_,h=>simp at h
section
variable {F:Fns}{σ:Store}{sig:Nat→Nat}{g:List Bool}{loose acc:List D}{b:Bool}
structure PBr (sig:Nat→Nat)(loose:List D)(b:Bool)(σ:Store)(acc:List D):Prop where
 nm:NM σ
 g38:σ.get 38=some (.val (rnd sig ([0,1,2,3],b)))
 g45:σ.get 45=some (.val (.list loose))
 g66:σ.get 66=some (.own acc)
theorem PBr.set (I:PBr sig loose b σ acc){x:Nat}{d:D}(h1:38≠x)(h2:45≠x)(h3:66≠x):PBr sig loose b (σ.set x (.val d)) acc:=
 ⟨I.nm.val,(a0d h1).trans I.g38,(a0d h2).trans I.g45,(a0d h3).trans I.g66⟩
noncomputable def e68:PE:=.comp [] (.var 42) (.one 42) (.var 67) (.cons (.cmp .Eq (.var 42) (.str ⟨#[45]⟩)) .nil) .nil
noncomputable def c7Y:PE:=.comp [] (.var 42) (.one 42) (.var 67) (.cons (.cmp .NotEq (.var 42) (.str ⟨#[45]⟩)) .nil) .nil
noncomputable def e69:PE:=.join (.str ⟨#[]⟩) (.bin .Add (.var 68) c7Y)
noncomputable def e70:PE:=.call 71 (.cons (.bin .Add (.bin .Add (.bin .Add (.bin .Add (.str ⟨#[42,91]⟩) (.var 69)) (.str ⟨#[93]⟩)) (.idx (.var 38) (.var 28))) (.str ⟨#[42]⟩)) .nil) .no
noncomputable def t70:PE:=.cmp .NotEq (.bin .Add (.slice (.var 70) .no (.yes (.int 11))) (.slice (.var 70) (.yes (.neg (.int 6))) .no)) (.str ⟨#[40,63,115,58,40,63,62,46,42,63,91,41,46,42,41,92,90]⟩)
noncomputable def e72:PE:=.replace (.slice (.var 70) (.yes (.int 11)) (.yes (.neg (.int 6)))) (.str ⟨#[92]⟩) (.str ⟨#[]⟩)
noncomputable def c8D:PE:=.comp [72] (.bin .Add (.var 42) (.idx (.var 72) (.neg (.int 1)))) (.one 42) (.slice (.var 72) .no (.yes (.neg (.int 2)))) .nil .nil
noncomputable def bIn:List PS:=[.asg 68 false e68,.asg 69 false e69,.asg 70 false e70,.ifs t70 [.ret .none] [],.asg 72 false e72,.ext 66 c8D]
theorem b9B {a c:Nat}{g g':Bool}:a3R .Eq (.str ⟨#[a]⟩ g) (.str ⟨#[c]⟩ g')=some (a==c):=by
 refine c9o some (show ((⟨#[a]⟩:Str)==⟨#[c]⟩)=(a==c) from ?_)
 rw [c9P,c9s,c9s]
 exact⟨fun e=>by have:=c9o (fun s:Str=>s.cps.toList) e;simpa using this,fun e=>by rw [e]⟩
theorem c5C {a c:Nat}{g g':Bool}:a3R .NotEq (.str ⟨#[a]⟩ g) (.str ⟨#[c]⟩ g')=some (!(a==c)):=by
 show Option.or none ((eqD (.str ⟨#[a]⟩ g) (.str ⟨#[c]⟩ g')).map (!·)) = _
 rw [show eqD (.str ⟨#[a]⟩ g) (.str ⟨#[c]⟩ g')=some (a==c) from b9B]
 rfl
theorem c5D {k:Nat}{e:PE}{l r:List D}(h:σ.get k=some (.own l))(he:evE F σ e=some (.list r))(hc:e.pv.isComp=true)(hl:l.length+r.length≤16777216):evS F 60 σ (.ext k e)=some (.next (σ.set k (.own (l++r)))):=by
 show (σ.get k).bind _ = _
 exact a0b h (a0b (a:=l) rfl (a0b he (a0b (a:=r) rfl (a0n (d0t.mpr ⟨hc,a0G hl⟩)))))
theorem b6r {J:List Nat}(hl:J.length≤3)(h67:σ.get 67=some (.val (.list (a1G sig J)))):evE F σ e68=some (.list (a1G sig (J.filter fun j=>sig j==45)))∧evE F σ c7Y=some (.list (a1G sig (J.filter fun j=>!(sig j==45)))):=by
 constructor
 ·refine a0F (xs:=J) (f:=fun j=>rnd sig ([j],true)) (σ₀:=[]) (a1e h67 rfl) rfl (fun j hj=>?_) (by lia)
  exact⟨[(42,.val (rnd sig ([j],true)))],by kernel_rfl,a3C (a0Q (x:=rnd sig ([j],true)) (y:=.str ⟨#[45]⟩) (by kernel_rfl) a1o b9B),fun _=>⟨by kernel_rfl,by kernel_rfl⟩⟩
 ·refine a0F (xs:=J) (f:=fun j=>rnd sig ([j],true)) (σ₀:=[]) (a1e h67 rfl) rfl (fun j hj=>?_) (by lia)
  exact⟨[(42,.val (rnd sig ([j],true)))],by kernel_rfl,a3C (a0Q (x:=rnd sig ([j],true)) (y:=.str ⟨#[45]⟩) (by kernel_rfl) a1o c5C),fun _=>⟨by kernel_rfl,by kernel_rfl⟩⟩
theorem b8U {m:Nat}(hF:F=runG ids a0p 60 (m+3))(hS:SigOk sig)(I:PBr sig loose b σ acc){J:List Nat}(hn:J≠[])(hl:J.length≤3)(hd:J.Nodup)(h4:∀ j∈J,j<4){k:Nat}(hk:k<4)(hacc:acc.length≤1000)(h67:σ.get 67=some (.val (.list (a1G sig J))))(h28:σ.get 28=some (.val (.int (k:Int)))) :
  ∃ σ',a0y F 60 σ bIn=some (.next σ')∧PBr sig loose b σ' (acc++(a5A sig J).map fun j=>rnd sig ([j,k],false)):=by
 have hL:=b8R hS hn hl hd h4
 have hs:=hS.mem k hk
 have O:=b9z hL hs
 have hp:=a6N (sig:=sig) J
 have hne:(a5A sig J).map sig≠[]:=fun q=>hn (by
  have h0:(a5A sig J).length=0:=by rw [← d0a (f:=sig),q];rfl
  rw [hp.length_eq] at h0
  exact d0U.mp h0)
 have C2:=b8T hne O.le (sig k)
 have hHl:(a5A sig J).length≤3:=by rw [hp.length_eq];exact hl
 have tr:=b6p (m:=m) hL hs
 rw [← hF] at tr
 refine (b6r (F:=F) hl h67).elim fun p1 _=>?_
 have s1:=a0s (F:=F) (fuel:=60) (k:=68) I.nm (by kernel_rfl) (by kernel_rfl) p1
 have I₁:=I.set (x:=68) (d:=.list (a1G sig (J.filter fun j=>sig j==45))) (by decide) (by decide) (by decide)
 have k28:(σ.set 68 (.val (.list (a1G sig (J.filter fun j=>sig j==45))))).get 28 = _:=(a0d (by decide)).trans h28
 have k67:(σ.set 68 (.val (.list (a1G sig (J.filter fun j=>sig j==45))))).get 67 = _:=(a0d (by decide)).trans h67
 have k68:(σ.set 68 (.val (.list (a1G sig (J.filter fun j=>sig j==45))))).get 68=some (.val (.list (a1G sig (J.filter fun j=>sig j==45)))):=a0o
 generalize σ.set 68 (.val (.list (a1G sig (J.filter fun j=>sig j==45))))=σ₁ at *
 have l1:=d0X (fun j=>sig j==45) J
 have l2:=d0X (fun j=>!(sig j==45)) J
 have p2:evE F σ₁ e69=some (.str ⟨((a5A sig J).map sig).toArray⟩):=by
  have e:evE F σ₁ (.bin .Add (.var 68) c7Y)=some (.list ((a5A sig J).map fun j=>.str ⟨[sig j].toArray⟩ true)):=by
   refine a0q (a0i k68) (b6r (F:=F) hl k67).2 ((a9E (by unfold a1G;rw [d0a,d0a];lia)).trans ?_)
   unfold a5A a1G
   rw [d0Y]
   rfl
  refine (a5L (f:=fun j:Nat=>[sig j]) (fl:=fun _=>true) e ?_).trans ?_
  ·rw [d0k]
   exact c9v (a9G (k:=1) fun _ _=>c9n 1) (by lia)
  ·rw [a3d]
 have s2:=a0s (F:=F) (fuel:=60) (k:=69) I₁.nm (by kernel_rfl) (by kernel_rfl) p2
 have I₂:=I₁.set (x:=69) (d:=.str ⟨((a5A sig J).map sig).toArray⟩) (by decide) (by decide) (by decide)
 have k28₂:(σ₁.set 69 (.val (.str ⟨((a5A sig J).map sig).toArray⟩))).get 28 = _:=(a0d (by decide)).trans k28
 have k69:(σ₁.set 69 (.val (.str ⟨((a5A sig J).map sig).toArray⟩))).get 69=some (.val (.str ⟨((a5A sig J).map sig).toArray⟩)):=a0o
 generalize σ₁.set 69 (.val (.str ⟨((a5A sig J).map sig).toArray⟩))=σ₂ at *
 generalize hLe:(a5A sig J).map sig=L at *
 have le:=O.le
 have p3:evE F σ₂ (.bin .Add (.bin .Add (.bin .Add (.bin .Add (.str ⟨#[42,91]⟩) (.var 69)) (.str ⟨#[93]⟩)) (.idx (.var 38) (.var 28))) (.str ⟨#[42]⟩))=some (.str (a2o L (sig k)) false):=by
  have ei:evE F σ₂ (.idx (.var 38) (.var 28))=some (.str ⟨[sig k].toArray⟩ true):=a1D (a0i I₂.g38) (a0i k28₂) ((b0X (h:=[0,1,2,3]) hk (by decide)).trans (by rw [b2n hk];rfl))
  refine (a0q (a0q (a0q (a0q a1o (a0i k69) (a2w (a:=[42,91]) (b:=L) ?_)) a1o (a2w (b:=[93]) ?_)) ei (a2w ?_)) a1o (a2w (b:=[42]) ?_)).trans ?_
  ·simp;lia
  ·simp;lia
  ·simp;lia
  ·simp;lia
  ·refine c9o (fun l:List Nat=>some (D.str ⟨l.toArray⟩ false)) ?_
   simp
 have s3:=a0s (F:=F) (fuel:=60) (k:=70) I₂.nm (by kernel_rfl) (by kernel_rfl) (a0Z (F:=F) (f:=71) (a2c (by kernel_rfl) p3) tr)
 have I₃:=I₂.set (x:=70) (d:=.str ⟨(a8E (b2m L) (b3v (sig k))).toArray⟩) (by decide) (by decide) (by decide)
 have k70:(σ₂.set 70 (.val (.str ⟨(a8E (b2m L) (b3v (sig k))).toArray⟩))).get 70=some (.val (.str ⟨(a8E (b2m L) (b3v (sig k))).toArray⟩)):=a0o
 generalize σ₂.set 70 (.val (.str ⟨(a8E (b2m L) (b3v (sig k))).toArray⟩))=σ₃ at *
 have neg6:evE F σ₃ (.neg (.int 6))=some (.int (-6)):=a7v a0u
 have o11:a2q (some (.int 11))=some (some 11):=by kernel_rfl
 have o6:a2q (some (.int (-6)))=some (some (-6)):=by kernel_rfl
 have o2:a2q (some (.int (-2)))=some (some (-2)):=by kernel_rfl
 have t4:evT F σ₃ t70=some false:=a0Q (a0q (a1y (a0i k70) (l:=none) rfl (a2v a0u) (l':=none) rfl o11 O.cuts.head) (a1y (a0i k70) (a2v neg6) (h:=none) rfl o6 (h':=none) rfl O.cuts.tail) (z:=.str ⟨#[40,63,115,58,40,63,62,46,42,63,91,41,46,42,41,92,90]⟩) (by kernel_rfl)) a1o (by kernel_rfl)
 have s4:evS F 60 σ₃ (.ifs t70 [.ret .none] [])=some (.next σ₃):=(a0U t4).trans rfl
 have p5:evE F σ₃ e72=some (.str ⟨(L++[93,sig k]).toArray⟩):=by
  refine (b0P (x:=⟨(b2m L++[93]++b3v (sig k)).toArray⟩) (y:=⟨#[92]⟩) (z:=⟨#[]⟩) (a1y (a0i k70) (a2v a0u) (a2v neg6) o11 o6 O.cuts.mid) a1o a1o rfl rfl ?_).trans ?_
  ·rw [a2m]
   have:=O.small
   show _+(_+1)*0≤_
   lia
  ·have:=b1U ⟨(b2m L++[93]++b3v (sig k)).toArray⟩ ⟨#[]⟩ 92
   rw [this]
   exact c9o (fun l:List Nat=>some (D.str ⟨l.toArray⟩ false)) O.back
 have s5:=a0s (F:=F) (fuel:=60) (k:=72) I₃.nm (by kernel_rfl) (by kernel_rfl) p5
 have I₄:=I₃.set (x:=72) (d:=.str ⟨(L++[93,sig k]).toArray⟩) (by decide) (by decide) (by decide)
 have k72:(σ₃.set 72 (.val (.str ⟨(L++[93,sig k]).toArray⟩))).get 72=some (.val (.str ⟨(L++[93,sig k]).toArray⟩)):=a0o
 generalize σ₃.set 72 (.val (.str ⟨(L++[93,sig k]).toArray⟩))=σ₄ at *
 have p6:evE F σ₄ c8D=some (.list ((a5A sig J).map fun j=>rnd sig ([j,k],false))):=by
  refine a1w (xs:=a5A sig J) (f:=fun j=>rnd sig ([j],true)) (σ₀:=[(72,.val (.str ⟨(L++[93,sig k]).toArray⟩))]) ?_ (a1z k72 nofun) (fun j hj=>?_) (by lia)
  ·refine a3E (x:=rnd sig (a5A sig J,false)) (a1y (a0i k72) (l:=none) rfl (a2v (a7v a0u)) (l':=none) rfl o2 ((C2.pre false).trans ?_)) (a1n hS.lt)
   rw [← hLe]
   rfl
  ·refine⟨[(72,.val (.str ⟨(L++[93,sig k]).toArray⟩)),(42,.val (rnd sig ([j],true)))],by kernel_rfl,by kernel_rfl,?_⟩
   exact a0q (x:=rnd sig ([j],true)) (y:=rnd sig ([k],true)) (by kernel_rfl) (a1D (x:=.str ⟨(L++[93,sig k]).toArray⟩) (by kernel_rfl) (a7v a0u) (C2.last false)) (a3D (p:=([j],true)) (q:=([k],true)) (by simp))
 have s6:=c5D (F:=F) (k:=66) I₄.g66 p6 rfl (by rw [d0a];lia)
 exact⟨_,(a0c s1).trans ((a0c s2).trans ((a0c s3).trans ((a0c s4).trans ((a0c s5).trans ((a0c s6).trans rfl))))),I₄.nm.own,(a0d (by decide)).trans I₄.g38,(a0d (by decide)).trans I₄.g45,a0o⟩
end
end
section
open LA (lo b9n)
section
variable {F:Fns}{σ:Store}{sig:Nat→Nat}{g:List Bool}{loose acc:List D}{b:Bool}
noncomputable def b6v (sig:Nat→Nat)(g:List Bool)(k:Nat):List D:=(a5A sig (laterJ g k)).map fun j=>rnd sig ([j,k],false)
noncomputable def c5E:List PS:=[.asg 67 false b9A,.ifs (.cmp .NotEq (.var 67) (.list .nil)) bIn []]
theorem a3f (g:List Bool){k:Nat}(hk:k<4):(laterJ g k).length≤3∧(laterJ g k).Nodup∧(∀ j∈laterJ g k,j<4)∧∀ j,j<4→(j∈laterJ g k↔(Nat.blt k j&&lo g k j)=true):=by
 unfold laterJ
 refine⟨?_,?_,fun j hj=>a9U (d0W.mp hj).1,fun j hj=>?_⟩
 ·refine c9v (d0X _ _) ?_
  rw [List.length_drop]
  show 4 - (k+1)≤3
  lia
 ·exact List.Pairwise.filter _ (List.Pairwise.sublist (List.drop_sublist _ _) (by decide:([0,1,2,3]:List Nat).Nodup))
 ·rw [d0W,d0t]
  refine and_congr_left fun _=>?_
  have:=c9Q.mp (c9Q.mp (by decide +kernel:((List.range 4).all fun k=>(List.range 4).all fun j=>(([0,1,2,3]:List Nat).drop (k+1)).contains j==Nat.blt k j)=true) k (c9R.mpr hk)) j (c9R.mpr hj)
  rw [← d0J,c9K this]
theorem b8V {m:Nat}(hF:F=runG ids a0p 60 (m+3))(hS:SigOk sig)(HL:a2n sig (lo g) loose)(I:PBr sig loose b σ acc){k:Nat}(hk:k<4)(hacc:acc.length≤1000)(h28:σ.get 28=some (.val (.int (k:Int)))) :
  ∃ σ',a0y F 60 σ c5E=some (.next σ')∧PBr sig loose b σ' (acc++b6v sig g k):=by
 have f:=a3f g hk
 have s1:=a0s (F:=F) (fuel:=60) (k:=67) I.nm (by kernel_rfl) (by kernel_rfl) (b8S (F:=F) hS.toSig HL hk I.g38 h28 I.g45)
 have I₁:=I.set (x:=67) (d:=.list (a1G sig (laterJ g k))) (by decide) (by decide) (by decide)
 have k28:(σ.set 67 (.val (.list (a1G sig (laterJ g k))))).get 28 = _:=(a0d (by decide)).trans h28
 have k67:(σ.set 67 (.val (.list (a1G sig (laterJ g k))))).get 67=some (.val (.list (a1G sig (laterJ g k)))):=a0o
 generalize σ.set 67 (.val (.list (a1G sig (laterJ g k))))=σ₁ at *
 have hifs:=a0U (F:=F) (fuel:=60) (t:=.cmp .NotEq (.var 67) (.list .nil)) (A:=bIn) (B:=[]) (a0Q (op:=.NotEq) (a0i k67) (y:=.list []) (by kernel_rfl) c5e)
 unfold b6v
 generalize laterJ g k=J at *
 cases J with
 | nil=>exact⟨σ₁,(a0c s1).trans ((a0c (hifs.trans rfl)).trans rfl),(d0z acc).symm ▸ I₁⟩
 | cons j r=>
  refine (b8U (F:=F) hF hS I₁ (List.cons_ne_nil j r) f.1 f.2.1 f.2.2.1 hk hacc k67 k28).elim fun σ' Z1=>Z1.elim (fun e I'=>?_)
  have hifs':=hifs.trans e
  exact⟨σ',(a0c s1).trans ((a0c hifs').trans rfl),I'⟩
theorem c5F (hS:SigOk sig):b8K sig g ((List.range 4).flatMap (b6v sig g)):=by
 intro i j hi hj
 have e:((List.range 4).flatMap (b6v sig g)).mapM D.asStr=some ((List.range 4).flatMap fun k=>(a5A sig (laterJ g k)).map fun i=>(⟨#[sig i,sig k]⟩:Str)):=by
  have h0:(List.range 4).flatMap (b6v sig g)=((List.range 4).flatMap fun k=>(a5A sig (laterJ g k)).map fun i=>(i,k)).map fun p=>rnd sig ([p.1,p.2],false):=by
   rw [List.map_flatMap]
   refine c9o (fun f=>(List.range 4).flatMap f) (funext fun k=>?_)
   rw [d0k]
   rfl
  rw [h0,a1b (f:=D.asStr) (e:=fun p:Nat×Nat=>rnd sig ([p.1,p.2],false)) (g:=fun p=>(⟨#[sig p.1,sig p.2]⟩:Str)) fun _ _=>rfl,List.map_flatMap]
  refine c9o (fun f=>some ((List.range 4).flatMap f)) (funext fun k=>?_)
  rw [d0k]
  rfl
 show (Option.map _ (List.mapM D.asStr _)).or _ = _
 refine a1v (a1c e ?_)
 have key:i∈laterJ g j↔b9n g i j=true:=(a3f g hj).2.2.2 i hi
 rw [c9P,← key,List.any_eq_true]
 constructor
 ·rintro⟨x,hx,e⟩
  obtain⟨k,hk,hx⟩:=List.mem_flatMap.mp hx
  obtain⟨a,ha,rfl⟩:=d0Q.mp hx
  have hk:=c9R.mp hk
  have ha:=a4R.mp ha
  have h2:=c9o (fun s:Str=>s.cps.toList) (c9K e)
  simp at h2
  rw [hS.inj a i ((a3f g hk).2.2.1 a ha) hi h2.1,hS.inj k j hk hj h2.2] at ha
  exact ha
 ·intro h
  exact⟨_,List.mem_flatMap.mpr ⟨j,c9R.mpr hj,d0Q.mpr ⟨i,a4R.mpr h,rfl⟩⟩,c9y _⟩
theorem b3w {m:Nat}(hS:SigOk sig)(HL:a2n sig (lo g) loose):runG ids a0p 60 (m+4) 82 [rnd sig ([0,1,2,3],b),.list loose] none=some (.list ((List.range 4).flatMap (b6v sig g))):=by
 refine a1W (df:=⟨82,[38,45],[],[],a5y⟩) rfl (by decide) (by decide) rfl rfl rfl ?_
 generalize hF:runG ids a0p 60 (m+3)=F
 show a0y F 60 [(38,.val (rnd sig ([0,1,2,3],b))),(45,.val (.list loose))] [.asg 66 true (.list .nil),.for (.one 28) (.range1 (.len (.var 38))) c5E,.ret (.var 66)] = _
 have s1:evS F 60 [(38,.val (rnd sig ([0,1,2,3],b))),(45,.val (.list loose))] (.asg 66 true (.list .nil))=some (.next [(38,.val (rnd sig ([0,1,2,3],b))),(45,.val (.list loose)),(66,.own [])]):=by kernel_rfl
 rw [a0c s1]
 have I0:PBr sig loose b [(38,.val (rnd sig ([0,1,2,3],b))),(45,.val (.list loose)),(66,.own [])] []:=⟨by intro p hp y;simp at hp;rcases hp with rfl | rfl | rfl <;> simp,by kernel_rfl,by kernel_rfl,by kernel_rfl⟩
 generalize [(38,Slot.val (rnd sig ([0,1,2,3],b))),(45,.val (.list loose)),(66,.own [])]=σ₂ at *
 let body:Store→D→Option Out:=fun σ d=>(a0P σ (.one 28) d).bind fun σ'=>a0y F 60 σ' c5E
 obtain⟨σ',e,I'⟩:=a1f (body:=body) (f:=fun (i:Nat)=>D.int (i:Int)) (all:=List.range 4) (σ:=σ₂) (fun done σ=>PBr sig loose b σ (done.flatMap (b6v sig g))) I0 fun done k rest σ hd I=>by
   have hk:k<4:=c9R.mp (show k∈List.range 4 by rw [← hd];simp)
   have hmem:∀ x∈done,x<4:=fun x hx=>c9R.mp (by rw [← hd];exact d0x _ hx)
   have hdl:done.length≤4:=by have:=c9o List.length hd;simp at this;lia
   have hb:body σ (.int (k:Int))=a0y F 60 (σ.set 28 (.val (.int (k:Int)))) c5E:=by
    show ((a0P σ (.one 28) _).bind fun σ'=>a0y F 60 σ' _) = _
    rw [a0V I.nm];rfl
   rw [hb]
   have hlen:=a1A (l:=done) (f:=b6v sig g) (k:=3) fun x hx=>by
    unfold b6v
    rw [d0a,(a6N (laterJ g x)).length_eq]
    exact (a3f g (hmem x hx)).1
   refine (b8V (F:=F) (g:=g) hF.symm hS HL (I.set (x:=28) (d:=.int (k:Int)) (by decide) (by decide) (by decide)) hk (by lia) a0o).elim fun σ' Z1=>Z1.elim (fun e I'=>?_)
   refine⟨σ',.inl e,?_⟩
   rw [d1b]
   simpa using I'
 have e':=a1E (F:=F) (fuel:=60) (t:=.one 28) (iter:=.range1 (.len (.var 38))) (body:=c5E) (σ:=σ₂) (by kernel_rfl) (a1T (a3Y (n:=4) (a0i I0.g38) rfl (by decide)) (by decide)) e
 rw [a0c e']
 have f66:=a0H I'.g66 (s':=.val (.list ((List.range 4).flatMap (b6v sig g)))) rfl
 exact a2u (a0t f66) (a0i f66)
end
theorem law01':∀ l:List Int,l.length≤63→∃ fuel n,n≤20∧a0y (runG ids a0p fuel n) fuel [(35,.val (.list (l.map .int)))] b0H=some (.ret (.bool true)):=fun l hl=>by
 refine⟨60,5,by decide,?_⟩
 obtain⟨rs,sig,b,w,r80,hr,hrl,hS,hw⟩:=b5G (fuel:=60) (m:=4) (l:=l) (by lia)
 exact b8N (m:=0) rfl hS hr hrl hw r80 (c5F hS) (b3w (m:=1) hS (b1X hS))
end
end
end Mine
set_option maxHeartbeats 8000000 in
theorem PySem.Challenge.cw_kt0036_01_holds : PySem.Challenge.rw_kt0036_01.Holds :=
  Mine.top01 Mine.law01'
