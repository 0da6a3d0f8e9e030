import PyProof.Rows.All
import Wide.All
import OpenK.AllK
import Wide.FinOn
import PySem.Challenge.RW_rs0231_03
set_option Elab.async false
set_option linter.unusedVariables false
set_option linter.unusedSimpArgs false
set_option linter.unusedSectionVars false
set_option genSizeOf false
set_option genInjectivity false
set_option maxRecDepth 100000
noncomputable section
namespace Mine
noncomputable abbrev pp (a b c:Nat):PySem.Pos:=⟨a,b,a,c⟩
end Mine
section
namespace Mine
theorem ze1 {a b m:Nat} (h:a + (b + 1) <= m):a < m:=Nat.lt_of_lt_of_le (Nat.lt_add_of_pos_right (Nat.succ_pos b)) h
theorem zed {a b m:Nat} (h:a + (b + 1) <= m):a + 1 + b <= m:=Nat.le_trans (Nat.le_of_eq (Nat.succ_add a b)) h
theorem zhj {a b m:Nat} (h:a + (b + 1) <= m):a + b <= m:=Nat.le_of_lt h
end Mine
end
section
namespace Mine
open PySem
inductive V where
 | none
 | bool (b:Bool)
 | int (i:Int)
 | str (x:Str)
 | bi (id:String)
 | typ (n:String)
 | adr (a:Addr)
 | ref (l:Nat)
 | tup (xs:List V)
 | lst (xs:List V)
 | rng (a b c:Int)
 | dct (ks:List Str) (vs:List V)
 | dcti (ks:List Int) (vs:List V)
inductive Cell where
 | list (xs:List V)
 | inst (c:Addr) (d:Nat)
 | attr (v:Option V)
 | tab (pt:Addr) (pos:Pos) (qual:Str)
structure Gh where
 hf:Addr -> Option Obj
 ρ:Nat -> Addr
 cs:List Cell
 pr:Params
 fl:Addr -> Prop
noncomputable def lim:Nat:=8388608
noncomputable abbrev headersName:Str:=Str.ofString "_headers"
inductive All2 {α β:Type} (R:α -> β -> Prop):List α -> List β -> Prop
 | nil:All2 R [] []
 | cons {a b as bs} (h:R a b) (r:All2 R as bs):All2 R (a :: as) (b :: bs)
noncomputable abbrev listO (vs:List Value) (ep:Nat):Obj:=⟨.type "list",none,.seq (List.toArray vs) ep,#[]⟩
noncomputable abbrev tupO (vs:List Value) (ep:Nat):Obj:=⟨.type "tuple",none,.seq (List.toArray vs) ep,#[]⟩
noncomputable abbrev dictO (es:List DictEntry) (ep:Nat):Obj:=⟨.type "dict",none,.dict (List.toArray es) ep,#[]⟩
noncomputable abbrev rngO (a b c:Int) (t u v:Tok):Obj:=⟨.type "range",none,.fields #[.int a t,.int b u,.int c v],#[]⟩
noncomputable def StrKey (pr:Params) (x:Str) (e:DictEntry):Prop:=∃ t,e.key = .str x t /\ e.hash = PyData.keyHash pr x
noncomputable def IntKey (i:Int) (e:DictEntry):Prop:=(∃ t,e.key = .int i t) /\ e.hash = hashInt i
inductive VRel (g:Gh):V -> Value -> Prop
 | none:VRel g .none .none
 | bool (b):VRel g (.bool b) (.bool b)
 | int (i t):VRel g (.int i) (.int i t)
 | str (x t) (h:x.length <= lim):VRel g (.str x) (.str x t)
 | bi (i):VRel g (.bi i) (.builtin i)
 | typ (i):VRel g (.typ i) (.type i)
 | adr (a):VRel g (.adr a) (.ref a)
 | ref (l) (h:l < g.cs.length):VRel g (.ref l) (.ref (g.ρ l))
 | tup {a xs vs ep} (h:g.hf a = some (tupO vs ep)) (r:All2 (VRel g) xs vs) (hl:xs.length <= lim):VRel g (.tup xs) (.ref a)
 | lst {a xs vs ep} (h:g.hf a = some (listO vs ep)) (r:All2 (VRel g) xs vs) (hl:xs.length <= lim):VRel g (.lst xs) (.ref a)
 | rng {r a b c t u v} (h:g.hf r = some (rngO a b c t u v)):VRel g (.rng a b c) (.ref r)
 | dct {a ks vs es ep} (h:g.hf a = some (dictO es ep)) (k:All2 (StrKey g.pr) ks es) (r:All2 (VRel g) vs (es.map (·.val))) (hs:(a == sysModules) = false):VRel g (.dct ks vs) (.ref a)
 | dcti {a ks vs es ep} (h:g.hf a = some (dictO es ep)) (k:All2 IntKey ks es) (r:All2 (VRel g) vs (es.map (·.val))) (hs:(a == sysModules) = false):VRel g (.dcti ks vs) (.ref a)
noncomputable def VInv (g:Gh):V -> Value -> Prop :=
 V.rec (motive_1:=fun _=>Value -> Prop) (motive_2:=fun _=>Unit)
  (fun w=>w = .none) (fun b w=>w = .bool b) (fun i w=>∃ t,w = .int i t) (fun x w=>∃ t,w = .str x t /\ x.length <= lim) (fun i w=>w = .builtin i) (fun i w=>w = .type i) (fun a w=>w = .ref a)
  (fun l w=>w = .ref (g.ρ l) /\ l < g.cs.length) (fun xs _ w=>∃ a vs ep,w = .ref a /\ g.hf a = some (tupO vs ep) /\ All2 (VRel g) xs vs /\ xs.length <= lim)
  (fun xs _ w=>∃ a vs ep,w = .ref a /\ g.hf a = some (listO vs ep) /\ All2 (VRel g) xs vs /\ xs.length <= lim)
  (fun a b c w=>∃ r t u v,w = .ref r /\ g.hf r = some (rngO a b c t u v))
  (fun ks vs _ w=>∃ a es ep,w = .ref a /\ g.hf a = some (dictO es ep) /\ All2 (StrKey g.pr) ks es /\ All2 (VRel g) vs (es.map (·.val)) /\ (a == sysModules) = false)
  (fun ks vs _ w=>∃ a es ep,w = .ref a /\ g.hf a = some (dictO es ep) /\ All2 IntKey ks es /\ All2 (VRel g) vs (es.map (·.val)) /\ (a == sysModules) = false)
  () (fun _ _ _ _=>())
theorem VRel.inv {g:Gh} {v:V} {w:Value} (r:VRel g v w):VInv g v w:=by
 cases r with
 | none=>exact rfl
 | bool=>exact rfl
 | int i t=>exact ⟨t,rfl⟩
 | str x t h=>exact ⟨t,rfl,h⟩
 | bi=>exact rfl
 | typ=>exact rfl
 | adr=>exact rfl
 | ref l h=>exact ⟨rfl,h⟩
 | tup h r hl=>exact ⟨_,_,_,rfl,h,r,hl⟩
 | lst h r hl=>exact ⟨_,_,_,rfl,h,r,hl⟩
 | rng h=>exact ⟨_,_,_,_,rfl,h⟩
 | dct h k r hs=>exact ⟨_,_,_,rfl,h,k,r,hs⟩
 | dcti h k r hs=>exact ⟨_,_,_,rfl,h,k,r,hs⟩
noncomputable abbrev VRels (g:Gh):=All2 (VRel g)
structure Le (g g':Gh):Prop where
 n:g.cs.length <= g'.cs.length
 ρ:∀ l,l < g.cs.length -> g'.ρ l = g.ρ l
 hf:∀ a o,g.hf a = some o -> g'.hf a = some o
 pr:g'.pr = g.pr
 fl:g'.fl = g.fl
theorem Le.refl (g:Gh):Le g g:=⟨Nat.le_refl _,fun _ _=>rfl,fun _ _ e=>e,rfl,rfl⟩
theorem Le.trans {a b c:Gh} (x:Le a b) (y:Le b c):Le a c :=
 ⟨Nat.le_trans x.n y.n,fun l h=>(y.ρ l (Nat.lt_of_lt_of_le h x.n)).trans (x.ρ l h),fun a o e=>y.hf a o (x.hf a o e),y.pr.trans x.pr,y.fl.trans x.fl⟩
theorem VRel.ref' {g:Gh} {l:Nat} {a:Addr} (h:l < g.cs.length) (e:g.ρ l = a):VRel g (.ref l) (.ref a):=e ▸ .ref l h
theorem VRel.mono {g g':Gh} (L:Le g g') {v:V} {w:Value} (r:VRel g v w):VRel g' v w :=
 VRel.rec (motive_1:=fun v w _=>VRel g' v w) (motive_2:=fun xs ws _=>All2 (VRel g') xs ws)
  .none .bool .int .str .bi .typ .adr (fun l h=>.ref' (Nat.lt_of_lt_of_le h L.n) (L.ρ l h))
  (fun h _ hl r=>.tup (L.hf _ _ h) r hl) (fun h _ hl r=>.lst (L.hf _ _ h) r hl) (fun h=>.rng (L.hf _ _ h))
  (fun h k _ hs r=>.dct (L.hf _ _ h) (L.pr.symm ▸ k) r hs) (fun h k _ hs r=>.dcti (L.hf _ _ h) k r hs) .nil (fun _ _ h r=>.cons h r) r
namespace All2
variable {α β:Type} {R S:α -> β -> Prop}
theorem imp (h:∀ a b,R a b -> S a b) {xs:List α} {ys:List β} (r:All2 R xs ys):All2 S xs ys:=by
 induction r with
 | nil=>exact .nil
 | cons h' _ ih=>exact .cons (h _ _ h') ih
theorem length {xs:List α} {ys:List β} (r:All2 R xs ys):ys.length = xs.length:=by
 induction r with
 | nil=>rfl
 | cons _ _ ih=>exact congrArg (· + 1) ih
theorem append {xs us:List α} {ys vs:List β} (r:All2 R xs ys) (q:All2 R us vs):All2 R (xs ++ us) (ys ++ vs):=by
 induction r with
 | nil=>exact q
 | cons h _ ih=>exact .cons h ih
theorem get {xs:List α} {ys:List β} (r:All2 R xs ys):∀ {i:Nat} {a:α},xs[i]? = some a -> ∃ b,ys[i]? = some b /\ R a b:=by
 induction r with
 | nil=>exact fun e=>nomatch e
 | cons h _ ih =>
  intro i a e
  cases i with
  | zero=>cases e; exact ⟨_,rfl,h⟩
  | succ i=>exact ih e
theorem get' {xs:List α} {ys:List β} (r:All2 R xs ys):∀ {i:Nat} {b:β},ys[i]? = some b -> ∃ a,xs[i]? = some a /\ R a b:=by
 induction r with
 | nil=>exact fun e=>nomatch e
 | cons h _ ih =>
  intro i a e
  cases i with
  | zero=>cases e; exact ⟨_,rfl,h⟩
  | succ i=>exact ih e
theorem reverse {xs:List α} {ys:List β} (r:All2 R xs ys):All2 R xs.reverse ys.reverse:=by
 induction r with
 | nil=>exact .nil
 | cons h _ ih=>rw [List.reverse_cons,List.reverse_cons]; exact ih.append (.cons h .nil)
theorem set {xs:List α} {ys:List β} (r:All2 R xs ys) {a:α} {b:β} (h:R a b):∀ i,All2 R (xs.set i a) (ys.set i b):=by
 induction r with
 | nil=>exact fun _=>.nil
 | cons h' r ih =>
  intro i
  cases i with
  | zero=>exact .cons h r
  | succ i=>exact .cons h' (ih i)
theorem nil_of {ys:List β} (r:All2 R [] ys):ys = []:=by cases r; rfl
theorem cons_of {x:α} {xs:List α} {ys:List β} (r:All2 R (x :: xs) ys):∃ y r',ys = y :: r' /\ R x y /\ All2 R xs r':=by
 cases r with
 | cons h r=>exact ⟨_,_,rfl,h,r⟩
theorem one {x:α} {ys:List β} (r:All2 R [x] ys):∃ y,ys = [y] /\ R x y:=by
 obtain ⟨y,r',rfl,h,r⟩:=r.cons_of
 cases r.nil_of
 exact ⟨y,rfl,h⟩
theorem two {x x':α} {ys:List β} (r:All2 R [x,x'] ys):∃ y y',ys = [y,y'] /\ R x y /\ R x' y':=by
 obtain ⟨y,r',rfl,h,r⟩:=r.cons_of
 obtain ⟨y',rfl,h'⟩:=r.one
 exact ⟨y,y',rfl,h,h'⟩
theorem three {x x' x'':α} {ys:List β} (r:All2 R [x,x',x''] ys):∃ y y' y'',ys = [y,y',y''] /\ R x y /\ R x' y' /\ R x'' y'':=by
 obtain ⟨y,r',rfl,h,r⟩:=r.cons_of
 obtain ⟨y',y'',rfl,h',h''⟩:=r.two
 exact ⟨y,y',y'',rfl,h,h',h''⟩
end All2
theorem vmono {g g':Gh} {xs:List V} {ys:List Value} (r:VRels g xs ys) (L:Le g g'):VRels g' xs ys:=r.imp fun _ _ h=>h.mono L
noncomputable def CellIs (g:Gh) (h:Heap) (a:Addr):Cell -> Prop :=
 Cell.rec (fun xs=>∃ vs ep,h.get? a = some (listO vs ep) /\ VRels g xs vs /\ xs.length <= lim)
  (fun c d=>d < g.cs.length /\ h.get? a = some ⟨.ref c,some (g.ρ d),.plain,#[]⟩)
  (fun v=>Option.rec (∃ sl ep,h.get? a = some ⟨.type "dict",none,.dict #[] ep,sl⟩)
   (fun v=>∃ hh tk v' ep sl,h.get? a = some ⟨.type "dict",none,.dict #[⟨hh,.str headersName tk,v'⟩] ep,sl⟩ /\ VRel g v v') v)
  (fun pt pos qual=>a = pt /\ ∃ ps,h.get? a = some (PySem.W.tabObj ps) /\ TriplesOk ps.toList /\ (codeAmong pos ps.toList = none \/ ∃ c oc vs t,codeAmong pos ps.toList = some (.ref c) /\ g.hf c = some oc /\ oc.data = .fields vs /\ vs[1]? = some (.str qual t)))
structure HRel (g:Gh) (h:Heap):Prop where
 fz:∀ a o,g.hf a = some o -> h.get? a = some o
 ce:∀ l c,g.cs[l]? = some c -> CellIs g h (g.ρ l) c
 ap:∀ l,l < g.cs.length -> g.hf (g.ρ l) = none
 inj:∀ l l',l < g.cs.length -> l' < g.cs.length -> g.ρ l = g.ρ l' -> l = l'
 nofr:∀ a o,g.hf a = some o -> ∀ v,o.data ≠ .cell v
 lv:∀ a,g.fl a -> (∃ o es ep,h.get? a = some o /\ o.data = .dict es ep) /\ (∀ l,l < g.cs.length -> g.ρ l ≠ a) /\ g.hf a = none
theorem CellIs.mono {g g':Gh} (L:Le g g') {h h':Heap} {a:Addr} (e:∀ o,h.get? a = some o -> h'.get? a = some o) {c:Cell} (q:CellIs g h a c):CellIs g' h' a c:=by
 cases c with
 | list xs=>obtain ⟨vs,ep,q,r,z⟩:=q; exact ⟨vs,ep,e _ q,vmono r L,z⟩
 | inst c d=>exact ⟨Nat.lt_of_lt_of_le q.1 L.n,(L.ρ d q.1).symm ▸ e _ q.2⟩
 | attr v =>
  cases v with
  | none=>obtain ⟨sl,ep,q⟩:=q; exact ⟨sl,ep,e _ q⟩
  | some v=>obtain ⟨hh,tk,v',ep,sl,q,r⟩:=q; exact ⟨hh,tk,v',ep,sl,e _ q,r.mono L⟩
 | tab pt pos qual =>
  obtain ⟨pe,ps,q,tr,r⟩:=q
  refine ⟨pe,ps,e _ q,tr,r.imp id fun r=>?_⟩
  obtain ⟨c,oc,vs,t,p1,p2,p3⟩:=r
  exact ⟨c,oc,vs,t,p1,L.hf _ _ p2,p3⟩
theorem CellIs.alive {g:Gh} {h:Heap} {a:Addr} {c:Cell} (q:CellIs g h a c):∃ o,h.get? a = some o /\ o.cls ≠ .type "frame" /\ (∀ v,o.data ≠ .cell v):=by
 cases c with
 | list xs=>obtain ⟨vs,ep,q,_⟩:=q; exact ⟨_,q,fun e=>(by injection e with e; exact absurd e (by decide)),fun v e=>nomatch e⟩
 | inst c d=>exact ⟨_,q.2,fun e=>(nomatch e),fun v e=>nomatch e⟩
 | attr v =>
  cases v with
  | none=>obtain ⟨sl,ep,q⟩:=q; exact ⟨_,q,fun e=>(by injection e with e; exact absurd e (by decide)),fun v e=>nomatch e⟩
  | some v=>obtain ⟨hh,tk,v',ep,sl,q,r⟩:=q; exact ⟨_,q,fun e=>(by injection e with e; exact absurd e (by decide)),fun v e=>nomatch e⟩
 | tab pt pos qual=>obtain ⟨pe,ps,q,_⟩:=q; exact ⟨_,q,fun e=>(nomatch e),fun v e=>nomatch e⟩
theorem HRel.alive {g:Gh} {h:Heap} (H:HRel g h) {l:Nat} (hl:l < g.cs.length):∃ o,h.get? (g.ρ l) = some o /\ o.cls ≠ .type "frame" /\ (∀ v,o.data ≠ .cell v) :=
 (H.ce l _ (List.getElem?_eq_getElem hl)).alive
theorem HRel.ne {g:Gh} {h:Heap} (H:HRel g h) {l:Nat} (hl:l < g.cs.length) {a:Addr} (e:h.get? a = none):g.ρ l ≠ a:=fun q=>by
 obtain ⟨o,q',_⟩:=H.alive hl
 rw [q,e] at q'; cases q'
theorem HRel.hf_none {g:Gh} {h:Heap} (H:HRel g h) {a:Addr} (e:h.get? a = none):g.hf a = none:=by
 cases q:g.hf a with
 | none=>rfl
 | some o=>rw [H.fz a o q] at e; cases e
theorem HRel.nfl {g:Gh} {h:Heap} (H:HRel g h) {a:Addr} (e:h.get? a = none):¬ g.fl a:=fun z=>by
 obtain ⟨⟨o,_,_,q,_⟩,_⟩:=H.lv a z
 rw [e] at q; cases q
theorem zaa {α:Type} {xs:List α} {i:Nat} {a:α} (e:xs[i]? = some a):i < xs.length:=(List.getElem?_eq_some_iff.mp e).1
theorem HRel.keep {g:Gh} {h h':Heap} (H:HRel g h) (k:∀ a o,h.get? a = some o -> (g.hf a = some o \/ (∃ l,l < g.cs.length /\ a = g.ρ l) \/ g.fl a) -> h'.get? a = some o):HRel g h' where
 fz a o e:=k a o (H.fz a o e) (.inl e)
 ce l c e:=(H.ce l c e).mono (Le.refl g) fun o q=>k _ o q (.inr (.inl ⟨l,zaa e,rfl⟩))
 ap:=H.ap
 inj:=H.inj
 nofr:=H.nofr
 lv a z:=by obtain ⟨⟨o,es,ep,q,d⟩,r⟩:=H.lv a z; exact ⟨⟨o,es,ep,k _ o q (.inr (.inr z)),d⟩,r⟩
structure St where
 s:Shared
 g:Gh
noncomputable abbrev St.up (σ:St) (h:Heap) (t:Nat) (g:Gh):St:=⟨{ σ.s with heap:=h,toks:=t },g⟩
structure Ext (σ σ':St) (own:Addr -> Prop):Prop where
 le:Le σ.g σ'.g
 fresh:∀ a o,σ'.g.hf a = some o -> σ.g.hf a = some o \/ σ.s.heap.get? a = none
 cfresh:∀ l,σ.g.cs.length <= l -> l < σ'.g.cs.length -> σ.s.heap.get? (σ'.g.ρ l) = none
 keep:∀ a o,σ.s.heap.get? a = some o -> (∀ l,l < σ.g.cs.length -> a ≠ σ.g.ρ l) -> ¬ own a -> ∃ o',σ'.s.heap.get? a = some o' /\ o'.data = o.data /\ (¬ σ.g.fl a -> o' = o)
 ownk:∀ a o,σ.s.heap.get? a = some o -> own a -> ∃ o',σ'.s.heap.get? a = some o'
 H:HRel σ'.g σ'.s.heap
 sh:σ'.s = { σ.s with heap:=σ'.s.heap,toks:=σ'.s.toks }
noncomputable def noOwn:Addr -> Prop:=fun _=>False
theorem Ext.refl {σ:St} (H:HRel σ.g σ.s.heap) (own:Addr -> Prop):Ext σ σ own :=
 ⟨Le.refl _,fun _ _ e=>.inl e,fun l a b=>absurd b (Nat.not_lt.mpr a),fun _ o e _ _=>⟨o,e,rfl,fun _=>rfl⟩,fun a o e _=>⟨o,e⟩,H,rfl⟩
theorem Ext.lives {σ σ':St} {own:Addr -> Prop} (x:Ext σ σ' own) {a:Addr} {o:Obj} (e:σ.s.heap.get? a = some o):∃ o',σ'.s.heap.get? a = some o':=by
 by_cases q:∃ l,l < σ.g.cs.length /\ a = σ.g.ρ l
 ·obtain ⟨l,hl,rfl⟩:=q
  obtain ⟨o',e',_⟩:=x.H.alive (Nat.lt_of_lt_of_le hl x.le.n)
  exact ⟨o',x.le.ρ l hl ▸ e'⟩
 ·by_cases r:own a
  ·exact x.ownk a o e r
  ·exact (x.keep a o e (fun l hl c=>q ⟨l,hl,c⟩) r).imp fun _ z=>z.1
theorem Ext.dead {σ σ':St} {own:Addr -> Prop} (x:Ext σ σ' own) {a:Addr} (e:σ'.s.heap.get? a = none):σ.s.heap.get? a = none:=by
 cases q:σ.s.heap.get? a with
 | none=>rfl
 | some o=>obtain ⟨o',e'⟩:=x.lives q; rw [e] at e'; cases e'
theorem Ext.nce {σ σ':St} {own:Addr -> Prop} (x:Ext σ σ' own) {a:Addr} {o:Obj} (e:σ.s.heap.get? a = some o) (n:∀ l,l < σ.g.cs.length -> σ.g.ρ l ≠ a):∀ l,l < σ'.g.cs.length -> σ'.g.ρ l ≠ a:=fun l hl q=>by
 by_cases r:l < σ.g.cs.length
 ·exact n l r (x.le.ρ l r ▸ q)
 ·have:=x.cfresh l (Nat.not_lt.mp r) hl
  rw [q,e] at this; cases this
theorem Ext.nhf {σ σ':St} {own:Addr -> Prop} (x:Ext σ σ' own) {a:Addr} {o:Obj} (e:σ.s.heap.get? a = some o) (n:σ.g.hf a = none):σ'.g.hf a = none:=by
 cases q:σ'.g.hf a with
 | none=>rfl
 | some o' =>
  rcases x.fresh a o' q with z | z
  ·rw [n] at z; cases z
  ·rw [e] at z; cases z
theorem Ext.mono {σ σ':St} {own own':Addr -> Prop} (x:Ext σ σ' own) (hs:∀ a,own a -> own' a):Ext σ σ' own' :=
 ⟨x.le,x.fresh,x.cfresh,fun a o e n q=>x.keep a o e n fun r=>q (hs a r),fun a o e _=>x.lives e,x.H,x.sh⟩
theorem Ext.trans {σ₁ σ₂ σ₃:St} {own:Addr -> Prop} (x:Ext σ₁ σ₂ own) (y:Ext σ₂ σ₃ own):Ext σ₁ σ₃ own where
 le:=x.le.trans y.le
 fresh a o e:=(y.fresh a o e).elim (x.fresh a o) fun q=>.inr (x.dead q)
 cfresh l a b:=by
  by_cases q:l < σ₂.g.cs.length
  ·rw [y.le.ρ l q]; exact x.cfresh l a q
  ·exact x.dead (y.cfresh l (Nat.not_lt.mp q) b)
 keep a o e n q:=by
  obtain ⟨o1,e1,d1,n1⟩:=x.keep a o e n q
  obtain ⟨o2,e2,d2,n2⟩:=y.keep a o1 e1 (fun l hl c=>x.nce e (fun l hl z=>n l hl z.symm) l hl c.symm) q
  exact ⟨o2,e2,d2.trans d1,fun z=>(n2 (x.le.fl.symm ▸ z)).trans (n1 z)⟩
 ownk a o e q:=by
  obtain ⟨o',e'⟩:=x.ownk a o e q
  exact y.ownk a o' e' q
 H:=y.H
 sh:=by rw [y.sh,x.sh]
theorem Ext.exact {σ σ':St} {own:Addr -> Prop} (x:Ext σ σ' own) {a:Addr} {o:Obj} (e:σ.s.heap.get? a = some o) (n:∀ l,l < σ.g.cs.length -> a ≠ σ.g.ρ l) (q:¬ own a) (f:¬ σ.g.fl a):σ'.s.heap.get? a = some o:=by
 obtain ⟨o',e',_,z⟩:=x.keep a o e n q
 rw [e',z f]
theorem Ext.drop_own {σ σ':St} {own:Addr -> Prop} (x:Ext σ σ' own) (f:∀ a,own a -> σ.s.heap.get? a = none):Ext σ σ' noOwn :=
 ⟨x.le,x.fresh,x.cfresh,fun a o e n _=>x.keep a o e n fun q=>(by rw [f a q] at e; cases e),fun a o e _=>x.lives e,x.H,x.sh⟩
theorem get?_ge {h:Heap} {a:Addr} (e:h.objs.size <= a):h.get? a = none:=by
 cases q:h.get? a with
 | none=>rfl
 | some o=>exact absurd (Heap.lt_size q) (Nat.not_lt.mpr e)
theorem get?_size (h:Heap):h.get? h.objs.size = none:=get?_ge (Nat.le_refl _)
noncomputable def Gh.freeze (g:Gh) (a:Addr) (o:Obj):Gh:={ g with hf:=fun b=>if b = a then some o else g.hf b }
noncomputable def Gh.grow (g:Gh) (a:Addr) (c:Cell):Gh:={ g with ρ:=fun l=>if l = g.cs.length then a else g.ρ l,cs:=g.cs ++ [c] }
noncomputable def Gh.upd (g:Gh) (l:Nat) (c:Cell):Gh:={ g with cs:=g.cs.set l c }
theorem zal (g:Gh) (a:Addr) (o:Obj):(g.freeze a o).hf a = some o:=if_pos rfl
theorem zas {g:Gh} {a b:Addr} {o o':Obj} (q:(g.freeze a o).hf b = some o'):(b = a /\ o' = o) \/ g.hf b = some o':=by
 have q':(if b = a then some o else g.hf b) = some o':=q
 by_cases hb:b = a
 ·rw [if_pos hb] at q'; exact .inl ⟨hb,(Option.some.inj q').symm⟩
 ·rw [if_neg hb] at q'; exact .inr q'
theorem Le.freeze (g:Gh) {a:Addr} (o:Obj) (e:g.hf a = none):Le g (g.freeze a o) :=
 ⟨Nat.le_refl _,fun _ _=>rfl,fun b o' q=>(if_neg fun hb=>by rw [hb,e] at q; cases q).trans q,rfl,rfl⟩
theorem zb7 (g:Gh) (a:Addr) (c:Cell):(g.grow a c).cs.length = g.cs.length + 1:=List.length_append
theorem Le.grow (g:Gh) (a:Addr) (c:Cell):Le g (g.grow a c) :=
 ⟨by rw [zb7]; exact Nat.le_succ _,fun l hl=>if_neg (Nat.ne_of_lt hl),fun _ _ q=>q,rfl,rfl⟩
theorem grow_ρ (g:Gh) (a:Addr) (c:Cell):(g.grow a c).ρ g.cs.length = a:=if_pos rfl
theorem zb6 {g:Gh} {a:Addr} {c:Cell} {l:Nat} (h:l < (g.grow a c).cs.length):l < g.cs.length \/ l = g.cs.length :=
 Nat.lt_or_eq_of_le (Nat.le_of_lt_succ (Nat.lt_of_lt_of_eq h (zb7 g a c)))
theorem zee (g:Gh) (l:Nat) (c:Cell):(g.upd l c).cs.length = g.cs.length:=List.length_set
theorem Le.upd (g:Gh) (l:Nat) (c:Cell):Le g (g.upd l c):=⟨Nat.le_of_eq (zee ..).symm,fun _ _=>rfl,fun _ _ q=>q,rfl,rfl⟩
section
variable {g:Gh} {h h':Heap}
theorem HRel.freeze (H:HRel g h) {a:Addr} {o:Obj} (k:∀ a o,g.hf a = some o \/ (∃ l,l < g.cs.length /\ a = g.ρ l) \/ g.fl a -> h.get? a = some o -> h'.get? a = some o) (n1:g.hf a = none) (n2:∀ l,l < g.cs.length -> g.ρ l ≠ a) (n3:¬ g.fl a) (e':h'.get? a = some o)
  (nc:∀ v,o.data ≠ .cell v):HRel (g.freeze a o) h' where
 fz b o' q:=(zas q).elim (fun z=>z.1 ▸ z.2 ▸ e') fun q=>k _ _ (.inl q) (H.fz b o' q)
 ce l c q:=(H.ce l c q).mono (Le.freeze g o n1) fun o' z=>k _ _ (.inr (.inl ⟨l,zaa q,rfl⟩)) z
 ap l hl:=(if_neg (n2 l hl)).trans (H.ap l hl)
 inj:=H.inj
 nofr b o' q:=(zas q).elim (fun z=>z.2 ▸ nc) (H.nofr b o')
 lv b z:=by
  obtain ⟨⟨o1,es,ep,q,d⟩,r1,r2⟩:=H.lv b z
  have ne:¬ b = a:=fun q=>n3 (q ▸ z)
  exact ⟨⟨o1,es,ep,k _ _ (.inr (.inr z)) q,d⟩,r1,(if_neg ne).trans r2⟩
theorem HRel.grow (H:HRel g h) {a:Addr} {c:Cell} (k:∀ a o,h.get? a = some o -> h'.get? a = some o) (n1:g.hf a = none) (n2:∀ l,l < g.cs.length -> g.ρ l ≠ a) (n3:¬ g.fl a) (c':CellIs (g.grow a c) h' a c):HRel (g.grow a c) h' where
 fz b o' q:=k _ _ (H.fz b o' q)
 ce l d q:=(zb6 (zaa q)).elim
  (fun hl=>(Le.grow g a c).ρ l hl ▸ (H.ce l d ((List.getElem?_append_left hl).symm.trans q)).mono (Le.grow g a c) fun o' z=>k _ _ z)
  fun hl=>by
   subst hl
   have q':(g.cs ++ [c])[g.cs.length]? = some d:=q
   rw [List.getElem?_append_right (Nat.le_refl _),Nat.sub_self] at q'
   cases q'
   exact (grow_ρ g a c).symm ▸ c'
 ap l hl:=(zb6 hl).elim (fun z=>(Le.grow g a c).ρ l z ▸ H.ap l z) fun z=>by rw [z,grow_ρ]; exact n1
 inj l l' hl hl' q:=(zb6 hl).elim
  (fun z=>(zb6 hl').elim (fun z'=>H.inj l l' z z' (by rw [(Le.grow g a c).ρ l z,(Le.grow g a c).ρ l' z'] at q; exact q)) fun z'=>by rw [(Le.grow g a c).ρ l z,z',grow_ρ] at q; exact absurd q (n2 l z))
  fun z=>(zb6 hl').elim (fun z'=>by rw [(Le.grow g a c).ρ l' z',z,grow_ρ] at q; exact absurd q.symm (n2 l' z')) fun z'=>z.trans z'.symm
 nofr:=H.nofr
 lv b z:=by
  obtain ⟨⟨o1,es,ep,q,d⟩,r1,r2⟩:=H.lv b z
  exact ⟨⟨o1,es,ep,k _ _ q,d⟩,fun l hl=>(zb6 hl).elim (fun y=>(Le.grow g a c).ρ l y ▸ r1 l y) fun y=>by rw [y,grow_ρ]; exact fun q=>n3 (q ▸ z),r2⟩
theorem HRel.upd (H:HRel g h) {l:Nat} {c:Cell} (hl:l < g.cs.length) (k:Heap.ExtBut (g.ρ l) h h') (c':CellIs (g.upd l c) h' (g.ρ l) c):HRel (g.upd l c) h' where
 fz b o' q:=k _ _ (fun z=>by subst z; cases (H.ap l hl).symm.trans q) (H.fz b o' q)
 ce l' c1 q:=by
  have q':(g.cs.set l c)[l']? = some c1:=q
  by_cases z:l = l'
  ·subst z
   rw [List.getElem?_set_self hl] at q'
   cases q'; exact c'
  ·rw [List.getElem?_set_ne z] at q'
   exact (H.ce l' c1 q').mono (Le.upd g l c) fun o' y=>k _ _ (fun w=>z (H.inj l l' hl (zaa q') w.symm)) y
 ap l' hl':=H.ap l' (zee g l c ▸ hl')
 inj a b ha hb:=H.inj a b (zee g l c ▸ ha) (zee g l c ▸ hb)
 nofr:=H.nofr
 lv b z:=by
  obtain ⟨⟨o1,es,ep,q,d⟩,r1,r2⟩:=H.lv b z
  exact ⟨⟨o1,es,ep,k _ _ (fun y=>r1 l hl y.symm) q,d⟩,fun l' hl'=>r1 l' (zee g l c ▸ hl'),r2⟩
end
section
variable {σ:St} {h':Heap} {t:Nat} {own:Addr -> Prop}
theorem Ext.keeps (H:HRel σ.g σ.s.heap) (k:∀ a o,σ.s.heap.get? a = some o -> h'.get? a = some o):Ext σ (σ.up h' t σ.g) own :=
 ⟨Le.refl _,fun _ _ e=>.inl e,fun l a b=>absurd b (Nat.not_lt.mpr a),fun a o e _ _=>⟨o,k _ _ e,rfl,fun _=>rfl⟩,fun a o e _=>⟨o,k _ _ e⟩,H.keep fun a o e _=>k a o e,rfl⟩
theorem Ext.tok (H:HRel σ.g σ.s.heap):Ext σ (σ.up σ.s.heap t σ.g) own:=Ext.keeps H fun _ _ e=>e
theorem Ext.freeze (H:HRel σ.g σ.s.heap) {a:Addr} {o:Obj} (k:∀ a o,σ.s.heap.get? a = some o -> h'.get? a = some o) (e:σ.s.heap.get? a = none) (e':h'.get? a = some o) (nc:∀ v,o.data ≠ .cell v):Ext σ (σ.up h' t (σ.g.freeze a o)) own :=
 ⟨Le.freeze _ o (H.hf_none e),fun b o' q=>(zas q).elim (fun z=>.inr (z.1 ▸ e)) .inl,fun l a b=>absurd b (Nat.not_lt.mpr a),fun a o e _ _=>⟨o,k _ _ e,rfl,fun _=>rfl⟩,fun a o e _=>⟨o,k _ _ e⟩,
  H.freeze (fun a o _=>k a o) (H.hf_none e) (fun l hl=>H.ne hl e) (H.nfl e) e' nc,rfl⟩
theorem Ext.grow (H:HRel σ.g σ.s.heap) {a:Addr} {c:Cell} (k:∀ a o,σ.s.heap.get? a = some o -> h'.get? a = some o) (e:σ.s.heap.get? a = none) (c':CellIs (σ.g.grow a c) h' a c):Ext σ (σ.up h' t (σ.g.grow a c)) own :=
 ⟨Le.grow _ a c,fun b o' q=>.inl q,fun l p q=>(zb6 q).elim (fun z=>absurd z (Nat.not_lt.mpr p)) fun z=>by rw [z]; exact (grow_ρ σ.g a c).symm ▸ e,fun a o e _ _=>⟨o,k _ _ e,rfl,fun _=>rfl⟩,fun a o e _=>⟨o,k _ _ e⟩,
  H.grow k (H.hf_none e) (fun l hl=>H.ne hl e) (H.nfl e) c',rfl⟩
theorem Ext.upd (H:HRel σ.g σ.s.heap) {l:Nat} {c:Cell} (hl:l < σ.g.cs.length) (k:Heap.ExtBut (σ.g.ρ l) σ.s.heap h') (c':CellIs (σ.g.upd l c) h' (σ.g.ρ l) c):Ext σ (σ.up h' t (σ.g.upd l c)) noOwn :=
 ⟨Le.upd _ l c,fun _ _ e=>.inl e,fun l' a b=>absurd (zee σ.g l c ▸ b) (Nat.not_lt.mpr a),fun a o e n _=>⟨o,k _ _ (n l hl) e,rfl,fun _=>rfl⟩,fun a o e q=>q.elim,H.upd hl k c',rfl⟩
end
structure Cx where
 prog:Program
 w:World
 base:Addr -> Option Obj
 d:Nat
 fl:Addr -> Prop:=fun _=>False
 fm:Around -> Env -> Prop:=fun _ _=>True
noncomputable abbrev Cx.M (C:Cx):Model:=model C.prog C.w
section
variable {α β γ δ:Type}
noncomputable def Runs (C:Cx) (A:Around) (σ:St) (own:Addr -> Prop) (t:Sem α) (R:β -> α -> St -> Prop) (K:β -> List Cell -> Prop):Prop :=
 ∀ (Q:α -> Shared -> Prop) (E:Value -> Shared -> Prop),(∀ b a σ',Ext σ σ' own -> R b a σ' -> K b σ'.g.cs -> Q a σ'.s) -> wpAny C.M A t Q E σ.s
noncomputable def VR:V -> Value -> St -> Prop:=fun v x σ=>VRel σ.g v x
noncomputable def LR:List V -> List Value -> St -> Prop:=fun v x σ=>VRels σ.g v x
noncomputable def BR:Bool -> Bool -> St -> Prop:=fun v x _=>x = v
variable {C:Cx} {A:Around} {σ:St} {own:Addr -> Prop}
theorem Runs.still {t:Sem α} {R:β -> α -> St -> Prop} {K:β -> List Cell -> Prop} {b:β} {a:α} (H:HRel σ.g σ.s.heap) (h:∀ (Q:α -> Shared -> Prop) E,(∀ tk,Q a { σ.s with toks:=tk }) -> wpAny C.M A t Q E σ.s)
  (r:∀ tk,R b a (σ.up σ.s.heap tk σ.g)) (q:K b σ.g.cs):Runs C A σ own t R K :=
 fun Q E k=>h Q E fun tk=>k b a (σ.up σ.s.heap tk σ.g) (Ext.tok H) (r tk) q
end
theorem zdn {M:Model} {A:Around} {E:Value -> Shared -> Prop} {s:Shared} {vs:List Value} {t:Sem Value} {Q:Value -> Shared -> Prop} (h:wpAny M A t Q E s):wpAny M A (operate vs t) Q E s :=
 fun Γ p hΓ=>by rw [Sem.wp_operate]; exact h Γ p hΓ
theorem zbw {M:Model} {A:Around} {E:Value -> Shared -> Prop} {s:Shared} {vs k:List Value} {Q:Unit -> Shared -> Prop} (h:Q () s):wpAny M A (release vs k) Q E s :=
 fun Γ p hΓ=>by rw [Sem.wp_release]; exact h
noncomputable def listK (c:Bool) (xs:List V) (cs:List Cell) (K:V -> List Cell -> Prop):Prop:=xs.length <= lim /\ Bool.rec (K (.lst xs) cs) (K (.ref cs.length) (cs ++ [.list xs])) c
theorem nofrL (vs:List Value) (ep:Nat):∀ v,(listO vs ep).data ≠ .cell v:=fun _ e=>nomatch e
theorem zg9 {σ:St} {c:Bool} {xs:List V} {vs:List Value} {ep:Nat} {h':Heap} {a:Addr} {K:V -> List Cell -> Prop} (H:HRel σ.g σ.s.heap) (r:VRels σ.g xs vs) (k:∀ a o,σ.s.heap.get? a = some o -> h'.get? a = some o) (e:σ.s.heap.get? a = none) (e':h'.get? a = some (listO vs ep))
  (q:listK c xs σ.g.cs K) (t:Nat):∃ v σ',Ext σ σ' noOwn /\ σ'.s = { σ.s with heap:=h',toks:=t } /\ VRel σ'.g v (.ref a) /\ K v σ'.g.cs:=by
 obtain ⟨hl,q⟩:=q
 cases c with
 | true=>exact ⟨_,σ.up h' t (σ.g.grow a (.list xs)),Ext.grow H k e ⟨vs,ep,e',vmono r (Le.grow ..),hl⟩,rfl,.ref' (by rw [zb7]; exact Nat.lt_succ_self _) (grow_ρ ..),q⟩
 | false=>exact ⟨_,σ.up h' t (σ.g.freeze a (listO vs ep)),Ext.freeze H k e e' (nofrL vs ep),rfl,.lst (zal ..) (vmono r (Le.freeze _ _ (H.hf_none e))) hl,q⟩
theorem Runs.mkL {C:Cx} {A:Around} {σ:St} {t:Sem Value} {c:Bool} {xs:List V} {vs:List Value} {K:V -> List Cell -> Prop} (H:HRel σ.g σ.s.heap) (r:VRels σ.g xs vs) (q:listK c xs σ.g.cs K)
  (h:∀ (Q:Value -> Shared -> Prop) E,(∀ tk,Q (.ref σ.s.heap.objs.size) { σ.s with heap:=σ.s.heap.push (listO vs 0),toks:=tk }) -> wpAny C.M A t Q E σ.s):Runs C A σ noOwn t VR K:=fun Q E k =>
 h Q E fun tk=>by
  obtain ⟨v,σ',x,e,r',q'⟩:=zg9 H r (fun a o e=>Heap.get?_push_of_some _ e) (get?_size _) (Heap.get?_push_size _ rfl) q tk
  exact e ▸ k v _ σ' x r' q'
inductive SeqR (cs:List Cell):V -> Bool -> List V -> Prop
 | tup (xs):SeqR cs (.tup xs) true xs
 | lst (xs):SeqR cs (.lst xs) false xs
 | ref {l xs} (h:cs[l]? = some (.list xs)):SeqR cs (.ref l) false xs
inductive SeqAt' (g:Gh) (h:Heap) (b:Bool) (xs:List V):Value -> Prop
 | mk (a vs ep) (e:h.get? a = some ⟨.type (Bool.rec "list" "tuple" b),none,.seq (List.toArray vs) ep,#[]⟩) (r:VRels g xs vs) (hl:xs.length <= lim):SeqAt' g h b xs (.ref a)
theorem zap {g:Gh} {h:Heap} {v:V} {w:Value} {b:Bool} {xs:List V} (H:HRel g h) (e:SeqR g.cs v b xs) (r:VRel g v w):SeqAt' g h b xs w:=by
 cases e with
 | tup=>obtain ⟨a,vs,ep,rfl,q,r,hl⟩:=r.inv; exact .mk a vs ep (H.fz _ _ q) r hl
 | lst=>obtain ⟨a,vs,ep,rfl,q,r,hl⟩:=r.inv; exact .mk a vs ep (H.fz _ _ q) r hl
 | ref hx=>obtain ⟨rfl,hl⟩:=r.inv; obtain ⟨vs,ep,q,r,hl⟩:=H.ce _ _ hx; exact .mk _ vs ep q r hl
theorem zah:lim <= sizeLine:=by rw [sizeLine_eq]; decide
end Mine
end
section
namespace Mine
open PySem
structure AOk (A:Around) (d:Nat):Prop where
 hh:A.handled = none
 dep:A.depth + d < recursionLimit
 un:A.units + 100 * d + 200 < cLine
theorem AOk.less {A:Around} {d d':Nat} (h:d <= d') (O:AOk A d'):AOk A d:=⟨O.hh,Nat.lt_of_le_of_lt (Nat.add_le_add_left h _) O.dep,Nat.lt_of_le_of_lt (Nat.add_le_add_right (Nat.add_le_add_left (Nat.mul_le_mul_left _ h) _) _) O.un⟩
theorem Ext.trans' {σ₁ σ₂ σ₃:St} {own own':Addr -> Prop} (x:Ext σ₁ σ₂ own) (y:Ext σ₂ σ₃ own') (f:∀ a,own' a -> own a \/ σ₁.s.heap.get? a = none):Ext σ₁ σ₃ own :=
 have z:=x.mono (own':=fun a=>own a \/ own' a) fun _ h=>.inl h
 have w:=z.trans (y.mono (own':=fun a=>own a \/ own' a) fun _ h=>.inr h)
 ⟨w.le,w.fresh,w.cfresh,fun a o e n q=>w.keep a o e n fun r=>r.elim q fun r=>(f a r).elim q fun d=>(by rw [d] at e; cases e),fun a o e _=>w.lives e,w.H,w.sh⟩
theorem Ext.ns {σ σ':St} {own:Addr -> Prop} (x:Ext σ σ' own) {L:Addr} {m:Str -> Option Value} (hn:σ.s.heap.Ns L m) (hl:∀ l,l < σ.g.cs.length -> σ.g.ρ l ≠ L) (ho:¬ own L):σ'.s.heap.Ns L m:=by
 obtain ⟨o,es,ep,e,r⟩:=hn
 obtain ⟨o',e',d,_⟩:=x.keep L o e (fun l hl' c=>hl l hl' c.symm) ho
 exact ⟨o',es,ep,e',d.trans r.1,r.2⟩
theorem Ext.isCell {σ σ':St} {own:Addr -> Prop} (x:Ext σ σ' own) {c:Addr} {w:Option Value} (hn:σ.s.heap.IsCell c w) (hl:∀ l,l < σ.g.cs.length -> σ.g.ρ l ≠ c) (ho:¬ own c):σ'.s.heap.IsCell c w:=by
 obtain ⟨o,e,d⟩:=hn
 obtain ⟨o',e',d',_⟩:=x.keep c o e (fun l hl' c=>hl l hl' c.symm) ho
 exact ⟨o',e',d'.trans d⟩
noncomputable def isC (env:Env) (x:Str):Prop:=env.kindOf x = some .cell \/ env.kindOf x = some .free
inductive NsAt (g:Gh) (env:Env) (L:Str -> Option V) (h:Heap):Prop
 | mk (m) (hn:h.Ns env.locals m) (r:∀ x v,L x = some v -> env.kindOf x = some .local -> ∃ v',m x = some v' /\ VRel g v v')
inductive CellAt (g:Gh) (env:Env) (L:Str -> Option V) (h:Heap) (x:Str):Prop
 | mk (c w) (e:env.cells.lookup x = some c) (ic:h.IsCell c w) (r:∀ v,L x = some v -> ∃ v',w = some v' /\ VRel g v v')
structure FRel (g:Gh) (env:Env) (L:Str -> Option V) (h:Heap):Prop where
 kind:env.scope.kind = .function
 glo:env.globals = mainGlobals
 blt:env.builtins = builtinsNs
 ns:NsAt g env L h
 lfree:g.hf env.locals = none
 lcell:∀ l,l < g.cs.length -> g.ρ l ≠ env.locals
 nfl:¬ g.fl env.locals
 cell:∀ x,isC env x -> CellAt g env L h x
 capart:∀ x y c,isC env x -> isC env y -> env.cells.lookup x = some c -> env.cells.lookup y = some c -> x = y
noncomputable def ownAll (env:Env):Addr -> Prop:=fun a=>a = env.locals \/ ∃ x,isC env x /\ env.cells.lookup x = some a
noncomputable def ownOf (env:Env):Addr -> Prop:=fun a=>a = env.locals \/ ∃ x,env.kindOf x = some .cell /\ env.cells.lookup x = some a
theorem zkd {env:Env} (a:Addr) (h:ownOf env a):ownAll env a:=h.imp id fun ⟨x,h,e⟩=>⟨x,.inl h,e⟩
theorem zld {g:Gh} {h:Heap} (H:HRel g h) {c:Addr} {w:Option Value} (hc:h.IsCell c w):g.hf c = none:=by
 cases q:g.hf c with
 | none=>rfl
 | some o =>
  obtain ⟨o',e,d⟩:=hc
  rw [H.fz c o q] at e; cases e
  exact absurd d (H.nofr c o q w)
theorem IsCell_ne_ρ {g:Gh} {h:Heap} (H:HRel g h) {c:Addr} {w:Option Value} (hc:h.IsCell c w) (l:Nat) (hl:l < g.cs.length):g.ρ l ≠ c:=fun q=>by
 obtain ⟨o,e,_,n⟩:=H.alive hl
 obtain ⟨o',e',d⟩:=hc
 rw [q,e'] at e; cases e
 exact n w d
theorem zp8 {g:Gh} {h:Heap} (H:HRel g h) {c:Addr} {w:Option Value} (hc:h.IsCell c w):¬ g.fl c:=fun z=>by
 obtain ⟨⟨o,es,ep,e,d⟩,_⟩:=H.lv c z
 obtain ⟨o',e',d'⟩:=hc
 rw [e] at e'; cases e'
 rw [d] at d'; cases d'
theorem zcw {h:Heap} {c L:Addr} {w:Option Value} {m:Str -> Option Value} (hc:h.IsCell c w) (hn:h.Ns L m):c ≠ L:=fun q=>by
 obtain ⟨o,es,ep,e,d,_⟩:=hn
 obtain ⟨o',e',d'⟩:=hc
 rw [q,e] at e'; cases e'
 rw [d] at d'; cases d'
variable {g:Gh} {env:Env} {L L':Str -> Option V} {h:Heap}
theorem FRel.alive (F:FRel g env L h) (a:Addr) (q:ownAll env a):∃ o,h.get? a = some o:=by
 rcases q with rfl | ⟨x,hx,e⟩
 ·obtain ⟨m,hn,_⟩:=F.ns; obtain ⟨o,_,_,e,_⟩:=hn; exact ⟨o,e⟩
 ·obtain ⟨c,w',e',hc,_⟩:=F.cell x hx
  rw [e] at e'; cases e'
  exact hc.imp fun _ h=>h.1
theorem FRel.apart (F:FRel g env L h) (H:HRel g h) (a:Addr) (q:ownAll env a):g.hf a = none /\ (∀ l,l < g.cs.length -> g.ρ l ≠ a) /\ ¬ g.fl a:=by
 rcases q with rfl | ⟨x,hx,e⟩
 ·exact ⟨F.lfree,F.lcell,F.nfl⟩
 ·obtain ⟨c,w',e',ic,_⟩:=F.cell x hx
  rw [e] at e'; cases e'
  exact ⟨zld H ic,IsCell_ne_ρ H ic,zp8 H ic⟩
theorem FRel.weaken (F:FRel g env L' h) (e:∀ x v,L x = some v -> L' x = some v):FRel g env L h :=
 { F with
  ns:=by obtain ⟨m,hn,r⟩:=F.ns; exact ⟨m,hn,fun x v q=>r x v (e x v q)⟩
  cell:=fun x hx=>by obtain ⟨c,w',a,b,r⟩:=F.cell x hx; exact ⟨c,w',a,b,fun v q=>r v (e x v q)⟩ }
theorem FRel.ext {σ σ':St} {own:Addr -> Prop} (F:FRel σ.g env L σ.s.heap) (H:HRel σ.g σ.s.heap) (x:Ext σ σ' own) (no:∀ a,own a -> ¬ ownAll env a):FRel σ'.g env L σ'.s.heap where
 kind:=F.kind
 glo:=F.glo
 blt:=F.blt
 ns:=by
  obtain ⟨m,hn,r⟩:=F.ns
  exact ⟨m,x.ns hn F.lcell (fun z=>no _ z (.inl rfl)),fun y v a b=>(r y v a b).imp fun _ h=>⟨h.1,h.2.mono x.le⟩⟩
 lfree:=by obtain ⟨o,e⟩:=F.alive _ (.inl rfl); exact x.nhf e F.lfree
 lcell:=by obtain ⟨o,e⟩:=F.alive _ (.inl rfl); exact x.nce e F.lcell
 nfl:=x.le.fl.symm ▸ F.nfl
 cell y hy:=by
  obtain ⟨c,w,e,ic,r⟩:=F.cell y hy
  exact ⟨c,w,e,x.isCell ic (IsCell_ne_ρ H ic) (fun z=>no _ z (.inr ⟨y,hy,e⟩)),fun v q=>(r v q).imp fun _ h=>⟨h.1,h.2.mono x.le⟩⟩
 capart:=F.capart
noncomputable abbrev Slots:=List (Option V)
noncomputable def look (ns:List Str) (sl:Slots):Str -> Option V:=fun x=>(sl[ns.idxOf x]?).join
theorem zxa {ns:List Str} {sl:Slots} {x y:Str} {i:Nat} {v u:V} (hi:ns.idxOf x = i) (hl:i < ns.length) (e:look ns (sl.set i (some v)) y = some u):(y = x /\ u = v) \/ (y ≠ x /\ look ns sl y = some u):=by
 subst hi
 unfold look at e ⊢
 by_cases h:y = x
 ·subst h
  rw [List.getElem?_set,if_pos rfl] at e
  split at e
  ·cases e; exact .inl ⟨rfl,rfl⟩
  ·cases e
 ·refine .inr ⟨h,?_⟩
  rw [List.getElem?_set_ne] at e
  ·exact e
  ·intro q
   have h1:=List.getElem_idxOf hl
   have h2:ns[ns.idxOf y]'(q ▸ hl) = y:=List.getElem_idxOf _
   exact h (h2.symm.trans ((by simp only [q]:ns[ns.idxOf y]'(q ▸ hl) = ns[ns.idxOf x]).trans h1))
structure Fm where
 A:Around
 env:Env
structure Base (C:Cx) (g:Gh):Prop where
 pr:g.pr = C.w.params
 hf:∀ a o,C.base a = some o -> g.hf a = some o
 fl:∀ a,C.fl a -> g.fl a
theorem Base.le {C:Cx} {g g':Gh} (b:Base C g) (L:Le g g'):Base C g':=⟨L.pr.trans b.pr,fun a o e=>L.hf a o (b.hf a o e),fun a z=>L.fl.symm ▸ b.fl a z⟩
structure Std (C:Cx) (Φ:Fm) (L:Str -> Option V) (σ:St):Prop where
 F:FRel σ.g Φ.env L σ.s.heap
 H:HRel σ.g σ.s.heap
 B:Base C σ.g
 O:AOk Φ.A C.d
theorem Std.ext {C:Cx} {Φ:Fm} {σ σ':St} (S:Std C Φ L σ) (x:Ext σ σ' noOwn):Std C Φ L σ':=⟨S.F.ext S.H x fun _ z=>z.elim,x.H,S.B.le x.le,S.O⟩
theorem Std.weaken {C:Cx} {Φ:Fm} {σ:St} (S:Std C Φ L' σ) (e:∀ x v,L x = some v -> L' x = some v):Std C Φ L σ:=⟨S.F.weaken e,S.H,S.B,S.O⟩
variable {C:Cx} {Φ:Fm} {σ:St}
theorem zkc {ow:Addr -> Prop} (S:Std C Φ L σ) {a:Addr} {h':Heap} {t:Nat} (ha:ow a) (hall:ownAll Φ.env a) (hs:Heap.SameBut a σ.s.heap h') (ho:∃ o',h'.get? a = some o'):Ext σ (σ.up h' t σ.g) ow:=by
 obtain ⟨n1,n2,n3⟩:=S.F.apart S.H a hall
 refine ⟨Le.refl _,fun _ _ e=>.inl e,fun l a b=>absurd b (Nat.not_lt.mpr a),fun b o eb nb nob=>⟨o,hs.extBut b o (fun z=>nob (z ▸ ha)) eb,rfl,fun _=>rfl⟩,fun b o eb hb=>?_,S.H.keep fun b o eb q=>hs.extBut b o (fun z=>?_) eb,rfl⟩
 ·by_cases hba:b = a
  ·exact hba ▸ ho
  ·exact ⟨o,hs.extBut b o hba eb⟩
 ·subst z
  rcases q with q | ⟨l,hl,q⟩ | q
  ·rw [n1] at q; cases q
  ·exact n2 l hl q.symm
  ·exact n3 q
noncomputable def upd1 (L:Str -> Option V) (x:Str) (v:V) (L':Str -> Option V):Prop:=∀ y u,L' y = some u -> (y = x /\ u = v) \/ (y ≠ x /\ L y = some u)
noncomputable def isL (env:Env) (x:Str):Prop:=env.kindOf x = some .local \/ env.kindOf x = some .cell
theorem zvs (S:Std C Φ L σ) {x:Str} {v:V} {v':Value} (hk:isL Φ.env x) (u1:upd1 L x v L') (r:VRel σ.g v v') {Q:Unit -> Shared -> Prop} {E:Value -> Shared -> Prop} {ow:Addr -> Prop}
  (o1:ow Φ.env.locals) (o2:∀ c,Φ.env.kindOf x = some .cell -> Φ.env.cells.lookup x = some c -> ow c)
  (k:∀ σ',Ext σ σ' ow -> Std C Φ L' σ' -> σ'.g.cs = σ.g.cs -> Q () σ'.s):wpAny C.M Φ.A (storeName Φ.env x v') Q E σ.s:=by
 have H:=S.H
 rcases hk with hk | hk
 ·obtain ⟨m,hn,hr⟩:=S.F.ns
  refine wpAny_storeName_local hk hn (fun h' hn' hs=>?_) (by rw [S.F.kind]; rfl)
  have X:=zkc (t:=σ.s.toks + 1) S o1 (.inl rfl) hs (by obtain ⟨o,_,_,e,_⟩:=hn'; exact ⟨o,e⟩)
  refine k _ X ⟨⟨S.F.kind,S.F.glo,S.F.blt,⟨_,hn',fun y u q hy=>?_⟩,S.F.lfree,S.F.lcell,S.F.nfl,fun y hy=>?_,S.F.capart⟩,X.H,S.B,S.O⟩ rfl
  ·rcases u1 y u q with ⟨rfl,rfl⟩ | ⟨h,q⟩
   ·exact ⟨v',if_pos rfl,r⟩
   ·exact (hr y u q hy).imp fun _ z=>⟨(if_neg h).trans z.1,z.2⟩
  ·obtain ⟨c,w',a,b,r2⟩:=S.F.cell y hy
   refine ⟨c,w',a,?_,fun u q=>?_⟩
   ·obtain ⟨o,e1,e2⟩:=b
    exact ⟨o,hs.extBut _ _ (fun z=>zcw ⟨o,e1,e2⟩ hn z) e1,e2⟩
   ·rcases u1 y u q with ⟨rfl,rfl⟩ | ⟨h,q⟩
    ·rcases hy with hy | hy <;> cases hk.symm.trans hy
    ·exact r2 u q
 ·obtain ⟨c,w',hc,hi,hr⟩:=S.F.cell x (.inl hk)
  refine wpAny_storeName_cell S.F.kind hk hc hi fun h' hi' hs=>?_
  have X:=zkc (t:=σ.s.toks) S (o2 c hk hc) (.inr ⟨x,.inl hk,hc⟩) hs (by obtain ⟨o,e,q⟩:=hi'; exact ⟨o,e⟩)
  obtain ⟨m,hn,hr2⟩:=S.F.ns
  refine k _ X ⟨⟨S.F.kind,S.F.glo,S.F.blt,⟨m,?_,fun y u q hy=>?_⟩,S.F.lfree,S.F.lcell,S.F.nfl,fun y hy=>?_,S.F.capart⟩,X.H,S.B,S.O⟩ rfl
  ·have hcn:=zcw hi hn
   obtain ⟨o,es,ep,e1,e2⟩:=hn
   exact ⟨o,es,ep,hs.extBut _ _ (Ne.symm hcn) e1,e2⟩
  ·rcases u1 y u q with ⟨rfl,rfl⟩ | ⟨h,q⟩
   ·cases hk.symm.trans hy
   ·exact hr2 y u q hy
  ·by_cases h:y = x
   ·subst h
    refine ⟨c,some v',hc,hi',fun u q=>?_⟩
    rcases u1 y u q with ⟨_,rfl⟩ | ⟨h,_⟩
    ·exact ⟨v',rfl,r⟩
    ·exact absurd rfl h
   ·obtain ⟨c2,w2,a,b,r2⟩:=S.F.cell y hy
    refine ⟨c2,w2,a,?_,fun u q=>(u1 y u q).elim (fun z=>absurd z.1 h) fun z=>r2 u z.2⟩
    obtain ⟨o,e1,e2⟩:=b
    exact ⟨o,hs.extBut _ _ (fun z=>h (S.F.capart y x c2 hy (.inl hk) a (z ▸ hc))) e1,e2⟩
theorem z3j (S:Std C Φ L σ) {x:Str} {v:V} (hk:isL Φ.env x \/ (Φ.env.kindOf x = some .free /\ (x == ("__classdict__" : Str)) = false)) (e:L x = some v) {K:V -> List Cell -> Prop} (q:K v σ.g.cs) :
  Runs C Φ.A σ noOwn (loadName Φ.env x) VR K:=by
 rcases hk with (hk | hk) | ⟨hk,hn⟩
 ·obtain ⟨m,hn,r⟩:=S.F.ns
  obtain ⟨v',hm,r⟩:=r _ _ e hk
  exact Runs.still S.H (fun Q E k=>wpAny_loadName_local S.F.kind hk hn hm (k _)) (fun _=>r) q
 ·obtain ⟨c,w',hc,hi,hv⟩:=S.F.cell x (.inl hk)
  obtain ⟨v',rfl,r⟩:=hv _ e
  exact Runs.still S.H (fun Q E k=>wpAny_loadName_cell S.F.kind hk hc hi (k _)) (fun _=>r) q
 ·obtain ⟨c,w',hc,hi,hv⟩:=S.F.cell x (.inr hk)
  obtain ⟨v',rfl,r⟩:=hv _ e
  exact Runs.still S.H (fun Q E k=>wpAny_loadName_free S.F.kind hk hc hi (k _) hn) (fun _=>r) q
end Mine
end
section
namespace Mine
open PySem
noncomputable abbrev KV:=V -> List Cell -> Prop
noncomputable abbrev KB:=Bool -> List Cell -> Prop
noncomputable def bigN:Nat:=1766847064778384329583297500742918515827483896875618958121606201292619776
noncomputable def mulOk (a b:Int):Bool:=decide (a.natAbs < 9223372036854775808) || decide (b.natAbs < 9223372036854775808) || (decide (a.natAbs < bigN) && decide (b.natAbs < bigN))
noncomputable def small62 (j:Int):Prop:=-4611686018427387904 < j /\ j < 4611686018427387904
inductive BinR (c:Bool) (cs:List Cell) (K:KV):Operator -> V -> V -> Prop
 | addI {i j} (k:K (.int (i + j)) cs):BinR c cs K .Add (.int i) (.int j)
 | addS {x y} (h:x.length + y.length <= lim) (k:K (.str (x ++ y)) cs):BinR c cs K .Add (.str x) (.str y)
 | addL {a b xs ys} (ha:SeqR cs a false xs) (hb:SeqR cs b false ys) (k:listK c (xs ++ ys) cs K):BinR c cs K .Add a b
 | subI {i j} (k:K (.int (i - j)) cs):BinR c cs K .Sub (.int i) (.int j)
 | mulI {i j} (h:mulOk i j = true) (k:K (.int (i * j)) cs):BinR c cs K .Mult (.int i) (.int j)
 | mulS {x j} (h:x.length * j.toNat <= lim) (hj:small62 j) (k:K (.str (Txt.mul x j)) cs):BinR c cs K .Mult (.str x) (.int j)
 | mulL {xs j} (h:xs.length * j.toNat <= lim) (hj:small62 j) (k:listK c (List.replicate j.toNat xs).flatten cs K):BinR c cs K .Mult (.lst xs) (.int j)
 | fdivI {i j} (h:j ≠ 0 /\ j.natAbs < bigN) (k:K (.int (i.fdiv j)) cs):BinR c cs K .FloorDiv (.int i) (.int j)
 | modI {i j} (h:j ≠ 0) (k:K (.int (i.fmod j)) cs):BinR c cs K .Mod (.int i) (.int j)
 | powI {i j} (h:0 <= j /\ j <= 4000 /\ i.natAbs < bigN) (k:K (.int (i ^ j.toNat)) cs):BinR c cs K .Pow (.int i) (.int j)
 | shlI {i j} (h:0 <= j /\ j <= 4000 /\ i.natAbs < bigN) (k:K (.int (i * 2 ^ j.toNat)) cs):BinR c cs K .LShift (.int i) (.int j)
 | shrI {i j} (h:0 <= j) (k:K (.int (i.fdiv (2 ^ j.toNat))) cs):BinR c cs K .RShift (.int i) (.int j)
 | xorI {i j} (k:K (.int (Builtin.bitXor i j)) cs):BinR c cs K .BitXor (.int i) (.int j)
 | andI {i j} (k:K (.int (Builtin.bitAnd i j)) cs):BinR c cs K .BitAnd (.int i) (.int j)
 | orI {i j} (k:K (.int (Builtin.bitOr i j)) cs):BinR c cs K .BitOr (.int i) (.int j)
 | subB {i j} (k:K (.int ((if i = true then 1 else 0) - (if j = true then 1 else 0))) cs):BinR c cs K .Sub (.bool i) (.bool j)
inductive EqR (cs:List Cell):Nat -> V -> V -> Bool -> Prop
 | int (n i j):EqR cs n (.int i) (.int j) (decide (i = j))
 | str (n x y):EqR cs n (.str x) (.str y) (decide (x = y))
 | bool (n x y):EqR cs n (.bool x) (.bool y) (x == y)
 | seq {n a b k xs ys} (f:Nat -> Bool) (ha:SeqR cs a k xs) (hb:SeqR cs b k ys) (h:∀ j x y,xs[j]? = some x -> ys[j]? = some y -> EqR cs n x y (f j)) :
   EqR cs (n + 1) a b ((List.range (min xs.length ys.length)).all f && xs.length == ys.length)
structure Fnd (cs:List Cell) (xs:List V) (a:V) (f:Nat -> Bool):Prop where
 eq:∀ j x,xs[j]? = some x -> EqR cs 8 x a (f j)
 inj:∀ (g:Gh) (j k:Nat) (x z:V) (y:Value),xs[j]? = some x -> xs[k]? = some z -> VRel g x y -> VRel g z y -> f j = f k
inductive IsR:V -> V -> Bool -> Prop
 | typ (a b):IsR (.typ a) (.typ b) (a == b)
 | bool (a b):IsR (.bool a) (.bool b) (a == b)
 | none:IsR .none .none true
 | ref (l):IsR (.ref l) .none false
 | str (l):IsR (.str l) .none false
noncomputable def dctGet (x:Str):List Str -> List V -> Option V :=
 List.rec (fun _=>none) fun k _ ih vs=>List.rec none (fun v vs _=>if k = x then some v else ih vs) vs
inductive CmpR (cs:List Cell) (K:KB):CmpOp -> V -> V -> Prop
 | eq {a b r} (h:EqR cs 9 a b r) (k:K r cs):CmpR cs K .Eq a b
 | ne {a b r} (h:EqR cs 9 a b r) (k:K (!r) cs):CmpR cs K .NotEq a b
 | lt {i j} (k:K (decide (i < j)) cs):CmpR cs K .Lt (.int i) (.int j)
 | le {i j} (k:K (decide (i <= j)) cs):CmpR cs K .LtE (.int i) (.int j)
 | gt {i j} (k:K (decide (j < i)) cs):CmpR cs K .Gt (.int i) (.int j)
 | ge {i j} (k:K (decide (j <= i)) cs):CmpR cs K .GtE (.int i) (.int j)
 | is {a b r} (h:IsR a b r) (k:K r cs):CmpR cs K .Is a b
 | isNot {a b r} (h:IsR a b r) (k:K (!r) cs):CmpR cs K .IsNot a b
 | inS {x y} (k:K (Txt.contains y x) cs):CmpR cs K .In (.str x) (.str y)
 | notInS {x y} (k:K (!Txt.contains y x) cs):CmpR cs K .NotIn (.str x) (.str y)
 | inD {x ks vs} (k:K (dctGet x ks vs).isSome cs):CmpR cs K .In (.str x) (.dct ks vs)
 | inL {a o b xs} (f:Nat -> Bool) (ho:SeqR cs o b xs) (h:Fnd cs xs a f) (k:K ((List.range xs.length).any f) cs):CmpR cs K .In a o
 | notInL {a o b xs} (f:Nat -> Bool) (ho:SeqR cs o b xs) (h:Fnd cs xs a f) (k:K (!(List.range xs.length).any f) cs):CmpR cs K .NotIn a o
noncomputable def truthK (cs:List Cell) (v:V) (K:KB):Prop :=
 V.rec (motive_1:=fun _=>Prop) (motive_2:=fun _=>Unit) (K false cs) (fun b=>K b cs) (fun i=>K (decide (i ≠ 0)) cs) (fun x=>K (decide (x.length ≠ 0)) cs) (fun _=>False) (fun _=>False) (fun _=>False)
  (fun l=>∃ xs,cs[l]? = some (.list xs) /\ K (!xs.isEmpty) cs) (fun xs _=>K (!xs.isEmpty) cs) (fun xs _=>K (!xs.isEmpty) cs) (fun _ _ _=>False) (fun _ _ _=>False) (fun _ _ _=>False) () (fun _ _ _ _=>()) v
inductive UnR (cs:List Cell) (K:KV):UnaryOp -> V -> Prop
 | neg {i} (k:K (.int (-i)) cs):UnR cs K .USub (.int i)
 | inv {i} (k:K (.int (-i - 1)) cs):UnR cs K .Invert (.int i)
noncomputable def idxV {α:Type} (xs:List α) (i:Int):Option α :=
 if 0 <= i then xs[i.toNat]? else if 0 <= i + xs.length then xs[(i + xs.length).toNat]? else none
noncomputable def dctiGet (x:Int):List Int -> List V -> Option V :=
 List.rec (fun _=>none) fun k _ ih vs=>List.rec none (fun v vs _=>if k = x then some v else ih vs) vs
inductive ItemR (cs:List Cell):V -> V -> V -> Prop
 | str {x i c} (h:idxV x.cps.toList i = some c):ItemR cs (.str x) (.int i) (.str ⟨#[c]⟩)
 | dct {ks vs x v} (h:dctGet x ks vs = some v):ItemR cs (.dct ks vs) (.str x) v
 | dcti {ks vs x v} (h:dctiGet x ks vs = some v):ItemR cs (.dcti ks vs) (.int x) v
 | seq {o b xs i v} (ho:SeqR cs o b xs) (h:idxV xs i = some v):ItemR cs o (.int i) v
noncomputable def sliceL {α:Type} (xs:List α) (lo hi st:Option Int):List α :=
 (sliceRange (sliceBounds lo hi st xs.length).1 (sliceBounds lo hi st xs.length).2.1 (sliceBounds lo hi st xs.length).2.2).filterMap (xs[·]?)
inductive OptR:V -> Option Int -> Prop
 | none:OptR .none none
 | int (i):OptR (.int i) (some i)
inductive SliceR (c:Bool) (cs:List Cell) (K:KV):V -> Option Int -> Option Int -> Option Int -> Prop
 | str {x l h} (k:K (.str (Txt.slice x l h)) cs):SliceR c cs K (.str x) l h none
 | lst {o xs l h s} (ho:SeqR cs o false xs) (hs:s ≠ some 0) (k:listK c (sliceL xs l h s) cs K):SliceR c cs K o l h s
inductive Src where
 | items (xs:List V)
 | cell (l i:Nat)
 | enumc (l i:Nat)
 | zipc (l i:Nat) (ys:List V)
noncomputable def charsV (x:Str):List V:=x.cps.toList.map fun c=>.str ⟨#[c]⟩
noncomputable def rangeFrom (c:Int) (n:Nat):Int -> List V:=Nat.rec (fun _=>[]) (fun _ ih x=>.int x :: ih (x + c)) n
noncomputable def rangeV (a b c:Int):List V:=rangeFrom c (Builtin.Range.rangeSize a b c).toNat a
noncomputable def enumV (xs:List V):Nat -> List V:=List.rec (fun _=>[]) (fun x _ ih k=>.tup [.int (k:Nat),x] :: ih (k + 1)) xs
inductive NextR (cs:List Cell):Src -> V -> Src -> Prop
 | items (x xs):NextR cs (.items (x :: xs)) x (.items xs)
 | cell {l i xs x} (h:cs[l]? = some (.list xs)) (hx:xs[i]? = some x):NextR cs (.cell l i) x (.cell l (i + 1))
 | enumc {l i xs x} (h:cs[l]? = some (.list xs)) (hx:xs[i]? = some x):NextR cs (.enumc l i) (.tup [.int (i:Nat),x]) (.enumc l (i + 1))
 | zipc {l i xs x y ys} (h:cs[l]? = some (.list xs)) (hx:xs[i]? = some x):NextR cs (.zipc l i (y :: ys)) (.tup [x,y]) (.zipc l (i + 1) ys)
inductive EndR (cs:List Cell):Src -> Prop
 | items:EndR cs (.items [])
 | cell {l i xs} (h:cs[l]? = some (.list xs)) (hx:xs[i]? = none):EndR cs (.cell l i)
 | enumc {l i xs} (h:cs[l]? = some (.list xs)) (hx:xs[i]? = none):EndR cs (.enumc l i)
 | zipc {l i xs ys} (h:cs[l]? = some (.list xs)) (hx:xs[i]? = none \/ ys = []):EndR cs (.zipc l i ys)
inductive SrcR (cs:List Cell):V -> Src -> Prop
 | tup (xs):SrcR cs (.tup xs) (.items xs)
 | lst (xs):SrcR cs (.lst xs) (.items xs)
 | str {x} (h:x.cps.all (· < 128) = true):SrcR cs (.str x) (.items (charsV x))
 | strW {x} (h:x.cps.all (· < 128) = false):SrcR cs (.str x) (.items (charsV x))
 | rng {a b c} (h:Builtin.Range.small a b c = true /\ c ≠ 0):SrcR cs (.rng a b c) (.items (rangeV a b c))
 | cell {l xs} (h:cs[l]? = some (.list xs)):SrcR cs (.ref l) (.cell l 0)
inductive EnumR (cs:List Cell):V -> Src -> Prop
 | lst (xs):EnumR cs (.lst xs) (.items (enumV xs 0))
 | cell {l xs} (h:cs[l]? = some (.list xs)):EnumR cs (.ref l) (.enumc l 0)
noncomputable def maxI (r:List Int):Int -> Int:=List.rec (fun a=>a) (fun b _ ih a=>ih (if b > a then b else a)) r
inductive KindR (cs:List Cell):V -> String -> Prop
 | str (x):KindR cs (.str x) "str"
 | int (x):KindR cs (.int x) "int"
 | bool (x):KindR cs (.bool x) "bool"
 | seq {v b xs} (h:SeqR cs v b xs):KindR cs v (Bool.rec "list" "tuple" b)
noncomputable abbrev Kws:=List (Str × V)
noncomputable abbrev Spec:=List V -> Kws -> List Cell -> KV -> Prop
structure Prm where
 globs:List (Str × V)
 fn:Addr -> Spec
 cls:Addr
 meths:List (Str × Addr)
 pats:List (Addr × (Nat -> Bool))
inductive CallR (P:Prm) (cs:List Cell) (K:KV):V -> List V -> Kws -> Prop
 | lenS {x} (k:K (.int (x.length:Nat)) cs):CallR P cs K (.bi "len") [.str x] []
 | lenL {v b xs} (h:SeqR cs v b xs) (k:K (.int (xs.length:Nat)) cs):CallR P cs K (.bi "len") [v] []
 | ord {c} (k:K (.int (c:Nat)) cs):CallR P cs K (.bi "ord") [.str ⟨#[c]⟩] []
 | chr {i} (h:0 <= i /\ i < 0x110000) (k:K (.str ⟨#[i.toNat]⟩) cs):CallR P cs K (.bi "chr") [.int i] []
 | max {v a} {r:List Int} (h:SeqR cs v false ((a :: r).map .int)) (k:K (.int (maxI r a)) cs):CallR P cs K (.bi "max") [v] []
 | max2 {a b} (k:K (.int (max a b)) cs):CallR P cs K (.bi "max") [.int a,.int b] []
 | sum {v} {xs:List Int} (h:SeqR cs v false (xs.map .int)) (hx:∀ x ∈ xs,0 <= x /\ x <= 1000) (hn:xs.length <= 1000) (k:K (.int xs.sum) cs):CallR P cs K (.bi "sum") [v] []
 | sorted {v} {xs:List Int} (h:SeqR cs v false (xs.map .int)) (hn:xs.length < 64) (k:∀ ys:List Int,ys.Perm xs -> ys.Pairwise (· <= ·) -> K (.lst (ys.map .int)) cs):CallR P cs K (.bi "sorted") [v] []
 | list {v b xs} (h:SeqR cs v b xs) (hl:xs.length <= lim) (k:K (.ref cs.length) (cs ++ [.list xs])):CallR P cs K (.typ "list") [v] []
 | divmod {a b} (h:b ≠ 0 /\ b.natAbs < bigN) (k:K (.tup [.int (a.fdiv b),.int (a.fmod b)]) cs):CallR P cs K (.bi "divmod") [.int a,.int b] []
 | rng1 {a} (k:K (.rng 0 a 1) cs):CallR P cs K (.typ "range") [.int a] []
 | rng2 {a b} (k:K (.rng a b 1) cs):CallR P cs K (.typ "range") [.int a,.int b] []
 | type {v n} (h:KindR cs v n) (k:K (.typ n) cs):CallR P cs K (.typ "type") [v] []
 | fn {a args kws} (h:P.fn a args kws cs K):CallR P cs K (.adr a) args kws
noncomputable def splitL (x y:Str):List Str:=Builtin.Str.partsBetween x (Builtin.Str.occurrences x y 0 x.length (x.length + 1)) y.length
structure SplitOk (x y:Str):Prop where
 h1:(decide (x.length < y.length) || decide (Builtin.Str.strKind x < Builtin.Str.strKind y)) = false
 hy:(y.length == 0) = false
 hf:(Builtin.Str.occurrences x y 0 x.length (x.length + 1)).isEmpty = false
 hl:(splitL x y).length <= lim
 hs:∀ z ∈ splitL x y,z.length <= lim
inductive Meth where
 | append | extend | reverse | lower | get | bits | search | index | count | join | pop | split
noncomputable def Meth.name:Meth -> Str:=Meth.rec (Str.ofString "append") (Str.ofString "extend") (Str.ofString "reverse") (Str.ofString "lower") (Str.ofString "get") (Str.ofString "bit_length") (Str.ofString "search") (Str.ofString "index") (Str.ofString "count") (Str.ofString "join") (Str.ofString "pop") (Str.ofString "split")
inductive HasM (P:Prm) (cs:List Cell):Meth -> V -> Prop
 | append {l xs} (h:cs[l]? = some (.list xs)):HasM P cs .append (.ref l)
 | extend {l xs} (h:cs[l]? = some (.list xs)):HasM P cs .extend (.ref l)
 | reverse {l xs} (h:cs[l]? = some (.list xs)):HasM P cs .reverse (.ref l)
 | lower (x):HasM P cs .lower (.str x)
 | get (ks vs):HasM P cs .get (.dct ks vs)
 | bits (i):HasM P cs .bits (.int i)
 | search {a bad} (h:P.pats.lookup a = some bad):HasM P cs .search (.adr a)
 | index {o xs} (h:SeqR cs o false xs):HasM P cs .index o
 | count {o xs} (h:SeqR cs o false xs):HasM P cs .count o
 | countS (x):HasM P cs .count (.str x)
 | join (x):HasM P cs .join (.str x)
 | pop {l xs} (h:cs[l]? = some (.list xs)):HasM P cs .pop (.ref l)
 | split (x):HasM P cs .split (.str x)
inductive MethR (P:Prm) (cs:List Cell) (K:KV):Meth -> V -> List V -> Prop
 | append {l xs v} (h:cs[l]? = some (.list xs)) (hl:xs.length < lim) (k:K .none (cs.set l (.list (xs ++ [v])))):MethR P cs K .append (.ref l) [v]
 | reverse {l xs} (h:cs[l]? = some (.list xs)) (k:K .none (cs.set l (.list xs.reverse))):MethR P cs K .reverse (.ref l) []
 | lower {x} (h:(Txt.lower x).length <= lim) (k:K (.str (Txt.lower x)) cs):MethR P cs K .lower (.str x) []
 | get {ks vs x d} (k:K ((dctGet x ks vs).getD d) cs):MethR P cs K .get (.dct ks vs) [.str x,d]
 | bits {i} (k:K (.int (Builtin.Int.intBits i:Nat)) cs):MethR P cs K .bits (.int i) []
 | search {a bad x} (h:P.pats.lookup a = some bad) (hb:x.cps.toList.any bad = false) (k:K .none cs):MethR P cs K .search (.adr a) [.str x]
 | join {sep o} {xs:List Str} (ho:SeqR cs o false (xs.map .str)) (hj:JoinOk sep xs = true) (hl:(Txt.join sep xs).length <= lim) (k:K (.str (Txt.join sep xs)) cs):MethR P cs K .join (.str sep) [o]
 | popL {l xs v} (h:cs[l]? = some (.list (xs ++ [v]))) (k:K v (cs.set l (.list xs))):MethR P cs K .pop (.ref l) []
 | pop0 {l xs v} (h:cs[l]? = some (.list (v :: xs))) (k:K v (cs.set l (.list xs))):MethR P cs K .pop (.ref l) [.int 0]
 | split {x y} (h:SplitOk x y) (k:K (.lst ((splitL x y).map .str)) cs):MethR P cs K .split (.str x) [.str y]
 | countS {x y} (k:K (.int ((Builtin.Str.occurrences x y 0 x.length (x.length + 1)).length:Nat)) cs):MethR P cs K .count (.str x) [.str y]
 | extendL {l xs o ys} (h:cs[l]? = some (.list xs)) (ho:SeqR cs o false ys) (hl:xs.length + ys.length <= lim) (k:K .none (cs.set l (.list (xs ++ ys)))):MethR P cs K .extend (.ref l) [o]
 | index {o xs a} (f:Nat -> Bool) (j:Nat) (ho:SeqR cs o false xs) (h:Fnd cs xs a f) (hj:j < xs.length) (hit:f j = true) (hno:∀ m,m < j -> f m = false) (k:K (.int j) cs):MethR P cs K .index o [a]
 | count {o xs a} (f:Nat -> Bool) (ho:SeqR cs o false xs) (h:Fnd cs xs a f) (k:K (.int ((List.range xs.length).countP f:Nat)) cs):MethR P cs K .count o [a]
inductive ClsR (cs:List Cell):V -> Addr -> Prop
 | mk {l c d v} (h:cs[l]? = some (.inst c d)) (hd:cs[d]? = some (.attr v)):ClsR cs (.ref l) c
noncomputable def notBi (v:V):Prop:=V.rec (motive_1:=fun _=>Prop) (motive_2:=fun _=>Unit) True (fun _=>True) (fun _=>True) (fun _=>True) (fun _=>False) (fun _=>True) (fun _=>True) (fun _=>True) (fun _ _=>True) (fun _ _=>True) (fun _ _ _=>True) (fun _ _ _=>True) (fun _ _ _=>True) () (fun _ _ _ _=>()) v
inductive AttrR (P:Prm) (cs:List Cell):V -> V -> Prop
 | mk {l d v} (h:cs[l]? = some (.inst P.cls d)) (hd:cs[d]? = some (.attr (some v))) (hv:notBi v):AttrR P cs (.ref l) v
end Mine
end
section
namespace Mine
open PySem PySem.SeqAt
theorem zq8 {c:Value} {vs us:List Value} {e1 e2:Nat} (h:(some ⟨c,none,.seq (List.toArray vs) e1,#[]⟩:Option Obj) = some ⟨c,none,.seq (List.toArray us) e2,#[]⟩):vs = us:=by
 injection h with h
 injection h with _ _ h _
 injection h with h _
 injection h
theorem SeqAt'.isList {g:Gh} {h:Heap} {l:Addr} {vs:List Value} {ep:Nat} (e:h.get? l = some (listO vs ep)):h.IsList l vs.toArray:=⟨_,e,rfl,_,rfl⟩
theorem ziq {g:Gh} {h:Heap} {l:Addr} {vs:List Value} {ep:Nat} (e:h.get? l = some (tupO vs ep)):h.IsTuple l vs.toArray:=⟨_,e,rfl,_,rfl⟩
theorem zx6 {g:Gh} {h:Heap} (H:HRel g h) {n:Nat} {a b:V} {r:Bool} (e:EqR g.cs n a b r):∀ {w:Value},VRel g a w -> VRel g b w -> r = true:=by
 induction e with
 | int n i j=>intro w ra rb; obtain ⟨t,rfl⟩:=ra.inv; obtain ⟨u,q⟩:=rb.inv; injection q with q; exact decide_eq_true q
 | str n x y=>intro w ra rb; obtain ⟨t,rfl,_⟩:=ra.inv; obtain ⟨u,q,_⟩:=rb.inv; injection q with q; exact decide_eq_true q
 | bool n x y=>intro w ra rb; have ea:=ra.inv; have eb:=rb.inv; cases ea; injection eb with eb; rw [eb]; exact beq_self_eq_true _
 | @seq n a b k xs ys f ha hb h ih =>
  intro w ra rb
  cases zap H ha ra with
  | mk l vs ep e1 r1 _ =>
   cases zap H hb rb with
   | mk _ us ep2 e2 r2 _ =>
    cases zq8 (e1.symm.trans e2)
    have ll:xs.length = ys.length:=r1.length.symm.trans r2.length
    rw [Bool.and_eq_true]
    refine ⟨List.all_eq_true.mpr fun j hj=>?_,beq_iff_eq.mpr ll⟩
    rw [ll,Nat.min_self] at hj
    have hj2:=List.mem_range.mp hj
    have hx:=List.getElem?_eq_getElem (ll ▸ hj2:j < xs.length)
    have hy:=List.getElem?_eq_getElem hj2
    obtain ⟨v,hv,rv⟩:=r1.get hx
    obtain ⟨u,hu,ru⟩:=r2.get hy
    cases hv.symm.trans hu
    exact ih _ _ _ hx hy rv ru
structure EqBoth (A:Around) (s:Shared) (a' b':Value) (r:Bool):Prop where
 at_:EqAt A s a' b' r
 eq:RcAt A s a' b' r
 ne:RcNeAt A s a' b' (!r)
theorem ztv {s:Shared} {g:Gh} (H:HRel g s.heap) {n:Nat} {a b:V} {r:Bool} (e:EqR g.cs n a b r):∀ {A:Around} {a' b':Value},VRel g a a' -> VRel g b b' -> A.units + n < cLine -> EqBoth A s a' b' r:=by
 induction e with
 | int n i j=>intro A a' b' ra rb _; obtain ⟨t,rfl⟩:=ra.inv; obtain ⟨u,rfl⟩:=rb.inv; exact ⟨EqAt.int_int _ _ _ _,RcAt.int_int _ _ _ _,RcNeAt.int_int _ _ _ _⟩
 | str n x y=>intro A a' b' ra rb _; obtain ⟨t,rfl,_⟩:=ra.inv; obtain ⟨u,rfl,_⟩:=rb.inv; exact ⟨EqAt.str_str _ _ _ _,RcAt.str_str _ _ _ _,RcNeAt.str_str _ _ _ _⟩
 | bool n x y=>intro A a' b' ra rb _; cases ra.inv; cases rb.inv; exact ⟨EqAt.bool_bool _ _,RcAt.bool_bool _ _,RcNeAt.bool_bool _ _⟩
 | @seq n a b k xs ys f ha hb h ih =>
  intro A a' b' ra rb hu
  have same:=fun w=>zx6 (w:=w) H (.seq f ha hb h)
  have hu0:A.units < cLine:=Nat.lt_of_le_of_lt (Nat.le_add_right _ _) hu
  cases zap H ha ra with
  | mk l vs ep e1 r1 _ =>
   cases zap H hb rb with
   | mk l2 us ep2 e2 r2 _ =>
    have he:∀ j (h1:j < vs.toArray.size) (h2:j < us.toArray.size),EqAt A.in1 s vs.toArray[j] us.toArray[j] (f j):=fun j h1 h2=>by
     have k1:vs[j]? = some vs.toArray[j]:=by simp at h1; simp [h1]
     have k2:us[j]? = some us.toArray[j]:=by simp at h2; simp [h2]
     obtain ⟨x,hx,rx⟩:=r1.get' k1
     obtain ⟨y,hy,ry⟩:=r2.get' k2
     exact (ih j x y hx hy rx ry (by rw [Nat.add_comm n 1,<- Nat.add_assoc] at hu; exact hu)).at_
    have main:RcAt A s (.ref l) (.ref l2) ((List.range (min xs.length ys.length)).all f && xs.length == ys.length) /\ RcNeAt A s (.ref l) (.ref l2) (!((List.range (min xs.length ys.length)).all f && xs.length == ys.length)):=by
     rw [<- r1.length,<- r2.length]
     cases k with
     | true=>exact ⟨RcAt.tuples (ziq (g:=g) e1) (ziq (g:=g) e2) hu0 he,RcNeAt.tuples (ziq (g:=g) e1) (ziq (g:=g) e2) hu0 he⟩
     | false =>
      have i1:=SeqAt'.isList (g:=g) e1
      have i2:=SeqAt'.isList (g:=g) e2
      by_cases hsz:vs.length = us.length
      ·rw [hsz,Nat.min_self,beq_self_eq_true,Bool.and_true,<- hsz]
       exact ⟨RcAt.lists i1 i2 hsz hu0 he,RcNeAt.lists i1 i2 hsz hu0 he⟩
      ·rw [beq_false_of_ne hsz,Bool.and_false]
       have hb:(vs.toArray.size != us.toArray.size) = true:=bne_iff_ne.mpr hsz
       exact ⟨RcAt.lists_lengths i1 i2 hb hu0,RcNeAt.lists_lengths i1 i2 hb hu0⟩
    refine ⟨?_,main.1,main.2⟩
    by_cases hll:l = l2
    ·subst hll; rw [same _ ra rb]; exact EqAt.same _
    ·exact EqAt.of_refs hll main.1
variable {C:Cx} {A:Around} {σ:St} {cs:List Cell} {d:Nat}
theorem zhm {v:V} {v':Value} {K:KB} (H:HRel σ.g σ.s.heap) (r:VRel σ.g v v') (e:truthK σ.g.cs v K) {Q:Bool -> Shared -> Prop} {E:Value -> Shared -> Prop} (k:∀ b tk,K b σ.g.cs -> Q b { σ.s with toks:=tk }):wpAny C.M A (PySem.truthy v') Q E σ.s:=by
 have hl0:(lim:Int) < 2 ^ 63:=by decide
 have seq:∀ {b xs},SeqR σ.g.cs v b xs -> K (!xs.isEmpty) σ.g.cs -> wpAny C.M A (PySem.truthy v') Q E σ.s:=by
  intro b xs hs q
  cases zap H hs r with
  | mk a vs ep e rx hl =>
   have eb:(!vs.toArray.isEmpty) = !xs.isEmpty:=by
    cases rx <;> rfl
   have hsz:(vs.toArray.size:Int) < 2 ^ 63:=Int.lt_of_le_of_lt (by rw [<- rx.length] at hl; exact Int.ofNat_le.mpr hl) hl0
   cases b with
   | true=>exact PyProof.Rows.truthy_tuple ⟨_,e,rfl,_,rfl⟩ hsz (by rw [eb]; exact k _ _ q)
   | false=>exact wpAny_truthy_list ⟨_,e,rfl,_,rfl⟩ hsz (by rw [eb]; exact k _ _ q)
 cases v with
 | none=>cases r.inv; exact PyProof.Rows.truthy_none (k _ _ e)
 | bool b=>cases r.inv; exact wpAny_truthy_bool (k _ _ e)
 | int i =>
  obtain ⟨t,rfl⟩:=r.inv
  refine PySem.P.truthy_int ?_
  have:(i != 0) = decide (i ≠ 0):=by rw [bne,Bool.eq_iff_iff]; simp
  rw [this]; exact k _ _ e
 | str x =>
  obtain ⟨t,rfl,hx⟩:=r.inv
  refine PySem.P.truthy_str (Int.not_le.mpr (Int.lt_of_le_of_lt (Int.ofNat_le.mpr hx) hl0)) ?_
  have:((x.length:Int) != 0) = decide (x.length ≠ 0):=by rw [bne,Bool.eq_iff_iff]; simp
  rw [this]; exact k _ _ e
 | tup xs=>exact seq (.tup xs) e
 | lst xs=>exact seq (.lst xs) e
 | ref l=>obtain ⟨xs,h,q⟩:=e; exact seq (.ref h) q
 | _=>exact e.elim
theorem zwy {a b:Int} (h:mulOk a b = true):IntMulOk a b:=by
 unfold mulOk at h
 simp only [Bool.or_eq_true,decide_eq_true_eq,Bool.and_eq_true] at h
 rcases h with (h | h) | ⟨h1,h2⟩
 ·exact IntMulOk.of_left (intBits_le_64 (by omega) (by omega))
 ·exact IntMulOk.of_right (intBits_le_64 (by omega) (by omega))
 ·have eb:bigN = 2 ^ 240:=by decide +kernel
  rw [eb] at h1 h2
  exact IntMulOk.of_le (intBits_le_iff.mpr h1) (intBits_le_iff.mpr h2) (by decide)
theorem zn8 {a:Int} (h:a.natAbs < bigN):Builtin.Int.intBits a <= 240:=by
 have eb:bigN = 2 ^ 240:=by decide +kernel
 rw [eb] at h
 exact intBits_le_iff.mpr h
theorem z4l {a:Int} (h:a.natAbs < bigN):a.natAbs.log2 < 240:=by
 by_cases h0:a.natAbs = 0
 ·rw [h0]; decide
 ·exact (Nat.log2_lt h0).mpr (Nat.lt_of_lt_of_eq h (by decide +kernel:bigN = 2 ^ 240))
theorem zn7 {a b:Int} (h:b.natAbs < bigN):Builtin.divisionGoesByPylong a b = false:=PyProof.noPylong_of_log2 (Nat.lt_trans (z4l h) (by decide))
theorem zqs {x:Str} {j:Int} (h:x.length * j.toNat <= lim) (hj:small62 j):MulOk x j:=by
 have hl:lim = 8388608:=rfl
 obtain ⟨hj1,hj2⟩:=hj
 refine ⟨Bool.or_eq_false_iff.mpr ⟨decide_eq_false (by lia),decide_eq_false (by lia)⟩,fun h1 h2=>?_,fun h1 h2=>?_⟩
 ·intro hc
  have hj0:0 < j:=Int.not_lt.mp ‹_›
  have h3:(x.length:Int) * j = ((x.length * j.toNat:Nat):Int):=by rw [Int.natCast_mul,Int.toNat_of_nonneg (Int.le_of_lt hj0)]
  have h5:=Int.lt_mul_of_ediv_lt hj0 hc
  rw [h3] at h5
  lia
 ·exact decide_eq_false (Nat.not_lt.mpr (Nat.le_trans h zah))
theorem zqt {x:Str} {j:Int} (h:x.length * j.toNat <= lim):(Txt.mul x j).length <= lim:=by
 unfold Txt.mul
 split
 ·exact Nat.zero_le _
 ·split
  ·rename_i h1 h2
   simp only [Bool.or_eq_true,beq_iff_eq] at h2
   rcases h2 with h2 | h2
   ·subst h2; simpa using h
   ·rw [h2]; exact Nat.zero_le _
  ·have key:∀ (n:Nat) (acc:Array Nat),((List.replicate n x.cps).foldl (· ++ ·) acc).size = acc.size + n * x.cps.size:=by
    intro n
    induction n with
    | zero=>intro acc; rw [Nat.zero_mul]; rfl
    | succ n ih=>intro acc; rw [List.replicate_succ,List.foldl_cons,ih,Array.size_append,Nat.succ_mul,Nat.add_assoc,Nat.add_comm x.cps.size]
   show ((List.replicate j.toNat x.cps).foldl (· ++ ·) #[]).size <= lim
   rw [key,Nat.mul_comm]
   exact Nat.le_trans (Nat.le_of_eq (Nat.zero_add _)) h
theorem ztl (vs:List Value) (n:Nat):∀ (acc:List Value),(List.replicate n vs.toArray).foldl (fun x1 x2=>x1 ++ x2) acc.toArray = (acc ++ (List.replicate n vs).flatten).toArray:=by
 induction n with
 | zero=>intro acc; rw [List.replicate_zero,List.replicate_zero,List.flatten_nil,List.append_nil]; rfl
 | succ n ih =>
  intro acc
  rw [List.replicate_succ,List.replicate_succ,List.foldl_cons,List.flatten_cons,List.append_toArray,ih,List.append_assoc]
theorem zl0 {g:Gh} {xs:List V} {vs:List Value} (r:VRels g xs vs) (n:Nat):VRels g (List.replicate n xs).flatten (List.replicate n vs).flatten:=by
 induction n with
 | zero=>exact .nil
 | succ n ih=>rw [List.replicate_succ,List.replicate_succ,List.flatten_cons,List.flatten_cons]; exact r.append ih
theorem zsc {l:Addr} {vs:List Value} {k:Nat} {x:Int} {u:Tok} {s:Shared} {M:Cx} {Q:Value -> Shared -> Prop} {E:Value -> Shared -> Prop}
  (hl:s.heap.get? l = some (listO vs k)) (hj:small62 x) (hsz:vs.length * x.toNat <= 2 ^ 24)
  (h:Q (.ref s.heap.objs.size) { s with heap:=s.heap.push (listO (List.replicate x.toNat vs).flatten 0) }) :
  wpAny C.M A (binaryOp .Mult (.ref l) (.int x u)) Q E s:=by
 have e:List.foldl (fun x1 x2=>x1 ++ x2) #[] (List.replicate (if vs.toArray.isEmpty = true then 0 else x.toNat) vs.toArray) = (List.replicate x.toNat vs).flatten.toArray:=by
  cases vs with
  | nil =>
   have:(List.replicate x.toNat ([]:List Value)).flatten = []:=by rw [List.flatten_replicate_nil]
   rw [this]; rfl
  | cons v vs=>exact ztl (v :: vs) x.toNat []
 have hsz':vs.toArray.size * x.toNat <= 2 ^ 24:=hsz
 obtain ⟨hlo,hhi⟩:=hj
 refine wpAny_binaryOp_repeat_ref (T := "list") (U := "int") (by decide) ⟨_,hl,rfl⟩ (fun s'=>typeIs_int s' x u) noFill_list_mul F.fills_int_mul F.slot_int_rmul repeat_list F.slot_int_index.lookup
  (call_meets F.slot_int_rmul (typeIs_int s x u) F.entry_int_rmul (F.args_int_rmul_2 _ _) (int___rmul___int_list x u l vs.toArray k)
   ⟨hl,rfl,⟨_,hl,rfl⟩,call_meets F.slot_list_mul ⟨_,hl,rfl⟩ F.entry_list_mul (F.args_list_mul_2 _ _)
    (AutoListH.list___mul___list_int_3 l vs.toArray k x u (by simp [Builtin.List.listFitsIndex]; lia) (by lia) (by simp [Builtin.List.listTooLong,sizeLine] at *; exact Nat.le_trans ‹_› (by decide)))
    ⟨hl,?_⟩⟩)
 show Q _ { s with heap:=s.heap.push _ }
 rw [e]
 exact h
theorem int2 {op:Operator} {i j r:Int} {a' b':Value} {K:KV} (H:HRel σ.g σ.s.heap) (ra:VRel σ.g (.int i) a') (rb:VRel σ.g (.int j) b')
  (h:∀ t u (Q:Value -> Shared -> Prop) E,(∀ v tk,Q (.int r v) { σ.s with toks:=tk }) -> wpAny C.M A (binaryOp op (.int i t) (.int j u)) Q E σ.s) (q:K (.int r) σ.g.cs):Runs C A σ noOwn (binaryOp op a' b') VR K:=by
 obtain ⟨t,rfl⟩:=ra.inv; obtain ⟨u,rfl⟩:=rb.inv
 exact fun Q E k=>h t u Q E fun v tk=>k _ _ (σ.up σ.s.heap tk σ.g) (Ext.tok H) (.int _ _) q
theorem z0u {c:Bool} {op:Operator} {a b:V} {a' b':Value} {K:KV} (e:BinR c σ.g.cs K op a b) (H:HRel σ.g σ.s.heap) (ra:VRel σ.g a a') (rb:VRel σ.g b b'):Runs C A σ noOwn (binaryOp op a' b') VR K:=by
 cases e with
 | addI q=>exact int2 H ra rb (fun t u Q E k=>PyProof.Rows.add_int (k _ _)) q
 | addS h q =>
  obtain ⟨t,rfl,_⟩:=ra.inv; obtain ⟨u,rfl,_⟩:=rb.inv
  exact fun Q E k=>SB.add (fun t' tk=>k _ _ (σ.up σ.s.heap tk σ.g) (Ext.tok H) (.str _ _ (Nat.le_trans (Nat.le_of_eq (Str.length_append ..)) h)) q) (Nat.le_trans h zah)
 | addL ha hb q =>
  cases zap H ha ra with
  | mk l1 vs ep e1 r1 _ =>
   cases zap H hb rb with
   | mk l2 us ep2 e2 r2 _ =>
    have hz:=q.1
    rw [List.length_append,<- r1.length,<- r2.length] at hz
    exact Runs.mkL H (r1.append r2) q fun Q E k=>PySem.P.add_list e1 e2 (by have:=k σ.s.toks; rw [listO,<- List.append_toArray] at this; exact this) (Nat.le_trans hz zah)
 | subI q=>exact int2 H ra rb (fun t u Q E k=>PyProof.Rows.sub_int' (k _ _)) q
 | mulI h q=>exact int2 H ra rb (fun t u Q E k=>PyProof.Rows.mul_int (k _ _) (zwy h)) q
 | mulS h hj q =>
  obtain ⟨t,rfl,_⟩:=ra.inv; obtain ⟨u,rfl⟩:=rb.inv
  exact fun Q E k=>SB.mul (zqs h hj) fun t' tk=>k _ _ (σ.up σ.s.heap tk σ.g) (Ext.tok H) (.str _ _ (zqt h)) q
 | mulL h hj q =>
  obtain ⟨u,rfl⟩:=rb.inv
  cases zap H (.lst _) ra with
  | mk l1 vs ep e1 r1 _ =>
   rw [<- r1.length] at h
   exact Runs.mkL H (zl0 r1 _) q fun Q E k=>zsc (C:=C) (M:=C) e1 hj (Nat.le_trans h (by decide)) (k σ.s.toks)
 | fdivI h q=>exact int2 H ra rb (fun t u Q E k=>PyProof.Rows.floordiv_int h.1 (k _ _) (.inl (zn7 h.2))) q
 | modI h q=>exact int2 H ra rb (fun t u Q E k=>PyProof.Rows.mod_int' h (k _ _)) q
 | powI h q=>exact int2 H ra rb (fun t u Q E k=>PyProof.Rows.pow_int h.1 (Int.le_trans (Int.mul_le_mul (Int.ofNat_le.mpr (zn8 h.2.2)) h.2.1 h.1 (by decide)) (by decide)) (k _ _)) q
 | shlI h q=>exact int2 H ra rb (fun t u Q E k=>PyProof.Rows.lshift_int h.1 (Int.le_trans (Int.add_le_add (Int.ofNat_le.mpr (zn8 h.2.2)) h.2.1) (by decide)) (k _ _)) q
 | shrI h q=>exact int2 H ra rb (fun t u Q E k=>PyProof.Rows.rshift_int h (k _ _)) q
 | xorI q=>exact int2 H ra rb (fun t u Q E k=>PyProof.Rows.xor_int (k _ _)) q
 | andI q=>exact int2 H ra rb (fun t u Q E k=>PyProof.Rows.and_int (k _ _)) q
 | orI q=>exact int2 H ra rb (fun t u Q E k=>PyProof.Rows.or_int (k _ _)) q
 | subB q =>
  cases ra.inv; cases rb.inv
  exact Runs.still H (fun Q E k=>PyProof.Rows.sub_bool (k _)) (fun _=>.int _ _) q
end Mine
end
section
namespace Mine
open PySem PySem.SeqAt
variable {C:Cx} {A:Around} {σ:St} {cs:List Cell} {d:Nat}
noncomputable def Holds (g:Gh) (ks:List Str) (vs:List V) (f:Str -> Option Value):Prop:=∀ x,Option.rec (f x = none) (fun v=>∃ v',f x = some v' /\ VRel g v v') (dctGet x ks vs)
theorem zyj {prog:Program} {w:World} {g:Gh} {ks:List Str}:∀ {vs:List V} {es:List DictEntry},All2 (StrKey g.pr) ks es -> VRels g vs (es.map (·.val)) -> Holds g ks vs (findBy (strKind prog w).is es.toArray):=by
 induction ks with
 | nil=>intro vs es hk r x; cases hk.nil_of; rfl
 | cons k ks ih =>
  intro vs es hk r x
  obtain ⟨e,es',rfl,⟨t,he,_⟩,hk'⟩:=hk.cons_of
  cases r with
  | @cons v _ vs _ h r =>
   obtain ⟨eh,ek,ev⟩:=e
   cases he
   have is:(strKind prog w).is x (.str k t) = (k == x):=rfl
   by_cases hx:k = x
   ·have e1:dctGet x (k :: ks) (v :: vs) = some v:=if_pos hx
    rw [e1]
    refine ⟨ev,?_,h⟩
    unfold findBy
    rw [List.find?_toArray,List.find?_cons_of_pos (by rw [is,hx]; exact beq_self_eq_true x)]; rfl
   ·have e1:dctGet x (k :: ks) (v :: vs) = dctGet x ks vs:=if_neg hx
    rw [e1]
    have e2:findBy (strKind prog w).is (⟨eh,.str k t,ev⟩ :: es').toArray x = findBy (strKind prog w).is es'.toArray x:=by
     unfold findBy
     rw [List.find?_toArray,List.find?_toArray,List.find?_cons_of_neg (by rw [is]; simpa using hx)]
    rw [e2]; exact ih hk' r x
inductive DctAt (prog:Program) (w:World) (g:Gh) (h:Heap) (ks:List Str) (vs:List V):Value -> Prop
 | mk (a f) (m:h.MapOf (strKind prog w) a f) (hs:(a == sysModules) = false) (hf:Holds g ks vs f):DctAt prog w g h ks vs (.ref a)
theorem zn3 {prog:Program} {w:World} {g:Gh} {h:Heap} (H:HRel g h) (hp:g.pr = w.params) {ks:List Str} {vs:List V} {v':Value} (r:VRel g (.dct ks vs) v'):DctAt prog w g h ks vs v':=by
 obtain ⟨a,es,ep,rfl,h1,hk,r,hs⟩:=r.inv
 refine .mk a _ ⟨_,_,_,H.fz _ _ h1,⟨rfl,rfl,rfl⟩,rfl,fun e he=>?_,fun _=>rfl⟩ hs (zyj hk r)
 obtain ⟨i,hi,ei⟩:=List.getElem_of_mem (List.mem_toArray.mp he)
 obtain ⟨k,hk',t,q1,q2⟩:=hk.get' (i:=i) (b:=e) (by rw [List.getElem?_eq_getElem hi,ei])
 exact ⟨k,by rw [q1]; exact (beq_self_eq_true k:(k == k) = true),by rw [q2,hp]; rfl⟩
noncomputable def HoldsI (g:Gh) (ks:List Int) (vs:List V) (f:Int -> Option Value):Prop:=∀ x,Option.rec (motive:=fun _=>Prop) (f x = none) (fun v=>∃ v',f x = some v' /\ VRel g v v') (dctiGet x ks vs)
inductive DctiAt (prog:Program) (w:World) (g:Gh) (h:Heap) (ks:List Int) (vs:List V):Value -> Prop
 | mk (a f) (m:h.MapOf (intKind prog w) a f) (hs:(a == sysModules) = false) (hf:HoldsI g ks vs f):DctiAt prog w g h ks vs (.ref a)
theorem zue {prog:Program} {w:World} {g:Gh} {ks:List Int} {es:List DictEntry} (hk:All2 IntKey ks es):∀ {vs:List V},VRels g vs (es.map (·.val)) -> HoldsI g ks vs (findBy (intKind prog w).is es.toArray):=by
 induction hk with
 | nil=>intro vs r x; exact rfl
 | @cons k e ks es' hk hk' ih =>
  intro vs r x
  cases vs with
  | nil=>have:=r.nil_of; cases this
  | cons v vs =>
   obtain ⟨_,_,q,h,r2⟩:=r.cons_of
   injection q with q1 q2
   subst q1 q2
   obtain ⟨⟨t,e1⟩,e2⟩:=hk
   obtain ⟨eh,ek,ev⟩:=e
   cases (e1:ek = _)
   have is:(intKind prog w).is x (.int k t) = (k == x):=rfl
   by_cases hx:k = x
   ·have e1:dctiGet x (k :: ks) (v :: vs) = some v:=if_pos hx
    rw [e1]
    refine ⟨ev,?_,h⟩
    unfold findBy
    rw [List.find?_toArray,List.find?_cons_of_pos (by rw [is,hx]; exact beq_self_eq_true x)]; rfl
   ·have e1:dctiGet x (k :: ks) (v :: vs) = dctiGet x ks vs:=if_neg hx
    rw [e1]
    have e2:findBy (intKind prog w).is (⟨eh,.int k t,ev⟩ :: es').toArray x = findBy (intKind prog w).is es'.toArray x:=by
     unfold findBy
     rw [List.find?_toArray,List.find?_toArray,List.find?_cons_of_neg (by rw [is]; simpa using hx)]
    rw [e2]; exact ih r2 x
theorem z4b {prog:Program} {w:World} {g:Gh} {h:Heap} (H:HRel g h) {ks:List Int} {vs:List V} {v':Value} (r:VRel g (.dcti ks vs) v'):DctiAt prog w g h ks vs v':=by
 obtain ⟨a,es,ep,rfl,h1,hk,r,hs⟩:=r.inv
 refine .mk a _ ⟨_,_,_,H.fz _ _ h1,⟨rfl,rfl,rfl⟩,rfl,fun e he=>?_,fun _=>rfl⟩ hs (zue hk r)
 obtain ⟨i,hi,ei⟩:=List.getElem_of_mem (List.mem_toArray.mp he)
 obtain ⟨k,hk',⟨t,q1⟩,q2⟩:=hk.get' (i:=i) (b:=e) (by rw [List.getElem?_eq_getElem hi,ei])
 exact ⟨k,by rw [q1]; exact (beq_self_eq_true k:(k == k) = true),by rw [q2]; rfl⟩
theorem is_ok {a b:V} {a' b':Value} {r:Bool} {g:Gh} (e:IsR a b r) (ra:VRel g a a') (rb:VRel g b b'):plainIs a' b' = true /\ (a' == b') = r:=by
 cases e with
 | typ x y =>
  cases ra.inv; cases rb.inv
  refine ⟨rfl,?_⟩
  by_cases h:x = y
  ·subst h; exact (beq_self_eq_true _).trans (beq_self_eq_true x).symm
  ·exact (beq_eq_false_iff_ne.mpr fun q=>h (by injection q)).trans (beq_eq_false_iff_ne.mpr h).symm
 | bool x y=>cases ra.inv; cases rb.inv; exact ⟨rfl,by cases x <;> cases y <;> rfl⟩
 | none=>cases ra.inv; cases rb.inv; exact ⟨rfl,rfl⟩
 | ref l=>cases ra.inv.1; cases rb.inv; exact ⟨rfl,rfl⟩
 | str l=>obtain ⟨_,rfl,_⟩:=ra.inv; cases rb.inv; exact ⟨rfl,rfl⟩
theorem cmpI {op:CmpOp} {i j:Int} {r:Bool} {a' b':Value} {Q:Value -> Shared -> Prop} {E:Value -> Shared -> Prop} {K:KB} (ra:VRel σ.g (.int i) a') (rb:VRel σ.g (.int j) b')
  (h:∀ t u,(∀ tk,Q (.bool r) { σ.s with toks:=tk }) -> wpAny C.M A (compareOp op (.int i t) (.int j u)) Q E σ.s) (k:∀ b tk,K b σ.g.cs -> Q (.bool b) { σ.s with toks:=tk }) (q:K r σ.g.cs):wpAny C.M A (compareOp op a' b') Q E σ.s:=by
 obtain ⟨t,rfl⟩:=ra.inv; obtain ⟨u,rfl⟩:=rb.inv
 exact h t u fun tk=>k _ _ q
structure InAt (A:Around) (s:Shared) (vs:List Value) (x:Value) (f:Nat -> Bool) (e:Value -> Bool):Prop where
 at_:∀ y,y ∈ vs.toArray -> EqAt A.in1 s y x (e y)
 val:∀ (j:Nat) (y:Value),vs[j]? = some y -> e y = f j
theorem in_at {s:Shared} {g:Gh} {a:V} {xs:List V} {f:Nat -> Bool} {vs:List Value} {a':Value} (H:HRel g s.heap) (h:Fnd g.cs xs a f) (rx:VRels g xs vs) (ra:VRel g a a') (hu:A.units + 9 < cLine):∃ e,InAt A s vs a' f e:=by
 have at_:∀ (j:Nat) (y:Value),vs[j]? = some y -> ∃ x,xs[j]? = some x /\ VRel g x y /\ EqAt A.in1 s y a' (f j):=fun j y hy=>by
  obtain ⟨x,hx,rv⟩:=rx.get' hy
  exact ⟨x,hx,rv,(ztv H (h.eq j x hx) rv ra (by rw [show A.in1.units = A.units + 1 from rfl,Nat.add_assoc]; exact hu)).at_⟩
 have same:∀ (j k:Nat) (y:Value),vs[j]? = some y -> vs[k]? = some y -> f j = f k:=fun j k y h1 h2=>by
  obtain ⟨x,hx,rv,_⟩:=at_ j y h1
  obtain ⟨x2,hx2,rv2,_⟩:=at_ k y h2
  exact h.inj g j k x x2 y hx hx2 rv rv2
 letI dec:∀ y,Decidable (∃ j:Nat,vs[j]? = some y):=fun _=>Classical.propDecidable _
 refine ⟨fun y=>if q:∃ j:Nat,vs[j]? = some y then f q.choose else false,fun y hy=>?_,fun j y hy=>?_⟩
 ·obtain ⟨j,hj,ej⟩:=List.getElem_of_mem (List.mem_toArray.mp hy)
  have q:∃ j:Nat,vs[j]? = some y:=⟨j,by rw [List.getElem?_eq_getElem hj,ej]⟩
  rw [dif_pos q]
  obtain ⟨_,_,_,e⟩:=at_ _ y q.choose_spec
  exact e
 ·have q:∃ k:Nat,vs[k]? = some y:=⟨j,hy⟩
  rw [dif_pos q]
  exact same _ j _ q.choose_spec hy
theorem InAt.any {s:Shared} {vs:List Value} {x:Value} {f:Nat -> Bool} {e:Value -> Bool} (I:InAt A s vs x f e):vs.toArray.any e = (List.range vs.length).any f:=by
 rw [List.any_toArray,Bool.eq_iff_iff,List.any_eq_true,List.any_eq_true]
 constructor
 ·rintro ⟨y,hy,q⟩
  obtain ⟨j,hj,ej⟩:=List.getElem_of_mem hy
  exact ⟨j,List.mem_range.mpr hj,by rw [<- I.val j y (by rw [List.getElem?_eq_getElem hj,ej])]; exact q⟩
 ·rintro ⟨j,hj,q⟩
  have hj2:=List.mem_range.mp hj
  exact ⟨_,List.getElem_mem hj2,by rw [I.val j _ (List.getElem?_eq_getElem hj2)]; exact q⟩
theorem z0r {op:CmpOp} {a b:V} {a' b':Value} {K:KB} (e:CmpR σ.g.cs K op a b) (H:HRel σ.g σ.s.heap) (hp:σ.g.pr = C.w.params) (ra:VRel σ.g a a') (rb:VRel σ.g b b') (O:AOk A d)
  {Q:Value -> Shared -> Prop} {E:Value -> Shared -> Prop} (k:∀ r tk,K r σ.g.cs -> Q (.bool r) { σ.s with toks:=tk }):wpAny C.M A (compareOp op a' b') Q E σ.s:=by
 have un:A.units + 9 < cLine:=Nat.lt_of_le_of_lt (by rw [Nat.add_assoc]; exact Nat.add_le_add_left (Nat.le_trans (by decide) (Nat.le_add_left 200 _)) _) O.un
 cases e with
 | eq h q=>exact (ztv H h ra rb un).eq C.prog C.w E Q (k _ σ.s.toks q)
 | ne h q=>exact (ztv H h ra rb un).ne C.prog C.w E Q (k _ σ.s.toks q)
 | lt q=>exact cmpI ra rb (fun t u k=>PyProof.Rows.lt_int (k _)) k q
 | le q=>exact cmpI ra rb (fun t u k=>PyProof.Rows.le_int (k _)) k q
 | gt q=>exact cmpI ra rb (fun t u k=>PyProof.Rows.gt_int (k _)) k q
 | ge q=>exact cmpI ra rb (fun t u k=>PyProof.Rows.ge_int (k _)) k q
 | is h q=>exact wpAny_is_plain (is_ok h ra rb).1 (by rw [(is_ok h ra rb).2]; exact k _ _ q)
 | isNot h q=>exact wpAny_isNot_plain (is_ok h ra rb).1 (by rw [(is_ok h ra rb).2]; exact k _ _ q)
 | inS q=>obtain ⟨t,rfl,_⟩:=ra.inv; obtain ⟨u,rfl,_⟩:=rb.inv; exact SB.contains (k _ _ q)
 | notInS q=>obtain ⟨t,rfl,_⟩:=ra.inv; obtain ⟨u,rfl,_⟩:=rb.inv; exact SB.notContains (k _ _ q)
 | inL f ho h q =>
  cases zap H ho rb with
  | mk l vs ep e1 r1 _ =>
   obtain ⟨e,I⟩:=in_at (A:=A) (s:=σ.s) H h r1 ra un
   have h1:=I.at_
   have h2:=I.any
   rw [r1.length] at h2
   rename_i bb _ _
   cases bb with
   | true=>exact SeqAt.in_tupleAt e ⟨_,e1,rfl,_,rfl⟩ h1 (by rw [h2]; exact k _ σ.s.toks q)
   | false=>exact SeqAt.in_listAt e ⟨_,e1,rfl,_,rfl⟩ h1 (by rw [h2]; exact k _ σ.s.toks q)
 | notInL f ho h q =>
  cases zap H ho rb with
  | mk l vs ep e1 r1 _ =>
   obtain ⟨e,I⟩:=in_at (A:=A) (s:=σ.s) H h r1 ra un
   have h1:=I.at_
   have h2:=I.any
   rw [r1.length] at h2
   rename_i bb _ _
   cases bb with
   | true=>exact SeqAt.notIn_tupleAt e ⟨_,e1,rfl,_,rfl⟩ h1 (by rw [h2]; exact k _ σ.s.toks q)
   | false=>exact SeqAt.notIn_listAt e ⟨_,e1,rfl,_,rfl⟩ h1 (by rw [h2]; exact k _ σ.s.toks q)
 | @inD x ks vs q =>
  obtain ⟨t,rfl,_⟩:=ra.inv
  cases zn3 (prog:=C.prog) H hp rb with
  | mk a f hm hs hf =>
   refine wpAny_in_of (knd:=strKind C.prog C.w) (k:=x) (beq_self_eq_true x:(x == x) = true) hs hm ?_
   have:=hf x
   have e:(f x).isSome = (dctGet x ks vs).isSome:=by
    cases hd:dctGet x ks vs with
    | none=>rw [hd] at this; rw [show f x = none from this]; rfl
    | some v=>rw [hd] at this; obtain ⟨v',q,_⟩:=this; rw [q]; rfl
   rw [e]; exact k _ _ q
theorem un_ok {op:UnaryOp} {v:V} {v':Value} {K:KV} (e:UnR σ.g.cs K op v) (H:HRel σ.g σ.s.heap) (rv:VRel σ.g v v'):Runs C A σ noOwn (unaryOp op v') VR K:=by
 cases e with
 | neg q=>obtain ⟨t,rfl⟩:=rv.inv; exact Runs.still H (fun Q E k=>PySem.P.neg_int (k _)) (fun _=>.int _ _) q
 | @inv i q =>
  obtain ⟨t,rfl⟩:=rv.inv
  have:Builtin.bitNot i = -i - 1:=by unfold Builtin.bitNot; lia
  exact Runs.still H (fun Q E k=>PyProof.Rows.invert_int (by rw [this]; exact k _)) (fun _=>.int _ _) q
theorem zgo (slice:Expr) (o i:Value):∃ vs,subscripted slice false o i = operate vs (getItem o i):=by
 cases slice with
 | Slice a b c p=>cases c <;> exact ⟨_,rfl⟩
 | _=>exact ⟨_,rfl⟩
theorem zev {env:Env} {s:Shared} {E:Value -> Shared -> Prop} {value slice:Expr} {pos:Pos} {Q:Value -> Shared -> Prop}
  (h:wpAny C.M A (eval value env) (fun o s₁=>wpAny C.M A (eval slice env) (fun i s₂=>∃ T id,typeLookup (.type T) "__getitem__" = pure (some (.builtin id)) /\ s₂.TypeIs o T /\ wpAny C.M A (getItem o i) Q E s₂) E s₁) E s) :
  wpAny C.M A (eval (.Subscript value slice pos) env) Q E s:=by
 rw [eval_Subscript]
 refine wpAny_bind (wpAny_mono h (fun o s₁ h₁=>wpAny_bind (wpAny_holding (wpAny_mono h₁ (fun i s₂ h₂=>wpAny_bind (wpAny_standAt ?_)) fun _ _ x=>x))) fun _ _ x=>x)
 obtain ⟨T,id,hl,hT,hg⟩:=h₂
 refine wpAny_bind ?_
 rw [getitemInPython_of_ne hT.not_modules]
 refine wpAny_bind (wpAny_specialOf hT hl ?_)
 have tail:∀ r s₃,Q r s₃ -> wpAny C.M A (letTemporaryGo value o r >>= fun _=>pure r) Q E s₃:=fun r s₃ h₃=>wpAny_bind (wpAny_letTemporaryGo (wpAny_pure h₃))
 have fin:wpAny C.M A (subscripted slice false o i) (fun r s₃=>wpAny C.M A (letTemporaryGo value o r >>= fun _=>pure r) Q E s₃) E s₂:=by
  have h4:=wpAny_mono hg (fun r s₃ h₃=>tail r s₃ h₃) fun _ _ x=>x
  obtain ⟨vs,hs⟩:=zgo slice o i
  rw [hs]; exact zdn h4
 first
  | exact wpAny_pure (wpAny_bind fin)
  | exact wpAny_bind (wpAny_pure (wpAny_bind fin))
  | exact wpAny_bind fin
theorem zkn {α:Type} {xs:List α} {i:Int} {x:α} (h:idxV xs i = some x):∃ k,xs[k]? = some x /\ ((0 <= i /\ k = i.toNat) \/ (i < 0 /\ 0 <= i + xs.length /\ k = (i + xs.length).toNat)):=by
 unfold idxV at h
 by_cases h0:0 <= i
 ·rw [if_pos h0] at h; exact ⟨_,h,.inl ⟨h0,rfl⟩⟩
 ·rw [if_neg h0] at h
  by_cases h1:0 <= i + xs.length
  ·rw [if_pos h1] at h; exact ⟨_,h,.inr ⟨Int.not_le.mp h0,h1,rfl⟩⟩
  ·rw [if_neg h1] at h; cases h
theorem zkm {n k:Nat} {i:Int} (hk:k < n) (h:(0 <= i /\ k = i.toNat) \/ (i < 0 /\ 0 <= i + n /\ k = (i + n).toNat)):seqIndex? i n = some k /\ -(n:Int) <= i /\ i < n:=by
 rcases h with ⟨h0,rfl⟩ | ⟨h0,h1,rfl⟩
 ·have h2:¬ i < 0:=Int.not_lt.mpr ‹_›
  have h3:(decide (0 <= i) && decide (i < (n:Int))) = true:=by simp; lia
  refine ⟨?_,by lia,by lia⟩
  show (if (decide (0 <= (if i < 0 then i + n else i)) && decide ((if i < 0 then i + n else i) < (n:Int))) = true then some (if i < 0 then i + n else i).toNat else none) = _
  rw [if_neg h2,h3]; rfl
 ·have h3:(decide (0 <= i + (n:Int)) && decide (i + (n:Int) < (n:Int))) = true:=by simp; lia
  refine ⟨?_,by lia,by lia⟩
  show (if (decide (0 <= (if i < 0 then i + n else i)) && decide ((if i < 0 then i + n else i) < (n:Int))) = true then some (if i < 0 then i + n else i).toNat else none) = _
  rw [if_pos h0,h3]; rfl
noncomputable def GetOk (C:Cx) (A:Around) (σ:St) (o' i':Value) (v:V):Prop:=∃ T id,typeLookup (.type T) "__getitem__" = pure (some (.builtin id)) /\ σ.s.TypeIs o' T /\
 ∀ (Q:Value -> Shared -> Prop) (E:Value -> Shared -> Prop),(∀ v' tk,VRel σ.g v v' -> Q v' { σ.s with toks:=tk }) -> wpAny C.M A (getItem o' i') Q E σ.s
theorem z3o {o i v:V} {o' i':Value} (e:ItemR σ.g.cs o i v) (H:HRel σ.g σ.s.heap) (hp:σ.g.pr = C.w.params) (ro:VRel σ.g o o') (ri:VRel σ.g i i'):GetOk C A σ o' i' v:=by
 have hlim:(lim:Int) < 2 ^ 62:=by decide
 cases e with
 | @str x i c ec =>
  obtain ⟨t,rfl,hx⟩:=ro.inv; obtain ⟨u,rfl⟩:=ri.inv
  obtain ⟨k,h2,h3⟩:=zkn ec
  have hlt:=zaa h2
  obtain ⟨h1,h4,h5⟩:=zkm hlt h3
  have hl:x.cps.toList.length = x.length:=rfl
  rw [hl] at h1 h4 h5
  refine ⟨"str",_,F.slot_str_getitem.lookup,typeIs_str _ _ _,fun Q E q=>PyProof.Rows.getItem_str ?_ ?_ (q (.str ⟨#[c]⟩ _) _ (.str _ _ (show 1 <= lim by decide)))⟩
  ·have hx':(x.length:Int) <= lim:=Int.ofNat_le.mpr hx
   rw [Bool.or_eq_false_iff]; exact ⟨decide_eq_false (by lia),decide_eq_false (by lia)⟩
  ·rw [h1]; simpa using h2
 | @dct ks vs x v hd =>
  obtain ⟨t,rfl,hx⟩:=ri.inv
  cases zn3 (prog:=C.prog) H hp ro with
  | mk a f hm hs hf =>
   have:=hf x
   rw [hd] at this
   obtain ⟨v',q,r⟩:=this
   obtain ⟨ob,es,ep,h1,h2,_⟩:=id hm
   exact ⟨"dict",_,F.slot_dict_getitem.lookup,⟨_,h1,h2.1⟩,fun Q E k=>wpAny_getItem_of (knd:=strKind C.prog C.w) (k:=x) (beq_self_eq_true x:(x == x) = true) hm q (k _ _ r)⟩
 | @dcti ks vs x v hd =>
  obtain ⟨t,rfl⟩:=ri.inv
  cases z4b (prog:=C.prog) (w:=C.w) H ro with
  | mk a f hm hs hf =>
   have:=hf x
   rw [hd] at this
   obtain ⟨v',q,r⟩:=this
   obtain ⟨ob,es,ep,h1,h2,_⟩:=id hm
   exact ⟨"dict",_,F.slot_dict_getitem.lookup,⟨_,h1,h2.1⟩,fun Q E k=>wpAny_getItem_of (knd:=intKind C.prog C.w) (k:=x) (beq_self_eq_true x:(x == x) = true) hm q (k _ _ r)⟩
 | @seq o b xs i v ho h =>
  obtain ⟨u,rfl⟩:=ri.inv
  obtain ⟨k,h2,h3⟩:=zkn h
  cases zap H ho ro with
  | mk l vs ep e rx hl =>
   obtain ⟨v',hv,rv⟩:=rx.get h2
   rw [<- rx.length] at h3 hl
   obtain ⟨h1,h4,h5⟩:=zkm (zaa hv) h3
   have hv:=(List.getElem?_toArray (xs:=vs)).trans hv
   have hl':(vs.length:Int) <= lim:=Int.ofNat_le.mpr hl
   cases b with
   | true=>exact ⟨"tuple",_,F.slot_tuple_getitem.lookup,⟨_,e,rfl⟩,fun Q E q=>PyProof.Rows.getItem_tuple ⟨_,e,rfl,_,rfl⟩ (by lia) (by lia) (j:=k) h1 (x:=v') hv (q _ σ.s.toks rv)⟩
   | false =>
    refine ⟨"list",_,F.slot_list_getitem.lookup,⟨_,e,rfl⟩,fun Q E q=>?_⟩
    rcases h3 with ⟨h6,rfl⟩ | ⟨h6,h7,rfl⟩
    ·exact wpAny_getItem_list (x:=v') ⟨_,e,rfl,_,rfl⟩ h6 (by lia) hv (q _ σ.s.toks rv)
    ·exact wpAny_getItem_list_neg (x:=v') ⟨_,e,rfl,_,rfl⟩ h6 h4 (by lia) hv (q _ σ.s.toks rv)
theorem zr0 {v:V} {v':Value} {l:Option Int} {g:Gh} (e:OptR v l) (r:VRel g v v'):IsPart v' l /\ ∃ q:Option (Int × Tok),partValue q = v' /\ q.map (·.1) = l:=by
 cases e with
 | none=>cases r.inv; exact ⟨.none,none,rfl,rfl⟩
 | int i=>obtain ⟨t,rfl⟩:=r.inv; exact ⟨.int _ _,some (_,_),rfl,rfl⟩
theorem zwb {g:Gh} {xs:List V} {vs:List Value} (r:VRels g xs vs) (is:List Nat):VRels g (is.filterMap (xs[·]?)) (is.filterMap (vs[·]?)):=by
 induction is with
 | nil=>exact .nil
 | cons i is ih =>
  rw [List.filterMap_cons,List.filterMap_cons]
  cases hx:xs[i]? with
  | none =>
   have:vs[i]? = none:=by
    rw [List.getElem?_eq_none_iff] at hx ⊢
    rw [r.length]; exact hx
   rw [this]; exact ih
  | some x =>
   obtain ⟨v,e,q⟩:=r.get hx
   rw [e]; exact .cons q ih
noncomputable abbrev sliceO (b c c':Value):Obj:={ cls:=.type "slice",data:=.fields #[b,c,c'] }
theorem zv0 {c:Bool} {o:V} {o' b b1 b2:Value} {l h k:Option Int} {vl vh vk:V} {K:KV} (e:SliceR c σ.g.cs K o l h k) (H:HRel σ.g σ.s.heap) (ro:VRel σ.g o o') (ol:OptR vl l) (oh:OptR vh h) (ok:OptR vk k) (rl:VRel σ.g vl b) (rh:VRel σ.g vh b1) (rk:VRel σ.g vk b2)
  {Q:Value -> Shared -> Prop} {E:Value -> Shared -> Prop} (kk:∀ v a σ',Ext σ σ' noOwn -> VRel σ'.g v a -> K v σ'.g.cs -> Q a σ'.s) :
  ∃ T id,typeLookup (.type T) "__getitem__" = pure (some (.builtin id)) /\ Shared.TypeIs { σ.s with heap:=σ.s.heap.push (sliceO b b1 b2) } o' T /\ wpAny C.M A (getItem o' (.ref σ.s.heap.objs.size)) Q E { σ.s with heap:=σ.s.heap.push (sliceO b b1 b2) }:=by
 obtain ⟨pl,ql,el1,el2⟩:=zr0 ol rl
 obtain ⟨ph,qh,eh1,eh2⟩:=zr0 oh rh
 obtain ⟨pk,qk,ek1,ek2⟩:=zr0 ok rk
 have x0:Ext σ (σ.up (σ.s.heap.push (sliceO b b1 b2)) σ.s.toks σ.g) noOwn:=Ext.keeps H fun a o e=>Heap.get?_push_of_some _ e
 have es:(σ.s.heap.push (sliceO b b1 b2)).get? σ.s.heap.objs.size = some (sliceO b b1 b2):=Heap.get?_push_size _ rfl
 cases e with
 | @str x _ _ q =>
  obtain ⟨t,rfl,hx⟩:=ro.inv
  refine ⟨"str",_,F.slot_str_getitem.lookup,typeIs_str _ _ _,wpAny_getItem_str_slice (l:=ql) (u:=qh) (st:=qk) ⟨_,es,rfl,by rw [el1,eh1,ek1]⟩ (by rw [ek2]; rfl) ?_⟩
  unfold sliceMade slicePicked
  rw [el2,eh2,ek2]
  have hle:=Nat.le_trans (Txt.slice_le x l h) hx
  have fin:∀ tk tok,Q (.str (Txt.slice x l h) tok) { σ.s with heap:=σ.s.heap.push (sliceO b b1 b2),toks:=tk }:=fun tk tok =>
   kk _ _ (σ.up _ tk σ.g) (x0.trans (Ext.tok x0.H)) (.str _ _ hle) q
  unfold Txt.slice at fin hle
  split
  ·rename_i hc
   have hc:((1:Int) == 1 && (Builtin.Str.strSliceIndices l h 1 x.length).length == x.length) = true:=hc
   rw [if_pos hc] at fin
   exact fin _ _
  ·rename_i hc
   have hc:¬ ((1:Int) == 1 && (Builtin.Str.strSliceIndices l h 1 x.length).length == x.length) = true:=hc
   rw [if_neg hc] at fin hle
   exact ⟨Nat.le_trans hle zah,fin _ _⟩
 | @lst o xs _ _ _ ho hs q =>
  cases zap x0.H ho ro with
  | mk a vs ep e rx hl =>
   have rr:VRels σ.g (sliceL xs l h k) (slicePick vs.toArray l h k).toList:=by
    unfold sliceL slicePick
    have:=zwb rx (sliceRange (sliceBounds l h k xs.length).1 (sliceBounds l h k xs.length).2.1 (sliceBounds l h k xs.length).2.2)
    simpa [rx.length] using this
   have hlen:vs.toArray.size <= sizeLine:=Nat.le_trans (Nat.le_of_eq rx.length) (Nat.le_trans hl zah)
   refine ⟨"list",_,F.slot_list_getitem.lookup,⟨_,e,rfl⟩,wpAny_getItem_list_slice (items:=vs.toArray) ⟨_,e,rfl,_,rfl⟩ ⟨_,es,rfl,rfl⟩ pl ph pk hs ?_ hlen⟩
   obtain ⟨v,σ',x,es',r',q'⟩:=zg9 x0.H rr (fun a o e=>Heap.get?_push_of_some _ e) (get?_size _) (Heap.get?_push_size (o:=listO _ 0) _ rfl) q σ.s.toks
   have:=kk v _ σ' (x0.trans x) r' q'
   rw [es'] at this
   exact this
end Mine
end
section
namespace Mine
open PySem PySem.SeqAt
noncomputable def KeepOk (C:Cx) (A:Around) (s:Shared) (f:Value):Prop:=∀ (E:Value -> Shared -> Prop) (Q:Keeper -> Shared -> Prop),(∀ k,Q k s) -> wpAny C.M A (keeperOf f) Q E s
noncomputable abbrev KRel (g:Gh):=All2 (fun (p:Str × V) (q:Str × Value)=>p.1 = q.1 /\ VRel g p.2 q.2)
theorem kmono {g g':Gh} {xs:Kws} {ys:List (Str × Value)} (r:KRel g xs ys) (L:Le g g'):KRel g' xs ys:=r.imp fun _ _ h=>⟨h.1,h.2.mono L⟩
noncomputable def CRuns (C:Cx) (A:Around) (σ:St) (f:Value) (args':List Value) (kws':List (Str × Value)) (K:KV):Prop :=
 ∀ R:Result -> Shared -> Prop,(∀ v a σ',Ext σ σ' noOwn -> VRel σ'.g v a -> K v σ'.g.cs -> R (.ok (.ret a)) σ'.s) -> codeAny C.M A (.call f ⟨args',kws'⟩) R σ.s
theorem CRuns.runs {C:Cx} {A:Around} {σ:St} {f:Value} {args':List Value} {kws':List (Str × Value)} {K:KV} (h:CRuns C A σ f args' kws' K):Runs C A σ noOwn (call f args' kws') VR K :=
 fun Q E k=>wpAny_call (h _ fun v a σ' x r q=>k v a σ' x r q)
noncomputable def FnOk (C:Cx) (a:Addr) (sp:Spec):Prop:=∀ {A:Around} {σ:St} {args:List V} {kws:Kws} {args':List Value} {kws':List (Str × Value)} {K:KV},AOk A C.d -> HRel σ.g σ.s.heap -> Base C σ.g -> VRels σ.g args args' -> KRel σ.g kws kws' -> sp args kws σ.g.cs K ->
  KeepOk C A σ.s (.ref a) /\ CRuns C A σ (.ref a) args' kws' K
noncomputable def FnsOk (C:Cx) (P:Prm):Prop:=∀ a,FnOk C a (P.fn a)
variable {C:Cx} {A:Around} {σ:St} {P:Prm}
theorem zad (id:String):KeepOk C A σ.s (.builtin id):=fun E Q k=>wpAny_pure (k _)
theorem zf3 (id:String):KeepOk C A σ.s (.type id):=fun E Q k=>wpAny_pure (k _)
theorem zsf (r:List Int):∀ a:Int,maxI r a ∈ a :: r /\ ∀ b ∈ a :: r,b <= maxI r a:=by
 induction r with
 | nil=>intro a; exact ⟨List.mem_singleton.mpr rfl,fun b hb=>by rw [List.mem_singleton.mp hb]; exact Int.le_refl _⟩
 | cons b r ih =>
  intro a
  have e:maxI (b :: r) a = maxI r (if b > a then b else a):=rfl
  rw [e]
  by_cases h:b > a
  ·rw [if_pos h]
   refine ⟨List.mem_cons_of_mem _ (ih b).1,fun c hc=>(List.mem_cons.mp hc).elim (fun z=>?_) ((ih b).2 c)⟩
   rw [z]; exact Int.le_trans (Int.le_of_lt h) ((ih b).2 b List.mem_cons_self)
  ·rw [if_neg h]
   refine ⟨(List.mem_cons.mp (ih a).1).elim (fun z=>by rw [z]; exact List.mem_cons_self) fun z=>List.mem_cons_of_mem _ (List.mem_cons_of_mem _ z),fun c hc=>(List.mem_cons.mp hc).elim (fun z=>(ih a).2 c (z ▸ List.mem_cons_self)) fun hc=>?_⟩
   rcases List.mem_cons.mp hc with rfl | hc
   ·exact Int.le_trans (Int.not_lt.mp h) ((ih a).2 a List.mem_cons_self)
   ·exact (ih a).2 c (List.mem_cons_of_mem _ hc)
theorem z3p {g:Gh} {ns:List Int}:∀ {vs:List Value},VRels g (ns.map .int) vs -> numsOf vs = ns /\ ∀ v ∈ vs,∃ a t,v = .int a t:=by
 induction ns with
 | nil=>intro vs r; cases r.nil_of; exact ⟨rfl,fun v hv=>nomatch hv⟩
 | cons i ns ih =>
  intro vs r
  obtain ⟨v,vs',rfl,h,r'⟩:=r.cons_of
  obtain ⟨t,rfl⟩:=h.inv
  refine ⟨congrArg (i :: ·) (ih r').1,fun v hv=>(List.mem_cons.mp hv).elim (fun z=>⟨_,_,z⟩) ((ih r').2 v)⟩
theorem zf9 (H:HRel σ.g σ.s.heap) {o:Obj} (nc:∀ v,o.data ≠ .cell v) (hf:o.isFreed = false) (t:Nat):Ext σ (σ.up (σ.s.heap.push o) t (σ.g.freeze σ.s.heap.objs.size o)) noOwn :=
 Ext.freeze H (fun a o e=>Heap.get?_push_of_some _ e) (get?_size _) (Heap.get?_push_size _ hf) nc
theorem zng {t:Sem Value} {a b c:Int} {x u v:Tok} {K:KV} (H:HRel σ.g σ.s.heap) (q:K (.rng a b c) σ.g.cs)
  (h:∀ (Q:Value -> Shared -> Prop) E,(∀ tk,Q (.ref σ.s.heap.objs.size) { σ.s with heap:=σ.s.heap.push (rngO a b c x u v),toks:=tk }) -> wpAny C.M A t Q E σ.s):Runs C A σ noOwn t VR K :=
 fun Q E k=>h Q E fun tk=>k _ _ _ (zf9 (o:=rngO a b c x u v) H (fun _ e=>(nomatch e)) rfl tk) (.rng (zal ..)) q
theorem max_ok (hh:A.handled = none) {v':Value} {a:Int} {r:List Int} {K:KV} (H:HRel σ.g σ.s.heap) (h:SeqAt' σ.g σ.s.heap false ((a :: r).map .int) v') (q:K (.int (maxI r a)) σ.g.cs):Runs C A σ noOwn (call (.builtin "max") [v']) VR K:=by
 cases h with
 | mk l vs ep e rx hl =>
  obtain ⟨n1,n2⟩:=z3p rx
  have hall:AllInts vs.toArray:=fun v hv=>n2 v (List.mem_toArray.mp hv)
  obtain ⟨ps,hps⟩:=hall.items
  have hsz0:vs.length = ps.size:=by
   have:=congrArg Array.size hps
   simpa [intItems] using this
  have hsz:0 < ps.size:=by rw [<- hsz0,rx.length]; exact Nat.succ_pos _
  intro Q E k
  refine max_intList hh (l:=l) (xs:=ps) (by rw [<- hps]; exact ⟨_,e,rfl,_,rfl⟩) hsz fun v h' tk hv hk=>?_
  obtain ⟨t,rfl⟩:=intItems_at hv
  have hn:numsOf (intItems ps).toList = a :: r:=by rw [<- hps]; exact n1
  rw [nums_intItems] at hn
  have key:numAt ps (argBest (fun i j=>decide (numAt ps i > numAt ps j)) (ps.size - 1)) = maxI r a:=by
   obtain ⟨h1,h2⟩:=argBest_gt (numAt ps) (ps.size - 1)
   obtain ⟨m1,m2⟩:=zsf r a
   refine Int.le_antisymm (m2 _ ?_) ?_
   ·rw [<- hn,numAt_eq]; exact getD_mem (by rw [List.length_map,Array.length_toList]; omega)
   ·rw [<- hn] at m1
    obtain ⟨j,hj,hj2⟩:=mem_getD m1
    rw [List.length_map,Array.length_toList] at hj
    rw [<- hj2,<- numAt_eq]; exact h2 j (by omega)
  rw [key]
  exact k _ _ (σ.up h' tk σ.g) (Ext.keeps H fun b o e=>hk b o e) (.int _ _) q
theorem zsy {v:V} {v':Value} {n:String} (e:KindR σ.g.cs v n) (H:HRel σ.g σ.s.heap) (r:VRel σ.g v v'):σ.s.TypeIs v' n /\ (Value.type n == Value.type "builtin_function_or_method") = false:=by
 cases e with
 | str=>obtain ⟨_,rfl,_⟩:=r.inv; exact ⟨typeIs_str _ _ _,by decide⟩
 | int=>obtain ⟨_,rfl⟩:=r.inv; exact ⟨typeIs_int _ _ _,by decide⟩
 | bool=>cases r.inv; exact ⟨typeIs_bool _ _,by decide⟩
 | @seq v b xs h=>cases zap H h r with | mk a vs ep e _ _=>exact ⟨⟨_,e,rfl⟩,by cases b <;> decide⟩
noncomputable def CallsOk (C:Cx) (A:Around) (σ:St) (K:KV) (f':Value) (args':List Value) (kws':List (Str × Value)):Prop:=KeepOk C A σ.s f' /\ Runs C A σ noOwn (call f' args' kws') VR K
noncomputable def isBi (b:Bool) (id:String):V:=Bool.rec (.bi id) (.typ id) b
noncomputable def biVal (b:Bool) (id:String):Value:=Bool.rec (.builtin id) (.type id) b
section
variable {K:KV} {f':Value} {args':List Value} {kws':List (Str × Value)} {x y:V}
theorem zbe (b:Bool) (id:String) (rf:VRel σ.g (isBi b id) f') (ra:VRels σ.g [x] args') (rk:KRel σ.g [] kws') (h:∀ v',VRel σ.g x v' -> Runs C A σ noOwn (call (biVal b id) [v']) VR K):CallsOk C A σ K f' args' kws':=by
 cases rk.nil_of
 obtain ⟨v',rfl,rv⟩:=ra.one
 cases b with
 | false=>cases rf.inv; exact ⟨zad _,h v' rv⟩
 | true=>cases rf.inv; exact ⟨zf3 _,h v' rv⟩
theorem zi0 (b:Bool) (id:String) (rf:VRel σ.g (isBi b id) f') (ra:VRels σ.g [x,y] args') (rk:KRel σ.g [] kws') (h:∀ v' u',VRel σ.g x v' -> VRel σ.g y u' -> Runs C A σ noOwn (call (biVal b id) [v',u']) VR K):CallsOk C A σ K f' args' kws':=by
 cases rk.nil_of
 obtain ⟨v',u',rfl,rv,ru⟩:=ra.two
 cases b with
 | false=>cases rf.inv; exact ⟨zad _,h v' u' rv ru⟩
 | true=>cases rf.inv; exact ⟨zf3 _,h v' u' rv ru⟩
theorem len_ok {v:V} {v':Value} {b:Bool} {xs:List V} (H:HRel σ.g σ.s.heap) (h:SeqR σ.g.cs v b xs) (rv:VRel σ.g v v') (q:K (.int (xs.length:Nat)) σ.g.cs):Runs C A σ noOwn (call (.builtin "len") [v']) VR K:=by
 cases zap H h rv with
 | mk a vs ep e rx hl =>
  have hl':(vs.toArray.size:Int) < 2 ^ 63:=Int.lt_of_le_of_lt (Int.ofNat_le.mpr (Nat.le_trans (Nat.le_of_eq rx.length) hl)) (by decide)
  rw [<- rx.length] at q
  cases b with
  | true=>exact Runs.still H (fun Q E k=>PySem.P.len_tuple e (Int.not_le.mpr hl') (k _)) (fun _=>.int _ _) q
  | false=>exact Runs.still H (fun Q E k=>PyProof.Rows.len_list ⟨_,e,rfl,_,rfl⟩ hl' (k _)) (fun _=>.int _ _) q
theorem ofInt {i:Int} {v':Value} {r:V} {f:Tok -> Value} (H:HRel σ.g σ.s.heap) (rv:VRel σ.g (.int i) v') (q:K r σ.g.cs) (g:Value -> Sem Value) (hr:∀ t,VRel σ.g r (f t))
  (h:∀ t (Q:Value -> Shared -> Prop) E,(∀ u tk,Q (f u) { σ.s with toks:=tk }) -> wpAny C.M A (g (.int i t)) Q E σ.s):Runs C A σ noOwn (g v') VR K:=by
 obtain ⟨t,rfl⟩:=rv.inv
 exact fun Q E k=>h t Q E fun u tk=>k _ _ (σ.up σ.s.heap tk σ.g) (Ext.tok H) (hr u) q
theorem ofStr {x:Str} {v':Value} {r:V} {f:Tok -> Value} (H:HRel σ.g σ.s.heap) (rv:VRel σ.g (.str x) v') (q:K r σ.g.cs) (g:Value -> Sem Value) (hr:∀ t,VRel σ.g r (f t))
  (h:∀ t (Q:Value -> Shared -> Prop) E,x.length <= lim -> (∀ u tk,Q (f u) { σ.s with toks:=tk }) -> wpAny C.M A (g (.str x t)) Q E σ.s):Runs C A σ noOwn (g v') VR K:=by
 obtain ⟨t,rfl,hx⟩:=rv.inv
 exact fun Q E k=>h t Q E hx fun u tk=>k _ _ (σ.up σ.s.heap tk σ.g) (Ext.tok H) (hr u) q
theorem zt7 {a b:Int} {v' u':Value} (H:HRel σ.g σ.s.heap) (rv:VRel σ.g (.int a) v') (ru:VRel σ.g (.int b) u') (h:b ≠ 0 /\ b.natAbs < bigN) (q:K (.tup [.int (a.fdiv b),.int (a.fmod b)]) σ.g.cs):Runs C A σ noOwn (call (.builtin "divmod") [v',u']) VR K:=by
 obtain ⟨t,rfl⟩:=rv.inv; obtain ⟨u,rfl⟩:=ru.inv
 exact fun Q E k=>PyProof.Rows.divmod_int h.1 (k _ _ (σ.up _ _ _) (zf9 (o:=tupO [.int (a.fdiv b) σ.s.toks,.int (a.fmod b) (σ.s.toks + 1)] 0) H (fun _ e=>(nomatch e)) rfl _) (.tup (vs:=[_,_]) (zal ..) (.cons (.int _ _) (.cons (.int _ _) .nil)) (show 2 <= lim by decide)) q) (.inl (zn7 h.2))
theorem z2i {a:Int} {v':Value} (H:HRel σ.g σ.s.heap) (rv:VRel σ.g (.int a) v') (q:K (.rng 0 a 1) σ.g.cs):Runs C A σ noOwn (call (.type "range") [v']) VR K:=by
 obtain ⟨t,rfl⟩:=rv.inv; exact zng H q fun Q E k=>call_range_1 (k _)
theorem z2h {a b:Int} {v' u':Value} (H:HRel σ.g σ.s.heap) (rv:VRel σ.g (.int a) v') (ru:VRel σ.g (.int b) u') (q:K (.rng a b 1) σ.g.cs):Runs C A σ noOwn (call (.type "range") [v',u']) VR K:=by
 obtain ⟨t,rfl⟩:=rv.inv; obtain ⟨u,rfl⟩:=ru.inv; exact zng H q fun Q E k=>call_range_2 (k _)
theorem z1k {v:V} {n:String} {v':Value} (H:HRel σ.g σ.s.heap) (h:KindR σ.g.cs v n) (rv:VRel σ.g v v') (q:K (.typ n) σ.g.cs):Runs C A σ noOwn (call (.type "type") [v']) VR K :=
 Runs.still H (fun Q E k=>call_type_of (zsy h H rv).1 (zsy h H rv).2 (k _)) (fun _=>.typ _) q
theorem z3a (hh:A.handled = none) {a b:Int} {v' u':Value} (H:HRel σ.g σ.s.heap) (rv:VRel σ.g (.int a) v') (ru:VRel σ.g (.int b) u') (q:K (.int (max a b)) σ.g.cs):Runs C A σ noOwn (call (.builtin "max") [v',u']) VR K:=by
 obtain ⟨t,rfl⟩:=rv.inv; obtain ⟨u,rfl⟩:=ru.inv
 intro Q E k
 refine max_two_ints hh fun h' tk hk=>?_
 by_cases hc:b > a
 ·rw [if_pos hc]; exact k (.int (max a b)) _ (σ.up h' tk σ.g) (Ext.keeps H fun b o e=>hk b o e) (by rw [Int.max_eq_right (Int.le_of_lt hc)]; exact .int _ _) q
 ·rw [if_neg hc]; exact k (.int (max a b)) _ (σ.up h' tk σ.g) (Ext.keeps H fun b o e=>hk b o e) (by rw [Int.max_eq_left (Int.not_lt.mp hc)]; exact .int _ _) q
theorem zs1 {s:Shared} {h':Heap} {o:Obj} (hk:∀ b x,b ∉ [s.heap.objs.size] -> (s.heap.push o).get? b = some x -> h'.get? b = some x):∀ b x,s.heap.get? b = some x -> h'.get? b = some x :=
 fun b x e=>hk b x (fun hm=>by rw [List.mem_singleton.mp hm] at e; exact Nat.lt_irrefl _ (Heap.lt_size e)) (Heap.get?_push_of_some _ e)
theorem zfx (xs:List Int):∀ n,n <= xs.length -> preSum (fun i=>xs.getD i 0) n = (xs.take n).sum:=by
 intro n
 induction n with
 | zero=>intro _; rfl
 | succ n ih =>
  intro h
  rw [List.take_add_one,List.getElem?_eq_getElem h,List.sum_append,<- ih (Nat.le_of_lt h)]
  show preSum _ n + xs.getD n 0 = _
  rw [List.getD_eq_getElem?_getD,List.getElem?_eq_getElem h]
  show _ = preSum _ n + (xs[n] + 0)
  rw [Int.add_zero]
  rfl
theorem sum_bd (xs:List Int) (h:∀ x ∈ xs,0 <= x /\ x <= 1000):0 <= xs.sum /\ xs.sum <= 1000 * xs.length:=by
 induction xs with
 | nil=>exact ⟨Int.le_refl _,Int.le_refl _⟩
 | cons x xs ih =>
  have h1:=h x List.mem_cons_self
  have h2:=ih fun y hy=>h y (List.mem_cons_of_mem _ hy)
  rw [List.sum_cons,List.length_cons]
  lia
theorem sum_ok (hh:A.handled = none) {xs:List Int} {v':Value} (H:HRel σ.g σ.s.heap) (hx:∀ x ∈ xs,0 <= x /\ x <= 1000) (hn:xs.length <= 1000) (h:SeqAt' σ.g σ.s.heap false (xs.map .int) v') (q:K (.int xs.sum) σ.g.cs):Runs C A σ noOwn (call (.builtin "sum") [v']) VR K:=by
 cases h with
 | mk l vs ep e rx hl =>
  intro Q E k
  have hI:σ.s.heap.IsList l vs.toArray:=⟨_,e,rfl,_,rfl⟩
  have hlt:l < σ.s.heap.objs.size:=Heap.lt_size e
  have len:vs.toArray.size = xs.length:=by rw [List.size_toArray,rx.length,List.length_map]
  have bd:∀ n,n <= xs.length -> InLong (preSum (fun i=>xs.getD i 0) n):=fun n h=>by
   rw [zfx xs n h]
   have b:=sum_bd (xs.take n) fun x hx'=>hx x (List.mem_of_mem_take hx')
   rw [List.length_take,Nat.min_eq_left h] at b
   unfold InLong
   lia
  refine call_sum_walk (wpAny_pyIter_list hI ?_)
  refine ⟨σ.s.heap.objs.size,[σ.s.heap.objs.size,l],[σ.s.heap.objs.size],vs.toArray.size,_,_,fun i=>xs.getD i 0,rfl,Walks.list (A:=A.in1) hh _ l (Nat.ne_of_lt hlt) vs.toArray,
   ⟨⟨_,Heap.get?_push_size _ rfl,rfl,rfl⟩,hI.push _⟩,fun b hb=>?_,fun i v hP=>?_,fun j hj=>?_,fun h' tk t' hk=>?_⟩
  ·rw [Heap.size_push]
   rcases List.mem_cons.mp hb with rfl | hb
   ·exact Nat.lt_succ_self _
   ·cases List.mem_singleton.mp hb; exact Nat.lt_succ_of_lt hlt
  ·rw [List.getElem?_toArray] at hP
   obtain ⟨x,hx,r⟩:=rx.get' hP
   rw [List.getElem?_map] at hx
   obtain ⟨b,hb,rfl⟩:=Option.map_eq_some_iff.mp hx
   obtain ⟨t,rfl⟩:=r.inv
   exact ⟨t,by show Value.int b t = Value.int (xs.getD i 0) t; rw [List.getD_eq_getElem?_getD,hb]; rfl⟩
  ·rw [len] at hj
   refine ⟨?_,bd (j + 1) hj⟩
   have b:=hx (xs.getD j 0) (by rw [List.getD_eq_getElem?_getD,List.getElem?_eq_getElem hj]; exact List.getElem_mem hj)
   show -(2 ^ 63) <= xs.getD j 0 /\ xs.getD j 0 < 2 ^ 63
   lia
  ·rw [len,zfx xs _ (Nat.le_refl _),List.take_length]
   exact k _ _ (σ.up h' tk σ.g) (Ext.keeps H fun b o e=>zs1 hk b o e) (.int _ _) q
theorem z3k {b:Bool} {xs:List V} {o':Value} (H:HRel σ.g σ.s.heap) (h:SeqAt' σ.g σ.s.heap b xs o') (hl0:xs.length <= lim) (q:K (.ref σ.g.cs.length) (σ.g.cs ++ [.list xs])):Runs C A σ noOwn (call (.type "list") [o']) VR K:=by
 cases h with
 | mk l vs ep e rx hl =>
  intro Q E k
  refine call_list_seq l (T:=Bool.rec "list" "tuple" b) (by cases b <;> simp) e rfl rfl (fun h' c' hk e'=>?_) (Nat.le_trans (Nat.le_of_eq rx.length) (Nat.le_trans hl zah))
  obtain ⟨v,σ',X,es,r2,q2⟩:=zg9 (c:=true) H rx hk (get?_size _) e' ⟨hl0,q⟩ σ.s.toks
  have:=k v _ σ' X r2 q2
  rw [es] at this
  exact this
theorem zpm {g:Gh} {ns:List Int}:∀ {vs:List Value},VRels g (ns.map .int) vs -> PyProof.Rows.IntsAre vs ns:=by
 induction ns with
 | nil=>intro vs r; cases r.nil_of; exact .nil
 | cons i ns ih =>
  intro vs r
  obtain ⟨v,vs',rfl,h,r'⟩:=r.cons_of
  obtain ⟨t,rfl⟩:=h.inv
  exact .cons i t (ih r')
theorem znq {g:Gh} {vs:List Value} {zs:List Int} (h:PyProof.Rows.IntsAre vs zs):VRels g (zs.map V.int) vs:=by
 induction h with
 | nil=>exact .nil
 | cons n t _ ih=>exact .cons (.int n t) ih
theorem zqv {xs:List Int} {v':Value} (H:HRel σ.g σ.s.heap) (hn:xs.length < 64) (h:SeqAt' σ.g σ.s.heap false (xs.map .int) v') (q:∀ ys:List Int,ys.Perm xs -> ys.Pairwise (· <= ·) -> K (.lst (ys.map .int)) σ.g.cs):Runs C A σ noOwn (call (.builtin "sorted") [v']) VR K:=by
 cases h with
 | mk l vs ep e rx hl =>
  intro Q E k
  have hv:vs.length = xs.length:=by rw [rx.length,List.length_map]
  refine PyProof.Rows.sorted_ints ⟨_,e,rfl,_,rfl⟩ (zpm rx) (by rw [hv]; exact hn) fun out ns' a1 a2 a3=>?_
  obtain ⟨c,hc⟩:=PyProof.Rows.sortedAll_at σ.s.heap vs out
  have e2:(PyProof.Rows.sortedAll σ.s.heap vs out).get? (σ.s.heap.objs.size + 1) = some (listO out.toList c):=hc
  obtain ⟨v,σ',X,es,r2,q2⟩:=zg9 (c:=false) (a:=σ.s.heap.objs.size + 1) H (znq a1) (fun a o e=>PyProof.Rows.sortedAll_old e) (get?_ge (Nat.le_succ _)) e2 ⟨by rw [List.length_map,a2.length_eq]; exact Nat.le_trans (Nat.le_of_lt hn) (by decide),q ns' a2 a3⟩ σ.s.toks
  have:=k v _ σ' X r2 q2
  rw [es] at this
  exact this
theorem zi1 (Fn:FnsOk C P) {f:V} {args:List V} {kws:Kws} (e:CallR P σ.g.cs K f args kws) (O:AOk A C.d) (H:HRel σ.g σ.s.heap) (B:Base C σ.g) :
  VRel σ.g f f' -> VRels σ.g args args' -> KRel σ.g kws kws' -> CallsOk C A σ K f' args' kws':=by
 cases e with
 | lenS q=>exact fun rf ra rk=>zbe false "len" rf ra rk fun v' rv=>ofStr (f:=fun t=>.int _ t) H rv q (fun v=>call (.builtin "len") [v]) (fun _=>.int _ _) fun t Q E hx k=>PySem.P.len_str (Int.not_le.mpr (Int.lt_of_le_of_lt (Int.ofNat_le.mpr hx) (by decide))) (k _ _)
 | lenL h q=>exact fun rf ra rk=>zbe false "len" rf ra rk fun v' rv=>len_ok H h rv q
 | ord q=>exact fun rf ra rk=>zbe false "ord" rf ra rk fun v' rv=>ofStr (f:=fun t=>.int _ t) H rv q (fun v=>call (.builtin "ord") [v]) (fun _=>.int _ _) fun t Q E _ k=>PySem.P.ord_of_char (k _ _)
 | chr h q=>exact fun rf ra rk=>zbe false "chr" rf ra rk fun v' rv=>ofInt (f:=fun t=>.str _ t) H rv q (fun v=>call (.builtin "chr") [v]) (fun _=>.str _ _ (show 1 <= lim by decide)) fun t Q E k =>
   PySem.P.chr_of_int (by rw [Bool.or_eq_false_iff]; exact ⟨decide_eq_false (Int.not_lt.mpr h.1),decide_eq_false (Int.not_le.mpr h.2)⟩) (k _ _)
 | max h q=>exact fun rf ra rk=>zbe false "max" rf ra rk fun v' rv=>max_ok O.hh H (zap H h rv) q
 | max2 q=>exact fun rf ra rk=>zi0 false "max" rf ra rk fun v' u' rv ru=>z3a O.hh H rv ru q
 | divmod h q=>exact fun rf ra rk=>zi0 false "divmod" rf ra rk fun v' u' rv ru=>zt7 H rv ru h q
 | rng1 q=>exact fun rf ra rk=>zbe true "range" rf ra rk fun v' rv=>z2i H rv q
 | rng2 q=>exact fun rf ra rk=>zi0 true "range" rf ra rk fun v' u' rv ru=>z2h H rv ru q
 | sum h hx hn q=>exact fun rf ra rk=>zbe false "sum" rf ra rk fun v' rv=>sum_ok O.hh H hx hn (zap H h rv) q
 | sorted h hn q=>exact fun rf ra rk=>zbe false "sorted" rf ra rk fun v' rv=>zqv H hn (zap H h rv) q
 | list h hl q=>exact fun rf ra rk=>zbe true "list" rf ra rk fun v' rv=>z3k H (zap H h rv) hl q
 | type h q=>exact fun rf ra rk=>zbe true "type" rf ra rk fun v' rv=>z1k H h rv q
 | fn q =>
  intro rf ra rk
  cases rf.inv
  obtain ⟨kp,run⟩:=Fn _ O H B ra rk q
  exact ⟨kp,run.runs⟩
end
end Mine
end
section
namespace Mine
open PySem PySem.SeqAt
inductive Tgt where
 | nm (x:Str) (i:Nat) (p:Pos)
 | tup (xs:List (Str × Nat × Pos)) (k:Nat) (p:Pos)
noncomputable def Tgt.ast (t:Tgt):Expr:=Tgt.rec (fun x _ p=>.Name x p) (fun xs k p=>.Tuple (xs.map fun y=>.Name y.1 y.2.2) k p) t
noncomputable def ItOwn (os:List Addr) (σ:St):Prop:=∀ a ∈ os,(∃ o,σ.s.heap.get? a = some o) /\ σ.g.hf a = none /\ (∀ l,l < σ.g.cs.length -> σ.g.ρ l ≠ a) /\ ¬ σ.g.fl a
theorem ItOwn.ext {os:List Addr} {σ σ':St} {own:Addr -> Prop} (O:ItOwn os σ) (x:Ext σ σ' own):ItOwn os σ':=fun a ha=>by
 obtain ⟨⟨o,e⟩,h1,h2,h3⟩:=O a ha
 exact ⟨x.lives e,x.nhf e h1,x.nce e h2,x.le.fl.symm ▸ h3⟩
theorem ItOwn.kept {os:List Addr} {σ σ':St} {own:Addr -> Prop} (O:ItOwn os σ) (x:Ext σ σ' own) (no:∀ a ∈ os,¬ own a) (a:Addr) (ha:a ∈ os) (o:Obj) (e:σ.s.heap.get? a = some o):σ'.s.heap.get? a = some o :=
 x.exact e (fun l hl q=>(O a ha).2.2.1 l hl q.symm) (no a ha) (O a ha).2.2.2
noncomputable abbrev Kept (os:List Addr) (h h':Heap):Prop:=∀ b o,b ∉ os -> h.get? b = some o -> h'.get? b = some o
theorem znj {os:List Addr} {σ:St} {h':Heap} (O:ItOwn os σ) (H:HRel σ.g σ.s.heap) (k:Kept os σ.s.heap h'):HRel σ.g h':=H.keep fun a o e q=>k a o (fun ha=>by
 rcases q with q | ⟨l,hl,q⟩ | q
 ·rw [(O a ha).2.1] at q; cases q
 ·exact (O a ha).2.2.1 l hl q.symm
 ·exact (O a ha).2.2.2 q) e
theorem zm9 {os:List Addr} {σ:St} {h':Heap} {tk:Nat} (O:ItOwn os σ) (H:HRel σ.g σ.s.heap) (k:Kept os σ.s.heap h') (lv:∀ a ∈ os,∃ o,h'.get? a = some o):Ext σ (σ.up h' tk σ.g) (· ∈ os) :=
 ⟨Le.refl _,fun _ _ e=>.inl e,fun l a b=>absurd b (Nat.not_lt.mpr a),fun a o e _ n=>⟨o,k a o n e,rfl,fun _=>rfl⟩,fun a o _ q=>lv a q,znj (σ:=σ) O H k,rfl⟩
theorem zm8 {os:List Addr} {σ:St} {h':Heap} {tk:Nat} {o:Obj} (O:ItOwn os σ) (H:HRel σ.g σ.s.heap) (k:Kept os σ.s.heap h') (lv:∀ a ∈ os,∃ o,h'.get? a = some o) (e':h'.get? σ.s.heap.objs.size = some o) (nc:∀ v,o.data ≠ .cell v) :
  Ext σ (σ.up h' tk (σ.g.freeze σ.s.heap.objs.size o)) (· ∈ os) :=
 have n:=get?_size σ.s.heap
 ⟨Le.freeze _ o (H.hf_none n),fun b o' q=>(zas q).elim (fun z=>.inr (z.1 ▸ n)) .inl,fun l a b=>absurd b (Nat.not_lt.mpr a),fun a o e _ n=>⟨o,k a o n e,rfl,fun _=>rfl⟩,fun a o _ q=>lv a q,
  H.freeze (fun a o q e=>k a o (fun ha=>by
   rcases q with q | ⟨l,hl,q⟩ | q
   ·rw [(O a ha).2.1] at q; cases q
   ·exact (O a ha).2.2.1 l hl q.symm
   ·exact (O a ha).2.2.2 q) e) (H.hf_none n) (fun l hl=>H.ne hl n) (H.nfl n) e' nc,rfl⟩
theorem Ext.fin {σ₀ σ:St} {own:Addr -> Prop} {os:List Addr} {h':Heap} {tk:Nat} (x:Ext σ₀ σ own) (O:ItOwn os σ) (k:Kept os σ.s.heap h') (f:∀ a ∈ os,σ₀.s.heap.get? a = none):Ext σ₀ (σ.up h' tk σ.g) own :=
 have kk:∀ a o,σ₀.s.heap.get? a = some o -> ∀ o',σ.s.heap.get? a = some o' -> h'.get? a = some o':=fun a o e o' e'=>k a o' (fun ha=>by rw [f a ha] at e; cases e) e'
 ⟨x.le,x.fresh,x.cfresh,fun a o e n q=>(x.keep a o e n q).imp fun o' z=>⟨kk a o e o' z.1,z.2⟩,fun a o e q=>(x.ownk a o e q).imp fun o' e'=>kk a o e o' e',znj (σ:=σ) O x.H k,by have:=x.sh; show ({ σ.s with heap:=h',toks:=tk }:Shared) = _; rw [this]⟩
theorem FRel.keepH {g:Gh} {env:Env} {L:Str -> Option V} {h h':Heap} (F:FRel g env L h) (k:∀ a o,ownAll env a -> h.get? a = some o -> h'.get? a = some o):FRel g env L h' :=
 { F with
  ns:=by obtain ⟨m,⟨o,es,ep,e,q⟩,r⟩:=F.ns; exact ⟨m,⟨o,es,ep,k _ o (.inl rfl) e,q⟩,r⟩
  cell:=fun y hy=>by obtain ⟨c,w',e,⟨o,e1,e2⟩,r⟩:=F.cell y hy; exact ⟨c,w',e,⟨o,k _ o (.inr ⟨y,hy,e⟩) e1,e2⟩,r⟩ }
noncomputable def FinOk (C:Cx) (A:Around) (it:Addr) (os:List Addr) (σ:St):Prop:=∀ (Q:Option Value -> Shared -> Prop) (E:Value -> Shared -> Prop),(∀ h' tk,Kept os σ.s.heap h' -> Q none { σ.s with heap:=h',toks:=tk }) -> wpAny C.M A (pyNext (.ref it)) Q E σ.s
noncomputable def NxtOk (C:Cx) (A:Around) (t:Expr) (it:Addr) (os:List Addr) (P:St -> Prop) (v:V) (σ:St):Prop:=∀ (Q:Value -> Shared -> Prop) (E:Value -> Shared -> Prop),(∀ v' σ',Ext σ σ' (· ∈ os) -> σ'.g.cs = σ.g.cs -> P σ' -> VRel σ'.g v v' -> Q v' σ'.s) ->
  wpAny C.M A (pyNext (.ref it)) (fun r s₁=>∃ v',r = some v' /\ wpAny C.M A (letOwnedTupleGo t (.ref it) v') (fun _ s₂=>Q v' s₂) E s₁) E σ.s
noncomputable def SelfOk (C:Cx) (A:Around) (it:Addr) (s:Shared):Prop:=∀ (Q:Value -> Shared -> Prop) (E:Value -> Shared -> Prop),Q (.ref it) s -> wpAny C.M A (pyIter (.ref it)) Q E s
structure It (C:Cx) (t:Expr) (it:Addr) (os:List Addr) (P:Src -> St -> Prop):Prop where
 own:∀ src σ,P src σ -> ItOwn os σ
 ext:∀ src σ σ' ow,P src σ -> HRel σ.g σ.s.heap -> Ext σ σ' ow -> (∀ a ∈ os,¬ ow a) -> P src σ'
 fin:∀ A src σ,A.handled = none -> P src σ -> HRel σ.g σ.s.heap -> EndR σ.g.cs src -> FinOk C A it os σ
 nxt:∀ A src v src' σ,A.handled = none -> P src σ -> HRel σ.g σ.s.heap -> NextR σ.g.cs src v src' -> NxtOk C A t it os (P src') v σ
 self:∀ A src σ,A.handled = none -> P src σ -> SelfOk C A it σ.s
variable {C:Cx} {A:Around}
theorem zf2 (t:Tgt) {s:Shared} {it:Addr} {v:Value} {n:String} {o:Obj} {vs:Array Value} {Q:Unit -> Shared -> Prop} {E:Value -> Shared -> Prop} (e:s.heap.get? it = some o) (e1:o.cls = .type n) (e2:o.data = .fields vs)
  (hn:["enumerate", "zip", "dict_itemiterator", "dict_reverseitemiterator", "odict_iterator", "itertools.zip_longest", "itertools.pairwise"].contains n = false) (h:Q () s):wpAny C.M A (letOwnedTupleGo t.ast (.ref it) v) Q E s:=by
 cases t with
 | nm x i p=>exact wpAny_pure h
 | tup xs k p =>
  cases v with
  | ref a =>
   show wpAny _ _ (load it >>= _) _ _ _
   refine wpAny_bind (wpAny_load e ?_)
   rw [e1,e2]
   show wpAny _ _ (if (_ && _) = true then _ else _) _ _ _
   rw [hn,Bool.false_and,if_neg Bool.false_ne_true]
   exact wpAny_pure h
  | _=>exact wpAny_pure h
theorem zny {xs:List V} {i:Nat} {cs:List Cell} (e:EndR cs (.items (xs.drop i))):xs[i]? = none:=by
 generalize hx:xs.drop i = ys at e
 cases e
 exact List.getElem?_eq_none_iff.mpr (List.drop_eq_nil_iff.mp hx)
theorem zkh {xs:List V} {i:Nat} {src:Src} {v:V} {cs:List Cell} (e:NextR cs (.items (xs.drop i)) v src):xs[i]? = some v /\ src = .items (xs.drop (i + 1)):=by
 generalize hx:xs.drop i = ys at e
 cases e with
 | items x ys =>
  have:(xs.drop i)[0]? = some v:=by rw [hx]; rfl
  rw [List.getElem?_drop] at this
  exact ⟨this,by rw [<- List.drop_drop,hx]; rfl⟩
structure Wk (C:Cx) (it:Addr) (fp:List Addr) (n:Nat) (R:Nat -> Value -> Prop) (S:Nat -> Heap -> Prop) (nm:String):Prop where
 w:∀ A:Around,A.handled = none -> Walks C.prog C.w A it (it :: fp) [it] n R S
 cls:∀ i h,S i h -> ∃ o vs,h.get? it = some o /\ o.cls = .type nm /\ o.data = .fields vs
 hn:["enumerate", "zip", "dict_itemiterator", "dict_reverseitemiterator", "odict_iterator", "itertools.zip_longest", "itertools.pairwise"].contains nm = false
structure WkS (xs:List V) (it:Addr) (fp:List Addr) (R:Nat -> Value -> Prop) (S:Nat -> Heap -> Prop) (i:Nat) (σ:St):Prop where
 own:ItOwn [it] σ
 fz:∀ b ∈ fp,∃ o,σ.g.hf b = some o
 rel:∀ i v x,R i v -> xs[i]? = some x -> VRel σ.g x v
 hi:i <= xs.length
 hs:S i σ.s.heap
inductive From (xs:List V) (P:Nat -> St -> Prop):Src -> St -> Prop
 | mk (i σ) (h:P i σ):From xs P (.items (xs.drop i)) σ
theorem It.ofWalks (t:Tgt) {xs:List V} {it:Addr} {fp:List Addr} {R:Nat -> Value -> Prop} {S:Nat -> Heap -> Prop} {nm:String} (W:Wk C it fp xs.length R S nm):It C t.ast it [it] (From xs (WkS xs it fp R S)) where
 own _ _ h:=by cases h with | mk i σ h=>exact h.own
 ext _ _ σ' _ h H x no:=by
  cases h with
  | mk i σ h =>
   refine .mk i σ' ⟨h.own.ext x,fun b hb=>(h.fz b hb).imp fun o e=>x.le.hf _ _ e,fun i v y r e=>(h.rel i v y r e).mono x.le,h.hi,(W.w (⟨none,0,none,none,1⟩:Around) rfl).frame i _ _ h.hs fun b hb o e=>?_⟩
   rcases List.mem_cons.mp hb with rfl | hb
   ·exact h.own.kept x no b (List.mem_singleton.mpr rfl) o e
   ·obtain ⟨o',q⟩:=h.fz b hb
    cases e.symm.trans (H.fz _ _ q)
    exact x.H.fz _ _ (x.le.hf _ _ q)
 fin _ _ _ hh h H e:=by
  cases h with
  | mk i σ h =>
   have hs:=h.hs
   rw [Nat.le_antisymm h.hi (List.getElem?_eq_none_iff.mp (zny e))] at hs
   exact fun Q E k=>(W.w _ hh).done _ _ _ hs k
 nxt A src v src' σ hh h H e:=by
  cases h with
  | mk i σ h =>
   obtain ⟨h2,rfl⟩:=zkh e
   have hl:=zaa h2
   refine fun Q E k=>(W.w _ hh).item i _ _ _ hl h.hs fun v' h' tk hR hS hk=>⟨v',rfl,?_⟩
   obtain ⟨o,vs,e1,e2,e3⟩:=W.cls _ _ hS
   have X:=zm9 (tk:=tk) h.own H hk fun a ha=>⟨o,List.mem_singleton.mp ha ▸ e1⟩
   exact zf2 t (s:={ σ.s with heap:=h',toks:=tk }) e1 e2 e3 W.hn (k v' _ X rfl (.mk (i + 1) (σ.up h' tk σ.g) ⟨h.own.ext X,h.fz,h.rel,hl,hS⟩) (h.rel i v' _ hR h2))
 self _ _ _ hh h:=by
  cases h with | mk i σ h=>exact fun Q E k=>(W.w _ hh).self i _ _ _ h.hs k
theorem It.ofW (t:Tgt) {xs:List V} {it:Addr} {fp:List Addr} {n:Nat} {R:Nat -> Value -> Prop} {S:Nat -> Heap -> Prop} {nm:String} (hn:n = xs.length) (W:Wk C it fp n R S nm):It C t.ast it [it] (From xs (WkS xs it fp R S)):=by
 subst hn; exact .ofWalks t W
theorem z1c (it l:Addr) (ne:l ≠ it) (items:Array Value):Wk C it [l] items.size (fun i v=>items[i]? = some v) (fun i h=>h.IsListIter it l i /\ h.IsList l items) "list_iterator" :=
 ⟨fun A hh=>Walks.list hh it l ne items,fun i h hs=>by obtain ⟨⟨o,e1,e2,e3⟩,_⟩:=hs; exact ⟨o,_,e1,e2,e3⟩,by decide⟩
theorem zvf (it l:Addr) (ne:l ≠ it) (items:Array Value):Wk C it [l] items.size (fun i v=>items[i]? = some v) (fun i h=>h.IsTupleIter it l i /\ h.IsTuple l items) "tuple_iterator" :=
 ⟨fun A hh=>Walks.tuple hh it l ne items,fun i h hs=>by obtain ⟨⟨o,e1,e2,e3⟩,_⟩:=hs; exact ⟨o,_,e1,e2,e3⟩,by decide⟩
theorem wk_rev (it l:Addr) (ne:l ≠ it) (items:Array Value):Wk C it [l] items.size (fun i v=>items[items.size - 1 - i]? = some v) (fun i h=>i <= items.size /\ h.IsRevIter it l ((items.size:Int) - 1 - (i:Int)) /\ h.IsList l items) "list_reverseiterator" :=
 ⟨fun A hh=>Walks.listRev hh it l ne items,fun i h hs=>by obtain ⟨_,⟨o,e1,e2,e3⟩,_⟩:=hs; exact ⟨o,_,e1,e2,e3⟩,by decide⟩
theorem zvg (it:Addr) (a c:Int) (n:Nat):Wk C it [] n (fun i v=>∃ t,v = .int (a + i * c) t) (fun i h=>IsRangeIter h it (a + (i:Nat) * c) ((n:Int) - (i:Nat)) c) "range_iterator" :=
 ⟨fun A hh=>Walks.range hh it a c n,fun i h hs=>⟨_,_,hs,rfl,rfl⟩,by decide⟩
theorem zvh (it:Addr) (x:Str) (t:Tok):Wk C it [] x.cps.size (SignAt x) (fun i h=>h.IsStrIter it "str_ascii_iterator" x t i) "str_ascii_iterator" :=
 ⟨fun A hh=>Walks.strAscii hh it x t,fun i h hs=>by obtain ⟨o,e1,e2,e3⟩:=hs; exact ⟨o,_,e1,e2,e3⟩,by decide⟩
theorem z1b (it:Addr) (x:Str) (t:Tok):Wk C it [] x.cps.size (SignAt x) (fun i h=>h.IsStrIter it "str_iterator" x t i) "str_iterator" :=
 ⟨fun A hh=>Walks.strWide hh it x t,fun i h hs=>by obtain ⟨o,e1,e2,e3⟩:=hs; exact ⟨o,_,e1,e2,e3⟩,by decide⟩
end Mine
end
section
namespace Mine
open PySem PySem.SeqAt
variable {C:Cx} {A:Around}
theorem mem1 {a b:Addr} (h:a ∈ [b]):a = b:=List.mem_singleton.mp h
theorem znp {it:Addr} {h h':Heap} (k:Heap.ExtBut it h h'):Kept [it] h h':=fun b o hb e=>k b o (fun z=>hb (z ▸ List.mem_singleton.mpr rfl)) e
theorem zx8 {cs:List Cell} {l i:Nat} (e:EndR cs (.cell l i)):∃ xs,cs[l]? = some (.list xs) /\ xs[i]? = none:=by
 cases e with | cell h hx=>exact ⟨_,h,hx⟩
theorem ztz {cs:List Cell} {l i:Nat} (e:EndR cs (.enumc l i)):∃ xs,cs[l]? = some (.list xs) /\ xs[i]? = none:=by
 cases e with | enumc h hx=>exact ⟨_,h,hx⟩
theorem zr8 {cs:List Cell} {l i:Nat} {v:V} {src:Src} (e:NextR cs (.cell l i) v src):∃ xs,cs[l]? = some (.list xs) /\ xs[i]? = some v /\ src = .cell l (i + 1):=by
 cases e with | cell h hx=>exact ⟨_,h,hx,rfl⟩
theorem zpf {cs:List Cell} {l i:Nat} {v:V} {src:Src} (e:NextR cs (.enumc l i) v src):∃ xs x,cs[l]? = some (.list xs) /\ xs[i]? = some x /\ v = .tup [.int (i:Nat),x] /\ src = .enumc l (i + 1):=by
 cases e with | enumc h hx=>exact ⟨_,_,h,hx,rfl,rfl⟩
theorem zik {xs:List V} {vs:List Value} {g:Gh} {i:Nat} (r:VRels g xs vs) (h:xs[i]? = none):vs.toArray[i]? = none:=by
 rw [List.getElem?_toArray,List.getElem?_eq_none_iff,r.length]; exact List.getElem?_eq_none_iff.mp h
theorem zef {vs:List Value} {i:Nat} {v:Value} (h:vs[i]? = some v):vs.toArray[i]? = some v:=List.getElem?_toArray.trans h
inductive LAt (σ:St) (a:Addr) (xs:List V):Prop
 | mk (vs ep) (e:σ.s.heap.get? a = some (listO vs ep)) (r:VRels σ.g xs vs)
theorem zca {σ:St} (H:HRel σ.g σ.s.heap) {l:Nat} {xs:List V} (h:σ.g.cs[l]? = some (.list xs)):LAt σ (σ.g.ρ l) xs:=by
 obtain ⟨vs,ep,q,r,_⟩:=H.ce l _ h
 exact ⟨vs,ep,q,r⟩
structure CellS (it:Addr) (l i:Nat) (σ:St):Prop where
 own:ItOwn [it] σ
 hi:σ.s.heap.IsListIter it (σ.g.ρ l) i
 hl:l < σ.g.cs.length
inductive CellP (it:Addr):Src -> St -> Prop
 | mk (l i σ) (h:CellS it l i σ):CellP it (.cell l i) σ
theorem It.cell (t:Tgt) (it:Addr):It C t.ast it [it] (CellP it) where
 own _ _ h:=by cases h with | mk l i σ h=>exact h.own
 ext _ _ σ' _ h H x no:=by
  cases h with
  | mk l i σ h=>exact .mk l i σ' ⟨h.own.ext x,(x.le.ρ l h.hl).symm ▸ h.hi.at fun o e=>h.own.kept x no it (List.mem_singleton.mpr rfl) o e,Nat.lt_of_lt_of_le h.hl x.le.n⟩
 fin _ _ _ hh h H e:=by
  cases h with
  | mk l i σ h =>
   obtain ⟨xs,hx,hn⟩:=zx8 e
   obtain ⟨vs,ep,q,r⟩:=zca H hx
   exact fun Q E k=>wpAny_pyNext_list_end hh h.hi ⟨_,q,rfl,_,rfl⟩ (zik r hn) fun h' hs=>k h' _ (znp hs)
 nxt A src v src' σ hh h H e:=by
  cases h with
  | mk l i σ h =>
   obtain ⟨xs,hx,hn,rfl⟩:=zr8 e
   obtain ⟨vs,ep,q,r⟩:=zca H hx
   obtain ⟨v',hv,rv⟩:=r.get hn
   refine fun Q E k=>wpAny_pyNext_list_item h.hi ⟨_,q,rfl,_,rfl⟩ (zef hv) fun h' hi' hs=>⟨v',rfl,?_⟩
   obtain ⟨o,e1,e2,e3⟩:=id hi'
   have X:=zm9 (tk:=σ.s.toks) h.own H (znp hs.extBut) fun a ha=>⟨o,mem1 ha ▸ e1⟩
   exact zf2 t (s:={ σ.s with heap:=h' }) e1 e2 e3 (by decide) (k v' (σ.up h' σ.s.toks σ.g) X rfl (.mk l (i + 1) _ ⟨h.own.ext X,hi',h.hl⟩) rv)
 self _ _ _ hh h:=by
  cases h with | mk l i σ h=>exact fun Q E k=>wpAny_pyIter_listiter h.hi k
theorem mem2 {a b c:Addr} (h:a ∈ [b,c]):a = b \/ a = c:=(List.mem_cons.mp h).imp id mem1
theorem zks {t:Tgt} (ht:∃ xs k p,t = .tup xs k p) {e it a:Addr} {i:Nat} {σ:St} {xs:List V} {x:V} {P:St -> Prop} (O:ItOwn [e,it] σ) (H:HRel σ.g σ.s.heap) (he:∃ old,IsEnum σ.s.heap e it i old) (hi:σ.s.heap.IsListIter it a i) (ne:e ≠ it) (hl:LAt σ a xs) (hx:xs[i]? = some x)
  (hP:∀ σ',Ext σ σ' (· ∈ [e,it]) -> (∃ old,IsEnum σ'.s.heap e it ((i + 1:Nat):Int) old) -> σ'.s.heap.IsListIter it a (i + 1) -> σ'.g.ρ = σ.g.ρ -> σ'.g.cs = σ.g.cs -> P σ'):NxtOk C A t.ast e [e,it] P (.tup [.int (i:Nat),x]) σ:=by
 obtain ⟨old,he⟩:=he
 obtain ⟨vs,ep,q,r⟩:=hl
 obtain ⟨v',hv,rv⟩:=r.get hx
 obtain ⟨ts,tk,tp,rfl⟩:=ht
 refine fun Q E k=>wpAny_pyNext_enum_item he hi ⟨_,q,rfl,_,rfl⟩ (zef hv) ne fun h' he' hi' ht' _ hk=>⟨_,rfl,?_⟩
 refine wpAny_letOwnedTupleGo_enum he' fun h'' he'' hs=>?_
 have sz:=get?_size σ.s.heap
 obtain ⟨o,e1,e2,e3⟩:=hi'
 have e1':=hs.extBut _ _ (Ne.symm ne) e1
 have nsz:σ.s.heap.objs.size ≠ e:=fun z=>by rw [z] at sz; rw [he] at sz; cases sz
 have X:=zm8 (tk:=σ.s.toks + 1) (h':=h'') (o:=tupO [.int i σ.s.toks,v'] 0) O H (fun b o hb e=>by
  have hb1:b ≠ _:=fun z=>hb (List.mem_cons.mpr (.inl z))
  exact hs.extBut b o hb1 (hk b o hb1 (fun z=>hb (List.mem_cons.mpr (.inr (List.mem_singleton.mpr z)))) e)) (fun a ha=>(mem2 ha).elim (fun z=>⟨_,z ▸ he''⟩) fun z=>⟨o,z ▸ e1'⟩) (hs.extBut _ _ nsz ht') (fun _ e=>(nomatch e))
 exact k _ _ X rfl (hP _ X ⟨v',he''⟩ ⟨o,e1',e2,e3⟩ rfl rfl) (.tup (vs:=[_,_]) (zal ..) (.cons (.int _ _) (.cons (rv.mono X.le) .nil)) (show 2 <= lim by decide))
theorem znx {e it a:Addr} {i:Nat} {σ:St} {xs:List V} (hh:A.handled = none) (he:∃ old,IsEnum σ.s.heap e it i old) (hi:σ.s.heap.IsListIter it a i) (hl:LAt σ a xs) (hx:xs[i]? = none):FinOk C A e [e,it] σ:=by
 obtain ⟨old,he⟩:=he
 obtain ⟨vs,ep,q,r⟩:=hl
 exact fun Q E k=>wpAny_pyNext_enum_end hh he hi ⟨_,q,rfl,_,rfl⟩ (zik r hx) fun h' hs=>k h' _ fun b o hb e=>hs b o (fun z=>hb (z ▸ List.mem_cons_of_mem _ (List.mem_singleton.mpr rfl))) e
theorem znw {e it a:Addr} {i:Nat} {σ σ':St} {ow:Addr -> Prop} (O:ItOwn [e,it] σ) (x:Ext σ σ' ow) (no:∀ a ∈ [e,it],¬ ow a) (he:∃ old,IsEnum σ.s.heap e it i old) (hi:σ.s.heap.IsListIter it a i):(∃ old,IsEnum σ'.s.heap e it i old) /\ σ'.s.heap.IsListIter it a i:=by
 obtain ⟨o,e1,e2,e3⟩:=hi
 exact ⟨he.imp fun old he=>O.kept x no _ List.mem_cons_self _ he,o,O.kept x no _ (List.mem_cons_of_mem _ (List.mem_singleton.mpr rfl)) _ e1,e2,e3⟩
structure EnumcS (e it:Addr) (l i:Nat) (σ:St):Prop where
 own:ItOwn [e,it] σ
 ne:e ≠ it
 he:∃ old,IsEnum σ.s.heap e it (i:Nat) old
 hi:σ.s.heap.IsListIter it (σ.g.ρ l) i
 hl:l < σ.g.cs.length
inductive EnumcP (e it:Addr):Src -> St -> Prop
 | mk (l i σ) (h:EnumcS e it l i σ):EnumcP e it (.enumc l i) σ
theorem It.enumc {t:Tgt} (ht:∃ xs k p,t = .tup xs k p) (e it:Addr):It C t.ast e [e,it] (EnumcP e it) where
 own _ _ h:=by cases h with | mk l i σ h=>exact h.own
 ext _ _ σ' _ h H x no:=by
  cases h with
  | mk l i σ h =>
   have q:=znw h.own x no h.he h.hi
   exact .mk l i σ' ⟨h.own.ext x,h.ne,q.1,(x.le.ρ l h.hl).symm ▸ q.2,Nat.lt_of_lt_of_le h.hl x.le.n⟩
 fin _ _ _ hh h H q:=by
  cases h with
  | mk l i σ h =>
   obtain ⟨xs,hx,hn⟩:=ztz q
   exact znx hh h.he h.hi (zca H hx) hn
 nxt _ _ _ _ _ hh h H q:=by
  cases h with
  | mk l i σ h =>
   obtain ⟨xs,x,hx,hn,rfl,rfl⟩:=zpf q
   exact zks ht h.own H h.he h.hi h.ne (zca H hx) hn fun σ' X h1 h2 eρ ec=>.mk l (i + 1) σ' ⟨h.own.ext X,h.ne,h1,eρ ▸ h2,ec ▸ h.hl⟩
 self _ _ _ hh h:=by
  cases h with | mk l i σ h=>exact h.he.elim fun old he Q E k=>wpAny_pyIter_enum he k
theorem ztw (xs:List V):∀ k,(enumV xs k).length = xs.length:=by
 induction xs with
 | nil=>intro k; rfl
 | cons x xs ih=>intro k; exact congrArg (· + 1) (ih (k + 1))
theorem ztx {xs:List V}:∀ {k i:Nat} {v:V},(enumV xs k)[i]? = some v -> ∃ x,xs[i]? = some x /\ v = .tup [.int ((k + i:Nat):Int),x]:=by
 induction xs with
 | nil=>exact fun e=>nomatch e
 | cons x xs ih =>
  intro k i v e
  cases i with
  | zero=>cases e; exact ⟨x,rfl,rfl⟩
  | succ i =>
   obtain ⟨y,h1,h2⟩:=ih (k:=k + 1) (i:=i) e
   exact ⟨y,h1,by rw [h2,Nat.add_assoc,Nat.add_comm 1 i]⟩
inductive Frz (g:Gh) (a:Addr) (xs:List V):Prop
 | mk (vs ep) (e:g.hf a = some (listO vs ep)) (r:VRels g xs vs)
theorem zkp {σ:St} (H:HRel σ.g σ.s.heap) {a:Addr} {xs:List V} (h:Frz σ.g a xs):LAt σ a xs:=by cases h with | mk vs ep q r=>exact .mk vs ep (H.fz _ _ q) r
theorem Frz.mono {g g':Gh} {a:Addr} {xs:List V} (h:Frz g a xs) (L:Le g g'):Frz g' a xs:=by cases h with | mk vs ep q r=>exact .mk vs ep (L.hf _ _ q) (vmono r L)
structure EnumS (xs:List V) (e it a:Addr) (i:Nat) (σ:St):Prop where
 own:ItOwn [e,it] σ
 ne:e ≠ it
 fz:Frz σ.g a xs
 he:∃ old,IsEnum σ.s.heap e it (i:Nat) old
 hi:σ.s.heap.IsListIter it a i
theorem zps {xs:List V} {i:Nat} (h:(enumV xs 0)[i]? = none):xs[i]? = none:=by
 rw [List.getElem?_eq_none_iff] at h ⊢
 rw [ztw] at h; exact h
theorem It.enum {t:Tgt} (ht:∃ xs k p,t = .tup xs k p) (xs:List V) (e it a:Addr):It C t.ast e [e,it] (From (enumV xs 0) (EnumS xs e it a)) where
 own _ _ h:=by cases h with | mk i σ h=>exact h.own
 ext _ _ σ' _ h H x no:=by
  cases h with
  | mk i σ h =>
   have q:=znw h.own x no h.he h.hi
   exact .mk i σ' ⟨h.own.ext x,h.ne,h.fz.mono x.le,q.1,q.2⟩
 fin _ _ _ hh h H q:=by
  cases h with | mk i σ h=>exact znx hh h.he h.hi (zkp H h.fz) (zps (zny q))
 nxt _ _ _ _ _ hh h H q:=by
  cases h with
  | mk i σ h =>
   obtain ⟨h2,rfl⟩:=zkh q
   obtain ⟨x,hx,rfl⟩:=ztx h2
   rw [Nat.zero_add]
   exact zks ht h.own H h.he h.hi h.ne (zkp H h.fz) hx fun σ' X h1 h2 eρ ec=>.mk (i + 1) σ' ⟨h.own.ext X,h.ne,h.fz.mono X.le,h1,h2⟩
 self _ _ _ hh h:=by
  cases h with | mk i σ h=>exact h.he.elim fun old he Q E k=>wpAny_pyIter_enum he k
theorem zx7 {cs:List Cell} {l i:Nat} {ys:List V} (e:EndR cs (.zipc l i ys)):∃ xs,cs[l]? = some (.list xs) /\ (xs[i]? = none \/ ys = []):=by
 cases e with | zipc h hx=>exact ⟨_,h,hx⟩
theorem zr7 {cs:List Cell} {l i:Nat} {ys:List V} {v:V} {src:Src} (e:NextR cs (.zipc l i ys) v src):∃ xs x y r,cs[l]? = some (.list xs) /\ xs[i]? = some x /\ ys = y :: r /\ v = .tup [x,y] /\ src = .zipc l (i + 1) r:=by
 cases e with | zipc h hx=>exact ⟨_,_,_,_,h,hx,rfl,rfl,rfl⟩
structure ZipS (ys:List V) (z TI TO i1 i2 l1 l2:Addr) (l i:Nat) (σ:St):Prop where
 own:ItOwn [z,TI,TO,i1,i2] σ
 hl:l < σ.g.cs.length
 eρ:σ.g.ρ l = l1
 fz2:Frz σ.g l2 ys
 hz:IsZip σ.s.heap z TI TO .none
 hTI:IsPair σ.s.heap TI (.ref i1) (.ref i2)
 hTO:∃ a b,IsPair σ.s.heap TO a b
 h1:σ.s.heap.IsListIter i1 l1 i
 h2:σ.s.heap.IsListIter i2 l2 i
inductive ZipP (ys:List V) (z TI TO i1 i2 l1 l2:Addr):Src -> St -> Prop
 | mk (l i σ) (h:ZipS ys z TI TO i1 i2 l1 l2 l i σ):ZipP ys z TI TO i1 i2 l1 l2 (.zipc l i (ys.drop i)) σ
section
variable {a b c d e f:Addr}
theorem in1:b ∈ [b,c,d,e,f]:=List.mem_cons_self
theorem in2:c ∈ [b,c,d,e,f]:=List.mem_cons_of_mem _ List.mem_cons_self
theorem in3:d ∈ [b,c,d,e,f]:=List.mem_cons_of_mem _ (List.mem_cons_of_mem _ List.mem_cons_self)
theorem in4:e ∈ [b,c,d,e,f]:=List.mem_cons_of_mem _ (List.mem_cons_of_mem _ (List.mem_cons_of_mem _ List.mem_cons_self))
theorem in5:f ∈ [b,c,d,e,f]:=List.mem_cons_of_mem _ (List.mem_cons_of_mem _ (List.mem_cons_of_mem _ (List.mem_cons_of_mem _ List.mem_cons_self)))
theorem not5 (h:a ∉ [b,c,d,e,f]):a ≠ b /\ a ≠ d /\ a ≠ e /\ a ≠ f:=⟨fun z=>h (z ▸ in1),fun z=>h (z ▸ in3),fun z=>h (z ▸ in4),fun z=>h (z ▸ in5)⟩
end
theorem live5 {b c d e f:Addr} {P:Addr -> Prop} (h1:P b) (h2:P c) (h3:P d) (h4:P e) (h5:P f) (a:Addr) (h:a ∈ [b,c,d,e,f]):P a :=
 (List.mem_cons.mp h).elim (fun z=>z ▸ h1) fun h=>(List.mem_cons.mp h).elim (fun z=>z ▸ h2) fun h=>(List.mem_cons.mp h).elim (fun z=>z ▸ h3) fun h=>(mem2 h).elim (fun z=>z ▸ h4) fun z=>z ▸ h5
theorem It.zip {t:Tgt} (ht:∃ xs k p,t = .tup xs k p) (ys:List V) {z TI TO i1 i2 l1 l2:Addr} (D:ZipApart z TI TO i1 i2 l1 l2):It C t.ast z [z,TI,TO,i1,i2] (ZipP ys z TI TO i1 i2 l1 l2) where
 own _ _ h:=by cases h with | mk l i σ h=>exact h.own
 ext _ _ σ' _ h H x no:=by
  cases h with
  | mk l i σ h =>
   have k:=h.own.kept x no
   exact .mk l i σ' ⟨h.own.ext x,Nat.lt_of_lt_of_le h.hl x.le.n,(x.le.ρ l h.hl).trans h.eρ,h.fz2.mono x.le,k _ in1 _ h.hz,k _ in2 _ h.hTI,h.hTO.imp fun a q=>q.imp fun b q=>k _ in3 _ q,h.h1.at fun o e=>k _ in4 o e,h.h2.at fun o e=>k _ in5 o e⟩
 fin _ _ _ hh h H q:=by
  cases h with
  | mk l i σ h =>
   obtain ⟨xs,hx,q⟩:=zx7 q
   obtain ⟨a,b,hTO⟩:=h.hTO
   obtain ⟨vs,ep,g1,r1⟩:=zca H hx
   rw [h.eρ] at g1
   obtain ⟨us,eq,g2,r2⟩:=h.fz2
   exact fun Q E k=>wpAny_pyNext_zip_end hh D h.hz h.hTI hTO h.h1 h.h2 ⟨_,g1,rfl,_,rfl⟩ ⟨_,H.fz _ _ g2,rfl,_,rfl⟩ (q.imp (zik r1) fun q=>zik r2 (List.getElem?_eq_none_iff.mpr (List.drop_eq_nil_iff.mp q))) fun h' hs=>k h' _ fun b o hb e=>hs b o (not5 hb).1 (not5 hb).2.1 (not5 hb).2.2.1 (not5 hb).2.2.2 e
 nxt A src v src' σ hh h H q:=by
  cases h with
  | mk l i σ h =>
   obtain ⟨xs,x,y,r,hx0,hx,hd,rfl,rfl⟩:=zr7 q
   have hy:ys[i]? = some y:=by
    have:(ys.drop i)[0]? = some y:=by rw [hd]; rfl
    rw [List.getElem?_drop] at this
    exact this
   have hr:r = ys.drop (i + 1):=by rw [<- List.drop_drop,hd]; rfl
   subst hr
   obtain ⟨a,b,hTO⟩:=h.hTO
   obtain ⟨vs,ep,g1,r1⟩:=zca H hx0
   rw [h.eρ] at g1
   obtain ⟨us,eq,g2,r2⟩:=h.fz2
   obtain ⟨x',hx',rx⟩:=r1.get hx
   obtain ⟨y',hy',ry⟩:=r2.get hy
   obtain ⟨ts,tk,tp,rfl⟩:=ht
   refine fun Q E k=>wpAny_pyNext_zip_item D h.hz h.hTI hTO h.h1 h.h2 ⟨_,g1,rfl,_,rfl⟩ ⟨_,H.fz _ _ g2,rfl,_,rfl⟩ (zef hx') (zef hy') fun h' hz' hTO' h1' h2' ht' _ hk=>⟨_,rfl,wpAny_letOwnedTupleGo_zip hz' fun h'' hz'' hs=>?_⟩
   have nsz:σ.s.heap.objs.size ≠ z:=fun q=>by have sz:=get?_size σ.s.heap; rw [q] at sz; cases h.hz.symm.trans sz
   have e1':h''.IsListIter i1 l1 (i + 1):=h1'.at fun o e=>hs.extBut _ _ D.i1z e
   have f1':h''.IsListIter i2 l2 (i + 1):=h2'.at fun o e=>hs.extBut _ _ D.i2z e
   have hTI':IsPair h'' TI (.ref i1) (.ref i2):=hs.extBut _ _ D.TIz (hk _ _ D.TIz D.TITO D.TIi1 D.TIi2 h.hTI)
   have hTO'':IsPair h'' TO x' y':=hs.extBut _ _ D.TOz hTO'
   have X:=zm8 (tk:=σ.s.toks) (h':=h'') (o:=tupO [x',y'] 0) h.own H (fun b o hb e=>hs.extBut b o (not5 hb).1 (hk b o (not5 hb).1 (not5 hb).2.1 (not5 hb).2.2.1 (not5 hb).2.2.2 e))
    (live5 ⟨_,hz''⟩ ⟨_,hTI'⟩ ⟨_,hTO''⟩ (e1'.imp fun _ h=>h.1) (f1'.imp fun _ h=>h.1)) (hs.extBut _ _ nsz ht') (fun _ e=>(nomatch e))
   exact k _ _ X rfl (.mk l (i + 1) _ ⟨h.own.ext X,h.hl,h.eρ,h.fz2.mono X.le,hz'',hTI',⟨x',y',hTO''⟩,e1',f1'⟩) (.tup (vs:=[_,_]) (zal ..) (.cons (rx.mono X.le) (.cons (ry.mono X.le) .nil)) (show 2 <= lim by decide))
 self _ _ _ hh h:=by
  cases h with | mk l i σ h=>exact fun Q E k=>wpAny_pyIter_zip h.hz k
end Mine
end
section
namespace Mine
open PySem PySem.SeqAt
variable {C:Cx} {A:Around} {σ:St}
noncomputable abbrev KS:=Src -> List Cell -> Prop
noncomputable def ItRuns (C:Cx) (A:Around) (t:Tgt) (σ:St) (tr:(Value -> Shared -> Prop) -> (Value -> Shared -> Prop) -> Prop) (K:KS):Prop :=
 ∀ (Q:Value -> Shared -> Prop) (E:Value -> Shared -> Prop),(∀ src it os P σ',Ext σ σ' noOwn -> It C t.ast it os P -> P src σ' -> (∀ a ∈ os,σ.s.heap.get? a = none) -> K src σ'.g.cs -> Q (.ref it) σ'.s) -> tr Q E
theorem zie {os:List Addr} {h':Heap} {t:Nat} (H:HRel σ.g σ.s.heap) (fr:∀ a ∈ os,σ.s.heap.get? a = none) (lv:∀ a ∈ os,∃ o,h'.get? a = some o):ItOwn os (σ.up h' t σ.g) :=
 fun a ha=>⟨lv a ha,H.hf_none (fr a ha),fun l hl=>H.ne hl (fr a ha),H.nfl (fr a ha)⟩
theorem zf5 {t:Tgt} {tr:(Value -> Shared -> Prop) -> (Value -> Shared -> Prop) -> Prop} {K:KS} {src:Src} {P:Src -> St -> Prop} (o:Obj) (H:HRel σ.g σ.s.heap) (hf:o.isFreed = false) (I:It C t.ast σ.s.heap.objs.size [σ.s.heap.objs.size] P) (q:K src σ.g.cs)
  (p:(σ.s.heap.push o).get? σ.s.heap.objs.size = some o -> ∀ tk,ItOwn [σ.s.heap.objs.size] (σ.up (σ.s.heap.push o) tk σ.g) -> P src (σ.up (σ.s.heap.push o) tk σ.g))
  (h:∀ (Q:Value -> Shared -> Prop) (E:Value -> Shared -> Prop),(∀ tk,Q (.ref σ.s.heap.objs.size) { σ.s with heap:=σ.s.heap.push o,toks:=tk }) -> tr Q E):ItRuns C A t σ tr K:=fun Q E k =>
 h Q E fun tk =>
  have e:=Heap.get?_push_size (o:=o) σ.s.heap hf
  have fr:∀ a ∈ [σ.s.heap.objs.size],σ.s.heap.get? a = none:=fun a ha=>mem1 ha ▸ get?_size _
  k src _ _ P (σ.up _ tk σ.g) (Ext.keeps H fun a o e=>Heap.get?_push_of_some _ e) I (p e tk (zie H fr fun a ha=>⟨o,mem1 ha ▸ e⟩)) fr q
theorem zic (c:Int) (n:Nat):∀ a,(rangeFrom c n a).length = n:=by
 induction n with
 | zero=>intro a; rfl
 | succ n ih=>intro a; exact congrArg (· + 1) (ih (a + c))
theorem zid (c:Int) (n:Nat):∀ {a:Int} {i:Nat} {v:V},(rangeFrom c n a)[i]? = some v -> v = .int (a + i * c):=by
 induction n with
 | zero=>exact fun e=>nomatch e
 | succ n ih =>
  intro a i v e
  cases i with
  | zero=>cases e; rw [Int.natCast_zero,Int.zero_mul,Int.add_zero]
  | succ i =>
   rw [ih (a:=a + c) (i:=i) e,Int.natCast_add,Int.natCast_one,Int.add_mul,Int.one_mul,Int.add_assoc,Int.add_comm c]
theorem ze6 (a b c:Int):0 <= Builtin.Range.rangeSize a b c:=by
 unfold Builtin.Range.rangeSize
 split
 ·split
  ·exact Int.add_nonneg (Int.ediv_nonneg (by lia) (Int.le_of_lt ‹_›)) (by decide)
  ·exact Int.le_refl _
 ·split
  ·exact Int.add_nonneg (Int.ediv_nonneg (by lia) (by lia)) (by decide)
  ·exact Int.le_refl _
noncomputable abbrev iterOf (C:Cx) (A:Around) (v:Value) (s:Shared):(Value -> Shared -> Prop) -> (Value -> Shared -> Prop) -> Prop:=fun Q E=>wpAny C.M A (pyIter v) Q E s
theorem zlz {xs:List V} {vs:List Value} (r:VRels σ.g xs vs) (i:Nat) (v:Value) (x:V) (hv:vs.toArray[i]? = some v) (hx:xs[i]? = some x):VRel σ.g x v:=by
 obtain ⟨v',h,rv⟩:=r.get hx
 cases hv.symm.trans (zef h)
 exact rv
theorem from0 {xs:List V} {P:Nat -> St -> Prop} (h:P 0 σ):From xs P (.items xs) σ:=.mk (xs:=xs) 0 σ h
theorem zf0 {a b:Addr} {h:Heap} {o:Obj} (e:h.get? a = some o) (n:h.get? b = none):a ≠ b:=fun q=>by rw [q,n] at e; cases e
theorem src_ok {v:V} {v':Value} {src:Src} {K:KS} (t:Tgt) (e:SrcR σ.g.cs v src) (H:HRel σ.g σ.s.heap) (r:VRel σ.g v v') (q:K src σ.g.cs):ItRuns C A t σ (iterOf C A v' σ.s) K:=by
 have sz:=get?_size σ.s.heap
 cases e with
 | tup xs =>
  obtain ⟨a,vs,ep,rfl,e,r,hl⟩:=r.inv
  have W:=It.ofW (C:=C) t r.length (zvf σ.s.heap.objs.size a (zf0 (H.fz _ _ e) sz) vs.toArray)
  exact zf5 { cls:=.type "tuple_iterator",data:=.fields #[.ref a,.int 0 0] } H rfl W q (fun e1 tk O=>from0 ⟨O,fun b hb=>⟨_,mem1 hb ▸ e⟩,zlz r,Nat.zero_le _,⟨_,e1,rfl,rfl⟩,⟨_,Heap.get?_push_of_some _ (H.fz _ _ e),rfl,_,rfl⟩⟩)
   fun Q E k=>wpAny_pyIter_tuple ⟨_,H.fz _ _ e,rfl,_,rfl⟩ (k _)
 | lst xs =>
  obtain ⟨a,vs,ep,rfl,e,r,hl⟩:=r.inv
  have W:=It.ofW (C:=C) t r.length (z1c σ.s.heap.objs.size a (zf0 (H.fz _ _ e) sz) vs.toArray)
  exact zf5 { cls:=.type "list_iterator",data:=.fields #[.ref a,.int 0 0] } H rfl W q (fun e1 tk O=>from0 ⟨O,fun b hb=>⟨_,mem1 hb ▸ e⟩,zlz r,Nat.zero_le _,⟨_,e1,rfl,rfl⟩,⟨_,Heap.get?_push_of_some _ (H.fz _ _ e),rfl,_,rfl⟩⟩)
   fun Q E k=>wpAny_pyIter_list ⟨_,H.fz _ _ e,rfl,_,rfl⟩ (k _)
 | @str x ha =>
  obtain ⟨u,rfl,hx⟩:=r.inv
  have hlen:(charsV x).length = x.cps.size:=List.length_map _
  have W:=It.ofW (C:=C) t hlen.symm (zvh σ.s.heap.objs.size x u)
  exact zf5 { cls:=.type "str_ascii_iterator",data:=.fields #[.str x u,.int 0 0] } H rfl W q (fun e1 tk O=>from0 ⟨O,fun b hb=>(nomatch hb),fun i v y hR hy=>by
    obtain ⟨c,tk,h1,rfl⟩:=hR
    unfold charsV at hy
    rw [List.getElem?_map,Array.getElem?_toList,h1] at hy
    cases hy
    exact .str _ _ (show 1 <= lim by decide),Nat.zero_le _,⟨_,e1,rfl,rfl⟩⟩)
   fun Q E k=>wpAny_pyIter_ascii ha (k _)
 | @strW x ha =>
  obtain ⟨u,rfl,hx⟩:=r.inv
  have hlen:(charsV x).length = x.cps.size:=List.length_map _
  have W:=It.ofW (C:=C) t hlen.symm (z1b σ.s.heap.objs.size x u)
  exact zf5 { cls:=.type "str_iterator",data:=.fields #[.str x u,.int 0 0] } H rfl W q (fun e1 tk O=>from0 ⟨O,fun b hb=>(nomatch hb),fun i v y hR hy=>by
    obtain ⟨c,tk,h1,rfl⟩:=hR
    unfold charsV at hy
    rw [List.getElem?_map,Array.getElem?_toList,h1] at hy
    cases hy
    exact .str _ _ (show 1 <= lim by decide),Nat.zero_le _,⟨_,e1,rfl,rfl⟩⟩)
   fun Q E k=>wpAny_pyIter_wide ha (k _)
 | @rng a b c hc =>
  obtain ⟨r,t1,t2,t3,rfl,e⟩:=r.inv
  have hlen:=zic c (Builtin.Range.rangeSize a b c).toNat a
  have W:=It.ofW (C:=C) t (xs:=rangeV a b c) hlen.symm (zvg σ.s.heap.objs.size a c (Builtin.Range.rangeSize a b c).toNat)
  exact zf5 { cls:=.type "range_iterator",data:=.fields #[rawInt a,rawInt (Builtin.Range.rangeSize a b c),rawInt c] } H rfl W q (fun e1 tk O=>from0 ⟨O,fun b hb=>(nomatch hb),fun i v y hR hy=>by
    obtain ⟨tk,rfl⟩:=hR
    rw [zid c _ hy]
    exact .int _ _,Nat.zero_le _,by
    show IsRangeIter _ _ (a + ((0:Nat):Int) * c) (((Builtin.Range.rangeSize a b c).toNat:Int) - ((0:Nat):Int)) c
    rw [Int.toNat_of_nonneg (ze6 a b c),Int.natCast_zero,Int.zero_mul,Int.add_zero,Int.sub_zero]
    exact e1⟩)
   fun Q E k=>wpAny_pyIter_range (H.fz _ _ e) hc.1 (k _)
 | @cell l xs hx =>
  obtain ⟨rfl,hl⟩:=r.inv
  obtain ⟨vs,ep,e,r⟩:=zca H hx
  exact zf5 { cls:=.type "list_iterator",data:=.fields #[.ref (σ.g.ρ l),.int 0 0] } H rfl (It.cell t _) q (fun e1 tk O=>.mk l 0 _ ⟨O,⟨_,e1,rfl,rfl⟩,hl⟩)
   fun Q E k=>wpAny_pyIter_list ⟨_,e,rfl,_,rfl⟩ (k _)
noncomputable abbrev callIter (C:Cx) (A:Around) (f:String) (vs:List Value) (s:Shared):(Value -> Shared -> Prop) -> (Value -> Shared -> Prop) -> Prop:=fun Q E=>wpAny C.M A (call (.type f) vs) (fun x s₁=>wpAny C.M A (pyIter x) Q E s₁) E s
theorem z35 {v:V} {v':Value} {src:Src} {K:KS} {t:Tgt} (ht:∃ xs k p,t = .tup xs k p) (e:EnumR σ.g.cs v src) (H:HRel σ.g σ.s.heap) (r:VRel σ.g v v') (q:K src σ.g.cs):ItRuns C A t σ (callIter C A "enumerate" [v'] σ.s) K:=by
 have fr:∀ a ∈ [σ.s.heap.objs.size + 1,σ.s.heap.objs.size],σ.s.heap.get? a = none:=fun a ha=>get?_ge ((mem2 ha).elim (fun z=>z ▸ Nat.le_succ _) fun z=>z ▸ Nat.le_refl _)
 have lv:∀ {h':Heap} {l:Addr} {i:Nat},IsEnum h' (σ.s.heap.objs.size + 1) σ.s.heap.objs.size 0 .none -> h'.IsListIter σ.s.heap.objs.size l i -> ∀ a ∈ [σ.s.heap.objs.size + 1,σ.s.heap.objs.size],∃ o,h'.get? a = some o:=fun hE hI a ha=>(mem2 ha).elim (fun z=>⟨_,z ▸ hE⟩) fun z=>z ▸ hI.imp fun _ h=>h.1
 cases e with
 | lst xs =>
  obtain ⟨a,vs,ep,rfl,e,r,hl⟩:=r.inv
  exact fun Q E k=>call_enumerate_list ⟨_,H.fz _ _ e,rfl,_,rfl⟩ fun h' hE hI hsz hk=>wpAny_pyIter_enum hE
   (k _ _ _ _ (σ.up h' σ.s.toks σ.g) (Ext.keeps H hk) (It.enum ht xs _ _ a) (from0 (P:=EnumS xs _ _ a) ⟨zie H fr (lv hE hI),Nat.succ_ne_self _,.mk vs ep e r,⟨_,hE⟩,hI⟩) fr q)
 | @cell l xs hx =>
  obtain ⟨rfl,hl⟩:=r.inv
  obtain ⟨vs,ep,e,r⟩:=zca H hx
  exact fun Q E k=>call_enumerate_list ⟨_,e,rfl,_,rfl⟩ fun h' hE hI hsz hk=>wpAny_pyIter_enum hE
   (k _ _ _ _ (σ.up h' σ.s.toks σ.g) (Ext.keeps H hk) (It.enumc ht _ _) (.mk l 0 _ ⟨zie H fr (lv hE hI),Nat.succ_ne_self _,⟨_,hE⟩,hI,hl⟩) fr q)
theorem zip_ok {l:Nat} {xs ys:List V} {v' u':Value} {K:KS} {t:Tgt} (ht:∃ xs k p,t = .tup xs k p) (H:HRel σ.g σ.s.heap) (hx:σ.g.cs[l]? = some (.list xs)) (r:VRel σ.g (.ref l) v') (r2:VRel σ.g (.lst ys) u') (q:K (.zipc l 0 ys) σ.g.cs):ItRuns C A t σ (callIter C A "zip" [v',u'] σ.s) K:=by
 obtain ⟨rfl,hl⟩:=r.inv
 obtain ⟨vs,ep,e1,r1⟩:=zca H hx
 obtain ⟨l2,us,eq,rfl,e2,r2,_⟩:=r2.inv
 have D:=PySem.W.ktu_apart σ.s.heap.objs.size _ _ (Heap.lt_size e1) (Heap.lt_size (H.fz _ _ e2))
 have fr:∀ a ∈ [σ.s.heap.objs.size + 4,σ.s.heap.objs.size + 2,σ.s.heap.objs.size + 3,σ.s.heap.objs.size,σ.s.heap.objs.size + 1],σ.s.heap.get? a = none:=fun a ha =>
  get?_ge (live5 (P:=fun a=>σ.s.heap.objs.size <= a) (Nat.le_add_right _ _) (Nat.le_add_right _ _) (Nat.le_add_right _ _) (Nat.le_refl _) (Nat.le_add_right _ _) a ha)
 exact fun Q E k=>call_zip_2 ⟨_,e1,rfl,_,rfl⟩ ⟨_,H.fz _ _ e2,rfl,_,rfl⟩ fun h' hz hTI hTO hi1 hi2 hsz hk=>wpAny_pyIter_zip hz
  (k _ _ _ _ (σ.up h' σ.s.toks σ.g) (Ext.keeps H hk) (It.zip ht ys D) (.mk (ys:=ys) l 0 _ ⟨zie H fr (live5 ⟨_,hz⟩ ⟨_,hTI⟩ ⟨_,hTO⟩ (hi1.imp fun _ h=>h.1) (hi2.imp fun _ h=>h.1)),hl,rfl,.mk us eq e2 r2,hz,hTI,⟨_,_,hTO⟩,hi1,hi2⟩) fr q)
theorem rev_ok {xs:List V} {v':Value} {K:KS} (t:Tgt) (H:HRel σ.g σ.s.heap) (r:VRel σ.g (.lst xs) v') (q:K (.items xs.reverse) σ.g.cs):ItRuns C A t σ (callIter C A "reversed" [v'] σ.s) K:=by
 obtain ⟨a,vs,ep,rfl,e,r,hl⟩:=r.inv
 have sz:=get?_size σ.s.heap
 have W:=It.ofW (C:=C) t (xs:=xs.reverse) (r.length.trans List.length_reverse.symm) (wk_rev σ.s.heap.objs.size a (zf0 (H.fz _ _ e) sz) vs.toArray)
 refine zf5 (revObj a ((vs.toArray.size:Int) - 1)) H rfl W q (fun e1 tk O=>from0 ⟨O,fun b hb=>⟨_,mem1 hb ▸ e⟩,fun i v x hv hx=>?_,Nat.zero_le _,Nat.zero_le _,?_,⟨_,Heap.get?_push_of_some _ (H.fz _ _ e),rfl,_,rfl⟩⟩)
  fun Q E k=>call_reversed_list ⟨_,H.fz _ _ e,rfl,_,rfl⟩ (wpAny_pyIter_revIter ⟨_,Heap.get?_push_size _ rfl,rfl,rfl⟩ (k _))
 ·have hi:=zaa hx
  rw [List.length_reverse] at hi
  rw [List.getElem?_reverse hi,<- r.length] at hx
  exact zlz r _ v x hv hx
 ·exact ⟨_,e1,rfl,by rw [Int.natCast_zero,Int.sub_zero]; rfl⟩
end Mine
end
section
namespace Mine
open PySem PySem.SeqAt
noncomputable def isOwnB (sc:Scope) (x:Str):Bool:=match sc.names.lookup x with
 | some .local=>true
 | some .cell=>true
 | _=>false
theorem zxf {env:Env} {x:Str} (h:isOwnB env.scope x = true):isL env x:=by
 unfold isOwnB at h
 have e:env.kindOf x = env.scope.names.lookup x:=rfl
 unfold isL
 rw [e]
 cases q:env.scope.names.lookup x with
 | none=>rw [q] at h; cases h
 | some k=>rw [q] at h; cases k <;> first | exact .inl rfl | exact .inr rfl | cases h
noncomputable def slotOk (ns:List Str) (x:Str) (i:Nat):Bool:=ns.idxOf x == i && Nat.blt i ns.length
noncomputable def tgt1 (sc:Scope) (ns:List Str) (x:Str) (i:Nat):Bool:=isOwnB sc x && slotOk ns x i
noncomputable def Tgt.ok (sc:Scope) (ns:List Str) (t:Tgt):Bool:=Tgt.rec (fun x i _=>tgt1 sc ns x i) (fun xs _ _=>xs.all fun y=>tgt1 sc ns y.1 y.2.1) t
noncomputable def binds (xs:List (Str × Nat × Pos)):List V -> Slots -> Option Slots :=
 List.rec (fun vs sl=>List.rec (some sl) (fun _ _ _=>none) vs) (fun x _ ih vs sl=>List.rec none (fun v vs _=>ih vs (sl.set x.2.1 (some v))) vs) xs
noncomputable def itemsOf (v:V):Option (List V):=V.rec (motive_1:=fun _=>Option (List V)) (motive_2:=fun _=>Unit) none (fun _=>none) (fun _=>none) (fun _=>none) (fun _=>none) (fun _=>none) (fun _=>none) (fun _=>none) (fun xs _=>some xs) (fun xs _=>some xs) (fun _ _ _=>none) (fun _ _ _=>none) (fun _ _ _=>none) () (fun _ _ _ _=>()) v
noncomputable def Tgt.bind (t:Tgt) (v:V) (sl:Slots):Option Slots:=Tgt.rec (fun _ i _=>some (sl.set i (some v))) (fun xs _ _=>Option.rec none (fun vs=>binds xs vs sl) (itemsOf v)) t
noncomputable def Tgt.has (t:Tgt) (x:Str):Prop:=Tgt.rec (fun y _ _=>x = y) (fun xs _ _=>∃ y ∈ xs,y.1 = x) t
variable {C:Cx} {Φ:Fm} {σ:St} {ns:List Str}
noncomputable def BindsOk (C:Cx) (Φ:Fm) (L:Str -> Option V) (ow:Addr -> Prop) (σ:St) (tr:Sem Unit):Prop :=
 ∀ (Q:Unit -> Shared -> Prop) (E:Value -> Shared -> Prop),(∀ σ',Ext σ σ' ow -> σ'.g.cs = σ.g.cs -> Std C Φ L σ' -> Q () σ'.s) -> wpAny C.M Φ.A tr Q E σ.s
theorem zli {env:Env} {x:Str} {i:Nat} (h:tgt1 env.scope ns x i = true):isL env x /\ ns.idxOf x = i /\ i < ns.length:=by
 unfold tgt1 slotOk at h
 rw [Bool.and_eq_true,Bool.and_eq_true] at h
 exact ⟨zxf h.1,eq_of_beq h.2.1,Nat.blt_eq.mp h.2.2⟩
theorem store1 {sl:Slots} {x:Str} {i:Nat} {v:V} {v':Value} {ow:Addr -> Prop} (S:Std C Φ (look ns sl) σ) (h:tgt1 Φ.env.scope ns x i = true) (r:VRel σ.g v v') (o1:ow Φ.env.locals) (o2:∀ c,Φ.env.kindOf x = some .cell -> Φ.env.cells.lookup x = some c -> ow c) :
  BindsOk C Φ (look ns (sl.set i (some v))) ow σ (storeName Φ.env x v'):=fun Q E k =>
 zvs S (zli h).1 (fun y u e=>zxa (zli h).2.1 (zli h).2.2 e) r o1 o2 fun σ' X S' c=>k σ' X c S'
theorem zy1 {ow:Addr -> Prop} (o1:ow Φ.env.locals) (xs:List (Str × Nat × Pos)):∀ {vs:List V} {vs':List Value} {sl sl':Slots} {σ:St},(∀ y ∈ xs,∀ c,Φ.env.kindOf y.1 = some .cell -> Φ.env.cells.lookup y.1 = some c -> ow c) -> Std C Φ (look ns sl) σ -> xs.all (fun y=>tgt1 Φ.env.scope ns y.1 y.2.1) = true ->
  binds xs vs sl = some sl' -> VRels σ.g vs vs' -> BindsOk C Φ (look ns sl') ow σ (assignInOrder ((assignEach (xs.map fun y=>.Name y.1 y.2.2) Φ.env).map (·.2)) vs'):=by
 induction xs with
 | nil =>
  intro vs vs' sl sl' σ _ S _ e r Q E k
  cases vs with
  | nil=>cases r.nil_of; cases e; exact wpAny_pure (k σ (Ext.refl S.H _) rfl S)
  | cons=>cases e
 | cons y xs ih =>
  intro vs vs' sl sl' σ o2 S h e r Q E k
  rw [List.all_cons,Bool.and_eq_true] at h
  cases vs with
  | nil=>cases e
  | cons v vs =>
   obtain ⟨v',r',rfl,rv,rr⟩:=r.cons_of
   show wpAny _ _ (assignInOrder (assign (.Name y.1 y.2.2) Φ.env :: (assignEach (xs.map fun y=>.Name y.1 y.2.2) Φ.env).map (·.2)) (v' :: r')) _ _ _
   unfold assignInOrder
   refine wpAny_bind (wpAny_holding (wpAny_assign_Name (store1 S h.1 rv o1 (o2 y List.mem_cons_self) _ _ fun σ1 X1 c1 S1=>?_)))
   exact ih (fun z hz=>o2 z (List.mem_cons_of_mem _ hz)) S1 h.2 e (vmono rr X1.le) _ _ fun σ2 X2 c2 S2=>k σ2 (X1.trans X2) (c2.trans c1) S2
theorem zus (xs:List (Str × Nat × Pos)):∀ {vs:List V} {sl sl':Slots},binds xs vs sl = some sl' -> vs.length = xs.length:=by
 induction xs with
 | nil=>intro vs sl sl' e; cases vs with | nil=>rfl | cons=>cases e
 | cons y xs ih=>intro vs sl sl' e; cases vs with | nil=>cases e | cons v vs=>exact congrArg (· + 1) (ih e)
theorem zn0 (xs:List (Str × Nat × Pos)) (env:Env):(assignEach (xs.map fun y=>.Name y.1 y.2.2) env).length = xs.length /\ (assignEach (xs.map fun y=>.Name y.1 y.2.2) env).findIdx? (·.1) = none:=by
 induction xs with
 | nil=>exact ⟨rfl,rfl⟩
 | cons y xs ih =>
  refine ⟨congrArg (· + 1) ih.1,?_⟩
  rw [List.findIdx?_eq_none_iff] at ih ⊢
  intro t ht
  exact (List.mem_cons.mp ht).elim (fun z=>by rw [z]) (ih.2 t)
theorem zjo {v:V} {v':Value} {vs:List V} {Q:List Value -> Shared -> Prop} {E:Value -> Shared -> Prop} (hh:Φ.A.handled = none) (H:HRel σ.g σ.s.heap) (e:itemsOf v = some vs) (r:VRel σ.g v v') (k:∀ its,VRels σ.g vs its -> ∀ h',Heap.ExtBut σ.s.heap.objs.size σ.s.heap h' -> Q its { σ.s with heap:=h' }) :
  wpAny C.M Φ.A (unpackItems v' vs.length none) Q E σ.s:=by
 cases v with
 | tup xs=>cases e; obtain ⟨a,us,ep,rfl,q,r,_⟩:=r.inv; rw [show vs.length = us.toArray.size from r.length.symm]; exact wpAny_unpackItems_tuple (items:=us.toArray) hh ⟨_,H.fz _ _ q,rfl,_,rfl⟩ fun h' hx=>k us r h' hx
 | lst xs=>cases e; obtain ⟨a,us,ep,rfl,q,r,_⟩:=r.inv; rw [show vs.length = us.toArray.size from r.length.symm]; exact PySem.W.kun_itemsOf (items:=us.toArray) hh ⟨_,H.fz _ _ q,rfl,_,rfl⟩ fun h' hx=>k us r h' hx
 | _=>cases e
theorem z1p (xs:List (Str × Nat × Pos)) (k:Nat) (p:Pos):(Tgt.tup xs k p).ast = .Tuple (xs.map fun y=>.Name y.1 y.2.2) k p:=rfl
theorem zp5 (es:List Expr) (k:Nat) (p:Pos) (env:Env) (v:Value):assign (.Tuple es k p) env v = (standAt p >>= fun _=>unpack v (assignEach es env)):=rfl
theorem zi4 {t:Tgt} {v:V} {v':Value} {sl sl':Slots} {ow:Addr -> Prop} (o1:ow Φ.env.locals) (o2:∀ x,t.has x -> ∀ c,Φ.env.kindOf x = some .cell -> Φ.env.cells.lookup x = some c -> ow c) (S:Std C Φ (look ns sl) σ) (h:t.ok Φ.env.scope ns = true)
  (e:t.bind v sl = some sl') (r:VRel σ.g v v'):BindsOk C Φ (look ns sl') ow σ (assign t.ast Φ.env v'):=by
 cases t with
 | nm x i p=>cases e; exact fun Q E k=>wpAny_assign_Name (store1 S h r o1 (o2 x rfl) Q E k)
 | tup xs kk p =>
  intro Q E k
  have e':Option.rec none (fun vs=>binds xs vs sl) (itemsOf v) = some sl':=e
  cases q:itemsOf v with
  | none=>rw [q] at e'; cases e'
  | some vs =>
   rw [q] at e'
   have l1:=zus xs e'
   rw [z1p,zp5]
   refine wpAny_bind (wpAny_standAt ?_)
   unfold unpack
   rw [(zn0 xs Φ.env).2,(zn0 xs Φ.env).1,<- l1]
   refine wpAny_bind (wpAny_holding ?_)
   refine zjo (C:=C) (Φ:=Φ) (σ:=σ) S.O.hh S.H q r fun its rr h' hx=>?_
   have X:Ext σ (σ.up h' σ.s.toks σ.g) noOwn:=Ext.keeps S.H fun a o e=>hx a o (fun z=>absurd (Heap.lt_size e) (by rw [z]; exact Nat.lt_irrefl _)) e
   exact zy1 o1 xs (fun y hy=>o2 y.1 ⟨y,hy,rfl⟩) (S.ext X) h e' rr _ _ fun σ2 X2 c2 S2=>k σ2 ((X.mono fun _ z=>z.elim).trans X2) c2 S2
end Mine
end
section
namespace Mine
open PySem PySem.SeqAt
noncomputable def isFree (k:NameKind):Bool:=k == .free
noncomputable def clos (env:Env) (names:List (Str × NameKind)):List (Str × Addr) -> List (Str × Addr) :=
 List.rec (fun acc=>acc) (fun p _ ih acc=>ih (if (p.2 == .free) = true then (p.1,(env.cells.lookup p.1).getD 0) :: acc else acc)) names
theorem zd4 {scope:Scope} {env:Env} (h:∀ x ∈ scope.names,x.2 = .free -> ∃ c,env.cells.lookup x.1 = some c):closureFor scope env = pure (clos env scope.names []):=by
 unfold closureFor
 generalize scope.names = names at h
 have key:∀ (acc:List (Str × Addr)),(forIn names acc fun x r=>(do
    let cs:=r
    if x.2 == .free then do
     let a <- cellOf env x.1
     pure (ForInStep.yield ((x.1,a) :: cs))
    else pure (ForInStep.yield cs):Sem (ForInStep (List (Str × Addr))))) = pure (clos env names acc):=by
  induction names with
  | nil=>intro acc; rfl
  | cons x r ih =>
   intro acc
   rw [List.forIn_cons]
   have hr:=ih fun y hy=>h y (List.mem_cons_of_mem _ hy)
   have e:clos env (x :: r) acc = clos env r (if (x.2 == .free) = true then (x.1,(env.cells.lookup x.1).getD 0) :: acc else acc):=rfl
   rw [e]
   by_cases hk:(x.2 == NameKind.free) = true
   ·obtain ⟨c,hc⟩:=h x List.mem_cons_self (eq_of_beq hk)
    have hcell:cellOf env x.1 = pure c:=by unfold cellOf; rw [hc]
    rw [if_pos hk,if_pos hk,hcell,hc]
    exact hr _
   ·rw [if_neg hk,if_neg hk]
    exact hr _
 have:=key []
 first
  | (rw [bind_pure_comp]; exact this)
  | (simpa using this)
theorem zaq {α:Type} (x:Str) (a:α) (l:List (Str × α)):((x,a) :: l).lookup x = some a:=by rw [List.lookup_cons,beq_self_eq_true]
theorem zar {α:Type} {x y:Str} (a:α) (l:List (Str × α)) (h:x ≠ y):((y,a) :: l).lookup x = l.lookup x:=by rw [List.lookup_cons,beq_false_of_ne h]
theorem zgc {env:Env} (names:List (Str × NameKind)):∀ (acc:List (Str × Addr)) (x:Str),(∀ y ∈ names,y.2 = .free -> ∃ c,env.cells.lookup y.1 = some c) ->
  (clos env names acc).lookup x = if (x,NameKind.free) ∈ names then env.cells.lookup x else acc.lookup x:=by
 induction names with
 | nil=>intro acc x h; rw [if_neg List.not_mem_nil]; rfl
 | cons p r ih =>
  intro acc x h
  have e:clos env (p :: r) acc = clos env r (if (p.2 == .free) = true then (p.1,(env.cells.lookup p.1).getD 0) :: acc else acc):=rfl
  rw [e,ih _ x fun y hy=>h y (List.mem_cons_of_mem _ hy)]
  by_cases hm:(x,NameKind.free) ∈ r
  ·rw [if_pos hm,if_pos (List.mem_cons_of_mem _ hm)]
  ·rw [if_neg hm]
   by_cases hx:(x,NameKind.free) = p
   ·subst hx
    obtain ⟨c,hc⟩:=h _ List.mem_cons_self rfl
    rw [if_pos List.mem_cons_self]
    show List.lookup x ((x,(env.cells.lookup x).getD 0) :: acc) = _
    rw [zaq,show env.cells.lookup x = some c from hc]; rfl
   ·rw [if_neg fun q=>(List.mem_cons.mp q).elim hx hm]
    by_cases hk:(p.2 == NameKind.free) = true
    ·rw [if_pos hk,zar]
     exact fun q=>hx (by rw [q,<- eq_of_beq hk])
    ·rw [if_neg hk]
noncomputable abbrev dictObj0:Obj:={ cls:=.type "dict",data:=.dict #[] }
noncomputable abbrev cellObj0:Obj:={ cls:=.type "cell",data:=.cell none }
noncomputable abbrev frameObj0:Obj:={ cls:=.type "frame",data:=.dict #[] }
inductive CAt (done:List (Str × NameKind)) (cl b:List (Str × Addr)) (h:Heap) (L:Addr) (x:Str):Prop
 | new (hm:(x,NameKind.cell) ∈ done) (a) (e:b.lookup x = some a) (g:h.get? a = some cellObj0) (l:L < a)
 | old (hm:(x,NameKind.cell) ∉ done) (e:b.lookup x = cl.lookup x)
structure CInv (done:List (Str × NameKind)) (cl b:List (Str × Addr)) (o:Obj) (h h':Heap):Prop where
 k:∀ a o,h.get? a = some o -> h'.get? a = some o
 l:h'.get? h.objs.size = some o
 c:∀ x,CAt done cl b h' h.objs.size x
 inj:∀ x y a,b.lookup x = some a -> b.lookup y = some a -> x = y
 bnd:∀ x a,b.lookup x = some a -> a < h'.objs.size
section
variable {done:List (Str × NameKind)} {cl b:List (Str × Addr)} {o:Obj} {h h':Heap}
theorem CInv.cell (I:CInv done cl b o h h') (n:Str):CInv (done ++ [(n,.cell)]) cl ((n,h'.objs.size) :: b) o h (h'.push cellObj0):=by
 have hp:∀ a o,h'.get? a = some o -> (h'.push cellObj0).get? a = some o:=fun a o e=>Heap.get?_push_of_some _ e
 have hlt:=Heap.lt_size I.l
 have no:∀ x a,b.lookup x = some a -> a ≠ h'.objs.size:=fun x a e q=>absurd (I.bnd x a e) (by rw [q]; exact Nat.lt_irrefl _)
 refine ⟨fun a o e=>hp a o (I.k a o e),hp _ _ I.l,fun x=>?_,fun x y a ex ey=>?_,fun x a ex=>?_⟩
 ·by_cases hx:x = n
  ·subst hx
   exact .new (List.mem_append_right _ List.mem_cons_self) h'.objs.size (zaq ..) (Heap.get?_push_size _ rfl) hlt
  ·cases I.c x with
   | new q1 a q2 q3 q4=>exact .new (List.mem_append_left _ q1) a ((zar _ _ hx).trans q2) (hp _ _ q3) q4
   | old q1 q2=>exact .old (fun q=>(List.mem_append.mp q).elim q1 fun q=>hx (by injection List.mem_singleton.mp q)) ((zar _ _ hx).trans q2)
 ·by_cases hx:x = n <;> by_cases hy:y = n
  ·rw [hx,hy]
  ·rw [hx,zaq] at ex; cases ex
   rw [zar _ _ hy] at ey
   exact absurd rfl (no y _ ey)
  ·rw [hy,zaq] at ey; cases ey
   rw [zar _ _ hx] at ex
   exact absurd rfl (no x _ ex)
  ·rw [zar _ _ hx] at ex; rw [zar _ _ hy] at ey
   exact I.inj x y a ex ey
 ·rw [Heap.size_push]
  by_cases hx:x = n
  ·rw [hx,zaq] at ex; cases ex; exact Nat.lt_succ_self _
  ·rw [zar _ _ hx] at ex; exact Nat.lt_succ_of_lt (I.bnd x a ex)
theorem CInv.other (I:CInv done cl b o h h') (n:Str) {kd:NameKind} (hk:kd ≠ .cell):CInv (done ++ [(n,kd)]) cl b o h h' :=
 ⟨I.k,I.l,fun x=>by
  cases I.c x with
  | new q1 a q2 q3 q4=>exact .new (List.mem_append_left _ q1) a q2 q3 q4
  | old q1 q2=>exact .old (fun q=>(List.mem_append.mp q).elim q1 fun q=>hk (by injection List.mem_singleton.mp q with _ q; exact q.symm)) q2,I.inj,I.bnd⟩
theorem CInv.start {o:Obj} (hf:o.isFreed = false) (hcl:∀ x a,cl.lookup x = some a -> a < h.objs.size) (hci:∀ x y a,cl.lookup x = some a -> cl.lookup y = some a -> x = y):CInv [] cl cl o h (h.push o) :=
 ⟨fun a o e=>Heap.get?_push_of_some _ e,Heap.get?_push_size _ hf,fun x=>.old List.not_mem_nil rfl,hci,fun x a e=>by rw [Heap.size_push]; exact Nat.lt_succ_of_lt (hcl x a e)⟩
end
section
variable {M:Model} {A:Around} {E:Value -> Shared -> Prop} {s:Shared} {env:Env} {scope:Scope} {cl:List (Str × Addr)} {qual:Str} {globals:Addr}
noncomputable def CLoop (names:List (Str × NameKind)) (cl:List (Str × Addr)) (o:Obj) (s:Shared):List (Str × NameKind) -> List (Str × Addr) -> Shared -> Prop :=
 fun rest b s'=>∃ done h',names = done ++ rest /\ s' = { s with heap:=h' } /\ CInv done cl b o s.heap h'
theorem zhg {o:Obj} {Q:List (Str × Addr) -> Shared -> Prop} (I:CInv [] cl cl o s.heap (s.heap.push o)) (k:∀ b h',CInv scope.names cl b o s.heap h' -> Q b { s with heap:=h' }) :
  wpAny M A (forIn scope.names cl fun x r=>(do
    let cells:=r
    if x.2 == .cell then do
     let a <- alloc cellObj0
     pure (ForInStep.yield ((x.1,a) :: cells))
    else pure (ForInStep.yield cells):Sem (ForInStep (List (Str × Addr))))) Q E { s with heap:=s.heap.push o }:=by
 refine wpAny_forIn_list _ (CLoop scope.names cl o s) _ (fun p rest b s' hl=>?_) (fun b s' hl=>?_) scope.names cl ⟨[],_,rfl,rfl,I⟩
 ·obtain ⟨done,h',hn,rfl,I⟩:=hl
  obtain ⟨n,kd⟩:=p
  have hn':∀ kd',scope.names = done ++ (n,kd') :: rest -> scope.names = (done ++ [(n,kd')]) ++ rest:=fun kd' q=>by rw [q,List.append_assoc]; rfl
  by_cases hk:kd = .cell
  ·subst hk
   exact wpAny_bind (wpAny_alloc (wpAny_pure ⟨_,_,hn' _ hn,rfl,I.cell n⟩))
  ·show wpAny _ _ (if (kd == NameKind.cell) = true then _ else _) _ _ _
   rw [if_neg fun q=>hk (eq_of_beq q)]
   exact wpAny_pure ⟨_,_,hn' _ hn,rfl,I.other n hk⟩
 ·obtain ⟨done,h',hn,rfl,I⟩:=hl
  rw [List.append_nil] at hn
  subst hn
  exact k b h' I
theorem zyq {Q:Env -> Shared -> Prop} (hcl:∀ x a,cl.lookup x = some a -> a < s.heap.objs.size) (hci:∀ x y a,cl.lookup x = some a -> cl.lookup y = some a -> x = y)
  (k:∀ cells h',CInv scope.names cl cells dictObj0 s.heap h' -> Q { scope:=scope,locals:=s.heap.objs.size,globals:=globals,cells:=cells,qual:=qual,func:=none,code:=env.code,frame:=env.frame,builtins:=env.builtins } { s with heap:=h' }) :
  wpAny M A (newFunctionEnv scope globals cl [] qual none .none (some env)) Q E s:=by
 unfold newFunctionEnv
 refine wpAny_bind (wpAny_alloc ?_)
 refine wpAny_bind (zhg (o:=dictObj0) (CInv.start rfl hcl hci) fun b h' I=>?_)
 exact wpAny_bind (wpAny_pure (wpAny_pure (k b h' I)))
theorem fn_env {binds:List (Str × Value)} {func:Option Addr} {code:Value} {builtins:Addr} {Q:Env -> Shared -> Prop} (hcl:∀ x a,cl.lookup x = some a -> a < s.heap.objs.size) (hci:∀ x y a,cl.lookup x = some a -> cl.lookup y = some a -> x = y)
  (k:∀ cells h',CInv scope.names cl cells frameObj0 s.heap h' ->
   wpAny M A (forIn binds PUnit.unit fun x _=>do storeName { scope:=scope,locals:=s.heap.objs.size,globals:=globals,cells:=cells,qual:=qual,func:=func,code:=code,frame:=some s.heap.objs.size,builtins:=builtins } x.1 x.2; pure (ForInStep.yield PUnit.unit))
    (fun _ s₂=>Q { scope:=scope,locals:=s.heap.objs.size,globals:=globals,cells:=cells,qual:=qual,func:=func,code:=code,frame:=some s.heap.objs.size,builtins:=builtins } s₂) E { s with heap:=h' }) :
  wpAny M A (newFunctionEnv scope globals cl binds qual func code none builtins) Q E s:=by
 unfold newFunctionEnv
 refine wpAny_bind (wpAny_alloc ?_)
 refine wpAny_bind (zhg (o:=frameObj0) (CInv.start rfl hcl hci) fun b h' I=>?_)
 exact wpAny_bind (wpAny_mono (k b h' I) (fun _ _ h=>wpAny_pure h) fun _ _ h=>h)
end
structure Cl where
 elt:Expr
 gens:List Comprehension
 scope:Scope
 pos:Pos
 d:Nat
noncomputable abbrev Cl.e (k:Cl):Expr:=.ListComp k.elt k.gens k.scope k.pos
noncomputable abbrev Cl.code (k:Cl) (it:Value) (D:Addr) (env:Env):Code:=.compLoop k.e k.d it (.ref D) env
noncomputable abbrev Em:=Addr -> Env -> Sem Unit
noncomputable def ClEq (k:Cl) (t iter:Expr) (ifs:List Expr) (em:Em):Prop:=∀ it D env,compTurn k.e k.d it (.ref D) env = (do
   standAt iter.pos
   match <- pyNext it with
   | none=>pure (.done .next)
   | some v =>
    letOwnedTupleGo t it v
    assign t env v
    let ok <- forIn ifs true fun c r=>if r = true then do let ok <- isTrue c env (eval c env); pure (ForInStep.yield ok) else pure (ForInStep.yield r)
    if ok then em D env
    again (k.code it D env))
noncomputable def emApp (elt:Expr):Em:=fun D env=>do let _ <- call (.builtin "list.append") [.ref D,<- eval elt env]
noncomputable def emTwo (elt:Expr) (g g2:Comprehension) (scope:Scope) (pos:Pos):Em:=fun D env=>do
 let x <- eval g2.iter env
 standAt g2.iter.pos
 let x <- foldedSetIterable g2.iter env x
 let _ <- runOwn (.compStart (.ListComp elt [g,g2] scope pos) 1 (<- holding [x] (pyIter x)) (.ref D) env) env
theorem one_eq (elt t iter:Expr) (ifs:List Expr) (scope:Scope) (pos:Pos):ClEq ⟨elt,[⟨t,iter,ifs,0⟩],scope,pos,0⟩ t iter ifs (emApp elt):=fun it D env=>compTurn_list ..
theorem two_eq (elt t iter t2 iter2:Expr) (ifs ifs2:List Expr) (scope:Scope) (pos:Pos):ClEq ⟨elt,[⟨t,iter,ifs,0⟩,⟨t2,iter2,ifs2,0⟩],scope,pos,0⟩ t iter ifs (emTwo elt ⟨t,iter,ifs,0⟩ ⟨t2,iter2,ifs2,0⟩ scope pos):=fun it D env=>by
 unfold emTwo
 dsimp only
 simp only [bind_assoc]
 rfl
theorem z1n (elt t iter t2 iter2:Expr) (ifs ifs2:List Expr) (scope:Scope) (pos:Pos):ClEq ⟨elt,[⟨t,iter,ifs,0⟩,⟨t2,iter2,ifs2,0⟩],scope,pos,1⟩ t2 iter2 ifs2 (emApp elt):=fun it D env=>by rfl
section
variable {C:Cx} {A:Around} {s:Shared} {R:Result -> Shared -> Prop} {k:Cl} {t iter:Expr} {ifs:List Expr} {em:Em}
noncomputable abbrev RE (C:Cx) (A:Around) (env:Env) (R:Result -> Shared -> Prop):Value -> Shared -> Prop:=notedBy C.M A env fun e s'=>R (.error e) s'
noncomputable def TurnsOk (C:Cx) (A:Around) (k:Cl) (it:Value) (D:Addr) (env:Env) (R:Result -> Shared -> Prop) (s:Shared):Prop:=codeAny C.M A (k.code it D env) R s
theorem zyr (q:ClEq k t iter ifs em) {it:Value} {D:Addr} {env:Env} (h:∀ E,wpAny C.M A (pyNext it) (fun r s₁=>r = none /\ R (.ok .next) s₁) E s):TurnsOk C A k it D env R s:=by
 refine codeAny_of_tree ?_
 show wpAny C.M A ((compTurn k.e k.d it (.ref D) env).onRaise (fun x=>do noteFrame x env; theTreesLotGoes x)) _ _ s
 rw [q]
 exact wpAny_noted (wpAny_bind (wpAny_standAt (wpAny_bind (wpAny_mono (h _) (fun r s₁ h₁=>h₁.1 ▸ wpAny_pure h₁.2) fun _ _ h'=>h'))))
theorem zuh (q:ClEq k t iter ifs em) {it:Value} {D:Addr} {env:Env}
  (h:wpAny C.M A (pyNext it) (fun r s₁=>∃ v,r = some v /\ wpAny C.M A (letOwnedTupleGo t it v) (fun _ s₂=>wpAny C.M A (assign t env v) (fun _ s₃=>wpAny C.M A (forIn ifs true fun c r=>if r = true then do let ok <- isTrue c env (eval c env); pure (ForInStep.yield ok) else pure (ForInStep.yield r)) (fun ok s₄ =>
     if ok = true then wpAny C.M A (em D env) (fun _ s₅=>TurnsOk C A k it D env R s₅) (RE C A env R) s₄
     else TurnsOk C A k it D env R s₄) (RE C A env R) s₃) (RE C A env R) s₂) (RE C A env R) s₁) (RE C A env R) s):TurnsOk C A k it D env R s:=by
 refine codeAny_of_tree ?_
 show wpAny C.M A ((compTurn k.e k.d it (.ref D) env).onRaise (fun x=>do noteFrame x env; theTreesLotGoes x)) _ _ s
 rw [q]
 refine wpAny_noted (wpAny_bind (wpAny_standAt (wpAny_bind (wpAny_mono h (fun r s₁ h₁=>?_) fun _ _ h'=>h'))))
 obtain ⟨v,rfl,h₁⟩:=h₁
 refine wpAny_bind (wpAny_mono h₁ (fun _ s₂ h₂=>wpAny_bind (wpAny_mono h₂ (fun _ s₃ h₃=>wpAny_bind (wpAny_mono h₃ (fun ok s₄ h₄=>?_) fun _ _ h'=>h')) fun _ _ h'=>h')) fun _ _ h'=>h')
 cases ok with
 | false=>exact wpAny_pure ⟨rfl,h₄⟩
 | true=>exact wpAny_bind (wpAny_mono h₄ (fun _ s₅ h₅=>wpAny_pure ⟨rfl,h₅⟩) fun _ _ h'=>h')
theorem zpv {elt:Expr} {gs:List Comprehension} {scope:Scope} {pos:Pos} {it D:Addr} {env:Env} (h0:TurnsOk C A ⟨elt,⟨t,iter,ifs,0⟩ :: gs,scope,pos,0⟩ (.ref it) D env R s) (hs:SelfOk C A it s) :
  codeAny C.M A (.compStart (.ListComp elt (⟨t,iter,ifs,0⟩ :: gs) scope pos) 0 (.ref it) (.ref D) env) R s:=codeAny_compStart_list h0 (hs _ _ h0)
theorem zml {elt:Expr} {g:Comprehension} {scope:Scope} {pos:Pos} {it D:Addr} {env:Env} (h0:TurnsOk C A ⟨elt,[g,⟨t,iter,ifs,0⟩],scope,pos,1⟩ (.ref it) D env R s) (hs:SelfOk C A it s) :
  codeAny C.M A (.compStart (.ListComp elt [g,⟨t,iter,ifs,0⟩] scope pos) 1 (.ref it) (.ref D) env) R s:=by
 refine codeAny_of_tree ?_
 show wpAny _ _ ((compStart (.ListComp elt [g,⟨t,iter,ifs,0⟩] scope pos) 1 (.ref it) (.ref D) env).onRaise (fun x=>do noteFrame x env; standAt theWindowsPlace)) _ _ s
 refine wpAny_notedAt ?_
 unfold compStart
 show wpAny _ _ (ask >>= _) _ _ s
 refine wpAny_bind (wpAny_askSetting (wpAny_ite ?_))
 split
 ·exact wpAny_pure (And.intro rfl h0)
 ·refine wpAny_bind (wpAny_rule ?_)
  show wpAny _ _ (standAt iter.pos >>= _) _ _ s
  exact wpAny_bind (wpAny_standAt (wpAny_bind (hs _ _ (wpAny_pure (And.intro rfl h0)))))
end
end Mine
end
section
namespace Mine
open PySem PySem.SeqAt
noncomputable def OwnP (own:Addr -> Prop) (σ:St):Prop:=∀ a,own a -> (∃ o,σ.s.heap.get? a = some o) /\ σ.g.hf a = none /\ (∀ l,l < σ.g.cs.length -> σ.g.ρ l ≠ a) /\ ¬ σ.g.fl a
theorem OwnP.ext {own ow:Addr -> Prop} {σ σ':St} (O:OwnP own σ) (x:Ext σ σ' ow):OwnP own σ':=fun a ha=>by
 obtain ⟨⟨o,e⟩,h1,h2,h3⟩:=O a ha
 exact ⟨x.lives e,x.nhf e h1,x.nce e h2,x.le.fl.symm ▸ h3⟩
inductive CompR {γ:Type} (t:Tgt) (tests:Slots -> List Cell -> KB -> Prop) (emit:γ -> Slots -> List Cell -> (γ -> List Cell -> Prop) -> Prop) (sl:Slots) (K:γ -> List Cell -> Prop):γ -> Src -> List Cell -> Prop
 | done {acc src cs} (e:EndR cs src) (k:K acc cs):CompR t tests emit sl K acc src cs
 | step {acc src src' cs v sl1} (T:KB) (M:γ -> List Cell -> Prop) (e:NextR cs src v src') (b:t.bind v sl = some sl1) (ht:tests sl1 cs T) (he:∀ c,T true c -> emit acc sl1 c M)
   (hf:∀ c,T false c -> CompR t tests emit sl K acc src' c) (hm:∀ y c,M y c -> CompR t tests emit sl K y src' c):CompR t tests emit sl K acc src cs
noncomputable def AtD {γ:Type} (Gd:γ -> Gh -> Obj -> Prop) (D:Addr) (acc:γ) (σ:St):Prop:=∃ o,σ.s.heap.get? D = some o /\ Gd acc σ.g o
noncomputable def GdOk {γ:Type} (Gd:γ -> Gh -> Obj -> Prop):Prop:=∀ acc g o,Gd acc g o -> (∀ v,o.data ≠ .cell v) /\ ∀ g',Le g g' -> Gd acc g' o
structure CR where
 C:Cx
 A:Around
 env:Env
 ns:List Str
 own:Addr -> Prop
 D:Addr
 k:Cl
 em:Em
noncomputable abbrev CR.Φ (r:CR):Fm:=⟨r.A,r.env⟩
structure CROk (r:CR) (t:Tgt):Prop where
 oD:r.own r.D
 nD:¬ ownAll r.env r.D
 o1:r.own r.env.locals
 o2:∀ x,t.has x -> ∀ c,r.env.kindOf x = some .cell -> r.env.cells.lookup x = some c -> r.own c
 ok:t.ok r.env.scope r.ns = true
variable {γ:Type} {Gd:γ -> Gh -> Obj -> Prop} {r:CR}
theorem zk8 {acc:γ} {σ σ':St} {ow:Addr -> Prop} (G:GdOk Gd) (h:AtD Gd r.D acc σ) (x:Ext σ σ' ow) (W:OwnP r.own σ) (o:r.own r.D) (n:¬ ow r.D):AtD Gd r.D acc σ' :=
 h.imp fun ob q=>⟨x.exact q.1 (fun l hl z=>(W _ o).2.2.1 l hl z.symm) n (W _ o).2.2.2,(G _ _ _ q.2).2 _ x.le⟩
structure TurnSt (r:CR) (L:Str -> Option V) (Gd:γ -> Gh -> Obj -> Prop) (acc:γ) (σ:St):Prop where
 S:Std r.C r.Φ L σ
 W:OwnP r.own σ
 at_:AtD Gd r.D acc σ
noncomputable def EmitOk (r:CR) (Gd:γ -> Gh -> Obj -> Prop) (emit:γ -> Slots -> List Cell -> (γ -> List Cell -> Prop) -> Prop):Prop :=
 ∀ acc sl σ M,emit acc sl σ.g.cs M -> TurnSt r (look r.ns sl) Gd acc σ -> ∀ (Q:Unit -> Shared -> Prop) (E:Value -> Shared -> Prop),
  (∀ acc' σ',Ext σ σ' r.own -> TurnSt r (look r.ns sl) Gd acc' σ' -> M acc' σ'.g.cs -> Q () σ'.s) -> wpAny r.C.M r.A (r.em r.D r.env) Q E σ.s
noncomputable abbrev testsT (ifs:List Expr) (env:Env):Sem Bool:=forIn ifs true fun c r=>if r = true then do let ok <- isTrue c env (eval c env); pure (ForInStep.yield ok) else pure (ForInStep.yield r)
noncomputable def TestsOk (r:CR) (ifs:List Expr) (tests:Slots -> List Cell -> KB -> Prop):Prop:=∀ sl σ T,tests sl σ.g.cs T -> Std r.C r.Φ (look r.ns sl) σ -> Runs r.C r.A σ noOwn (testsT ifs r.env) BR T
theorem zm4 {t:Tgt} {iter:Expr} {ifs:List Expr} {tests:Slots -> List Cell -> KB -> Prop} {emit:γ -> Slots -> List Cell -> (γ -> List Cell -> Prop) -> Prop} {sl:Slots} {K:γ -> List Cell -> Prop} {it:Addr} {os:List Addr} {P:Src -> St -> Prop}
  (Q:ClEq r.k t.ast iter ifs r.em) (I:It r.C t.ast it os P) (G:GdOk Gd) (R:CROk r t) (hT:TestsOk r ifs tests) (hE:EmitOk r Gd emit) (hw:∀ v sl1,t.bind v sl = some sl1 -> ∀ x u,look r.ns sl x = some u -> look r.ns sl1 x = some u)
  (no:∀ a ∈ os,¬ ownAll r.env a /\ ¬ r.own a) {σ₀:St} (fr:∀ a ∈ os,σ₀.s.heap.get? a = none) {RR:Result -> Shared -> Prop}
  (k:∀ acc σ,Ext σ₀ σ r.own -> TurnSt r (look r.ns sl) Gd acc σ -> K acc σ.g.cs -> RR (.ok .next) σ.s) {acc:γ} {src:Src} {cs:List Cell} (h:CompR t tests emit sl K acc src cs) :
  ∀ {σ:St},σ.g.cs = cs -> P src σ -> TurnSt r (look r.ns sl) Gd acc σ -> Ext σ₀ σ r.own -> TurnsOk r.C r.A r.k (.ref it) r.D r.env RR σ.s:=by
 induction h with
 | @done acc src cs e q =>
  intro σ hc p S X
  subst hc
  refine zyr Q fun E=>I.fin _ _ _ S.S.O.hh p S.S.H e _ _ fun h' tk hk=>⟨rfl,?_⟩
  have O:=I.own _ _ p
  have Y:=X.fin (tk:=tk) O hk fr
  have hD:r.D ∉ os:=fun z=>(no _ z).2 R.oD
  refine k acc (σ.up h' tk σ.g) Y ⟨⟨S.S.F.keepH fun a o ha e=>hk a o (fun z=>(no a z).1 ha) e,Y.H,S.S.B,S.S.O⟩,fun a ha=>⟨(S.W a ha).1.imp fun o e=>hk a o (fun z=>(no a z).2 ha) e,(S.W a ha).2⟩,S.at_.imp fun o q=>⟨hk _ o hD q.1,q.2⟩⟩ q
 | @step acc src src' cs v sl1 T M e b ht he hf hm ihf ihm =>
  intro σ hc p S X
  subst hc
  refine zuh Q (I.nxt _ _ _ _ _ S.S.O.hh p S.S.H e _ _ fun v' σ1 X1 c1 p1 rv=>?_)
  have S1:Std r.C r.Φ (look r.ns sl) σ1:=⟨S.S.F.ext S.S.H X1 fun a ha=>(no a ha).1,X1.H,S.S.B.le X1.le,S.S.O⟩
  have W1:=S.W.ext X1
  have D1:=zk8 G S.at_ X1 S.W R.oD fun z=>(no _ z).2 R.oD
  refine zi4 (ow:=fun a=>r.own a /\ ownAll r.env a) ⟨R.o1,.inl rfl⟩ (fun x hx c hk hc=>⟨R.o2 x hx c hk hc,.inr ⟨x,.inl hk,hc⟩⟩) S1 R.ok b rv _ _ fun σ2 X2 c2 S2=>?_
  have ec:σ2.g.cs = σ.g.cs:=c2.trans c1
  have W2:=W1.ext X2
  have D2:=zk8 G D1 X2 W1 R.oD fun z=>R.nD z.2
  have Y2:=(X1.mono (own':=fun a=>a ∈ os \/ r.own a) fun _ h=>.inl h).trans (X2.mono fun _ h=>.inr h.1)
  refine hT sl1 σ2 T (ec ▸ ht) S2 _ _ fun b3 ok σ3 X3 hb q3=>?_
  cases (hb:ok = b3)
  have W3:=W2.ext X3
  have D3:=zk8 G D2 X3 W2 R.oD fun z=>z
  have Y3:=Y2.trans (X3.mono fun _ z=>z.elim)
  have go:∀ {acc' σ4},Ext σ3 σ4 r.own -> TurnSt r (look r.ns sl1) Gd acc' σ4 -> (∀ {σ:St},σ.g.cs = σ4.g.cs -> P src' σ -> TurnSt r (look r.ns sl) Gd acc' σ -> Ext σ₀ σ r.own -> TurnsOk r.C r.A r.k (.ref it) r.D r.env RR σ.s) ->
    TurnsOk r.C r.A r.k (.ref it) r.D r.env RR σ4.s:=fun {acc' σ4} X4 S4 ih =>
   have Y4:=(X2.mono (own':=r.own) fun _ h=>h.1).trans ((X3.mono fun _ z=>z.elim).trans X4)
   ih rfl (I.ext _ _ _ _ p1 S1.H Y4 fun a ha=>(no a ha).2) ⟨S4.S.weaken (hw v sl1 b),S4.W,S4.at_⟩ ((X.trans' X1 fun a ha=>.inr (fr a ha)).trans Y4)
  cases b3 with
  | false=>exact go (Ext.refl X3.H _) ⟨S2.ext X3,W3,D3⟩ (ihf _ q3)
  | true=>exact hE acc sl1 σ3 M (he _ q3) ⟨S2.ext X3,W3,D3⟩ _ _ fun acc' σ4 X4 S4 q4=>go X4 S4 (ihm acc' _ q4)
end Mine
end
section
namespace Mine
open PySem PySem.SeqAt
noncomputable def ValOk (C:Cx) (Φ:Fm) (ns:List Str) (e:Expr) (val:Slots -> List Cell -> KV -> Prop):Prop:=∀ sl σ K,Std C Φ (look ns sl) σ -> val sl σ.g.cs K -> Runs C Φ.A σ noOwn (eval e Φ.env) VR K
noncomputable def TstOk (C:Cx) (Φ:Fm) (ns:List Str) (e:Expr) (tst:Slots -> List Cell -> KB -> Prop):Prop:=∀ sl σ K,Std C Φ (look ns sl) σ -> tst sl σ.g.cs K -> Runs C Φ.A σ noOwn (isTrue e Φ.env (eval e Φ.env)) BR K
theorem zwj {γ:Type} {Gd:γ -> Gh -> Obj -> Prop} {r:CR} {L:Str -> Option V} {σ:St} {h':Heap} {tk:Nat} {acc acc':γ} {o:Obj} (oD:r.own r.D) (nD:¬ ownAll r.env r.D) (S:TurnSt r L Gd acc σ) (hs:Heap.SameBut r.D σ.s.heap h') (e:h'.get? r.D = some o) (hg:Gd acc' σ.g o) :
  Ext σ (σ.up h' tk σ.g) r.own /\ TurnSt r L Gd acc' (σ.up h' tk σ.g):=by
 have X:Ext σ (σ.up h' tk σ.g) r.own:=⟨Le.refl _,fun _ _ e=>.inl e,fun l a b=>absurd b (Nat.not_lt.mpr a),fun b o eb nb nob=>⟨o,hs.extBut b o (fun z=>nob (z ▸ oD)) eb,rfl,fun _=>rfl⟩,fun b o eb hb=>by
  by_cases hbD:b = r.D
  ·exact ⟨_,hbD ▸ e⟩
  ·exact ⟨o,hs.extBut b o hbD eb⟩,S.S.H.keep fun a o e q=>hs.extBut a o (fun z=>by
  subst z
  rcases q with q | ⟨l,hl,q⟩ | q
  ·rw [(S.W _ oD).2.1] at q; cases q
  ·exact (S.W _ oD).2.2.1 l hl q.symm
  ·exact (S.W _ oD).2.2.2 q) e,rfl⟩
 exact ⟨X,⟨S.S.F.keepH fun a o ha e=>hs.extBut a o (fun z=>nD (z ▸ ha)) e,X.H,S.S.B,S.S.O⟩,S.W.ext X,_,e,hg⟩
noncomputable def GdL (acc:List V) (g:Gh) (o:Obj):Prop:=∃ vs n,o = listO vs n /\ VRels g acc vs
theorem znr:GdOk GdL:=fun acc g o h=>by
 obtain ⟨vs,n,rfl,r⟩:=h
 exact ⟨nofrL vs n,fun g' L=>⟨vs,n,rfl,vmono r L⟩⟩
noncomputable def emitL (val:Slots -> List Cell -> KV -> Prop):List V -> Slots -> List Cell -> (List V -> List Cell -> Prop) -> Prop:=fun acc sl c M=>acc.length < lim /\ val sl c fun v c=>M (acc ++ [v]) c
theorem znz {r:CR} {elt:Expr} {val:Slots -> List Cell -> KV -> Prop} (hc:r.em = emApp elt) (oD:r.own r.D) (nD:¬ ownAll r.env r.D) (hv:ValOk r.C r.Φ r.ns elt val):EmitOk r GdL (emitL val):=by
 intro acc sl σ M h S Q E k
 rw [hc]
 refine wpAny_bind (hv sl σ _ S.S h.2 _ _ fun v v' σ1 X rv q=>?_)
 have D1:=zk8 znr S.at_ X S.W oD fun z=>z
 have S1:TurnSt r (look r.ns sl) GdL acc σ1:=⟨S.S.ext X,S.W.ext X,D1⟩
 obtain ⟨o,eo,vs,n,rfl,rs⟩:=D1
 have hsz:vs.toArray.size <= sizeLine:=Nat.le_trans (Nat.le_of_lt (Nat.lt_of_le_of_lt (Nat.le_of_eq rs.length) h.1)) zah
 refine wpAny_bind (wpAny_list_append_plain (hsz:=hsz) ⟨n,eo⟩ fun h2 hD2 hs=>wpAny_pure ?_)
 obtain ⟨n2,e2⟩:=hD2
 obtain ⟨X2,S2⟩:=zwj (tk:=σ1.s.toks) (acc':=acc ++ [v]) oD nD S1 hs e2 ⟨vs ++ [v'],n2,by rw [List.push_toArray],rs.append (.cons rv .nil)⟩
 exact k _ _ ((X.mono fun _ z=>z.elim).trans X2) S2 q
variable {prog:Program} {w:World}
theorem zk9 {σ₀ σ:St} {own:Addr -> Prop} {D:Addr} {o:Obj} (X:Ext σ₀ σ own) (W:OwnP own σ) (oD:own D) (fr:σ₀.s.heap.get? D = none) (e:σ.s.heap.get? D = some o) (nc:∀ v,o.data ≠ .cell v):Ext σ₀ ⟨σ.s,σ.g.freeze D o⟩ own :=
 have n:=W D oD
 ⟨X.le.trans (Le.freeze _ o n.2.1),fun b o' q=>(zas q).elim (fun z=>.inr (z.1 ▸ fr)) (X.fresh b o'),X.cfresh,X.keep,X.ownk,X.H.freeze (fun _ _ _ e=>e) n.2.1 n.2.2.1 n.2.2.2 e nc,X.sh⟩
theorem zp6 {σ₀ σ:St} {own:Addr -> Prop} {D:Addr} {c:Cell} (X:Ext σ₀ σ own) (W:OwnP own σ) (oD:own D) (fr:σ₀.s.heap.get? D = none) (c':CellIs (σ.g.grow D c) σ.s.heap D c):Ext σ₀ ⟨σ.s,σ.g.grow D c⟩ own :=
 have n:=W D oD
 ⟨X.le.trans (Le.grow _ D c),X.fresh,fun l a b=>(zb6 b).elim (fun z=>(Le.grow σ.g D c).ρ l z ▸ X.cfresh l a z) fun z=>by rw [z,grow_ρ]; exact fr,X.keep,X.ownk,X.H.grow (fun _ _ e=>e) n.2.1 n.2.2.1 n.2.2.2 c',X.sh⟩
structure Given (σ₀ σ σ':St) (own:Addr -> Prop) (D:Addr) (v:V) (K:KV):Prop where
 s:σ'.s = σ.s
 X:Ext σ₀ σ' own
 r:VRel σ'.g v (.ref D)
 q:K v σ'.g.cs
 nhf:∀ a,a ≠ D -> σ.g.hf a = none -> σ'.g.hf a = none
 nce:∀ a,a ≠ D -> (∀ l,l < σ.g.cs.length -> σ.g.ρ l ≠ a) -> ∀ l,l < σ'.g.cs.length -> σ'.g.ρ l ≠ a
noncomputable def OutOk {γ:Type} (w:World) (Gd:γ -> Gh -> Obj -> Prop) (out:γ -> List Cell -> KV -> Prop):Prop:=∀ acc σ₀ σ own D K,Ext σ₀ σ own -> OwnP own σ -> own D -> σ₀.s.heap.get? D = none -> σ.g.pr = w.params -> (D == sysModules) = false -> AtD Gd D acc σ -> out acc σ.g.cs K ->
 ∃ v σ',Given σ₀ σ σ' own D v K
noncomputable def outL (c:Bool):List V -> List Cell -> KV -> Prop:=fun acc cs K=>listK c acc cs K
theorem z2w {c:Bool}:OutOk w GdL (outL c):=by
 intro acc σ₀ σ own D K X W oD fr _ _ hD q
 obtain ⟨o,e,vs,n,rfl,r⟩:=hD
 have nn:=W D oD
 obtain ⟨hl,q⟩:=q
 cases c with
 | true =>
  refine ⟨_,⟨σ.s,σ.g.grow D (.list acc)⟩,rfl,zp6 X W oD fr ⟨vs,n,e,vmono r (Le.grow ..),hl⟩,.ref' (by rw [zb7]; exact Nat.lt_succ_self _) (grow_ρ ..),q,fun a _ h=>h,fun a ha h l hl=>?_⟩
  exact (zb6 hl).elim (fun z=>(Le.grow σ.g D (.list acc)).ρ l z ▸ h l z) fun z=>by rw [z,grow_ρ]; exact Ne.symm ha
 | false=>exact ⟨_,⟨σ.s,σ.g.freeze D (listO vs n)⟩,rfl,zk9 X W oD fr e (nofrL vs n),.lst (zal ..) (vmono r (Le.freeze _ _ nn.2.1)) hl,q,fun a ha h=>(if_neg ha).trans h,fun a ha h=>h⟩
noncomputable def emitS (i:Nat) (x:Str) (p:Pos) (src:Slots -> List Cell -> KS -> Prop) (tests:Slots -> List Cell -> KB -> Prop) (val:Slots -> List Cell -> KV -> Prop):List V -> Slots -> List Cell -> (List V -> List Cell -> Prop) -> Prop :=
 fun acc sl c M=>sl[i]? = some none /\ src sl c fun s c=>CompR (.nm x i p) tests (emitL val) sl M acc s c
theorem zso {ns:List Str} {sl:Slots} {i:Nat} {v u:V} (h:sl[i]? = some none) {y:Str} (e:look ns sl y = some u):look ns (sl.set i (some v)) y = some u:=by
 unfold look at e ⊢
 by_cases q:i = ns.idxOf y
 ·rw [<- q,h] at e; cases e
 ·rw [List.getElem?_set_ne q]; exact e
theorem zx9 {r:CR} {elt:Expr} {g:Comprehension} {scope:Scope} {pos:Pos} {iter:Expr} {ifs:List Expr} {i:Nat} {x:Str} {p:Pos} {src:Slots -> List Cell -> KS -> Prop} {tests:Slots -> List Cell -> KB -> Prop} {val:Slots -> List Cell -> KV -> Prop}
  (hc:r.em = emTwo elt g ⟨(Tgt.nm x i p).ast,iter,ifs,0⟩ scope pos) (oD:r.own r.D) (nD:¬ ownAll r.env r.D) (o1:r.own r.env.locals) (o2:∀ c,r.env.kindOf x = some .cell -> r.env.cells.lookup x = some c -> r.own c) (ok:(Tgt.nm x i p).ok r.env.scope r.ns = true)
  (hfold:∀ y,foldedSetIterable iter r.env y = pure y) (hi:∀ sl σ K,Std r.C r.Φ (look r.ns sl) σ -> src sl σ.g.cs K -> ItRuns r.C r.A (.nm x i p) σ (fun Q E=>wpAny r.C.M r.A (eval iter r.env) (fun x s₁=>wpAny r.C.M r.A (pyIter x) Q E s₁) E σ.s) K)
  (hT:TestsOk r ifs tests) (hv:ValOk r.C r.Φ r.ns elt val) (two:ClEq ⟨elt,[g,⟨(Tgt.nm x i p).ast,iter,ifs,0⟩],scope,pos,1⟩ (Tgt.nm x i p).ast iter ifs (emApp elt)):EmitOk r GdL (emitS i x p src tests val):=by
 intro acc sl σ M h S Q E k
 rw [hc]
 let r2:CR:={ r with k:=⟨elt,[g,⟨(Tgt.nm x i p).ast,iter,ifs,0⟩],scope,pos,1⟩,em:=emApp elt }
 have key:wpAny r.C.M r.A (eval iter r.env) (fun yv s₁=>wpAny r.C.M r.A (pyIter yv) (fun it s₂=>codeAny r.C.M r.A (.compStart (.ListComp elt [g,⟨(Tgt.nm x i p).ast,iter,ifs,0⟩] scope pos) 1 it (.ref r.D) r.env) (fun res s'=>match res with | .ok _=>Q () s' | .error e=>cameBackBy r.C.M r.A r.env E e s') s₂) E s₁) E σ.s:=by
  refine hi sl σ _ S.S h.2 _ _ fun s it os P σ1 X1 I pp fr q=>?_
  have W1:=S.W.ext X1
  have no:∀ a ∈ os,¬ ownAll r2.env a /\ ¬ r2.own a:=fun a ha=>by
   refine ⟨fun z=>?_,fun z=>?_⟩
   ·obtain ⟨o,e⟩:=S.S.F.alive a z
    rw [fr a ha] at e; cases e
   ·obtain ⟨⟨o,e⟩,_⟩:=S.W a z
    rw [fr a ha] at e; cases e
  have T1:TurnSt r2 (look r2.ns sl) GdL acc σ1:=⟨S.S.ext X1,W1,zk8 znr S.at_ X1 S.W oD fun z=>z⟩
  refine zml (zm4 (r:=r2) two I znr ⟨oD,nD,o1,fun y hy c hk hc=>?_,ok⟩ hT (znz (r:=r2) rfl oD nD hv) (fun v sl1 b y u e=>?_) no fr (fun acc' σ2 X2 S2 q2=>?_) q rfl pp T1 (X1.mono fun _ z=>z.elim)) (I.self _ _ _ S.S.O.hh pp)
  ·cases (hy:y = x); exact o2 c hk hc
  ·cases b; exact zso h.1 e
  ·exact k acc' σ2 X2 ⟨S2.S,S2.W,S2.at_⟩ q2
 refine wpAny_bind (wpAny_mono key (fun y s₁ h₁=>wpAny_bind (wpAny_standAt (wpAny_bind (wpAny_of_eq (hfold y) (wpAny_bind (wpAny_holding (wpAny_mono h₁ (fun it s₂ h₂=>wpAny_bind (wpAny_runOwn (codeAny_mono h₂ fun res s' hr=>?_))) fun _ _ z=>z))))))) fun _ _ z=>z)
 cases res with
 | ok f=>exact wpAny_pure hr
 | error e=>exact hr
end Mine
end
section
namespace Mine
open PySem PySem.SeqAt
noncomputable def isLC (k:NameKind):Bool:=k == .local || k == .cell
noncomputable def ownNs (scope:Scope):List Str:=(scope.names.filter fun p=>isLC p.2).map (·.1)
noncomputable def compScope (sc scope:Scope):Scope :=
 { scope with names:=scope.names.map fun (n,k)=>if k == .free && sc.kind == .function && sc.names.lookup n == some .cell then (n,.cell) else (n,k) }
noncomputable def compOkB (sc scope:Scope):Bool :=
 scope.kind == .function && scope.names.all fun p=>(p.2 != .free || sc.names.lookup p.1 == some .cell || sc.names.lookup p.1 == some .free) && scope.names.lookup p.1 == some p.2
structure CompSc (sc scope:Scope):Prop where
 kind:scope.kind = .function
 uniq:∀ x k,(x,k) ∈ scope.names -> scope.names.lookup x = some k
 free:∀ x,(x,NameKind.free) ∈ scope.names -> sc.names.lookup x = some .cell \/ sc.names.lookup x = some .free
theorem zui {sc scope:Scope} (h:compOkB sc scope = true):CompSc sc scope:=by
 unfold compOkB at h
 rw [Bool.and_eq_true] at h
 have h2:=fun x k (hx:(x,k) ∈ scope.names)=>(Bool.and_eq_true _ _).mp (List.all_eq_true.mp h.2 _ hx)
 refine ⟨eq_of_beq h.1,fun x k hx=>eq_of_beq (h2 x k hx).2,fun x hx=>?_⟩
 have:=(h2 x _ hx).1
 rw [Bool.or_eq_true,Bool.or_eq_true] at this
 rcases this with (z | z) | z
 ·cases z
 ·exact .inl (eq_of_beq z)
 ·exact .inr (eq_of_beq z)
theorem zbi {α:Type} {l:List (Str × α)} {x:Str} {k:α} (h:l.lookup x = some k):(x,k) ∈ l:=by
 induction l with
 | nil=>cases h
 | cons p r ih =>
  by_cases e:x = p.1
  ·subst e; rw [zaq] at h; cases h; exact List.mem_cons_self
  ·rw [zar _ _ e] at h; exact List.mem_cons_of_mem _ (ih h)
theorem zpi {F:Str -> NameKind -> NameKind} (names:List (Str × NameKind)) (x:Str):(names.map fun p=>(p.1,F p.1 p.2)).lookup x = (names.lookup x).map (F x):=by
 induction names with
 | nil=>rfl
 | cons p r ih =>
  by_cases h:x = p.1
  ·subst h; rw [List.map_cons,zaq,zaq]; rfl
  ·rw [List.map_cons,zar _ _ h,zar _ _ h]; exact ih
noncomputable def reKind (sc:Scope) (x:Str) (k:NameKind):NameKind:=if (k == .free && sc.kind == .function && sc.names.lookup x == some .cell) = true then .cell else k
theorem zd3 (sc scope:Scope) (x:Str):(compScope sc scope).names.lookup x = (scope.names.lookup x).map (reKind sc x):=by
 have e1:(compScope sc scope).names = scope.names.map fun p=>(p.1,reKind sc p.1 p.2):=List.map_congr_left fun x _=>by
  unfold reKind
  dsimp only
  split <;> rfl
 rw [e1]; exact zpi ..
theorem zil {scope:Scope} {x:Str} {k:NameKind} (h:(x,k) ∈ scope.names) (hk:isLC k = true):x ∈ ownNs scope:=List.mem_map.mpr ⟨(x,k),List.mem_filter.mpr ⟨h,hk⟩,rfl⟩
theorem zb4 (o ns:List Str) (pre sl:Slots) (hp:pre.length = o.length) {x:Str} {v:V} (h:look (o ++ ns) (pre ++ sl) x = some v):(x ∈ o /\ some v ∈ pre) \/ (x ∉ o /\ look ns sl x = some v):=by
 unfold look at h ⊢
 by_cases hx:x ∈ o
 ·refine .inl ⟨hx,?_⟩
  rw [List.idxOf_append,if_pos hx,List.getElem?_append_left (by rw [hp]; exact List.idxOf_lt_length_iff.mpr hx)] at h
  cases q:pre[o.idxOf x]? with
  | none=>rw [q] at h; cases h
  | some u=>rw [q] at h; exact List.mem_of_getElem? (q.trans (congrArg some (show u = some v from h)))
 ·refine .inr ⟨hx,?_⟩
  rw [List.idxOf_append,if_neg hx,List.getElem?_append_right (by rw [hp]; exact Nat.le_add_left _ _),hp,Nat.add_sub_cancel] at h
  exact h
theorem zsn (o ns:List Str) (pre pre' sl:Slots) (hp:pre.length = o.length) (hp':pre'.length = o.length) (hn:∀ v,some v ∉ pre) {x:Str} {v:V} (h:look (o ++ ns) (pre ++ sl) x = some v):look (o ++ ns) (pre' ++ sl) x = some v:=by
 rcases zb4 o ns pre sl hp h with ⟨_,q⟩ | ⟨hx,q⟩
 ·exact absurd q (hn v)
 ·unfold look at q ⊢
  rw [List.idxOf_append,if_neg hx,List.getElem?_append_right (by rw [hp']; exact Nat.le_add_left _ _),hp',Nat.add_sub_cancel]
  exact q
noncomputable def Tgt.lt (t:Tgt) (n:Nat):Bool:=Tgt.rec (fun _ i _=>Nat.blt i n) (fun xs _ _=>xs.all fun y=>Nat.blt y.2.1 n) t
theorem zpz (xs:List (Str × Nat × Pos)) {n:Nat}:∀ {vs:List V} {pre sl sl':Slots},xs.all (fun y=>Nat.blt y.2.1 n) = true -> pre.length = n -> binds xs vs (pre ++ sl) = some sl' -> ∃ pre',pre'.length = n /\ sl' = pre' ++ sl:=by
 induction xs with
 | nil=>intro vs pre sl sl' _ hp e; cases vs with | nil=>cases e; exact ⟨pre,hp,rfl⟩ | cons=>cases e
 | cons y xs ih =>
  intro vs pre sl sl' h hp e
  rw [List.all_cons,Bool.and_eq_true] at h
  cases vs with
  | nil=>cases e
  | cons v vs =>
   have e':binds xs vs ((pre ++ sl).set y.2.1 (some v)) = some sl':=e
   rw [List.set_append_left _ _ (by rw [hp]; exact Nat.blt_eq.mp h.1)] at e'
   exact ih h.2 (by rw [List.length_set]; exact hp) e'
theorem zuu {t:Tgt} {n:Nat} {v:V} {pre sl sl':Slots} (h:t.lt n = true) (hp:pre.length = n) (e:t.bind v (pre ++ sl) = some sl'):∃ pre',pre'.length = n /\ sl' = pre' ++ sl:=by
 cases t with
 | nm x i p =>
  cases e
  exact ⟨pre.set i (some v),by rw [List.length_set]; exact hp,List.set_append_left _ _ (by rw [hp]; exact Nat.blt_eq.mp h)⟩
 | tup xs k p =>
  have e':Option.rec none (fun vs=>binds xs vs (pre ++ sl)) (itemsOf v) = some sl':=e
  cases q:itemsOf v with
  | none=>rw [q] at e'; cases e'
  | some vs=>rw [q] at e'; exact zpz xs h hp e'
noncomputable abbrev cenvOf (env:Env) (scope:Scope) (L:Addr) (cells:List (Str × Addr)):Env:={ scope:=compScope env.scope scope,locals:=L,globals:=env.globals,cells:=cells,qual:=env.qual,func:=none,code:=env.code,frame:=env.frame,builtins:=env.builtins }
theorem zo7 (scope:Scope) (env:Env):relabel scope env = compScope env.scope scope:=rfl
section
variable {C:Cx} {Φ:Fm} {σ:St} {ns:List Str} {sl:Slots} {scope:Scope}
theorem ziy (S:Std C Φ (look ns sl) σ) (ok:CompSc Φ.env.scope scope):closureFor scope Φ.env = pure (clos Φ.env scope.names []) /\ ∀ x,(clos Φ.env scope.names []).lookup x = if (x,NameKind.free) ∈ scope.names then Φ.env.cells.lookup x else none:=by
 have hf:∀ x ∈ scope.names,x.2 = .free -> ∃ c,Φ.env.cells.lookup x.1 = some c:=fun x hx hf=>by
  obtain ⟨n,kd⟩:=x
  cases (hf:kd = _)
  obtain ⟨c,w',hc,_⟩:=S.F.cell n (ok.free n hx)
  exact ⟨c,hc⟩
 exact ⟨zd4 hf,fun x=>zgc scope.names [] x hf⟩
structure CFrame (C:Cx) (Φ:Fm) (scope:Scope) (ns:List Str) (sl:Slots) (σ:St) (cells:List (Str × Addr)) (D L:Addr) (σ':St):Prop where
 S:Std C ⟨Φ.A,cenvOf Φ.env scope L cells⟩ (look (ownNs scope ++ ns) (List.replicate (ownNs scope).length none ++ sl)) σ'
 nD:¬ ownAll (cenvOf Φ.env scope L cells) D
 own:∀ a,ownAll (cenvOf Φ.env scope L cells) a -> a = L \/ (∃ x,(x,NameKind.cell) ∈ scope.names /\ cells.lookup x = some a /\ (∃ o,σ'.s.heap.get? a = some o)) \/ ownAll Φ.env a
theorem cframe (S:Std C Φ (look ns sl) σ) (ok:CompSc Φ.env.scope scope) {o:Obj} {cells:List (Str × Addr)} {h':Heap} (I:CInv scope.names (clos Φ.env scope.names []) cells dictObj0 (σ.s.heap.push o) h') (hf:o.isFreed = false) (t:Nat) :
  CFrame C Φ scope ns sl σ cells σ.s.heap.objs.size (σ.s.heap.push o).objs.size (σ.up h' t σ.g):=by
 have hcl:=(ziy S ok).2
 have k1:∀ a o',σ.s.heap.get? a = some o' -> h'.get? a = some o':=fun a o' e=>I.k a o' (Heap.get?_push_of_some _ e)
 have szC:(σ.s.heap.push o).objs.size = σ.s.heap.objs.size + 1:=Heap.size_push ..
 have nC:σ.s.heap.get? (σ.s.heap.push o).objs.size = none:=get?_ge (by rw [szC]; exact Nat.le_succ _)
 have H':HRel σ.g h':=S.H.keep fun a o e _=>k1 a o e
 have freeLk:∀ x,(x,NameKind.free) ∈ scope.names -> cells.lookup x = Φ.env.cells.lookup x:=fun x hx=>by
  cases I.c x with
  | new q=>exact absurd ((ok.uniq _ _ q).symm.trans (ok.uniq _ _ hx)) (by decide)
  | old _ q=>rw [q,hcl,if_pos hx]
 have kind:∀ x,isC (cenvOf Φ.env scope (σ.s.heap.push o).objs.size cells) x -> ((x,NameKind.cell) ∈ scope.names) \/ ((x,NameKind.free) ∈ scope.names):=fun x hx=>by
  have e:(cenvOf Φ.env scope (σ.s.heap.push o).objs.size cells).kindOf x = _:=zd3 Φ.env.scope scope x
  unfold isC at hx
  rw [e] at hx
  cases hl:scope.names.lookup x with
  | none=>rw [hl] at hx; rcases hx with hx | hx <;> cases hx
  | some kd =>
   have:=zbi hl
   rw [hl] at hx
   cases kd <;> first | exact .inl this | exact .inr this | (rcases hx with hx | hx <;> cases hx)
 have own:∀ a,ownAll (cenvOf Φ.env scope (σ.s.heap.push o).objs.size cells) a -> a = (σ.s.heap.push o).objs.size \/ (∃ x,(x,NameKind.cell) ∈ scope.names /\ cells.lookup x = some a /\ (∃ o,h'.get? a = some o)) \/ ownAll Φ.env a:=fun a ha=>by
  rcases ha with q | ⟨x,hx,hl⟩
  ·exact .inl q
  ·rcases kind x hx with h | h
   ·cases I.c x with
    | new q1 a' q2 q3 q4=>cases q2.symm.trans hl; exact .inr (.inl ⟨x,h,hl,_,q3⟩)
    | old q=>exact absurd h q
   ·exact .inr (.inr (.inr ⟨x,ok.free x h,(freeLk x h).symm.trans hl⟩))
 refine ⟨⟨⟨ok.kind,S.F.glo,S.F.blt,⟨fun _=>none,⟨_,#[],0,I.l,rfl,fun e he=>(by simp at he),fun _=>rfl⟩,fun x u hx hkx=>?_⟩,S.H.hf_none nC,fun l hl=>S.H.ne hl nC,S.H.nfl nC,fun x hx=>?_,fun x y a hx hy h1 h2=>I.inj x y a h1 h2⟩,H',S.B,S.O⟩,fun q=>?_,own⟩
 ·exfalso
  rcases zb4 _ _ _ _ List.length_replicate hx with ⟨_,q⟩ | ⟨hn,_⟩
  ·exact nomatch List.eq_of_mem_replicate q
  ·have e:(scope.names.lookup x).map (reKind Φ.env.scope x) = some .local:=(zd3 Φ.env.scope scope x).symm.trans hkx
   cases hl:scope.names.lookup x with
   | none=>rw [hl] at e; cases e
   | some kd =>
    have hm:=zbi hl
    rw [hl] at e
    have e2:reKind Φ.env.scope x kd = .local:=Option.some.inj e
    unfold reKind at e2
    split at e2
    ·cases e2
    ·subst e2; exact hn (zil hm rfl)
 ·rcases kind x hx with hc | hf
  ·cases I.c x with
   | new q1 a q2 q3 q4 =>
    refine ⟨a,none,q2,⟨_,q3,rfl⟩,fun u hu=>?_⟩
    rcases zb4 _ _ _ _ List.length_replicate hu with ⟨_,q⟩ | ⟨hn,_⟩
    ·exact nomatch List.eq_of_mem_replicate q
    ·exact absurd (zil hc rfl) hn
   | old q=>exact absurd hc q
  ·obtain ⟨c,w',hc,⟨o',e1,e2⟩,hr⟩:=S.F.cell x (ok.free x hf)
   refine ⟨c,w',(freeLk x hf).trans hc,⟨o',k1 _ _ e1,e2⟩,fun u hu=>?_⟩
   rcases zb4 _ _ _ _ List.length_replicate hu with ⟨_,q⟩ | ⟨_,q⟩
   ·exact nomatch List.eq_of_mem_replicate q
   ·exact hr u q
 ·rcases q with q | ⟨x,hx,hl⟩
  ·have q':σ.s.heap.objs.size = (σ.s.heap.push o).objs.size:=q
   exact absurd (q'.trans szC) (Nat.ne_of_lt (Nat.lt_succ_self _))
  ·rcases kind x hx with h | h
   ·cases I.c x with
    | new q1 a q2 q3 q4 =>
     cases q2.symm.trans hl
     exact absurd (Nat.lt_trans (szC ▸ Nat.lt_succ_self _) q4) (Nat.lt_irrefl _)
    | old q=>exact absurd h q
   ·obtain ⟨o',e⟩:=S.F.alive _ (.inr ⟨x,ok.free x h,(freeLk x h).symm.trans hl⟩)
    rw [get?_size] at e; cases e
end
section
variable {C:Cx} {Φ:Fm} {σ:St} {ns:List Str} {sl:Slots} {scope:Scope}
structure CPart (C:Cx) (Φ:Fm) (ns:List Str) (scope:Scope) (t:Tgt) (ifs:List Expr) (em:Em) {γ:Type} (tests:Slots -> List Cell -> KB -> Prop) (emit:γ -> Slots -> List Cell -> (γ -> List Cell -> Prop) -> Prop) (Gd:γ -> Gh -> Obj -> Prop) (out:γ -> List Cell -> KV -> Prop) (init:γ):Prop where
 ok:compOkB Φ.env.scope scope = true
 tok:t.ok scope (ownNs scope ++ ns) = true
 tlt:t.lt (ownNs scope).length = true
 hT:∀ r:CR,r.C = C -> r.env.scope = compScope Φ.env.scope scope -> r.ns = ownNs scope ++ ns -> TestsOk r ifs tests
 hE:∀ r:CR,r.C = C -> r.env.scope = compScope Φ.env.scope scope -> r.ns = ownNs scope ++ ns -> r.em = em -> r.own r.D -> ¬ ownAll r.env r.D -> CROk r t -> EmitOk r Gd emit
 G:GdOk Gd
 O:OutOk C.w Gd out
 i0:∀ g,Gd init g (listO [] 0)
theorem z3x {t:Tgt} {sc:Scope} {ns:List Str} (h:t.ok sc ns = true) {x:Str} (hx:t.has x):isOwnB sc x = true:=by
 cases t with
 | nm y i p=>cases (hx:x = y); exact ((Bool.and_eq_true _ _).mp h).1
 | tup xs k p=>obtain ⟨y,hy,rfl⟩:=hx; exact ((Bool.and_eq_true _ _).mp (List.all_eq_true.mp h y hy)).1
theorem own_re {sc scope:Scope} {x:Str} (h:isOwnB scope x = true):isOwnB (compScope sc scope) x = true:=by
 unfold isOwnB at h ⊢
 rw [zd3]
 cases q:scope.names.lookup x with
 | none=>rw [q] at h; cases h
 | some k=>rw [q] at h; cases k <;> first | rfl | cases h
theorem tok_re {sc scope:Scope} {t:Tgt} {ns:List Str} (h:t.ok scope ns = true):t.ok (compScope sc scope) ns = true:=by
 have one:∀ x i,tgt1 scope ns x i = true -> tgt1 (compScope sc scope) ns x i = true:=fun x i h=>(Bool.and_eq_true _ _).mpr ⟨own_re ((Bool.and_eq_true _ _).mp h).1,((Bool.and_eq_true _ _).mp h).2⟩
 cases t with
 | nm x i p=>exact one x i h
 | tup xs k p=>exact List.all_eq_true.mpr fun y hy=>one _ _ (List.all_eq_true.mp h y hy)
theorem zwk {sc scope:Scope} (ok:CompSc sc scope) {x:Str} (h:isOwnB scope x = true) (hk:(compScope sc scope).names.lookup x = some .cell):(x,NameKind.cell) ∈ scope.names:=by
 unfold isOwnB at h
 rw [zd3] at hk
 cases q:scope.names.lookup x with
 | none=>rw [q] at h; cases h
 | some k =>
  rw [q] at h hk
  cases k with
  | cell=>exact zbi q
  | «local»=>exact nomatch (show NameKind.local = NameKind.cell from Option.some.inj hk)
  | _=>cases h
noncomputable abbrev iterEx (C:Cx) (A:Around) (e:Expr) (env:Env) (s:Shared):(Value -> Shared -> Prop) -> (Value -> Shared -> Prop) -> Prop:=fun Q E=>wpAny C.M A (eval e env) (fun x s₁=>wpAny C.M A (pyIter x) Q E s₁) E s
noncomputable def CompK (C:Cx) (A:Around) (σ:St) (K:KV) (E:Value -> Shared -> Prop) (use:Option (Value -> Sem Unit)) (Q:Value -> Shared -> Prop):Prop :=
 ∀ v a σ' L m,Ext σ σ' noOwn -> VRel σ'.g v a -> K v σ'.g.cs -> σ'.s.heap.Ns L m -> σ'.g.hf L = none -> (∀ l,l < σ'.g.cs.length -> σ'.g.ρ l ≠ L) -> σ.s.heap.get? L = none -> compPost C.M A E use Q a L (.ok .next) σ'.s
theorem sys_ne (S:Std C Φ (look ns sl) σ) (lo:∃ o,C.base cStatics = some o) {D:Addr} (h:σ.s.heap.objs.size <= D):(D == sysModules) = false:=by
 obtain ⟨o,e⟩:=lo
 have h1:cStatics < σ.s.heap.objs.size:=Heap.lt_size (S.H.fz _ _ (S.B.hf _ _ e))
 exact beq_false_of_ne (Nat.ne_of_gt (Nat.lt_trans (by decide) (Nat.lt_of_lt_of_le h1 h)))
theorem zkw (lo:∃ o,C.base cStatics = some o) (S:Std C Φ (look ns sl) σ) {t:Tgt} {iter:Expr} {ifs:List Expr} {elt:Expr} {gs:List Comprehension} {em:Em} {γ:Type} {tests:Slots -> List Cell -> KB -> Prop} {emit:γ -> Slots -> List Cell -> (γ -> List Cell -> Prop) -> Prop} {Gd:γ -> Gh -> Obj -> Prop} {out:γ -> List Cell -> KV -> Prop} {init:γ} {pos fp:Pos} {K:KV}
  (eq:ClEq ⟨elt,⟨t.ast,iter,ifs,0⟩ :: gs,scope,pos,0⟩ t.ast iter ifs em) (P:CPart C Φ ns scope t ifs em tests emit Gd out init) (hfold:∀ x,foldedSetIterable iter Φ.env x = pure x)
  (hi:ItRuns C Φ.A t σ (iterEx C Φ.A iter Φ.env σ.s) fun src cs=>CompR t tests emit (List.replicate (ownNs scope).length none ++ sl) (fun acc cs=>out acc cs K) init src cs)
  {use:Option (Value -> Sem Unit)} {Q:Value -> Shared -> Prop} {E:Value -> Shared -> Prop} (k:CompK C Φ.A σ K E use Q) :
  wpAny C.M Φ.A (comprehension (.ListComp elt (⟨t.ast,iter,ifs,0⟩ :: gs) scope pos) scope Φ.env fp (newList []) false (eval iter Φ.env) use) Q E σ.s:=by
 have ok:=zui P.ok
 refine wpAny_comprehension_free (g:=⟨t.ast,iter,ifs,0⟩) (gs:=gs) rfl hfold (ziy S ok).1 ok.kind (fun x hx hl=>by have:=ok.uniq x.1 x.2 hx; rw [hl] at this; exact this) ?_
 refine hi _ _ fun src it os Pt σ2 X2 I p fr q=>?_
 have S2:=S.ext X2
 refine wpAny_newObj_type (zyq (s:={ σ2.s with heap:=σ2.s.heap.push (listO [] 0) }) (fun x a h=>?_) (fun x y a hx hy=>?_) fun cells h4 CI=>?_)
 ·rw [(ziy S ok).2] at h
  split at h
  ·rename_i hm
   obtain ⟨o,e⟩:=S2.F.alive a (.inr ⟨x,ok.free x hm,h⟩)
   exact Heap.lt_size (Heap.get?_push_of_some _ e)
  ·cases h
 ·rw [(ziy S ok).2] at hx hy
  split at hx
  ·rename_i h1
   split at hy
   ·rename_i h2; exact S.F.capart x y a (ok.free x h1) (ok.free y h2) hx hy
   ·cases hy
  ·cases hx
 rw [zo7]
 have CF:=cframe S2 ok CI rfl σ2.s.toks
 have k24:∀ a o,σ2.s.heap.get? a = some o -> h4.get? a = some o:=fun a o e=>CI.k a o (Heap.get?_push_of_some _ e)
 have szL:(σ2.s.heap.push (listO [] 0)).objs.size = σ2.s.heap.objs.size + 1:=Heap.size_push ..
 let D:=σ2.s.heap.objs.size
 let L:=(σ2.s.heap.push (listO [] 0)).objs.size
 let own:Addr -> Prop:=fun a=>a = D \/ a = L \/ ∃ x,(x,NameKind.cell) ∈ scope.names /\ cells.lookup x = some a
 have own2:∀ a,own a -> (∃ o,h4.get? a = some o) /\ σ2.s.heap.get? a = none:=fun a ha=>by
  rcases ha with rfl | rfl | ⟨x,hx,hl⟩
  ·exact ⟨⟨_,CI.k _ _ (Heap.get?_push_size _ rfl)⟩,get?_size _⟩
  ·exact ⟨⟨_,CI.l⟩,get?_ge (Nat.le_trans (Nat.le_succ _) (Nat.le_of_eq szL.symm))⟩
  ·cases CI.c x with
   | new q1 a' q2 q3 q4=>cases q2.symm.trans hl; exact ⟨⟨_,q3⟩,get?_ge (Nat.le_of_lt (Nat.lt_trans (szL ▸ Nat.lt_succ_self _) q4))⟩
   | old q=>exact absurd hx q
 have own0:∀ a,own a -> σ.s.heap.get? a = none:=fun a ha=>X2.dead (own2 a ha).2
 let r:CR:=⟨C,Φ.A,cenvOf Φ.env scope L cells,ownNs scope ++ ns,own,D,⟨elt,⟨t.ast,iter,ifs,0⟩ :: gs,scope,pos,0⟩,em⟩
 have oD:own D:=.inl rfl
 have R:CROk r t:=⟨oD,CF.nD,.inr (.inl rfl),fun x hx c' hk hc=>.inr (.inr ⟨x,zwk ok (z3x P.tok hx) hk,hc⟩),tok_re P.tok⟩
 have W:OwnP own (σ2.up h4 σ2.s.toks σ2.g):=fun a ha=>⟨(own2 a ha).1,S2.H.hf_none (own2 a ha).2,fun l hl=>S2.H.ne hl (own2 a ha).2,S2.H.nfl (own2 a ha).2⟩
 have x24:Ext σ2 (σ2.up h4 σ2.s.toks σ2.g) noOwn:=Ext.keeps S2.H k24
 have O4:=(I.own _ _ p).ext x24
 have no:∀ a ∈ os,¬ ownAll r.env a /\ ¬ own a:=fun a ha=>by
  obtain ⟨⟨o,e⟩,_⟩:=I.own _ _ p a ha
  have n2:¬ own a:=fun z=>(by rw [(own2 a z).2] at e; cases e)
  refine ⟨fun z=>?_,n2⟩
  rcases CF.own a z with z | ⟨x,hx,hl,_⟩ | z
  ·exact n2 (.inr (.inl z))
  ·exact n2 (.inr (.inr ⟨x,hx,hl⟩))
  ·obtain ⟨o',e'⟩:=S.F.alive a z
   rw [fr a ha] at e'; cases e'
 have X4:Ext σ (σ2.up h4 σ2.s.toks σ2.g) own:=(X2.trans x24).mono fun _ z=>z.elim
 have T0:TurnSt r (look r.ns (List.replicate (ownNs scope).length none ++ sl)) Gd init (σ2.up h4 σ2.s.toks σ2.g):=⟨CF.S,W,(listO [] 0),CI.k _ _ (Heap.get?_push_size _ rfl),P.i0 _⟩
 have loop:TurnsOk C Φ.A r.k (.ref it) D r.env (compPost C.M Φ.A E use Q (.ref D) L) (σ2.up h4 σ2.s.toks σ2.g).s:=by
  refine zm4 (r:=r) eq I P.G R (P.hT r rfl rfl rfl) (P.hE r rfl rfl rfl rfl oD CF.nD R) (fun v sl1 b x u e=>?_) no fr (fun acc σ' X S' q'=>?_) q rfl (I.ext _ _ _ _ p S2.H x24 fun a _ z=>z) T0 X4
  ·obtain ⟨pre',hp',rfl⟩:=zuu P.tlt List.length_replicate b
   exact zsn (ownNs scope) ns (List.replicate (ownNs scope).length none) pre' sl List.length_replicate hp' (fun v z=>nomatch List.eq_of_mem_replicate z) e
  ·obtain ⟨v,σ'',gv⟩:=P.O acc σ σ' own D K X S'.W oD (own0 D oD) S'.S.B.pr (sys_ne S2 lo (Nat.le_refl _)) S'.at_ q'
   obtain ⟨m,hn,_⟩:=S'.S.F.ns
   have hLD:L ≠ D:=fun z=>absurd (szL.symm.trans z) (Nat.succ_ne_self _)
   have oL:own L:=.inr (.inl rfl)
   have:=k v (.ref D) σ'' L m (gv.X.drop_own own0) gv.r gv.q (gv.s ▸ hn) (gv.nhf L hLD (S'.W L oL).2.1) (gv.nce L hLD (S'.W L oL).2.2.1) (own0 L oL)
   rw [gv.s] at this
   exact this
 exact zpv loop ((I.self _ _ _ S.O.hh (I.ext _ _ _ _ p S2.H x24 fun a _ z=>z)))
end
section
variable {C:Cx} {Φ:Fm} {σ σ':St} {ns:List Str} {sl:Slots} {scope:Scope}
theorem zzq {own:Addr -> Prop} {L:Addr} {m:Str -> Option Value} {h':Heap} (X:Ext σ σ' own) (hn:σ'.s.heap.Ns L m) (n1:σ'.g.hf L = none) (n2:∀ l,l < σ'.g.cs.length -> σ'.g.ρ l ≠ L) (fr:σ.s.heap.get? L = none) (H:HRel σ.g σ.s.heap) (hs:Heap.SameBut L σ'.s.heap h'):Ext σ (σ'.up h' σ'.s.toks σ'.g) own:=by
 refine X.fin (os:=[L]) (fun a ha=>?_) (fun b o hb e=>hs.extBut b o (fun z=>hb (z ▸ List.mem_cons_self)) e) fun a ha=>mem1 ha ▸ fr
 cases mem1 ha
 obtain ⟨o,_,_,e,_⟩:=hn
 exact ⟨⟨o,e⟩,n1,n2,X.le.fl.symm ▸ H.nfl fr⟩
structure CIn (C:Cx) (Φ:Fm) (ns:List Str) (scope:Scope) (pos:Pos) (t:Tgt) (iter:Expr) (ifs:List Expr) (elt:Expr) (gs:List Comprehension) (em:Em) {γ:Type} (tests:Slots -> List Cell -> KB -> Prop) (emit:γ -> Slots -> List Cell -> (γ -> List Cell -> Prop) -> Prop) (Gd:γ -> Gh -> Obj -> Prop) (out:γ -> List Cell -> KV -> Prop) (init:γ) (src:Slots -> List Cell -> KS -> Prop):Prop where
 eq:ClEq ⟨elt,⟨t.ast,iter,ifs,0⟩ :: gs,scope,pos,0⟩ t.ast iter ifs em
 P:CPart C Φ ns scope t ifs em tests emit Gd out init
 lo:∃ o,C.base cStatics = some o
 fold:∀ x,foldedSetIterable iter Φ.env x = pure x
 hi:∀ sl σ K,Std C Φ (look ns sl) σ -> src sl σ.g.cs K -> ItRuns C Φ.A t σ (iterEx C Φ.A iter Φ.env σ.s) K
variable {pos:Pos} {t:Tgt} {iter:Expr} {ifs:List Expr} {elt:Expr} {gs:List Comprehension} {em:Em} {γ:Type} {tests:Slots -> List Cell -> KB -> Prop} {emit:γ -> Slots -> List Cell -> (γ -> List Cell -> Prop) -> Prop} {Gd:γ -> Gh -> Obj -> Prop} {out:γ -> List Cell -> KV -> Prop} {init:γ} {src:Slots -> List Cell -> KS -> Prop}
noncomputable def compV (scope:Scope) (t:Tgt) {γ:Type} (tests:Slots -> List Cell -> KB -> Prop) (emit:γ -> Slots -> List Cell -> (γ -> List Cell -> Prop) -> Prop) (out:γ -> List Cell -> KV -> Prop) (init:γ) (src:Slots -> List Cell -> KS -> Prop):Slots -> List Cell -> KV -> Prop :=
 fun sl cs K=>src sl cs fun s cs=>CompR t tests emit (List.replicate (ownNs scope).length none ++ sl) (fun acc cs=>out acc cs K) init s cs
theorem zmm (I:CIn C Φ ns scope pos t iter ifs elt gs em tests emit Gd out init src):ValOk C Φ ns (.ListComp elt (⟨t.ast,iter,ifs,0⟩ :: gs) scope pos) (compV scope t tests emit out init src):=by
 intro sl σ K S q Q E k
 rw [eval_ListComp]
 exact zkw I.lo S I.eq I.P I.fold (I.hi _ _ _ S q) fun v a σ' L m X r q hn n1 n2 fr=>⟨m,hn,fun h' hs=>k v a _ (zzq X hn n1 n2 fr S.H hs) r q⟩
theorem zyp (I:CIn C Φ ns scope pos t iter ifs elt gs em tests emit Gd out init src) {K:KV} (S:Std C Φ (look ns sl) σ) (q:compV scope t tests emit out init src sl σ.g.cs K) {use:Value -> Sem Unit} {L':V -> Str -> Option V}
  (hu:∀ v a σ',Ext σ σ' noOwn -> VRel σ'.g v a -> K v σ'.g.cs -> BindsOk C Φ (L' v) (ownOf Φ.env) σ' (use a)) {Q:Value -> Shared -> Prop} {E:Value -> Shared -> Prop}
  (k:∀ v σ',Ext σ σ' (ownOf Φ.env) -> K v σ'.g.cs -> Std C Φ (L' v) σ' -> Q .none σ'.s) :
  wpAny C.M Φ.A (comprehension (.ListComp elt (⟨t.ast,iter,ifs,0⟩ :: gs) scope pos) scope Φ.env (firstIterPos (⟨t.ast,iter,ifs,0⟩ :: gs) pos) (newList []) false (eval iter Φ.env) (some use)) Q E σ.s:=by
 refine zkw I.lo S I.eq I.P I.fold (I.hi _ _ _ S q) fun v a σ1 L m X r q hn n1 n2 fr=>?_
 have nO:¬ ownAll Φ.env L:=fun z=>by
  obtain ⟨o,e⟩:=S.F.alive L z
  rw [fr] at e; cases e
 refine hu v a σ1 X r q _ _ fun σ2 X2 c2 S2=>?_
 have hn2:=X2.ns hn n2 fun z=>nO (zkd _ z)
 obtain ⟨o,_,_,e,_⟩:=hn
 refine ⟨m,hn2,fun h' hs=>?_⟩
 have Y:=zzq ((X.mono fun _ z=>z.elim).trans X2) hn2 (X2.nhf e n1) (X2.nce e n2) fr S.H hs
 exact k v (σ2.up h' σ2.s.toks σ2.g) Y (c2 ▸ q) ⟨S2.F.keepH fun b o hb e=>hs.extBut b o (fun z=>nO (z ▸ hb)) e,Y.H,S2.B,S2.O⟩
end
structure ED where
 ast:Expr
 opt:Option Expr
 wf:Scope -> List Str -> Bool
 val:Slots -> List Cell -> KV -> Prop
 tst:Slots -> List Cell -> KB -> Prop
 src:Tgt -> Slots -> List Cell -> KS -> Prop
noncomputable def ED.dfl (ast:Expr) (wf:Scope -> List Str -> Bool) (val:Slots -> List Cell -> KV -> Prop):ED :=
 ⟨ast,some ast,wf,val,fun sl cs K=>val sl cs fun v cs=>truthK cs v K,fun _ sl cs K=>val sl cs fun v cs=>∃ s,SrcR cs v s /\ K s cs⟩
structure Plain (a:Expr):Prop where
 fold:∀ env x,foldedSetIterable a env x = pure x
 star:∀ es env,starEach (a :: es) env = (false,eval a env) :: starEach es env
 marks:∀ op,behindInMarks op a = false
 base:∀ attr env w,attributeBase a attr env w = w
structure EOk (C:Cx) (Φ:Fm) (ns:List Str) (e:ED):Prop where
 val:ValOk C Φ ns e.ast e.val
 tst:TstOk C Φ ns e.ast e.tst
 src:∀ t sl σ K,Std C Φ (look ns sl) σ -> e.src t sl σ.g.cs K -> ItRuns C Φ.A t σ (iterEx C Φ.A e.ast Φ.env σ.s) K
 pl:Plain e.ast
 opt:e.opt = some e.ast \/ (e.opt = none /\ e.val = fun _ cs K=>K .none cs)
noncomputable def EGood (C:Cx) (e:ED):Prop:=∀ Φ ns,e.wf Φ.env.scope ns = true -> EOk C Φ ns e
noncomputable def DefOk (a:Expr):Prop:=∀ env,isTrue a env (eval a env) = (do let v <- eval a env; standAt a.pos; holding [v] (truthy v))
section
variable {C:Cx} {Φ:Fm} {ns:List Str} {σ:St}
theorem zzg {a:Expr} {val:Slots -> List Cell -> KV -> Prop} (D:DefOk a) (h:ValOk C Φ ns a val):TstOk C Φ ns a fun sl cs K=>val sl cs fun v cs=>truthK cs v K:=fun sl σ K S q Q E k =>
 wpAny_isTrue_value (h sl σ _ S q _ _ fun v a σ' X r q=>zhm X.H r q fun b tk q=>k b b (σ'.up σ'.s.heap tk σ'.g) (X.trans (Ext.tok X.H)) rfl q) (D _)
theorem zzm {a:Expr} {val:Slots -> List Cell -> KV -> Prop} (h:ValOk C Φ ns a val) (t:Tgt) (sl:Slots) (σ:St) (K:KS) (S:Std C Φ (look ns sl) σ) (q:val sl σ.g.cs fun v cs=>∃ s,SrcR cs v s /\ K s cs):ItRuns C Φ.A t σ (iterEx C Φ.A a Φ.env σ.s) K:=fun Q E k =>
 h sl σ _ S q _ _ fun v a σ' X r q=>by
  obtain ⟨s,e,q⟩:=q
  exact src_ok t e X.H r q _ _ fun s it os P σ2 X2 I p fr q=>k s it os P σ2 (X.trans X2) I p (fun a ha=>X.dead (fr a ha)) q
theorem EOk.dfl {a:Expr} {wf:Scope -> List Str -> Bool} {val:Slots -> List Cell -> KV -> Prop} (pl:Plain a) (D:DefOk a) (h:ValOk C Φ ns a val):EOk C Φ ns (ED.dfl a wf val) :=
 ⟨h,zzg D h,zzm h,pl,.inl rfl⟩
theorem EOk.tdfl {a:Expr} {wf:Scope -> List Str -> Bool} {val:Slots -> List Cell -> KV -> Prop} {tst:Slots -> List Cell -> KB -> Prop} (pl:Plain a) (h:ValOk C Φ ns a val) (ht:TstOk C Φ ns a tst):EOk C Φ ns { ED.dfl a wf val with tst:=tst } :=
 ⟨h,ht,zzm h,pl,.inl rfl⟩
theorem notB {b:Bool} (h:(!b) = true):b = false:=by cases b with | false=>rfl | true=>cases h
noncomputable def constV (c:Const):V:=Const.rec (motive:=fun _=>V) .none (fun b=>.bool b) (fun i=>.int i) (fun _=>.none) (fun _ _=>.none) (fun x=>.str x) (fun _=>.none) .none c
noncomputable def constB (c:Const):Bool:=Const.rec (motive:=fun _=>Bool) true (fun b=>true) (fun i=>true) (fun _=>false) (fun _ _=>false) (fun x=>Nat.ble x.length lim) (fun _=>false) false c
noncomputable def ED.con (c:Const) (k:Nat) (p:Pos):ED:=.dfl (.Constant c k p) (fun _ _=>constB c) fun _ cs K=>K (constV c) cs
theorem zn4 (c:Const) (k:Nat) (p:Pos):EGood C (.con c k p):=fun Φ ns w=>.dfl ⟨fun _ _=>rfl,fun _ _=>rfl,fun _=>rfl,fun _ _ _=>rfl⟩ (fun _=>rfl) fun sl σ K S q=>by
 cases c with
 | none=>exact Runs.still S.H (fun Q E k=>wpAny_Constant_none (k _)) (fun _=>.none) q
 | bool=>exact Runs.still S.H (fun Q E k=>wpAny_Constant_bool (k _)) (fun _=>.bool _) q
 | int=>exact Runs.still S.H (fun Q E k=>wpAny_Constant_int (k _)) (fun _=>.int _ _) q
 | str x=>exact Runs.still S.H (fun Q E k=>wpAny_Constant_str (k _)) (fun _=>.str _ _ (Nat.ble_eq.mp w)) q
 | _=>cases w
noncomputable def ED.absent:ED:={ ED.con .none 0 default with opt:=none }
theorem zmt:EGood C .absent:=fun Φ ns w =>
 have h:=zn4 (C:=C) .none 0 default Φ ns rfl
 ⟨h.val,h.tst,h.src,h.pl,.inr ⟨rfl,rfl⟩⟩
noncomputable def kindB (sc:Scope) (x:Str):Bool:=Option.rec false (fun k=>NameKind.rec true true (!(x == ("__classdict__" : Str))) false false k) (sc.names.lookup x)
noncomputable def atS (sl:Slots) (i:Nat) (k:V -> Prop):Prop:=Option.rec False k (sl[i]?).join
noncomputable def ED.loc (x:Str) (i:Nat) (p:Pos):ED:=.dfl (.Name x p) (fun sc ns=>(kindB sc x && !(x == ("__debug__" : Str))) && slotOk ns x i) fun sl cs K=>atS sl i fun v=>K v cs
theorem zxb {env:Env} {x:Str} (h:kindB env.scope x = true):isL env x \/ (env.kindOf x = some .free /\ (x == ("__classdict__" : Str)) = false):=by
 unfold kindB at h
 have e:env.kindOf x = env.scope.names.lookup x:=rfl
 unfold isL
 rw [e]
 cases q:env.scope.names.lookup x with
 | none=>rw [q] at h; cases h
 | some k =>
  rw [q] at h
  cases k with
  | «local»=>exact .inl (.inl rfl)
  | cell=>exact .inl (.inr rfl)
  | free=>exact .inr ⟨rfl,notB h⟩
  | _=>cases h
theorem zfa (x:Str) (i:Nat) (p:Pos):EGood C (.loc x i p):=fun Φ ns w=>.dfl ⟨fun _ _=>rfl,fun _ _=>rfl,fun _=>rfl,fun _ _ _=>rfl⟩ (fun _=>rfl) fun sl σ K S q Q E k=>by
 have w':=(Bool.and_eq_true _ _).mp w
 have w1:=(Bool.and_eq_true _ _).mp w'.1
 refine wpAny_Name ?_ (notB w1.2)
 have hi:ns.idxOf x = i:=eq_of_beq ((Bool.and_eq_true _ _).mp w'.2).1
 have q':Option.rec (motive:=fun _=>Prop) False (fun v=>K v σ.g.cs) (sl[i]?).join:=q
 have e:look ns sl x = (sl[i]?).join:=hi ▸ rfl
 cases h:(sl[i]?).join with
 | none=>rw [h] at q'; exact q'.elim
 | some v=>rw [h] at q' e; exact z3j S (zxb w1.1) e q' Q E k
noncomputable def GlobAt (C:Cx) (x:Str) (v:V):Prop:=∀ (Φ:Fm) (σ:St) (K:KV),Φ.env.globals = mainGlobals -> Φ.env.builtins = builtinsNs -> Φ.env.scope.kind = .function -> Φ.env.kindOf x = some .globalImplicit -> HRel σ.g σ.s.heap -> Base C σ.g -> K v σ.g.cs -> Runs C Φ.A σ noOwn (loadName Φ.env x) VR K
noncomputable def globB (sc:Scope) (x:Str):Bool:=Option.rec false (fun k=>NameKind.rec false false false false true k) (sc.names.lookup x)
noncomputable def ED.glob (P:Prm) (x:Str) (i:Nat) (p:Pos):ED:=.dfl (.Name x p) (fun sc _=>(globB sc x && !(x == ("__debug__" : Str))) && Option.rec false (fun q=>q.1 == x) P.globs[i]?) fun _ cs K=>Option.rec False (fun q=>K q.2 cs) P.globs[i]?
theorem zf7 {P:Prm} (G:∀ x v,(x,v) ∈ P.globs -> GlobAt C x v) (x:Str) (i:Nat) (p:Pos):EGood C (.glob P x i p):=fun Φ ns w=>.dfl ⟨fun _ _=>rfl,fun _ _=>rfl,fun _=>rfl,fun _ _ _=>rfl⟩ (fun _=>rfl) fun sl σ K S q Q E k=>by
 have w':=(Bool.and_eq_true _ _).mp w
 have w1:=(Bool.and_eq_true _ _).mp w'.1
 refine wpAny_Name ?_ (notB w1.2)
 have q':Option.rec (motive:=fun _=>Prop) False (fun q=>K q.2 σ.g.cs) P.globs[i]?:=q
 have w2:Option.rec (motive:=fun _=>Bool) false (fun q=>q.1 == x) P.globs[i]? = true:=w'.2
 have hk:Φ.env.kindOf x = some .globalImplicit:=by
  have w3:Option.rec (motive:=fun _=>Bool) false (fun k=>NameKind.rec false false false false true k) (Φ.env.scope.names.lookup x) = true:=w1.1
  show Φ.env.scope.names.lookup x = _
  cases z:Φ.env.scope.names.lookup x with
  | none=>rw [z] at w3; cases w3
  | some k=>rw [z] at w3; cases k <;> first | rfl | cases w3
 cases h:P.globs[i]? with
 | none=>rw [h] at q'; exact q'.elim
 | some y =>
  rw [h] at q' w2
  have hx:y.1 = x:=eq_of_beq w2
  subst hx
  exact G y.1 y.2 (List.mem_of_getElem? h) Φ σ K S.F.glo S.F.blt S.F.kind hk S.H S.B q' Q E k
noncomputable def ED.bin (c:Bool) (l:ED) (op:Operator) (r:ED) (p:Pos):ED:=.dfl (.BinOp l.ast op r.ast p) (fun sc ns=>l.wf sc ns && r.wf sc ns) fun sl cs K=>l.val sl cs fun a cs=>r.val sl cs fun b cs=>BinR c cs K op a b
theorem both {C:Cx} {Φ:Fm} {ns:List Str} {l r:ED} (hl:EGood C l) (hr:EGood C r) (w:(l.wf Φ.env.scope ns && r.wf Φ.env.scope ns) = true):EOk C Φ ns l /\ EOk C Φ ns r:=⟨hl _ _ ((Bool.and_eq_true _ _).mp w).1,hr _ _ ((Bool.and_eq_true _ _).mp w).2⟩
theorem zdo {l r:ED} (O:EOk C Φ ns l /\ EOk C Φ ns r) {sl:Slots} (S:Std C Φ (look ns sl) σ) {T:V -> V -> List Cell -> Prop} (q:l.val sl σ.g.cs fun a cs=>r.val sl cs fun b cs=>T a b cs) {Q:Value -> Value -> Shared -> Prop} {E:Value -> Shared -> Prop}
  (k:∀ a b a' b' σ',Ext σ σ' noOwn -> Std C Φ (look ns sl) σ' -> VRel σ'.g a a' -> VRel σ'.g b b' -> T a b σ'.g.cs -> Q a' b' σ'.s):wpAny C.M Φ.A (eval l.ast Φ.env) (fun a s=>wpAny C.M Φ.A (eval r.ast Φ.env) (fun b s=>Q a b s) E s) E σ.s :=
 O.1.val sl σ _ S q _ _ fun a a' σ1 X1 ra q1=>O.2.val sl σ1 _ (S.ext X1) q1 _ _ fun b b' σ2 X2 rb q2=>k a b a' b' σ2 (X1.trans X2) ((S.ext X1).ext X2) (ra.mono X2.le) rb q2
theorem zy2 (c:Bool) {l r:ED} (op:Operator) (p:Pos) (hl:EGood C l) (hr:EGood C r):EGood C (.bin c l op r p):=fun Φ ns w=>.dfl ⟨fun _ _=>rfl,fun _ _=>rfl,fun _=>rfl,fun _ _ _=>rfl⟩ (fun _=>rfl) fun sl σ K S q Q E k =>
 wpAny_BinOp (zdo (both hl hr w) S q fun a b a' b' σ' X S' ra rb e=>z0u e S'.H ra rb Q E fun v x σ'' Y r q=>k v x σ'' (X.trans Y) r q)
noncomputable def ED.un (op:UnaryOp) (e:ED) (p:Pos):ED:=.dfl (.UnaryOp op e.ast p) (fun sc ns=>!(op == .Not) && e.wf sc ns) fun sl cs K=>e.val sl cs fun a cs=>UnR cs K op a
theorem z1j (op:UnaryOp) {e:ED} (p:Pos) (h:EGood C e):EGood C (.un op e p):=fun Φ ns w=>by
 have w':=(Bool.and_eq_true _ _).mp w
 refine .dfl ⟨fun _ _=>rfl,fun _ _=>rfl,fun _=>rfl,fun _ _ _=>rfl⟩ (fun _=>?_) fun sl σ K S q Q E k=>wpAny_UnaryOp ((h Φ ns w'.2).val sl σ _ S q _ _ fun a a' σ1 X1 ra q1=>un_ok q1 X1.H ra Q E fun v x σ'' Y r q=>k v x σ'' (X1.trans Y) r q)
 cases op with
 | Not=>cases w'.1
 | _=>rfl
end
section
variable {C:Cx} {Φ:Fm} {ns:List Str} {σ:St}
noncomputable def EAll (C:Cx) (es:List ED):Prop:=∀ e ∈ es,EGood C e
noncomputable def wfs (es:List ED) (sc:Scope) (ns:List Str):Bool:=es.all fun e=>e.wf sc ns
theorem EAll.ok {es:List ED} (h:EAll C es) (w:wfs es Φ.env.scope ns = true):∀ e ∈ es,EOk C Φ ns e:=fun e he=>h e he Φ ns (List.all_eq_true.mp w e he)
noncomputable def ED.not (e:ED) (p:Pos):ED:={ ED.dfl (.UnaryOp .Not e.ast p) e.wf (fun sl cs K=>e.val sl cs fun v cs=>truthK cs v fun b cs=>K (.bool !b) cs) with tst:=fun sl cs K=>e.tst sl cs fun b cs=>K (!b) cs }
theorem zwr {e:ED} (p:Pos) (h:EGood C e):EGood C (.not e p):=fun Φ ns w=>.tdfl ⟨fun _ _=>rfl,fun _ _=>rfl,fun _=>rfl,fun _ _ _=>rfl⟩
 (fun sl σ K S q Q E k=>wpAny_UnaryOp ((h Φ ns w).val sl σ _ S q _ _ fun a a' σ1 X1 ra q1=>not_value (zhm X1.H ra q1 fun b tk q=>k _ _ (σ1.up σ1.s.heap tk σ1.g) (X1.trans (Ext.tok X1.H)) (.bool _) q)))
 (fun sl σ K S q Q E k=>wpAny_isTrue_Not ((h Φ ns w).tst sl σ _ S q _ _ fun b b' σ1 X1 rb q1=>k _ _ σ1 X1 (congrArg (! ·) rb) q1))
noncomputable def boolT (op:BoolOp) (es:List ED):Slots -> List Cell -> KB -> Prop :=
 List.rec (fun _ cs K=>BoolOp.rec (motive:=fun _=>Prop) (K true cs) (K false cs) op) (fun e _ ih sl cs K=>e.tst sl cs fun b cs=>BoolOp.rec (motive:=fun _=>Prop) (Bool.rec (K false cs) (ih sl cs K) b) (Bool.rec (ih sl cs K) (K true cs) b) op) es
theorem zy0 (op:BoolOp) (es:List ED):∀ {σ:St} (sl:Slots) (K:KB),(∀ e ∈ es,EOk C Φ ns e) -> Std C Φ (look ns sl) σ -> boolT op es sl σ.g.cs K -> Runs C Φ.A σ noOwn (allTrue op (es.map ED.ast) Φ.env) BR K:=by
 induction es with
 | nil =>
  intro σ sl K _ S q Q E k
  cases op with
  | And=>exact wpAny_pure (k _ _ σ (Ext.refl S.H _) rfl q)
  | Or=>exact wpAny_pure (k _ _ σ (Ext.refl S.H _) rfl q)
 | cons e es ih =>
  intro σ sl K O S q Q E k
  have O':=fun x hx=>O x (List.mem_cons_of_mem _ hx)
  have go:∀ σ1,Ext σ σ1 noOwn -> boolT op es sl σ1.g.cs K -> wpAny C.M Φ.A (allTrue op (es.map ED.ast) Φ.env) Q E σ1.s:=fun σ1 X1 q1=>ih sl K O' (S.ext X1) q1 Q E fun b b' σ2 X2 r q2=>k b b' σ2 (X1.trans X2) r q2
  cases op with
  | And=>exact wpAny_allTrue_And_cons ((O e List.mem_cons_self).tst sl σ _ S q _ _ fun b b' σ1 X1 rb q1=>by
    cases (rb:b' = b)
    cases b with
    | false=>exact k _ _ σ1 X1 rfl q1
    | true=>exact go σ1 X1 q1)
  | Or=>exact wpAny_allTrue_Or_cons ((O e List.mem_cons_self).tst sl σ _ S q _ _ fun b b' σ1 X1 rb q1=>by
    cases (rb:b' = b)
    cases b with
    | false=>exact go σ1 X1 q1
    | true=>exact k _ _ σ1 X1 rfl q1)
noncomputable def boolV (op:BoolOp) (es:List ED):Slots -> List Cell -> KV -> Prop :=
 List.rec (motive:=fun _=>Slots -> List Cell -> KV -> Prop) (fun _ _ _=>False) (fun e rest ih sl cs K=>List.rec (motive:=fun _=>Prop) (e.val sl cs K) (fun _ _ _=>e.val sl cs fun v cs=>truthK cs v fun b cs=>BoolOp.rec (motive:=fun _=>Prop) (Bool.rec (K v cs) (ih sl cs K) b) (Bool.rec (ih sl cs K) (K v cs) b) op) rest) es
theorem zyz (p:Pos) (op:BoolOp) (es:List ED):∀ {σ:St} (sl:Slots) (K:KV),(∀ e ∈ es,EOk C Φ ns e) -> Std C Φ (look ns sl) σ -> boolV op es sl σ.g.cs K -> Runs C Φ.A σ noOwn (boolOp p op (evalEach (es.map ED.ast) Φ.env)) VR K:=by
 induction es with
 | nil=>exact fun sl K _ S q=>q.elim
 | cons e es ih =>
  intro σ sl K O S q
  have O1:=O e List.mem_cons_self
  have O':=fun x hx=>O x (List.mem_cons_of_mem _ hx)
  cases es with
  | nil=>exact O1.val sl σ K S q
  | cons e2 es =>
   intro Q E k
   show wpAny _ _ (do let v <- eval e.ast Φ.env; standAt p; let t <- holding [v] (truthy v); match op,t with | .And,false | .Or,true=>pure v | _,_=>boolOp p op (evalEach ((e2 :: es).map ED.ast) Φ.env)) _ _ _
   refine wpAny_bind (O1.val sl σ _ S q _ _ fun v v' σ1 X1 rv q1=>wpAny_bind (wpAny_standAt (wpAny_bind (wpAny_holding (zhm X1.H rv q1 fun b tk q2=>?_)))))
   have X2:Ext σ (σ1.up σ1.s.heap tk σ1.g) noOwn:=X1.trans (Ext.tok X1.H)
   have go:boolV op (e2 :: es) sl σ1.g.cs K -> wpAny C.M Φ.A (boolOp p op (evalEach ((e2 :: es).map ED.ast) Φ.env)) Q E { σ1.s with toks:=tk }:=fun q3=>ih sl K O' (S.ext X2) q3 Q E fun w w' σ3 X3 r3 q4=>k w w' σ3 (X2.trans X3) r3 q4
   cases op <;> cases b
   ·exact wpAny_pure (k v v' (σ1.up σ1.s.heap tk σ1.g) X2 rv q2)
   ·exact go q2
   ·exact go q2
   ·exact wpAny_pure (k v v' (σ1.up σ1.s.heap tk σ1.g) X2 rv q2)
noncomputable def ED.bools (op:BoolOp) (es:List ED) (p:Pos):ED:={ ED.dfl (.BoolOp op (es.map ED.ast) p) (wfs es) (boolV op es) with tst:=boolT op es }
theorem zpw (op:BoolOp) {es:List ED} (p:Pos) (h:EAll C es):EGood C (.bools op es p):=fun Φ ns w=>.tdfl ⟨fun _ _=>rfl,fun _ _=>rfl,fun _=>rfl,fun _ _ _=>rfl⟩ (fun sl σ K S q=>zyz p op es sl K (h.ok w) S q)
 (fun sl σ K S q Q E k=>wpAny_isTrue_BoolOp (zy0 op es sl K (h.ok w) S q Q E k))
noncomputable def ED.ifx (t a b:ED) (p:Pos):ED:={ ED.dfl (.IfExp t.ast a.ast b.ast p) (fun sc ns=>t.wf sc ns && (a.wf sc ns && b.wf sc ns)) (fun sl cs K=>t.tst sl cs fun c cs=>Bool.rec (b.val sl cs K) (a.val sl cs K) c) with tst:=fun sl cs K=>t.tst sl cs fun c cs=>Bool.rec (b.tst sl cs K) (a.tst sl cs K) c }
theorem zxn {t a b:ED} (p:Pos) (ht:EGood C t) (ha:EGood C a) (hb:EGood C b):EGood C (.ifx t a b p):=fun Φ ns w=>by
 have w1:=(Bool.and_eq_true _ _).mp w
 obtain ⟨Oa,Ob⟩:=both ha hb w1.2
 have Ot:=ht Φ ns w1.1
 refine .tdfl ⟨fun _ _=>rfl,fun _ _=>rfl,fun _=>rfl,fun _ _ _=>rfl⟩ (fun sl σ K S q Q E k=>wpAny_IfExp (Ot.tst sl σ _ S q _ _ fun c c' σ1 X1 rc q1=>?_)) (fun sl σ K S q Q E k=>PyProof.Rows.isTrue_IfExp (Ot.tst sl σ _ S q _ _ fun c c' σ1 X1 rc q1=>?_))
 ·cases (rc:c' = c)
  cases c with
  | true=>exact Oa.val sl σ1 _ (S.ext X1) q1 _ _ fun v a σ2 X2 r q2=>k v a σ2 (X1.trans X2) r q2
  | false=>exact Ob.val sl σ1 _ (S.ext X1) q1 _ _ fun v a σ2 X2 r q2=>k v a σ2 (X1.trans X2) r q2
 ·cases (rc:c' = c)
  cases c with
  | true=>exact Oa.tst sl σ1 _ (S.ext X1) q1 _ _ fun v a σ2 X2 r q2=>k v a σ2 (X1.trans X2) r q2
  | false=>exact Ob.tst sl σ1 _ (S.ext X1) q1 _ _ fun v a σ2 X2 r q2=>k v a σ2 (X1.trans X2) r q2
noncomputable def ED.cmp (l:ED) (op:CmpOp) (r:ED) (p:Pos):ED:={ ED.dfl (.Compare l.ast [op] [r.ast] p) (fun sc ns=>l.wf sc ns && r.wf sc ns) (fun sl cs K=>l.val sl cs fun a cs=>r.val sl cs fun b cs=>CmpR cs (fun b cs=>K (.bool b) cs) op a b) with
 tst:=fun sl cs K=>l.val sl cs fun a cs=>r.val sl cs fun b cs=>CmpR cs K op a b }
theorem zyu {l r:ED} (op:CmpOp) (p:Pos) (hl:EGood C l) (hr:EGood C r):EGood C (.cmp l op r p):=fun Φ ns w=>by
 have O:=both hl hr w
 refine .tdfl ⟨fun _ _=>rfl,fun _ _=>rfl,fun _=>rfl,fun _ _ _=>rfl⟩ (fun sl σ K S q Q E k=>wpAny_Compare1 (zdo O S q fun a b a' b' σ' X S' ra rb e=>z0r e S'.H S'.B.pr ra rb S'.O fun r tk q=>k _ _ (σ'.up σ'.s.heap tk σ'.g) (X.trans (Ext.tok X.H)) (.bool _) q) (O.2.pl.marks op))
  (fun sl σ K S q Q E k=>wpAny_isTrue_Compare1 (zdo O S q fun a b a' b' σ' X S' ra rb e=>z0r e S'.H S'.B.pr ra rb S'.O fun r tk q=>wpAny_truthy_bool (k _ _ (σ'.up σ'.s.heap _ σ'.g) (X.trans (Ext.tok X.H)) rfl q)) (O.2.pl.marks op))
noncomputable def vals (es:List ED):Slots -> List Cell -> (List V -> List Cell -> Prop) -> Prop:=List.rec (fun _ cs K=>K [] cs) (fun e _ ih sl cs K=>e.val sl cs fun v cs=>ih sl cs fun vs cs=>K (v :: vs) cs) es
theorem zjw {M:Model} {A:Around} {s:Shared} {x:Sem Value} {rest:List (Bool × Sem Value)} {Q:List Value -> Shared -> Prop} {E:Value -> Shared -> Prop} (h:wpAny M A x (fun a s₁=>wpAny M A (spliced rest) (fun b s₂=>Q (a :: b) s₂) E s₁) E s):wpAny M A (spliced ((false,x) :: rest)) Q E s :=
 wpAny_bind (wpAny_mono h (fun a s₁ h₁=>wpAny_bind (wpAny_pure (wpAny_bind (wpAny_holding (wpAny_mono h₁ (fun b s₂ h₂=>wpAny_pure h₂) fun _ _ x=>x))))) fun _ _ x=>x)
theorem zhl (pos:Pos) (es:List ED):∀ {σ:St} (sl:Slots) (K:List V -> List Cell -> Prop),(∀ e ∈ es,EOk C Φ ns e) -> Std C Φ (look ns sl) σ -> vals es sl σ.g.cs K -> Runs C Φ.A σ noOwn (spliced (backTo pos (starEach (es.map ED.ast) Φ.env))) LR K:=by
 induction es with
 | nil=>exact fun sl K _ S q Q E k=>Calls.spliced_nil (k [] [] _ (Ext.refl S.H _) .nil q)
 | cons e es ih =>
  intro σ sl K O S q Q E k
  have O1:=O e List.mem_cons_self
  rw [List.map_cons,O1.pl.star]
  exact zjw (O1.val sl σ _ S q _ _ fun v v' σ1 X1 r1 q1=>ih sl _ (fun x hx=>O x (List.mem_cons_of_mem _ hx)) (S.ext X1) q1 _ _ fun vs vs' σ2 X2 r2 q2=>k _ _ σ2 (X1.trans X2) (.cons (r1.mono X2.le) r2) q2)
theorem zcz (pos:Pos) {es:List ED} (O:∀ e ∈ es,EOk C Φ ns e):(∀ t ∈ backTo pos (starEach (es.map ED.ast) Φ.env),t.1 = false) /\ (starEach (es.map ED.ast) Φ.env).length = es.length:=by
 induction es with
 | nil=>exact ⟨fun t ht=>(nomatch ht),rfl⟩
 | cons e es ih =>
  rw [List.map_cons,(O e List.mem_cons_self).pl.star]
  obtain ⟨h1,h2⟩:=ih fun x hx=>O x (List.mem_cons_of_mem _ hx)
  refine ⟨fun t ht=>(List.mem_cons.mp ht).elim (fun z=>?_) (h1 t),congrArg (· + 1) h2⟩
  rw [z]
noncomputable def ED.list (c:Bool) (es:List ED) (p:Pos):ED:=.dfl (.List (es.map ED.ast) p) (wfs es) fun sl cs K=>vals es sl cs fun vs cs=>listK c vs cs K
theorem zsq (c:Bool) {es:List ED} (p:Pos) (h:EAll C es):EGood C (.list c es p):=fun Φ ns w=>.dfl ⟨fun _ _=>rfl,fun _ _=>rfl,fun _=>rfl,fun _ _ _=>rfl⟩ (fun _=>rfl) fun sl σ K S q Q E k =>
 wpAny_List (zhl p es sl _ (h.ok w) S q _ _ fun vs vs' σ1 X1 r q1=>by
  obtain ⟨v,σ2,X2,e2,r2,q2⟩:=zg9 (c:=c) (ep:=0) X1.H r (fun a o e=>Heap.get?_push_of_some _ e) (get?_size _) (Heap.get?_push_size _ rfl) q1 σ1.s.toks
  refine ⟨by rw [All2.length r]; exact Nat.le_trans q1.1 zah,?_⟩
  have:=k v _ σ2 (X1.trans X2) r2 q2
  rw [e2] at this
  exact this)
noncomputable def ED.tup (es:List ED) (n:Nat) (p:Pos):ED:=.dfl (.Tuple (es.map ED.ast) n p) (wfs es) fun sl cs K=>vals es sl cs fun vs cs=>vs.length <= lim /\ K (.tup vs) cs
theorem zvq {es:List ED} (n:Nat) (p:Pos) (h:EAll C es):EGood C (.tup es n p):=fun Φ ns w=>.dfl ⟨fun _ _=>rfl,fun _ _=>rfl,fun _=>rfl,fun _ _ _=>rfl⟩ (fun _=>rfl) fun sl σ K S q Q E k =>
 wpAny_Tuple (zhl p es sl _ (h.ok w) S q _ _ fun vs vs' σ1 X1 r q1=>⟨by rw [All2.length r]; exact Nat.le_trans q1.1 zah,
  k _ _ (σ1.up _ σ1.s.toks _) (X1.trans (zf9 (o:=tupO vs' 0) X1.H (fun _ e=>(nomatch e)) rfl _)) (.tup (zal ..) (vmono r (Le.freeze _ _ (X1.H.hf_none (get?_size _)))) q1.1) q1.2⟩)
end
section
variable {C:Cx} {Φ:Fm} {ns:List Str} {σ:St}
noncomputable abbrev KwN:=List (Str × Pos)
noncomputable def kwAst (kn:KwN):List ED -> List Keyword:=List.rec (fun _=>[]) (fun n _ ih es=>List.rec [] (fun e es _=>⟨some n.1,e.ast,n.2⟩ :: ih es) es) kn
noncomputable def kwZip (kn:KwN):List V -> Kws:=List.rec (fun _=>[]) (fun n _ ih vs=>List.rec [] (fun v vs _=>(n.1,v) :: ih vs) vs) kn
structure KwAt (pos:Pos) (kn:KwN) (es:List ED) (env:Env):Prop where
 some:(backToKw pos (keywordEach (kwAst kn es) env)).all (·.1.isSome) = true
 nms:(backToKw pos (keywordEach (kwAst kn es) env)).filterMap (·.1) = kn.map (·.1)
 len:(kwAst kn es).length = kn.length
theorem kw_at (pos:Pos) (env:Env) (kn:KwN):∀ (es:List ED),kn.length = es.length -> KwAt pos kn es env:=by
 induction kn with
 | nil=>exact fun es _=>⟨rfl,rfl,rfl⟩
 | cons n kn ih =>
  intro es h
  cases es with
  | nil=>cases h
  | cons e es =>
   have I:=ih es (Nat.succ.inj h)
   exact ⟨I.some,congrArg (n.1 :: ·) I.nms,congrArg (· + 1) I.len⟩
theorem zsx (pos:Pos) (kn:KwN):∀ (es:List ED) {σ:St} (sl:Slots) (K:List V -> List Cell -> Prop),kn.length = es.length -> (∀ e ∈ es,EOk C Φ ns e) -> Std C Φ (look ns sl) σ -> vals es sl σ.g.cs K -> Runs C Φ.A σ noOwn (evalAll ((backToKw pos (keywordEach (kwAst kn es) Φ.env)).map (·.2))) LR K:=by
 induction kn with
 | nil =>
  intro es σ sl K h O S q
  cases es with
  | nil=>exact fun Q E k=>wpAny_pure (k [] [] _ (Ext.refl S.H _) .nil q)
  | cons=>cases h
 | cons n kn ih =>
  intro es σ sl K h O S q
  cases es with
  | nil=>cases h
  | cons e es =>
   exact fun Q E k=>wpAny_evalAll_cons (wpAny_bind ((O e List.mem_cons_self).val sl σ _ S q _ _ fun v v' σ1 X1 r1 q1=>wpAny_bind (wpAny_standAt (wpAny_pure
    (ih es sl _ (Nat.succ.inj h) (fun x hx=>O x (List.mem_cons_of_mem _ hx)) (S.ext X1) q1 _ _ fun vs vs' σ2 X2 r2 q2=>k _ _ σ2 (X1.trans X2) (.cons (r1.mono X2.le) r2) q2)))))
theorem z0d {g:Gh} (kn:KwN):∀ {vs:List V} {vs':List Value},VRels g vs vs' -> KRel g (kwZip kn vs) ((kn.map (·.1)).zip vs'):=by
 induction kn with
 | nil=>exact fun _=>.nil
 | cons n kn ih =>
  intro vs vs' r
  cases r with
  | nil=>exact .nil
  | cons h r=>exact .cons ⟨rfl,h⟩ (ih r)
structure AR (g:Gh) (p:List V × Kws) (a:Args):Prop where
 pos:VRels g p.1 a.pos
 kw:KRel g p.2 a.kw
theorem zjh {f:Value} (pos:Pos) {es kv:List ED} (kn:KwN) (hk:kn.length = kv.length) (O:∀ e ∈ es,EOk C Φ ns e) (Ok:∀ e ∈ kv,EOk C Φ ns e) {sl:Slots} (S:Std C Φ (look ns sl) σ) {T:List V -> List V -> List Cell -> Prop}
  (q:vals es sl σ.g.cs fun vs cs=>vals kv sl cs fun us cs=>T vs us cs) {Q:Args -> Shared -> Prop} {E:Value -> Shared -> Prop} (k:∀ vs us a σ',Ext σ σ' noOwn -> AR σ'.g (vs,kwZip kn us) a -> T vs us σ'.g.cs -> Q a σ'.s) :
  wpAny C.M Φ.A (evalArgs f true (backTo pos (starEach (es.map ED.ast) Φ.env)) (backToKw pos (keywordEach (kwAst kn kv) Φ.env))) Q E σ.s:=by
 have W:=kw_at pos Φ.env kn kv hk
 have hs:=zhl pos es sl _ O S q (fun vs' s₁=>wpAny C.M Φ.A (evalAll ((backToKw pos (keywordEach (kwAst kn kv) Φ.env)).map (·.2))) (fun ks' s₂=>Q ⟨vs',((backToKw pos (keywordEach (kwAst kn kv) Φ.env)).filterMap (·.1)).zip ks'⟩ s₂) E s₁) E fun vs a σ1 X1 r1 q1=>by
  refine zsx pos kn kv sl _ hk Ok (S.ext X1) q1 _ _ fun us b σ2 X2 r2 q2=>?_
  rw [W.nms]
  exact k vs us _ σ2 (X1.trans X2) ⟨vmono r1 X2.le,z0d kn r2⟩ q2
 cases es with
 | nil =>
  refine evalArgs_kw_nil W.some (zsx pos kn kv sl _ hk Ok S q _ _ fun us b σ2 X2 r2 q2=>?_)
  rw [W.nms]
  exact k [] us _ σ2 X2 ⟨.nil,z0d kn r2⟩ q2
 | cons e es =>
  rw [List.map_cons,(O e List.mem_cons_self).pl.star] at hs ⊢
  exact evalArgs_kw W.some hs
theorem zbt {M:Model} {A:Around} {s:Shared} {E:Value -> Shared -> Prop} {pos:Pos} {f:Value} {first:List Value} {args:List (Bool × Sem Value)} {keywords:List (Option Str × Sem Value)} {Q:Value -> Shared -> Prop}
  (hplain:∀ t ∈ args,t.1 = false) (hkw:keywords.all (·.1.isSome) = true)
  (h:wpAny M A (evalArgs f true args keywords) (fun x s₁=>(∀ (E:Value -> Shared -> Prop) (Q:Keeper -> Shared -> Prop),(∀ k,Q k s₁) -> wpAny M A (keeperOf f) Q E s₁) /\ wpAny M A (call f (first ++ x.pos) x.kw) Q E s₁) E s) :
  wpAny M A (callWith pos f first args keywords) Q E s:=by
 have h1:args.any (·.1) = false:=List.any_eq_false.mpr fun t ht=>by rw [hplain t ht]; exact Bool.false_ne_true
 have h2:keywords.any (·.1.isNone) = false:=List.any_eq_false.mpr fun t ht=>by
  have:=List.all_eq_true.mp hkw t ht
  cases q:t.1 with
  | none=>rw [q] at this; cases this
  | some x=>exact Bool.false_ne_true
 unfold callWith
 refine wpAny_bind (wpAny_holding (wpAny_mono h (fun x s₁ h₁=>wpAny_bind (wpAny_standAt ?_)) fun _ _ x=>x))
 have tail:∀ {t:Sem Value},wpAny M A t Q E s₁ -> wpAny M A (t >>= fun r=>holding [r] point >>= fun _=>pure r) Q E s₁ :=
  fun ht=>wpAny_bind (wpAny_mono ht (fun r s₂ hr=>wpAny_bind (wpAny_holding (wpAny_point (wpAny_pure hr)))) fun _ _ x=>x)
 rw [h1,h2,Bool.or_false]
 refine wpAny_bind (m:=keeperOf f) (h₁.1 _ _ fun k=>?_)
 cases k with
 | frame =>
  dsimp only
  split
  ·exact tail h₁.2
  ·exact tail (by unfold callMarked; exact Calls.wpAny_keep h₁.2)
 | boundFrame =>
  dsimp only
  split
  ·exact tail h₁.2
  ·exact tail (by unfold callMarked; exact Calls.wpAny_keep h₁.2)
 | machine=>exact tail h₁.2
 | caller=>exact tail (zdn h₁.2)
noncomputable def ED.name (P:Prm) (g:Bool) (x:Str) (i:Nat) (p:Pos):ED:=Bool.rec (ED.loc x i p) (ED.glob P x i p) g
theorem zsb {P:Prm} (G:∀ x v,(x,v) ∈ P.globs -> GlobAt C x v) (g:Bool) (x:Str) (i:Nat) (p:Pos):EGood C (.name P g x i p):=by
 cases g with
 | false=>exact zfa x i p
 | true=>exact zf7 G x i p
theorem zww {P:Prm} (g:Bool) (x:Str) (i:Nat) (p:Pos):(ED.name P g x i p).ast = .Name x p:=by cases g <;> rfl
noncomputable def ED.call (P:Prm) (g:Bool) (x:Str) (i:Nat) (fp:Pos) (es:List ED) (p:Pos):ED:=.dfl (.Call (.Name x fp) (es.map ED.ast) [] p) (fun sc ns=>(ED.name P g x i fp).wf sc ns && (!(x == ("super" : Str)) && wfs es sc ns)) fun sl cs K=>(ED.name P g x i fp).val sl cs fun fv cs=>vals es sl cs fun vs cs=>CallR P cs K fv vs []
theorem zky {x:Str} (h:(x == ("super" : Str)) = false) (fp:Pos) (args:List Expr) (p:Pos) (attr:Str) (env:Env) (w:Sem Value):attributeBase (.Call (.Name x fp) args [] p) attr env w = w:=by
 cases args with
 | cons=>rfl
 | nil =>
  show (if (!(x == ("super" : Str)) || _ || _ || _) = true then w else _) = w
  rw [h]; rfl
theorem zun {P:Prm} (G:∀ x v,(x,v) ∈ P.globs -> GlobAt C x v) (Fn:FnsOk C P) (g:Bool) (x:Str) (i:Nat) (fp:Pos) {es:List ED} (p:Pos) (h:EAll C es):EGood C (.call P g x i fp es p):=fun Φ ns w=>by
 have w2:=(Bool.and_eq_true _ _).mp w
 have w3:=(Bool.and_eq_true _ _).mp w2.2
 have O:=h.ok w3.2
 refine .dfl ⟨fun _ _=>rfl,fun _ _=>rfl,fun _=>rfl,zky (notB w3.1) _ _ _⟩ (fun _=>rfl) fun sl σ K S q Q E k=>?_
 have hf:=(zsb G g x i fp Φ ns w2.1).val sl σ _ S q
 rw [zww] at hf
 refine wpAny_bind (hf _ _ fun fv f' σ1 X1 rf q1=>zbt (zcz p O).1 rfl (zjh p (es:=es) (kv:=[]) [] rfl O (fun _ z=>nomatch z) (S.ext X1) (T:=fun vs _ cs=>CallR P cs K fv vs []) q1 fun vs us a σ2 X2 ra q2=>?_))
 have S2:=(S.ext X1).ext X2
 obtain ⟨kp,run⟩:=zi1 Fn q2 S2.O S2.H S2.B (rf.mono X2.le) ra.pos ra.kw
 exact ⟨kp,run Q E fun v x σ3 X3 r q=>k v x σ3 ((X1.trans X2).trans X3) r q⟩
end
section
variable {C:Cx} {Φ:Fm} {ns:List Str} {σ:St} {P:Prm}
noncomputable def GetsM (C:Cx) (A:Around) (s:Shared) (o':Value) (name:Str) (f:Value):Prop:=∀ (pl:Sem Bool) (Q:Value × List Value -> Shared -> Prop) (E:Value -> Shared -> Prop),(∀ tk,Q (f,[o']) { s with toks:=tk }) -> wpAny C.M A (getMethod o' name pl) Q E s
noncomputable def MethsOk (C:Cx) (P:Prm):Prop:=∀ {A:Around} {σ₁:St} {m:Meth} {o:V} {o':Value},AOk A C.d -> HasM P σ₁.g.cs m o -> HRel σ₁.g σ₁.s.heap -> Base C σ₁.g -> VRel σ₁.g o o' ->
 ∃ f,GetsM C A σ₁.s o' m.name f /\ ∀ {σ:St} {args:List V} {args':List Value} {K:KV},Le σ₁.g σ.g -> HRel σ.g σ.s.heap -> Base C σ.g -> VRels σ.g args args' -> MethR P σ.g.cs K m o args -> CallsOk C A σ K f (o' :: args') []
noncomputable def CMethsOk (C:Cx) (P:Prm):Prop:=∀ {A:Around} {σ:St} {name:Str} {f:Addr} {o:V} {o':Value},AOk A C.d -> P.meths.lookup name = some f -> ClsR σ.g.cs o P.cls -> HRel σ.g σ.s.heap -> Base C σ.g -> VRel σ.g o o' -> GetsM C A σ.s o' name (.ref f)
noncomputable def AttrsOk (C:Cx) (P:Prm):Prop:=∀ {A:Around} {σ:St} {o r:V} {o':Value},AOk A C.d -> AttrR P σ.g.cs o r -> HRel σ.g σ.s.heap -> Base C σ.g -> VRel σ.g o o' ->
 ∀ (Q:Value -> Shared -> Prop) (E:Value -> Shared -> Prop),(∀ r' tk,VRel σ.g r r' -> Q r' { σ.s with toks:=tk }) -> wpAny C.M A (getAttr o' headersName true) Q E σ.s
structure Facts (C:Cx) (P:Prm):Prop where
 lo:∃ o,C.base cStatics = some o
 glob:∀ x v,(x,v) ∈ P.globs -> GlobAt C x v
 fns:FnsOk C P
 meth:MethsOk C P
 cmeth:CMethsOk C P
 attr:AttrsOk C P
noncomputable def mformB (apos pos:Pos) (n k:Nat):Bool:=apos.endLine == pos.line && Nat.blt (n + k) 20
theorem zph {M:Model} {A:Around} {env:Env} {s:Shared} {o:Expr} {name:Str} {apos pos:Pos} {es:List Expr} {kws:List Keyword} {n k:Nat} {Q:Value -> Shared -> Prop} {E:Value -> Shared -> Prop} (hb:∀ w,attributeBase o name env w = w) (hn:es.length = n) (hp:∀ t ∈ backTo pos (starEach es env),t.1 = false)
  (hk:kws.length = k) (hks:(backToKw pos (keywordEach kws env)).all (·.1.isSome) = true) (hf:mformB apos pos n k = true)
  (h:wpAny M A (eval o env) (fun ov' s1=>∃ f,(∀ (pl:Sem Bool) (Q:Value × List Value -> Shared -> Prop) (E:Value -> Shared -> Prop),(∀ tk,Q (f,[ov']) { s1 with toks:=tk }) -> wpAny M A (getMethod ov' name pl) Q E s1) /\ ∀ tk,wpAny M A (evalArgs f true (backTo pos (starEach es env)) (backToKw pos (keywordEach kws env)))
   (fun a s₂=>(∀ (E:Value -> Shared -> Prop) (Q:Keeper -> Shared -> Prop),(∀ k,Q k s₂) -> wpAny M A (keeperOf f) Q E s₂) /\ wpAny M A (call f (ov' :: a.pos) a.kw) Q E s₂) E { s1 with toks:=tk }) E s) :
  wpAny M A (eval (.Call (.Attribute o name apos) es kws pos) env) Q E s:=by
 have hf':=(Bool.and_eq_true _ _).mp hf
 have hl:=Nat.blt_eq.mp hf'.2
 rw [arm_eval_Call,hb]
 refine wpAny_bind (wpAny_mono h (fun ov' s1 h1=>wpAny_bind (wpAny_standAt ?_)) fun _ _ x=>x)
 obtain ⟨f,gm,run⟩:=h1
 have hform:methodCallForm (es.length + kws.length) (backTo pos (starEach es env)) (backToKw pos (keywordEach kws env)) = true:=by
  unfold methodCallForm
  rw [hks,hn,hk,Bool.and_true,Bool.and_eq_true]
  refine ⟨List.all_eq_true.mpr fun t ht=>by rw [hp t ht]; rfl,decide_eq_true (Nat.lt_of_lt_of_le (Nat.add_lt_add_of_lt_of_le (d:=1) hl ?_) (by decide))⟩
  split
  ·exact Nat.zero_le _
  ·exact Nat.le_refl _
 have hpos:methodCallPos true o env apos pos = pure pos:=by unfold methodCallPos; rw [hf'.1]; rfl
 unfold methodCall
 rw [hform]
 refine wpAny_bind (wpAny_holding ?_)
 refine gm _ _ _ fun tk=>?_
 refine wpAny_bind (wpAny_of_eq hpos ?_)
 exact zbt hp hks (run tk)
theorem zki {o:ED} {name:Str} {apos pos:Pos} {es:List Expr} {kv:List ED} {kn:KwN} {n:Nat} (Oo:EOk C Φ ns o) (hn:es.length = n) (hp:∀ t ∈ backTo pos (starEach es Φ.env),t.1 = false) (hk:kn.length = kv.length) (hf:mformB apos pos n kn.length = true) {sl:Slots} (S:Std C Φ (look ns sl) σ)
  {Q:Value -> Shared -> Prop} {E:Value -> Shared -> Prop} {H:V -> List Cell -> Prop} (q:o.val sl σ.g.cs H)
  (hm:∀ ov ov' σ1,Ext σ σ1 noOwn -> Std C Φ (look ns sl) σ1 -> VRel σ1.g ov ov' -> H ov σ1.g.cs -> ∃ f,GetsM C Φ.A σ1.s ov' name f /\ ∀ tk,wpAny C.M Φ.A (evalArgs f true (backTo pos (starEach es Φ.env)) (backToKw pos (keywordEach (kwAst kn kv) Φ.env)))
   (fun a s₂=>(∀ (E:Value -> Shared -> Prop) (Q:Keeper -> Shared -> Prop),(∀ k,Q k s₂) -> wpAny C.M Φ.A (keeperOf f) Q E s₂) /\ wpAny C.M Φ.A (call f (ov' :: a.pos) a.kw) Q E s₂) E { σ1.s with toks:=tk }) :
  wpAny C.M Φ.A (eval (.Call (.Attribute o.ast name apos) es (kwAst kn kv) pos) Φ.env) Q E σ.s :=
 have W:=kw_at pos Φ.env kn kv hk
 zph (fun _=>Oo.pl.base _ _ _) hn hp W.len W.some hf (Oo.val sl σ _ S q _ _ fun ov ov' σ1 X1 r1 q1=>hm ov ov' σ1 X1 (S.ext X1) r1 q1)
theorem zno {o:ED} {name:Str} {apos pos:Pos} {es kv:List ED} {kn:KwN} (Oo:EOk C Φ ns o) (O:∀ e ∈ es,EOk C Φ ns e) (Ok:∀ e ∈ kv,EOk C Φ ns e) (hk:kn.length = kv.length) (hf:mformB apos pos es.length kn.length = true) {sl:Slots} (S:Std C Φ (look ns sl) σ)
  {K:KV} {H:V -> List Cell -> Prop} {T:V -> List V -> List V -> List Cell -> Prop} (q:o.val sl σ.g.cs fun ov cs=>H ov cs /\ vals es sl cs fun vs cs=>vals kv sl cs fun us cs=>T ov vs us cs)
  (hm:∀ ov ov' σ1,Std C Φ (look ns sl) σ1 -> VRel σ1.g ov ov' -> H ov σ1.g.cs -> ∃ f,GetsM C Φ.A σ1.s ov' name f /\ ∀ σ2 vs us a,Ext σ1 σ2 noOwn -> Std C Φ (look ns sl) σ2 -> AR σ2.g (vs,kwZip kn us) a -> T ov vs us σ2.g.cs -> CallsOk C Φ.A σ2 K f (ov' :: a.pos) a.kw) :
  Runs C Φ.A σ noOwn (eval (.Call (.Attribute o.ast name apos) (es.map ED.ast) (kwAst kn kv) pos) Φ.env) VR K:=fun Q E k=>by
 refine zki Oo (List.length_map _) (zcz pos O).1 hk hf S q fun ov ov' σ1 X1 S1 r1 q1=>?_
 obtain ⟨f,gm,run⟩:=hm ov ov' σ1 S1 r1 q1.1
 refine ⟨f,gm,fun tk=>?_⟩
 have X0:Ext σ1 (σ1.up σ1.s.heap tk σ1.g) noOwn:=Ext.tok X1.H
 refine zjh (σ:=σ1.up σ1.s.heap tk σ1.g) pos kn hk O Ok (S1.ext X0) (T:=T ov) q1.2 fun vs us a σ2 X2 ra q2=>?_
 obtain ⟨kp,run⟩:=run σ2 vs us a (X0.trans X2) ((S1.ext X0).ext X2) ra q2
 exact ⟨kp,run Q E fun v x σ3 X3 r q=>k v x σ3 ((X1.trans (X0.trans X2)).trans X3) r q⟩
noncomputable def ED.mcall (P:Prm) (o:ED) (m:Meth) (apos:Pos) (es:List ED) (p:Pos):ED:=.dfl (.Call (.Attribute o.ast m.name apos) (es.map ED.ast) [] p) (fun sc ns=>mformB apos p es.length 0 && (o.wf sc ns && wfs es sc ns)) fun sl cs K=>o.val sl cs fun ov cs=>HasM P cs m ov /\ vals es sl cs fun vs cs=>MethR P cs K m ov vs
theorem zpg (F:Facts C P) {o:ED} (m:Meth) (apos:Pos) {es:List ED} (p:Pos) (ho:EGood C o) (h:EAll C es):EGood C (.mcall P o m apos es p):=fun Φ ns w=>.dfl ⟨fun _ _=>rfl,fun _ _=>rfl,fun _=>rfl,fun _ _ _=>rfl⟩ (fun _=>rfl) fun sl σ K S q=>by
 have w1:=(Bool.and_eq_true _ _).mp w
 have w2:=(Bool.and_eq_true _ _).mp w1.2
 refine zno (kv:=[]) (kn:=[]) (H:=fun ov cs=>HasM P cs m ov) (T:=fun ov vs _ cs=>MethR P cs K m ov vs) (ho Φ ns w2.1) (h.ok w2.2) (fun _ z=>nomatch z) rfl w1.1 S q fun ov ov' σ1 S1 r1 hm=>?_
 obtain ⟨f,g,run⟩:=F.meth S1.O hm S1.H S1.B r1
 refine ⟨f,g,fun σ2 vs us a X2 S2 ra q2=>?_⟩
 have:=run X2.le S2.H S2.B ra.pos q2
 rw [show a.kw = [] from ra.kw.nil_of]
 exact this
noncomputable def ED.cmcall (P:Prm) (o:ED) (name:Str) (f:Addr) (apos:Pos) (es:List ED) (kn:KwN) (kv:List ED) (p:Pos):ED:=.dfl (.Call (.Attribute o.ast name apos) (es.map ED.ast) (kwAst kn kv) p)
 (fun sc ns=>(mformB apos p es.length kn.length && (P.meths.lookup name == some f && kn.length == kv.length)) && (o.wf sc ns && (wfs es sc ns && wfs kv sc ns)))
 fun sl cs K=>o.val sl cs fun ov cs=>ClsR cs ov P.cls /\ vals es sl cs fun vs cs=>vals kv sl cs fun us cs=>CallR P cs K (.adr f) (ov :: vs) (kwZip kn us)
theorem zmo (F:Facts C P) {o:ED} (name:Str) (f:Addr) (apos:Pos) {es:List ED} (kn:KwN) {kv:List ED} (p:Pos) (ho:EGood C o) (h:EAll C es) (hk:EAll C kv):EGood C (.cmcall P o name f apos es kn kv p):=fun Φ ns w=>.dfl ⟨fun _ _=>rfl,fun _ _=>rfl,fun _=>rfl,fun _ _ _=>by cases es <;> cases kn <;> cases kv <;> rfl⟩ (fun _=>rfl) fun sl σ K S q=>by
 have w0:=(Bool.and_eq_true _ _).mp w
 have w1:=(Bool.and_eq_true _ _).mp w0.1
 have w2:=(Bool.and_eq_true _ _).mp w1.2
 have w3:=(Bool.and_eq_true _ _).mp w0.2
 have w4:=(Bool.and_eq_true _ _).mp w3.2
 refine zno (H:=fun ov cs=>ClsR cs ov P.cls) (T:=fun ov vs us cs=>CallR P cs K (.adr f) (ov :: vs) (kwZip kn us)) (ho Φ ns w3.1) (h.ok w4.1) (hk.ok w4.2) (eq_of_beq w2.2) w1.1 S q fun ov ov' σ1 S1 r1 hm=>⟨.ref f,F.cmeth S1.O (eq_of_beq w2.1) hm S1.H S1.B r1,fun σ2 vs us a X2 S2 ra q2=>?_⟩
 exact zi1 F.fns q2 S2.O S2.H S2.B (.adr f) (.cons (r1.mono X2.le) ra.pos) ra.kw
noncomputable def ED.attr (P:Prm) (o:ED) (p:Pos):ED:=.dfl (.Attribute o.ast headersName p) o.wf fun sl cs K=>o.val sl cs fun ov cs=>∃ r,AttrR P cs ov r /\ K r cs
theorem zuz (F:Facts C P) {o:ED} (p:Pos) (ho:EGood C o):EGood C (.attr P o p):=fun Φ ns w=>.dfl ⟨fun _ _=>rfl,fun _ _=>rfl,fun _=>rfl,fun _ _ _=>rfl⟩ (fun _=>rfl) fun sl σ K S q Q E k=>by
 have he:eval (.Attribute o.ast headersName p) Φ.env = (do
  let ov <- attributeBase o.ast headersName Φ.env (eval o.ast Φ.env)
  standAt p.atName
  let r <- holding [ov] (getAttr ov headersName true)
  letTemporaryGo o.ast ov r
  pure r):=rfl
 have O:=ho Φ ns w
 rw [he,O.pl.base]
 refine wpAny_bind (O.val sl σ _ S q _ _ fun ov ov' σ1 X1 r1 q1=>wpAny_bind (wpAny_standAt (wpAny_bind (wpAny_holding ?_))))
 obtain ⟨r,ha,q1⟩:=q1
 have S1:=S.ext X1
 exact F.attr S1.O ha S1.H S1.B r1 _ _ fun r' tk rr=>wpAny_bind (wpAny_letTemporaryGo (wpAny_pure (k r r' (σ1.up σ1.s.heap tk σ1.g) (X1.trans (Ext.tok X1.H)) rr q1)))
noncomputable def ED.item (o i:ED) (p:Pos):ED:=.dfl (.Subscript o.ast i.ast p) (fun sc ns=>o.wf sc ns && i.wf sc ns) fun sl cs K=>o.val sl cs fun ov cs=>i.val sl cs fun iv cs=>∃ v,ItemR cs ov iv v /\ K v cs
theorem zs2 {o i:ED} (p:Pos) (ho:EGood C o) (hi:EGood C i):EGood C (.item o i p):=fun Φ ns w=>.dfl ⟨fun _ _=>rfl,fun _ _=>rfl,fun _=>rfl,fun _ _ _=>rfl⟩ (fun _=>rfl) fun sl σ K S q Q E k =>
 zev (zdo (both ho hi w) S q fun a b a' b' σ' X S' ra rb e=>by
  obtain ⟨v,e,q⟩:=e
  obtain ⟨T,id,h1,h2,h3⟩:=z3o (C:=C) (A:=Φ.A) e S'.H S'.B.pr ra rb
  exact ⟨T,id,h1,h2,h3 _ _ fun v' tk r=>k v v' (σ'.up σ'.s.heap tk σ'.g) (X.trans (Ext.tok X.H)) r q⟩)
theorem zl3 {e:ED} (O:EOk C Φ ns e) (sl:Slots) (σ:St) (K:KV) (S:Std C Φ (look ns sl) σ) (q:e.val sl σ.g.cs K):Runs C Φ.A σ noOwn (evalPart e.opt Φ.env) VR K:=by
 rcases O.opt with h | ⟨h,hv⟩
 ·rw [h]; exact fun Q E k=>wpAny_evalPart_some (O.val sl σ K S q Q E k)
 ·rw [h]
  rw [hv] at q
  exact fun Q E k=>wpAny_evalPart_none (k _ _ _ (Ext.refl S.H _) .none q)
noncomputable def ED.slice (c:Bool) (o l h s:ED) (sp p:Pos):ED:=.dfl (.Subscript o.ast (.Slice l.opt h.opt s.opt sp) p) (fun sc ns=>(o.wf sc ns && l.wf sc ns) && (h.wf sc ns && s.wf sc ns))
 fun sl cs K=>o.val sl cs fun ov cs=>l.val sl cs fun lv cs=>h.val sl cs fun hv cs=>s.val sl cs fun sv cs=>∃ l' h' s',OptR lv l' /\ OptR hv h' /\ OptR sv s' /\ SliceR c cs K ov l' h' s'
theorem zom (c:Bool) {o l h s:ED} (sp p:Pos) (ho:EGood C o) (hl:EGood C l) (hh:EGood C h) (hs:EGood C s):EGood C (.slice c o l h s sp p):=fun Φ ns w=>.dfl ⟨fun _ _=>rfl,fun _ _=>rfl,fun _=>rfl,fun _ _ _=>rfl⟩ (fun _=>rfl) fun sl σ K S q Q E k=>by
 have w1:=(Bool.and_eq_true _ _).mp w
 obtain ⟨O1,O2⟩:=both ho hl w1.1
 obtain ⟨O3,O4⟩:=both hh hs w1.2
 refine zev (O1.val sl σ _ S q _ _ fun ov o' σ1 X1 r1 q1=>wpAny_Slice (zl3 O2 sl σ1 _ (S.ext X1) q1 _ _ fun lv l' σ2 X2 r2 q2=>?_))
 have S2:=(S.ext X1).ext X2
 refine zl3 O3 sl σ2 _ S2 q2 _ _ fun hv h' σ3 X3 r3 q3=>zl3 O4 sl σ3 _ (S2.ext X3) q3 _ _ fun sv s' σ4 X4 r4 q4=>?_
 obtain ⟨li,hi,si,e1,e2,e3,q4⟩:=q4
 exact zv0 q4 X4.H (r1.mono (X2.trans (X3.trans X4)).le) e1 e2 e3 (r2.mono (X3.trans X4).le) (r3.mono X4.le) r4 fun v a σ5 X5 r5 q5=>k v a σ5 ((X1.trans (X2.trans (X3.trans X4))).trans X5) r5 q5
end
section
variable {C:Cx} {Φ:Fm} {ns:List Str} {σ:St} {P:Prm}
inductive ItF where
 | enum | zip | rev
noncomputable def ItF.tn:ItF -> String:=ItF.rec "enumerate" "zip" "reversed"
inductive ItfR (cs:List Cell) (K:KS):ItF -> Tgt -> List V -> Prop
 | enum {xs k p v s} (e:EnumR cs v s) (q:K s cs):ItfR cs K .enum (.tup xs k p) [v]
 | zip {xs k p l a b} (h:cs[l]? = some (.list a)) (q:K (.zipc l 0 b) cs):ItfR cs K .zip (.tup xs k p) [.ref l,.lst b]
 | rev {t a} (q:K (.items a.reverse) cs):ItfR cs K .rev t [.lst a]
noncomputable def ED.itf (P:Prm) (f:ItF) (x:Str) (i:Nat) (fp:Pos) (es:List ED) (p:Pos):ED:={ ED.dfl (.Call (.Name x fp) (es.map ED.ast) [] p) (fun sc ns=>(ED.glob P x i fp).wf sc ns && (!(x == ("super" : Str)) && wfs es sc ns)) (fun _ _ _=>False) with
 src:=fun t sl cs K=>(ED.glob P x i fp).val sl cs fun fv cs=>fv = .typ f.tn /\ vals es sl cs fun vs cs=>ItfR cs K f t vs }
theorem itf_ok {A:Around} {K:KS} {f:ItF} {t:Tgt} {vs:List V} {vs':List Value} (H:HRel σ.g σ.s.heap) (r:VRels σ.g vs vs') (e:ItfR σ.g.cs K f t vs):ItRuns C A t σ (callIter C A f.tn vs' σ.s) K:=by
 cases e with
 | enum e q=>obtain ⟨v',rfl,rv⟩:=r.one; exact z35 ⟨_,_,_,rfl⟩ e H rv q
 | zip h q=>obtain ⟨v',u',rfl,rv,ru⟩:=r.two; exact zip_ok ⟨_,_,_,rfl⟩ H h rv ru q
 | rev q=>obtain ⟨v',rfl,rv⟩:=r.one; exact rev_ok t H rv q
theorem zxd (F:Facts C P) (f:ItF) (x:Str) (i:Nat) (fp:Pos) {es:List ED} (p:Pos) (h:EAll C es):EGood C (.itf P f x i fp es p):=fun Φ ns w=>by
 have w2:=(Bool.and_eq_true _ _).mp w
 have w3:=(Bool.and_eq_true _ _).mp w2.2
 have O:=h.ok w3.2
 have hv:ValOk C Φ ns (.Call (.Name x fp) (es.map ED.ast) [] p) fun _ _ _=>False:=fun _ _ _ _ q=>q.elim
 refine ⟨hv,zzg (fun _=>rfl) hv,fun t sl σ K S q Q E k=>?_,⟨fun _ _=>rfl,fun _ _=>rfl,fun _=>rfl,zky (notB w3.1) _ _ _⟩,.inl rfl⟩
 have q0:(ED.glob P x i fp).val sl σ.g.cs fun fv cs=>fv = .typ f.tn /\ vals es sl cs fun vs cs=>ItfR cs K f t vs:=q
 have hg:=(zf7 F.glob x i fp Φ ns w2.1).val sl σ _ S q0
 refine wpAny_bind (hg _ _ fun fv f' σ1 X1 rf q1=>?_)
 obtain ⟨rfl,q1⟩:=q1
 cases rf.inv
 refine zbt (zcz p O).1 rfl (zjh p (es:=es) (kv:=[]) [] rfl O (fun _ z=>nomatch z) (S.ext X1) (T:=fun vs _ cs=>ItfR cs K f t vs) q1 fun vs us a σ2 X2 ra q2=>⟨zf3 (C:=C) (σ:=σ2) f.tn,?_⟩)
 rw [show a.kw = [] from ra.kw.nil_of]
 exact itf_ok X2.H ra.pos q2 Q E fun s it os P σ3 X3 I p fr q=>k s it os P σ3 ((X1.trans X2).trans X3) I p (fun a ha=>(X1.trans X2).dead (fr a ha)) q
theorem zoh (es:List Expr) (env:Env):(forIn es false fun c r=>(if r = true then do let ok <- isTrue c env (eval c env); pure (ForInStep.yield ok) else pure (ForInStep.yield r):Sem (ForInStep Bool))) = pure false:=by
 induction es with
 | nil=>rfl
 | cons e es ih=>rw [List.forIn_cons]; exact ih
theorem zm5 (r:CR) (es:List ED):(∀ e ∈ es,EOk r.C r.Φ r.ns e) -> TestsOk r (es.map ED.ast) (boolT .And es):=by
 induction es with
 | nil=>exact fun _ sl σ T q S Q E k=>wpAny_pure (k true true σ (Ext.refl S.H _) rfl q)
 | cons e es ih =>
  intro O sl σ T q S Q E k
  show wpAny _ _ (forIn (e.ast :: es.map ED.ast) true _) _ _ _
  rw [List.forIn_cons]
  refine wpAny_bind (wpAny_bind ((O e List.mem_cons_self).tst sl σ _ S q _ _ fun b b' σ1 X1 rb q1=>wpAny_pure ?_))
  cases (rb:b' = b)
  cases b with
  | false =>
   show wpAny _ _ (forIn (es.map ED.ast) false _) _ _ _
   rw [zoh]
   exact wpAny_pure (k _ _ σ1 X1 rfl q1)
  | true=>exact ih (fun x hx=>O x (List.mem_cons_of_mem _ hx)) sl σ1 T q1 (S.ext X1) Q E fun b b' σ2 X2 r q2=>k b b' σ2 (X1.trans X2) r q2
noncomputable def compB (t:Tgt) (iter:ED) (ifs:List ED) (scope:Scope) (sc:Scope) (ns:List Str):Bool:=(compOkB sc scope && (t.ok scope (ownNs scope ++ ns) && t.lt (ownNs scope).length)) && (iter.wf sc ns && wfs ifs (compScope sc scope) (ownNs scope ++ ns))
structure CB (t:Tgt) (iter:ED) (ifs:List ED) (scope:Scope) (sc:Scope) (ns:List Str):Prop where
 ok:compOkB sc scope = true
 tok:t.ok scope (ownNs scope ++ ns) = true
 tlt:t.lt (ownNs scope).length = true
 it:iter.wf sc ns = true
 tst:wfs ifs (compScope sc scope) (ownNs scope ++ ns) = true
theorem zn5 {t:Tgt} {iter:ED} {ifs:List ED} {scope sc:Scope} (h:compB t iter ifs scope sc ns = true):CB t iter ifs scope sc ns :=
 have h1:=(Bool.and_eq_true _ _).mp h
 have h2:=(Bool.and_eq_true _ _).mp h1.1
 have h3:=(Bool.and_eq_true _ _).mp h2.2
 have h4:=(Bool.and_eq_true _ _).mp h1.2
 ⟨h2.1,h3.1,h3.2,h4.1,h4.2⟩
theorem z0t (F:Facts C P) {t:Tgt} {iter:ED} {ifs:List ED} {scope:Scope} {pos:Pos} (hi:EGood C iter) (hf:EAll C ifs) (B:CB t iter ifs scope Φ.env.scope ns) {elt:Expr} {gs:List Comprehension} {em:Em} {emit:List V -> Slots -> List Cell -> (List V -> List Cell -> Prop) -> Prop} {c:Bool}
  (eq:ClEq ⟨elt,⟨t.ast,iter.ast,ifs.map ED.ast,0⟩ :: gs,scope,pos,0⟩ t.ast iter.ast (ifs.map ED.ast) em) (hE:∀ r:CR,r.C = C -> r.env.scope = compScope Φ.env.scope scope -> r.ns = ownNs scope ++ ns -> r.em = em -> r.own r.D -> ¬ ownAll r.env r.D -> CROk r t -> EmitOk r GdL emit) :
  CIn C Φ ns scope pos t iter.ast (ifs.map ED.ast) elt gs em (boolT .And ifs) emit GdL (outL c) [] (iter.src t) where
 eq:=eq
 P:=⟨B.ok,B.tok,B.tlt,fun r h1 h2 h3=>zm5 r ifs fun e he=>h1 ▸ hf e he r.Φ r.ns (by rw [h2,h3]; exact List.all_eq_true.mp B.tst e he),hE,znr,z2w,fun g=>⟨[],0,rfl,.nil⟩⟩
 lo:=F.lo
 fold:=fun x=>(hi Φ ns B.it).pl.fold _ _
 hi:=(hi Φ ns B.it).src t
noncomputable def ED.lcomp (c:Bool) (elt:ED) (t:Tgt) (iter:ED) (ifs:List ED) (scope:Scope) (p:Pos):ED:=.dfl (.ListComp elt.ast [⟨t.ast,iter.ast,ifs.map ED.ast,0⟩] scope p) (fun sc ns=>compB t iter ifs scope sc ns && elt.wf (compScope sc scope) (ownNs scope ++ ns))
 (compV scope t (boolT .And ifs) (emitL elt.val) (outL c) [] (iter.src t))
theorem zkk (F:Facts C P) {c:Bool} {pos:Pos} {elt:ED} {t:Tgt} {iter:ED} {ifs:List ED} {scope:Scope} (he:EGood C elt) (hi:EGood C iter) (hf:EAll C ifs) (w:(compB t iter ifs scope Φ.env.scope ns && elt.wf (compScope Φ.env.scope scope) (ownNs scope ++ ns)) = true) :
  CIn C Φ ns scope pos t iter.ast (ifs.map ED.ast) elt.ast [] (emApp elt.ast) (boolT .And ifs) (emitL elt.val) GdL (outL c) [] (iter.src t) :=
 have w':=(Bool.and_eq_true _ _).mp w
 z0t F hi hf (zn5 w'.1) (one_eq _ _ _ _ _ _) (fun r h1 h2 h3 hc oD nD _=>znz hc oD nD (h1 ▸ (he r.Φ r.ns (by rw [h2,h3]; exact w'.2)).val))
theorem zpj (F:Facts C P) (c:Bool) {elt:ED} (t:Tgt) {iter:ED} {ifs:List ED} (scope:Scope) (p:Pos) (he:EGood C elt) (hi:EGood C iter) (hf:EAll C ifs):EGood C (.lcomp c elt t iter ifs scope p):=fun Φ ns w=>.dfl ⟨fun _ _=>rfl,fun _ _=>rfl,fun _=>rfl,fun _ _ _=>rfl⟩ (fun _=>rfl)
 (zmm (zkk F (c:=c) (pos:=p) he hi hf w))
noncomputable def comp2B (x:Str) (i:Nat) (p:Pos) (iter2:ED) (ifs2:List ED) (scope sc:Scope) (ns:List Str):Bool:=((compScope sc scope).names.lookup x == some .local && tgt1 (compScope sc scope) (ownNs scope ++ ns) x i) && (iter2.wf (compScope sc scope) (ownNs scope ++ ns) && wfs ifs2 (compScope sc scope) (ownNs scope ++ ns))
noncomputable def ED.lcomp2 (c:Bool) (elt:ED) (t:Tgt) (iter:ED) (ifs:List ED) (x:Str) (i:Nat) (xp:Pos) (iter2:ED) (ifs2:List ED) (scope:Scope) (p:Pos):ED:=.dfl (.ListComp elt.ast [⟨t.ast,iter.ast,ifs.map ED.ast,0⟩,⟨(Tgt.nm x i xp).ast,iter2.ast,ifs2.map ED.ast,0⟩] scope p)
 (fun sc ns=>(compB t iter ifs scope sc ns && elt.wf (compScope sc scope) (ownNs scope ++ ns)) && comp2B x i xp iter2 ifs2 scope sc ns)
 (compV scope t (boolT .And ifs) (emitS i x xp (iter2.src (.nm x i xp)) (boolT .And ifs2) elt.val) (outL c) [] (iter.src t))
theorem zhb (F:Facts C P) {c:Bool} {pos:Pos} {elt:ED} {t:Tgt} {iter iter2:ED} {ifs ifs2:List ED} {x:Str} {i:Nat} {xp:Pos} {scope:Scope} (he:EGood C elt) (hi:EGood C iter) (hf:EAll C ifs) (hi2:EGood C iter2) (hf2:EAll C ifs2)
  (w:((compB t iter ifs scope Φ.env.scope ns && elt.wf (compScope Φ.env.scope scope) (ownNs scope ++ ns)) && comp2B x i xp iter2 ifs2 scope Φ.env.scope ns) = true) :
  CIn C Φ ns scope pos t iter.ast (ifs.map ED.ast) elt.ast [⟨(Tgt.nm x i xp).ast,iter2.ast,ifs2.map ED.ast,0⟩] (emTwo elt.ast ⟨t.ast,iter.ast,ifs.map ED.ast,0⟩ ⟨(Tgt.nm x i xp).ast,iter2.ast,ifs2.map ED.ast,0⟩ scope pos) (boolT .And ifs) (emitS i x xp (iter2.src (.nm x i xp)) (boolT .And ifs2) elt.val) GdL (outL c) [] (iter.src t):=by
 have w0:=(Bool.and_eq_true _ _).mp w
 have w':=(Bool.and_eq_true _ _).mp w0.1
 have w2:=(Bool.and_eq_true _ _).mp w0.2
 have w3:=(Bool.and_eq_true _ _).mp w2.1
 have w4:=(Bool.and_eq_true _ _).mp w2.2
 have B:=zn5 w'.1
 refine z0t F hi hf B (two_eq _ _ _ _ _ _ _ _ _) fun r h1 h2 h3 hc oD nD R=>?_
 subst h1
 have O2:=hi2 r.Φ r.ns (by rw [h2,h3]; exact w4.1)
 refine zx9 hc oD nD R.o1 (fun a hk hl=>?_) (by rw [h2,h3]; exact w3.2) (fun y=>O2.pl.fold _ _) (O2.src (.nm x i xp)) (zm5 r ifs2 fun e he=>hf2 e he r.Φ r.ns (by rw [h2,h3]; exact List.all_eq_true.mp w4.2 e he)) (he r.Φ r.ns (by rw [h2,h3]; exact w'.2)).val (z1n _ _ _ _ _ _ _ _ _)
 have e:r.env.scope.names.lookup x = some .cell:=hk
 rw [h2,eq_of_beq w3.1] at e
 cases e
theorem zl8 (F:Facts C P) (c:Bool) {elt:ED} (t:Tgt) {iter iter2:ED} {ifs ifs2:List ED} (x:Str) (i:Nat) (xp:Pos) (scope:Scope) (p:Pos) (he:EGood C elt) (hi:EGood C iter) (hf:EAll C ifs) (hi2:EGood C iter2) (hf2:EAll C ifs2):EGood C (.lcomp2 c elt t iter ifs x i xp iter2 ifs2 scope p) :=
 fun Φ ns w=>.dfl ⟨fun _ _=>rfl,fun _ _=>rfl,fun _=>rfl,fun _ _ _=>rfl⟩ (fun _=>rfl) (zmm (zhb F (c:=c) (pos:=p) he hi hf hi2 hf2 w))
end
set_option genCtorIdx false in
inductive IE where
 | con (c:Const) (k:Nat) (p:Pos)
 | absent
 | nm (x:Str) (i:Nat) (p:Pos)
 | gl (x:Str) (i:Nat) (p:Pos)
 | bin (c:Bool) (l:IE) (op:Operator) (r:IE) (p:Pos)
 | un (op:UnaryOp) (e:IE) (p:Pos)
 | not (e:IE) (p:Pos)
 | bools (op:BoolOp) (es:List IE) (p:Pos)
 | ifx (t a b:IE) (p:Pos)
 | cmp (l:IE) (op:CmpOp) (r:IE) (p:Pos)
 | list (c:Bool) (es:List IE) (p:Pos)
 | tup (es:List IE) (n:Nat) (p:Pos)
 | call (g:Bool) (x:Str) (i:Nat) (fp:Pos) (es:List IE) (p:Pos)
 | mcall (o:IE) (m:Meth) (apos:Pos) (es:List IE) (p:Pos)
 | cmcall (o:IE) (name:Str) (f:Addr) (apos:Pos) (es:List IE) (kn:KwN) (kv:List IE) (p:Pos)
 | attr (o:IE) (p:Pos)
 | item (o i:IE) (p:Pos)
 | slice (c:Bool) (o l h s:IE) (sp p:Pos)
 | itf (f:ItF) (x:Str) (i:Nat) (fp:Pos) (es:List IE) (p:Pos)
 | lcomp (c:Bool) (elt:IE) (t:Tgt) (iter:IE) (ifs:List IE) (scope:Scope) (p:Pos)
 | lcomp2 (c:Bool) (elt:IE) (t:Tgt) (iter:IE) (ifs:List IE) (x:Str) (i:Nat) (xp:Pos) (iter2:IE) (ifs2:List IE) (scope:Scope) (p:Pos)
noncomputable def IE.sem (P:Prm):IE -> ED:=fun e=>IE.rec (motive_1:=fun _=>ED) (motive_2:=fun _=>List ED)
 ED.con ED.absent ED.loc (ED.glob P) (fun c _ op _ p l r=>ED.bin c l op r p) (fun op _ p e=>ED.un op e p) (fun _ p e=>ED.not e p) (fun op _ p es=>ED.bools op es p)
 (fun _ _ _ p t a b=>ED.ifx t a b p) (fun _ op _ p l r=>ED.cmp l op r p) (fun c _ p es=>ED.list c es p) (fun _ n p es=>ED.tup es n p) (fun g x i fp _ p es=>ED.call P g x i fp es p)
 (fun _ m apos _ p o es=>ED.mcall P o m apos es p) (fun _ name f apos _ kn _ p o es kv=>ED.cmcall P o name f apos es kn kv p) (fun _ p o=>ED.attr P o p) (fun _ _ p o i=>ED.item o i p)
 (fun c _ _ _ _ sp p o l h s=>ED.slice c o l h s sp p) (fun f x i fp _ p es=>ED.itf P f x i fp es p) (fun c _ t _ _ scope p elt iter ifs=>ED.lcomp c elt t iter ifs scope p)
 (fun c _ t _ _ x i xp _ _ scope p elt iter ifs iter2 ifs2=>ED.lcomp2 c elt t iter ifs x i xp iter2 ifs2 scope p) [] (fun _ _ e es=>e :: es) e
noncomputable def IE.sems (P:Prm):List IE -> List ED:=fun e=>IE.rec_1 (motive_1:=fun _=>ED) (motive_2:=fun _=>List ED)
 ED.con ED.absent ED.loc (ED.glob P) (fun c _ op _ p l r=>ED.bin c l op r p) (fun op _ p e=>ED.un op e p) (fun _ p e=>ED.not e p) (fun op _ p es=>ED.bools op es p)
 (fun _ _ _ p t a b=>ED.ifx t a b p) (fun _ op _ p l r=>ED.cmp l op r p) (fun c _ p es=>ED.list c es p) (fun _ n p es=>ED.tup es n p) (fun g x i fp _ p es=>ED.call P g x i fp es p)
 (fun _ m apos _ p o es=>ED.mcall P o m apos es p) (fun _ name f apos _ kn _ p o es kv=>ED.cmcall P o name f apos es kn kv p) (fun _ p o=>ED.attr P o p) (fun _ _ p o i=>ED.item o i p)
 (fun c _ _ _ _ sp p o l h s=>ED.slice c o l h s sp p) (fun f x i fp _ p es=>ED.itf P f x i fp es p) (fun c _ t _ _ scope p elt iter ifs=>ED.lcomp c elt t iter ifs scope p)
 (fun c _ t _ _ x i xp _ _ scope p elt iter ifs iter2 ifs2=>ED.lcomp2 c elt t iter ifs x i xp iter2 ifs2 scope p) [] (fun _ _ e es=>e :: es) e
theorem zu5 {C:Cx}:EAll C []:=fun _ h=>nomatch h
theorem all_cons {C:Cx} {e:ED} {es:List ED} (h:EGood C e) (hs:EAll C es):EAll C (e :: es):=fun x hx=>(List.mem_cons.mp hx).elim (fun z=>z ▸ h) (hs x)
theorem IE.good {C:Cx} {P:Prm} (F:Facts C P) (e:IE):EGood C (e.sem P) :=
 IE.rec (motive_1:=fun e=>EGood C (e.sem P)) (motive_2:=fun es=>EAll C (IE.sems P es))
  zn4 zmt zfa (zf7 F.glob) (fun c _ op _ p l r=>zy2 c op p l r) (fun op _ p e=>z1j op p e) (fun _ p e=>zwr p e) (fun op _ p es=>zpw op p es)
  (fun _ _ _ p t a b=>zxn p t a b) (fun _ op _ p l r=>zyu op p l r) (fun c _ p es=>zsq c p es) (fun _ n p es=>zvq n p es) (fun g x i fp _ p es=>zun F.glob F.fns g x i fp p es)
  (fun _ m apos _ p o es=>zpg F m apos p o es) (fun _ name f apos _ kn _ p o es kv=>zmo F name f apos kn p o es kv) (fun _ p o=>zuz F p o) (fun _ _ p o i=>zs2 p o i)
  (fun c _ _ _ _ sp p o l h s=>zom c sp p o l h s) (fun f x i fp _ p es=>zxd F f x i fp p es) (fun c _ t _ _ scope p elt iter ifs=>zpj F c t scope p elt iter ifs)
  (fun c _ t _ _ x i xp _ _ scope p elt iter ifs iter2 ifs2=>zl8 F c t x i xp scope p elt iter ifs iter2 ifs2) zu5 (fun _ _ e es=>all_cons e es) e
theorem IE.all_good {C:Cx} {P:Prm} (F:Facts C P) (es:List IE):EAll C (IE.sems P es):=by
 induction es with
 | nil=>exact zu5
 | cons e es ih=>exact all_cons (e.good F) ih
inductive Fl where
 | next | brk | cont
 | ret (v:V)
inductive FlRel (g:Gh):Fl -> Flow -> Prop
 | next:FlRel g .next .next
 | brk:FlRel g .brk .brk
 | cont:FlRel g .cont .cont
 | ret {v v'} (r:VRel g v v'):FlRel g (.ret v) (.ret v')
noncomputable abbrev KF:=Fl -> Slots -> List Cell -> Prop
structure SD where
 ast:Stmt
 wf:Scope -> List Str -> Bool
 den:Slots -> List Cell -> KF -> Prop
noncomputable def XRuns (C:Cx) (Φ:Fm) (ns:List Str) (σ:St) (t:Sem Flow) (K:KF):Prop:=∀ (Q:Flow -> Shared -> Prop) (E:Value -> Shared -> Prop),(∀ fl sl f σ',Ext σ σ' (ownOf Φ.env) -> FlRel σ'.g fl f -> Std C Φ (look ns sl) σ' -> K fl sl σ'.g.cs -> Q f σ'.s) -> wpAny C.M Φ.A t Q E σ.s
noncomputable def SOk (C:Cx) (Φ:Fm) (ns:List Str) (d:SD):Prop:=∀ sl σ K,Std C Φ (look ns sl) σ -> d.den sl σ.g.cs K -> XRuns C Φ ns σ (exec d.ast Φ.env) K
noncomputable def SGood (C:Cx) (d:SD):Prop:=∀ Φ ns,C.fm Φ.A Φ.env -> d.wf Φ.env.scope ns = true -> SOk C Φ ns d
noncomputable def SAll (C:Cx) (ds:List SD):Prop:=∀ d ∈ ds,SGood C d
noncomputable def bwf (ds:List SD) (sc:Scope) (ns:List Str):Bool:=ds.all fun d=>d.wf sc ns
noncomputable def bden (ds:List SD):Slots -> List Cell -> KF -> Prop:=List.rec (fun sl cs K=>K .next sl cs) (fun d _ ih sl cs K=>d.den sl cs fun fl sl cs=>Fl.rec (ih sl cs K) (K .brk sl cs) (K .cont sl cs) (fun v=>K (.ret v) sl cs) fl) ds
section
variable {C:Cx} {Φ:Fm} {ns:List Str} {σ σ':St} {P:Prm}
theorem toOwn (x:Ext σ σ' noOwn):Ext σ σ' (ownOf Φ.env):=x.mono fun _ h=>h.elim
theorem zd6 (ds:List SD):(∀ d ∈ ds,SOk C Φ ns d) -> ∀ sl σ K,Std C Φ (look ns sl) σ -> bden ds sl σ.g.cs K -> XRuns C Φ ns σ (execs (ds.map SD.ast) Φ.env) K:=by
 induction ds with
 | nil=>exact fun _ sl σ K S q Q E k=>wpAny_execs_nil (k .next sl .next σ (Ext.refl S.H _) .next S q)
 | cons d ds ih =>
  intro O sl σ K S q Q E k
  refine wpAny_execs_cons (O d List.mem_cons_self sl σ _ S q _ _ fun fl sl1 f σ1 X1 r1 S1 q1=>?_)
  cases r1 with
  | next=>exact ih (fun x hx=>O x (List.mem_cons_of_mem _ hx)) sl1 σ1 K S1 q1 Q E fun fl sl2 f σ2 X2 r2 S2 q2=>k fl sl2 f σ2 (X1.trans X2) r2 S2 q2
  | brk=>exact k .brk sl1 .brk σ1 X1 .brk S1 q1
  | cont=>exact k .cont sl1 .cont σ1 X1 .cont S1 q1
  | ret r=>exact k (.ret _) sl1 (.ret _) σ1 X1 (.ret r) S1 q1
theorem SAll.ok {ds:List SD} (h:SAll C ds) (fm:C.fm Φ.A Φ.env) (w:bwf ds Φ.env.scope ns = true):∀ d ∈ ds,SOk C Φ ns d:=fun d hd=>h d hd Φ ns fm (List.all_eq_true.mp w d hd)
noncomputable def SD.raw (s:Stmt):SD:=⟨s,fun _ _=>true,fun _ _ _=>False⟩
theorem zwd (s:Stmt):SGood C (.raw s):=fun Φ ns fm w sl σ K S q=>q.elim
noncomputable def SD.ret (e:ED) (p:Pos):SD:=⟨.Return (some e.ast) p,e.wf,fun sl cs K=>e.val sl cs fun v cs=>K (.ret v) sl cs⟩
theorem zwa {e:ED} (p:Pos) (h:EGood C e):SGood C (.ret e p):=fun Φ ns fm w sl σ K S q Q E k =>
 wpAny_Return_some ((h Φ ns w).val sl σ _ S q _ _ fun v a σ1 X1 r q1=>k (.ret v) sl _ σ1 (toOwn X1) (.ret r) (S.ext X1) q1)
noncomputable def SD.retN (p:Pos):SD:=⟨.Return none p,fun _ _=>true,fun sl cs K=>K (.ret .none) sl cs⟩
theorem zrs (p:Pos):SGood C (.retN p):=fun Φ ns fm w sl σ K S q Q E k=>wpAny_Return_none (k (.ret .none) sl _ σ (Ext.refl S.H _) (.ret .none) S q)
noncomputable def SD.ite (t:ED) (a b:List SD) (p:Pos):SD:=⟨.If t.ast (a.map SD.ast) (b.map SD.ast) p,fun sc ns=>t.wf sc ns && (bwf a sc ns && bwf b sc ns),fun sl cs K=>t.tst sl cs fun c cs=>Bool.rec (bden b sl cs K) (bden a sl cs K) c⟩
theorem zxe {t:ED} {a b:List SD} (p:Pos) (ht:EGood C t) (ha:SAll C a) (hb:SAll C b):SGood C (.ite t a b p):=fun Φ ns fm w sl σ K S q Q E k=>by
 have w1:=(Bool.and_eq_true _ _).mp w
 have w2:=(Bool.and_eq_true _ _).mp w1.2
 refine wpAny_If ((ht Φ ns w1.1).tst sl σ _ S q _ _ fun c c' σ1 X1 rc q1=>?_)
 have go:∀ ds,(∀ d ∈ ds,SOk C Φ ns d) -> bden ds sl σ1.g.cs K -> wpAny C.M Φ.A (execs (ds.map SD.ast) Φ.env) Q E σ1.s:=fun ds O q=>zd6 ds O sl σ1 K (S.ext X1) q Q E fun fl sl2 f σ2 X2 r2 S2 q2=>k fl sl2 f σ2 ((toOwn X1).trans X2) r2 S2 q2
 cases (rc:c' = c)
 cases c with
 | true=>exact go a (ha.ok fm w2.1) q1
 | false=>exact go b (hb.ok fm w2.2) q1
structure Sole (a:Expr):Prop where
 sw:∀ o n env,swapsWith a o n env = pure false
 st:∀ (t:Tgt) env,swappedStores [t.ast] a env = pure none
noncomputable def IE.isC (e:IE):Bool:=IE.casesOn (motive_1:=fun _=>Bool) e (fun _ _ _=>false) false (fun _ _ _=>false) (fun _ _ _=>false) (fun _ _ _ _ _=>false) (fun _ _ _=>false) (fun _ _=>false) (fun _ _ _=>false) (fun _ _ _ _=>false) (fun _ _ _ _=>false) (fun _ _ _=>false)
 (fun _ _ _=>true) (fun _ _ _ _ _ _=>false) (fun _ _ _ _ _=>false) (fun _ _ _ _ _ _ _ _=>false) (fun _ _=>false) (fun _ _ _=>false) (fun _ _ _ _ _ _ _=>false) (fun _ _ _ _ _ _=>false) (fun _ _ _ _ _ _ _=>true) (fun _ _ _ _ _ _ _ _ _ _ _ _=>true)
theorem IE.sole (e:IE) (h:e.isC = false):Sole (e.sem P).ast:=by
 cases e <;> first | exact absurd (show true = false from h) (fun z=>Bool.noConfusion z) | exact ⟨fun _ _ _=>rfl,fun t _=>by cases t <;> rfl⟩
noncomputable def SD.expr (P:Prm) (e:IE) (p:Pos):SD:=⟨.Expr (e.sem P).ast p,fun sc ns=>!e.isC && (e.sem P).wf sc ns,fun sl cs K=>(e.sem P).val sl cs fun _ cs=>K .next sl cs⟩
theorem ztq (F:Facts C P) (e:IE) (p:Pos):SGood C (.expr P e p):=fun Φ ns fm w sl σ K S q Q E k=>by
 have w1:=(Bool.and_eq_true _ _).mp w
 refine wpAny_Expr_any ((e.good F Φ ns w1.2).val sl σ _ S q _ _ fun v a σ1 X1 r q1=>k .next sl _ σ1 (toOwn X1) .next (S.ext X1) q1) ?_ ((e.sole (notB w1.1)).sw none p.line Φ.env)
 unfold interactive; rw [S.F.kind]; rfl
noncomputable def bindK (t:Tgt) (v:V) (sl:Slots) (k:Slots -> Prop):Prop:=Option.rec False k (t.bind v sl)
theorem zi5 {t:Tgt} {v:V} {sl:Slots} {k:Slots -> Prop} (h:bindK t v sl k):∃ sl',t.bind v sl = some sl' /\ k sl':=by
 unfold bindK at h
 cases q:t.bind v sl with
 | none=>rw [q] at h; exact h.elim
 | some sl'=>rw [q] at h; exact ⟨sl',rfl,h⟩
theorem own2 (t:Tgt) (x:Str) (_:t.has x) (c:Addr) (hk:Φ.env.kindOf x = some .cell) (hc:Φ.env.cells.lookup x = some c):ownOf Φ.env c:=.inr ⟨x,hk,hc⟩
theorem zhh (t:Tgt) (env:Env) (v:Value):assignAll v ((assignEach [t.ast] env).map (·.2)) = assign t.ast env v:=by cases t <;> rfl
noncomputable def SD.asg (P:Prm) (t:Tgt) (e:IE) (p:Pos):SD:=⟨.Assign [t.ast] (e.sem P).ast p,fun sc ns=>!e.isC && (t.ok sc ns && (e.sem P).wf sc ns),fun sl cs K=>(e.sem P).val sl cs fun v cs=>bindK t v sl fun sl=>K .next sl cs⟩
theorem zfy {t:Tgt} {e:Expr} {val:Slots -> List Cell -> KV -> Prop} {p:Pos} (O:ValOk C Φ ns e val) (ht:t.ok Φ.env.scope ns = true) (h1:swapsWith e (some t.ast) p.line Φ.env = pure false) (h2:swappedStores [t.ast] e Φ.env = pure none) {sl:Slots} {K:KF} (S:Std C Φ (look ns sl) σ)
  (q:val sl σ.g.cs fun v cs=>bindK t v sl fun sl=>K .next sl cs):XRuns C Φ ns σ (exec (.Assign [t.ast] e p) Φ.env) K:=fun Q E k=>by
 refine wpAny_Assign_stores (O sl σ _ S q _ _ fun v a σ1 X1 r q1=>?_) h1 h2
 obtain ⟨sl',e1,q1⟩:=zi5 q1
 rw [zhh]
 exact zi4 (.inl rfl) (own2 t) (S.ext X1) ht e1 r _ _ fun σ2 X2 c2 S2=>k .next sl' _ σ2 ((toOwn X1).trans X2) .next S2 (c2 ▸ q1)
theorem zy7 (F:Facts C P) (t:Tgt) (e:IE) (p:Pos):SGood C (.asg P t e p):=fun Φ ns fm w sl σ K S q=>by
 have w1:=(Bool.and_eq_true _ _).mp w
 have w2:=(Bool.and_eq_true _ _).mp w1.2
 have h:=e.sole (P:=P) (notB w1.1)
 exact zfy (e.good F Φ ns w2.2).val w2.1 (h.sw _ _ _) (h.st _ _) S q
theorem zum {t t2:Tgt} {iter elt:Expr} {ifs:List Expr} {gs:List Comprehension} {em:Em} {scope:Scope} {cp p:Pos} {γ:Type} {tests:Slots -> List Cell -> KB -> Prop} {emit:γ -> Slots -> List Cell -> (γ -> List Cell -> Prop) -> Prop} {Gd:γ -> Gh -> Obj -> Prop} {out:γ -> List Cell -> KV -> Prop} {init:γ} {src:Slots -> List Cell -> KS -> Prop}
  (I:CIn C Φ ns scope cp t2 iter ifs elt gs em tests emit Gd out init src) (ht:t.ok Φ.env.scope ns = true) {sl:Slots} {K:KF} (S:Std C Φ (look ns sl) σ) (q:compV scope t2 tests emit out init src sl σ.g.cs fun v cs=>bindK t v sl fun sl=>K .next sl cs) :
  XRuns C Φ ns σ (exec (.Assign [t.ast] (.ListComp elt (⟨t2.ast,iter,ifs,0⟩ :: gs) scope cp) p) Φ.env) K:=by
 have st:swappedStores [t.ast] (.ListComp elt (⟨t2.ast,iter,ifs,0⟩ :: gs) scope cp) Φ.env = pure none:=by cases t <;> rfl
 have key:swapsWith (.ListComp elt (⟨t2.ast,iter,ifs,0⟩ :: gs) scope cp) (some t.ast) p.line Φ.env = pure false \/ swapsWith (.ListComp elt (⟨t2.ast,iter,ifs,0⟩ :: gs) scope cp) (some t.ast) p.line Φ.env = pure true:=by
  cases t with
  | tup=>exact .inl rfl
  | nm x i tp =>
   obtain ⟨b,hb⟩:∃ b,swapsWith (.ListComp elt (⟨t2.ast,iter,ifs,0⟩ :: gs) scope cp) (some (Tgt.nm x i tp).ast) p.line Φ.env = pure b:=⟨_,rfl⟩
   rw [hb]
   cases b
   ·exact .inl rfl
   ·exact .inr rfl
 rcases key with h | h
 ·exact zfy (zmm I) ht h st S q
 ·intro Q E k
  rw [exec_Assign_arm]
  refine wpAny_bind (wpAny_standAt ?_)
  rw [show swapsWithSole [t.ast] (.ListComp elt (⟨t2.ast,iter,ifs,0⟩ :: gs) scope cp) p.line Φ.env = pure true from h]
  refine wpAny_bind (wpAny_pure ?_)
  rw [if_pos rfl]
  refine wpAny_bind (wpAny_bind (zyp I (L':=fun v=>look ns ((t.bind v sl).getD sl)) S q (fun v a σ1 X1 r q1=>?_) fun v σ1 X1 q1 S1=>wpAny_pure (wpAny_pure ?_)))
  ·obtain ⟨sl',e1,_⟩:=zi5 q1
   rw [e1,zhh]
   exact zi4 (.inl rfl) (own2 t) (S.ext X1) ht e1 r
  ·obtain ⟨sl',e1,q1⟩:=zi5 q1
   rw [e1] at S1
   exact k .next sl' _ σ1 X1 .next S1 q1
noncomputable def SD.asgC (P:Prm) (t:Tgt) (c:Bool) (elt:IE) (t2:Tgt) (iter:IE) (ifs:List IE) (scope:Scope) (cp p:Pos):SD :=
 ⟨.Assign [t.ast] ((IE.lcomp c elt t2 iter ifs scope cp).sem P).ast p,fun sc ns=>t.ok sc ns && ((IE.lcomp c elt t2 iter ifs scope cp).sem P).wf sc ns,fun sl cs K=>((IE.lcomp c elt t2 iter ifs scope cp).sem P).val sl cs fun v cs=>bindK t v sl fun sl=>K .next sl cs⟩
theorem zu3 (F:Facts C P) (t:Tgt) (c:Bool) (elt:IE) (t2:Tgt) (iter:IE) (ifs:List IE) (scope:Scope) (cp p:Pos):SGood C (.asgC P t c elt t2 iter ifs scope cp p):=fun Φ ns fm w sl σ K S q =>
 have w1:=(Bool.and_eq_true _ _).mp w
 zum (zkk F (c:=c) (t:=t2) (elt.good F) (iter.good F) (IE.all_good F ifs) w1.2) w1.1 S q
noncomputable def SD.asgD (P:Prm) (t:Tgt) (c:Bool) (elt:IE) (t2:Tgt) (iter:IE) (ifs:List IE) (x:Str) (i:Nat) (xp:Pos) (iter2:IE) (ifs2:List IE) (scope:Scope) (cp p:Pos):SD :=
 ⟨.Assign [t.ast] ((IE.lcomp2 c elt t2 iter ifs x i xp iter2 ifs2 scope cp).sem P).ast p,fun sc ns=>t.ok sc ns && ((IE.lcomp2 c elt t2 iter ifs x i xp iter2 ifs2 scope cp).sem P).wf sc ns,fun sl cs K=>((IE.lcomp2 c elt t2 iter ifs x i xp iter2 ifs2 scope cp).sem P).val sl cs fun v cs=>bindK t v sl fun sl=>K .next sl cs⟩
theorem zu2 (F:Facts C P) (t:Tgt) (c:Bool) (elt:IE) (t2:Tgt) (iter:IE) (ifs:List IE) (x:Str) (i:Nat) (xp:Pos) (iter2:IE) (ifs2:List IE) (scope:Scope) (cp p:Pos):SGood C (.asgD P t c elt t2 iter ifs x i xp iter2 ifs2 scope cp p):=fun Φ ns fm w sl σ K S q =>
 have w1:=(Bool.and_eq_true _ _).mp w
 zum (zhb F (c:=c) (t:=t2) (elt.good F) (iter.good F) (IE.all_good F ifs) (iter2.good F) (IE.all_good F ifs2) w1.2) w1.1 S q
end
noncomputable def Fl.goes (f:Fl):Bool:=Fl.rec true false true (fun _=>false) f
noncomputable def Fl.after (f:Fl):Fl:=Fl.rec .next .next .next .ret f
inductive ForR (t:Tgt) (body:Slots -> List Cell -> KF -> Prop) (K:KF):Src -> Slots -> List Cell -> Prop
 | done {src sl cs} (e:EndR cs src) (k:K .next sl cs):ForR t body K src sl cs
 | step {src src' sl cs v sl1} (M:KF) (e:NextR cs src v src') (b:t.bind v sl = some sl1) (h:body sl1 cs M) (hn:∀ fl sl' cs',fl.goes = true -> M fl sl' cs' -> ForR t body K src' sl' cs')
   (hx:∀ fl sl' cs',fl.goes = false -> M fl sl' cs' -> K fl.after sl' cs'):ForR t body K src sl cs
noncomputable def ResOk (Q:Flow -> Shared -> Prop) (E:Value -> Shared -> Prop) (C:Cx) (Φ:Fm):Result -> Shared -> Prop:=fun r s'=>match r with | .ok f=>Q f s' | .error e=>cameBackBy C.M Φ.A Φ.env E e s'
section
variable {C:Cx} {Φ:Fm} {ns:List Str} {σ:St} {P:Prm}
section
variable {A:Around} {s:Shared} {RR:Result -> Shared -> Prop} {env:Env} {target:Expr} {it:Value} {body:List Stmt}
theorem ztk (h:∀ E,wpAny C.M A (pyNext it) (fun r s₁=>r = none /\ RR (.ok .next) s₁) E s):codeAny C.M A (.forLoop target it body [] env) RR s:=by
 refine codeAny_of_tree ?_
 show wpAny _ A ((forTurn target it body [] env).onRaise (fun x=>do noteFrame x env; theTreesLotGoes x)) _ _ s
 refine wpAny_noted ?_
 unfold forTurn
 refine wpAny_bind (wpAny_standAt (wpAny_bind (wpAny_onRaise (wpAny_mono (h _) (fun r s₁ h₁=>?_) fun _ _ h'=>wpAny_standAt h'))))
 rw [h₁.1]
 exact wpAny_pure ⟨rfl,codeAny_block (wpAny_execs_nil h₁.2)⟩
theorem zxy (h:wpAny C.M A (pyNext it) (fun r s₁=>∃ v,r = some v /\ wpAny C.M A (letOwnedTupleGo target it v) (fun _ s₂=>wpAny C.M A (assign target env v) (fun _ s₃=>wpAny C.M A (execs body env) (fun f s₄ =>
   Flow.rec (codeAny C.M A (.forLoop target it body [] env) RR s₄) (RR (.ok .next) s₄) (codeAny C.M A (.forLoop target it body [] env) RR s₄) (fun v=>RR (.ok (.ret v)) s₄) f) (RE C A env RR) s₃) (RE C A env RR) s₂) (RE C A env RR) s₁) (RE C A env RR) s):codeAny C.M A (.forLoop target it body [] env) RR s:=by
 refine codeAny_of_tree ?_
 show wpAny _ A ((forTurn target it body [] env).onRaise (fun x=>do noteFrame x env; theTreesLotGoes x)) _ _ s
 refine wpAny_noted ?_
 unfold forTurn
 refine wpAny_bind (wpAny_standAt (wpAny_bind (wpAny_onRaise (wpAny_mono h (fun r s₁ h₁=>?_) fun _ _ h'=>wpAny_standAt h'))))
 obtain ⟨v,rfl,h₁⟩:=h₁
 refine wpAny_bind (wpAny_mono h₁ (fun _ s₂ h₂=>wpAny_bind (wpAny_mono h₂ (fun _ s₃ h₃=>wpAny_bind (wpAny_mono h₃ (fun f s₄ h₄=>?_) fun _ _ h'=>h')) fun _ _ h'=>h')) fun _ _ h'=>h')
 cases f with
 | next=>exact wpAny_pure ⟨rfl,h₄⟩
 | cont=>exact wpAny_pure ⟨rfl,h₄⟩
 | brk=>exact wpAny_pure h₄
 | ret v=>exact wpAny_pure h₄
end
theorem for_ok {t:Tgt} {ds:List SD} {it:Addr} {os:List Addr} {R:Src -> St -> Prop} (I:It C t.ast it os R) (ht:t.ok Φ.env.scope ns = true) (O:∀ d ∈ ds,SOk C Φ ns d) (no:∀ a ∈ os,¬ ownAll Φ.env a) {σ₀:St} (fr:∀ a ∈ os,σ₀.s.heap.get? a = none)
  {K:KF} {Q:Flow -> Shared -> Prop} {E:Value -> Shared -> Prop} (k:∀ fl sl f σ',Ext σ₀ σ' (ownOf Φ.env) -> FlRel σ'.g fl f -> Std C Φ (look ns sl) σ' -> K fl sl σ'.g.cs -> Q f σ'.s) {src:Src} {sl:Slots} {cs:List Cell} (h:ForR t (bden ds) K src sl cs) :
  ∀ {σ:St},σ.g.cs = cs -> R src σ -> Std C Φ (look ns sl) σ -> Ext σ₀ σ (ownOf Φ.env) -> codeAny C.M Φ.A (.forLoop t.ast (.ref it) (ds.map SD.ast) [] Φ.env) (ResOk Q E C Φ) σ.s:=by
 induction h with
 | @done src sl cs e q =>
  intro σ hc p S X
  subst hc
  refine ztk fun E'=>I.fin _ _ _ S.O.hh p S.H e _ _ fun h' tk hk=>⟨rfl,?_⟩
  have Y:=X.fin (tk:=tk) (I.own _ _ p) hk fr
  exact k .next sl .next (σ.up h' tk σ.g) Y .next ⟨S.F.keepH fun a o ha e=>hk a o (fun z=>no a z ha) e,Y.H,S.B,S.O⟩ q
 | @step src src' sl cs v sl1 M e b h hn hx ih =>
  intro σ hc p S X
  subst hc
  refine zxy (I.nxt _ _ _ _ _ S.O.hh p S.H e _ _ fun v' σ1 X1 c1 p1 rv=>?_)
  have S1:Std C Φ (look ns sl) σ1:=⟨S.F.ext S.H X1 no,X1.H,S.B.le X1.le,S.O⟩
  refine zi4 (.inl rfl) (own2 t) S1 ht b rv _ _ fun σ2 X2 c2 S2=>?_
  refine zd6 ds O sl1 σ2 M S2 (by rw [c2,c1]; exact h) _ _ fun fl sl2 f σ3 X3 r3 S3 q3=>?_
  have Y3:=X2.trans X3
  have Z:=(X.trans' X1 fun a ha=>.inr (fr a ha)).trans Y3
  have go:fl.goes = true -> codeAny C.M Φ.A (.forLoop t.ast (.ref it) (ds.map SD.ast) [] Φ.env) (ResOk Q E C Φ) σ3.s:=fun hg=>ih fl sl2 _ hg q3 rfl (I.ext _ _ _ _ p1 S1.H Y3 fun a ha z=>no a ha (zkd _ z)) S3 Z
  cases r3 with
  | next=>exact go rfl
  | cont=>exact go rfl
  | brk=>exact k .next sl2 .next σ3 Z .next S3 (hx .brk sl2 _ rfl q3)
  | ret r=>exact k (.ret _) sl2 (.ret _) σ3 Z (.ret r) S3 (hx (.ret _) sl2 _ rfl q3)
noncomputable def SD.for_ (t:Tgt) (it:ED) (body:List SD) (p:Pos):SD:=⟨.For t.ast it.ast (body.map SD.ast) [] p,fun sc ns=>t.ok sc ns && (it.wf sc ns && bwf body sc ns),fun sl cs K=>it.src t sl cs fun src cs=>ForR t (bden body) K src sl cs⟩
theorem zxz (t:Tgt) {it:ED} {body:List SD} (p:Pos) (hi:EGood C it) (hb:SAll C body):SGood C (.for_ t it body p):=fun Φ ns fm w sl σ K S q Q E k=>by
 have w1:=(Bool.and_eq_true _ _).mp w
 have w2:=(Bool.and_eq_true _ _).mp w1.2
 have O:=hi Φ ns w2.1
 refine wpAny_For (O.src t sl σ _ S q _ _ fun src it os R σ1 X1 I p1 fr q1=>?_) (O.pl.fold _)
 have no:∀ a ∈ os,¬ ownAll Φ.env a:=fun a ha z=>by
  obtain ⟨o,e⟩:=S.F.alive a z
  rw [fr a ha] at e; cases e
 exact for_ok I w1.1 (hb.ok fm w2.2) no fr k q1 rfl p1 (S.ext X1) (toOwn X1)
end
section
variable {C:Cx} {A:Around} {σ:St} {P:Prm} {R:Result -> Shared -> Prop}
theorem zx2 {n:Nat} (h:n <= lim):Builtin.Str.tooLong n = false:=decide_eq_false (Nat.not_lt.mpr (Nat.le_trans h zah))
theorem zen {l:Nat} {xs ys:List V} {h':Heap} {vs:List Value} {n:Nat} {K:KV} {Q:Value -> Shared -> Prop} (H:HRel σ.g σ.s.heap) (hx:σ.g.cs[l]? = some (.list xs)) (hs:Heap.ExtBut (σ.g.ρ l) σ.s.heap h') (e:h'.get? (σ.g.ρ l) = some (listO vs n)) (r:VRels σ.g ys vs) (hl:ys.length <= lim)
  (q:K .none (σ.g.cs.set l (.list ys))) (k:∀ v a σ',Ext σ σ' noOwn -> VRel σ'.g v a -> K v σ'.g.cs -> Q a σ'.s) (t:Nat):Q .none { σ.s with heap:=h',toks:=t } :=
 k .none .none (σ.up h' t (σ.g.upd l (.list ys))) (Ext.upd H (zaa hx) hs ⟨vs,n,e,vmono r (Le.upd ..),hl⟩) .none q
theorem zu4 {l:Nat} {xs:List V} {v:V} {v':Value} {K:KV} (H:HRel σ.g σ.s.heap) (hx:σ.g.cs[l]? = some (.list xs)) (hl:xs.length < lim) (rv:VRel σ.g v v') (q:K .none (σ.g.cs.set l (.list (xs ++ [v])))) :
  Runs C A σ noOwn (call (.builtin "list.append") [.ref (σ.g.ρ l),v']) VR K:=fun Q E k=>by
 obtain ⟨vs,ep,e,r,_⟩:=H.ce l _ hx
 refine wpAny_list_append_plain (l:=σ.g.ρ l) (items:=vs.toArray) (hsz:=Nat.le_trans (Nat.le_of_lt (Nat.lt_of_le_of_lt (Nat.le_of_eq r.length) hl)) zah) ⟨ep,e⟩ fun h' hp hs=>?_
 obtain ⟨n,e'⟩:=hp
 exact zen H hx hs.extBut (vs:=vs ++ [v']) (n:=n) (by rw [e',List.push_toArray]) (r.append (.cons rv .nil)) (by rw [List.length_append]; exact hl) q k σ.s.toks
theorem zo6 {l:Nat} {xs:List V} {K:KV} (H:HRel σ.g σ.s.heap) (hx:σ.g.cs[l]? = some (.list xs)) (q:K .none (σ.g.cs.set l (.list xs.reverse))):Runs C A σ noOwn (call (.builtin "list.reverse") [.ref (σ.g.ρ l)]) VR K:=fun Q E k=>by
 obtain ⟨vs,n,e,r,hl⟩:=H.ce l _ hx
 refine call_meets F.slot_list_reverse ⟨_,e,rfl⟩ F.entry_list_reverse (F.args_list_reverse_1 _) (AutoSeq1.list_reverse_list_0 (σ.g.ρ l) vs.toArray n (Nat.le_trans (Nat.le_of_eq r.length) (Nat.le_trans hl zah))) ⟨e,?_⟩
 exact zen H hx (Heap.SameBut.update ..).extBut (vs:=vs.reverse) (n:=n) ((Heap.get?_update_self _ e rfl).trans (by simp [Obj.mapSeq])) r.reverse (by rw [List.length_reverse]; exact hl) q k σ.s.toks
theorem zpr {l:Nat} {zs ys:List V} {o:V} {o':Value} {K:KV} (hx:σ.g.cs[l]? = some (.list zs)) (H:HRel σ.g σ.s.heap) (ho:SeqR σ.g.cs o false ys) (ro:VRel σ.g o o') (hl:zs.length + ys.length <= lim) (q:K .none (σ.g.cs.set l (.list (zs ++ ys)))) :
  Runs C A σ noOwn (call (.builtin "list.extend") [.ref (σ.g.ρ l),o']) VR K:=fun Q E k=>by
 obtain ⟨vs,ep,e,r,_⟩:=H.ce l _ hx
 cases zap H ho ro with
 | mk a us ep2 e2 r2 _ =>
  have hl0:(zs ++ ys).length <= lim:=by rw [List.length_append]; exact hl
  have hsz:vs.length + us.length <= sizeLine:=by rw [r.length,r2.length]; exact Nat.le_trans hl zah
  have key:wpAny C.M A.in1 (Builtin.List.listExtendWith (.ref (σ.g.ρ l)) (.ref a) .none) (fun fin s'=>match fin with | .done f=>wants Q E (.ok f) s' | .again c'=>c'.quiet = true /\ codeAny C.M A c' (wants Q E) s') (fun e s'=>wants Q E (.error e) s') σ.s:=by
   unfold Builtin.List.listExtendWith
   refine wpAny_bind (wpAny_typeOf ⟨_,e2,rfl⟩ ?_)
   have h1:(Builtin.List.listSameRef (.ref (σ.g.ρ l)) (.ref a) || Value.type "list" == Value.type "list" || Value.type "list" == Value.type "tuple") = true:=by simp
   rw [show (Bool.rec "list" "tuple" false:String) = "list" from rfl,h1,if_pos rfl]
   refine wpAny_bind ?_
   unfold Builtin.List.listItems
   refine wpAny_bind (wpAny_seqItems e2 rfl (wpAny_pure ?_))
   refine wpAny_bind ?_
   refine wpAny_bind (wpAny_seqItems e rfl (wpAny_pure ?_))
   have hlong:Builtin.List.listTooLong (vs.toArray.size + us.toArray.size) = false:=by unfold Builtin.List.listTooLong; exact decide_eq_false (Nat.not_lt.mpr (by simpa using hsz))
   rw [hlong,Bool.and_false,if_neg (by decide)]
   show wpAny _ A.in1 (updateSeq (σ.g.ρ l) (· ++ us.toArray) >>= fun _=>ret .none) _ _ σ.s
   refine wpAny_bind (wpAny_updateSeq e rfl ?_ (hz:=Nat.le_trans (Nat.le_add_right _ _) hsz) (_hz':=by rw [Array.size_append]; exact Nat.le_succ_of_le (by simpa using hsz)))
   obtain ⟨n,hn⟩:∃ n,Obj.mapSeq (· ++ us.toArray) (listO vs ep) = listO (vs ++ us) n:=⟨_,congrArg (fun x=>(⟨.type "list",none,.seq x _,#[]⟩:Obj)) (List.append_toArray vs us)⟩
   exact wpAny_pure (zen H hx (Heap.SameBut.update ..).extBut (vs:=vs ++ us) (n:=n) ((Heap.get?_update_self _ e rfl).trans (congrArg some hn)) (r.append r2) hl0 q k σ.s.toks)
  exact wpAny_call (codeAny_call_builtin F.slot_list_extend.plain F.entry_list_extend (F.slot_list_extend.check _ _ _ _ _ _ _ _ ⟨_,e,rfl⟩ (F.args_list_extend_2 _ _) key))
theorem zxk {o a:V} {xs:List V} {o' a':Value} {f:Nat -> Bool} {j:Nat} {K:KV} (H:HRel σ.g σ.s.heap) (un:A.units + 9 < cLine) (ho:SeqR σ.g.cs o false xs) (ro:VRel σ.g o o') (ra:VRel σ.g a a') (h:Fnd σ.g.cs xs a f) (hj:j < xs.length) (hit:f j = true) (hno:∀ m,m < j -> f m = false) (q:K (.int j) σ.g.cs) :
  Runs C A σ noOwn (call (.builtin "list.index") [o',a']) VR K:=fun Q E k=>by
 cases zap H ho ro with
 | mk l vs ep e r hl =>
  obtain ⟨g,I⟩:=in_at (A:=A) (s:=σ.s) H h r ra un
  have hj2:j < vs.length:=by rw [r.length]; exact hj
  have at_:∀ m (hm:m < vs.toArray.size),g vs.toArray[m] = f m:=fun m hm=>I.val m _ (by rw [List.getElem?_eq_getElem (by simpa using hm)]; simp)
  have hs:(j:Int) < 2 ^ 63 - 1:=Int.lt_of_lt_of_le (Int.ofNat_lt.mpr (Nat.lt_of_lt_of_le hj hl)) (by decide)
  exact call_meets F.slot_list_index ⟨_,e,rfl⟩ F.entry_list_index (F.args_list_index_2 _ _) (SeqAt.list_indexAt l vs.toArray ep none #[] a' g j (by simpa using hj2) hs (by rw [at_]; exact hit) fun m hm hlt=>by rw [at_]; exact hno m hlt)
   ⟨e,I.at_,k _ _ (σ.up σ.s.heap _ σ.g) (Ext.tok H) (.int _ _) q⟩
theorem zyo {o a:V} {xs:List V} {o' a':Value} {f:Nat -> Bool} {K:KV} (H:HRel σ.g σ.s.heap) (un:A.units + 9 < cLine) (ho:SeqR σ.g.cs o false xs) (ro:VRel σ.g o o') (ra:VRel σ.g a a') (h:Fnd σ.g.cs xs a f) (q:K (.int ((List.range xs.length).countP f:Nat)) σ.g.cs) :
  Runs C A σ noOwn (call (.builtin "list.count") [o',a']) VR K:=fun Q E k=>by
 cases zap H ho ro with
 | mk l vs ep e r hl =>
  obtain ⟨g,I⟩:=in_at (A:=A) (s:=σ.s) H h r ra un
  have hc:vs.toArray.toList.countP g = (List.range xs.length).countP f:=by
   rw [<- r.length]
   have:vs.map g = (List.range vs.length).map f:=by
    refine List.ext_getElem (by simp) fun i h1 h2=>?_
    rw [List.getElem_map,List.getElem_map,List.getElem_range]
    have h3:i < vs.length:=by simpa using h1
    exact I.val i _ (List.getElem?_eq_getElem h3)
   have e1:=congrArg (List.countP id) this
   rw [List.countP_map,List.countP_map] at e1
   exact e1
  refine call_meets F.slot_list_count ⟨_,e,rfl⟩ F.entry_list_count (F.args_list_count_2 _ _) (SeqAt.list_countAt l vs.toArray ep none #[] a' g) ⟨e,I.at_,?_⟩
  rw [hc]
  exact k _ _ (σ.up σ.s.heap _ σ.g) (Ext.tok H) (.int _ _) q
theorem z1u {g:Gh} {xs:List Str}:∀ {vs:List Value},VRels g (xs.map .str) vs -> ∃ l:List (Str × Tok),vs = strValues l /\ l.map (·.1) = xs:=by
 induction xs with
 | nil=>intro vs r; cases r.nil_of; exact ⟨[],rfl,rfl⟩
 | cons x xs ih =>
  intro vs r
  obtain ⟨v,vs',rfl,h,r'⟩:=r.cons_of
  obtain ⟨t,rfl,_⟩:=h.inv
  obtain ⟨l,rfl,e⟩:=ih r'
  exact ⟨(x,t) :: l,rfl,congrArg (x :: ·) e⟩
theorem z3n {o:V} {sep:Str} {xs:List Str} {t:Tok} {o':Value} {K:KV} (H:HRel σ.g σ.s.heap) (ho:SeqR σ.g.cs o false (xs.map .str)) (ro:VRel σ.g o o') (hj:JoinOk sep xs = true) (hl:(Txt.join sep xs).length <= lim) (q:K (.str (Txt.join sep xs)) σ.g.cs):Runs C A σ noOwn (call (.builtin "str.join") [.str sep t,o']) VR K:=fun Q E k=>by
 cases zap H ho ro with
 | mk l vs ep e r _ =>
  obtain ⟨ps,rfl,ht⟩:=z1u r
  exact SC.join ⟨_,e,rfl,_,rfl⟩ ht hj fun t' tk=>k _ _ (σ.up σ.s.heap tk σ.g) (Ext.tok H) (.str _ _ hl) q
theorem z2n {l:Nat} {xs:List V} {v:V} {K:KV} (H:HRel σ.g σ.s.heap) (hx:σ.g.cs[l]? = some (.list (xs ++ [v]))) (q:K v (σ.g.cs.set l (.list xs))):Runs C A σ noOwn (call (.builtin "list.pop") [.ref (σ.g.ρ l)]) VR K:=fun Q E k=>by
 obtain ⟨vs,n,e,r,hl⟩:=H.ce l _ hx
 have hi:(xs ++ [v])[xs.length]? = some v:=by rw [List.getElem?_append_right (Nat.le_refl _),Nat.sub_self]; rfl
 obtain ⟨v',hv,rv⟩:=r.get hi
 have hlen:vs.length = xs.length + 1:=by rw [r.length,List.length_append]; rfl
 have hy:vs.toArray[vs.toArray.size - 1]? = some v':=by rw [List.size_toArray,hlen,Nat.add_sub_cancel]; exact zef hv
 have hsz:vs.toArray.size <= sizeLine:=Nat.le_trans (Nat.le_of_eq r.length) (Nat.le_trans hl zah)
 refine call_meets F.slot_list_pop ⟨_,e,rfl⟩ F.entry_list_pop (F.args_list_pop_1 _) (MeetsSeq.list_pop_last (σ.g.ρ l) vs.toArray n v' hy hsz) ⟨e,?_⟩
 obtain ⟨n',e'⟩:∃ n',(σ.s.heap.update (σ.g.ρ l) (Obj.mapSeq fun xs=>xs.eraseIdxIfInBounds (vs.toArray.size - 1))).get? (σ.g.ρ l) = some (listO vs.dropLast n'):=by
  refine ⟨_,(Heap.get?_update_self _ e rfl).trans (congrArg some (congrArg (fun x=>(⟨.type "list",none,.seq x _,#[]⟩:Obj)) ?_))⟩
  simp [List.eraseIdx_eq_dropLast,hlen]
 have rr:VRels σ.g xs vs.dropLast:=by
  have:∀ (xs:List V) (vs:List Value),VRels σ.g (xs ++ [v]) vs -> VRels σ.g xs vs.dropLast:=fun xs=>by
   induction xs with
   | nil=>intro vs r; obtain ⟨_,rfl,_⟩:=r.one; exact .nil
   | cons x xs ih =>
    intro vs r
    obtain ⟨y,r',rfl,h,r2⟩:=r.cons_of
    have i:=ih r' r2
    have ne:r' ≠ []:=fun z=>by subst z; have e3:0 = (xs ++ [v]).length:=r2.length; rw [List.length_append] at e3; exact absurd e3 (Nat.ne_of_lt (Nat.succ_pos _))
    rw [List.dropLast_cons_of_ne_nil ne]
    exact .cons h i
  exact this xs vs r
 exact k v v' (σ.up _ σ.s.toks (σ.g.upd l (.list xs))) (Ext.upd H (zaa hx) (Heap.SameBut.update ..).extBut ⟨_,n',e',vmono rr (Le.upd ..),Nat.le_trans (Nat.le_succ _) (by rw [List.length_append] at hl; exact hl)⟩) (rv.mono (Le.upd ..)) q
theorem z2o {l:Nat} {xs:List V} {v:V} {t:Tok} {K:KV} (H:HRel σ.g σ.s.heap) (hx:σ.g.cs[l]? = some (.list (v :: xs))) (q:K v (σ.g.cs.set l (.list xs))):Runs C A σ noOwn (call (.builtin "list.pop") [.ref (σ.g.ρ l),.int 0 t]) VR K:=fun Q E k=>by
 obtain ⟨vs,n,e,r,hl⟩:=H.ce l _ hx
 obtain ⟨v',vs',rfl,rv,rr⟩:=r.cons_of
 have hsz:(v' :: vs').toArray.size <= sizeLine:=Nat.le_trans (Nat.le_of_eq r.length) (Nat.le_trans hl zah)
 have hk:seqIndex? 0 (v' :: vs').toArray.size = some 0:=by
  unfold seqIndex?
  simp
 refine call_meets F.slot_list_pop ⟨_,e,rfl⟩ F.entry_list_pop (F.args_list_pop_2 _ _) (MeetsSeq.list_pop_at (σ.g.ρ l) (v' :: vs').toArray n 0 t 0 v' (by decide) hk rfl hsz) ⟨e,?_⟩
 obtain ⟨n',e'⟩:∃ n',(σ.s.heap.update (σ.g.ρ l) (Obj.mapSeq fun xs=>xs.eraseIdxIfInBounds 0)).get? (σ.g.ρ l) = some (listO vs' n'):=by
  refine ⟨_,(Heap.get?_update_self _ e rfl).trans (congrArg some (congrArg (fun x=>(⟨.type "list",none,.seq x _,#[]⟩:Obj)) ?_))⟩
  simp
 exact k v v' (σ.up _ σ.s.toks (σ.g.upd l (.list xs))) (Ext.upd H (zaa hx) (Heap.SameBut.update ..).extBut ⟨_,n',e',vmono rr (Le.upd ..),Nat.le_of_succ_le hl⟩) (rv.mono (Le.upd ..)) q
theorem zqq {g:Gh} (xs:List Str) (h:∀ z ∈ xs,z.length <= lim):∀ tk:Nat,VRels g (xs.map .str) (strsFrom tk xs):=by
 induction xs with
 | nil=>exact fun _=>.nil
 | cons x xs ih=>exact fun tk=>.cons (.str x tk (h x List.mem_cons_self)) (ih (fun z hz=>h z (List.mem_cons_of_mem _ hz)) (tk + 1))
theorem zvw {x y:Str} {t u:Tok} {K:KV} (H:HRel σ.g σ.s.heap) (hx:x.length <= lim) (S:SplitOk x y) (q:K (.lst ((splitL x y).map .str)) σ.g.cs):Runs C A σ noOwn (call (.builtin "str.split") [.str x t,.str y u]) VR K:=fun Q E k=>by
 refine call_meets F.slot_str_split (typeIs_str _ _ _) F.entry_str_split (F.args_str_split_2 _ _) (meets_str_split_sep x y t u S.h1 S.hy S.hf (Nat.le_trans hx zah) (Nat.le_trans S.hl zah)) ?_
 obtain ⟨v,σ',X,es,r2,q2⟩:=zg9 (c:=false) (h':=σ.s.heap.push (listO (strsFrom σ.s.toks (splitL x y)) 0)) H (zqq _ S.hs σ.s.toks) (fun a o e=>Heap.get?_push_of_some _ e) (get?_size _) (Heap.get?_push_size _ rfl) ⟨by rw [List.length_map]; exact S.hl,q⟩ (σ.s.toks + (splitL x y).length)
 have:=k v _ σ' X r2 q2
 rw [es] at this
 exact this
end
theorem zcn:Slot "re.Pattern" "search" "re.Pattern.search" :=
 .of (owner := "re.Pattern") (n := "search") (by rw [typeLookup_type,builtinLookup_eq_fast]; kernel_rfl) (by decide +kernel) (by decide +kernel) (by decide +kernel)
  (by first | exact .inl (by decide +kernel) | exact .inr (by decide +kernel)) (by rw [isSubtype_type]; kernel_rfl)
theorem zfd:typeOf (.builtin "re.Pattern.search") = pure (.type "method_descriptor"):=by show builtinType _ = _; rw [builtinType_eq_fast]; kernel_rfl
theorem ze7:entryFor table "re.Pattern.search" = some Builtin.«re.Pattern.search»:=entryFor_of_tree (by kernel_rfl)
theorem zgj (a b:Value):argsOk "re.Pattern.search" ⟨[a,b],[]⟩:=by unfold argsOk; kernel_rfl
theorem zgv:PlainAttrs "re.Pattern" :=
 ⟨⟨"object.__getattribute__",by rw [typeLookup_type,builtinLookup_eq_fast]; kernel_rfl,by decide +kernel⟩,by rw [typeLookup_type,builtinLookup_eq_fast]; kernel_rfl⟩
namespace SreX
open PySem.Sre
noncomputable def fresh' (code text:Array Nat) (groups pos lim:Nat) (mustAdvance:Bool):M :=
 { code,text,lim,start:=pos,pc:=(header code).2,pos,handed:=pos,marks:=Array.replicate (2 * groups) none,mustAdvance,seen:=if (header code).2 == 0 then {} else ({}:Seen).add 14 }
theorem zkq (code text:Array Nat) (groups pos lim:Nat) (ma:Bool):forSearch code text groups pos lim ma =
  (if pos > lim || lim - pos < (header code).1 then (fresh' code text groups pos lim ma).say false
  else { fresh' code text groups pos lim ma with lastStart:=if (header code).1 > 1 && !((header code).2 != 0 && code.getD 2 0 &&& 5 != 0) then max pos (lim - ((header code).1 - 1)) else lim }.attemptFrom pos true):=rfl
structure SetIs (code:Array Nat) (bad:Nat -> Bool):Prop where
 set:∀ c seen,∃ seen',inSet code c code.size 5 true seen = .ok (bad c,seen')
 info:ops[code.getD 0 0]? = some .INFO
 four:code.getD 2 0 = 4
theorem zec {code:Array Nat} {bad:Nat -> Bool} (S:SetIs code bad) (m:M) (hm:m.code = code) (hb:∀ i,i < m.lim -> bad (m.text.getD i 0) = false):∀ (fuel s:Nat) (seen:Seen),∃ seen',M.admitted m fuel s seen = .ok (none,seen')
 | 0,s,seen=>⟨seen,rfl⟩
 | fuel + 1,s,seen=>by
  unfold M.admitted
  by_cases h:s >= m.lim
  ·rw [if_pos h]; exact ⟨seen,rfl⟩
  ·rw [if_neg h]
   obtain ⟨seen',e⟩:=S.set (m.text.getD s 0) seen
   rw [hm,e,hb s (Nat.not_le.mp ‹_›)]
   exact zec S m hm hb fuel (s + 1) seen'
theorem search_say {code text:Array Nat} {bad:Nat -> Bool} {groups:Nat} (S:SetIs code bad) (hb:∀ i,i < text.size -> bad (text.getD i 0) = false) :
  (forSearch code text groups 0 text.size false).answer = some false /\ (forSearch code text groups 0 text.size false).frames = [] /\ (forSearch code text groups 0 text.size false).outcome = none:=by
 rw [zkq]
 split
 ·exact ⟨rfl,rfl,rfl⟩
 ·unfold M.attemptFrom
  have h1:∀ m:M,m.code = code -> m.hasFirstSet = true:=fun m hm=>by
   unfold M.hasFirstSet
   rw [hm,S.info,S.four]; rfl
  have h2:=fun (m:M) (a:m.code = code) (b:m.lim = text.size) (c:m.text = text)=>zec S m a (fun i hi=>by rw [c]; exact hb i (Nat.lt_of_lt_of_eq ‹_› ‹_›))
  rw [h1 _ rfl]
  simp only [Bool.not_true,Bool.false_eq_true,if_false]
  obtain ⟨seen',e⟩:=h2 { fresh' code text groups 0 text.size false with lastStart:=if (header code).1 > 1 && !((header code).2 != 0 && code.getD 2 0 &&& 5 != 0) then max 0 (text.size - ((header code).1 - 1)) else text.size } rfl rfl rfl (text.size + 1 - 0) 0 (fresh' code text groups 0 text.size false).seen
  have e':=e
  simp only [fresh'] at e' ⊢
  rw [e']
  exact ⟨rfl,rfl,rfl⟩
theorem run_failed {m:M} (h1:m.answer = some false) (h2:m.frames = []) (h3:m.outcome = none):m.runFor 4 = { m with outcome:=some .failed }:=by
 have hs:m.step = { m with outcome:=some .failed }:=by
  unfold M.step
  rw [h1,h2,h3]
  rfl
 unfold M.runFor
 rw [h3,hs]
 rfl
end SreX
theorem zpu (n:Nat) (m:Sre.M) (h:(m.runFor 4).outcome.isSome = true):Builtin.Re.reDrive (n + 1) m = pure (m.runFor 4):=by
 unfold Builtin.Re.reDrive
 show (if (m.runFor 4).outcome.isSome = true then pure (m.runFor 4) else _) = _
 rw [if_pos h]
theorem zdg {M:Model} {A:Around} {E:Value -> Shared -> Prop} {s:Shared} {Q:PUnit -> Shared -> Prop} (p:Nat -> Bool) (f:Nat -> String) (h:Q PUnit.unit s):∀ (l:List Nat),
  wpAny M A (forIn l PUnit.unit fun i (_:PUnit)=>(if p i = true then (do rule (f i); pure (ForInStep.yield PUnit.unit)) else pure (ForInStep.yield PUnit.unit):Sem (ForInStep PUnit))) Q E s
 | []=>wpAny_pure h
 | i :: r=>by
  rw [List.forIn_cons]
  refine wpAny_bind ?_
  cases hp:p i with
  | true =>
   rw [if_pos rfl]
   exact wpAny_bind (wpAny_rule (wpAny_pure (zdg p f h r)))
  | false =>
   rw [if_neg (by decide)]
   exact wpAny_pure (zdg p f h r)
noncomputable def nameCode:Array Nat:=#[14,10,4,1,1,22,0,31,16,127,0,13,7,22,0,31,16,127,0,1]
noncomputable def valCode:Array Nat:=#[14,14,4,1,1,9,4294966783,0,0,2147483648,0,0,0,0,0,13,11,9,4294966783,0,0,2147483648,0,0,0,0,0,1]
noncomputable def nameBad (c:Nat):Bool:=decide (c <= 31) || c == 127
noncomputable def valBad (c:Nat):Bool:=decide (c < 256) && (valCode.getD (6 + c / 32) 0).testBit (c % 32)
theorem zwv:SreX.SetIs nameCode nameBad where
 set:=fun c seen=>by
  have e:nameCode.size = 17 + 3:=rfl
  rw [e]
  show ∃ seen',(if (decide (0 <= c) && decide (c <= 31)) = true then _ else _) = _
  by_cases h:c <= 31
  ·rw [if_pos (by simpa using h)]
   exact ⟨_,by rw [show nameBad c = true by simp [nameBad,h]]⟩
  ·rw [if_neg (by simpa using h)]
   show ∃ seen',(if (c == 127) = true then _ else _) = _
   by_cases h2:c = 127
   ·rw [if_pos (by simpa using h2)]
    exact ⟨_,by rw [show nameBad c = true by simp [nameBad,h2]]⟩
   ·rw [if_neg (by simpa using h2)]
    exact ⟨_,by rw [show nameBad c = false by simp [nameBad,h,h2]]; rfl⟩
 info:=rfl
 four:=rfl
theorem z1e:SreX.SetIs valCode valBad where
 set:=fun c seen=>by
  have e:valCode.size = 26 + 2:=rfl
  rw [e]
  show ∃ seen',(if (decide (c < 256) && (valCode.getD (5 + (1 + c / 32)) 0).testBit (c % 32)) = true then _ else _) = _
  have e2:5 + (1 + c / 32) = 6 + c / 32:=(Nat.add_assoc _ _ _).symm
  rw [e2]
  by_cases h:(decide (c < 256) && (valCode.getD (6 + c / 32) 0).testBit (c % 32)) = true
  ·rw [if_pos h]; exact ⟨_,by rw [show valBad c = true from h]⟩
  ·rw [if_neg h]
   exact ⟨_,by rw [show valBad c = false from by simpa [valBad] using h]; rfl⟩
 info:=rfl
 four:=rfl
structure PatAt (base:Addr -> Option Obj) (a:Addr) (code:Array Nat):Prop where
 at_:∃ b o1 o2 o3 o4 o5 its n,base a = some ⟨.type "re.Pattern",none,.fields #[o1,o2,.int 0 o3,o4,o5,.ref b,.int 0 n],#[]⟩ /\ base b = some ⟨.type "tuple",none,.seq its 0,#[]⟩ /\ (its.map Builtin.Re.reRawOf).map (·.toNat) = code
section
variable {C:Cx} {A:Around} {σ:St} {P:Prm}
theorem zsa (id f:String) (x:Value):Builtin.Re.reNamed id f ["string", "pos", "endpos"] 1 [x] [] = pure [some x,none,none]:=by rfl
theorem zrb {a:Addr} {code:Array Nat} {bad:Nat -> Bool} {K:KV} (Pa:PatAt C.base a code) (Sb:SreX.SetIs code bad) (H:HRel σ.g σ.s.heap) (B:Base C σ.g) {x:Str} {t:Tok} (hx:x.length <= lim) (hb:x.cps.toList.any bad = false) (q:K .none σ.g.cs) :
  Runs C A σ noOwn (call (.builtin "re.Pattern.search") [.ref a,.str x t]) VR K:=fun Q E k=>by
 obtain ⟨b,o1,o2,o3,o4,o5,its,n,e1,e2,e3⟩:=Pa.at_
 have h1:=H.fz _ _ (B.hf _ _ e1)
 have h2:=H.fz _ _ (B.hf _ _ e2)
 refine wpAny_call_entry zcn ⟨_,h1,rfl⟩ ze7 ?_ (zgj _ _)
 have hbad:∀ i,i < x.cps.size -> bad (x.cps.getD i 0) = false:=fun i hi=>by
  rw [show x.cps.getD i 0 = x.cps[i] by simp [Array.getD,hi]]
  exact eq_false_of_ne_true (List.any_eq_false.mp hb x.cps[i] (by simp))
 unfold Builtin.«re.Pattern.search»
 refine wpAny_bind ?_
 unfold Builtin.Re.reTarget
 dsimp only
 rw [zsa]
 refine wpAny_bind (wpAny_pure ?_)
 dsimp only
 refine wpAny_bind (wpAny_pure (wpAny_bind (wpAny_pure ?_)))
 refine wpAny_bind (wpAny_fieldsOf h1 rfl ?_)
 refine wpAny_bind ?_
 show wpAny _ _ (pure (x.cps,0)) _ _ _
 refine wpAny_pure ?_
 dsimp only
 show wpAny _ _ (Builtin.Re.reNoCollectionInside _ 0 >>= _) _ _ _
 refine wpAny_bind (m:=Builtin.Re.reNoCollectionInside _ 0) (wpAny_pure ?_)
 refine wpAny_bind ?_
 show wpAny _ _ (Builtin.Re.reRawItems (.ref b)) _ _ _
 unfold Builtin.Re.reRawItems
 refine wpAny_bind (wpAny_seqItems h2 rfl (wpAny_pure (wpAny_pure ?_)))
 simp only [Option.getD_some]
 rw [e3]
 have l0:min (0:Int).toNat x.cps.size = 0:=Nat.zero_min _
 have l1:min ((2:Int) ^ 63 - 1).toNat x.cps.size = x.cps.size:=Nat.min_eq_right (Nat.le_trans hx (by decide +kernel))
 generalize Builtin.Re.reRawNat _ = gr
 rw [l0,l1]
 obtain ⟨m1,m2,m3⟩:=SreX.search_say (groups:=gr) Sb hbad
 unfold Builtin.Re.reAnswer
 refine wpAny_bind ?_
 unfold Builtin.Re.reRunToEnd
 refine wpAny_bind ?_
 obtain ⟨n64,h64⟩:∃ n,(2:Nat) ^ 64 = n + 1:=⟨2 ^ 64 - 1,(Nat.sub_add_cancel (Nat.pow_pos (by decide))).symm⟩
 rw [h64,zpu n64 _ (by rw [SreX.run_failed m1 m2 m3]; rfl),SreX.run_failed m1 m2 m3]
 refine wpAny_pure ?_
 refine wpAny_bind (zdg _ _ ?_ _)
 dsimp only
 refine wpAny_pure ?_
 dsimp only
 exact wpAny_pure ⟨_,rfl,k .none .none (σ.up σ.s.heap σ.s.toks σ.g) (Ext.tok H) .none q⟩
end
section
variable {C:Cx} {P:Prm}
noncomputable def PatsOk (C:Cx) (P:Prm):Prop:=∀ a bad,P.pats.lookup a = some bad -> ∃ code,PatAt C.base a code /\ SreX.SetIs code bad
theorem zdw {A:Around} {σ:St} {l:Nat} {xs:List V} {name:Str} {id:String} (H:HRel σ.g σ.s.heap) (hx:σ.g.cs[l]? = some (.list xs)) (Sl:Slot "list" name id) (ty:typeOf (.builtin id) = pure (.type "method_descriptor")):GetsM C A σ.s (.ref (σ.g.ρ l)) name (.builtin id):=fun pl Q E k=>by
 obtain ⟨vs,ep,q,_⟩:=H.ce l _ hx
 exact getMethod_builtin (T := "list") ⟨_,q,rfl⟩ F.plainAttrs_list Sl ty (fun a ha=>by cases ha; exact ⟨_,q,rfl⟩) (k _)
theorem zdt {g₁ g:Gh} {l:Nat} {o':Value} (L:Le g₁ g) (r:VRel g₁ (.ref l) o'):o' = .ref (g.ρ l):=by
 obtain ⟨rfl,h⟩:=r.inv
 rw [L.ρ l h]
theorem z37 {A:Around} {σ:St} {ks:List Str} {vs:List V} {x:Str} {d:V} {o' x' v':Value} {K:KV} (H:HRel σ.g σ.s.heap) (hp:σ.g.pr = C.w.params) (ro:VRel σ.g (.dct ks vs) o') (rx:VRel σ.g (.str x) x') (rv:VRel σ.g d v') (q:K ((dctGet x ks vs).getD d) σ.g.cs) :
  Runs C A σ noOwn (call (.builtin "dict.get") [o',x',v']) VR K:=fun Q E k=>by
 cases zn3 (prog:=C.prog) H hp ro with
 | mk a f hm hs hf =>
  obtain ⟨t,rfl,hx⟩:=rx.inv
  have hfx:=hf x
  have key:(strKind C.prog C.w).is x (.str x t) = true:=(beq_self_eq_true x:(x == x) = true)
  refine call_meetsIn F.slot_dict_get hm.typeIs F.entry_dict_get (F.args_dict_get_3 _ _ _) (meets_dict_get_default (strKind C.prog C.w) a key hs v') ⟨f,hm,?_⟩
  show Q ((f x).getD v') _
  have fin:∀ r r' tk,VRel σ.g r r' -> K r σ.g.cs -> Q r' { σ.s with toks:=tk }:=fun r r' tk h q=>k r r' (σ.up σ.s.heap tk σ.g) (Ext.tok H) h q
  cases hd:dctGet x ks vs with
  | none=>rw [hd] at hfx q; rw [show f x = none from hfx]; exact fin _ _ _ rv q
  | some u=>rw [hd] at hfx q; obtain ⟨u',e,ru⟩:=hfx; rw [e]; exact fin _ _ _ ru q
theorem zt8 {A:Around} {σ:St} {ks:List Str} {vs:List V} {o':Value} (H:HRel σ.g σ.s.heap) (hp:σ.g.pr = C.w.params) (ro:VRel σ.g (.dct ks vs) o'):GetsM C A σ.s o' Meth.get.name (.builtin "dict.get"):=fun pl Q E k=>by
 cases zn3 (prog:=C.prog) H hp ro with
 | mk a f hm hs hf=>exact getMethod_builtin (T := "dict") hm.typeIs F.plainAttrs_dict F.slot_dict_get F.type_dict_get hm.noDict (k _)
theorem zpp {A:Around} {s:Shared} {x:Str} {t:Tok}:GetsM C A s (.str x t) Meth.lower.name (.builtin "str.lower"):=fun pl Q E k=>(by have q:=k s.toks; with_reducible exact GM.lower q:wpAny C.M A (getMethod (.str x t) (Str.ofString "lower") pl) Q E s)
theorem ztf {A:Around} {s:Shared} {x:Int} {t:Tok}:GetsM C A s (.int x t) Meth.bits.name (.builtin "int.bit_length"):=fun pl Q E k=>(by have q:=k s.toks; with_reducible exact PyProof.Rows.getMethod_int_bit_length q:wpAny C.M A (getMethod (.int x t) (Str.ofString "bit_length") pl) Q E s)
noncomputable def MInv (P:Prm) (cs:List Cell) (K:KV) (m:Meth) (o:V) (args:List V):Prop :=
 Meth.rec (∃ l xs v,o = .ref l /\ args = [v] /\ cs[l]? = some (.list xs) /\ xs.length < lim /\ K .none (cs.set l (.list (xs ++ [v]))))
  (∃ l xs b ys,o = .ref l /\ args = [b] /\ cs[l]? = some (.list xs) /\ SeqR cs b false ys /\ xs.length + ys.length <= lim /\ K .none (cs.set l (.list (xs ++ ys))))
  (∃ l xs,o = .ref l /\ args = [] /\ cs[l]? = some (.list xs) /\ K .none (cs.set l (.list xs.reverse)))
  (∃ x,o = .str x /\ args = [] /\ (Txt.lower x).length <= lim /\ K (.str (Txt.lower x)) cs) 
  (∃ ks vs x d,o = .dct ks vs /\ args = [.str x,d] /\ K ((dctGet x ks vs).getD d) cs) (∃ i,o = .int i /\ args = [] /\ K (.int (Builtin.Int.intBits i:Nat)) cs)
  (∃ a bad x,o = .adr a /\ args = [.str x] /\ P.pats.lookup a = some bad /\ x.cps.toList.any bad = false /\ K .none cs)
  (∃ (xs:List V) (a:V) (f:Nat -> Bool) (j:Nat),args = [a] /\ SeqR cs o false xs /\ Fnd cs xs a f /\ j < xs.length /\ f j = true /\ (∀ m,m < j -> f m = false) /\ K (.int (j:Nat)) cs)
  ((∃ (xs:List V) (a:V) (f:Nat -> Bool),args = [a] /\ SeqR cs o false xs /\ Fnd cs xs a f /\ K (.int ((List.range xs.length).countP f:Nat)) cs) \/ ∃ x y,o = .str x /\ args = [.str y] /\ K (.int ((Builtin.Str.occurrences x y 0 x.length (x.length + 1)).length:Nat)) cs)
  (∃ sep b,∃ xs:List Str,o = .str sep /\ args = [b] /\ SeqR cs b false (xs.map .str) /\ JoinOk sep xs = true /\ (Txt.join sep xs).length <= lim /\ K (.str (Txt.join sep xs)) cs)
  ((∃ l xs v,o = .ref l /\ args = [] /\ cs[l]? = some (.list (xs ++ [v])) /\ K v (cs.set l (.list xs))) \/ ∃ l xs v,o = .ref l /\ args = [.int 0] /\ cs[l]? = some (.list (v :: xs)) /\ K v (cs.set l (.list xs)))
  (∃ x y,o = .str x /\ args = [.str y] /\ SplitOk x y /\ K (.lst ((splitL x y).map .str)) cs) m
theorem MethR.inv {cs:List Cell} {K:KV} {m:Meth} {o:V} {args:List V} (h:MethR P cs K m o args):MInv P cs K m o args:=by
 cases h with
 | append h hl k=>exact ⟨_,_,_,rfl,rfl,h,hl,k⟩
 | extendL h ho hl k=>exact ⟨_,_,_,_,rfl,rfl,h,ho,hl,k⟩
 | index f j ho h hj hit hno k=>exact ⟨_,_,f,j,rfl,ho,h,hj,hit,hno,k⟩
 | count f ho h k=>exact .inl ⟨_,_,f,rfl,ho,h,k⟩
 | countS k=>exact .inr ⟨_,_,rfl,rfl,k⟩
 | join ho hj hl k=>exact ⟨_,_,_,rfl,rfl,ho,hj,hl,k⟩
 | popL h k=>exact .inl ⟨_,_,_,rfl,rfl,h,k⟩
 | pop0 h k=>exact .inr ⟨_,_,_,rfl,rfl,h,k⟩
 | split h k=>exact ⟨_,_,rfl,rfl,h,k⟩
 | reverse h k=>exact ⟨_,_,rfl,rfl,h,k⟩
 | lower h k=>exact ⟨_,rfl,rfl,h,k⟩
 | get k=>exact ⟨_,_,_,_,rfl,rfl,k⟩
 | bits k=>exact ⟨_,rfl,rfl,k⟩
 | search h hb k=>exact ⟨_,_,_,rfl,rfl,h,hb,k⟩
noncomputable def MOk (C:Cx) (A:Around) (P:Prm) (σ₁:St) (m:Meth) (o:V) (o':Value):Prop:=∃ f,GetsM C A σ₁.s o' m.name f /\ ∀ {σ:St} {args:List V} {args':List Value} {K:KV},Le σ₁.g σ.g -> HRel σ.g σ.s.heap -> Base C σ.g -> VRels σ.g args args' -> MethR P σ.g.cs K m o args -> CallsOk C A σ K f (o' :: args') []
section
variable {A:Around} {σ₁:St} {o':Value}
theorem zw7 {l:Nat} {xs:List V} (H₁:HRel σ₁.g σ₁.s.heap) (ro:VRel σ₁.g (.ref l) o') (hx:σ₁.g.cs[l]? = some (.list xs)):MOk C A P σ₁ .append (.ref l) o':=by
 cases ro.inv.1
 refine ⟨_,zdw H₁ hx F.slot_list_append F.type_list_append,fun L H B ra q=>?_⟩
 obtain ⟨_,_,v,e,rfl,hx,hl,q⟩:=q.inv
 cases e
 rw [zdt L ro]
 obtain ⟨v',rfl,rv⟩:=ra.one
 exact ⟨zad _,zu4 H hx hl rv q⟩
theorem zw5 {l:Nat} {xs:List V} (H₁:HRel σ₁.g σ₁.s.heap) (ro:VRel σ₁.g (.ref l) o') (hx:σ₁.g.cs[l]? = some (.list xs)):MOk C A P σ₁ .extend (.ref l) o':=by
 cases ro.inv.1
 refine ⟨_,zdw H₁ hx F.slot_list_extend F.type_list_extend,fun L H B ra q=>?_⟩
 rw [zdt L ro]
 obtain ⟨_,_,b,ys,e,rfl,hx,hb,hl,q⟩:=q.inv
 cases e
 obtain ⟨v',rfl,rv⟩:=ra.one
 exact ⟨zad _,zpr hx H hb rv hl q⟩
theorem zsi {l:Nat} {xs:List V} (H₁:HRel σ₁.g σ₁.s.heap) (ro:VRel σ₁.g (.ref l) o') (hx:σ₁.g.cs[l]? = some (.list xs)):MOk C A P σ₁ .reverse (.ref l) o':=by
 cases ro.inv.1
 refine ⟨_,zdw H₁ hx F.slot_list_reverse F.type_list_reverse,fun L H B ra q=>?_⟩
 obtain ⟨_,_,e,rfl,hx,q⟩:=q.inv
 cases e
 rw [zdt L ro]
 cases ra.nil_of
 exact ⟨zad _,zo6 H hx q⟩
theorem z3d {x:Str} (ro:VRel σ₁.g (.str x) o'):MOk C A P σ₁ .lower (.str x) o':=by
 obtain ⟨t,rfl,hx⟩:=ro.inv
 refine ⟨_,zpp,fun L H B ra q=>?_⟩
 obtain ⟨_,e,rfl,h,q⟩:=q.inv
 cases e
 cases ra.nil_of
 exact ⟨zad _,Runs.still (a:=.str (Txt.lower x) _) H (fun Q E k=>SC.lower (zx2 h) (k _)) (fun _=>VRel.str _ _ h) q⟩
theorem m_get {ks:List Str} {vs:List V} (H₁:HRel σ₁.g σ₁.s.heap) (B₁:Base C σ₁.g) (ro:VRel σ₁.g (.dct ks vs) o'):MOk C A P σ₁ .get (.dct ks vs) o':=by
 refine ⟨_,zt8 H₁ B₁.pr ro,fun L H B ra q=>?_⟩
 obtain ⟨_,_,x,d,e,rfl,q⟩:=q.inv
 cases e
 obtain ⟨x',v',rfl,rx,rv⟩:=ra.two
 exact ⟨zad _,z37 H B.pr (ro.mono L) rx rv q⟩
theorem m_bits {i:Int} (ro:VRel σ₁.g (.int i) o'):MOk C A P σ₁ .bits (.int i) o':=by
 obtain ⟨t,rfl⟩:=ro.inv
 refine ⟨_,ztf,fun L H B ra q=>?_⟩
 obtain ⟨_,e,rfl,q⟩:=q.inv
 cases e
 cases ra.nil_of
 exact ⟨zad _,Runs.still H (fun Q E k=>PyProof.Rows.call_int_bit_length (k _)) (fun _=>.int _ _) q⟩
theorem zw4 (Pa:PatsOk C P) {a:Addr} {bad:Nat -> Bool} (H₁:HRel σ₁.g σ₁.s.heap) (B₁:Base C σ₁.g) (ro:VRel σ₁.g (.adr a) o') (hp:P.pats.lookup a = some bad):MOk C A P σ₁ .search (.adr a) o':=by
 cases ro.inv
 obtain ⟨code,Pt,Sb⟩:=Pa _ _ hp
 obtain ⟨b,o1,o2,o3,o4,o5,its,n,e1,e2,e3⟩:=Pt.at_
 have h1:=H₁.fz _ _ (B₁.hf _ _ e1)
 refine ⟨.builtin "re.Pattern.search",fun pl Q E k=>getMethod_builtin (T := "re.Pattern") ⟨_,h1,rfl⟩ zgv zcn zfd (fun a ha=>by cases ha; exact ⟨_,h1,rfl⟩) (k _),fun L H B ra q=>?_⟩
 obtain ⟨_,_,x,e,rfl,hp2,hb,q⟩:=q.inv
 cases e
 cases hp.symm.trans hp2
 obtain ⟨v',rfl,rv⟩:=ra.one
 obtain ⟨t,rfl,hx⟩:=rv.inv
 exact ⟨zad _,zrb Pt Sb H B hx hb q⟩
theorem zne {o:V} {xs:List V} {name:Str} {id:String} (H:HRel σ₁.g σ₁.s.heap) (ho:SeqR σ₁.g.cs o false xs) (ro:VRel σ₁.g o o') (Sl:Slot "list" name id) (ty:typeOf (.builtin id) = pure (.type "method_descriptor")):GetsM C A σ₁.s o' name (.builtin id):=fun pl Q E k=>by
 cases zap H ho ro with
 | mk l vs ep e r hl=>exact getMethod_builtin (T := "list") ⟨_,e,rfl⟩ F.plainAttrs_list Sl ty (fun a ha=>by cases ha; exact ⟨_,e,rfl⟩) (k _)
theorem z3e {o:V} {xs:List V} (un:A.units + 9 < cLine) (H₁:HRel σ₁.g σ₁.s.heap) (ro:VRel σ₁.g o o') (ho:SeqR σ₁.g.cs o false xs):MOk C A P σ₁ .index o o':=by
 refine ⟨_,zne H₁ ho ro F.slot_list_index F.type_list_index,fun L H B ra q=>?_⟩
 obtain ⟨_,a,f,j,rfl,ho,h,hj,hit,hno,q⟩:=q.inv
 obtain ⟨v',rfl,rv⟩:=ra.one
 exact ⟨zad _,zxk H un ho (ro.mono L) rv h hj hit hno q⟩
theorem z3f {o:V} {xs:List V} (un:A.units + 9 < cLine) (H₁:HRel σ₁.g σ₁.s.heap) (ro:VRel σ₁.g o o') (ho:SeqR σ₁.g.cs o false xs):MOk C A P σ₁ .count o o':=by
 refine ⟨_,zne H₁ ho ro F.slot_list_count F.type_list_count,fun L H B ra q=>?_⟩
 rcases q.inv with ⟨_,a,f,rfl,ho,h,q⟩ | ⟨x,y,rfl,_⟩
 ·obtain ⟨v',rfl,rv⟩:=ra.one
  exact ⟨zad _,zyo H un ho (ro.mono L) rv h q⟩
 ·cases ho
theorem zte {s:Shared} {x:Str} {t:Tok}:GetsM C A s (.str x t) Meth.join.name (.builtin "str.join"):=fun pl Q E k=>(by have q:=k s.toks; with_reducible exact GM.join q:wpAny C.M A (getMethod (.str x t) (Str.ofString "join") pl) Q E s)
theorem m_join {x:Str} (ro:VRel σ₁.g (.str x) o'):MOk C A P σ₁ .join (.str x) o':=by
 obtain ⟨t,rfl,hx⟩:=ro.inv
 refine ⟨_,zte,fun L H B ra q=>?_⟩
 obtain ⟨_,b,xs,e,rfl,ho,hj,hl,q⟩:=q.inv
 cases e
 obtain ⟨v',rfl,rv⟩:=ra.one
 exact ⟨zad _,z3n H ho rv hj hl q⟩
theorem zpq {s:Shared} {x:Str} {t:Tok}:GetsM C A s (.str x t) Meth.count.name (.builtin "str.count"):=fun pl Q E k=>(by have q:=k s.toks; with_reducible exact GM.count q:wpAny C.M A (getMethod (.str x t) (Str.ofString "count") pl) Q E s)
theorem zw6 {x:Str} (ro:VRel σ₁.g (.str x) o'):MOk C A P σ₁ .count (.str x) o':=by
 obtain ⟨t,rfl,hx⟩:=ro.inv
 refine ⟨_,zpq,fun L H B ra q=>?_⟩
 rcases q.inv with ⟨_,_,_,_,ho,_⟩ | ⟨_,y,e,rfl,q⟩
 ·cases ho
 cases e
 obtain ⟨v',rfl,rv⟩:=ra.one
 obtain ⟨u,rfl,_⟩:=rv.inv
 exact ⟨zad _,Runs.still H (fun Q E k=>call_gives F.slot_str_count (typeIs_str _ _ _) F.entry_str_count (F.args_str_count_2 _ _) (gives_str_count x y t u) (k _)) (fun _=>.int _ _) q⟩
theorem zpo {s:Shared} {x:Str} {t:Tok}:GetsM C A s (.str x t) Meth.split.name (.builtin "str.split"):=fun pl Q E k=>(by have q:=k s.toks; with_reducible exact GM.split q:wpAny C.M A (getMethod (.str x t) (Str.ofString "split") pl) Q E s)
theorem z3c {x:Str} (ro:VRel σ₁.g (.str x) o'):MOk C A P σ₁ .split (.str x) o':=by
 obtain ⟨t,rfl,hx⟩:=ro.inv
 refine ⟨_,zpo,fun L H B ra q=>?_⟩
 obtain ⟨_,y,e,rfl,S,q⟩:=q.inv
 cases e
 obtain ⟨v',rfl,rv⟩:=ra.one
 obtain ⟨u,rfl,_⟩:=rv.inv
 exact ⟨zad _,zvw H hx S q⟩
theorem m_pop {l:Nat} {xs:List V} (H₁:HRel σ₁.g σ₁.s.heap) (ro:VRel σ₁.g (.ref l) o') (hx:σ₁.g.cs[l]? = some (.list xs)):MOk C A P σ₁ .pop (.ref l) o':=by
 cases ro.inv.1
 refine ⟨_,zdw H₁ hx F.slot_list_pop F.type_list_pop,fun L H B ra q=>?_⟩
 rw [zdt L ro]
 rcases q.inv with ⟨_,_,v,e,rfl,hx,q⟩ | ⟨_,_,v,e,rfl,hx,q⟩
 ·cases e
  cases ra.nil_of
  exact ⟨zad _,z2n H hx q⟩
 ·cases e
  obtain ⟨v',rfl,rv⟩:=ra.one
  obtain ⟨u,rfl⟩:=rv.inv
  exact ⟨zad _,z2o H hx q⟩
end
theorem AOk.un9 {A:Around} {d:Nat} (O:AOk A d):A.units + 9 < cLine:=Nat.lt_of_le_of_lt (by rw [Nat.add_assoc]; exact Nat.add_le_add_left (Nat.le_trans (by decide) (Nat.le_add_left 200 _)) _) O.un
theorem zw1 (Pa:PatsOk C P):MethsOk C P:=by
 intro A σ₁ m o o' O h H₁ B₁
 show VRel σ₁.g o o' -> MOk C A P σ₁ m o o'
 cases h with
 | append hx=>exact fun ro=>zw7 H₁ ro hx
 | extend hx=>exact fun ro=>zw5 H₁ ro hx
 | reverse hx=>exact fun ro=>zsi H₁ ro hx
 | lower x=>exact z3d
 | get ks vs=>exact m_get H₁ B₁
 | bits i=>exact m_bits
 | search hp=>exact fun ro=>zw4 Pa H₁ B₁ ro hp
 | index h=>exact fun ro=>z3e O.un9 H₁ ro h
 | count h=>exact fun ro=>z3f O.un9 H₁ ro h
 | countS x=>exact zw6
 | join x=>exact m_join
 | pop hx=>exact fun ro=>m_pop H₁ ro hx
 | split x=>exact z3c
end
end Mine
end
section
namespace Mine
open PySem PySem.SeqAt PySem.W
structure ClsFacts (K:Frag) (P:Prm):Prop where
 noSeq:noSeq K P.cls = true
 hga:findIn K (.ref P.cls) "__getattribute__" = some (some (.builtin "object.__getattribute__"))
 hk:findIn K (.ref P.cls) "__getattr__" = some none
 meth:∀ p ∈ P.meths,findIn K (.ref P.cls) p.1 = some (some (.ref p.2)) /\ typeIn K (.ref p.2) = some (.type "function") /\ p.1 ≠ headersName
 hd:∃ cd,clsIn K P.cls = some cd /\ cd.hasDict = true
 hn:findIn K (.ref P.cls) headersName = some none
 hs:findIn K (.ref P.cls) "__setattr__" = some (some (.builtin "object.__setattr__"))
 hp:plainOver K P.cls = true
 ht:takerIn K P.cls headersName = some none
 hh:(clsIn K P.cls).any (·.hasDict) = true
structure Within (C:Cx) (K:Frag):Prop where
 sub:∀ a o,K.lookup a = some o -> C.base a = some o
section
variable {C:Cx} {A:Around} {σ:St} {P:Prm} {K:Frag}
theorem inK (W:Within C K) (H:HRel σ.g σ.s.heap) (B:Base C σ.g):K.In σ.s.heap:=fun a o e=>H.fz a o (B.hf a o (W.sub a o e))
inductive OwnAt (h:Heap) (c:Addr):Value -> Prop
 | mk (x ox es ep sl) (I:InstAt h x ox c (some ⟨.type "dict",none,.dict es ep,sl⟩)) (q:∀ e ∈ es,∃ t,e.key = .str headersName t):OwnAt h c (.ref x)
theorem zma {o:V} {o':Value} {c:Addr} (hc:ClsR σ.g.cs o c) (H:HRel σ.g σ.s.heap) (r:VRel σ.g o o'):OwnAt σ.s.heap c o':=by
 cases hc with
 | @mk l _ d v hx hd =>
  obtain ⟨rfl,_⟩:=r.inv
  obtain ⟨_,h2⟩:=H.ce _ _ hx
  have h3:=H.ce _ _ hd
  cases v with
  | none =>
   obtain ⟨sl,ep,e⟩:=h3
   exact .mk _ _ _ _ _ ⟨h2,rfl,rfl,e⟩ fun e he=>(by simp at he)
  | some v =>
   obtain ⟨hh,tk,v',ep,sl,e,_⟩:=h3
   exact .mk _ _ _ _ _ ⟨h2,rfl,rfl,e⟩ fun e he=>⟨tk,by simp at he; rw [he]⟩
theorem shadow {es:Array DictEntry} {ep:Nat} {sl:Array (Option Value)} {name:Str} (h:∀ e ∈ es,∃ t,e.key = .str headersName t) (hn:name ≠ headersName):shadowIn (some ⟨.type "dict",none,.dict es ep,sl⟩) name = some false:=by
 have h1:es.toList.find? (·.key.isStr name) = none:=List.find?_eq_none.mpr fun e he=>by
  obtain ⟨t,q⟩:=h e (Array.mem_toList_iff.mp he)
  rw [q]
  exact fun z=>hn (eq_of_beq z).symm
 have h2:es.toList.any (·.refKey) = false:=List.any_eq_false.mpr fun e he=>by
  obtain ⟨t,q⟩:=h e (Array.mem_toList_iff.mp he)
  rw [DictEntry.refKey,q]; exact Bool.false_ne_true
 unfold shadowIn lookIn
 dsimp only
 rw [h1,h2]
 rfl
theorem zl5 {P:Prm} {name:Str} {f:Addr} (F:ClsFacts K P) (h:P.meths.lookup name = some f):findIn K (.ref P.cls) name = some (some (.ref f)) /\ typeIn K (.ref f) = some (.type "function") /\ name ≠ headersName:=F.meth (name,f) (zbi h)
theorem zuj (W:Within C K) (F:ClsFacts K P):CMethsOk C P:=by
 intro A σ name f o o' O hm hc H B r pl Q E k
 obtain ⟨h1,h2,h3⟩:=zl5 F hm
 cases zma hc H r with
 | mk x ox es ep sl I q=>exact method_fn (inK W H B) I F.hga F.hk h1 h2 (shadow q h3) (k σ.s.toks)
theorem zu0 {c:Addr} {cd:ClassData} {hh:Int} {tk:Tok} {v':Value} {ep:Nat} {sl:Array (Option Value)} (h1:clsIn K c = some cd) (h2:cd.hasDict = true) (hn:findIn K (.ref c) headersName = some none) :
  findObj K c (some ⟨.type "dict",none,.dict #[⟨hh,.str headersName tk,v'⟩] ep,sl⟩) headersName = some (.value v'):=by
 have hl:lookIn headersName ⟨.type "dict",none,.dict #[⟨hh,.str headersName tk,v'⟩] ep,sl⟩ = some (some v'):=by
  unfold lookIn
  have:(⟨hh,.str headersName tk,v'⟩:DictEntry).key.isStr headersName = true:=(beq_self_eq_true headersName:(headersName == headersName) = true)
  simp [this]
 unfold findObj
 rw [h1,hn]
 unfold PySem.W.ownOf
 simp [h2,hl]
theorem zkg {g:Gh} {v:V} {v':Value} (r:VRel g v v') (h:notBi v):handedIn v' = true:=by
 cases v with
 | bi=>exact h.elim
 | none=>cases r.inv; rfl
 | bool=>cases r.inv; rfl
 | int=>obtain ⟨_,rfl⟩:=r.inv; rfl
 | str=>obtain ⟨_,rfl,_⟩:=r.inv; rfl
 | typ=>cases r.inv; rfl
 | adr=>cases r.inv; rfl
 | ref=>obtain ⟨rfl,_⟩:=r.inv; rfl
 | tup=>obtain ⟨_,_,_,rfl,_⟩:=r.inv; rfl
 | lst=>obtain ⟨_,_,_,rfl,_⟩:=r.inv; rfl
 | rng=>obtain ⟨_,_,_,_,rfl,_⟩:=r.inv; rfl
 | dct=>obtain ⟨_,_,_,rfl,_⟩:=r.inv; rfl
 | dcti=>obtain ⟨_,_,_,rfl,_⟩:=r.inv; rfl
theorem zy6 (W:Within C K) (F:ClsFacts K P):AttrsOk C P:=by
 intro A σ o r o' O e H B ro Q E k
 cases e with
 | mk hx hd hb =>
  obtain ⟨rfl,_⟩:=ro.inv
  obtain ⟨_,h2⟩:=H.ce _ _ hx
  obtain ⟨hh,tk,v',ep,sl,e3,rv⟩:=H.ce _ _ hd
  obtain ⟨cd,c1,c2⟩:=F.hd
  exact get_value (inK W H B) ⟨h2,rfl,rfl,e3⟩ F.hga (zu0 c1 c2 F.hn) (zkg rv hb) (k v' _ rv)
inductive SetR (P:Prm) (cs:List Cell) (K:List Cell -> Prop):V -> V -> V -> Prop
 | list {l xs i v} (h:cs[l]? = some (.list xs)) (hi:0 <= i /\ i < (xs.length:Int)) (k:K (cs.set l (.list (xs.set i.toNat v)))):SetR P cs K (.ref l) (.int i) v
 | own {o i v f} (h:ClsR cs o P.cls) (hf:P.meths.lookup (Str.ofString "__setitem__") = some f) (k:CallR P cs (fun _ c=>K c) (.adr f) [o,i,v] []):SetR P cs K o i v
inductive DelR (P:Prm) (cs:List Cell) (K:List Cell -> Prop):V -> V -> Prop
 | own {o i f} (h:ClsR cs o P.cls) (hf:P.meths.lookup (Str.ofString "__delitem__") = some f) (k:CallR P cs (fun _ c=>K c) (.adr f) [o,i] []):DelR P cs K o i
inductive SliR (cs:List Cell) (K:List Cell -> Prop):V -> V -> Prop
 | mk {l xs v ys} (h:cs[l]? = some (.list xs)) (hv:SeqR cs v false ys) (k:K (cs.set l (.list ys))):SliR cs K (.ref l) v
inductive SAtR (P:Prm) (cs:List Cell) (K:List Cell -> Prop):V -> V -> Prop
 | mk {l d v} (h:cs[l]? = some (.inst P.cls d)) (hd:cs[d]? = some (.attr none)) (k:K (cs.set d (.attr (some v)))):SAtR P cs K (.ref l) v
noncomputable def URuns (C:Cx) (A:Around) (σ:St) (t:Sem Unit) (K:List Cell -> Prop):Prop:=∀ (Q:Unit -> Shared -> Prop) (E:Value -> Shared -> Prop),(∀ σ',Ext σ σ' noOwn -> K σ'.g.cs -> Q () σ'.s) -> wpAny C.M A t Q E σ.s
theorem zhs {s:Shared} {l:Addr} {items:Array Value} {n:Nat} {k:Int} {t:Tok} {v:Value} {Q:Unit -> Shared -> Prop} {E:Value -> Shared -> Prop} (ho:s.heap.get? l = some ⟨.type "list",none,.seq items n,#[]⟩)
  (h0:0 <= k) (hfit:k < 2 ^ 63) (hn:k < items.size) (hQ:∀ h' n',h'.get? l = some ⟨.type "list",none,.seq (items.setIfInBounds k.toNat v) n',#[]⟩ -> Heap.SameBut l s.heap h' -> Q () { s with heap:=h' }) :
  wpAny C.M A (setItem (.ref l) (.int k t) v) Q E s:=by
 have hl:s.heap.IsList l items:=⟨_,ho,rfl,_,rfl⟩
 have hd:(⟨.type "list",none,.seq items n,#[]⟩:Obj).data = .seq items n:=rfl
 unfold setItem
 try with_reducible refine wpAny_holding ?_
 first | refine wpAny_bind (wpAny_pure ?_) | skip
 refine wpAny_bind (wpAny_sequenceKey hl.typeIs (by decide) ?_)
 refine wpAny_bind (wpAny_callSpecial?_slot (name:=Str.ofString "__setitem__") hl.typeIs slot_list_setitem (wpAny_call_entry slot_list_setitem hl.typeIs entry_list_setitem ?_ (args_list_setitem _ _ _)))
 show wpAny _ _ (Builtin.List.listSubscript? (.int k t) >>= _) _ _ s
 refine wpAny_bind (wpAny_listSubscript_int (fitsIndex_of h0 hfit) ?_)
 clear hfit
 obtain ⟨j,rfl⟩:=Int.eq_ofNat_of_zero_le h0
 have hj:j < items.size:=Int.ofNat_lt.mp hn
 have hx':items[j]? = some items[j]:=Array.getElem?_eq_getElem hj
 show wpAny _ _ ((seqItemAt l j >>= fun r=>pure (r.map (j,·))) >>= _) _ _ s
 refine wpAny_bind (wpAny_bind (wpAny_seqItemAt ho hd (wpAny_pure ?_)))
 rw [hx']
 show wpAny _ _ (setSeqItemAt l j v >>= _) _ _ s
 have hfin:∃ n',(s.heap.update l (Obj.mapSeq (·.setIfInBounds j v))).get? l = some ⟨.type "list",none,.seq (items.setIfInBounds j v) n',#[]⟩:=⟨_,Heap.get?_update_self _ ho rfl⟩
 obtain ⟨n',hfin⟩:=hfin
 refine wpAny_bind (wpAny_setSeqItemAt ho hd ?_)
 first
  | exact wpAny_bind (wpAny_pure (wpAny_pure ⟨.none,rfl,wpAny_pure (hQ _ n' hfin (Heap.SameBut.update ..))⟩))
  | exact wpAny_pure ⟨.none,rfl,wpAny_pure (hQ _ n' hfin (Heap.SameBut.update ..))⟩
theorem set_ok (W:Within C K) (F:ClsFacts K P) (Fn:FnsOk C P) {ov iv v:V} {ov' iv' v':Value} {KK:List Cell -> Prop} (e:SetR P σ.g.cs KK ov iv v) (O:AOk A C.d) (H:HRel σ.g σ.s.heap) (B:Base C σ.g) (ro:VRel σ.g ov ov') (ri:VRel σ.g iv iv') (rv:VRel σ.g v v'):URuns C A σ (setItem ov' iv' v') KK:=by
 intro Q E k
 cases e with
 | @list l xs i _ hx hi q =>
  obtain ⟨rfl,hl⟩:=ro.inv
  obtain ⟨t,rfl⟩:=ri.inv
  obtain ⟨vs,ep,e,r,hle⟩:=H.ce _ _ hx
  refine zhs (items:=vs.toArray) e hi.1 (Int.lt_trans hi.2 (Int.lt_of_le_of_lt (Int.ofNat_le.mpr hle) (by decide))) (by rw [List.size_toArray,r.length]; exact hi.2) fun h' n' e' hs=>?_
  exact k (σ.up h' σ.s.toks (σ.g.upd l (.list (xs.set i.toNat v)))) (Ext.upd H hl hs.extBut ⟨_,n',by rw [e',List.setIfInBounds_toArray],vmono (r.set rv _) (Le.upd ..),by rw [List.length_set]; exact hle⟩) q
 | own hc hf q =>
  obtain ⟨h1,h2,h3⟩:=zl5 F hf
  have X:=inK W H B
  cases zma hc H ro with
  | mk x ox es ep sl I he =>
   unfold setItem sequenceKey
   refine wpAny_holding (wpAny_bind (wpAny_bind (I.type.here ?_)))
   refine wpAny_bind ((anyM_none X F.noSeq).here ?_)
   rw [if_pos (show (!false) = true from rfl)]
   refine wpAny_pure (wpAny_bind (special_fn X I h1 h2 ?_))
   exact (zi1 Fn q O H B (.adr _) (.cons ro (.cons ri (.cons rv .nil))) .nil).2 _ _ fun a b σ' x r q=>wpAny_pure (k σ' x q)
theorem del_ok (W:Within C K) (F:ClsFacts K P) (Fn:FnsOk C P) {ov iv:V} {ov' iv':Value} {KK:List Cell -> Prop} (e:DelR P σ.g.cs KK ov iv) (O:AOk A C.d) (H:HRel σ.g σ.s.heap) (B:Base C σ.g) (ro:VRel σ.g ov ov') (ri:VRel σ.g iv iv'):URuns C A σ (delItem ov' iv') KK:=by
 intro Q E k
 cases e with
 | own hc hf q =>
  obtain ⟨h1,h2,h3⟩:=zl5 F hf
  have X:=inK W H B
  cases zma hc H ro with
  | mk x ox es ep sl I he =>
   unfold delItem sequenceKey
   refine wpAny_holding (wpAny_bind (wpAny_bind (I.type.here ?_)))
   refine wpAny_bind ((anyM_none X F.noSeq).here ?_)
   rw [if_pos (show (!false) = true from rfl)]
   refine wpAny_pure (wpAny_bind (special_fn X I h1 h2 ?_))
   exact (zi1 Fn q O H B (.adr _) (.cons ro (.cons ri .nil)) .nil).2 _ _ fun a b σ' x r q=>wpAny_pure (k σ' x q)
end
section
variable {C:Cx} {A:Around} {σ:St} {P:Prm} {K:Frag}
theorem zbk {s:Shared} {l:Addr} {o:Obj} {items:Array Value} {n:Nat} {Q:Array Value -> Shared -> Prop} {E:Value -> Shared -> Prop} {M:Model} (ho:s.heap.get? l = some o) (hd:o.data = .seq items n) (h:Q items s):wpAny M A (Builtin.List.listItems (.ref l)) Q E s:=by
 unfold Builtin.List.listItems
 exact wpAny_bind (wpAny_seqItems ho hd (wpAny_pure h))
theorem zgp {s:Shared} {l l2 sl:Addr} {items new:Array Value} {n n2:Nat} {Q:Unit -> Shared -> Prop} {E:Value -> Shared -> Prop} (ho:s.heap.get? l = some ⟨.type "list",none,.seq items n,#[]⟩) (ho2:s.heap.get? l2 = some ⟨.type "list",none,.seq new n2,#[]⟩)
  (hs:s.heap.IsSliceOf sl .none .none .none) (hsz:items.size + new.size <= sizeLine)
  (hQ:∀ h' n',h'.get? l = some ⟨.type "list",none,.seq new n',#[]⟩ -> Heap.SameBut l s.heap h' -> Q () { s with heap:=h' }) :
  wpAny C.M A (setItem (.ref l) (.ref sl) (.ref l2)) Q E s:=by
 have hl:s.heap.IsList l items:=⟨_,ho,rfl,_,rfl⟩
 have hl2:s.heap.IsList l2 new:=⟨_,ho2,rfl,_,rfl⟩
 have hd:(⟨.type "list",none,.seq items n,#[]⟩:Obj).data = .seq items n:=rfl
 obtain ⟨os,hos,hcs,hds⟩:=id hs
 have hTs:s.TypeIs (.ref sl) "slice":=⟨os,hos,hcs⟩
 unfold setItem
 try with_reducible refine wpAny_holding ?_
 first | refine wpAny_bind (wpAny_pure ?_) | skip
 refine wpAny_bind (wpAny_sequenceKey hl.typeIs (by decide) ?_)
 refine wpAny_bind (wpAny_callSpecial?_slot (name:=Str.ofString "__setitem__") hl.typeIs slot_list_setitem
  (wpAny_call_entry slot_list_setitem hl.typeIs entry_list_setitem ?_ (args_list_setitem _ _ _)))
 show wpAny _ _ (Builtin.List.listSubscript? (.ref sl) >>= _) _ _ s
 refine wpAny_bind ?_
 unfold Builtin.List.listSubscript?
 refine wpAny_bind (wpAny_specialOf hTs slice_no_index ?_)
 simp only [Option.isNone_none,if_true]
 refine wpAny_pure ?_
 show wpAny _ _ (typeOf (.ref sl) >>= _) _ _ s
 refine wpAny_bind (wpAny_typeOf hTs ?_)
 rw [if_neg (by decide)]
 rw [listSliceParts_eq]
 refine wpAny_bind (wpAny_bind (wpAny_field hos hds (x:=.none) rfl (wpAny_bind (wpAny_listPart .none ?_))))
 rw [if_neg (show ¬ ((rawPart none == rawInt 0) = true) from Bool.false_ne_true)]
 refine wpAny_bind (wpAny_field hos hds (x:=.none) rfl (wpAny_bind (wpAny_listPart .none ?_)))
 refine wpAny_bind (wpAny_field hos hds (x:=.none) rfl (wpAny_bind (wpAny_listPart .none (wpAny_pure ?_))))
 have hb:sliceBounds none none none items.size = (0,(items.size:Int),1):=by simp [sliceBounds]
 have hmax:(max (0:Int) (items.size:Int)).toNat = items.size:=by omega
 have hnl:¬ Builtin.List.listTooLong (items.size + new.size) = true:=by
  simp [Builtin.List.listTooLong]; omega
 have hfin:∃ n',(s.heap.update l (Obj.mapSeq fun xs=>xs.extract 0 (0:Int).toNat ++ new ++ xs.extract (max (0:Int) (items.size:Int)).toNat)).get? l = some ⟨.type "list",none,.seq new n',#[]⟩:=by
  by_cases hq:new.size = items.size
  ·refine ⟨n,(Heap.get?_update_self _ ho rfl).trans ?_⟩
   rw [hmax]
   simp [Obj.mapSeq,hq]
  ·refine ⟨n + 1,(Heap.get?_update_self _ ho rfl).trans ?_⟩
   rw [hmax]
   simp [Obj.mapSeq,hq]
 obtain ⟨n',hfin⟩:=hfin
 split
 ·refine wpAny_bind (zbk ho2 rfl ?_)
  refine wpAny_bind (zbk ho hd ?_)
  refine wpAny_bind (wpAny_of_eq (sliceIndices_raw none none none items.size (by simp)) ?_)
  rw [hb]
  rw [if_pos (show (((0,(items.size:Int),1):Int × Int × Int).2.snd == 1) = true from rfl)]
  refine wpAny_bind (wpAny_rule ?_)
  rw [if_neg hnl]
  show wpAny _ _ (updateSeq l _ >>= _) _ _ _
  refine wpAny_bind (wpAny_updateSeq (hz:=by omega) (_hz':=by dsimp only; rw [hmax]; simp; omega) ho hd ?_)
  refine wpAny_bind (wpAny_letGo ?_)
  exact wpAny_pure ⟨.none,rfl,wpAny_pure (hQ _ n' hfin (Heap.SameBut.update ..))⟩
 ·unfold Builtin.List.listAllItems
  refine wpAny_bind (wpAny_bind (wpAny_typeOf hl2.typeIs ?_))
  rw [if_pos (by decide)]
  refine wpAny_bind (wpAny_seqItems ho2 rfl (wpAny_pure ?_))
  refine wpAny_bind (zbk ho hd ?_)
  refine wpAny_bind (wpAny_of_eq (sliceIndices_raw none none none items.size (by simp)) ?_)
  rw [hb]
  rw [if_pos (show (((0,(items.size:Int),1):Int × Int × Int).2.snd == 1) = true from rfl)]
  refine wpAny_bind (wpAny_rule ?_)
  rw [if_neg hnl]
  show wpAny _ _ (updateSeq l _ >>= _) _ _ _
  refine wpAny_bind (wpAny_updateSeq (hz:=by omega) (_hz':=by dsimp only; rw [hmax]; simp; omega) ho hd ?_)
  refine wpAny_bind (wpAny_letGo ?_)
  exact wpAny_pure ⟨.none,rfl,wpAny_pure (hQ _ n' hfin (Heap.SameBut.update ..))⟩
theorem zjx {ov v:V} {ov' v':Value} {sl:Addr} {KK:List Cell -> Prop} (e:SliR σ.g.cs KK ov v) (H:HRel σ.g σ.s.heap) (ro:VRel σ.g ov ov') (rv:VRel σ.g v v') (hs:σ.s.heap.IsSliceOf sl .none .none .none):URuns C A σ (setItem ov' (.ref sl) v') KK:=by
 intro Q E k
 cases e with
 | @mk l xs _ ys hx hv q =>
  obtain ⟨rfl,hl⟩:=ro.inv
  obtain ⟨vs,ep,e,r,hle⟩:=H.ce _ _ hx
  cases zap H hv rv with
  | mk l2 us ep2 e2 r2 hl2 =>
   have hline:lim + lim <= sizeLine:=by rw [sizeLine_eq]; decide
   refine zgp e e2 hs (Nat.le_trans (Nat.add_le_add (Nat.le_trans (Nat.le_of_eq r.length) hle) (Nat.le_trans (Nat.le_of_eq r2.length) hl2)) hline) fun h' n' e' hs'=>?_
   exact k (σ.up h' σ.s.toks (σ.g.upd l (.list ys))) (Ext.upd H hl hs'.extBut ⟨us,n',e',vmono r2 (Le.upd ..),hl2⟩) q
theorem zms (W:Within C K) (F:ClsFacts K P) {ov v:V} {ov' v':Value} {KK:List Cell -> Prop} (e:SAtR P σ.g.cs KK ov v) (H:HRel σ.g σ.s.heap) (B:Base C σ.g) (ro:VRel σ.g ov ov') (rv:VRel σ.g v v'):URuns C A σ (setAttr ov' headersName v') KK:=by
 intro Q E k
 cases e with
 | @mk l dd _ hx hd q =>
  obtain ⟨rfl,hl⟩:=ro.inv
  obtain ⟨hdn,hxo⟩:=H.ce _ _ hx
  obtain ⟨sl,ep,hdo⟩:=H.ce _ _ hd
  have X:=inK W H B
  have I:InstAt σ.s.heap (σ.g.ρ l) ⟨.ref P.cls,some (σ.g.ρ dd),.plain,#[]⟩ P.cls (some ⟨.type "dict",none,.dict #[] ep,sl⟩):=⟨hxo,rfl,rfl,hdo⟩
  refine set_plain X I F.hs ?_
  refine osa_open (s:={ σ.s with toks:=σ.s.toks + 1 }) X I F.hp F.ht fun b=>?_
  obtain ⟨cd,hcc,hd'⟩:=any_some F.hh
  refine wpAny_bind (wpAny_pure (wpAny_bind (wpAny_bind (wpAny_loadPart hxo (wpAny_bind (Looks.here (s:={ σ.s with toks:=σ.s.toks + 1 }) (looks_clsIn X hcc) ?_))))))
  rw [hd']
  refine wpAny_pure (a:=some (σ.g.ρ dd)) (wpAny_bind (wpAny_pure (wpAny_bind ?_)))
  unfold nsSet
  refine wpAny_bind (wpAny_bind (wpAny_askSetting (wpAny_pure (wpAny_bind (wpAny_mkText (wpAny_bind (wpAny_loadPart hdo ?_)))))))
  dsimp only
  have c0:(!(#[]:Array DictEntry).any (·.key.isStr headersName) && (#[]:Array DictEntry).any (·.refKey)) = false:=by simp
  rw [aRefKeyMayBeTheName_at,c0]
  let od:Obj:=⟨.type "dict",none,.dict #[⟨PyData.keyHash C.w.params headersName,.str headersName (σ.s.toks + 1),v'⟩] (ep + 1),sl⟩
  have hput:Obj.putName headersName (PyData.keyHash C.w.params headersName) (.str headersName (σ.s.toks + 1)) v' ⟨.type "dict",none,.dict #[] ep,sl⟩ = od:=by
   rw [Obj.putName_eq]; simp [Obj.putNameByArray,od]
  have hnew:(σ.s.heap.update (σ.g.ρ dd) (Obj.putName headersName (PyData.keyHash C.w.params headersName) (.str headersName (σ.s.toks + 1)) v')).get? (σ.g.ρ dd) = some od:=by
   refine (Heap.get?_update_self _ hdo ?_).trans (congrArg some hput)
   rw [hput]; rfl
  refine wpAny_updatePart hdo ?_
  refine wpAny_bind (wpAny_lookBehind hnew (pastItsLine_dict (by rw [sizeLine_eq]; simp)) ?_)
  exact wpAny_pure (k (σ.up _ _ (σ.g.upd dd (.attr (some v)))) (Ext.upd H hdn (Heap.SameBut.update ..).extBut ⟨_,_,v',_,_,hnew,rv.mono (Le.upd ..)⟩) q)
end
structure Facts2 (C:Cx) (P:Prm) (K:Frag):Prop where
 F:Facts C P
 W:Within C K
 cf:ClsFacts K P
section
variable {C:Cx} {Φ:Fm} {ns:List Str} {σ:St} {P:Prm} {K:Frag}
noncomputable def SD.setI (P:Prm) (o i e:IE) (sp p:Pos):SD:=⟨.Assign [.Subscript (o.sem P).ast (i.sem P).ast sp] (e.sem P).ast p,fun sc ns=>((o.sem P).wf sc ns && (i.sem P).wf sc ns) && (e.sem P).wf sc ns,
 fun sl cs K=>(e.sem P).val sl cs fun v cs=>(o.sem P).val sl cs fun ov cs=>(i.sem P).val sl cs fun iv cs=>SetR P cs (fun cs=>K .next sl cs) ov iv v⟩
theorem zm7 (e:IE) (a b:Expr) (sp:Pos) (n:Nat) (env:Env):swapsWith (e.sem P).ast (some (.Subscript a b sp)) n env = pure false:=by cases e <;> rfl
theorem zq5 (F:Facts2 C P K) (o i e:IE) (sp p:Pos):SGood C (.setI P o i e sp p):=fun Φ ns fm w sl σ K S q Q E k=>by
 have w1:=(Bool.and_eq_true _ _).mp w
 have O2:=both (o.good F.F) (i.good F.F) w1.1
 refine wpAny_Assign_stores ((e.good F.F Φ ns w1.2).val sl σ _ S q _ _ fun v v' σ1 X1 r1 q1=>?_) (zm7 e (o.sem P).ast (i.sem P).ast sp p.line Φ.env) rfl
 show wpAny _ _ (assign (.Subscript (o.sem P).ast (i.sem P).ast sp) Φ.env v') _ _ _
 rw [assign_Subscript]
 refine wpAny_bind (wpAny_holding (O2.1.val sl σ1 _ (S.ext X1) q1 _ _ fun ov ov' σ2 X2 r2 q2=>wpAny_bind (wpAny_holding (O2.2.val sl σ2 _ ((S.ext X1).ext X2) q2 _ _ fun iv iv' σ3 X3 r3 q3=>?_))))
 have X:=X1.trans (X2.trans X3)
 refine wpAny_bind (wpAny_standAt (wpAny_bind (wpAny_holding ?_)))
 exact set_ok F.W F.cf F.F.fns q3 S.O X3.H (S.B.le X.le) (r2.mono X3.le) r3 (r1.mono (X2.trans X3).le) _ _ fun σ4 X4 q4=>zbw (k .next sl _ σ4 (toOwn (X.trans X4)) .next (S.ext (X.trans X4)) q4)
noncomputable def SD.delI (P:Prm) (o i:IE) (sp p:Pos):SD:=⟨.Delete [.Subscript (o.sem P).ast (i.sem P).ast sp] p,fun sc ns=>(o.sem P).wf sc ns && (i.sem P).wf sc ns,
 fun sl cs K=>(o.sem P).val sl cs fun ov cs=>(i.sem P).val sl cs fun iv cs=>DelR P cs (fun cs=>K .next sl cs) ov iv⟩
theorem zud (F:Facts2 C P K) (o i:IE) (sp p:Pos):SGood C (.delI P o i sp p):=fun Φ ns fm w sl σ K S q Q E k=>by
 refine wpAny_Delete ?_
 rw [arm_deleteEach_cons,arm_deleteEach_nil]
 refine wpAny_bind (PyProof.Rows.delete_Subscript (zdo (both (o.good F.F) (i.good F.F) w) S q fun a b a' b' σ1 X1 S1 ra rb e=>?_))
 exact del_ok F.W F.cf F.F.fns e S1.O S1.H S1.B ra rb _ _ fun σ2 X2 q2=>wpAny_pure (k .next sl _ σ2 (toOwn (X1.trans X2)) .next (S.ext (X1.trans X2)) q2)
noncomputable def SD.setS (P:Prm) (o e:IE) (ssp sp p:Pos):SD:=⟨.Assign [.Subscript (o.sem P).ast (.Slice none none none ssp) sp] (e.sem P).ast p,fun sc ns=>(o.sem P).wf sc ns && (e.sem P).wf sc ns,
 fun sl cs K=>(e.sem P).val sl cs fun v cs=>(o.sem P).val sl cs fun ov cs=>SliR cs (fun cs=>K .next sl cs) ov v⟩
theorem zq4 (F:Facts2 C P K) (o e:IE) (ssp sp p:Pos):SGood C (.setS P o e ssp sp p):=fun Φ ns fm w sl σ K S q Q E k=>by
 have w1:=(Bool.and_eq_true _ _).mp w
 refine wpAny_Assign_stores ((e.good F.F Φ ns w1.2).val sl σ _ S q _ _ fun v v' σ1 X1 r1 q1=>?_) (zm7 e (o.sem P).ast (.Slice none none none ssp) sp p.line Φ.env) rfl
 show wpAny _ _ (do
    let ov <- holding [v'] (eval (o.sem P).ast Φ.env)
    let iv <- holding [v',ov] (eval (.Slice none none none ssp) Φ.env)
    standAt sp
    holding [v',ov,iv] (setItem ov iv v')
    release [iv,v',ov] []) _ _ _
 refine wpAny_bind (wpAny_holding ((o.good F.F Φ ns w1.1).val sl σ1 _ (S.ext X1) q1 _ _ fun ov ov' σ2 X2 r2 q2=>wpAny_bind (wpAny_holding (wpAny_Slice ?_))))
 refine wpAny_evalPart_none (wpAny_evalPart_none (wpAny_evalPart_none ?_))
 have X3:Ext σ2 (σ2.up (σ2.s.heap.push (sliceO .none .none .none)) σ2.s.toks σ2.g) noOwn:=Ext.keeps X2.H fun a o e=>Heap.get?_push_of_some _ e
 have X:=X1.trans (X2.trans X3)
 refine wpAny_bind (wpAny_standAt (wpAny_bind (wpAny_holding ?_)))
 exact zjx (σ:=σ2.up (σ2.s.heap.push (sliceO .none .none .none)) σ2.s.toks σ2.g) q2 X3.H r2 (r1.mono X2.le) ⟨_,Heap.get?_push_size _ rfl,rfl,rfl⟩ _ _ fun σ4 X4 q4=>zbw (k .next sl _ σ4 (toOwn (X.trans X4)) .next (S.ext (X.trans X4)) q4)
noncomputable def SD.setA (P:Prm) (o e:IE) (ap p:Pos):SD:=⟨.Assign [.Attribute (o.sem P).ast headersName ap] (e.sem P).ast p,fun sc ns=>(o.sem P).wf sc ns && (e.sem P).wf sc ns,
 fun sl cs K=>(e.sem P).val sl cs fun v cs=>(o.sem P).val sl cs fun ov cs=>SAtR P cs (fun cs=>K .next sl cs) ov v⟩
theorem zqu (e:IE) (a:Expr) (nm:Str) (sp:Pos) (n:Nat) (env:Env):swapsWith (e.sem P).ast (some (.Attribute a nm sp)) n env = pure false:=by cases e <;> rfl
theorem zq6 (F:Facts2 C P K) (o e:IE) (ap p:Pos):SGood C (.setA P o e ap p):=fun Φ ns fm w sl σ K S q Q E k=>by
 have w1:=(Bool.and_eq_true _ _).mp w
 refine wpAny_Assign_stores ((e.good F.F Φ ns w1.2).val sl σ _ S q _ _ fun v v' σ1 X1 r1 q1=>?_) (zqu e (o.sem P).ast headersName ap p.line Φ.env) rfl
 show wpAny _ _ (do
    let ov <- holding [v'] (eval (o.sem P).ast Φ.env)
    standAt ap.atName
    holding [v',ov] (setAttr ov headersName v')
    release [v',ov] []) _ _ _
 refine wpAny_bind (wpAny_holding ((o.good F.F Φ ns w1.1).val sl σ1 _ (S.ext X1) q1 _ _ fun ov ov' σ2 X2 r2 q2=>?_))
 have X:=X1.trans X2
 refine wpAny_bind (wpAny_standAt (wpAny_bind (wpAny_holding ?_)))
 exact zms F.W F.cf q2 X2.H (S.B.le X.le) r2 (r1.mono X2.le) _ _ fun σ3 X3 q3=>zbw (k .next sl _ σ3 (toOwn (X.trans X3)) .next (S.ext (X.trans X3)) q3)
end
section
variable {C:Cx} {Φ:Fm} {ns:List Str} {σ:St}
noncomputable def starB (e:Expr):Bool:=match e with
 | .Starred ..=>true
 | _=>false
theorem zvv (l:List Expr) (h:∀ c ∈ l,starB c = false):(l.any fun | .Starred ..=>true | _=>false) = false:=by
 rw [List.any_eq_false]
 intro c hc
 have:=h c hc
 cases c <;> first | exact fun q=>Bool.noConfusion q | exact Bool.noConfusion this
theorem zut (xs:List (Str × Nat × Pos)):∀ {vs:List V} {vs':List Value} {sl sl':Slots} {σ:St},Std C Φ (look ns sl) σ -> xs.all (fun y=>tgt1 Φ.env.scope ns y.1 y.2.1) = true ->
  binds xs vs sl = some sl' -> VRels σ.g vs vs' -> BindsOk C Φ (look ns sl') (ownOf Φ.env) σ (assignInOrder ((xs.map (·.1)).map fun n=>bindName Φ.env n) vs'):=by
 induction xs with
 | nil =>
  intro vs vs' sl sl' σ S _ e r Q E k
  cases vs with
  | nil=>cases r.nil_of; cases e; exact wpAny_pure (k σ (Ext.refl S.H _) rfl S)
  | cons=>cases e
 | cons y xs ih =>
  intro vs vs' sl sl' σ S h e r Q E k
  rw [List.all_cons,Bool.and_eq_true] at h
  cases vs with
  | nil=>cases e
  | cons v vs =>
   obtain ⟨v',r',rfl,rv,rr⟩:=r.cons_of
   show wpAny _ _ (assignInOrder (bindName Φ.env y.1 :: ((xs.map (·.1)).map fun n=>bindName Φ.env n)) (v' :: r')) _ _ _
   unfold assignInOrder
   refine wpAny_bind (wpAny_holding (wpAny_bindName (store1 (ow:=ownOf Φ.env) S h.1 rv (.inl rfl) (fun c hk hc=>.inr ⟨y.1,hk,hc⟩) _ _ fun σ1 X1 c1 S1=>?_)))
   exact ih S1 h.2 e (vmono rr X1.le) _ _ fun σ2 X2 c2 S2=>k σ2 (X1.trans X2) (c2.trans c1) S2
noncomputable def swapB (sc:Scope) (xs:List (Str × Nat × Pos)) (es:List Expr):Bool :=
 ((xs.length == 2 || xs.length == 3) && es.length == xs.length) && (xs.all (fun y=>sc.names.lookup y.1 == some .local && y.2.2.line == (xs.head?.map (·.2.2.line)).getD 0) && ((xs.map (·.1)).eraseDups.length == xs.length && ((es.all fun e=>!starB e) && (!(es.all (foldedForSure 8)) && !(es.all (constantsAlone 8))))))
theorem zoi {env:Env} {m:Nat} (xs:List (Str × Nat × Pos)) (h:xs.all (fun y=>env.scope.names.lookup y.1 == some .local && y.2.2.line == m) = true) :
  (xs.map fun y=>Expr.Name y.1 y.2.2).filterMap (fun | .Name id pos=>if env.kindOf id == some .local && pos.line == m then some id else none | _=>none) = xs.map (·.1):=by
 induction xs with
 | nil=>rfl
 | cons y xs ih =>
  rw [List.all_cons,Bool.and_eq_true] at h
  rw [List.map_cons,List.map_cons,<- ih h.2]
  exact List.filterMap_cons_some (if_pos h.1)
theorem z1s {env:Env} (hk:env.scope.kind = .function) {xs:List (Str × Nat × Pos)} {es:List Expr} {k n:Nat} {p q:Pos} (h:swapB env.scope xs es = true):swappedStores [.Tuple (xs.map fun y=>.Name y.1 y.2.2) k p] (.Tuple es n q) env = pure (some (xs.map (·.1))):=by
 unfold swapB at h
 simp only [Bool.and_eq_true,Bool.not_eq_true'] at h
 obtain ⟨⟨h1,h2⟩,h3,h4,h5,h6,h7⟩:=h
 have hb:env.blockKind = .function:=by unfold Env.blockKind; rw [hk]; rfl
 have s1:=zvv es fun c hc=>by have:=List.all_eq_true.mp h5 c hc; exact Bool.not_eq_true' _ ▸ this
 have hl:(xs.map fun y=>Expr.Name y.1 y.2.2).head?.map (·.pos.line) = xs.head?.map (·.2.2.line):=by cases xs <;> rfl
 unfold swappedStores
 dsimp only
 rw [hb,List.length_map,h1,beq_iff_eq.mp h2]
 refine (if_neg (by simp)).trans ?_
 refine (if_neg fun e=>Bool.noConfusion (show false = true from s1.symm.trans e)).trans ?_
 rw [hl]
 generalize hN:List.filterMap _ (xs.map fun y=>Expr.Name y.1 y.2.2) = N
 have hN':N = xs.map (·.1):=hN.symm.trans (zoi xs h3)
 subst hN'
 refine (if_neg fun e=>?_).trans ?_
 ·rw [beq_iff_eq.mp h4,List.length_map] at e
  simp at e
 refine (if_neg fun e=>Bool.noConfusion (h6.symm.trans e)).trans ?_
 exact if_neg fun e=>Bool.noConfusion (h7.symm.trans e)
noncomputable def SD.swap (xs:List (Str × Nat × Pos)) (es:List ED) (k n:Nat) (tp vp p:Pos):SD :=
 ⟨.Assign [.Tuple (xs.map fun y=>.Name y.1 y.2.2) k tp] (.Tuple (es.map ED.ast) n vp) p,fun sc ns=>xs.all (fun y=>tgt1 sc ns y.1 y.2.1) && (swapB sc xs (es.map ED.ast) && wfs es sc ns),
  fun sl cs K=>vals es sl cs fun vs cs=>vs.length <= lim /\ vs.length = xs.length /\ Option.rec (motive:=fun _=>Prop) False (fun sl=>K .next sl cs) (binds xs.reverse vs.reverse sl)⟩
theorem z1r {es:List ED} {xs:List (Str × Nat × Pos)} {k n:Nat} {tp vp p:Pos} {sl:Slots} {K:KF} (O:∀ e ∈ es,EOk C Φ ns e) (wx:xs.all (fun y=>tgt1 Φ.env.scope ns y.1 y.2.1) = true) (ws:swapB Φ.env.scope xs (es.map ED.ast) = true) (S:Std C Φ (look ns sl) σ)
  (q:vals es sl σ.g.cs fun vs cs=>vs.length <= lim /\ vs.length = xs.length /\ Option.rec (motive:=fun _=>Prop) False (fun sl=>K .next sl cs) (binds xs.reverse vs.reverse sl)):XRuns C Φ ns σ (exec (.Assign [.Tuple (xs.map fun y=>.Name y.1 y.2.2) k tp] (.Tuple (es.map ED.ast) n vp) p) Φ.env) K:=fun Q E kk=>by
 rw [exec_Assign_arm]
 refine wpAny_bind (wpAny_standAt ?_)
 rw [show swapsWithSole [.Tuple (xs.map fun y=>.Name y.1 y.2.2) k tp] (.Tuple (es.map ED.ast) n vp) p.line Φ.env = pure false from rfl]
 refine wpAny_bind (wpAny_pure ?_)
 rw [if_neg (by decide)]
 refine wpAny_bind (wpAny_Tuple (zhl vp es sl _ O S q _ _ fun vs vs' σ1 X1 r q1=>?_))
 obtain ⟨q0,ql,q1⟩:=q1
 refine ⟨by rw [All2.length r]; exact Nat.le_trans q0 zah,?_⟩
 let σ2:St:=σ1.up (σ1.s.heap.push (tupO vs' 0)) σ1.s.toks (σ1.g.freeze σ1.s.heap.objs.size (tupO vs' 0))
 have X2:Ext σ1 σ2 noOwn:=zf9 (o:=tupO vs' 0) X1.H (fun _ e=>(nomatch e)) rfl σ1.s.toks
 have rt:VRel σ2.g (.tup vs) (.ref σ1.s.heap.objs.size):=.tup (zal ..) (vmono r (Le.freeze _ _ (X1.H.hf_none (get?_size _)))) q0
 rw [z1s S.F.kind ws]
 refine wpAny_bind (wpAny_pure ?_)
 have S2:Std C Φ (look ns sl) σ2:=(S.ext X1).ext X2
 unfold assignStores
 refine wpAny_bind (wpAny_rule (wpAny_bind ?_))
 rw [List.length_map,<- ql]
 refine zjo (C:=C) (Φ:=Φ) (σ:=σ2) (vs:=vs) S2.O.hh S2.H rfl rt fun its rr h' hx=>?_
 have X3:Ext σ2 (σ2.up h' σ2.s.toks σ2.g) noOwn:=Ext.keeps S2.H fun a o e=>hx a o (fun z=>absurd (Heap.lt_size e) (by rw [z]; exact Nat.lt_irrefl _)) e
 have S3:=S2.ext X3
 refine wpAny_bind ?_
 rw [<- List.map_reverse]
 have q2:Option.rec (motive:=fun _=>Prop) False (fun sl=>K .next sl σ1.g.cs) (binds xs.reverse vs.reverse sl):=q1
 cases hb:binds xs.reverse vs.reverse sl with
 | none=>rw [hb] at q2; exact q2.elim
 | some sl' =>
  rw [hb] at q2
  refine zut xs.reverse S3 (by rw [List.all_reverse]; exact wx) hb (vmono rr.reverse X3.le) _ _ fun σ4 X4 c4 S4=>wpAny_pure ?_
  exact kk .next sl' _ σ4 ((toOwn ((X1.trans X2).trans X3)).trans X4) .next S4 (c4.symm ▸ q2)
theorem zqo {es:List ED} (he:EAll C es) (xs:List (Str × Nat × Pos)) (k n:Nat) (tp vp p:Pos):SGood C (.swap xs es k n tp vp p):=fun Φ ns fm w sl σ K S q =>
 have w1:=(Bool.and_eq_true _ _).mp w
 have w3:=(Bool.and_eq_true _ _).mp w1.2
 z1r (he.ok w3.2) w1.1 w3.1 S q
noncomputable def nswB (sc:Scope) (t:Tgt):Bool:=Tgt.rec (fun _ _ _=>true) (fun xs _ _=>!(xs.length == 2 || xs.length == 3) || xs.any fun y=>!(sc.names.lookup y.1 == some .local)) t
theorem nsw_at {env:Env} {t:Tgt} {es:List Expr} {n:Nat} {p:Pos} (h:nswB env.scope t = true):swappedStores [t.ast] (.Tuple es n p) env = pure none:=by
 cases t with
 | nm x i q=>rfl
 | tup xs k q =>
  have h':(!(xs.length == 2 || xs.length == 3) || xs.any fun y=>!(env.scope.names.lookup y.1 == some .local)) = true:=h
  show swappedStores [.Tuple (xs.map fun y=>.Name y.1 y.2.2) k q] (.Tuple es n p) env = pure none
  unfold swappedStores
  dsimp only
  by_cases c1:(!((xs.map fun y=>Expr.Name y.1 y.2.2).length == 2 || (xs.map fun y=>Expr.Name y.1 y.2.2).length == 3) || es.length != (xs.map fun y=>Expr.Name y.1 y.2.2).length || env.blockKind != .function) = true
  ·exact if_pos c1
  ·refine (if_neg c1).trans ?_
   by_cases c2:(es.any fun | .Starred ..=>true | _=>false) = true
   ·exact if_pos c2
   ·refine (if_neg c2).trans (if_pos ?_)
    rw [Bool.or_eq_true] at h'
    rcases h' with h' | h'
    ·exfalso; apply c1
     rw [List.length_map,h']; rfl
    ·obtain ⟨y,hy,hk⟩:=List.any_eq_true.mp h'
     rw [Bool.or_eq_true]
     refine .inl (bne_iff_ne.mpr (Nat.ne_of_lt (List.length_filterMap_lt_length_iff_exists.mpr ⟨_,List.mem_map_of_mem hy,?_⟩)))
     have hk':(env.kindOf y.1 == some NameKind.local) = false:=by rw [Bool.not_eq_true'] at hk; exact hk
     show (if (env.kindOf y.1 == some NameKind.local && _) = true then some y.1 else none) = none
     rw [hk',Bool.false_and,if_neg Bool.false_ne_true]
noncomputable def SD.asgT (P:Prm) (t:Tgt) (es:List IE) (n:Nat) (vp p:Pos):SD:=⟨.Assign [t.ast] ((IE.tup es n vp).sem P).ast p,fun sc ns=>nswB sc t && (t.ok sc ns && ((IE.tup es n vp).sem P).wf sc ns),fun sl cs K=>((IE.tup es n vp).sem P).val sl cs fun v cs=>bindK t v sl fun sl=>K .next sl cs⟩
theorem zu1 {P:Prm} (F:Facts C P) (t:Tgt) (es:List IE) (n:Nat) (vp p:Pos):SGood C (.asgT P t es n vp p):=fun Φ ns fm w sl σ K S q=>by
 have w1:=(Bool.and_eq_true _ _).mp w
 have w2:=(Bool.and_eq_true _ _).mp w1.2
 exact zfy ((IE.tup es n vp).good F Φ ns w2.2).val w2.1 rfl (nsw_at w1.1) S q
end
set_option genCtorIdx false in
inductive IS where
 | raw (s:Stmt)
 | ret (e:IE) (p:Pos)
 | retN (p:Pos)
 | ite (t:IE) (a b:List IS) (p:Pos)
 | expr (e:IE) (p:Pos)
 | asg (t:Tgt) (e:IE) (p:Pos)
 | asgC (t:Tgt) (c:Bool) (elt:IE) (t2:Tgt) (iter:IE) (ifs:List IE) (scope:Scope) (cp p:Pos)
 | for_ (t:Tgt) (it:IE) (body:List IS) (p:Pos)
 | setI (o i e:IE) (sp p:Pos)
 | delI (o i:IE) (sp p:Pos)
 | setA (o e:IE) (ap p:Pos)
 | setS (o e:IE) (ssp sp p:Pos)
 | swap (xs:List (Str × Nat × Pos)) (es:List IE) (k n:Nat) (tp vp p:Pos)
 | asgD (t:Tgt) (c:Bool) (elt:IE) (t2:Tgt) (iter:IE) (ifs:List IE) (x:Str) (i:Nat) (xp:Pos) (iter2:IE) (ifs2:List IE) (scope:Scope) (cp p:Pos)
 | asgT (t:Tgt) (es:List IE) (n:Nat) (vp p:Pos)
noncomputable def IS.sem (P:Prm):IS -> SD:=fun e=>IS.rec (motive_1:=fun _=>SD) (motive_2:=fun _=>List SD)
 SD.raw (fun e p=>SD.ret (e.sem P) p) SD.retN (fun t _ _ p a b=>SD.ite (t.sem P) a b p) (SD.expr P) (SD.asg P) (SD.asgC P) (fun t it _ p body=>SD.for_ t (it.sem P) body p) (SD.setI P) (SD.delI P) (SD.setA P) (SD.setS P) (fun xs es=>SD.swap xs (IE.sems P es)) (SD.asgD P) (SD.asgT P) [] (fun _ _ d ds=>d :: ds) e
noncomputable def IS.sems (P:Prm):List IS -> List SD:=fun e=>IS.rec_1 (motive_1:=fun _=>SD) (motive_2:=fun _=>List SD)
 SD.raw (fun e p=>SD.ret (e.sem P) p) SD.retN (fun t _ _ p a b=>SD.ite (t.sem P) a b p) (SD.expr P) (SD.asg P) (SD.asgC P) (fun t it _ p body=>SD.for_ t (it.sem P) body p) (SD.setI P) (SD.delI P) (SD.setA P) (SD.setS P) (fun xs es=>SD.swap xs (IE.sems P es)) (SD.asgD P) (SD.asgT P) [] (fun _ _ d ds=>d :: ds) e
theorem zrc {C:Cx} {d:SD} {ds:List SD} (h:SGood C d) (hs:SAll C ds):SAll C (d :: ds):=fun x hx=>(List.mem_cons.mp hx).elim (fun z=>z ▸ h) (hs x)
theorem IS.all_good {C:Cx} {P:Prm} {K:Frag} (F:Facts2 C P K) (ss:List IS):SAll C (IS.sems P ss) :=
 IS.rec_1 (motive_1:=fun s=>SGood C (s.sem P)) (motive_2:=fun ss=>SAll C (IS.sems P ss))
  zwd (fun e p=>zwa p (e.good F.F)) zrs (fun t _ _ p a b=>zxe p (t.good F.F) a b) (ztq F.F) (zy7 F.F) (zu3 F.F) (fun t it _ p body=>zxz t p (it.good F.F) body)
  (zq5 F) (zud F) (zq6 F) (zq4 F) (fun xs es k n tp vp p=>zqo (IE.all_good F.F es) xs k n tp vp p) (zu2 F.F) (zu1 F.F) (fun _ h=>nomatch h) (fun _ _ d ds=>zrc d ds) ss
noncomputable abbrev den (P:Prm) (ss:List IS):Slots -> List Cell -> KF -> Prop:=bden (IS.sems P ss)
theorem z4k {C:Cx} {P:Prm} {K:Frag} {Φ:Fm} {ns:List Str} (F:Facts2 C P K) {ss:List IS} {body:List Stmt} (hb:(IS.sems P ss).map SD.ast = body) (fm:C.fm Φ.A Φ.env) (w:bwf (IS.sems P ss) Φ.env.scope ns = true) {sl:Slots} {σ:St} {T:KF} (S:Std C Φ (look ns sl) σ) (q:den P ss sl σ.g.cs T):XRuns C Φ ns σ (execs body Φ.env) T :=
 hb ▸ zd6 _ ((IS.all_good F ss).ok fm w) sl σ T S q
noncomputable def retOf (f:Fl):V:=Fl.rec .none .none .none (fun v=>v) f
structure FnAt0 (C:Cx) (f:Addr) (sc:Scope) (body:List Stmt) (fd:FuncData):Prop where
 ho:∃ o,C.base f = some o /\ o.data = .func fd
 scope:fd.scope = sc
 body:fd.body = .stmts body
 glo:fd.globals = mainGlobals
 blt:fd.builtins = builtinsNs
 co:sc.isCoroutine = false
 gen:sc.isGenerator = false
 kind:sc.kind = .function
 code:∃ c oc vs t,fd.code = .ref c /\ C.base c = some oc /\ oc.data = .fields vs /\ vs[1]? = some (.str fd.qualname t)
structure FnAt (C:Cx) (f:Addr) (sc:Scope) (body:List Stmt) (fd:FuncData):Prop extends FnAt0 C f sc body fd where
 clo:fd.closure = []
 nofree:∀ x,(x,NameKind.free) ∉ sc.names
structure CloOk (σ:St) (sc:Scope) (clo:List (Str × Addr)) (ns:List Str) (sl:Slots):Prop where
 free:∀ x,(x,NameKind.free) ∈ sc.names -> ∃ c w,clo.lookup x = some c /\ σ.s.heap.IsCell c w /\ ∀ v,look ns sl x = some v -> ∃ v',w = some v' /\ VRel σ.g v v'
 live:∀ x a,clo.lookup x = some a -> ∃ w,σ.s.heap.IsCell a w
 inj:∀ x y a,clo.lookup x = some a -> clo.lookup y = some a -> x = y
 sep:∀ x,(x,NameKind.free) ∈ sc.names -> (x,NameKind.cell) ∉ sc.names
noncomputable def Lim0 (C:Cx):Prop:=∃ o es ep mc,C.base cStatics = some o /\ o.data = .dict es ep /\ (∀ h:Heap,h.get? cStatics = some o -> h.Ns cStatics mc) /\ mc "sys.recursionlimit" = none
structure LimAt (C:Cx):Prop where
 fm:∀ A env,C.fm A env
 l:Lim0 C
noncomputable abbrev Cx.up (C:Cx):Cx:={ C with d:=C.d + 1 }
noncomputable def bindP (ps:List (Str × Nat)):List V -> Slots -> Slots:=List.rec (fun _ sl=>sl) (fun p _ ih vs sl=>List.rec sl (fun v vs _=>ih vs (sl.set p.2 (some v))) vs) ps
section
variable {C:Cx} {A:Around} {Φ:Fm} {ns:List Str} {σ:St} {P:Prm} {K:KV} {sc:Scope}
theorem Lim0.at (L:Lim0 C) (H:HRel σ.g σ.s.heap) (B:Base C σ.g):σ.s.heap.NoLimit:=by
 obtain ⟨o,es,ep,mc,h1,h2,h3,h4⟩:=L
 exact ⟨mc,h3 _ (H.fz _ _ (B.hf _ _ h1)),h4⟩
theorem CloOk.nil (hf:∀ x,(x,NameKind.free) ∉ sc.names):CloOk σ sc [] [] []:=⟨fun x hx=>absurd hx (hf x),fun x a e=>(by cases e),fun x y a e=>(by cases e),fun x hx=>absurd hx (hf x)⟩
theorem zrx (ps:List (Str × Nat)):∀ {vs:List V} {bs':List (Str × Value)} {sl:Slots} {σ:St} {E:Value -> Shared -> Prop},ps.length = vs.length -> Std C Φ (look ns sl) σ -> ps.all (fun p=>tgt1 Φ.env.scope ns p.1 p.2) = true -> KRel σ.g ((ps.map (·.1)).zip vs) bs' -> ∀ {Q:PUnit -> Shared -> Prop},
  (∀ σ',Ext σ σ' (ownOf Φ.env) -> σ'.g.cs = σ.g.cs -> Std C Φ (look ns (bindP ps vs sl)) σ' -> Q PUnit.unit σ'.s) -> wpAny C.M Φ.A (forIn bs' PUnit.unit fun x _=>do storeName Φ.env x.1 x.2; pure (ForInStep.yield PUnit.unit)) Q E σ.s:=by
 induction ps with
 | nil =>
  intro vs bs' sl σ E _ S _ r Q k
  cases r.nil_of
  exact wpAny_pure (k σ (Ext.refl S.H _) rfl S)
 | cons p ps ih =>
  intro vs bs' sl σ E hl S w r Q k
  cases vs with
  | nil=>cases hl
  | cons v vs =>
   obtain ⟨b,bs',rfl,⟨hn,rv⟩,rr⟩:=r.cons_of
   have w':=(Bool.and_eq_true _ _).mp w
   rw [List.forIn_cons]
   rw [<- show p.1 = b.1 from hn]
   refine wpAny_bind (wpAny_bind (store1 S w'.1 rv (ow:=ownOf Φ.env) (.inl rfl) (fun c hk hc=>.inr ⟨p.1,hk,hc⟩) _ _ fun σ1 X1 c1 S1=>wpAny_pure ?_))
   exact ih (Nat.succ.inj hl) S1 w'.2 (kmono rr X1.le) fun σ2 X2 c2 S2=>k σ2 (X1.trans X2) (c2.trans c1) S2
noncomputable def BindOk (C:Cx) (fd:FuncData) (args:List V) (kws:Kws) (ps:List (Str × Nat)) (vs:List V):Prop :=
 ∀ {σ:St} {args':List Value} {kws':List (Str × Value)},HRel σ.g σ.s.heap -> Base C σ.g -> VRels σ.g args args' -> KRel σ.g kws kws' -> ∃ bs',KRel σ.g ((ps.map (·.1)).zip vs) bs' /\ ∀ (M:Model) (A:Around) (E:Value -> Shared -> Prop) (Q:List (Str × Value) -> Shared -> Prop),Q bs' σ.s -> wpAny M A (bindArgs fd ⟨args',kws'⟩) Q E σ.s
structure NewF (C:Cx) (σ:St) (sc:Scope) (ns:List Str) (sl:Slots) (fenv:Env) (h2:Heap):Prop where
 F:FRel σ.g fenv (look (ownNs sc ++ ns) (List.replicate (ownNs sc).length none ++ sl)) h2
 k12:∀ a o,σ.s.heap.get? a = some o -> h2.get? a = some o
 own0:∀ a,ownOf fenv a -> σ.s.heap.get? a = none
noncomputable abbrev fenvOf (fd:FuncData) (f L:Addr) (cells:List (Str × Addr)):Env:={ scope:=fd.scope,locals:=L,globals:=fd.globals,cells:=cells,qual:=fd.qualname ++ ".<locals>.",func:=some f,code:=fd.code,frame:=some L,builtins:=fd.builtins }
theorem z26 {fd:FuncData} {f:Addr} {sl:Slots} {cells:List (Str × Addr)} {h2:Heap} (hs:fd.scope = sc) (hk:sc.kind = .function) (hg:fd.globals = mainGlobals) (hbl:fd.builtins = builtinsNs) (H:HRel σ.g σ.s.heap) (hc:CloOk σ sc fd.closure ns sl) (CI:CInv sc.names fd.closure cells frameObj0 σ.s.heap h2) :
  NewF C σ sc ns sl (fenvOf fd f σ.s.heap.objs.size cells) h2:=by
 have nL:σ.s.heap.get? σ.s.heap.objs.size = none:=get?_size _
 have e1:(fenvOf fd f σ.s.heap.objs.size cells).scope = sc:=hs
 have kind:∀ x k,(fenvOf fd f σ.s.heap.objs.size cells).kindOf x = some k -> (x,k) ∈ sc.names:=fun x k h=>zbi (show sc.names.lookup x = some k from e1 ▸ h)
 refine ⟨⟨(show fd.scope.kind = .function by rw [hs]; exact hk),hg,hbl,⟨fun _=>none,⟨_,#[],0,CI.l,rfl,fun e he=>(by simp at he),fun _=>rfl⟩,fun x u hx hkx=>?_⟩,H.hf_none nL,fun l hl=>H.ne hl nL,H.nfl nL,fun x hx=>?_,fun x y a hx hy h1 h2=>CI.inj x y a h1 h2⟩,CI.k,fun a ha=>?_⟩
 ·exfalso
  rcases zb4 _ _ _ _ List.length_replicate hx with ⟨_,q⟩ | ⟨hn,_⟩
  ·exact nomatch List.eq_of_mem_replicate q
  ·exact hn (zil (kind x _ hkx) rfl)
 ·cases CI.c x with
  | new hm a q1 q2 q3 =>
   refine ⟨a,none,q1,⟨_,q2,rfl⟩,fun u hu=>?_⟩
   rcases zb4 _ _ _ _ List.length_replicate hu with ⟨_,q⟩ | ⟨hn,_⟩
   ·exact nomatch List.eq_of_mem_replicate q
   ·exact absurd (zil hm rfl) hn
  | old hm q1 =>
   have hx':(x,NameKind.free) ∈ sc.names:=hx.elim (fun h=>absurd (kind x _ h) hm) (kind x _)
   obtain ⟨c1,w1,e1,⟨o1,ie,id⟩,rv⟩:=hc.free x hx'
   refine ⟨c1,w1,q1.trans e1,⟨o1,CI.k _ _ ie,id⟩,fun u hu=>?_⟩
   rcases zb4 _ _ _ _ List.length_replicate hu with ⟨_,q⟩ | ⟨_,q⟩
   ·exact nomatch List.eq_of_mem_replicate q
   ·exact rv u q
 ·rcases ha with rfl | ⟨x,hx,hl⟩
  ·exact nL
  ·cases CI.c x with
   | new hm a' q1 q2 q3=>cases q1.symm.trans hl; exact get?_ge (Nat.le_of_lt q3)
   | old hm q1=>exact absurd (kind x _ hx) hm
structure InFn (C:Cx) (A:Around) (σ:St) (fd:FuncData) (Φ:Fm) (σ3:St):Prop where
 hA:Φ.A = A.deeper Φ.env
 code:Φ.env.code = fd.code
 qual:Φ.env.qual = fd.qualname ++ (".<locals>." : Str)
 fr:Φ.env.frame = some Φ.env.locals
 X:Ext σ σ3 (ownOf Φ.env)
 cs:σ3.g.cs = σ.g.cs
 own0:∀ a,ownOf Φ.env a -> σ.s.heap.get? a = none
theorem ztm (L:Lim0 C) {f:Addr} {body:List Stmt} {fd:FuncData} (Fa:FnAt0 C f sc body fd) (O:AOk A (C.d + 1)) (H:HRel σ.g σ.s.heap) (B:Base C σ.g) {ps:List (Str × Nat)} {vs:List V} (hps:ps.length = vs.length)
  {args':List Value} {kws':List (Str × Value)} {sl:Slots} (hb:∀ (Q:List (Str × Value) -> Shared -> Prop) (E:Value -> Shared -> Prop),(∀ bs' σ',Ext σ σ' noOwn -> σ'.g.cs = σ.g.cs -> KRel σ'.g ((ps.map (·.1)).zip vs) bs' -> CloOk σ' sc fd.closure ns sl -> Q bs' σ'.s) -> wpAny C.M A.in1 (bindArgs fd ⟨args',kws'⟩) Q E σ.s)
  (hw:ps.all (fun p=>tgt1 sc (ownNs sc ++ ns) p.1 p.2) = true) {R:Result -> Shared -> Prop}
  (hbody:∀ (Φ:Fm) (σ3:St),Φ.env.scope = sc -> InFn C A σ fd Φ σ3 -> Std C Φ (look (ownNs sc ++ ns) (bindP ps vs (List.replicate (ownNs sc).length none ++ sl))) σ3 ->
   wpAny C.M Φ.A (execs body Φ.env) (fun f s'=>R (.ok (.ret (match f with | .ret v=>v | _=>.none))) s') (fun e s'=>wpAny C.M Φ.A (leaving Φ.env e) (fun _ s''=>R (.error e) s'') (fun e' s''=>R (.error e') s'') s') σ3.s):codeAny C.M A (.call (.ref f) ⟨args',kws'⟩) R σ.s:=by
 obtain ⟨o,ho,hd⟩:=Fa.ho
 obtain ⟨c,oc,vc,tc,c1,c2,c3,c4⟩:=Fa.code
 refine codeAny_call_function (by have:=O.dep; exact ze1 ‹_›) (H.fz _ _ (B.hf _ _ ho)) hd (by rw [Fa.scope]; exact Fa.co) (by rw [Fa.scope]; exact Fa.gen) Fa.body ⟨c,oc,vc,tc,c1,H.fz _ _ (B.hf _ _ c2),c3,c4⟩ (hb _ _ fun bs' σ0 X0 ec hr hc=>?_)
 refine fn_env (fun x a h=>by obtain ⟨w',o',e,_⟩:=hc.live x a h; exact Heap.lt_size e) hc.inj fun cells h2 CI=>?_
 have N:=z26 (C:=C) (f:=f) Fa.scope Fa.kind Fa.glo Fa.blt X0.H hc (Fa.scope ▸ CI)
 have X2:Ext σ0 (σ0.up h2 σ0.s.toks σ0.g) noOwn:=Ext.keeps X0.H N.k12
 have O2:AOk (A.deeper (fenvOf fd f σ0.s.heap.objs.size cells)) C.d:=⟨O.hh,by have:=O.dep; show A.depth + 1 + C.d < _; exact zed ‹_›,by have:=O.un; show A.units + 3 + 100 * C.d + 200 < _; lia⟩
 have Oi:AOk A.in1 C.d:=⟨O.hh,by have:=O.dep; show A.depth + C.d < _; exact zhj ‹_›,by have:=O.un; show A.units + 1 + 100 * C.d + 200 < _; lia⟩
 refine zrx (Φ:=⟨A.in1,fenvOf fd f σ0.s.heap.objs.size cells⟩) (σ:=σ0.up h2 σ0.s.toks σ0.g) ps hps ⟨N.F,X2.H,B.le X0.le,Oi⟩ (by rw [show (fenvOf fd f σ0.s.heap.objs.size cells).scope = sc from Fa.scope]; exact hw) hr fun σ3 X3 e3 S3=>?_
 refine ⟨L.at S3.H S3.B,codeAny_func ?_⟩
 have X13:=((X0.trans X2).mono (own':=ownOf (fenvOf fd f σ0.s.heap.objs.size cells)) fun _ z=>z.elim).trans X3
 exact hbody ⟨A.deeper (fenvOf fd f σ0.s.heap.objs.size cells),fenvOf fd f σ0.s.heap.objs.size cells⟩ σ3 Fa.scope ⟨rfl,rfl,rfl,rfl,X13,e3.trans ec,fun a ha=>X0.dead (N.own0 a ha)⟩ ⟨S3.F,S3.H,S3.B,O2⟩
theorem zb8 (L:Lim0 C) {f:Addr} {body:List Stmt} {fd:FuncData} (Fa:FnAt0 C f sc body fd) (O:AOk A (C.d + 1)) (H:HRel σ.g σ.s.heap) (B:Base C σ.g) {ps:List (Str × Nat)} {vs:List V} (hps:ps.length = vs.length)
  {args':List Value} {kws' bs':List (Str × Value)} (hb:∀ (M:Model) (A:Around) (E:Value -> Shared -> Prop) (Q:List (Str × Value) -> Shared -> Prop),Q bs' σ.s -> wpAny M A (bindArgs fd ⟨args',kws'⟩) Q E σ.s) (hr:KRel σ.g ((ps.map (·.1)).zip vs) bs')
  {sl:Slots} (hc:CloOk σ sc fd.closure ns sl) (hw:ps.all (fun p=>tgt1 sc (ownNs sc ++ ns) p.1 p.2) = true)
  (hbody:∀ (Φ:Fm) (σ3:St),Φ.env.scope = sc -> InFn C A σ fd Φ σ3 -> Std C Φ (look (ownNs sc ++ ns) (bindP ps vs (List.replicate (ownNs sc).length none ++ sl))) σ3 ->
   XRuns C Φ (ownNs sc ++ ns) σ3 (execs body Φ.env) fun fl _ cs=>K (retOf fl) cs):CRuns C A σ (.ref f) args' kws' K:=fun R k=>by
 refine ztm L Fa O H B hps (fun Q E k=>hb _ _ E Q (k bs' σ (Ext.refl H _) rfl hr hc)) hw fun Φ σ3 hsc I S3=>hbody Φ σ3 hsc I S3 _ _ fun fl sl' fv σ4 X4 r4 S4 q4=>?_
 have X14:=(I.X.trans X4).drop_own I.own0
 cases r4 with
 | ret rr=>exact k _ _ σ4 X14 rr q4
 | next=>exact k .none .none σ4 X14 .none q4
 | brk=>exact k .none .none σ4 X14 .none q4
 | cont=>exact k .none .none σ4 X14 .none q4
theorem zf4 {s:Shared} {f:Addr} {o:Obj} {fd:FuncData} (h1:s.heap.get? f = some o) (h2:o.data = .func fd):KeepOk C A s (.ref f):=by
 intro E Q k
 obtain ⟨c,d,dt,sl⟩:=o
 cases (h2:dt = _)
 obtain ⟨kp,_,hl⟩:=PySem.W.keeps_F (M:=C.M) s.heap (q:=f) ⟨c,d,fd,sl,h1⟩
 exact hl.here (k _)
theorem fn_ok {KK:Frag} (F:Facts2 C P KK) (L:LimAt C) {f:Addr} {body:List Stmt} {fd:FuncData} (Fa:FnAt C f sc body fd) {ss:List IS} (hs:(IS.sems P ss).map SD.ast = body) (hw:bwf (IS.sems P ss) sc (ownNs sc ++ []) = true) {ps:List (Str × Nat)} (hp:ps.all (fun p=>tgt1 sc (ownNs sc ++ []) p.1 p.2) = true) {sp:Spec}
  (h:∀ args kws cs K,sp args kws cs K -> ∃ vs,ps.length = vs.length /\ BindOk C fd args kws ps vs /\ den P ss (bindP ps vs (List.replicate (ownNs sc).length none ++ [])) cs fun fl _ cs=>K (retOf fl) cs):FnOk C.up f sp:=by
 intro A σ args kws args' kws' K O H B ra rk q
 have B':Base C σ.g:=⟨B.pr,B.hf,B.fl⟩
 obtain ⟨vs,hl,hb,q⟩:=h args kws _ K q
 obtain ⟨bs',hr,hbb⟩:=hb H B' ra rk
 obtain ⟨o,ho,hd⟩:=Fa.ho
 refine ⟨zf4 (C:=C.up) (H.fz _ _ (B'.hf _ _ ho)) hd,?_⟩
 exact zb8 L.l Fa.toFnAt0 O H B' hl hbb hr (by rw [Fa.clo]; exact .nil Fa.nofree) hp fun Φ σ3 hsc I S3=>z4k F hs (L.fm _ _) (hsc ▸ hw) S3 (I.cs ▸ q)
end
end Mine
end
section
namespace Mine
open PySem PySem.SeqAt PySem.W PySem.Calls
noncomputable abbrev Tab:=List (Addr × Spec)
noncomputable def noSpec:Spec:=fun _ _ _ _=>False
noncomputable def mkFn (T:Tab) (a:Addr):Spec:=List.rec noSpec (fun p _ ih=>cond (a == p.1) p.2 ih) T
structure Law where
 globs:List (Str × V)
 cls:Addr
 meths:List (Str × Addr)
 pats:List (Addr × (Nat -> Bool))
noncomputable abbrev Law.prm (l:Law) (T:Tab):Prm:=⟨l.globs,mkFn T,l.cls,l.meths,l.pats⟩
section
variable {C:Cx} {P:Prm} {K:Frag} {l:Law} {T:Tab}
theorem FnOk.less {a:Addr} {f:Spec} (h:FnOk C a f):FnOk C.up a f:=fun O H B ra rk q=>h (O.less (Nat.le_succ _)) H ⟨B.pr,B.hf,B.fl⟩ ra rk q
theorem za8:FnsOk C (l.prm []):=fun a _ _ _ _ _ _ _ _ _ _ _ _ q=>q.elim
theorem zbp (F:FnsOk C (l.prm T)) (T':Tab) (h:∀ p ∈ T',FnOk C.up p.1 p.2):FnsOk C.up (l.prm (T' ++ T)):=by
 induction T' with
 | nil=>exact fun b=>FnOk.less (F b)
 | cons p T' ih =>
  intro b
  show FnOk C.up b (cond (b == p.1) p.2 (mkFn (T' ++ T) b))
  cases hb:b == p.1 with
  | true=>cases (eq_of_beq hb:b = p.1); exact h p List.mem_cons_self
  | false=>exact ih (fun q hq=>h q (List.mem_cons_of_mem _ hq)) b
structure W0 (C:Cx) (K:Frag):Prop where
 inK:Within C K
 blt:∃ o mb,C.base builtinsNs = some o /\ (∀ h:Heap,h.get? builtinsNs = some o -> h.Ns builtinsNs mb) /\ ∀ x:Str,x ≠ "__name__" -> mb x = bootBuiltins x
 glo:∃ o mg,C.base mainGlobals = some o /\ (∀ h:Heap,h.get? mainGlobals = some o -> h.Ns mainGlobals mg) /\ ∀ x v,nsIn K mainGlobals x = some v -> mg x = v
 lim:Lim0 C
 lo:∃ o,C.base cStatics = some o
 bmain:∃ bm ob,nsIn K mainGlobals "__builtins__" = some (some (.ref bm)) /\ bm ≠ builtinsNs /\ C.base bm = some ob /\ ob.cls = .type "module" /\ ob.dict = some builtinsNs /\ ob.data = .plain
noncomputable def GlobFact (w:World) (K:Frag) (x:Str) (v:V):Prop :=
 (∃ v',nsIn K mainGlobals x = some (some v') /\ ∀ g:Gh,g.pr = w.params -> (∀ a o,K.lookup a = some o -> g.hf a = some o) -> VRel g v v') \/
 (nsIn K mainGlobals x = some none /\ x ≠ "__name__" /\ ∃ v',bootBuiltins x = some v' /\ ∀ g:Gh,VRel g v v')
theorem ztd (W:W0 C K) {x:Str} {v:V} (h:GlobFact C.w K x v) {A:Around} {env:Env} {σ:St} (hgl:env.globals = mainGlobals) (hbl:env.builtins = builtinsNs) (hk:env.scope.kind = .function) (hx:env.kindOf x = some .globalImplicit) (H:HRel σ.g σ.s.heap) (B:Base C σ.g)
  {Q:Value -> Shared -> Prop} {E:Value -> Shared -> Prop} (q:∀ v',VRel σ.g v v' -> Q v' σ.s):wpAny C.M A (loadName env x) Q E σ.s:=by
 obtain ⟨og,mg,g1,g2,g3⟩:=W.glo
 have hns:σ.s.heap.Ns env.globals mg:=by rw [hgl]; exact g2 _ (H.fz _ _ (B.hf _ _ g1))
 rw [PyProof.Rows.loadName_read hk hx]
 rcases h with ⟨v',n1,n2⟩ | ⟨n1,n2,v',n3,n4⟩
 ·exact loadGlobal_global hns (g3 _ _ n1) (q v' (n2 σ.g B.pr fun a o e=>B.hf _ _ (W.inK.sub a o e)))
 ·obtain ⟨ob,mb,b1,b2,b3⟩:=W.blt
  have hnb:σ.s.heap.Ns env.builtins mb:=by rw [hbl]; exact b2 _ (H.fz _ _ (B.hf _ _ b1))
  exact loadGlobal_builtin hns (g3 _ _ n1) hnb ((b3 x n2).trans n3) (q v' (n4 σ.g))
theorem z3y (W:W0 C K) {x:Str} {v:V} (h:GlobFact C.w K x v):GlobAt C x v :=
 fun _ σ _ hgl hbl hk hx H B q _ _ k=>ztd W h hgl hbl hk hx H B fun v' r=>k v v' σ (Ext.refl H _) r q
structure LawOk (C:Cx) (K:Frag) (l:Law):Prop where
 W:W0 C K
 globs:∀ p ∈ l.globs,GlobFact C.w K p.1 p.2
 cf:ClsFacts K (l.prm [])
 pats:PatsOk C (l.prm [])
theorem zfb (O:LawOk C K l) (Fn:FnsOk C (l.prm T)):Facts2 C (l.prm T) K :=
 have cf:ClsFacts K (l.prm T):=⟨O.cf.noSeq,O.cf.hga,O.cf.hk,O.cf.meth,O.cf.hd,O.cf.hn,O.cf.hs,O.cf.hp,O.cf.ht,O.cf.hh⟩
 ⟨⟨O.W.lo,fun x v h=>z3y O.W (O.globs _ h),Fn,zw1 (P:=l.prm T) (fun a bad h=>O.pats a bad h),zuj O.W.inK cf,zy6 O.W.inK cf⟩,O.W.inK,cf⟩
noncomputable def makeSpec (P:Prm) (init:Addr):Spec:=fun args kws cs K=>P.fn init (.ref (cs.length + 1) :: args) kws (cs ++ [.attr none,.inst P.cls cs.length]) fun v cs'=>v = .none /\ K (.ref (cs.length + 1)) cs'
theorem z3b (W:W0 C K) (Fn:FnsOk C P) {init:Addr} (hm:makesIn K P.cls = true) (hi:findIn K (.ref P.cls) "__init__" = some (some (.ref init))) (hf:typeIn K (.ref init) = some (.type "function"))
  (hk:∀ S:Setting,(peek K S (keeperOf (.ref P.cls))).isSome = true):FnOk C.up P.cls (makeSpec P init):=by
 intro A σ args kws args' kws' KK O H B ra rk e
 have B':Base C σ.g:=⟨B.pr,B.hf,B.fl⟩
 have X:=inK W.inK H B'
 refine ⟨fun E Q k=>?_,fun R k=>?_⟩
 ·obtain ⟨kp,hkp⟩:=Option.isSome_iff_exists.mp (hk ⟨C.prog,C.w.params⟩)
  exact (Looks.of_peek (M:=C.M) X hkp).here (k kp)
 ·have nd:σ.s.heap.get? σ.s.heap.objs.size = none:=get?_size _
  let h1:=σ.s.heap.push emptyDict
  let d:=σ.s.heap.objs.size
  have ed:h1.get? d = some emptyDict:=Heap.get?_push_size _ rfl
  let σ1:St:=σ.up h1 σ.s.toks (σ.g.grow d (.attr none))
  have X1:Ext σ σ1 noOwn:=Ext.grow H (fun a o e=>Heap.get?_push_of_some _ e) nd ⟨#[],0,ed⟩
  have nx:h1.get? h1.objs.size = none:=get?_size _
  let x:=h1.objs.size
  let σ2:St:=σ1.up (h1.push (PySem.W.instObj P.cls d)) σ.s.toks (σ1.g.grow x (.inst P.cls σ.g.cs.length))
  have l1:σ1.g.cs.length = σ.g.cs.length + 1:=zb7 ..
  have hd:σ2.g.ρ σ.g.cs.length = d:=((Le.grow σ1.g x _).ρ _ (l1 ▸ Nat.lt_succ_self _)).trans (grow_ρ ..)
  have X2:Ext σ1 σ2 noOwn:=Ext.grow X1.H (fun a o e=>Heap.get?_push_of_some _ e) nx ⟨by rw [zb7,l1]; exact Nat.lt_succ_of_lt (Nat.lt_succ_self _),by
   rw [show ((σ1.g.grow x (.inst P.cls σ.g.cs.length)).ρ σ.g.cs.length) = d from hd]
   exact Heap.get?_push_size _ rfl⟩
  have hx:σ2.g.ρ (σ.g.cs.length + 1) = x:=by rw [<- l1]; exact grow_ρ ..
  have rself:VRel σ2.g (.ref (σ.g.cs.length + 1)) (.ref x):=.ref' (by rw [show σ2.g.cs.length = _ from zb7 ..,l1]; exact Nat.lt_succ_self _) hx
  have ec:σ2.g.cs = σ.g.cs ++ [.attr none,.inst P.cls σ.g.cs.length]:=List.append_assoc ..
  have O':AOk (A.under (.builtin "type.__call__" ⟨.ref P.cls :: args',kws'⟩)) C.d:=⟨O.hh,by have:A.depth + (C.d + 1) < recursionLimit:=O.dep; show A.depth + 1 + C.d < _; exact zed ‹_›,by have:A.units + 100 * (C.d + 1) + 200 < cLine:=O.un; show A.units + 1 + 100 * C.d + 200 < _; lia⟩
  have X12:=X1.trans X2
  have run:=(Fn init (σ:=σ2) O' X2.H (B'.le X12.le) (.cons rself (vmono ra X12.le)) (kmono rk X12.le) (by rw [ec]; exact e)).2
  have hxs:x = σ.s.heap.objs.size + 1:=Heap.size_push ..
  refine make_core (makes_of X hm) (looks_findIn X hi) (fun self=>bind_fn X self hf) (.inl rfl) ?_
  rw [<- hxs]
  refine run _ fun v a σ3 X3 rv q=>?_
  obtain ⟨rfl,q⟩:=q
  cases rv.inv
  exact ⟨rfl,k _ (.ref x) σ3 (X12.trans X3) (rself.mono X3.le) q⟩
end
noncomputable def view:Stmt -> List (List Stmt) × Scope
 | .FunctionDef _ _ b _ _ _ sc _ _ _=>([b],sc)
 | .ClassDef _ _ _ b _ _ _ _ _ _ _=>([b],default)
 | .If _ a b _=>([a,b],default)
 | .For _ _ a _ _=>([a],default)
 | _=>([],default)
noncomputable def kid (k:Nat) (s:Stmt):List Stmt:=(view s).1.getD k []
noncomputable def bodyOf (s:Stmt):List Stmt:=kid 0 s
noncomputable def scopeOf (s:Stmt):Scope:=(view s).2
noncomputable def stAt (p:Program) (k:Nat):Stmt:=p.main.body.getD k default
noncomputable def methAt (p:Program) (k j:Nat):Stmt:=(kid 0 (stAt p k)).getD j default
noncomputable def thenOf (s:Stmt):List Stmt:=kid 0 s
noncomputable def loopOf (s:Stmt):List Stmt:=kid 0 s
noncomputable abbrev S (x:String):Str:=Str.ofString x
noncomputable def fnD (d:Data):Option FuncData:=match d with
 | .func fd=>some fd
 | _=>none
noncomputable def flD (d:Data):Option (Array Value):=match d with
 | .fields vs=>some vs
 | _=>none
noncomputable def txV (v:Value):Option Str:=match v with
 | .str q _=>some q
 | _=>none
theorem fnD_at {d:Data} {fd:FuncData} (h:fnD d = some fd):d = .func fd:=by
 unfold fnD at h
 split at h
 ·cases h; rfl
 ·cases h
theorem flD_at {d:Data} {vs:Array Value} (h:flD d = some vs):d = .fields vs:=by
 unfold flD at h
 split at h
 ·cases h; rfl
 ·cases h
theorem txV_at {v:Value} {q:Str} (h:txV v = some q):∃ t,v = .str q t:=by
 unfold txV at h
 split at h
 ·cases h; exact ⟨_,rfl⟩
 ·cases h
noncomputable def fdO (K:Frag) (a:Addr):Option FuncData:=(K.lookup a).bind fun o=>fnD o.data
noncomputable def cqO (K:Frag) (c:Addr):Option Str:=((K.lookup c).bind fun o=>flD o.data).bind fun vs=>(vs[1]?:Option Value).bind txV
theorem z0l {K:Frag} {a:Addr} {fd:FuncData} (h:fdO K a = some fd):∃ o,K.lookup a = some o /\ o.data = .func fd:=by
 obtain ⟨o,h1,h2⟩:=Option.bind_eq_some_iff.mp h
 exact ⟨o,h1,fnD_at h2⟩
theorem zak {α β:Type} {o:Option α} {f:α -> β} {a:α} {b:β} (h:o = some a) (e:o.map f = some b):f a = b:=by
 rw [h] at e
 exact Option.some.inj e
structure FnK (K:Frag) (a:Addr) (F:Stmt):Prop where
 e:(fdO K a).map (fun fd=>((fd.scope,fd.body),(fd.globals,fd.builtins),(fd.closure,fd.code))) = some ((scopeOf F,.stmts (bodyOf F)),(mainGlobals,builtinsNs),([],.ref (a - 1)))
 c:cqO K (a - 1) = (fdO K a).map (·.qualname)
section
variable {K:Frag} {a:Addr} {F:Stmt} (h:FnK K a F)
include h
theorem FnK.i:(fdO K a).isSome = true:=by
 have q:=congrArg Option.isSome h.e
 rw [Option.isSome_map] at q
 exact q
theorem FnK.pick {β:Type} (f:((Scope × FuncBody) × (Addr × Addr) × (List (Str × Addr) × Value)) -> β):(fdO K a).map (fun fd=>f ((fd.scope,fd.body),(fd.globals,fd.builtins),(fd.closure,fd.code))) = some (f ((scopeOf F,.stmts (bodyOf F)),(mainGlobals,builtinsNs),([],.ref (a - 1)))):=by
 have q:=congrArg (Option.map f) h.e
 rw [Option.map_map] at q
 exact q
theorem FnK.s:(fdO K a).map (·.scope) = some (scopeOf F):=h.pick fun p=>p.1.1
theorem FnK.b:(fdO K a).map (·.body) = some (.stmts (bodyOf F)):=h.pick fun p=>p.1.2
theorem FnK.g:(fdO K a).map (·.globals) = some mainGlobals:=h.pick fun p=>p.2.1.1
theorem FnK.u:(fdO K a).map (·.builtins) = some builtinsNs:=h.pick fun p=>p.2.1.2
theorem FnK.k:(fdO K a).map (·.closure) = some []:=h.pick fun p=>p.2.2.1
theorem zkx {fd:FuncData} (hf:fdO K a = some fd):∃ c oc vs t,fd.code = .ref c /\ K.lookup c = some oc /\ oc.data = .fields vs /\ (vs[1]?:Option Value) = some (.str fd.qualname t):=by
 have q:=h.c
 rw [hf] at q
 obtain ⟨vs,h1,h2⟩:=Option.bind_eq_some_iff.mp q
 obtain ⟨oc,h3,h4⟩:=Option.bind_eq_some_iff.mp h1
 obtain ⟨v,h5,h6⟩:=Option.bind_eq_some_iff.mp h2
 obtain ⟨t,rfl⟩:=txV_at h6
 exact ⟨_,oc,vs,t,zak hf (h.pick fun p=>p.2.2.2),h3,flD_at h4,h5⟩
end
noncomputable def nfree (sc:Scope):Bool:=sc.names.all fun p=>!isFree p.2
structure Tx (P:Prm) (F:Stmt) (ss:List IS) (ps:List (Str × Nat)):Prop where
 ast:(IS.sems P ss).map SD.ast = bodyOf F
 wf:bwf (IS.sems P ss) (scopeOf F) (ownNs (scopeOf F) ++ []) = true
 par:ps.all (fun p=>tgt1 (scopeOf F) (ownNs (scopeOf F) ++ []) p.1 p.2) = true
 kind:(scopeOf F).kind = .function
 co:(scopeOf F).isCoroutine = false
 gen:(scopeOf F).isGenerator = false
 nf:nfree (scopeOf F) = true
section
variable {C:Cx} {P:Prm} {K:Frag} {a:Addr} {F:Stmt} {ss:List IS} {ps:List (Str × Nat)} {fd:FuncData}
theorem fnAt_K (W:Within C K) (Fk:FnK K a F) (T:Tx P F ss ps) (h:fdO K a = some fd):FnAt C a (scopeOf F) (bodyOf F) fd:=by
 obtain ⟨o,e1,e2⟩:=z0l h
 obtain ⟨c,oc,vs,t,q1,q2,q3,q4⟩:=zkx Fk h
 refine ⟨⟨⟨o,W.sub _ _ e1,e2⟩,zak h Fk.s,zak h Fk.b,zak h Fk.g,zak h Fk.u,T.co,T.gen,T.kind,c,oc,vs,t,q1,W.sub _ _ q2,q3,q4⟩,zak h Fk.k,fun x hx=>?_⟩
 have:=List.all_eq_true.mp T.nf _ hx
 cases this
noncomputable def Binds (K:Frag) (a:Addr) (ps:List (Str × Nat)) (args:List V) (kws:Kws) (vs:List V):Prop:=∀ {C:Cx} {fd:FuncData},Within C K -> fdO K a = some fd -> BindOk C fd args kws ps vs
theorem fn_of {sp:Spec} (F2:Facts2 C P K) (L:LimAt C) (Fk:FnK K a F) (T:Tx P F ss ps)
  (h:∀ args kws cs K',sp args kws cs K' -> ∃ vs,ps.length = vs.length /\ Binds K a ps args kws vs /\ den P ss (bindP ps vs (List.replicate (ownNs (scopeOf F)).length none ++ [])) cs fun fl _ cs=>K' (retOf fl) cs):FnOk C.up a sp:=by
 obtain ⟨fd,hf⟩:=Option.isSome_iff_exists.mp Fk.i
 refine fn_ok F2 L (fnAt_K F2.W Fk T hf) T.ast T.wf T.par fun args kws cs K' q=>?_
 obtain ⟨vs,h1,h2,h3⟩:=h args kws cs K' q
 exact ⟨vs,h1,h2 F2.W hf,h3⟩
theorem binds1 {n:Str} {i:Nat} {x:V} (h:∀ v:Value,(fdO K a).map (fun fd=>bindArgs fd ⟨[v],[]⟩) = some (pure [(n,v)])):Binds K a [(n,i)] [x] [] [x]:=by
 intro C fd W hf σ args' kws' H B ra rk
 cases rk.nil_of
 obtain ⟨v,rfl,r⟩:=ra.one
 exact ⟨_,.cons ⟨rfl,r⟩ .nil,fun M A E Q k=>by rw [zak hf (h v)]; exact wpAny_pure k⟩
theorem binds2 {n m:Str} {i j:Nat} {x y:V} (h:∀ v u:Value,(fdO K a).map (fun fd=>bindArgs fd ⟨[v,u],[]⟩) = some (pure [(n,v),(m,u)])):Binds K a [(n,i),(m,j)] [x,y] [] [x,y]:=by
 intro C fd W hf σ args' kws' H B ra rk
 cases rk.nil_of
 obtain ⟨v,u,rfl,r,r2⟩:=ra.two
 exact ⟨_,.cons ⟨rfl,r⟩ (.cons ⟨rfl,r2⟩ .nil),fun M A E Q k=>by rw [zak hf (h v u)]; exact wpAny_pure k⟩
theorem binds3 {n m l:Str} {i j k:Nat} {x y z:V} (h:∀ v u t:Value,(fdO K a).map (fun fd=>bindArgs fd ⟨[v,u,t],[]⟩) = some (pure [(n,v),(m,u),(l,t)])):Binds K a [(n,i),(m,j),(l,k)] [x,y,z] [] [x,y,z]:=by
 intro C fd W hf σ args' kws' H B ra rk
 cases rk.nil_of
 obtain ⟨v,u,t,rfl,r,r2,r3⟩:=ra.three
 exact ⟨_,.cons ⟨rfl,r⟩ (.cons ⟨rfl,r2⟩ (.cons ⟨rfl,r3⟩ .nil)),fun M A E Q k=>by rw [zak hf (h v u t)]; exact wpAny_pure k⟩
theorem bindsK {n m l:Str} {i j k:Nat} {x y z:V} (h:∀ v u t:Value,(fdO K a).map (fun fd=>bindArgs fd ⟨[v,u],[(l,t)]⟩) = some (pure [(n,v),(m,u),(l,t)])):Binds K a [(n,i),(m,j),(l,k)] [x,y] [(l,z)] [x,y,z]:=by
 intro C fd W hf σ args' kws' H B ra rk
 obtain ⟨⟨l',t⟩,rfl,hl,r3⟩:=rk.one
 cases (hl:l = l')
 obtain ⟨v,u,rfl,r,r2⟩:=ra.two
 exact ⟨_,.cons ⟨rfl,r⟩ (.cons ⟨rfl,r2⟩ (.cons ⟨rfl,r3⟩ .nil)),fun M A E Q k=>by rw [zak hf (h v u t)]; exact wpAny_pure k⟩
theorem bindsP2 {n m:Str} {i j:Nat} {x y:V} (h:∀ (v u:Value) (S:Setting),(fdO K a).map (fun fd=>peek K S (bindArgs fd ⟨[v,u],[]⟩)) = some (some [(n,v),(m,u)])):Binds K a [(n,i),(m,j)] [x,y] [] [x,y]:=by
 intro C fd W hf σ args' kws' H B ra rk
 cases rk.nil_of
 obtain ⟨v,u,rfl,r,r2⟩:=ra.two
 exact ⟨_,.cons ⟨rfl,r⟩ (.cons ⟨rfl,r2⟩ .nil),fun M A E Q k=>kp_binds (inK W H B) (fun S=>zak (f:=fun fd=>peek K S (bindArgs fd ⟨[v,u],[]⟩)) hf (h v u S)) M A E Q k⟩
theorem bindsD3 {n m l:Str} {i j k:Nat} {x y:V} (h:∀ (v u:Value) (S:Setting),(fdO K a).map (fun fd=>peek K S (bindArgs fd ⟨[v,u],[]⟩)) = some (some [(n,v),(m,u),(l,.none)])):Binds K a [(n,i),(m,j),(l,k)] [x,y] [] [x,y,.none]:=by
 intro C fd W hf σ args' kws' H B ra rk
 cases rk.nil_of
 obtain ⟨v,u,rfl,r,r2⟩:=ra.two
 exact ⟨_,.cons ⟨rfl,r⟩ (.cons ⟨rfl,r2⟩ (.cons ⟨rfl,.none⟩ .nil)),fun M A E Q k=>kp_binds (inK W H B) (fun S=>zak (f:=fun fd=>peek K S (bindArgs fd ⟨[v,u],[]⟩)) hf (h v u S)) M A E Q k⟩
end
noncomputable def Sp {α:Type} (enc:α -> List V) (kn:List Str) (kv:α -> List V) (R:α -> List Cell -> KV -> Prop):Spec:=fun args kws cs K=>∃ x,args = enc x /\ kws = kn.zip (kv x) /\ R x cs K
noncomputable def noKw {α:Type}:α -> List V:=fun _=>[]
noncomputable def den0 (P:Prm) (ss:List IS) (sl:Slots) (cs:List Cell) (K:KV):Prop:=bden (IS.sems P ss) sl cs fun fl _ cs=>K (retOf fl) cs
noncomputable abbrev Bd1 (K:Frag) (a:Addr) (n:Str):Prop:=∀ v:Value,(fdO K a).map (fun fd=>bindArgs fd ⟨[v],[]⟩) = some (pure [(n,v)])
noncomputable abbrev Bd2 (K:Frag) (a:Addr) (n m:Str):Prop:=∀ v u:Value,(fdO K a).map (fun fd=>bindArgs fd ⟨[v,u],[]⟩) = some (pure [(n,v),(m,u)])
noncomputable abbrev Bd3 (K:Frag) (a:Addr) (n m l:Str):Prop:=∀ v u t:Value,(fdO K a).map (fun fd=>bindArgs fd ⟨[v,u,t],[]⟩) = some (pure [(n,v),(m,u),(l,t)])
noncomputable abbrev BdK (K:Frag) (a:Addr) (n m l:Str):Prop:=∀ v u t:Value,(fdO K a).map (fun fd=>bindArgs fd ⟨[v,u],[(l,t)]⟩) = some (pure [(n,v),(m,u),(l,t)])
noncomputable abbrev BdP2 (K:Frag) (a:Addr) (n m:Str):Prop:=∀ (v u:Value) (S:Setting),(fdO K a).map (fun fd=>peek K S (bindArgs fd ⟨[v,u],[]⟩)) = some (some [(n,v),(m,u)])
noncomputable abbrev BdD3 (K:Frag) (a:Addr) (n m l:Str):Prop:=∀ (v u:Value) (S:Setting),(fdO K a).map (fun fd=>peek K S (bindArgs fd ⟨[v,u],[]⟩)) = some (some [(n,v),(m,u),(l,.none)])
section
variable {C:Cx} {P:Prm} {K:Frag} {a:Addr} {F:Stmt} {ss:List IS} {α:Type} {R:α -> List Cell -> KV -> Prop} {sl:α -> Slots}
theorem fn_sp {ps:List (Str × Nat)} {enc:α -> List V} {kn:List Str} {kv:α -> List V} (vs:α -> List V) (F2:Facts2 C P K) (L:LimAt C) (Fk:FnK K a F) (T:Tx P F ss ps) (hl:∀ x,ps.length = (vs x).length) (B:∀ x,Binds K a ps (enc x) (kn.zip (kv x)) (vs x)) (hs:∀ x,bindP ps (vs x) (List.replicate (ownNs (scopeOf F)).length none ++ []) = sl x) (h:∀ x cs K',R x cs K' -> den0 P ss (sl x) cs K'):FnOk C.up a (Sp enc kn kv R) :=
 fn_of F2 L Fk T fun args kws cs K' q=>by
  obtain ⟨x,rfl,rfl,q⟩:=q
  exact ⟨vs x,hl x,B x,by rw [hs]; exact h x cs K' q⟩
section
variable {n m l:Str} {i j k:Nat} {e1 e2 e3:α -> V} (F2:Facts2 C P K) (L:LimAt C) (Fk:FnK K a F)
include F2 L Fk
theorem fn1 (T:Tx P F ss [(n,i)]) (B:Bd1 K a n) (hs:∀ x,bindP [(n,i)] [e1 x] (List.replicate (ownNs (scopeOf F)).length none ++ []) = sl x) (h:∀ x cs K',R x cs K' -> den0 P ss (sl x) cs K'):FnOk C.up a (Sp (fun x=>[e1 x]) [] noKw R):=fn_sp (fun x=>[e1 x]) F2 L Fk T (fun _=>rfl) (fun _=>binds1 B) hs h
theorem fn2 (T:Tx P F ss [(n,i),(m,j)]) (B:Bd2 K a n m) (hs:∀ x,bindP [(n,i),(m,j)] [e1 x,e2 x] (List.replicate (ownNs (scopeOf F)).length none ++ []) = sl x) (h:∀ x cs K',R x cs K' -> den0 P ss (sl x) cs K'):FnOk C.up a (Sp (fun x=>[e1 x,e2 x]) [] noKw R):=fn_sp (fun x=>[e1 x,e2 x]) F2 L Fk T (fun _=>rfl) (fun _=>binds2 B) hs h
theorem fn3 (T:Tx P F ss [(n,i),(m,j),(l,k)]) (B:Bd3 K a n m l) (hs:∀ x,bindP [(n,i),(m,j),(l,k)] [e1 x,e2 x,e3 x] (List.replicate (ownNs (scopeOf F)).length none ++ []) = sl x) (h:∀ x cs K',R x cs K' -> den0 P ss (sl x) cs K'):FnOk C.up a (Sp (fun x=>[e1 x,e2 x,e3 x]) [] noKw R):=fn_sp (fun x=>[e1 x,e2 x,e3 x]) F2 L Fk T (fun _=>rfl) (fun _=>binds3 B) hs h
theorem fnK (T:Tx P F ss [(n,i),(m,j),(l,k)]) (B:BdK K a n m l) (hs:∀ x,bindP [(n,i),(m,j),(l,k)] [e1 x,e2 x,e3 x] (List.replicate (ownNs (scopeOf F)).length none ++ []) = sl x) (h:∀ x cs K',R x cs K' -> den0 P ss (sl x) cs K'):FnOk C.up a (Sp (fun x=>[e1 x,e2 x]) [l] (fun x=>[e3 x]) R):=fn_sp (fun x=>[e1 x,e2 x,e3 x]) F2 L Fk T (fun _=>rfl) (fun _=>bindsK B) hs h
theorem fnP2 (T:Tx P F ss [(n,i),(m,j)]) (B:BdP2 K a n m) (hs:∀ x,bindP [(n,i),(m,j)] [e1 x,e2 x] (List.replicate (ownNs (scopeOf F)).length none ++ []) = sl x) (h:∀ x cs K',R x cs K' -> den0 P ss (sl x) cs K'):FnOk C.up a (Sp (fun x=>[e1 x,e2 x]) [] noKw R):=fn_sp (fun x=>[e1 x,e2 x]) F2 L Fk T (fun _=>rfl) (fun _=>bindsP2 B) hs h
theorem fnD3 (T:Tx P F ss [(n,i),(m,j),(l,k)]) (B:BdD3 K a n m l) (hs:∀ x,bindP [(n,i),(m,j),(l,k)] [e1 x,e2 x,.none] (List.replicate (ownNs (scopeOf F)).length none ++ []) = sl x) (h:∀ x cs K',R x cs K' -> den0 P ss (sl x) cs K'):FnOk C.up a (Sp (fun x=>[e1 x,e2 x]) [] noKw R):=fn_sp (fun x=>[e1 x,e2 x,.none]) F2 L Fk T (fun _=>rfl) (fun _=>bindsD3 B) hs h
end
end
section
variable {cs:List Cell} {n:Nat} {K:KB} {P:Prm} {KK:KV}
theorem EqR.strT {x y:Str} (h:x = y):EqR cs n (.str x) (.str y) true:=decide_eq_true h ▸ EqR.str n x y
theorem EqR.strF {x y:Str} (h:x ≠ y):EqR cs n (.str x) (.str y) false:=decide_eq_false h ▸ EqR.str n x y
theorem EqR.intT {x y:Int} (h:x = y):EqR cs n (.int x) (.int y) true:=decide_eq_true h ▸ EqR.int n x y
theorem EqR.intF {x y:Int} (h:x ≠ y):EqR cs n (.int x) (.int y) false:=decide_eq_false h ▸ EqR.int n x y
theorem zji (l:List Nat):l.all (fun _=>true) = true:=List.all_eq_true.mpr fun _ _=>rfl
theorem EqR.two {k:Bool} {u v a b c d:V} {r0 r1 r:Bool} (hu:SeqR cs u k [a,b]) (hv:SeqR cs v k [c,d]) (h0:EqR cs n a c r0) (h1:EqR cs n b d r1) (e:(r0 && r1) = r):EqR cs (n + 1) u v r:=by
 have h:=EqR.seq (fun j=>Nat.rec r0 (fun _ _=>r1) j) hu hv (fun j x y hx hy=>by
  cases j with
  | zero=>cases hx; cases hy; exact h0
  | succ j =>
   cases j with
   | zero=>cases hx; cases hy; exact h1
   | succ j=>cases hx)
 have q:((r0 && (r1 && true)) && true) = r:=by rw [Bool.and_true,Bool.and_true]; exact e
 exact q ▸ h
theorem EqR.allT {k:Bool} {u v:V} {xs ys:List V} (hu:SeqR cs u k xs) (hv:SeqR cs v k ys) (h:All2 (fun x y=>EqR cs n x y true) xs ys):EqR cs (n + 1) u v true:=by
 have q:=EqR.seq (fun _=>true) hu hv fun j x y hx hy=>by
  obtain ⟨z,hz,r⟩:=h.get hx
  cases hz.symm.trans hy
  exact r
 rw [zji,h.length,beq_self_eq_true] at q
 exact q
theorem z3q {g:Gh} {i j:Int} {y:Value} (r:VRel g (.int i) y) (s:VRel g (.int j) y):i = j:=by
 obtain ⟨t,rfl⟩:=r.inv
 obtain ⟨_,q⟩:=s.inv
 cases q; rfl
theorem zns {α:Type} [DecidableEq α] (enc:α -> V) {p:α} (he:∀ q,EqR cs 8 (enc q) (enc p) (decide (q = p))) (hi:∀ (g:Gh) q z y,VRel g (enc q) y -> VRel g (enc z) y -> q = z) (l:List α):Fnd cs (l.map enc) (enc p) fun j=>decide (l[j]? = some p):=by
 have get:∀ (j:Nat) x,(l.map enc)[j]? = some x -> ∃ q,l[j]? = some q /\ enc q = x:=fun j x h=>by
  rw [List.getElem?_map] at h
  exact Option.map_eq_some_iff.mp h
 refine ⟨fun j x h=>?_,fun g j k x z y h1 h2 r s=>?_⟩
 ·obtain ⟨q,e,rfl⟩:=get j x h
  rw [e,show decide (some q = some p) = decide (q = p) from decide_eq_decide.mpr ⟨Option.some.inj,congrArg some⟩]
  exact he q
 ·obtain ⟨q,e,rfl⟩:=get j x h1
  obtain ⟨q2,e2,rfl⟩:=get k z h2
  rw [e,e2,hi g q q2 y r s]
theorem z31 (l:List Int) (p:Int):Fnd cs (l.map .int) (.int p) fun j=>decide (l[j]? = some p):=zns .int (fun q=>.int _ _ _) (fun _ _ _ _=>z3q) l
theorem z30 (l:List Str) (p:Str):Fnd cs (l.map .str) (.str p) fun j=>decide (l[j]? = some p):=zns .str (fun q=>.str _ _ _) (fun g q z y r s=>by
 obtain ⟨t,rfl,_⟩:=r.inv
 obtain ⟨_,e,_⟩:=s.inv
 cases e; rfl) l
theorem CmpR.inI {b:Bool} {o:V} {l:List Int} {p:Int} {r:Bool} (ho:SeqR cs o b (l.map .int)) (e:decide (p ∈ l) = r) (q:K r cs):CmpR cs K .In (.int p) o:=by
 refine .inL _ ho (z31 l p) ?_
 have h:(List.range (l.map V.int).length).any (fun j=>decide (l[j]? = some p)) = r:=by
  rw [<- e,Bool.eq_iff_iff,List.any_eq_true,decide_eq_true_iff,List.length_map]
  exact ⟨fun ⟨j,_,h⟩=>List.mem_of_getElem? (of_decide_eq_true h),fun h=>by
   obtain ⟨j,hj,e⟩:=List.getElem_of_mem h
   exact ⟨j,List.mem_range.mpr hj,decide_eq_true (by rw [List.getElem?_eq_getElem hj,e])⟩⟩
 rw [h]
 exact q
theorem zvp {g:Gh} {xs zs:List V} {y:Value} (r:VRel g (.tup xs) y) (s:VRel g (.tup zs) y):∃ vs,VRels g xs vs /\ VRels g zs vs:=by
 obtain ⟨a,vs,ep,rfl,h,q,_⟩:=r.inv
 obtain ⟨b,us,ep2,e,h2,q2,_⟩:=s.inv
 cases e
 cases Option.some.inj (h.symm.trans h2)
 exact ⟨_,q,q2⟩
theorem CmpR.ltT {i j:Int} (h:i < j) (k:K true cs):CmpR cs K .Lt (.int i) (.int j):=.lt ((decide_eq_true h).symm ▸ k)
theorem CmpR.ltF {i j:Int} (h:¬ i < j) (k:K false cs):CmpR cs K .Lt (.int i) (.int j):=.lt ((decide_eq_false h).symm ▸ k)
theorem CmpR.geT {i j:Int} (h:j <= i) (k:K true cs):CmpR cs K .GtE (.int i) (.int j):=.ge ((decide_eq_true h).symm ▸ k)
theorem CmpR.geF {i j:Int} (h:¬ j <= i) (k:K false cs):CmpR cs K .GtE (.int i) (.int j):=.ge ((decide_eq_false h).symm ▸ k)
theorem zac {α:Type} {a:Addr} {enc:α -> List V} {kn:List Str} {kv:α -> List V} {R:α -> List Cell -> KV -> Prop} (h:P.fn a = Sp enc kn kv R) (x:α) (q:R x cs KK):CallR P cs KK (.adr a) (enc x) (kn.zip (kv x)):=.fn (by rw [h]; exact ⟨x,rfl,rfl,q⟩)
end
section
variable {t:Tgt} {body:Slots -> List Cell -> KF -> Prop} {K:KF} {src src':Src} {sl sl1:Slots} {cs:List Cell} {v:V}
theorem ForR.go (e:NextR cs src v src') (b:t.bind v sl = some sl1) (h:body sl1 cs fun fl sl' cs'=>Fl.rec (ForR t body K src' sl' cs') (K .next sl' cs') (ForR t body K src' sl' cs') (fun v=>K (.ret v) sl' cs') fl):ForR t body K src sl cs :=
 .step _ e b h (fun fl sl' cs' hg hm=>by cases fl <;> first | exact hm | cases hg) (fun fl sl' cs' hg hm=>by cases fl <;> first | exact hm | cases hg)
theorem CompR.go {γ:Type} {tests:Slots -> List Cell -> KB -> Prop} {emit:γ -> Slots -> List Cell -> (γ -> List Cell -> Prop) -> Prop} {K:γ -> List Cell -> Prop} {acc:γ} (e:NextR cs src v src') (b:t.bind v sl = some sl1)
  (h:tests sl1 cs fun b c=>Bool.rec (CompR t tests emit sl K acc src' c) (emit acc sl1 c fun y c=>CompR t tests emit sl K y src' c) b):CompR t tests emit sl K acc src cs :=
 .step (fun b c=>Bool.rec (CompR t tests emit sl K acc src' c) (emit acc sl1 c fun y c=>CompR t tests emit sl K y src' c) b) (fun y c=>CompR t tests emit sl K y src' c) e b h (fun c q=>q) (fun c q=>q) (fun y c q=>q)
end
end Mine
end
section
namespace Mine
open PySem
section
variable {c:Bool} {cs cs':List Cell} {K:KV} {P:Prm}
theorem BinR.addS' {x y z:Str} (e:x ++ y = z) (h:z.length <= lim) (k:K (.str z) cs):BinR c cs K .Add (.str x) (.str y):=by
 subst e
 exact .addS (by rw [show (x ++ y).length = (x.cps ++ y.cps).size from rfl,Array.size_append] at h; exact h) k
theorem BinR.addI' {i j z:Int} (e:i + j = z) (k:K (.int z) cs):BinR c cs K .Add (.int i) (.int j):=by subst e; exact .addI k
theorem BinR.subI' {i j z:Int} (e:i - j = z) (k:K (.int z) cs):BinR c cs K .Sub (.int i) (.int j):=by subst e; exact .subI k
theorem BinR.mulI' {i j z:Int} (h:mulOk i j = true) (e:i * j = z) (k:K (.int z) cs):BinR c cs K .Mult (.int i) (.int j):=by subst e; exact .mulI h k
theorem BinR.modI' {i j z:Int} (h:j ≠ 0) (e:i.fmod j = z) (k:K (.int z) cs):BinR c cs K .Mod (.int i) (.int j):=by subst e; exact .modI h k
theorem BinR.fdivI' {i j z:Int} (h:j ≠ 0 /\ j.natAbs < bigN) (e:i.fdiv j = z) (k:K (.int z) cs):BinR c cs K .FloorDiv (.int i) (.int j):=by subst e; exact .fdivI h k
theorem MethR.append' {l:Nat} {xs:List V} {v:V} (h:cs[l]? = some (.list xs)) (hl:xs.length < lim) (e:cs.set l (.list (xs ++ [v])) = cs') (k:K .none cs'):MethR P cs K .append (.ref l) [v]:=by subst e; exact .append h hl k
theorem SetR.list' {KK:List Cell -> Prop} {l:Nat} {xs:List V} {i:Int} {v:V} (h:cs[l]? = some (.list xs)) (hi:0 <= i /\ i < (xs.length:Int)) (e:cs.set l (.list (xs.set i.toNat v)) = cs') (k:KK cs'):SetR P cs KK (.ref l) (.int i) v:=by subst e; exact .list h hi k
end
noncomputable def mkS (l:List Nat):Str:=⟨l.toArray⟩
theorem zel (a b:List Nat):mkS a ++ mkS b = mkS (a ++ b):=congrArg Str.mk (List.append_toArray a b)
theorem zsd (a:List Nat):(mkS a).length = a.length:=rfl
theorem z29 (a:List Nat):(mkS a).cps.toList = a:=rfl
theorem zek {a b:List Nat} (h:mkS a = mkS b):a = b:=congrArg (fun s:Str=>s.cps.toList) h
theorem mkS_of (s:String):Str.ofString s = mkS (s.toList.map Char.toNat):=by rw [Str.ofString_eq_toList]; rfl
theorem zvx {n:Nat} (h:n <= 1000000):Builtin.Range.small 0 n 1 = true /\ (1:Int) ≠ 0:=by
 have hs:Builtin.Range.rangeSize 0 n 1 = n:=by
  unfold Builtin.Range.rangeSize
  by_cases h0:n = 0
  ·subst h0; rfl
  ·rw [if_pos (by decide),if_pos (by lia)]; lia
 have hf:∀ x:Int,0 <= x -> x <= 1000000 -> Builtin.Range.rangeFitsLong x = true:=fun x h0 h1=>by
  unfold Builtin.Range.rangeFitsLong
  simp
  lia
 refine ⟨?_,by decide⟩
 unfold Builtin.Range.small
 rw [hs,hf 0 (by decide) (by decide),hf n (Int.natCast_nonneg _) (Int.ofNat_le.mpr ‹_›),hf 1 (by decide) (by decide),if_pos (by decide),hf (n + (1 - 1)) (Int.natCast_nonneg _) (Int.ofNat_le.mpr ‹_›)]
 simp
noncomputable def upTo (j m:Nat):List V:=rangeFrom 1 m (j:Int)
theorem znf {n:Nat} (h:n <= 1000000):SrcR cs (.rng 0 n 1) (.items (upTo 0 n)):=by
 have hs:Builtin.Range.rangeSize 0 n 1 = n:=by
  unfold Builtin.Range.rangeSize
  by_cases h0:n = 0
  ·subst h0; rfl
  ·rw [if_pos (by decide),if_pos (by lia)]; lia
 have:=SrcR.rng (cs:=cs) (zvx h)
 unfold rangeV at this
 rw [hs] at this
 exact this
theorem zru {α:Type} (xs:List α) (a:Nat) (n:Nat):∀ b:Nat,a + n = b -> b <= xs.length -> ((List.range n).map fun k:Nat=>((a:Int) + 1 * (k:Int)).toNat).filterMap (xs[·]?) = (xs.take b).drop a:=by
 induction n with
 | zero=>intro b h hb; cases (h:a = b); exact (List.drop_of_length_le (List.length_take_le _ _)).symm
 | succ n ih =>
  intro b h hb
  subst h
  have hl:a + n < xs.length:=hb
  rw [List.range_succ,List.map_append,List.filterMap_append,ih (a + n) rfl (Nat.le_of_lt hl),List.map_cons,List.map_nil,show ((a:Int) + 1 * (n:Int)).toNat = a + n by rw [Int.one_mul]; rfl,List.filterMap_cons,List.filterMap_nil,List.getElem?_eq_getElem hl,
   show a + (n + 1) = a + n + 1 from rfl,List.take_add_one,List.getElem?_eq_getElem hl,List.drop_append_of_le_length (by rw [List.length_take,Nat.min_eq_left (Nat.le_of_lt hl)]; exact Nat.le_add_right _ _)]
  rfl
theorem zat (a b:Nat):sliceRange (a:Int) (b:Int) 1 = (List.range (b - a)).map fun k:Nat=>((a:Int) + 1 * (k:Int)).toNat:=by
 unfold sliceRange
 dsimp only
 congr 2
 by_cases h:a < b
 ·rw [if_pos (by decide),if_pos (Int.ofNat_lt.mpr ‹_›)]; lia
 ·rw [if_pos (by decide),if_neg (by lia)]; lia
theorem zau {α:Type} (xs:List α) (a b:Nat) (h:a <= b) (hb:b <= xs.length):(sliceRange (a:Int) (b:Int) 1).filterMap (xs[·]?) = (xs.take b).drop a:=by
 rw [zat]
 exact zru xs a (b - a) b (Nat.add_sub_cancel' h) hb
theorem clipN (p n:Nat):max (0:Int) (min (if (p:Int) < 0 then (p:Int) + (n:Int) else p) (n:Int)) = ((min p n:Nat):Int):=by
 rw [if_neg (Int.not_lt.mpr (Int.natCast_nonneg p))]
 rcases Nat.le_total p n with h | h
 ·rw [Nat.min_eq_left h,Int.min_eq_left (Int.ofNat_le.mpr h)]; exact Int.max_eq_right (Int.natCast_nonneg _)
 ·rw [Nat.min_eq_right h,Int.min_eq_right (Int.ofNat_le.mpr h)]; exact Int.max_eq_right (Int.natCast_nonneg _)
theorem zds {α:Type} (xs:List α) (q:Nat):sliceL xs none (some (q:Int)) none = xs.take q:=by
 refine Eq.trans (b:=(sliceRange ((0:Nat):Int) (max 0 (min (if (q:Int) < 0 then (q:Int) + (xs.length:Int) else q) (xs.length:Int))) 1).filterMap (xs[·]?)) rfl ?_
 rw [clipN,zau xs 0 _ (Nat.zero_le _) (Nat.min_le_right _ _),List.drop_zero,<- List.take_eq_take_min]
theorem zqx (X:List Nat) (p n:Nat) (hp:p < X.length):Txt.slice (mkS X) (some (p:Int)) (some ((p + n:Nat):Int)) = mkS ((X.drop p).take n):=by
 have e:Builtin.Str.strSliceIndices (some (p:Int)) (some ((p + n:Nat):Int)) 1 (mkS X).length = sliceRange (p:Int) ((min (p + n) X.length:Nat):Int) 1:=by
  refine Eq.trans (b:=sliceRange (max 0 (min (if (p:Int) < 0 then (p:Int) + (X.length:Int) else p) (X.length:Int))) (max 0 (min (if ((p + n:Nat):Int) < 0 then ((p + n:Nat):Int) + (X.length:Int) else ((p + n:Nat):Int)) (X.length:Int))) 1) rfl ?_
  rw [clipN,clipN,Nat.min_eq_left (Nat.le_of_lt hp)]
 unfold Txt.slice
 rw [e]
 by_cases hc:(min (p + n) X.length - p) = X.length
 ·have h0:p = 0:=Nat.eq_zero_of_not_pos fun hq=>Nat.lt_irrefl _ (hc ▸ Nat.lt_of_lt_of_le (Nat.sub_lt (Nat.lt_min.mpr ⟨Nat.lt_of_lt_of_le hq (Nat.le_add_right _ _),Nat.lt_trans hq hp⟩) hq) (Nat.min_le_right _ _))
  subst h0
  rw [Nat.zero_add,Nat.sub_zero] at hc
  rw [zat,List.length_map,List.length_range,Nat.zero_add,hc,List.drop_zero,List.take_of_length_le (hc ▸ Nat.min_le_left _ _)]
  exact if_pos (show (X.length - 0 == X.length) = true from beq_self_eq_true _)
 ·rw [if_neg (fun z=>hc (by rw [zat,List.length_map,List.length_range] at z; exact beq_iff_eq.mp z))]
  refine congrArg mkS (Eq.trans (b:=(sliceRange (p:Int) ((min (p + n) X.length:Nat):Int) 1).filterMap (X[·]?)) (congrArg (fun f=>List.filterMap f _) (funext fun i=>List.getElem?_toArray)) ?_)
  rw [zau X p _ (Nat.le_min.mpr ⟨Nat.le_add_right _ _,Nat.le_of_lt hp⟩) (Nat.min_le_right _ _),<- List.take_eq_take_min,List.drop_take,Nat.add_sub_cancel_left]
section
variable {c:Bool} {cs:List Cell} {K:KV}
theorem SliceR.str' {x z:Str} {l h:Option Int} (e:Txt.slice x l h = z) (k:K (.str z) cs):SliceR c cs K (.str x) l h none:=by subst e; exact .str k
theorem SliceR.lst' {o:V} {xs ys:List V} {l h s:Option Int} (ho:SeqR cs o false xs) (hs:s ≠ some 0) (e:sliceL xs l h s = ys) (k:listK c ys cs K):SliceR c cs K o l h s:=by subst e; exact .lst ho hs k
theorem CmpR.inD' {K:KB} {x:Str} {ks:List Str} {vs:List V} {b:Bool} (e:(dctGet x ks vs).isSome = b) (k:K b cs):CmpR cs K .In (.str x) (.dct ks vs):=by subst e; exact .inD k
end
end Mine
end
section
namespace Mine
open PySem PySem.SeqAt PySem.W PySem.Calls
section
variable {C:Cx} {Φ:Fm} {σ:St} {ns:List Str} {sl:Slots} {K:Frag}
theorem zof {h':Heap} {l:Nat} {c:Cell} {a:Addr} {o:Obj} {t:Nat} (H:HRel σ.g σ.s.heap) (hc:σ.g.cs[l]? = some c) (k:Heap.ExtBut (σ.g.ρ l) σ.s.heap h') (e:σ.s.heap.get? a = none) (e':h'.get? a = some o) (nc:∀ v,o.data ≠ .cell v) (c':CellIs (σ.g.freeze a o) h' (σ.g.ρ l) c) :
  Ext σ (σ.up h' t (σ.g.freeze a o)) noOwn:=by
 have hl:=zaa hc
 have L:=Le.freeze σ.g o (H.hf_none e)
 refine ⟨L,fun b o' q=>(zas q).elim (fun z=>.inr (z.1 ▸ e)) .inl,fun l' a b=>absurd b (Nat.not_lt.mpr a),fun b o' q n _=>⟨o',k _ _ (n l hl) q,rfl,fun _=>rfl⟩,fun b o' q z=>z.elim,⟨fun b o' q=>?_,fun l' c1 q=>?_,fun l' hl'=>(if_neg (H.ne hl' e)).trans (H.ap l' hl'),H.inj,fun b o' q=>(zas q).elim (fun z=>z.2 ▸ nc) (H.nofr b o'),fun b z=>?_⟩,rfl⟩
 ·rcases zas q with ⟨rfl,rfl⟩ | q
  ·exact e'
  ·exact k _ _ (fun z=>by subst z; rw [H.ap l hl] at q; cases q) (H.fz b o' q)
 ·by_cases z:l = l'
  ·subst z; cases hc.symm.trans q; exact c'
  ·exact (H.ce l' c1 q).mono L fun o' y=>k _ _ (fun w=>z (H.inj l l' hl (zaa q) w.symm)) y
 ·obtain ⟨⟨o1,es,ep,q,d⟩,r1,r2⟩:=H.lv b z
  have ne:¬ b = a:=fun y=>H.nfl e (y ▸ z)
  exact ⟨⟨o1,es,ep,k _ _ (fun y=>r1 l hl y.symm) q,d⟩,r1,(if_neg ne).trans r2⟩
structure TabFact (C:Cx) (c Pt:Addr):Prop where
 at_:∃ o vs file tf flags tg inF text tt,C.base c = some o /\ o.cls = .type "code" /\ o.data = .fields vs /\ vs[11]? = some (.ref Pt) /\ vs.getD 11 .none = .ref Pt /\ vs.getD 18 .none = .str file tf /\
  vs.getD 7 .none = .int flags tg /\ vs.getD 9 .none = .bool inF /\ vs.getD 10 .none = .int text tt /\ c ≠ Pt
theorem TabFact.hd {c Pt:Addr} (T:TabFact C c Pt) (H:HRel σ.g σ.s.heap) (B:Base C σ.g):CodeHd σ.s.heap c Pt:=by
 obtain ⟨o,vs,file,tf,flags,tg,inF,text,tt,e,r⟩:=T.at_
 exact ⟨o,vs,file,tf,flags,tg,inF,text,tt,H.fz _ _ (B.hf _ _ e),r⟩
noncomputable abbrev Cx.more (C:Cx) (b:Addr -> Option Obj):Cx:={ C with base:=b }
structure DefAt (C:Cx) (Φ:Fm) (σ σ':St) (scope:Scope) (body:List Stmt) (name:Str) (params:Arguments) (f:Addr) (fd:FuncData) (base':Addr -> Option Obj):Prop where
 more:∀ a o,C.base a = some o -> base' a = some o
 B:Base (C.more base') σ'.g
 lim:Lim0 (C.more base')
 Fa:FnAt0 (C.more base') f scope body fd
 clo:fd.closure = clos Φ.env scope.names []
 fd_:∃ c' doc pm ctv,fd = fnX name (Φ.env.qual ++ name) params body scope (clos Φ.env scope.names []) .none .none doc pm none (.ref c') ctv
theorem def_ok (W:W0 C K) (S:Std C Φ (look ns sl) σ) {name:Str} {params:Arguments} {body:List Stmt} {scope:Scope} {pos:Pos} {c Pt:Addr} {lt i:Nat}
  (hd0:params.defaults = []) (hk0:params.kw_defaults = []) (ha:annTrees params none Φ.env = []) (hcode:Φ.env.code = .ref c) (Tb:TabFact C c Pt) (hct:σ.g.cs[lt]? = some (.tab Pt pos (Φ.env.qual ++ name)))
  (hfree:∀ x ∈ scope.names,x.2 = .free -> ∃ c,Φ.env.cells.lookup x.1 = some c) (hgP:mainGlobals ≠ Pt) (hkn:Φ.env.kindOf name = some .cell) (htg:tgt1 Φ.env.scope ns name i = true) (h1:scope.isCoroutine = false) (h2:scope.isGenerator = false) (h3:scope.kind = .function)
  {Q:Flow -> Shared -> Prop} {E:Value -> Shared -> Prop}
  (k:∀ f fd base' σ',Ext σ σ' (ownOf Φ.env) -> σ'.g.cs = σ.g.cs -> Std C Φ (look ns (sl.set i (some (.adr f)))) σ' -> DefAt C Φ σ σ' scope body name params f fd base' -> Q .next σ'.s) :
  wpAny C.M Φ.A (exec (.FunctionDef name params body [] none [] scope none name pos) Φ.env) Q E σ.s:=by
 have hq:qualnameIn Φ.env name name = Φ.env.qual ++ name:=by
  unfold qualnameIn
  rw [hkn]; rfl
 have hlt:=zaa hct
 have hP:σ.g.ρ lt = Pt:=(S.H.ce _ _ hct).1
 obtain ⟨og,mg,g1,g2,g3⟩:=W.glo
 obtain ⟨bm,ob,b1,b2,b3,b4,b5,b6⟩:=W.bmain
 have hgl:=S.H.fz _ _ (S.B.hf _ _ g1)
 have hns:=g2 _ hgl
 have hbm:=S.H.fz _ _ (S.B.hf _ _ b3)
 have hbmG:bm ≠ mainGlobals:=fun q=>by
  obtain ⟨o,es,ep,e,hd,_⟩:=hns
  rw [q,e] at hbm; cases hbm; rw [hd] at b6; cases b6
 have hapP:σ.g.hf Pt = none:=by rw [<- hP]; exact S.H.ap lt hlt
 have hbmP:bm ≠ Pt:=fun q=>by
  have:=S.B.hf _ _ b3
  rw [q,hapP] at this; cases this
 have hbat:σ.s.heap.BuiltinsAt mg Pt:=⟨bm,ob,g3 _ _ b1,b2,hbmG,hbmP,hbm,b4,b5,b6⟩
 have hcl:=zd4 (scope:=scope) (env:=Φ.env) hfree
 have hCd:=Tb.hd S.H S.B
 obtain ⟨_,ps,p1,p2,p3⟩:=S.H.ce _ _ hct
 rw [hP] at p1
 -- what follows once the function stands
 have fin:∀ (c':Addr) (oc:Obj) (vs:Array Value) (t:Tok) (doc ctv:Value) (σ':St),Ext σ σ' noOwn -> σ'.g.cs = σ.g.cs -> σ'.g.hf c' = some oc -> oc.data = .fields vs -> vs[1]? = some (.str (Φ.env.qual ++ name) t) -> σ.s.heap.objs.size <= σ'.s.heap.objs.size ->
   wpAny C.M Φ.A (storeName Φ.env name (.ref σ'.s.heap.objs.size)) (fun _ s''=>Q .next s'') E { σ'.s with heap:=σ'.s.heap.push { cls:=.type "function",data:=.func (fnX name (Φ.env.qual ++ name) params body scope (clos Φ.env scope.names []) .none .none doc ((mg "__name__").getD .none) none (.ref c') ctv) } }:=by
  intro c' oc vs t doc ctv σ' X ecs hc hv1 hv2 hsz
  let fd:=fnX name (Φ.env.qual ++ name) params body scope (clos Φ.env scope.names []) .none .none doc ((mg "__name__").getD .none) none (.ref c') ctv
  let fo:Obj:={ cls:=.type "function",data:=.func fd }
  let f:=σ'.s.heap.objs.size
  have nf:σ'.s.heap.get? f = none:=get?_size _
  let σ2:=σ'.up (σ'.s.heap.push fo) σ'.s.toks (σ'.g.freeze f fo)
  have X2:Ext σ' σ2 noOwn:=zf9 (o:=fo) X.H (fun v e=>nomatch e) rfl _
  have S2:Std C Φ (look ns sl) σ2:=S.ext (X.trans X2)
  refine store1 (σ:=σ2) S2 htg (.adr f) (ow:=ownOf Φ.env) (.inl rfl) (fun c hk hc=>.inr ⟨name,hk,hc⟩) _ _ fun σ4 X4 c4 S4=>?_
  have hfc:c' ≠ f:=fun q=>by
   have:=X.H.fz _ _ hc
   rw [q,nf] at this; cases this
  have hcf:σ4.g.hf c' = some oc:=X4.le.hf _ _ ((if_neg hfc).trans hc)
  have hff:σ4.g.hf f = some fo:=X4.le.hf _ _ (zal ..)
  let base':Addr -> Option Obj:=fun a=>if a = f then some fo else if a = c' then some oc else C.base a
  have bf:base' f = some fo:=if_pos rfl
  have bc:base' c' = some oc:=(if_neg hfc).trans (if_pos rfl)
  have more:∀ a o,C.base a = some o -> base' a = some o:=fun a o e=>by
   have e2:=S4.B.hf _ _ e
   by_cases q1:a = f
   ·subst q1; exact bf.trans (hff.symm.trans e2)
   ·by_cases q2:a = c'
    ·subst q2; exact bc.trans (hcf.symm.trans e2)
    ·exact (if_neg q1).trans ((if_neg q2).trans e)
  have B':Base (C.more base') σ4.g:=⟨S4.B.pr,fun a o e=>by
   by_cases q1:a = f
   ·subst q1; exact hff.trans (bf.symm.trans e)
   ·by_cases q2:a = c'
    ·subst q2; exact hcf.trans (bc.symm.trans e)
    ·exact S4.B.hf _ _ ((if_neg q2).symm.trans ((if_neg q1).symm.trans e)),S4.B.fl⟩
  obtain ⟨o,es,ep,mc,a1,a2,a3,a4⟩:=W.lim
  exact k f fd base' σ4 (((X.trans X2).mono fun _ z=>z.elim).trans X4) (c4.trans ecs) S4 ⟨more,B',⟨o,es,ep,mc,more _ _ a1,a2,a3,a4⟩,⟨⟨fo,bf,rfl⟩,rfl,rfl,rfl,rfl,h1,h2,h3,⟨c',oc,vs,t,rfl,bc,hv1,hv2⟩⟩,rfl,_,_,_,_,rfl⟩
 refine nestDef_K hd0 hk0 ha ?_
 rw [hq]
 rcases p3 with p3 | ⟨c',oc,vs,t,p3,p4,p5,p6⟩
 ·refine makeFunction_K (mg:=mg) hcl S.F.glo hns hcode hCd p1 p2 p3 hgP hbat fun c' ctv doc h' tk hx hge hlt2 hrec htb=>?_
  obtain ⟨c2,oc,vs,t,e2,hoc,hd,hv⟩:=hrec
  cases e2
  have nc':σ.s.heap.get? c' = none:=get?_ge hge
  have X':Ext σ (σ.up h' tk (σ.g.freeze c' oc)) noOwn:=by
   refine zof S.H hct (by rw [hP]; exact hx) nc' hoc (by rw [hd]; exact fun _ e=>nomatch e) ⟨hP,_,by rw [hP]; exact htb,?_,.inr ⟨c',oc,vs,t,?_,zal ..,hd,hv⟩⟩
   ·rw [Array.toList_append]; exact TriplesOk_snoc _ _ _ _ p2
   ·rw [Array.toList_append]; exact codeAmong_snoc _ p2 p3
  exact fin c' oc vs t doc ctv (σ.up h' tk (σ.g.freeze c' oc)) X' rfl (zal ..) hd hv (Nat.le_of_lt (Nat.lt_of_le_of_lt hge hlt2))
 ·refine makeFunction_hit (mg:=mg) hcl S.F.glo hns hcode hCd p1 p2 p3 hbat fun ctv doc h' tk hk hsz=>?_
  exact fin c' oc vs t doc ctv (σ.up h' tk σ.g) (Ext.keeps S.H hk) rfl p4 p5 p6 hsz
end
end Mine
end
section
namespace Mine
open PySem PySem.SeqAt
structure Shr (g g2 g3:Gh):Prop where
 n:g.cs.length <= g3.cs.length
 ρ:g3.ρ = g2.ρ
 hf:∀ a o,g2.hf a = some o -> g3.hf a = some o
 pr:g3.pr = g2.pr
theorem VRel.shrink {g g2 g3:Gh} (L:Shr g g2 g3) {v:V} {w0:Value} (r0:VRel g v w0):∀ {w:Value},VRel g2 v w -> VRel g3 v w :=
 VRel.rec (motive_1:=fun v w0 _=>∀ {w:Value},VRel g2 v w -> VRel g3 v w) (motive_2:=fun xs ws0 _=>∀ {ws:List Value},VRels g2 xs ws -> VRels g3 xs ws)
  (fun r=>by cases r.inv; exact .none) (fun b _ r=>by cases r.inv; exact .bool b) (fun i _ _ r=>by obtain ⟨t,rfl⟩:=r.inv; exact .int i t) (fun x _ _ _ r=>by obtain ⟨t,rfl,h⟩:=r.inv; exact .str x t h)
  (fun i _ r=>by cases r.inv; exact .bi i) (fun i _ r=>by cases r.inv; exact .typ i) (fun a _ r=>by cases r.inv; exact .adr a) (fun l h _ r=>by obtain ⟨rfl,_⟩:=r.inv; rw [<- L.ρ]; exact .ref l (Nat.lt_of_lt_of_le h L.n))
  (fun _ _ _ ih _ r=>by obtain ⟨a,vs,ep,rfl,h,r,hl⟩:=r.inv; exact .tup (L.hf _ _ h) (ih r) hl) (fun _ _ _ ih _ r=>by obtain ⟨a,vs,ep,rfl,h,r,hl⟩:=r.inv; exact .lst (L.hf _ _ h) (ih r) hl)
  (fun _ _ r=>by obtain ⟨_,_,_,_,rfl,h⟩:=r.inv; exact .rng (L.hf _ _ h)) (fun _ _ _ _ ih _ r=>by obtain ⟨a,es,ep,rfl,h,k,r,hs⟩:=r.inv; exact .dct (L.hf _ _ h) (L.pr.symm ▸ k) (ih r) hs) (fun _ _ _ _ ih _ r=>by obtain ⟨a,es,ep,rfl,h,k,r,hs⟩:=r.inv; exact .dcti (L.hf _ _ h) k (ih r) hs)
  (fun r=>by cases r.nil_of; exact .nil) (fun _ _ ih ihs _ r=>by obtain ⟨y,r',rfl,h,r⟩:=r.cons_of; exact .cons (ih h) (ihs r)) r0
theorem vshrink {g g2 g3:Gh} (L:Shr g g2 g3) {vs:List V} {ws0:List Value} (r0:VRels g vs ws0):∀ {ws:List Value},VRels g2 vs ws -> VRels g3 vs ws:=by
 induction r0 with
 | nil=>intro ws r; cases r.nil_of; exact .nil
 | cons h _ ih=>intro ws r; obtain ⟨y,r',rfl,h2,r⟩:=r.cons_of; exact .cons (h.shrink L h2) (ih r)
theorem CellIs.shrink {g g2 g3:Gh} (L:Shr g g2 g3) {h0 h:Heap} {a b:Addr} {c:Cell} (q0:CellIs g h0 a c) (q:CellIs g2 h b c):CellIs g3 h b c:=by
 cases c with
 | list xs=>obtain ⟨_,_,_,r,_⟩:=q0; obtain ⟨vs,ep,q,r2,z⟩:=q; exact ⟨vs,ep,q,vshrink L r r2,z⟩
 | inst c d=>exact ⟨Nat.lt_of_lt_of_le q0.1 L.n,by rw [L.ρ]; exact q.2⟩
 | attr v =>
  cases v with
  | none=>exact q
  | some v=>obtain ⟨_,_,_,_,_,_,r⟩:=q0; obtain ⟨hh,tk,v',ep,sl,q,r2⟩:=q; exact ⟨hh,tk,v',ep,sl,q,r.shrink L r2⟩
 | tab pt pos qual =>
  obtain ⟨pe,ps,q,tr,r⟩:=q
  refine ⟨pe,ps,q,tr,r.imp id fun r=>?_⟩
  obtain ⟨c,oc,vs,t,p1,p2,p3⟩:=r
  exact ⟨c,oc,vs,t,p1,L.hf _ _ p2,p3⟩
section
variable {σ σ2:St} {xs:List Cell}
theorem zpt (H0:HRel σ.g σ.s.heap) (X:Ext σ σ2 noOwn) (e:σ2.g.cs = σ.g.cs ++ xs):Ext σ ⟨σ2.s,{ σ2.g with cs:=σ.g.cs }⟩ noOwn:=by
 have hlt:∀ {l},l < σ.g.cs.length -> l < σ2.g.cs.length:=fun h=>by rw [e,List.length_append]; exact Nat.lt_of_lt_of_le h (Nat.le_add_right _ _)
 have Sh:Shr σ.g σ2.g { σ2.g with cs:=σ.g.cs }:=⟨Nat.le_refl _,rfl,fun _ _ q=>q,rfl⟩
 exact ⟨⟨Nat.le_refl _,X.le.ρ,X.le.hf,X.le.pr,X.le.fl⟩,X.fresh,fun l a b=>absurd b (Nat.not_lt.mpr a),X.keep,X.ownk,
  ⟨X.H.fz,fun l c q=>(H0.ce l c q).shrink Sh (X.H.ce l c (by rw [e,List.getElem?_append_left (zaa q)]; exact q)),fun l hl=>X.H.ap l (hlt hl),fun l l' a b q=>X.H.inj l l' (hlt a) (hlt b) q,X.H.nofr,fun a z=>⟨(X.H.lv a z).1,fun l hl=>(X.H.lv a z).2.1 l (hlt hl),(X.H.lv a z).2.2⟩⟩,X.sh⟩
theorem zmj {zs:List V} (H0:HRel σ.g σ.s.heap) (X:Ext σ σ2 noOwn) (e:σ2.g.cs = σ.g.cs ++ [.list zs]) (hp:∀ {g2 g3:Gh} {ws:List Value},VRels g2 zs ws -> VRels g3 zs ws) :
  ∃ σ3,Ext σ σ3 noOwn /\ σ3.s = σ2.s /\ σ3.g.cs = σ.g.cs /\ VRel σ3.g (.lst zs) (.ref (σ2.g.ρ σ.g.cs.length)):=by
 have hn:σ2.g.cs[σ.g.cs.length]? = some (.list zs):=by rw [e,List.getElem?_append_right (Nat.le_refl _),Nat.sub_self]; rfl
 obtain ⟨vs,ep,e1,r,hlim⟩:=X.H.ce _ _ hn
 have hl2:=zaa hn
 have hlt:∀ {l},l < σ.g.cs.length -> l < σ2.g.cs.length:=fun h=>Nat.lt_trans h hl2
 have hap:=X.H.ap _ hl2
 have fr:σ.s.heap.get? (σ2.g.ρ σ.g.cs.length) = none:=X.cfresh _ (Nat.le_refl _) hl2
 have neD:∀ l,l < σ.g.cs.length -> σ2.g.ρ l ≠ σ2.g.ρ σ.g.cs.length:=fun l hl q=>absurd (X.H.inj l _ (hlt hl) hl2 q) (Nat.ne_of_lt hl)
 let g3:Gh:={ (σ2.g.freeze (σ2.g.ρ σ.g.cs.length) (listO vs ep)) with cs:=σ.g.cs }
 have up:=(Le.freeze σ2.g (listO vs ep) hap).hf
 have Sh:Shr σ.g σ2.g g3:=⟨Nat.le_refl _,rfl,up,rfl⟩
 refine ⟨⟨σ2.s,g3⟩,⟨⟨Nat.le_refl _,X.le.ρ,fun a o q=>up _ _ (X.le.hf a o q),X.le.pr,X.le.fl⟩,fun a o q=>(zas q).elim (fun z=>.inr (z.1 ▸ fr)) (X.fresh a o),fun l a b=>absurd b (Nat.not_lt.mpr a),X.keep,X.ownk,
  ⟨fun b o q=>(zas q).elim (fun z=>z.1 ▸ z.2 ▸ e1) (X.H.fz b o),fun l c q=>(H0.ce l c q).shrink Sh (X.H.ce l c (by rw [e,List.getElem?_append_left (zaa q)]; exact q)),fun l hl=>(if_neg (neD l hl)).trans (X.H.ap l (hlt hl)),fun l l' a b q=>X.H.inj l l' (hlt a) (hlt b) q,
   fun b o q=>(zas q).elim (fun z=>z.2 ▸ nofrL vs ep) (X.H.nofr b o),fun a z=>⟨(X.H.lv a z).1,fun l hl=>(X.H.lv a z).2.1 l (hlt hl),(if_neg fun q=>(X.H.lv a z).2.1 _ hl2 q.symm).trans (X.H.lv a z).2.2⟩⟩,X.sh⟩,rfl,rfl,?_⟩
 exact .lst (zal ..) (hp r) hlim
end
noncomputable def plainD (v:V):Prop:=∀ {g g':Gh} {w:Value},VRel g v w -> VRel g' v w
theorem zrv (i:Int):plainD (.int i):=fun r=>by obtain ⟨t,rfl⟩:=r.inv; exact .int _ _
theorem zg4 (ns:List Int):∀ {g g':Gh} {ws:List Value},VRels g (ns.map .int) ws -> VRels g' (ns.map .int) ws:=by
 induction ns with
 | nil=>intro g g' ws r; cases r.nil_of; exact .nil
 | cons i ns ih=>intro g g' ws r; obtain ⟨w,ws',rfl,h,r⟩:=r.cons_of; exact .cons (zrv i h) (ih r)
section
variable {C:Cx} {A:Around} {σ:St} {f:Value} {args':List Value} {kws':List (Str × Value)} {K:KV}
theorem CRuns.dropP {i j:Int} (h:CRuns C A σ f args' kws' fun v c=>v = .tup [.int i,.int j] /\ (∃ xs,c = σ.g.cs ++ xs) /\ K (.tup [.int i,.int j]) σ.g.cs) (H:HRel σ.g σ.s.heap):CRuns C A σ f args' kws' K:=fun R k =>
 h R fun v a σ2 X r q=>by
  obtain ⟨rfl,⟨xs,e⟩,q⟩:=q
  obtain ⟨b,vs,ep,rfl,h,r,hl⟩:=r.inv
  exact k (.tup [.int i,.int j]) _ ⟨σ2.s,{ σ2.g with cs:=σ.g.cs }⟩ (zpt H X e) (.tup (show Gh.hf { σ2.g with cs:=σ.g.cs } b = _ from h) (zg4 [i,j] r) hl) q
theorem CRuns.dropL {ns:List Int} (h:CRuns C A σ f args' kws' fun v c=>v = .ref σ.g.cs.length /\ c = σ.g.cs ++ [.list (ns.map .int)] /\ K (.lst (ns.map .int)) σ.g.cs) (H:HRel σ.g σ.s.heap):CRuns C A σ f args' kws' K:=fun R k =>
 h R fun v a σ2 X r q=>by
  obtain ⟨rfl,e,q⟩:=q
  obtain ⟨rfl,_⟩:=r.inv
  obtain ⟨σ3,X3,e3,ec,r3⟩:=zmj H X e (zg4 ns)
  have:=k _ _ σ3 X3 r3 (ec ▸ q)
  rwa [e3] at this
end
end Mine
end
section
namespace Mine
open PySem PySem.SeqAt PySem.W PySem.Calls
section
variable {C:Cx} {Φ:Fm} {σ:St} {ns:List Str} {K:KV}
theorem CloOk.ext {σ':St} {sc:Scope} {clo:List (Str × Addr)} {fs:List Str} {fl:Slots} {own:Addr -> Prop} (Q:CloOk σ sc clo fs fl) (H:HRel σ.g σ.s.heap) (x:Ext σ σ' own) (no:∀ y c,clo.lookup y = some c -> ¬ own c):CloOk σ' sc clo fs fl where
 free y hy:=by
  obtain ⟨c,w,e,ic,r⟩:=Q.free y hy
  exact ⟨c,w,e,x.isCell ic (IsCell_ne_ρ H ic) (no y c e),fun v hv=>(r v hv).imp fun _ h=>⟨h.1,h.2.mono x.le⟩⟩
 live y a e:=(Q.live y a e).imp fun _ ic=>x.isCell ic (IsCell_ne_ρ H ic) (no y a e)
 inj:=Q.inj
 sep:=Q.sep
theorem z0s {L:Str -> Option V} {scope:Scope} {fs:List Str} {fl:Slots} (S:Std C Φ L σ) (hf:∀ x,(x,NameKind.free) ∈ scope.names -> Φ.env.kindOf x = some .cell \/ Φ.env.kindOf x = some .free) (hl:∀ x v,look fs fl x = some v -> L x = some v) (hs:∀ x,(x,NameKind.free) ∈ scope.names -> (x,NameKind.cell) ∉ scope.names) :
  CloOk σ scope (clos Φ.env scope.names []) fs fl:=by
 have hfree:∀ y ∈ scope.names,y.2 = .free -> ∃ c,Φ.env.cells.lookup y.1 = some c:=fun y hy hk=>by
  obtain ⟨n,k⟩:=y
  cases (hk:k = _)
  obtain ⟨c,_,e,_⟩:=S.F.cell n (hf n hy)
  exact ⟨c,e⟩
 have lk:∀ x,(clos Φ.env scope.names []).lookup x = if (x,NameKind.free) ∈ scope.names then Φ.env.cells.lookup x else none:=fun x=>zgc scope.names [] x hfree
 have lk2:∀ x a,(clos Φ.env scope.names []).lookup x = some a -> (x,NameKind.free) ∈ scope.names /\ Φ.env.cells.lookup x = some a:=fun x a e=>by
  rw [lk] at e
  by_cases q:(x,NameKind.free) ∈ scope.names
  ·rw [if_pos q] at e; exact ⟨q,e⟩
  ·rw [if_neg q] at e; cases e
 refine ⟨fun x hx=>?_,fun x a e=>?_,fun x y a hx hy=>S.F.capart x y a (hf x (lk2 x a hx).1) (hf y (lk2 y a hy).1) (lk2 x a hx).2 (lk2 y a hy).2,hs⟩
 ·obtain ⟨c,w',e,ic,r⟩:=S.F.cell x (hf x hx)
  exact ⟨c,w',by rw [lk,if_pos hx]; exact e,ic,fun v hv=>r v (hl x v hv)⟩
 ·obtain ⟨hx,e⟩:=lk2 x a e
  obtain ⟨c,w',e2,ic,_⟩:=S.F.cell x (hf x hx)
  cases e.symm.trans e2
  exact ⟨w',ic⟩
theorem zhf {L:Str -> Option V} {sc:Scope} {clo:List (Str × Addr)} {fs:List Str} {fl:Slots} (S:Std C Φ L σ) (Q:CloOk σ sc clo fs fl) (hk:(Φ.env.scope.names.all fun p=>!(p.2 == .cell)) = true) (y:Str) (c:Addr) (e:clo.lookup y = some c):¬ ownOf Φ.env c:=by
 obtain ⟨w',ic⟩:=Q.live y c e
 rintro (q | ⟨x,hx,_⟩)
 ·obtain ⟨m,hn,_⟩:=S.F.ns
  exact zcw ic hn q
 ·have:=List.all_eq_true.mp hk _ (zbi hx)
  cases this
theorem zc1 {x:Str} {i:Nat} {fp p:Pos} {es:List ED} {f:Addr} (w:(ED.loc x i fp).wf Φ.env.scope ns = true) (O:∀ e ∈ es,EOk C Φ ns e) {sl:Slots} (S:Std C Φ (look ns sl) σ) {T:List V -> List Cell -> Prop} (hx:atS sl i (· = .adr f)) (q:vals es sl σ.g.cs T)
  (hc:∀ vs a σ',Ext σ σ' noOwn -> VRels σ'.g vs a -> T vs σ'.g.cs -> CallsOk C Φ.A σ' K (.ref f) a []):Runs C Φ.A σ noOwn (eval (.Call (.Name x fp) (es.map ED.ast) [] p) Φ.env) VR K:=fun Q E k=>by
 have q0:(ED.loc x i fp).val sl σ.g.cs fun fv cs=>fv = .adr f /\ vals es sl cs T:=by
  show Option.rec (motive:=fun _=>Prop) False (fun v=>v = .adr f /\ vals es sl σ.g.cs T) (sl[i]?).join
  have hx':Option.rec (motive:=fun _=>Prop) False (· = V.adr f) (sl[i]?).join:=hx
  cases h:(sl[i]?).join with
  | none=>rw [h] at hx'; exact hx'.elim
  | some v=>rw [h] at hx'; exact ⟨hx',q⟩
 refine wpAny_bind ((zfa x i fp Φ ns w).val sl σ _ S q0 _ _ fun fv f' σ1 X1 rf q1=>?_)
 obtain ⟨rfl,q1⟩:=q1
 cases rf.inv
 refine zbt (zcz p O).1 rfl (zjh p (es:=es) (kv:=[]) [] rfl O (fun _ z=>nomatch z) (S.ext X1) (T:=fun vs _ cs=>T vs cs) q1 fun vs us a σ2 X2 ra q2=>?_)
 obtain ⟨kp,run⟩:=hc vs a.pos σ2 (X1.trans X2) ra.pos q2
 refine ⟨kp,?_⟩
 rw [show a.kw = [] from ra.kw.nil_of]
 exact run Q E fun v x σ3 X3 r q=>k v x σ3 ((X1.trans X2).trans X3) r q
theorem zbj (ds:List SD) {rest:List Stmt} {K1 K2:KF}:(∀ d ∈ ds,SOk C Φ ns d) -> ∀ sl σ,Std C Φ (look ns sl) σ -> bden ds sl σ.g.cs K1 -> (∀ fl sl cs,K1 fl sl cs -> fl ≠ .next -> K2 fl sl cs) -> (∀ sl' σ',Ext σ σ' (ownOf Φ.env) -> Std C Φ (look ns sl') σ' -> K1 .next sl' σ'.g.cs -> XRuns C Φ ns σ' (execs rest Φ.env) K2) ->
  XRuns C Φ ns σ (execs (ds.map SD.ast ++ rest) Φ.env) K2:=by
 induction ds with
 | nil=>exact fun _ sl σ S q _ h Q E k=>h sl σ (Ext.refl S.H _) S q Q E k
 | cons d ds ih =>
  intro O sl σ S q hx h Q E k
  refine wpAny_execs_cons (O d List.mem_cons_self sl σ _ S q _ _ fun fl sl1 f σ1 X1 r1 S1 q1=>?_)
  cases r1 with
  | next=>exact ih (fun x hx=>O x (List.mem_cons_of_mem _ hx)) sl1 σ1 S1 q1 hx (fun sl' σ' X' S' q'=>h sl' σ' (X1.trans X') S' q') Q E fun fl sl2 f σ2 X2 r2 S2 q2=>k fl sl2 f σ2 (X1.trans X2) r2 S2 q2
  | brk=>exact k .brk sl1 .brk σ1 X1 .brk S1 (hx _ _ _ q1 fun e=>nomatch e)
  | cont=>exact k .cont sl1 .cont σ1 X1 .cont S1 (hx _ _ _ q1 fun e=>nomatch e)
  | ret r=>exact k (.ret _) sl1 (.ret _) σ1 X1 (.ret r) S1 (hx _ _ _ q1 fun e=>nomatch e)
theorem zga {e:Expr} {p:Pos} {rest:List Stmt} {sl:Slots} {K1:KV} {K2:KF} (S:Std C Φ (look ns sl) σ) (hs:swapsWith e none p.line Φ.env = pure false) (he:Runs C Φ.A σ noOwn (eval e Φ.env) VR K1) (h:∀ v σ',Ext σ σ' noOwn -> Std C Φ (look ns sl) σ' -> K1 v σ'.g.cs -> XRuns C Φ ns σ' (execs rest Φ.env) K2) :
  XRuns C Φ ns σ (execs (.Expr e p :: rest) Φ.env) K2:=fun Q E k=>by
 refine wpAny_execs_cons (wpAny_Expr_any (he _ _ fun v a σ1 X1 r q=>?_) ?_ hs)
 ·exact h v σ1 X1 (S.ext X1) q Q E fun fl sl2 f σ2 X2 r2 S2 q2=>k fl sl2 f σ2 ((toOwn X1).trans X2) r2 S2 q2
 ·unfold interactive; rw [S.F.kind]; rfl
theorem zty {sl:Slots} {K2:KF} (S:Std C Φ (look ns sl) σ) (q:K2 .next sl σ.g.cs):XRuns C Φ ns σ (execs [] Φ.env) K2:=fun Q E k=>wpAny_execs_nil (k .next sl .next σ (Ext.refl S.H _) .next S q)
end
end Mine
end
section
namespace Mine
open PySem PySem.SeqAt PySem.W
section
variable {C:Cx} {A:Around} {σ:St} {sc:Scope} {ns:List Str} {K:KV}
theorem z32 (L:Lim0 C) {f:Addr} {body:List Stmt} {fd:FuncData} (Fa:FnAt0 C f sc body fd) (O:AOk A (C.d + 1)) (H:HRel σ.g σ.s.heap) (B:Base C σ.g) {ps:List (Str × Nat)} {vs:List V} (hps:ps.length = vs.length)
  {args':List Value} {kws':List (Str × Value)} {sl:Slots} (hb:∀ (Q:List (Str × Value) -> Shared -> Prop) (E:Value -> Shared -> Prop),(∀ bs' σ',Ext σ σ' noOwn -> σ'.g.cs = σ.g.cs -> KRel σ'.g ((ps.map (·.1)).zip vs) bs' -> CloOk σ' sc fd.closure ns sl -> Q bs' σ'.s) -> wpAny C.M A.in1 (bindArgs fd ⟨args',kws'⟩) Q E σ.s)
  (hw:ps.all (fun p=>tgt1 sc (ownNs sc ++ ns) p.1 p.2) = true)
  (hbody:∀ (Φ:Fm) (σ3:St),Φ.env.scope = sc -> InFn C A σ fd Φ σ3 -> Std C Φ (look (ownNs sc ++ ns) (bindP ps vs (List.replicate (ownNs sc).length none ++ sl))) σ3 ->
   XRuns C Φ (ownNs sc ++ ns) σ3 (execs body Φ.env) fun fl _ cs=>K (retOf fl) cs):CRuns C A σ (.ref f) args' kws' K:=fun R k=>by
 refine ztm L Fa O H B hps hb hw fun Φ σ3 hsc I S3=>hbody Φ σ3 hsc I S3 _ _ fun fl sl' fv σ4 X4 r4 S4 q4=>?_
 have X14:=(I.X.trans X4).drop_own I.own0
 cases r4 with
 | ret rr=>exact k _ _ σ4 X14 rr q4
 | next=>exact k .none .none σ4 X14 .none q4
 | brk=>exact k .none .none σ4 X14 .none q4
 | cont=>exact k .none .none σ4 X14 .none q4
theorem z1q (B:Base C σ.g) (H:HRel σ.g σ.s.heap) (lo:∃ o,C.base cStatics = some o) {D:Addr} (h:σ.s.heap.objs.size <= D):(D == sysModules) = false:=by
 obtain ⟨o,e⟩:=lo
 have h1:cStatics < σ.s.heap.objs.size:=Heap.lt_size (H.fz _ _ (B.hf _ _ e))
 exact beq_false_of_ne (Nat.ne_of_gt (Nat.lt_trans (by decide) (Nat.lt_of_lt_of_le h1 h)))
noncomputable abbrev BdW (K:Frag) (a:Addr) (n m l p:Str):Prop:=∀ v u t:Value,(fdO K a).map (fun fd=>bindArgs fd ⟨[v,u,t],[]⟩) = some (Sem.alloc { cls:=.type "dict",data:=.dict #[] } fun d=>.pure [(n,v),(m,u),(l,t),(p,.ref d)])
theorem bindsW {n m l p:Str} {a:Addr} {KK:Frag} {fd:FuncData} (hf:fdO KK a = some fd) (Bd:BdW KK a n m l p) (H:HRel σ.g σ.s.heap) (B:Base C σ.g) (lo:∃ o,C.base cStatics = some o) {x y z:V} {x' y' z':Value} (rx:VRel σ.g x x') (ry:VRel σ.g y y') (rz:VRel σ.g z z') {Q:List (Str × Value) -> Shared -> Prop} {E:Value -> Shared -> Prop}
  (k:∀ bs' σ',Ext σ σ' noOwn -> σ'.g.cs = σ.g.cs -> KRel σ'.g [(n,x),(m,y),(l,z),(p,.dct [] [])] bs' -> Q bs' σ'.s):wpAny C.M A (bindArgs fd ⟨[x',y',z'],[]⟩) Q E σ.s:=by
 rw [zak hf (Bd x' y' z')]
 have X:Ext σ (σ.up (σ.s.heap.push (dictO [] 0)) σ.s.toks (σ.g.freeze σ.s.heap.objs.size (dictO [] 0))) noOwn:=Ext.freeze H (fun a o e=>Heap.get?_push_of_some _ e) (get?_size _) (Heap.get?_push_size _ rfl) fun _ e=>nomatch e
 show wpAny C.M A (alloc { cls:=.type "dict",data:=.dict #[] } >>= fun d=>pure [(n,x'),(m,y'),(l,z'),(p,Value.ref d)]) Q E σ.s
 refine wpAny_bind (wpAny_alloc (wpAny_pure ?_))
 exact k _ _ X rfl (.cons ⟨rfl,rx.mono X.le⟩ (.cons ⟨rfl,ry.mono X.le⟩ (.cons ⟨rfl,rz.mono X.le⟩ (.cons ⟨rfl,.dct (zal ..) .nil .nil (z1q B H lo (Nat.le_refl _))⟩ .nil))))
end
section
variable {C:Cx} {Φ:Fm} {ns:List Str} {σ:St}
theorem zpl {t:Tgt} {x:Str} {i:Nat} {xp ap cp p:Pos} {body:List Stmt} {sl:Slots} {K2:KF} (w:(ED.loc x i xp).wf Φ.env.scope ns = true) (hf:mformB ap cp 0 0 = true) (S:Std C Φ (look ns sl) σ) (q:(ED.loc x i xp).val sl σ.g.cs fun v cs=>v = .dct [] [] /\ cs = σ.g.cs) (k:K2 .next sl σ.g.cs) :
  XRuns C Φ ns σ (exec (.For t.ast (.Call (.Attribute (.Name x xp) ("items" : Str) ap) [] [] cp) body [] p) Φ.env) K2:=fun Q E kk=>by
 refine wpAny_For (zki (o:=ED.loc x i xp) (es:=[]) (kv:=[]) (kn:=[]) (n:=0) (H:=fun v cs=>v = .dct [] [] /\ cs = σ.g.cs) (zfa _ _ _ Φ _ w) rfl (fun _ z=>nomatch z) rfl hf S q fun ov ov' σ1 X1 S1 r1 h1=>?_) (fun _=>rfl)
 obtain ⟨rfl,c1⟩:=h1
 obtain ⟨a,es,ep,rfl,e1,hk,_,hs⟩:=r1.inv
 cases hk.nil_of
 have f1:=S1.H.fz _ _ e1
 have hm:σ1.s.heap.DictAt (strKind C.prog C.w) a [] ep:=⟨_,_,f1,⟨rfl,rfl,rfl⟩,rfl,fun e he=>(nomatch he),.nil,List.nodup_nil⟩
 have tI:σ1.s.TypeIs (.ref a) "dict":=⟨_,f1,rfl⟩
 refine ⟨.builtin "dict.items",fun pl Q E k=>getMethod_builtin (T := "dict") tI F.plainAttrs_dict F.slot_dict_items F.type_dict_items (fun b hb=>by cases hb; exact ⟨_,f1,rfl⟩) (k _),fun tk=>?_⟩
 refine evalArgs_kw_nil rfl (wpAny_pure ?_)
 refine ⟨fun E Q k=>wpAny_pure (k _),?_⟩
 refine call_meetsIn F.slot_dict_items ⟨_,f1,rfl⟩ F.entry_dict_items (F.args_dict_items_1 _) (meets_dict_items (strKind C.prog C.w) a hs) ⟨⟨_,hm.dictOf⟩,?_⟩
 let h2:=σ1.s.heap.push { cls:=.type "dict_items",data:=.fields #[.ref a] }
 have k2:∀ b o,σ1.s.heap.get? b = some o -> h2.get? b = some o:=fun b o e=>Heap.get?_push_of_some _ e
 have hm2:h2.DictAt (strKind C.prog C.w) a [] ep:=⟨_,_,k2 _ _ f1,⟨rfl,rfl,rfl⟩,rfl,fun e he=>(nomatch he),.nil,List.nodup_nil⟩
 have hv:h2.IsItemsView σ1.s.heap.objs.size a:=⟨_,Heap.get?_push_size _ rfl,rfl,rfl⟩
 refine wpAny_pyIter_items (knd:=strKind C.prog C.w) hv hm2 ?_
 let it:Addr:=h2.objs.size
 let h3:=h2.push { cls:=.type "dict_itemiterator",data:=.fields #[.none,.bool false,.ref a,.int 0 0,.int (([]:List (Str × Value)).length:Nat) 0,.int ep 0,.none,.none] }
 have k3:∀ b o,σ1.s.heap.get? b = some o -> h3.get? b = some o:=fun b o e=>Heap.get?_push_of_some _ (k2 b o e)
 refine ztk fun E'=>wpAny_pyNext_items_end (knd:=strKind C.prog C.w) (kvs:=[]) (i:=0) S1.O.hh (Heap.get?_push_size h2 rfl) ⟨_,_,k3 _ _ f1,⟨rfl,rfl,rfl⟩,rfl,fun e he=>(nomatch he),.nil,List.nodup_nil⟩ rfl fun h' hx=>⟨rfl,?_⟩
 have X2:Ext σ1 (σ1.up h' tk σ1.g) noOwn:=Ext.keeps S1.H fun b o e=>hx b o (fun z=>absurd (Heap.lt_size (k2 b o e)) (by rw [z]; exact Nat.lt_irrefl _)) (k3 b o e)
 have S2:=S1.ext X2
 exact kk .next sl .next _ (toOwn (X1.trans X2)) .next S2 (show K2 .next sl σ1.g.cs from c1 ▸ k)
end
noncomputable def stayV (v:V):Prop:=∀ {g:Gh} (cs:List Cell) {w:Value},VRel g v w -> VRel { g with cs:=cs } v w
theorem zna (x:Str):stayV (.str x):=fun cs w r=>by obtain ⟨t,rfl,h⟩:=r.inv; exact .str _ _ h
theorem zjv {xs:List V} (h:∀ x ∈ xs,stayV x) {g:Gh} (cs:List Cell):∀ {ws:List Value},VRels g xs ws -> VRels { g with cs:=cs } xs ws:=by
 induction xs with
 | nil=>intro ws r; cases r.nil_of; exact .nil
 | cons x xs ih=>intro ws r; obtain ⟨w,ws',rfl,h1,r⟩:=r.cons_of; exact .cons (h x List.mem_cons_self cs h1) (ih (fun y hy=>h y (List.mem_cons_of_mem _ hy)) r)
theorem zvu {xs:List V} (h:∀ x ∈ xs,stayV x):stayV (.tup xs):=fun {g} cs {w} r=>by
 obtain ⟨a,vs,ep,rfl,e,r,hl⟩:=r.inv
 exact .tup (show Gh.hf { g with cs:=cs } a = _ from e) (zjv h cs r) hl
section
variable {σ σ2:St} {xs c0:List Cell}
theorem zt5 (H0:HRel σ.g σ.s.heap) (X:Ext σ σ2 noOwn) (e:σ2.g.cs = c0 ++ xs) (hl:c0.length = σ.g.cs.length) (st:∀ (l:Nat) (c:Cell),c0[l]? = some c -> σ.g.cs[l]? = some c \/ ∃ ys,c = Cell.list ys /\ ∀ y ∈ ys,stayV y):Ext σ ⟨σ2.s,{ σ2.g with cs:=c0 }⟩ noOwn:=by
 have hlt:∀ {l},l < c0.length -> l < σ2.g.cs.length:=fun h=>by rw [e,List.length_append]; exact Nat.lt_of_lt_of_le h (Nat.le_add_right _ _)
 have Sh:Shr σ.g σ2.g { σ2.g with cs:=c0 }:=⟨Nat.le_of_eq hl.symm,rfl,fun _ _ q=>q,rfl⟩
 exact ⟨⟨Nat.le_of_eq hl.symm,X.le.ρ,X.le.hf,X.le.pr,X.le.fl⟩,X.fresh,fun l a b=>absurd (hl ▸ b:l < σ.g.cs.length) (Nat.not_lt.mpr a),X.keep,X.ownk,
  ⟨X.H.fz,fun l c q=>by
   have q2:=X.H.ce l c (by rw [e,List.getElem?_append_left (zaa q)]; exact q)
   rcases st l c (show c0[l]? = some c from q) with h | ⟨ys,rfl,h⟩
   ·exact (H0.ce l c h).shrink Sh q2
   ·obtain ⟨vs,ep,a,r,z⟩:=q2
    exact ⟨vs,ep,a,zjv h c0 r,z⟩,fun l hl=>X.H.ap l (hlt hl),fun l l' a b q=>X.H.inj l l' (hlt a) (hlt b) q,X.H.nofr,fun a z=>⟨(X.H.lv a z).1,fun l hl=>(X.H.lv a z).2.1 l (hlt hl),(X.H.lv a z).2.2⟩⟩,X.sh⟩
variable {C:Cx} {A:Around} {f:Value} {args':List Value} {kws':List (Str × Value)} {K:KV}
theorem CRuns.dropC (hl:c0.length = σ.g.cs.length) (st:∀ (l:Nat) (c:Cell),c0[l]? = some c -> σ.g.cs[l]? = some c \/ ∃ ys,c = Cell.list ys /\ ∀ y ∈ ys,stayV y) (h:CRuns C A σ f args' kws' fun v c=>v = .none /\ (∃ xs,c = c0 ++ xs) /\ K .none c0) (H:HRel σ.g σ.s.heap):CRuns C A σ f args' kws' K:=fun R k =>
 h R fun v a σ2 X r q=>by
  obtain ⟨rfl,⟨xs,e⟩,q⟩:=q
  cases r.inv
  exact k _ _ ⟨σ2.s,{ σ2.g with cs:=c0 }⟩ (zt5 H X e hl st) .none q
end
end Mine
end
section
namespace Mine
open PySem PySem.SeqAt PySem.W PySem.Calls
noncomputable abbrev pw3:=PySem.Challenge.pw_rs0231_03
noncomputable def exactL:List (String × Nat):=[("!",54),("!=",28),("%",24),("%=",40),("&",19),("&=",41),("(",7),(")",8),("*",16),("**",35),("**=",46),("*=",38),("+",14),("+=",36),(",",12),("-",15),("-=",37),("->",51),(".",23),("...",52),("/",17),("//",47),("//=",48),("/=",39),(":",11),(":=",53),(";",13),("<",20),("<<",33),("<<=",44),("<=",29),("=",22),("==",27),(">",21),(">=",30),(">>",34),(">>=",45),("@",49),("@=",50),("[",9),("]",10),("^",32),("^=",43),("{",25),("|",18),("|=",42),("}",26),("~",31)]
noncomputable def exactK:List Str:=exactL.map fun p=>S p.1
noncomputable def exactV:List V:=exactL.map fun p=>.int (p.2:Nat)
noncomputable def law3:Law where
 globs:=[(S "len",.bi "len"),(S "chr",.bi "chr"),(S "ord",.bi "ord"),(S "max",.bi "max"),(S "sum",.bi "sum"),(S "sorted",.bi "sorted"),(S "range",.typ "range"),(S "enumerate",.typ "enumerate"),(S "zip",.typ "zip"),(S "reversed",.typ "reversed"),(S "str",.typ "str"),(S "int",.typ "int"),(S "type",.typ "type"),(S "list",.typ "list"),(S "min",.bi "min"),(S "_name_disallowed_re",.adr 41),(S "_value_disallowed_re",.adr 46),(S "Headers",.adr 175),(S "_div2n1n",.adr 186),(S "_int2digits",.adr 200),(S "_digits2int",.adr 207),(S "_divmod_pos",.adr 214),(S "int_divmod",.adr 221),(S "ISTERMINAL",.adr 231),(S "ISNONTERMINAL",.adr 238),(S "ISEOF",.adr 245),(S "_law_signs",.adr 252),(S "_law_right",.adr 259),(S "_law_table",.adr 264),(S "_law_read",.adr 269),(S "_law_derived",.adr 274),(S "_law_weighed",.adr 279),(S "_law_trees",.adr 284),(S "divmod",.bi "divmod"),(S "NT_OFFSET",.int 256),(S "ENDMARKER",.int 0),(S "_DIV_LIMIT",.int 4000),(S "EXACT_TOKEN_TYPES",.dct exactK exactV)]
 cls:=175
 meths:=[(S "__init__",69),(S "_convert_string_type",76),(S "__setitem__",90),(S "__delitem__",95),(S "get_all",114),(S "get",122),(S "items",139),(S "setdefault",165),(S "add_header",172)]
 pats:=[(41,nameBad),(46,valBad)]
noncomputable def F_init:Stmt:=methAt pw3 6 0
noncomputable def z2c:IS:=(.asg (.nm (S "headers") 1 (pp 18 8 15)) (.ifx (.cmp (.nm (S "headers") 1 (pp 18 29 36)) .IsNot (.con .none 0 (pp 18 44 48)) (pp 18 29 48)) (.nm (S "headers") 1 (pp 18 18 25)) (.list false [] (pp 18 54 56)) (pp 18 18 56)) (pp 18 8 56))
noncomputable def z40:List IS:=[(.raw ((thenOf ((bodyOf F_init).getD 1 default)).getD 0 default))]
noncomputable def z4u:List IS:=[]
noncomputable def z15:IS:=(.ite (.cmp (.call true (S "type") 12 (pp 19 11 15) [(.nm (S "headers") 1 (pp 19 16 23))] (pp 19 11 24)) .IsNot (.gl (S "list") 13 (pp 19 32 36)) (pp 19 11 36)) z40 z4u ⟨19,8,20,74⟩)
noncomputable def z11:IS:=(.setA (.nm (S "self") 0 (pp 21 8 12)) (.nm (S "headers") 1 (pp 21 24 31)) (pp 21 8 21) (pp 21 8 31))
noncomputable def zqi:Tgt:=(.tup [((S "k"),2,(pp 23 16 17)),((S "v"),3,(pp 23 19 20))] 0 (pp 23 16 20))
noncomputable def zux:List IS:=[(.expr (.cmcall (.nm (S "self") 0 (pp 24 16 20)) (S "_convert_string_type") 76 (pp 24 16 41) [(.nm (S "k") 2 (pp 24 42 43))] [((S "name"),(pp 24 45 54))] [(.con (.bool true) 0 (pp 24 50 54))] (pp 24 16 55)) (pp 24 16 55)),(.expr (.cmcall (.nm (S "self") 0 (pp 25 16 20)) (S "_convert_string_type") 76 (pp 25 16 41) [(.nm (S "v") 3 (pp 25 42 43))] [((S "name"),(pp 25 45 55))] [(.con (.bool false) 0 (pp 25 50 55))] (pp 25 16 56)) (pp 25 16 56))]
noncomputable def z4p:List IS:=[(.for_ zqi (.nm (S "headers") 1 (pp 23 24 31)) zux ⟨23,12,25,56⟩)]
noncomputable def z4o:List IS:=[]
noncomputable def z1z:IS:=(.ite (.con (.bool true) 0 (pp 22 11 20)) z4p z4o ⟨22,8,25,56⟩)
noncomputable def I_init:List IS:=[z2c,z15,z11,z1z]
noncomputable def F_conv:Stmt:=methAt pw3 6 1
noncomputable def z43:List IS:=[(.raw ((thenOf ((thenOf ((bodyOf F_conv).getD 0 default)).getD 1 default)).getD 0 default))]
noncomputable def z41:List IS:=[]
noncomputable def z4v:List IS:=[(.asg (.nm (S "regex") 3 (pp 29 12 17)) (.ifx (.nm (S "name") 2 (pp 29 43 47)) (.gl (S "_name_disallowed_re") 15 (pp 29 20 39)) (.gl (S "_value_disallowed_re") 16 (pp 29 53 73)) (pp 29 20 73)) (pp 29 12 73)),(.ite (.mcall (.nm (S "regex") 3 (pp 30 15 20)) .search (pp 30 15 27) [(.nm (S "value") 1 (pp 30 28 33))] (pp 30 15 34)) z43 z41 ⟨30,12,31,77⟩),(.ret (.nm (S "value") 1 (pp 32 19 24)) (pp 32 12 24))]
noncomputable def z4s:List IS:=[]
noncomputable def z12:IS:=(.ite (.cmp (.call true (S "type") 12 (pp 28 11 15) [(.nm (S "value") 1 (pp 28 16 21))] (pp 28 11 22)) .Is (.gl (S "str") 10 (pp 28 26 29)) (pp 28 11 29)) z4v z4s ⟨28,8,32,24⟩)
noncomputable def z10:IS:=(.raw ((bodyOf F_conv).getD 1 default))
noncomputable def I_conv:List IS:=[z12,z10]
noncomputable def F_setitem:Stmt:=methAt pw3 6 3
noncomputable def zo3:IS:=(.delI (.nm (S "self") 0 (pp 39 12 16)) (.nm (S "name") 1 (pp 39 17 21)) (pp 39 12 22) (pp 39 8 22))
noncomputable def zo2:IS:=(.expr (.mcall (.attr (.nm (S "self") 0 (pp 40 8 12)) (pp 40 8 21)) .append (pp 40 8 28) [(.tup [(.cmcall (.nm (S "self") 0 (pp 40 30 34)) (S "_convert_string_type") 76 (pp 40 30 55) [(.nm (S "name") 1 (pp 40 56 60))] [((S "name"),(pp 40 62 71))] [(.con (.bool true) 0 (pp 40 67 71))] (pp 40 30 72)),(.cmcall (.nm (S "self") 0 (pp 40 74 78)) (S "_convert_string_type") 76 (pp 40 74 99) [(.nm (S "val") 2 (pp 40 100 103))] [((S "name"),(pp 40 105 115))] [(.con (.bool false) 0 (pp 40 110 115))] (pp 40 74 116))] 0 (pp 40 29 117))] (pp 40 8 118)) (pp 40 8 118))
noncomputable def zva:List IS:=[zo3,zo2]
noncomputable def F_delitem:Stmt:=methAt pw3 6 4
noncomputable def zo4:IS:=(.asg (.nm (S "name") 1 (pp 43 8 12)) (.cmcall (.nm (S "self") 0 (pp 43 15 19)) (S "_convert_string_type") 76 (pp 43 15 40) [(.mcall (.nm (S "name") 1 (pp 43 41 45)) .lower (pp 43 41 51) [] (pp 43 41 53))] [((S "name"),(pp 43 55 64))] [(.con (.bool true) 0 (pp 43 60 64))] (pp 43 15 65)) (pp 43 8 65))
noncomputable def zhd:IE:=(.nm (S "kv") 1 (pp 44 28 30))
noncomputable def zg1:Tgt:=(.nm (S "kv") 1 (pp 44 35 37))
noncomputable def zhc:List IE:=[(.cmp (.mcall (.item (.nm (S "kv") 1 (pp 44 58 60)) (.con (.int (0)) 0 (pp 44 61 62)) (pp 44 58 63)) .lower (pp 44 58 69) [] (pp 44 58 71)) .NotEq (.nm (S "name") 3 (pp 44 75 79)) (pp 44 58 79))]
noncomputable def zoz:Scope:=⟨.function,[((S ".0"),.local),((S "kv"),.local),((S "name"),.free)],false,false,[]⟩
noncomputable def zox:IS:=(.setS (.attr (.nm (S "self") 0 (pp 44 8 12)) (pp 44 8 21)) (.lcomp false zhd zg1 (.attr (.nm (S "self") 0 (pp 44 41 45)) (pp 44 41 54)) zhc zoz (pp 44 27 80)) (pp 44 22 23) (pp 44 8 24) (pp 44 8 80))
noncomputable def zvc:List IS:=[zo4,zox]
noncomputable def F_getall:Stmt:=methAt pw3 6 7
noncomputable def zrn:IS:=(.asg (.nm (S "name") 1 (pp 53 8 12)) (.cmcall (.nm (S "self") 0 (pp 53 15 19)) (S "_convert_string_type") 76 (pp 53 15 40) [(.mcall (.nm (S "name") 1 (pp 53 41 45)) .lower (pp 53 41 51) [] (pp 53 41 53))] [((S "name"),(pp 53 55 64))] [(.con (.bool true) 0 (pp 53 60 64))] (pp 53 15 65)) (pp 53 8 65))
noncomputable def zkt:IE:=(.item (.nm (S "kv") 1 (pp 54 16 18)) (.con (.int (1)) 0 (pp 54 19 20)) (pp 54 16 21))
noncomputable def zjt:Tgt:=(.nm (S "kv") 1 (pp 54 26 28))
noncomputable def zko:List IE:=[(.cmp (.mcall (.item (.nm (S "kv") 1 (pp 54 49 51)) (.con (.int (0)) 0 (pp 54 52 53)) (pp 54 49 54)) .lower (pp 54 49 60) [] (pp 54 49 62)) .Eq (.nm (S "name") 3 (pp 54 66 70)) (pp 54 49 70))]
noncomputable def zre:Scope:=⟨.function,[((S ".0"),.local),((S "kv"),.local),((S "name"),.free)],false,false,[]⟩
noncomputable def zrd:IS:=(.ret (.lcomp false zkt zjt (.attr (.nm (S "self") 0 (pp 54 32 36)) (pp 54 32 45)) zko zre (pp 54 15 71)) (pp 54 8 71))
noncomputable def zze:List IS:=[zrn,zrd]
noncomputable def F_get:Stmt:=methAt pw3 6 8
noncomputable def s0_get:IS:=(.asg (.nm (S "name") 1 (pp 57 8 12)) (.cmcall (.nm (S "self") 0 (pp 57 15 19)) (S "_convert_string_type") 76 (pp 57 15 40) [(.mcall (.nm (S "name") 1 (pp 57 41 45)) .lower (pp 57 41 51) [] (pp 57 41 53))] [((S "name"),(pp 57 55 64))] [(.con (.bool true) 0 (pp 57 60 64))] (pp 57 15 65)) (pp 57 8 65))
noncomputable def zzk:Tgt:=(.tup [((S "k"),3,(pp 58 12 13)),((S "v"),4,(pp 58 15 16))] 0 (pp 58 12 16))
noncomputable def b2_get:List IS:=[(.ret (.nm (S "v") 4 (pp 60 23 24)) (pp 60 16 24))]
noncomputable def b3_get:List IS:=[]
noncomputable def z0v:List IS:=[(.ite (.cmp (.mcall (.nm (S "k") 3 (pp 59 15 16)) .lower (pp 59 15 22) [] (pp 59 15 24)) .Eq (.nm (S "name") 1 (pp 59 28 32)) (pp 59 15 32)) b2_get b3_get ⟨59,12,60,24⟩)]
noncomputable def s5_get:IS:=(.for_ zzk (.attr (.nm (S "self") 0 (pp 58 20 24)) (pp 58 20 33)) z0v ⟨58,8,60,24⟩)
noncomputable def s6_get:IS:=(.ret (.nm (S "default") 2 (pp 61 15 22)) (pp 61 8 22))
noncomputable def I_get:List IS:=[s0_get,s5_get,s6_get]
noncomputable def F_items:Stmt:=methAt pw3 6 11
noncomputable def zv7:IS:=(.ret (.slice false (.attr (.nm (S "self") 0 (pp 70 15 19)) (pp 70 15 28)) .absent .absent .absent (pp 70 29 30) (pp 70 15 31)) (pp 70 8 31))
noncomputable def z5r:List IS:=[zv7]
noncomputable def F_setd:Stmt:=methAt pw3 6 15
noncomputable def z2b:IS:=(.asg (.nm (S "result") 3 (pp 82 8 14)) (.cmcall (.nm (S "self") 0 (pp 82 17 21)) (S "get") 122 (pp 82 17 25) [(.nm (S "name") 1 (pp 82 26 30))] [] [] (pp 82 17 31)) (pp 82 8 31))
noncomputable def z4z:List IS:=[(.expr (.mcall (.attr (.nm (S "self") 0 (pp 84 12 16)) (pp 84 12 25)) .append (pp 84 12 32) [(.tup [(.cmcall (.nm (S "self") 0 (pp 84 34 38)) (S "_convert_string_type") 76 (pp 84 34 59) [(.nm (S "name") 1 (pp 84 60 64))] [((S "name"),(pp 84 66 75))] [(.con (.bool true) 0 (pp 84 71 75))] (pp 84 34 76)),(.cmcall (.nm (S "self") 0 (pp 84 78 82)) (S "_convert_string_type") 76 (pp 84 78 103) [(.nm (S "value") 2 (pp 84 104 109))] [((S "name"),(pp 84 111 121))] [(.con (.bool false) 0 (pp 84 116 121))] (pp 84 78 122))] 0 (pp 84 33 123))] (pp 84 12 124)) (pp 84 12 124)),(.ret (.nm (S "value") 2 (pp 85 19 24)) (pp 85 12 24))]
noncomputable def z4t:List IS:=[(.ret (.nm (S "result") 3 (pp 87 19 25)) (pp 87 12 25))]
noncomputable def z14:IS:=(.ite (.cmp (.nm (S "result") 3 (pp 83 11 17)) .Is (.con .none 0 (pp 83 21 25)) (pp 83 11 25)) z4z z4t ⟨83,8,87,25⟩)
noncomputable def I_setd:List IS:=[z2b,z14]
noncomputable def F_addh:Stmt:=methAt pw3 6 16
noncomputable def zh7:IS:=(.asg (.nm (S "parts") 4 (pp 90 8 13)) (.list true [] (pp 90 16 18)) (pp 90 8 18))
noncomputable def z42:List IS:=[(.asg (.nm (S "_value") 2 (pp 92 12 18)) (.cmcall (.nm (S "self") 0 (pp 92 21 25)) (S "_convert_string_type") 76 (pp 92 21 46) [(.nm (S "_value") 2 (pp 92 47 53))] [((S "name"),(pp 92 55 65))] [(.con (.bool false) 0 (pp 92 60 65))] (pp 92 21 66)) (pp 92 12 66)),(.expr (.mcall (.nm (S "parts") 4 (pp 93 12 17)) .append (pp 93 12 24) [(.nm (S "_value") 2 (pp 93 25 31))] (pp 93 12 32)) (pp 93 12 32))]
noncomputable def z4w:List IS:=[]
noncomputable def zhw:IS:=(.ite (.cmp (.nm (S "_value") 2 (pp 91 11 17)) .IsNot (.con .none 0 (pp 91 25 29)) (pp 91 11 29)) z42 z4w ⟨91,8,93,32⟩)
noncomputable def zls:IS:=(.expr (.mcall (.attr (.nm (S "self") 0 (pp 101 8 12)) (pp 101 8 21)) .append (pp 101 8 28) [(.tup [(.cmcall (.nm (S "self") 0 (pp 101 30 34)) (S "_convert_string_type") 76 (pp 101 30 55) [(.nm (S "_name") 1 (pp 101 56 61))] [((S "name"),(pp 101 63 72))] [(.con (.bool true) 0 (pp 101 68 72))] (pp 101 30 73)),(.mcall (.con (.str (S "; ")) 0 (pp 101 75 79)) .join (pp 101 75 84) [(.nm (S "parts") 4 (pp 101 85 90))] (pp 101 75 91))] 0 (pp 101 29 92))] (pp 101 8 93)) (pp 101 8 93))
noncomputable def F_div2n1n:Stmt:=stAt pw3 9
noncomputable def zp4:List IS:=[(.ret (.call true (S "divmod") 33 (pp 106 15 21) [(.nm (S "a") 0 (pp 106 22 23)),(.nm (S "b") 1 (pp 106 25 26))] (pp 106 15 27)) (pp 106 8 27))]
noncomputable def zp3:List IS:=[]
noncomputable def zo1:IS:=(.ite (.cmp (.bin false (.mcall (.nm (S "a") 0 (pp 105 7 8)) .bits (pp 105 7 19) [] (pp 105 7 21)) .Sub (.nm (S "n") 2 (pp 105 24 25)) (pp 105 7 25)) .LtE (.gl (S "_DIV_LIMIT") 36 (pp 105 29 39)) (pp 105 7 39)) zp4 zp3 ⟨105,4,106,27⟩)
noncomputable def zo0:IS:=(.raw ((bodyOf F_div2n1n).getD 1 default))
noncomputable def zoy:IS:=(.raw ((bodyOf F_div2n1n).getD 2 default))
noncomputable def zow:IS:=(.raw ((bodyOf F_div2n1n).getD 3 default))
noncomputable def zov:IS:=(.raw ((bodyOf F_div2n1n).getD 4 default))
noncomputable def zou:IS:=(.swap [((S "b1"),6,(pp 114 4 6)),((S "b2"),7,(pp 114 8 10))] [(.bin false (.nm (S "b") 1 (pp 114 14 15)) .RShift (.nm (S "half_n") 4 (pp 114 19 25)) (pp 114 14 25)),(.bin false (.nm (S "b") 1 (pp 114 27 28)) .BitAnd (.nm (S "mask") 5 (pp 114 31 35)) (pp 114 27 35))] 0 0 (pp 114 4 10) (pp 114 13 36) (pp 114 4 36))
noncomputable def zot:IS:=(.raw ((bodyOf F_div2n1n).getD 6 default))
noncomputable def zos:IS:=(.raw ((bodyOf F_div2n1n).getD 7 default))
noncomputable def zlv:IS:=(.raw ((bodyOf F_div2n1n).getD 8 default))
noncomputable def zlu:IS:=(.raw ((bodyOf F_div2n1n).getD 9 default))
noncomputable def zvb:List IS:=[zo1,zo0,zoy,zow,zov,zou,zot,zos,zlv,zlu]
noncomputable def F_int2digits:Stmt:=stAt pw3 11
noncomputable def zbh:IS:=(.asg (.nm (S "a_digits") 2 (pp 131 4 12)) (.bin true (.list false [(.con (.int (0)) 0 (pp 131 16 17))] (pp 131 15 18)) .Mult (.bin false (.bin false (.bin false (.mcall (.nm (S "a") 0 (pp 131 23 24)) .bits (pp 131 23 35) [] (pp 131 23 37)) .Add (.nm (S "n") 1 (pp 131 40 41)) (pp 131 23 41)) .Sub (.con (.int (1)) 0 (pp 131 44 45)) (pp 131 23 45)) .FloorDiv (.nm (S "n") 1 (pp 131 50 51)) (pp 131 22 51)) (pp 131 15 52)) (pp 131 4 52))
noncomputable def za3:List IE:=[(.nm (S "a") 0 (pp 144 14 15)),(.con (.int (0)) 0 (pp 144 17 18)),(.call true (S "len") 0 (pp 144 20 23) [(.nm (S "a_digits") 2 (pp 144 24 32))] (pp 144 20 33))]
noncomputable def zi8:List IS:=[(.expr (.call false (S "inner") 3 (pp 144 8 13) za3 (pp 144 8 34)) (pp 144 8 34))]
noncomputable def zi7:List IS:=[]
noncomputable def zb3:IS:=(.ite (.nm (S "a") 0 (pp 143 7 8)) zi8 zi7 ⟨143,4,144,34⟩)
noncomputable def zb2:IS:=(.ret (.nm (S "a_digits") 2 (pp 145 11 19)) (pp 145 4 19))
noncomputable def F_digits2int:Stmt:=stAt pw3 12
noncomputable def za4:List IE:=[(.con (.int (0)) 0 (pp 154 17 18)),(.call true (S "len") 0 (pp 154 20 23) [(.nm (S "digits") 0 (pp 154 24 30))] (pp 154 20 31))]
noncomputable def F_divmod_pos:Stmt:=stAt pw3 13
noncomputable def zh6:IS:=(.asg (.nm (S "n") 2 (pp 156 4 5)) (.mcall (.nm (S "b") 1 (pp 156 8 9)) .bits (pp 156 8 20) [] (pp 156 8 22)) (pp 156 4 22))
noncomputable def zh1:IS:=(.asg (.nm (S "a_digits") 3 (pp 157 4 12)) (.call true (S "_int2digits") 19 (pp 157 15 26) [(.nm (S "a") 0 (pp 157 27 28)),(.nm (S "n") 2 (pp 157 30 31))] (pp 157 15 32)) (pp 157 4 32))
noncomputable def zhx:IS:=(.asg (.nm (S "r") 4 (pp 158 4 5)) (.con (.int (0)) 0 (pp 158 8 9)) (pp 158 4 9))
noncomputable def zhv:IS:=(.asg (.nm (S "q_digits") 5 (pp 159 4 12)) (.list true [] (pp 159 15 17)) (pp 159 4 17))
noncomputable def zdp:Tgt:=(.nm (S "a_digit") 6 (pp 160 8 15))
noncomputable def zd8:List IS:=[(.asg (.tup [((S "q_digit"),7,(pp 161 8 15)),((S "r"),4,(pp 161 17 18))] 0 (pp 161 8 18)) (.call true (S "_div2n1n") 18 (pp 161 21 29) [(.bin false (.bin false (.nm (S "r") 4 (pp 161 31 32)) .LShift (.nm (S "n") 2 (pp 161 36 37)) (pp 161 31 37)) .Add (.nm (S "a_digit") 6 (pp 161 41 48)) (pp 161 30 48)),(.nm (S "b") 1 (pp 161 50 51)),(.nm (S "n") 2 (pp 161 53 54))] (pp 161 21 55)) (pp 161 8 55)),(.expr (.mcall (.nm (S "q_digits") 5 (pp 162 8 16)) .append (pp 162 8 23) [(.nm (S "q_digit") 7 (pp 162 24 31))] (pp 162 8 32)) (pp 162 8 32))]
noncomputable def zhu:IS:=(.for_ zdp (.itf .rev (S "reversed") 9 (pp 160 19 27) [(.nm (S "a_digits") 3 (pp 160 28 36))] (pp 160 19 37)) zd8 ⟨160,4,162,32⟩)
noncomputable def zb1:IS:=(.expr (.mcall (.nm (S "q_digits") 5 (pp 163 4 12)) .reverse (pp 163 4 20) [] (pp 163 4 22)) (pp 163 4 22))
noncomputable def zb0:IS:=(.asg (.nm (S "q") 8 (pp 164 4 5)) (.call true (S "_digits2int") 20 (pp 164 8 19) [(.nm (S "q_digits") 5 (pp 164 20 28)),(.nm (S "n") 2 (pp 164 30 31))] (pp 164 8 32)) (pp 164 4 32))
noncomputable def zbz:IS:=(.ret (.tup [(.nm (S "q") 8 (pp 165 12 13)),(.nm (S "r") 4 (pp 165 15 16))] 0 (pp 165 11 17)) (pp 165 4 17))
noncomputable def zle:List IS:=[zh6,zh1,zhx,zhv,zhu,zb1,zb0,zbz]
noncomputable def F_int_divmod:Stmt:=stAt pw3 14
noncomputable def zjg:List IS:=[(.raw ((thenOf ((bodyOf F_int_divmod).getD 0 default)).getD 0 default))]
noncomputable def zcf:List IS:=[(.asg (.tup [((S "q"),2,(pp 170 8 9)),((S "r"),3,(pp 170 11 12))] 0 (pp 170 8 12)) (.call true (S "int_divmod") 22 (pp 170 15 25) [(.un .USub (.nm (S "a") 0 (pp 170 27 28)) (pp 170 26 28)),(.un .USub (.nm (S "b") 1 (pp 170 31 32)) (pp 170 30 32))] (pp 170 15 33)) (pp 170 8 33)),(.ret (.tup [(.nm (S "q") 2 (pp 171 16 17)),(.un .USub (.nm (S "r") 3 (pp 171 20 21)) (pp 171 19 21))] 0 (pp 171 15 22)) (pp 171 8 22))]
noncomputable def zcd:List IS:=[(.asg (.tup [((S "q"),2,(pp 173 8 9)),((S "r"),3,(pp 173 11 12))] 0 (pp 173 8 12)) (.call true (S "int_divmod") 22 (pp 173 15 25) [(.un .Invert (.nm (S "a") 0 (pp 173 27 28)) (pp 173 26 28)),(.nm (S "b") 1 (pp 173 30 31))] (pp 173 15 32)) (pp 173 8 32)),(.ret (.tup [(.un .Invert (.nm (S "q") 2 (pp 174 17 18)) (pp 174 16 18)),(.bin false (.nm (S "b") 1 (pp 174 20 21)) .Add (.un .Invert (.nm (S "r") 3 (pp 174 25 26)) (pp 174 24 26)) (pp 174 20 26))] 0 (pp 174 15 27)) (pp 174 8 27))]
noncomputable def zcc:List IS:=[(.ret (.call true (S "_divmod_pos") 21 (pp 176 15 26) [(.nm (S "a") 0 (pp 176 27 28)),(.nm (S "b") 1 (pp 176 30 31))] (pp 176 15 32)) (pp 176 8 32))]
noncomputable def zcb:List IS:=[(.ite (.cmp (.nm (S "a") 0 (pp 172 9 10)) .Lt (.con (.int (0)) 0 (pp 172 13 14)) (pp 172 9 14)) zcd zcc ⟨172,4,176,32⟩)]
noncomputable def zi6:List IS:=[(.ite (.cmp (.nm (S "b") 1 (pp 169 9 10)) .Lt (.con (.int (0)) 0 (pp 169 13 14)) (pp 169 9 14)) zcf zcb ⟨169,4,176,32⟩)]
noncomputable def zht:IS:=(.ite (.cmp (.nm (S "b") 1 (pp 167 7 8)) .Eq (.con (.int (0)) 0 (pp 167 12 13)) (pp 167 7 13)) zjg zi6 ⟨167,4,176,32⟩)
noncomputable def ze2:List IS:=[zht]
noncomputable def F_ISTERMINAL:Stmt:=stAt pw3 67
noncomputable def zh8:IS:=(.ret (.cmp (.nm (S "x") 0 (pp 230 11 12)) .Lt (.gl (S "NT_OFFSET") 34 (pp 230 15 24)) (pp 230 11 24)) (pp 230 4 24))
noncomputable def zlf:List IS:=[zh8]
noncomputable def F_ISNONTERMINAL:Stmt:=stAt pw3 68
noncomputable def ze5:IS:=(.ret (.cmp (.nm (S "x") 0 (pp 232 11 12)) .GtE (.gl (S "NT_OFFSET") 34 (pp 232 16 25)) (pp 232 11 25)) (pp 232 4 25))
noncomputable def zgn:List IS:=[ze5]
noncomputable def F_ISEOF:Stmt:=stAt pw3 69
noncomputable def zv8:IS:=(.ret (.cmp (.nm (S "x") 0 (pp 234 11 12)) .Eq (.gl (S "ENDMARKER") 35 (pp 234 16 25)) (pp 234 11 25)) (pp 234 4 25))
noncomputable def z5s:List IS:=[zv8]
noncomputable def F_law_signs:Stmt:=stAt pw3 71
noncomputable def zka:IS:=(.ret (.mcall (.bin false (.con (.str (S "( ) [ ] : , ; + - * / | & < > = . % { } == != <= >= ~ ^ << >> ** += -= *= /= %= &= |= ^= <<= >>= **= // //= @ @= -> ... :")) 0 (pp 237 12 135)) .Add (.con (.str (S "= !")) 0 (pp 237 138 143)) (pp 237 12 143)) .split (pp 237 11 150) [(.con (.str (S " ")) 0 (pp 237 151 154))] (pp 237 11 155)) (pp 237 4 155))
noncomputable def zm0:List IS:=[zka]
noncomputable def F_law_right:Stmt:=stAt pw3 72
noncomputable def zkb:IS:=(.asg (.nm (S "sign") 1 (pp 239 4 8)) (.item (.call true (S "_law_signs") 26 (pp 239 11 21) [] (pp 239 11 23)) (.bin false (.bin false (.nm (S "number") 0 (pp 239 24 30)) .FloorDiv (.con (.int (13)) 0 (pp 239 34 36)) (pp 239 24 36)) .Mod (.con (.int (48)) 0 (pp 239 39 41)) (pp 239 24 41)) (pp 239 11 42)) (pp 239 4 42))
noncomputable def zj6:IS:=(.asg (.nm (S "kind") 2 (pp 240 4 8)) (.bin false (.nm (S "number") 0 (pp 240 11 17)) .Mod (.con (.int (13)) 0 (pp 240 20 22)) (pp 240 11 22)) (pp 240 4 22))
noncomputable def zk7:List IS:=[(.ret (.bin false (.nm (S "sign") 1 (pp 242 15 19)) .Add (.item (.list false [(.con (.str (S " ")) 0 (pp 242 23 26)),(.con (.str (S "s")) 0 (pp 242 28 31)),(.con (.str (S "A")) 0 (pp 242 33 36)),(.con (.str (S "b")) 0 (pp 242 38 41))] (pp 242 22 42)) (.nm (S "kind") 2 (pp 242 43 47)) (pp 242 22 48)) (pp 242 15 48)) (pp 242 8 48))]
noncomputable def zk6:List IS:=[]
noncomputable def zj3:IS:=(.ite (.cmp (.nm (S "kind") 2 (pp 241 7 11)) .Lt (.con (.int (4)) 0 (pp 241 14 15)) (pp 241 7 15)) zk7 zk6 ⟨241,4,242,48⟩)
noncomputable def zj1:IS:=(.ret (.bin false (.bin false (.item (.con (.str (S "Sab")) 0 (pp 243 11 16)) (.bin false (.bin false (.nm (S "kind") 2 (pp 243 18 22)) .Sub (.con (.int (4)) 0 (pp 243 25 26)) (pp 243 18 26)) .FloorDiv (.con (.int (3)) 0 (pp 243 31 32)) (pp 243 17 32)) (pp 243 11 33)) .Add (.nm (S "sign") 1 (pp 243 36 40)) (pp 243 11 40)) .Add (.item (.con (.str (S "sAB")) 0 (pp 243 43 48)) (.bin false (.bin false (.nm (S "kind") 2 (pp 243 50 54)) .Sub (.con (.int (4)) 0 (pp 243 57 58)) (pp 243 50 58)) .Mod (.con (.int (3)) 0 (pp 243 62 63)) (pp 243 49 63)) (pp 243 43 64)) (pp 243 11 64)) (pp 243 4 64))
noncomputable def zm1:List IS:=[zkb,zj6,zj3,zj1]
noncomputable def F_law_table:Stmt:=stAt pw3 73
noncomputable def zj9:IS:=(.asg (.nm (S "kept") 1 (pp 245 4 8)) (.list true [(.tup [(.con (.str (S "sB")) 0 (pp 245 13 17)),(.con (.str (S "a|s")) 0 (pp 245 19 24))] 0 (pp 245 12 25)),(.tup [(.con (.str (S "s")) 0 (pp 245 28 31)),(.con (.str (S "a+b")) 0 (pp 245 33 38))] 0 (pp 245 27 39)),(.tup [(.con (.str (S "A")) 0 (pp 245 42 45)),(.con (.str (S "~B")) 0 (pp 245 47 51))] 0 (pp 245 41 52)),(.tup [(.con (.str (S "b")) 0 (pp 245 55 58)),(.con (.str (S "A...")) 0 (pp 245 60 66))] 0 (pp 245 54 67)),(.tup [(.con (.str (S "B")) 0 (pp 245 70 73)),(.con (.str (S "->b")) 0 (pp 245 75 80))] 0 (pp 245 69 81))] (pp 245 11 82)) (pp 245 4 82))
noncomputable def zj5:IS:=(.swap [((S "due"),2,(pp 246 4 7)),((S "answers"),3,(pp 246 9 16)),((S "table"),4,(pp 246 18 23))] [(.call true (S "list") 13 (pp 246 27 31) [(.nm (S "kept") 1 (pp 246 32 36))] (pp 246 27 37)),(.list true [] (pp 246 39 41)),(.call true (S "Headers") 17 (pp 246 43 50) [(.nm (S "kept") 1 (pp 246 51 55))] (pp 246 43 56))] 0 0 (pp 246 4 23) (pp 246 26 57) (pp 246 4 57))
noncomputable def zjs:Tgt:=(.nm (S "cell") 5 (pp 247 8 12))
noncomputable def zez:IE:=(.nm (S "pair") 1 (pp 249 16 20))
noncomputable def zet:Tgt:=(.nm (S "pair") 1 (pp 249 25 29))
noncomputable def zex:List IE:=[(.cmp (.mcall (.item (.nm (S "pair") 1 (pp 249 40 44)) (.con (.int (0)) 0 (pp 249 45 46)) (pp 249 40 47)) .lower (pp 249 40 53) [] (pp 249 40 55)) .Eq (.mcall (.nm (S "name") 8 (pp 249 59 63)) .lower (pp 249 59 69) [] (pp 249 59 71)) (pp 249 40 71))]
noncomputable def zj0:Scope:=⟨.function,[((S ".0"),.local),((S "pair"),.local),((S "name"),.free)],false,false,[]⟩
noncomputable def zk5:List IS:=[(.expr (.cmcall (.nm (S "table") 4 (pp 251 12 17)) (S "add_header") 172 (pp 251 12 28) [(.nm (S "name") 6 (pp 251 29 33)),(.nm (S "right") 7 (pp 251 35 40))] [] [] (pp 251 12 41)) (pp 251 12 41))]
noncomputable def zk4:List IS:=[(.expr (.mcall (.nm (S "answers") 3 (pp 253 12 19)) .append (pp 253 12 26) [(.cmp (.cmcall (.nm (S "table") 4 (pp 253 27 32)) (S "setdefault") 165 (pp 253 27 43) [(.nm (S "name") 6 (pp 253 44 48)),(.nm (S "right") 7 (pp 253 50 55))] [] [] (pp 253 27 56)) .Eq (.item (.item (.bin false (.nm (S "same") 8 (pp 253 61 65)) .Add (.list false [(.tup [(.nm (S "name") 6 (pp 253 70 74)),(.nm (S "right") 7 (pp 253 76 81))] 0 (pp 253 69 82))] (pp 253 68 83)) (pp 253 61 83)) (.con (.int (0)) 0 (pp 253 85 86)) (pp 253 60 87)) (.con (.int (1)) 0 (pp 253 88 89)) (pp 253 60 90)) (pp 253 27 90))] (pp 253 12 91)) (pp 253 12 91))]
noncomputable def zk2:List IS:=[(.setI (.nm (S "table") 4 (pp 255 12 17)) (.nm (S "name") 6 (pp 255 18 22)) (.nm (S "right") 7 (pp 255 26 31)) (pp 255 12 23) (pp 255 12 31))]
noncomputable def zjf:List IS:=[(.delI (.nm (S "table") 4 (pp 257 16 21)) (.nm (S "name") 6 (pp 257 22 26)) (pp 257 16 27) (pp 257 12 27))]
noncomputable def zje:List IS:=[(.ite (.cmp (.bin false (.nm (S "cell") 5 (pp 254 13 17)) .Mod (.con (.int (4)) 0 (pp 254 20 21)) (pp 254 13 21)) .Eq (.con (.int (2)) 0 (pp 254 25 26)) (pp 254 13 26)) zk2 zjf ⟨254,8,257,27⟩)]
noncomputable def zjd:List IS:=[(.ite (.cmp (.bin false (.nm (S "cell") 5 (pp 252 13 17)) .Mod (.con (.int (4)) 0 (pp 252 20 21)) (pp 252 13 21)) .Eq (.con (.int (1)) 0 (pp 252 25 26)) (pp 252 13 26)) zk4 zje ⟨252,8,257,27⟩)]
noncomputable def zd2:IE:=(.nm (S "pair") 1 (pp 259 19 23))
noncomputable def zdr:Tgt:=(.nm (S "pair") 1 (pp 259 28 32))
noncomputable def zdy:List IE:=[(.cmp (.nm (S "pair") 1 (pp 259 43 47)) .NotIn (.nm (S "same") 10 (pp 259 55 59)) (pp 259 43 59))]
noncomputable def zh4:Scope:=⟨.function,[((S ".0"),.local),((S "pair"),.local),((S "same"),.free)],false,false,[]⟩
noncomputable def zjc:List IS:=[(.asgC (.nm (S "due") 2 (pp 259 12 15)) true zd2 zdr (.nm (S "due") 2 (pp 259 36 39)) zdy zh4 (pp 259 18 60) (pp 259 12 60))]
noncomputable def zjb:List IS:=[]
noncomputable def zja:List IS:=[(.expr (.mcall (.nm (S "due") 2 (pp 261 12 15)) .append (pp 261 12 22) [(.tup [(.nm (S "name") 6 (pp 261 24 28)),(.nm (S "right") 7 (pp 261 30 35))] 0 (pp 261 23 36))] (pp 261 12 37)) (pp 261 12 37))]
noncomputable def zi9:List IS:=[]
noncomputable def zd9:List IS:=[(.asgT (.tup [((S "name"),6,(pp 248 8 12)),((S "right"),7,(pp 248 14 19))] 0 (pp 248 8 19)) [(.item (.con (.str (S "sSaAbB")) 0 (pp 248 23 31)) (.bin false (.bin false (.nm (S "cell") 5 (pp 248 32 36)) .FloorDiv (.con (.int (4)) 0 (pp 248 40 41)) (pp 248 32 41)) .Mod (.con (.int (6)) 0 (pp 248 44 45)) (pp 248 32 45)) (pp 248 23 46)),(.call true (S "_law_right") 27 (pp 248 48 58) [(.bin false (.nm (S "cell") 5 (pp 248 59 63)) .FloorDiv (.con (.int (24)) 0 (pp 248 67 69)) (pp 248 59 69))] (pp 248 48 70))] 0 (pp 248 22 71) (pp 248 8 71)),(.asgC (.nm (S "same") 8 (pp 249 8 12)) false zez zet (.nm (S "due") 2 (pp 249 33 36)) zex zj0 (pp 249 15 72) (pp 249 8 72)),(.ite (.cmp (.bin false (.nm (S "cell") 5 (pp 250 11 15)) .Mod (.con (.int (4)) 0 (pp 250 18 19)) (pp 250 11 19)) .Eq (.con (.int (0)) 0 (pp 250 23 24)) (pp 250 11 24)) zk5 zjd ⟨250,8,257,27⟩),(.ite (.cmp (.bin false (.nm (S "cell") 5 (pp 258 11 15)) .Mod (.con (.int (4)) 0 (pp 258 18 19)) (pp 258 11 19)) .Gt (.con (.int (1)) 0 (pp 258 22 23)) (pp 258 11 23)) zjc zjb ⟨258,8,259,60⟩),(.ite (.bools .Or [(.cmp (.bin false (.nm (S "cell") 5 (pp 260 11 15)) .Mod (.con (.int (4)) 0 (pp 260 18 19)) (pp 260 11 19)) .In (.tup [(.con (.int (0)) 0 (pp 260 24 25)),(.con (.int (2)) 0 (pp 260 27 28))] 0 (pp 260 23 29)) (pp 260 11 29)),(.bools .And [(.cmp (.bin false (.nm (S "cell") 5 (pp 260 34 38)) .Mod (.con (.int (4)) 0 (pp 260 41 42)) (pp 260 34 42)) .Eq (.con (.int (1)) 0 (pp 260 46 47)) (pp 260 34 47)),(.cmp (.nm (S "same") 8 (pp 260 52 56)) .Eq (.list false [] (pp 260 60 62)) (pp 260 52 62))] (pp 260 34 62))] (pp 260 11 63)) zja zi9 ⟨260,8,261,37⟩)]
noncomputable def zh0:IS:=(.for_ zjs (.nm (S "cells") 0 (pp 247 16 21)) zd9 ⟨247,4,261,37⟩)
noncomputable def zby:Tgt:=(.tup [((S "name"),6,(pp 262 8 12)),((S "right"),7,(pp 262 14 19))] 0 (pp 262 8 19))
noncomputable def zce:List IS:=[(.expr (.cmcall (.nm (S "table") 4 (pp 263 8 13)) (S "add_header") 172 (pp 263 8 24) [(.nm (S "name") 6 (pp 263 25 29)),(.nm (S "right") 7 (pp 263 31 36))] [] [] (pp 263 8 37)) (pp 263 8 37)),(.expr (.mcall (.nm (S "due") 2 (pp 264 8 11)) .append (pp 264 8 18) [(.tup [(.nm (S "name") 6 (pp 264 20 24)),(.nm (S "right") 7 (pp 264 26 31))] 0 (pp 264 19 32))] (pp 264 8 33)) (pp 264 8 33))]
noncomputable def zhz:IS:=(.for_ zby (.tup [(.tup [(.con (.str (S "S")) 0 (pp 262 25 28)),(.con (.str (S "== ")) 0 (pp 262 30 35))] 0 (pp 262 24 36)),(.tup [(.con (.str (S "a")) 0 (pp 262 39 42)),(.con (.str (S "**=")) 0 (pp 262 44 49))] 0 (pp 262 38 50)),(.tup [(.con (.str (S "B")) 0 (pp 262 53 56)),(.con (.str (S "!")) 0 (pp 262 58 61))] 0 (pp 262 52 62))] 0 (pp 262 23 63)) zce ⟨262,4,264,33⟩)
noncomputable def zhy:IS:=(.ret (.tup [(.nm (S "table") 4 (pp 265 12 17)),(.nm (S "kept") 1 (pp 265 19 23)),(.nm (S "due") 2 (pp 265 25 28)),(.nm (S "answers") 3 (pp 265 30 37))] 0 (pp 265 11 38)) (pp 265 4 38))
noncomputable def zmz:List IS:=[zj9,zj5,zh0,zhz,zhy]
noncomputable def F_law_read:Stmt:=stAt pw3 74
noncomputable def zlw:IS:=(.asg (.nm (S "symbols") 1 (pp 267 4 11)) (.list true [] (pp 267 14 16)) (pp 267 4 16))
noncomputable def zlt:IS:=(.asg (.nm (S "behind") 2 (pp 268 4 10)) (.con (.int (0)) 0 (pp 268 13 14)) (pp 268 4 14))
noncomputable def zfe:Tgt:=(.nm (S "place") 3 (pp 269 8 13))
noncomputable def zb9:IE:=(.nm (S "size") 1 (pp 271 40 44))
noncomputable def zbx:Tgt:=(.nm (S "size") 1 (pp 271 49 53))
noncomputable def zb5:List IE:=[(.cmp (.slice false (.nm (S "text") 2 (pp 271 67 71)) (.nm (S "place") 5 (pp 271 72 77)) (.bin false (.nm (S "place") 5 (pp 271 78 83)) .Add (.nm (S "size") 1 (pp 271 86 90)) (pp 271 78 90)) .absent (pp 271 72 90) (pp 271 67 91)) .In (.gl (S "EXACT_TOKEN_TYPES") 37 (pp 271 95 112)) (pp 271 67 112))]
noncomputable def zlr:Scope:=⟨.function,[((S ".0"),.local),((S "size"),.local),((S "EXACT_TOKEN_TYPES"),.globalImplicit),((S "place"),.free),((S "text"),.free)],false,false,[]⟩
noncomputable def zmr:List IS:=[(.asg (.nm (S "behind") 2 (pp 271 12 18)) (.bin false (.nm (S "place") 3 (pp 271 21 26)) .Add (.call true (S "max") 3 (pp 271 29 32) [(.bin false (.list false [(.con (.int (1)) 0 (pp 271 34 35))] (pp 271 33 36)) .Add (.lcomp false zb9 zbx (.tup [(.con (.int (2)) 0 (pp 271 58 59)),(.con (.int (3)) 0 (pp 271 61 62))] 0 (pp 271 57 63)) zb5 zlr (pp 271 39 113)) (pp 271 33 113))] (pp 271 29 114)) (pp 271 21 114)) (pp 271 12 114)),(.expr (.mcall (.nm (S "symbols") 1 (pp 272 12 19)) .append (pp 272 12 26) [(.mcall (.gl (S "EXACT_TOKEN_TYPES") 37 (pp 272 27 44)) .get (pp 272 27 48) [(.slice false (.nm (S "text") 0 (pp 272 49 53)) (.nm (S "place") 3 (pp 272 54 59)) (.nm (S "behind") 2 (pp 272 60 66)) .absent (pp 272 54 66) (pp 272 49 67)),(.bin false (.gl (S "NT_OFFSET") 34 (pp 272 69 78)) .Add (.call true (S "ord") 2 (pp 272 81 84) [(.item (.nm (S "text") 0 (pp 272 85 89)) (.nm (S "place") 3 (pp 272 90 95)) (pp 272 85 96))] (pp 272 81 97)) (pp 272 69 97))] (pp 272 27 98))] (pp 272 12 99)) (pp 272 12 99))]
noncomputable def zmq:List IS:=[]
noncomputable def zgd:List IS:=[(.ite (.cmp (.nm (S "place") 3 (pp 270 11 16)) .GtE (.nm (S "behind") 2 (pp 270 20 26)) (pp 270 11 26)) zmr zmq ⟨270,8,272,99⟩)]
noncomputable def zj8:IS:=(.for_ zfe (.call true (S "range") 6 (pp 269 17 22) [(.call true (S "len") 0 (pp 269 23 26) [(.nm (S "text") 0 (pp 269 27 31))] (pp 269 23 32))] (pp 269 17 33)) zgd ⟨269,4,272,99⟩)
noncomputable def zj7:IS:=(.ret (.nm (S "symbols") 1 (pp 273 11 18)) (pp 273 4 18))
noncomputable def zp9:List IS:=[zlw,zlt,zj8,zj7]
noncomputable def F_law_derived:Stmt:=stAt pw3 75
noncomputable def zgu:IS:=(.swap [((S "pile"),3,(pp 275 4 8)),((S "told"),4,(pp 275 10 14)),((S "bag"),5,(pp 275 16 19))] [(.list true [(.con (.int (0)) 0 (pp 275 24 25)),(.bin true (.gl (S "NT_OFFSET") 34 (pp 275 27 36)) .Add (.call true (S "ord") 2 (pp 275 39 42) [(.con (.str (S "s")) 0 (pp 275 43 46))] (pp 275 39 47)) (pp 275 27 47))] (pp 275 23 48)),(.list true [] (pp 275 50 52)),(.con (.int (0)) 0 (pp 275 54 55))] 0 0 (pp 275 4 19) (pp 275 22 56) (pp 275 4 56))
noncomputable def zda:Tgt:=(.nm (S "turn") 6 (pp 276 8 12))
noncomputable def zg0:List IS:=[(.ret (.tup [(.nm (S "bag") 5 (pp 279 20 23)),(.nm (S "told") 4 (pp 279 25 29))] 0 (pp 279 19 30)) (pp 279 12 30))]
noncomputable def zgz:List IS:=[]
noncomputable def zgy:List IS:=[(.expr (.mcall (.nm (S "told") 4 (pp 281 12 16)) .append (pp 281 12 23) [(.nm (S "top") 7 (pp 281 24 27))] (pp 281 12 28)) (pp 281 12 28))]
noncomputable def zgx:List IS:=[]
noncomputable def zde:IE:=(.nm (S "k") 1 (pp 284 22 23))
noncomputable def zc8:Tgt:=(.tup [((S "k"),1,(pp 284 28 29)),((S "pair"),2,(pp 284 31 35))] 0 (pp 284 28 35))
noncomputable def zdb:List IE:=[(.cmp (.mcall (.item (.nm (S "pair") 2 (pp 284 57 61)) (.con (.int (0)) 0 (pp 284 62 63)) (pp 284 57 64)) .lower (pp 284 57 70) [] (pp 284 57 72)) .Eq (.mcall (.call true (S "chr") 1 (pp 284 76 79) [(.bin false (.nm (S "top") 10 (pp 284 80 83)) .Sub (.gl (S "NT_OFFSET") 34 (pp 284 86 95)) (pp 284 80 95))] (pp 284 76 96)) .lower (pp 284 76 102) [] (pp 284 76 104)) (pp 284 57 104))]
noncomputable def zgq:Scope:=⟨.function,[((S ".0"),.local),((S "k"),.local),((S "pair"),.local),((S "chr"),.globalImplicit),((S "NT_OFFSET"),.globalImplicit),((S "top"),.free)],false,false,[]⟩
noncomputable def zcr:IE:=(.item (.item (.nm (S "due") 3 (pp 285 26 29)) (.nm (S "k") 1 (pp 285 30 31)) (pp 285 26 32)) (.con (.int (1)) 0 (pp 285 33 34)) (pp 285 26 35))
noncomputable def zck:Tgt:=(.nm (S "k") 1 (pp 285 40 41))
noncomputable def zco:List IE:=[]
noncomputable def zfv:Scope:=⟨.function,[((S ".0"),.local),((S "k"),.local),((S "due"),.free)],false,false,[]⟩
noncomputable def zgi:List IS:=[(.ret (.tup [(.con (.int (0)) 0 (pp 286 24 25)),(.list false [(.con (.int (0)) 0 (pp 286 28 29))] (pp 286 27 30))] 0 (pp 286 23 31)) (pp 286 16 31))]
noncomputable def zgh:List IS:=[]
noncomputable def za2:List IS:=[(.asg (.nm (S "pick") 10 (pp 288 16 20)) (.ifx (.cmp (.nm (S "choices") 2 (pp 288 55 62)) .NotEq (.list false [] (pp 288 66 68)) (pp 288 55 68)) (.bin false (.mcall (.nm (S "choices") 2 (pp 288 23 30)) .pop (pp 288 23 34) [(.con (.int (0)) 0 (pp 288 35 36))] (pp 288 23 37)) .Mod (.call true (S "len") 0 (pp 288 40 43) [(.nm (S "rights") 8 (pp 288 44 50))] (pp 288 40 51)) (pp 288 23 51)) (.bin false (.call true (S "len") 0 (pp 288 74 77) [(.nm (S "rights") 8 (pp 288 78 84))] (pp 288 74 85)) .Sub (.con (.int (1)) 0 (pp 288 88 89)) (pp 288 74 89)) (pp 288 23 89)) (pp 288 16 89)),(.asg (.nm (S "bag") 5 (pp 289 16 19)) (.bin false (.nm (S "bag") 5 (pp 289 22 25)) .Add (.bin false (.con (.int (8)) 0 (pp 289 28 29)) .Pow (.item (.nm (S "places") 9 (pp 289 33 39)) (.nm (S "pick") 10 (pp 289 40 44)) (pp 289 33 45)) (pp 289 28 45)) (pp 289 22 45)) (pp 289 16 45)),(.expr (.mcall (.nm (S "pile") 3 (pp 290 16 20)) .extend (pp 290 16 27) [(.slice false (.call true (S "_law_read") 29 (pp 290 28 37) [(.item (.nm (S "rights") 8 (pp 290 38 44)) (.nm (S "pick") 10 (pp 290 45 49)) (pp 290 38 50))] (pp 290 28 51)) .absent .absent (.un .USub (.con (.int (1)) 0 (pp 290 55 56)) (pp 290 54 56)) (pp 290 52 56) (pp 290 28 57))] (pp 290 16 58)) (pp 290 16 58))]
noncomputable def zcu:List IS:=[]
noncomputable def zgg:List IS:=[(.asg (.nm (S "rights") 8 (pp 283 12 18)) (.cmcall (.nm (S "table") 0 (pp 283 21 26)) (S "get_all") 114 (pp 283 21 34) [(.call true (S "chr") 1 (pp 283 35 38) [(.bin false (.nm (S "top") 7 (pp 283 39 42)) .Sub (.gl (S "NT_OFFSET") 34 (pp 283 45 54)) (pp 283 39 54))] (pp 283 35 55))] [] [] (pp 283 21 56)) (pp 283 12 56)),(.asgC (.nm (S "places") 9 (pp 284 12 18)) false zde zc8 (.itf .enum (S "enumerate") 7 (pp 284 39 48) [(.nm (S "due") 1 (pp 284 49 52))] (pp 284 39 53)) zdb zgq (pp 284 21 105) (pp 284 12 105)),(.ite (.cmp (.nm (S "rights") 8 (pp 285 15 21)) .NotEq (.lcomp false zcr zck (.nm (S "places") 9 (pp 285 45 51)) zco zfv (pp 285 25 52)) (pp 285 15 52)) zgi zgh ⟨285,12,286,31⟩),(.ite (.cmp (.nm (S "rights") 8 (pp 287 15 21)) .NotEq (.list false [] (pp 287 25 27)) (pp 287 15 27)) za2 zcu ⟨287,12,290,58⟩)]
noncomputable def zgf:List IS:=[]
noncomputable def zct:List IS:=[(.asg (.nm (S "top") 7 (pp 277 8 11)) (.mcall (.nm (S "pile") 3 (pp 277 14 18)) .pop (pp 277 14 22) [] (pp 277 14 24)) (pp 277 8 24)),(.ite (.cmp (.call true (S "ISEOF") 25 (pp 278 11 16) [(.nm (S "top") 7 (pp 278 17 20))] (pp 278 11 21)) .Is (.con (.bool true) 0 (pp 278 25 29)) (pp 278 11 29)) zg0 zgz ⟨278,8,279,30⟩),(.ite (.cmp (.call true (S "ISTERMINAL") 23 (pp 280 11 21) [(.nm (S "top") 7 (pp 280 22 25))] (pp 280 11 26)) .Is (.con (.bool true) 0 (pp 280 30 34)) (pp 280 11 34)) zgy zgx ⟨280,8,281,28⟩),(.ite (.cmp (.call true (S "ISNONTERMINAL") 24 (pp 282 11 24) [(.nm (S "top") 7 (pp 282 25 28))] (pp 282 11 29)) .Is (.con (.bool true) 0 (pp 282 33 37)) (pp 282 11 37)) zgg zgf ⟨282,8,290,58⟩)]
noncomputable def zfs:IS:=(.for_ zda (.call true (S "range") 6 (pp 276 16 21) [(.con (.int (24)) 0 (pp 276 22 24))] (pp 276 16 25)) zct ⟨276,4,290,58⟩)
noncomputable def zfq:IS:=(.ret (.tup [(.nm (S "bag") 5 (pp 291 12 15)),(.nm (S "told") 4 (pp 291 17 21))] 0 (pp 291 11 22)) (pp 291 4 22))
noncomputable def zjm:List IS:=[zgu,zfs,zfq]
noncomputable def F_law_weighed:Stmt:=stAt pw3 76
noncomputable def zdf:IE:=(.nm (S "count") 3 (pp 293 17 22))
noncomputable def zc9:Tgt:=(.tup [((S "letter"),1,(pp 293 27 33)),((S "letters"),2,(pp 293 35 42)),((S "count"),3,(pp 293 44 49))] 0 (pp 293 27 49))
noncomputable def zdc:List IE:=[(.cmp (.nm (S "letter") 1 (pp 293 61 67)) .Eq (.nm (S "one") 5 (pp 293 71 74)) (pp 293 61 74))]
noncomputable def zgt:Scope:=⟨.function,[((S ".0"),.local),((S "letter"),.local),((S "letters"),.local),((S "count"),.local),((S "one"),.free)],false,false,[]⟩
noncomputable def zbd:IE:=(.call true (S "sum") 4 (pp 293 12 15) [(.lcomp false zdf zc9 (.nm (S "used") 2 (pp 293 53 57)) zdc zgt (pp 293 16 75))] (pp 293 12 76))
noncomputable def zba:Tgt:=(.nm (S "one") 1 (pp 293 81 84))
noncomputable def zbb:List IE:=[]
noncomputable def zgs:Scope:=⟨.function,[((S ".0"),.local),((S "one"),.cell),((S "sum"),.globalImplicit),((S "used"),.free)],false,false,[]⟩
noncomputable def zgr:IS:=(.asgC (.nm (S "uses") 4 (pp 293 4 8)) false zbd zba (.con (.str (S "sab")) 0 (pp 293 88 93)) zbb zgs (pp 293 11 94) (pp 293 4 94))
noncomputable def zdd:IE:=(.bin false (.nm (S "count") 3 (pp 294 18 23)) .Mult (.mcall (.nm (S "letters") 2 (pp 294 26 33)) .count (pp 294 26 39) [(.nm (S "other") 5 (pp 294 40 45))] (pp 294 26 46)) (pp 294 18 46))
noncomputable def zcl:Tgt:=(.tup [((S "letter"),1,(pp 294 51 57)),((S "letters"),2,(pp 294 59 66)),((S "count"),3,(pp 294 68 73))] 0 (pp 294 51 73))
noncomputable def zcp:List IE:=[(.cmp (.nm (S "letter") 1 (pp 294 85 91)) .Eq (.nm (S "one") 7 (pp 294 95 98)) (pp 294 85 98))]
noncomputable def zfw:Scope:=⟨.function,[((S ".0"),.local),((S "letter"),.local),((S "letters"),.local),((S "count"),.local),((S "one"),.free),((S "other"),.free)],false,false,[]⟩
noncomputable def za1:IE:=(.call true (S "sum") 4 (pp 294 13 16) [(.lcomp false zdd zcl (.nm (S "used") 4 (pp 294 77 81)) zcp zfw (pp 294 17 99))] (pp 294 13 100))
noncomputable def zaw:Tgt:=(.nm (S "other") 1 (pp 294 105 110))
noncomputable def zaz:List IE:=[]
noncomputable def zfu:Scope:=⟨.function,[((S ".0"),.local),((S "other"),.cell),((S "sum"),.globalImplicit),((S "one"),.free),((S "used"),.free)],false,false,[]⟩
noncomputable def za0:IE:=(.lcomp false za1 zaw (.con (.str (S "sab")) 0 (pp 294 114 119)) zaz zfu (pp 294 12 120))
noncomputable def zav:Tgt:=(.nm (S "one") 1 (pp 294 125 128))
noncomputable def zay:List IE:=[]
noncomputable def zft:Scope:=⟨.function,[((S ".0"),.local),((S "one"),.cell),((S "used"),.free)],false,false,[]⟩
noncomputable def zfr:IS:=(.asgC (.nm (S "born") 5 (pp 294 4 8)) false za0 zav (.con (.str (S "sab")) 0 (pp 294 132 137)) zay zft (pp 294 11 138) (pp 294 4 138))
noncomputable def zcq:IE:=(.ifx (.cmp (.item (.nm (S "uses") 6 (pp 295 38 42)) (.nm (S "k") 1 (pp 295 43 44)) (pp 295 38 45)) .Gt (.con (.int (0)) 0 (pp 295 48 49)) (pp 295 38 49)) (.bin false (.item (.nm (S "uses") 6 (pp 295 14 18)) (.nm (S "k") 1 (pp 295 19 20)) (pp 295 14 21)) .Sub (.item (.item (.nm (S "born") 7 (pp 295 24 28)) (.nm (S "k") 1 (pp 295 29 30)) (pp 295 24 31)) (.nm (S "k") 1 (pp 295 32 33)) (pp 295 24 34)) (pp 295 14 34)) (.con (.int (1)) 0 (pp 295 55 56)) (pp 295 14 56))
noncomputable def zfg:Tgt:=(.nm (S "k") 1 (pp 295 61 62))
noncomputable def zf6:List IE:=[]
noncomputable def zfp:Scope:=⟨.function,[((S ".0"),.local),((S "k"),.local),((S "born"),.free),((S "uses"),.free)],false,false,[]⟩
noncomputable def zfo:IS:=(.asgC (.nm (S "middle") 6 (pp 295 4 10)) false zcq zfg (.tup [(.con (.int (1)) 0 (pp 295 67 68)),(.con (.int (2)) 0 (pp 295 70 71))] 0 (pp 295 66 72)) zf6 zfp (pp 295 13 73) (pp 295 4 73))
noncomputable def zfn:IS:=(.swap [((S "above"),7,(pp 296 4 9)),((S "below"),8,(pp 296 11 16))] [(.bin false (.bin false (.item (.nm (S "middle") 6 (pp 296 20 26)) (.con (.int (0)) 0 (pp 296 27 28)) (pp 296 20 29)) .Mult (.item (.nm (S "middle") 6 (pp 296 32 38)) (.con (.int (1)) 0 (pp 296 39 40)) (pp 296 32 41)) (pp 296 20 41)) .Sub (.bin false (.item (.item (.nm (S "born") 5 (pp 296 44 48)) (.con (.int (1)) 0 (pp 296 49 50)) (pp 296 44 51)) (.con (.int (2)) 0 (pp 296 52 53)) (pp 296 44 54)) .Mult (.item (.item (.nm (S "born") 5 (pp 296 57 61)) (.con (.int (2)) 0 (pp 296 62 63)) (pp 296 57 64)) (.con (.int (1)) 0 (pp 296 65 66)) (pp 296 57 67)) (pp 296 44 67)) (pp 296 20 67)),(.con (.int (1)) 0 (pp 296 69 70))] 0 0 (pp 296 4 16) (pp 296 19 71) (pp 296 4 71))
noncomputable def zfm:IS:=(.asg (.nm (S "products") 9 (pp 297 4 12)) (.list false [(.con (.int (1)) 0 (pp 297 16 17)),(.con (.int (1)) 0 (pp 297 19 20)),(.con (.int (2)) 0 (pp 297 22 23)),(.con (.int (6)) 0 (pp 297 25 26)),(.con (.int (24)) 0 (pp 297 28 30)),(.con (.int (120)) 0 (pp 297 32 35)),(.con (.int (720)) 0 (pp 297 37 40)),(.con (.int (5040)) 0 (pp 297 42 46))] (pp 297 15 47)) (pp 297 4 47))
noncomputable def zbm:Tgt:=(.nm (S "number") 10 (pp 298 8 14))
noncomputable def zbq:List IS:=[(.asg (.nm (S "above") 7 (pp 299 8 13)) (.bin false (.nm (S "above") 7 (pp 299 16 21)) .Mult (.item (.nm (S "products") 9 (pp 299 24 32)) (.call true (S "max") 3 (pp 299 33 36) [(.bin false (.nm (S "number") 10 (pp 299 37 43)) .Sub (.con (.int (1)) 0 (pp 299 46 47)) (pp 299 37 47)),(.con (.int (0)) 0 (pp 299 49 50))] (pp 299 33 51)) (pp 299 24 52)) (pp 299 16 52)) (pp 299 8 52))]
noncomputable def zfl:IS:=(.for_ zbm (.nm (S "uses") 4 (pp 298 18 22)) zbq ⟨298,4,299,52⟩)
noncomputable def zcj:Tgt:=(.tup [((S "letter"),1,(pp 300 8 14)),((S "letters"),2,(pp 300 16 23)),((S "count"),3,(pp 300 25 30))] 0 (pp 300 8 30))
noncomputable def zcs:List IS:=[(.asg (.nm (S "below") 8 (pp 301 8 13)) (.bin false (.nm (S "below") 8 (pp 301 16 21)) .Mult (.item (.nm (S "products") 9 (pp 301 24 32)) (.nm (S "count") 3 (pp 301 33 38)) (pp 301 24 39)) (pp 301 16 39)) (pp 301 8 39))]
noncomputable def zfk:IS:=(.for_ zcj (.nm (S "used") 0 (pp 300 34 38)) zcs ⟨300,4,301,39⟩)
noncomputable def zfj:IS:=(.ret (.tup [(.nm (S "above") 7 (pp 302 12 17)),(.nm (S "below") 8 (pp 302 19 24))] 0 (pp 302 11 25)) (pp 302 4 25))
noncomputable def zjl:List IS:=[zgr,zfr,zfo,zfn,zfm,zfl,zfk,zfj]
noncomputable def F_law_trees:Stmt:=stAt pw3 77
noncomputable def ze0:IE:=(.nm (S "count") 3 (pp 304 19 24))
noncomputable def zeu:Tgt:=(.tup [((S "letter"),1,(pp 304 29 35)),((S "letters"),2,(pp 304 37 44)),((S "count"),3,(pp 304 46 51))] 0 (pp 304 29 51))
noncomputable def zey:List IE:=[]
noncomputable def zj4:Scope:=⟨.function,[((S ".0"),.local),((S "letter"),.local),((S "letters"),.local),((S "count"),.local)],false,false,[]⟩
noncomputable def zj2:IS:=(.asg (.nm (S "rows") 1 (pp 304 4 8)) (.list true [(.tup [(.con (.str (S "s")) 0 (pp 304 13 16)),(.lcomp false ze0 zeu (.nm (S "used") 0 (pp 304 55 59)) zey zj4 (pp 304 18 60))] 0 (pp 304 12 61))] (pp 304 11 62)) (pp 304 4 62))
noncomputable def zes:Tgt:=(.nm (S "turn") 2 (pp 305 8 12))
noncomputable def zer:Tgt:=(.tup [((S "pending"),4,(pp 307 12 19)),((S "left"),5,(pp 307 21 25))] 0 (pp 307 12 25))
noncomputable def zci:Tgt:=(.tup [((S "k"),6,(pp 308 16 17)),((S "rule"),7,(pp 308 19 23))] 0 (pp 308 16 23))
noncomputable def zk3:List IS:=[(.expr (.mcall (.nm (S "fresh") 3 (pp 310 20 25)) .append (pp 310 20 32) [(.tup [(.bin false (.item (.nm (S "rule") 7 (pp 310 34 38)) (.con (.int (1)) 0 (pp 310 39 40)) (pp 310 34 41)) .Add (.slice false (.nm (S "pending") 4 (pp 310 44 51)) (.con (.int (1)) 0 (pp 310 52 53)) .absent .absent (pp 310 52 54) (pp 310 44 55)) (pp 310 34 55)),(.bin false (.bin false (.slice false (.nm (S "left") 5 (pp 310 57 61)) .absent (.nm (S "k") 6 (pp 310 63 64)) .absent (pp 310 62 64) (pp 310 57 65)) .Add (.list false [(.bin false (.item (.nm (S "left") 5 (pp 310 69 73)) (.nm (S "k") 6 (pp 310 74 75)) (pp 310 69 76)) .Sub (.con (.int (1)) 0 (pp 310 79 80)) (pp 310 69 80))] (pp 310 68 81)) (pp 310 57 81)) .Add (.slice false (.nm (S "left") 5 (pp 310 84 88)) (.bin false (.nm (S "k") 6 (pp 310 89 90)) .Add (.con (.int (1)) 0 (pp 310 93 94)) (pp 310 89 94)) .absent .absent (pp 310 89 95) (pp 310 84 96)) (pp 310 57 96))] 0 (pp 310 33 97))] (pp 310 20 98)) (pp 310 20 98))]
noncomputable def zk1:List IS:=[]
noncomputable def zcg:List IS:=[(.ite (.bools .And [(.cmp (.item (.nm (S "left") 5 (pp 309 19 23)) (.nm (S "k") 6 (pp 309 24 25)) (pp 309 19 26)) .Gt (.con (.int (0)) 0 (pp 309 29 30)) (pp 309 19 30)),(.cmp (.slice false (.nm (S "pending") 4 (pp 309 35 42)) .absent (.con (.int (1)) 0 (pp 309 44 45)) .absent (pp 309 43 45) (pp 309 35 46)) .Eq (.item (.nm (S "rule") 7 (pp 309 50 54)) (.con (.int (0)) 0 (pp 309 55 56)) (pp 309 50 57)) (pp 309 35 57)),(.cmp (.bin false (.call true (S "len") 0 (pp 309 63 66) [(.nm (S "pending") 4 (pp 309 67 74))] (pp 309 63 75)) .Add (.call true (S "len") 0 (pp 309 78 81) [(.item (.nm (S "rule") 7 (pp 309 82 86)) (.con (.int (1)) 0 (pp 309 87 88)) (pp 309 82 89))] (pp 309 78 90)) (pp 309 63 90)) .LtE (.call true (S "sum") 4 (pp 309 94 97) [(.nm (S "left") 5 (pp 309 98 102))] (pp 309 94 103)) (pp 309 63 103))] (pp 309 19 104)) zk3 zk1 ⟨309,16,310,98⟩)]
noncomputable def zeb:List IS:=[(.for_ zci (.itf .enum (S "enumerate") 7 (pp 308 27 36) [(.nm (S "used") 0 (pp 308 37 41))] (pp 308 27 42)) zcg ⟨308,12,310,98⟩)]
noncomputable def zea:List IS:=[(.asg (.nm (S "fresh") 3 (pp 306 8 13)) (.list true [] (pp 306 16 18)) (pp 306 8 18)),(.for_ zer (.nm (S "rows") 1 (pp 307 29 33)) zeb ⟨307,8,310,98⟩),(.asg (.nm (S "rows") 1 (pp 311 8 12)) (.nm (S "fresh") 3 (pp 311 15 20)) (pp 311 8 20))]
noncomputable def zh5:IS:=(.for_ zes (.call true (S "range") 6 (pp 305 16 21) [(.call true (S "sum") 4 (pp 305 22 25) [(.item (.item (.nm (S "rows") 1 (pp 305 26 30)) (.con (.int (0)) 0 (pp 305 31 32)) (pp 305 26 33)) (.con (.int (1)) 0 (pp 305 34 35)) (pp 305 26 36))] (pp 305 22 37))] (pp 305 16 38)) zea ⟨305,4,311,20⟩)
noncomputable def zd1:IE:=(.nm (S "pending") 1 (pp 312 16 23))
noncomputable def zdq:Tgt:=(.tup [((S "pending"),1,(pp 312 28 35)),((S "left"),2,(pp 312 37 41))] 0 (pp 312 28 41))
noncomputable def zdx:List IE:=[(.cmp (.nm (S "pending") 1 (pp 312 53 60)) .Eq (.con (.str (S "")) 0 (pp 312 64 66)) (pp 312 53 66))]
noncomputable def zh3:Scope:=⟨.function,[((S ".0"),.local),((S "pending"),.local),((S "left"),.local)],false,false,[]⟩
noncomputable def zh2:IS:=(.ret (.call true (S "len") 0 (pp 312 11 14) [(.lcomp false zd1 zdq (.nm (S "rows") 1 (pp 312 45 49)) zdx zh3 (pp 312 15 67))] (pp 312 11 68)) (pp 312 4 68))
noncomputable def zmy:List IS:=[zj2,zh5,zh2]
noncomputable def F_law:Stmt:=stAt pw3 78
noncomputable def zzw:IS:=(.asg (.nm (S "cells") 1 (pp 314 4 9)) (.list true [(.con (.int (11756)) 0 (pp 314 13 18)),(.con (.int (13113)) 0 (pp 314 20 25)),(.con (.int (8836)) 0 (pp 314 27 31)),(.con (.int (13)) 0 (pp 314 33 35)),(.con (.int (6)) 0 (pp 314 37 38)),(.con (.int (20)) 0 (pp 314 40 42)),(.con (.int (40007)) 0 (pp 314 44 49))] (pp 314 12 50)) (pp 314 4 50))
noncomputable def zzj:Tgt:=(.tup [((S "place"),2,(pp 315 8 13)),((S "number"),3,(pp 315 15 21))] 0 (pp 315 8 21))
noncomputable def z0w:List IS:=[(.setI (.nm (S "cells") 1 (pp 316 8 13)) (.bin false (.nm (S "place") 2 (pp 316 14 19)) .Mod (.con (.int (7)) 0 (pp 316 22 23)) (pp 316 14 23)) (.bin false (.item (.nm (S "cells") 1 (pp 316 27 32)) (.bin false (.nm (S "place") 2 (pp 316 33 38)) .Mod (.con (.int (7)) 0 (pp 316 41 42)) (pp 316 33 42)) (pp 316 27 43)) .Add (.nm (S "number") 3 (pp 316 46 52)) (pp 316 27 52)) (pp 316 8 24) (pp 316 8 52))]
noncomputable def zzv:IS:=(.for_ zzj (.itf .enum (S "enumerate") 7 (pp 315 25 34) [(.slice false (.nm (S "script") 0 (pp 315 35 41)) .absent (.con (.int (60)) 0 (pp 315 43 45)) .absent (pp 315 42 45) (pp 315 35 46))] (pp 315 25 47)) z0w ⟨315,4,316,52⟩)
noncomputable def zzu:IS:=(.asg (.tup [((S "table"),4,(pp 317 4 9)),((S "kept"),5,(pp 317 11 15)),((S "due"),6,(pp 317 17 20)),((S "answers"),7,(pp 317 22 29))] 0 (pp 317 4 29)) (.call true (S "_law_table") 28 (pp 317 32 42) [(.slice false (.nm (S "cells") 1 (pp 317 43 48)) .absent (.con (.int (3)) 0 (pp 317 50 51)) .absent (pp 317 49 51) (pp 317 43 52))] (pp 317 32 53)) (pp 317 4 53))
noncomputable def zzt:IS:=(.asg (.nm (S "rules") 8 (pp 318 4 9)) (.list true [] (pp 318 12 14)) (pp 318 4 14))
noncomputable def zzi:Tgt:=(.tup [((S "name"),9,(pp 319 8 12)),((S "right"),10,(pp 319 14 19))] 0 (pp 319 8 19))
noncomputable def z0n:IE:=(.nm (S "one") 1 (pp 320 24 27))
noncomputable def zzh:Tgt:=(.nm (S "one") 1 (pp 320 32 35))
noncomputable def z0f:List IE:=[(.cmp (.nm (S "one") 1 (pp 320 48 51)) .NotIn (.con (.str (S "sabSAB ")) 0 (pp 320 59 68)) (pp 320 48 68))]
noncomputable def z2a:Scope:=⟨.function,[((S ".0"),.local),((S "one"),.local)],false,false,[]⟩
noncomputable def zt3:IE:=(.mcall (.nm (S "one") 1 (pp 321 45 48)) .lower (pp 321 45 54) [] (pp 321 45 56))
noncomputable def zql:Tgt:=(.nm (S "one") 1 (pp 321 61 64))
noncomputable def ztc:List IE:=[(.cmp (.nm (S "one") 1 (pp 321 77 80)) .In (.con (.str (S "sabSAB")) 0 (pp 321 84 92)) (pp 321 77 92))]
noncomputable def z19:Scope:=⟨.function,[((S ".0"),.local),((S "one"),.local)],false,false,[]⟩
noncomputable def zuy:List IS:=[(.asg (.nm (S "sign") 11 (pp 320 8 12)) (.mcall (.con (.str (S "")) 0 (pp 320 15 17)) .join (pp 320 15 22) [(.lcomp false z0n zzh (.nm (S "right") 10 (pp 320 39 44)) z0f z2a (pp 320 23 69))] (pp 320 15 70)) (pp 320 8 70)),(.expr (.mcall (.nm (S "rules") 8 (pp 321 8 13)) .append (pp 321 8 20) [(.tup [(.mcall (.nm (S "name") 9 (pp 321 22 26)) .lower (pp 321 22 32) [] (pp 321 22 34)),(.mcall (.con (.str (S "")) 0 (pp 321 36 38)) .join (pp 321 36 43) [(.lcomp false zt3 zql (.nm (S "right") 10 (pp 321 68 73)) ztc z19 (pp 321 44 93))] (pp 321 36 94)),(.bin false (.mcall (.call true (S "_law_signs") 26 (pp 321 96 106) [] (pp 321 96 108)) .index (pp 321 96 114) [(.nm (S "sign") 11 (pp 321 115 119))] (pp 321 96 120)) .Add (.con (.int (7)) 0 (pp 321 123 124)) (pp 321 96 124))] 0 (pp 321 21 125))] (pp 321 8 126)) (pp 321 8 126))]
noncomputable def zrl:IS:=(.for_ zzi (.nm (S "due") 6 (pp 319 23 26)) zuy ⟨319,4,321,126⟩)
noncomputable def zrk:IS:=(.asg (.tup [((S "bag"),12,(pp 322 4 7)),((S "told"),13,(pp 322 9 13))] 0 (pp 322 4 13)) (.call true (S "_law_derived") 30 (pp 322 16 28) [(.nm (S "table") 4 (pp 322 29 34)),(.nm (S "due") 6 (pp 322 36 39)),(.slice true (.nm (S "cells") 1 (pp 322 41 46)) (.con (.int (3)) 0 (pp 322 47 48)) (.con (.int (6)) 0 (pp 322 49 50)) .absent (pp 322 47 50) (pp 322 41 51))] (pp 322 16 52)) (pp 322 4 52))
noncomputable def zit:IE:=(.item (.nm (S "rule") 1 (pp 323 17 21)) (.con (.int (2)) 0 (pp 323 22 23)) (pp 323 17 24))
noncomputable def zlk:Tgt:=(.tup [((S "rule"),1,(pp 323 29 33)),((S "count"),2,(pp 323 35 40))] 0 (pp 323 29 40))
noncomputable def zmc:List IE:=[]
noncomputable def zmi:IE:=(.call true (S "range") 6 (pp 323 88 93) [(.nm (S "count") 2 (pp 323 94 99))] (pp 323 88 100))
noncomputable def zin:List IE:=[]
noncomputable def z18:Scope:=⟨.function,[((S ".0"),.local),((S "rule"),.local),((S "count"),.local),((S "once"),.local),((S "range"),.globalImplicit)],false,false,[]⟩
noncomputable def zrj:IS:=(.asgD (.nm (S "operators") 14 (pp 323 4 13)) false zit zlk (.itf .zip (S "zip") 8 (pp 323 44 47) [(.nm (S "rules") 8 (pp 323 48 53)),(.call true (S "_int2digits") 19 (pp 323 55 66) [(.nm (S "bag") 12 (pp 323 67 70)),(.con (.int (3)) 0 (pp 323 72 73))] (pp 323 55 74))] (pp 323 44 75)) zmc (S "once") 3 (pp 323 80 84) zmi zin z18 (pp 323 16 101) (pp 323 4 101))
noncomputable def z4y:List IS:=[(.ret (.con (.bool false) 0 (pp 325 15 20)) (pp 325 8 20))]
noncomputable def z4x:List IS:=[]
noncomputable def zri:IS:=(.ite (.bools .Or [(.cmp (.nm (S "kept") 5 (pp 324 7 11)) .NotEq (.nm (S "due") 6 (pp 324 15 18)) (pp 324 7 18)),(.cmp (.cmcall (.nm (S "table") 4 (pp 324 22 27)) (S "items") 139 (pp 324 22 33) [] [] [] (pp 324 22 35)) .NotEq (.nm (S "due") 6 (pp 324 39 42)) (pp 324 22 42)),(.cmp (.con (.bool false) 0 (pp 324 46 51)) .In (.nm (S "answers") 7 (pp 324 55 62)) (pp 324 46 62)),(.cmp (.call true (S "sorted") 5 (pp 324 67 73) [(.nm (S "told") 13 (pp 324 74 78))] (pp 324 67 79)) .NotEq (.call true (S "sorted") 5 (pp 324 83 89) [(.nm (S "operators") 14 (pp 324 90 99))] (pp 324 83 100)) (pp 324 67 100))] (pp 324 7 101)) z4y z4x ⟨324,4,325,20⟩)
noncomputable def zrh:IS:=(.swap [((S "way"),15,(pp 326 4 7)),((S "side"),16,(pp 326 9 13))] [(.bin false (.con (.int (1)) 0 (pp 326 17 18)) .Sub (.bin false (.bin false (.item (.nm (S "cells") 1 (pp 326 21 26)) (.con (.int (6)) 0 (pp 326 27 28)) (pp 326 21 29)) .Mod (.con (.int (2)) 0 (pp 326 32 33)) (pp 326 21 33)) .Mult (.con (.int (2)) 0 (pp 326 36 37)) (pp 326 21 37)) (pp 326 17 37)),(.bin false (.con (.int (1)) 0 (pp 326 39 40)) .Sub (.bin false (.bin false (.bin false (.item (.nm (S "cells") 1 (pp 326 43 48)) (.con (.int (6)) 0 (pp 326 49 50)) (pp 326 43 51)) .FloorDiv (.con (.int (2)) 0 (pp 326 55 56)) (pp 326 43 56)) .Mod (.con (.int (2)) 0 (pp 326 59 60)) (pp 326 43 60)) .Mult (.con (.int (2)) 0 (pp 326 63 64)) (pp 326 43 64)) (pp 326 39 64))] 0 0 (pp 326 4 13) (pp 326 16 65) (pp 326 4 65))
noncomputable def zff:Tgt:=(.nm (S "number") 3 (pp 327 8 14))
noncomputable def zt2:IE:=(.bin false (.nm (S "bag") 15 (pp 327 27 30)) .Add (.bin false (.con (.int (8)) 0 (pp 327 33 34)) .Pow (.nm (S "k") 1 (pp 327 38 39)) (pp 327 33 39)) (pp 327 27 39))
noncomputable def zqk:Tgt:=(.tup [((S "k"),1,(pp 327 44 45)),((S "rule"),2,(pp 327 47 51))] 0 (pp 327 44 51))
noncomputable def zs9:List IE:=[(.cmp (.item (.nm (S "rule") 2 (pp 327 75 79)) (.con (.int (0)) 0 (pp 327 80 81)) (pp 327 75 82)) .Eq (.item (.nm (S "rule") 2 (pp 327 86 90)) (.con (.int (1)) 0 (pp 327 91 92)) (pp 327 86 93)) (pp 327 75 93))]
noncomputable def z17:Scope:=⟨.function,[((S ".0"),.local),((S "k"),.local),((S "rule"),.local),((S "bag"),.free)],false,false,[]⟩
noncomputable def zmh:IE:=(.tup [(.item (.nm (S "rule") 1 (pp 328 17 21)) (.con (.int (0)) 0 (pp 328 22 23)) (pp 328 17 24)),(.item (.nm (S "rule") 1 (pp 328 26 30)) (.con (.int (1)) 0 (pp 328 31 32)) (pp 328 26 33)),(.nm (S "count") 2 (pp 328 35 40))] 0 (pp 328 16 41))
noncomputable def zlj:Tgt:=(.tup [((S "rule"),1,(pp 328 46 50)),((S "count"),2,(pp 328 52 57))] 0 (pp 328 46 57))
noncomputable def zmb:List IE:=[(.cmp (.nm (S "count") 2 (pp 328 99 104)) .Gt (.con (.int (0)) 0 (pp 328 107 108)) (pp 328 99 108))]
noncomputable def z16:Scope:=⟨.function,[((S ".0"),.local),((S "rule"),.local),((S "count"),.local)],false,false,[]⟩
noncomputable def zt1:IE:=(.nm (S "part") 1 (pp 332 73 77))
noncomputable def zqj:Tgt:=(.nm (S "part") 1 (pp 332 82 86))
noncomputable def zs8:List IE:=[(.cmp (.call true (S "type") 12 (pp 332 100 104) [(.nm (S "part") 1 (pp 332 105 109))] (pp 332 100 110)) .IsNot (.gl (S "int") 11 (pp 332 118 121)) (pp 332 100 121))]
noncomputable def z13:Scope:=⟨.function,[((S ".0"),.local),((S "part"),.local),((S "type"),.globalImplicit),((S "int"),.globalImplicit)],false,false,[]⟩
noncomputable def z4r:List IS:=[(.ret (.con (.bool false) 0 (pp 333 19 24)) (pp 333 12 24))]
noncomputable def z4q:List IS:=[]
noncomputable def zge:List IS:=[(.asgC (.nm (S "used") 17 (pp 328 8 12)) false zmh zlj (.itf .zip (S "zip") 8 (pp 328 61 64) [(.nm (S "rules") 8 (pp 328 65 70)),(.call true (S "_int2digits") 19 (pp 328 72 83) [(.nm (S "number") 3 (pp 328 84 90)),(.con (.int (3)) 0 (pp 328 92 93))] (pp 328 72 94))] (pp 328 61 95)) zmb z16 (pp 328 15 109) (pp 328 8 109)),(.asg (.tup [((S "above"),18,(pp 329 8 13)),((S "below"),19,(pp 329 15 20))] 0 (pp 329 8 20)) (.call true (S "_law_weighed") 31 (pp 329 23 35) [(.nm (S "used") 17 (pp 329 36 40))] (pp 329 23 41)) (pp 329 8 41)),(.swap [((S "more"),20,(pp 330 8 12)),((S "added"),21,(pp 330 14 19))] [(.bin false (.bin false (.bin false (.item (.nm (S "cells") 1 (pp 330 23 28)) (.con (.int (6)) 0 (pp 330 29 30)) (pp 330 23 31)) .FloorDiv (.con (.int (4)) 0 (pp 330 35 36)) (pp 330 23 36)) .FloorDiv (.nm (S "below") 19 (pp 330 40 45)) (pp 330 23 45)) .Mod (.bin false (.con (.int (10)) 0 (pp 330 48 50)) .Pow (.con (.int (6)) 0 (pp 330 54 55)) (pp 330 48 55)) (pp 330 23 55)),(.bin false (.bin false (.item (.nm (S "cells") 1 (pp 330 57 62)) (.con (.int (6)) 0 (pp 330 63 64)) (pp 330 57 65)) .FloorDiv (.con (.int (4)) 0 (pp 330 69 70)) (pp 330 57 70)) .Mod (.nm (S "below") 19 (pp 330 73 78)) (pp 330 57 78))] 0 0 (pp 330 8 19) (pp 330 22 79) (pp 330 8 79)),(.asg (.nm (S "answer") 22 (pp 331 8 14)) (.call true (S "int_divmod") 22 (pp 331 17 27) [(.bin false (.nm (S "side") 16 (pp 331 28 32)) .Mult (.bin false (.bin false (.nm (S "way") 15 (pp 331 36 39)) .Mult (.bin false (.nm (S "above") 18 (pp 331 43 48)) .Add (.bin false (.nm (S "more") 20 (pp 331 51 55)) .Mult (.nm (S "below") 19 (pp 331 58 63)) (pp 331 51 63)) (pp 331 43 63)) (pp 331 36 64)) .Add (.nm (S "added") 21 (pp 331 67 72)) (pp 331 36 72)) (pp 331 28 73)),(.bin false (.nm (S "side") 16 (pp 331 75 79)) .Mult (.nm (S "below") 19 (pp 331 82 87)) (pp 331 75 87))] (pp 331 17 88)) (pp 331 8 88)),(.ite (.bools .Or [(.cmp (.nm (S "answer") 22 (pp 332 11 17)) .NotEq (.tup [(.bin false (.nm (S "way") 15 (pp 332 22 25)) .Mult (.bin false (.call true (S "_law_trees") 32 (pp 332 29 39) [(.nm (S "used") 17 (pp 332 40 44))] (pp 332 29 45)) .Add (.nm (S "more") 20 (pp 332 48 52)) (pp 332 29 52)) (pp 332 22 53)),(.bin false (.nm (S "side") 16 (pp 332 55 59)) .Mult (.nm (S "added") 21 (pp 332 62 67)) (pp 332 55 67))] 0 (pp 332 21 68)) (pp 332 11 68)),(.cmp (.lcomp false zt1 zqj (.nm (S "answer") 22 (pp 332 90 96)) zs8 z13 (pp 332 72 122)) .NotEq (.list false [] (pp 332 126 128)) (pp 332 72 128))] (pp 332 11 128)) z4r z4q ⟨332,8,333,24⟩)]
noncomputable def zrg:IS:=(.for_ zff (.bin false (.list false [(.nm (S "bag") 12 (pp 327 19 22))] (pp 327 18 23)) .Add (.slice false (.lcomp false zt2 zqk (.itf .enum (S "enumerate") 7 (pp 327 55 64) [(.nm (S "rules") 8 (pp 327 65 70))] (pp 327 55 71)) zs9 z17 (pp 327 26 94)) .absent (.con (.int (1)) 0 (pp 327 96 97)) .absent (pp 327 95 97) (pp 327 26 98)) (pp 327 18 98)) zge ⟨327,4,333,24⟩)
noncomputable def zrf:IS:=(.ret (.con (.bool true) 0 (pp 334 11 15)) (pp 334 4 15))
noncomputable def I_law:List IS:=[zzw,zzv,zzu,zzt,zrl,zrk,zrj,zri,zrh,zrg,zrf]
noncomputable def F_i2d:Stmt:=(bodyOf F_int2digits).getD 1 default
noncomputable def b0_i2d:List IS:=[(.setI (.nm (S "a_digits") 7 (pp 135 12 20)) (.nm (S "L") 1 (pp 135 21 22)) (.nm (S "x") 0 (pp 135 26 27)) (pp 135 12 23) (pp 135 12 27)),(.retN (pp 136 12 18))]
noncomputable def b1_i2d:List IS:=[]
noncomputable def s2_i2d:IS:=(.ite (.cmp (.bin false (.nm (S "L") 1 (pp 134 11 12)) .Add (.con (.int (1)) 0 (pp 134 15 16)) (pp 134 11 16)) .Eq (.nm (S "R") 2 (pp 134 20 21)) (pp 134 11 21)) b0_i2d b1_i2d ⟨134,8,136,18⟩)
noncomputable def s3_i2d:IS:=(.asg (.nm (S "mid") 3 (pp 137 8 11)) (.bin false (.bin false (.nm (S "L") 1 (pp 137 14 15)) .Add (.nm (S "R") 2 (pp 137 18 19)) (pp 137 14 19)) .RShift (.con (.int (1)) 0 (pp 137 23 24)) (pp 137 14 24)) (pp 137 8 24))
noncomputable def s4_i2d:IS:=(.asg (.nm (S "shift") 4 (pp 138 8 13)) (.bin false (.bin false (.nm (S "mid") 3 (pp 138 17 20)) .Sub (.nm (S "L") 1 (pp 138 23 24)) (pp 138 17 24)) .Mult (.nm (S "n") 9 (pp 138 28 29)) (pp 138 16 29)) (pp 138 8 29))
noncomputable def s5_i2d:IS:=(.asg (.nm (S "upper") 5 (pp 139 8 13)) (.bin false (.nm (S "x") 0 (pp 139 16 17)) .RShift (.nm (S "shift") 4 (pp 139 21 26)) (pp 139 16 26)) (pp 139 8 26))
noncomputable def s6_i2d:IS:=(.asg (.nm (S "lower") 6 (pp 140 8 13)) (.bin false (.nm (S "x") 0 (pp 140 16 17)) .BitXor (.bin false (.nm (S "upper") 5 (pp 140 20 25)) .LShift (.nm (S "shift") 4 (pp 140 29 34)) (pp 140 20 34)) (pp 140 16 34)) (pp 140 8 34))
noncomputable def zoc:List IE:=[(.nm (S "lower") 6 (pp 141 14 19)),(.nm (S "L") 1 (pp 141 21 22)),(.nm (S "mid") 3 (pp 141 24 27))]
noncomputable def zzr:IS:=(.expr (.call false (S "inner") 8 (pp 141 8 13) zoc (pp 141 8 28)) (pp 141 8 28))
noncomputable def zob:List IE:=[(.nm (S "upper") 5 (pp 142 14 19)),(.nm (S "mid") 3 (pp 142 21 24)),(.nm (S "R") 2 (pp 142 26 27))]
noncomputable def zrm:IS:=(.expr (.call false (S "inner") 8 (pp 142 8 13) zob (pp 142 8 28)) (pp 142 8 28))
noncomputable def F_d2i:Stmt:=(bodyOf F_digits2int).getD 0 default
noncomputable def b0_d2i:List IS:=[(.ret (.item (.nm (S "digits") 4 (pp 150 19 25)) (.nm (S "L") 0 (pp 150 26 27)) (pp 150 19 28)) (pp 150 12 28))]
noncomputable def b1_d2i:List IS:=[]
noncomputable def s2_d2i:IS:=(.ite (.cmp (.bin false (.nm (S "L") 0 (pp 149 11 12)) .Add (.con (.int (1)) 0 (pp 149 15 16)) (pp 149 11 16)) .Eq (.nm (S "R") 1 (pp 149 20 21)) (pp 149 11 21)) b0_d2i b1_d2i ⟨149,8,150,28⟩)
noncomputable def s3_d2i:IS:=(.asg (.nm (S "mid") 2 (pp 151 8 11)) (.bin false (.bin false (.nm (S "L") 0 (pp 151 14 15)) .Add (.nm (S "R") 1 (pp 151 18 19)) (pp 151 14 19)) .RShift (.con (.int (1)) 0 (pp 151 23 24)) (pp 151 14 24)) (pp 151 8 24))
noncomputable def s4_d2i:IS:=(.asg (.nm (S "shift") 3 (pp 152 8 13)) (.bin false (.bin false (.nm (S "mid") 2 (pp 152 17 20)) .Sub (.nm (S "L") 0 (pp 152 23 24)) (pp 152 17 24)) .Mult (.nm (S "n") 6 (pp 152 28 29)) (pp 152 16 29)) (pp 152 8 29))
noncomputable def zoe:List IE:=[(.nm (S "mid") 2 (pp 153 22 25)),(.nm (S "R") 1 (pp 153 27 28))]
noncomputable def zod:List IE:=[(.nm (S "L") 0 (pp 153 48 49)),(.nm (S "mid") 2 (pp 153 51 54))]
noncomputable def zzs:IS:=(.ret (.bin false (.bin false (.call false (S "inner") 5 (pp 153 16 21) zoe (pp 153 16 29)) .LShift (.nm (S "shift") 3 (pp 153 33 38)) (pp 153 16 38)) .Add (.call false (S "inner") 5 (pp 153 42 47) zod (pp 153 42 55)) (pp 153 15 55)) (pp 153 8 55))
theorem T_init (T:Tab):Tx (law3.prm T) F_init I_init [(S "self",0),(S "headers",1)]:=by constructor <;> kernel_rfl
theorem T_conv (T:Tab):Tx (law3.prm T) F_conv I_conv [(S "self",0),(S "value",1),(S "name",2)]:=by constructor <;> kernel_rfl
theorem zzd (T:Tab):Tx (law3.prm T) F_getall zze [(S "self",0),(S "name",1)]:=by constructor <;> kernel_rfl
theorem T_get (T:Tab):Tx (law3.prm T) F_get I_get [(S "self",0),(S "name",1),(S "default",2)]:=by constructor <;> kernel_rfl
theorem z5o (T:Tab):Tx (law3.prm T) F_items z5r [(S "self",0)]:=by constructor <;> kernel_rfl
theorem T_setd (T:Tab):Tx (law3.prm T) F_setd I_setd [(S "self",0),(S "name",1),(S "value",2)]:=by constructor <;> kernel_rfl
theorem zu8 (T:Tab):Tx (law3.prm T) F_div2n1n zvb [(S "a",0),(S "b",1),(S "n",2)]:=by constructor <;> kernel_rfl
theorem zla (T:Tab):Tx (law3.prm T) F_divmod_pos zle [(S "a",0),(S "b",1)]:=by constructor <;> kernel_rfl
theorem zcv (T:Tab):Tx (law3.prm T) F_int_divmod ze2 [(S "a",0),(S "b",1)]:=by constructor <;> kernel_rfl
theorem zlc (T:Tab):Tx (law3.prm T) F_ISTERMINAL zlf [(S "x",0)]:=by constructor <;> kernel_rfl
theorem zgm (T:Tab):Tx (law3.prm T) F_ISNONTERMINAL zgn [(S "x",0)]:=by constructor <;> kernel_rfl
theorem z5p (T:Tab):Tx (law3.prm T) F_ISEOF z5s [(S "x",0)]:=by constructor <;> kernel_rfl
theorem zu6 (T:Tab):Tx (law3.prm T) F_setitem zva [(S "self",0),(S "name",1),(S "val",2)]:=by constructor <;> kernel_rfl
theorem zu9 (T:Tab):Tx (law3.prm T) F_delitem zvc [(S "self",0),(S "name",1)]:=by constructor <;> kernel_rfl
theorem zmw (T:Tab):Tx (law3.prm T) F_law_signs zm0 []:=by constructor <;> kernel_rfl
theorem zmx (T:Tab):Tx (law3.prm T) F_law_right zm1 [(S "number",0)]:=by constructor <;> kernel_rfl
theorem zmv (T:Tab):Tx (law3.prm T) F_law_table zmz [(S "cells",0)]:=by constructor <;> kernel_rfl
theorem zp7 (T:Tab):Tx (law3.prm T) F_law_read zp9 [(S "text",0)]:=by constructor <;> kernel_rfl
theorem zjk (T:Tab):Tx (law3.prm T) F_law_derived zjm [(S "table",0),(S "due",1),(S "choices",2)]:=by constructor <;> kernel_rfl
theorem zjj (T:Tab):Tx (law3.prm T) F_law_weighed zjl [(S "used",0)]:=by constructor <;> kernel_rfl
theorem zmu (T:Tab):Tx (law3.prm T) F_law_trees zmy [(S "used",0)]:=by constructor <;> kernel_rfl
theorem T_law (T:Tab):Tx (law3.prm T) F_law I_law [(S "script",0)]:=by constructor <;> kernel_rfl
noncomputable def tokS (f:Int -> Bool):Spec:=Sp (fun i=>[.int i]) [] noKw fun i cs K=>K (.bool (f i)) cs
structure CvA where
 self:V
 x:Str
 b:Bool
noncomputable def convS:Spec:=Sp (fun p:CvA=>[p.self,.str p.x]) [S "name"] (fun p=>[.bool p.b]) fun p cs K=>p.x.cps.toList.any (cond p.b nameBad valBad) = false /\ K (.str p.x) cs
noncomputable def P0:Prm:=law3.prm []
section
variable {C:Cx} {K:Frag} (F2:Facts2 C P0 K) (L:LimAt C)
include F2 L
theorem znm (Fk:FnK K 245 F_ISEOF) (B:Bd1 K 245 (S "x")):FnOk C.up 245 (tokS fun i=>decide (i = 0)) :=
 fn1 (sl:=fun i=>[some (.int i)]) F2 L Fk (z5p []) B (fun _=>rfl) fun i cs K' q=>CmpR.eq (.int _ _ _) q
theorem zdu (Fk:FnK K 231 F_ISTERMINAL) (B:Bd1 K 231 (S "x")):FnOk C.up 231 (tokS fun i=>decide (i < 256)) :=
 fn1 (sl:=fun i=>[some (.int i)]) F2 L Fk (zlc []) B (fun _=>rfl) fun i cs K' q=>CmpR.lt q
theorem zch (Fk:FnK K 238 F_ISNONTERMINAL) (B:Bd1 K 238 (S "x")):FnOk C.up 238 (tokS fun i=>decide (256 <= i)) :=
 fn1 (sl:=fun i=>[some (.int i)]) F2 L Fk (zgm []) B (fun _=>rfl) fun i cs K' q=>CmpR.ge q
theorem z23 (Fk:FnK K 76 F_conv) (B:BdK K 76 (S "self") (S "value") (S "name")):FnOk C.up 76 convS :=
 fnK (sl:=fun p:CvA=>[some p.self,some (.str p.x),some (.bool p.b),none]) F2 L Fk (T_conv []) B (fun _=>rfl) fun p cs K' q=>by
  refine CallR.type (.str _) (CmpR.is (.typ _ _) ?_)
  obtain ⟨self,x,b⟩:=p
  cases b with
  | true=>exact ⟨.search rfl,.search rfl q.1 q.2⟩
  | false=>exact ⟨.search rfl,.search rfl q.1 q.2⟩
end
noncomputable def T1:Tab:=[(76,convS),(231,tokS fun i=>decide (i < 256)),(238,tokS fun i=>decide (256 <= i)),(245,tokS fun i=>decide (i = 0))]
noncomputable def P1:Prm:=law3.prm T1
theorem zdk:P1.fn 76 = convS:=rfl
noncomputable abbrev Hs:=List (Str × Str)
noncomputable def pairV (p:Str × Str):V:=.tup [.str p.1,.str p.2]
noncomputable def pairsV (hs:Hs):List V:=hs.map pairV
structure Tb (cs:List Cell) (l k:Nat) (hs:Hs):Prop where
 ex:∃ d,cs[l]? = some (.inst 175 d) /\ cs[d]? = some (.attr (some (.ref k)))
 ls:cs[k]? = some (.list (pairsV hs))
theorem Tb.cls {cs:List Cell} {l k:Nat} {hs:Hs} (h:Tb cs l k hs):ClsR cs (.ref l) 175:=by obtain ⟨d,h1,h2⟩:=h.ex; exact .mk h1 h2
theorem Tb.at {T:Tab} {cs:List Cell} {l k:Nat} {hs:Hs} (h:Tb cs l k hs):AttrR (law3.prm T) cs (.ref l) (.ref k):=by obtain ⟨d,h1,h2⟩:=h.ex; exact .mk h1 h2 trivial
noncomputable def getV (hs:Hs) (low:Str) (d:V):V:=List.rec d (fun p _ ih=>if Txt.lower p.1 = low then .str p.2 else ih) hs
noncomputable def lowB (x:Str):Prop:=(Txt.lower x).length <= lim
noncomputable def nameOk (x:Str):Prop:=x.cps.toList.any nameBad = false
noncomputable def valOk (x:Str):Prop:=x.cps.toList.any valBad = false
structure GtA where
 l:Nat
 x:Str
 k:Nat
 hs:Hs
structure GtOk (a:GtA) (cs:List Cell):Prop where
 tb:Tb cs a.l a.k a.hs
 lx:lowB a.x
 nx:nameOk (Txt.lower a.x)
 lk:∀ p ∈ a.hs,lowB p.1
noncomputable def getS:Spec:=Sp (fun a:GtA=>[.ref a.l,.str a.x]) [] noKw fun a cs K=>GtOk a cs /\ K (getV a.hs (Txt.lower a.x) .none) cs
theorem zax {hs:Hs} {i:Nat} {p:Str × Str} {r:Hs} (h:hs.drop i = p :: r):(pairsV hs)[i]? = some (pairV p):=by
 have:(hs.drop i)[0]? = some p:=by rw [h]; rfl
 rw [List.getElem?_drop] at this
 rw [pairsV,List.getElem?_map,show hs[i]? = some p from this]; rfl
theorem zbu {hs:Hs} {i:Nat} (h:hs.drop i = []):(pairsV hs)[i]? = none:=by rw [pairsV,List.getElem?_map,List.getElem?_eq_none_iff.mpr (List.drop_eq_nil_iff.mp h)]; rfl
theorem zao {α:Type} {hs:List α} {i:Nat} {p:α} {r:List α} (h:hs.drop i = p :: r):hs.drop (i + 1) = r:=by rw [<- List.drop_drop,h]; rfl
theorem zag {α:Type} {hs:List α} {i:Nat} {p:α} {r:List α} (h:hs.drop i = p :: r):p ∈ hs:=List.mem_of_mem_drop (h ▸ List.mem_cons_self)
noncomputable def GetL (K:KF) (k i:Nat) (sl:Slots) (cs:List Cell):Prop:=ForR zzk (bden (IS.sems P1 z0v)) K (.cell k i) sl cs
theorem ztg {K:KF} {k i:Nat} {cs:List Cell} {xs:List V} {p:Str × Str} {low:Str} {s d a b:Option V} (h:cs[k]? = some (.list xs)) (hx:xs[i]? = some (pairV p)) (lp:lowB p.1) (he:Txt.lower p.1 = low) (q:K (.ret (.str p.2)) [s,some (.str low),d,some (.str p.1),some (.str p.2)] cs):GetL K k i [s,some (.str low),d,a,b] cs :=
 .go (.cell h hx) rfl ⟨.lower _,.lower lp (.eq (.strT he) q)⟩
theorem zth {K:KF} {k i:Nat} {cs:List Cell} {xs:List V} {p:Str × Str} {low:Str} {s d a b:Option V} (h:cs[k]? = some (.list xs)) (hx:xs[i]? = some (pairV p)) (lp:lowB p.1) (he:Txt.lower p.1 ≠ low) (q:GetL K k (i + 1) [s,some (.str low),d,some (.str p.1),some (.str p.2)] cs):GetL K k i [s,some (.str low),d,a,b] cs :=
 .go (.cell h hx) rfl ⟨.lower _,.lower lp (.eq (.strF he) q)⟩
theorem zxt {K:KF} {k:Nat} {cs:List Cell} {hs:Hs} {low:Str} {s:Option V} {d:V} {Z:KV} (h:cs[k]? = some (.list (pairsV hs))) (lk:∀ p ∈ hs,lowB p.1) (hr:∀ v sl,Z v cs -> K (.ret v) sl cs) (hn:∀ a b,Z d cs -> K .next [s,some (.str low),some d,a,b] cs) (r:Hs):∀ (i:Nat) (a b:Option V),hs.drop i = r -> Z (getV r low d) cs -> GetL K k i [s,some (.str low),some d,a,b] cs:=by
 induction r with
 | nil=>exact fun i a b e q=>.done (.cell h (zbu e)) (hn a b q)
 | cons p r ih =>
  intro i a b e q
  by_cases he:Txt.lower p.1 = low
  ·exact ztg h (zax e) (lk p (zag e)) he (hr _ _ (by rw [show getV (p :: r) low d = .str p.2 from if_pos he] at q; exact q))
  ·exact zth h (zax e) (lk p (zag e)) he (ih _ _ _ (zao e) (by rw [show getV (p :: r) low d = getV r low d from if_neg he] at q; exact q))
section
variable {C:Cx} {K:Frag} (F2:Facts2 C P1 K) (L:LimAt C)
include F2 L
theorem ok_get (Fk:FnK K 122 F_get) (B:BdD3 K 122 (S "self") (S "name") (S "default")):FnOk C.up 122 getS :=
 fnD3 (sl:=fun a:GtA=>[some (.ref a.l),some (.str a.x),some .none,none,none]) F2 L Fk (T_get T1) B (fun _=>rfl) fun a cs K' q =>
  ⟨q.1.tb.cls,.lower a.x,.lower q.1.lx (zac zdk ⟨.ref a.l,Txt.lower a.x,true⟩ ⟨q.1.nx,_,q.1.tb.at,_,.cell q.1.tb.ls,zxt (Z:=K') q.1.tb.ls q.1.lk (fun _ _ q=>q) (fun _ _ q=>q) a.hs 0 _ _ rfl q.2⟩)⟩
end
theorem zeo {α:Type} (xs:List α) (i:Nat):idxV xs (i:Int) = xs[i]?:=by unfold idxV; rw [if_pos (Int.natCast_nonneg _)]; rfl
theorem zgk {α:Type} (cs:List α) (a b:α):(cs ++ [a]).set cs.length b = cs ++ [b]:=by rw [List.set_append_right _ _ (Nat.le_refl _),Nat.sub_self]; rfl
theorem mul_l {a b:Int} (h:a.natAbs < 9223372036854775808):mulOk a b = true:=by unfold mulOk; rw [decide_eq_true h]; rfl
structure InA where
 l:Nat
 d:Nat
 k:Nat
 hs:Hs
structure InOk (a:InA) (cs:List Cell):Prop where
 hl:cs[a.l]? = some (.inst 175 a.d)
 hd:cs[a.d]? = some (.attr none)
 hk:cs[a.k]? = some (.list (pairsV a.hs))
 ok:∀ p ∈ a.hs,nameOk p.1 /\ valOk p.2
noncomputable def initS:Spec:=Sp (fun a:InA=>[.ref a.l,.ref a.k]) [] noKw fun a cs K=>InOk a cs /\ K .none (cs.set a.d (.attr (some (.ref a.k))))
theorem zej {cs:List Cell} {i j:Nat} {a b:Cell} (h:cs[i]? = some a) (h':cs[j]? = some b) (n:a ≠ b):i ≠ j:=fun e=>n (by rw [e] at h; exact Option.some.inj (h.symm.trans h'))
theorem InOk.tb {a:InA} {cs:List Cell} (h:InOk a cs):Tb (cs.set a.d (.attr (some (.ref a.k)))) a.l a.k a.hs:=by
 refine ⟨⟨a.d,?_,List.getElem?_set_self (zaa h.hd)⟩,?_⟩
 ·rw [List.getElem?_set_ne (zej h.hd h.hl fun e=>nomatch e)]; exact h.hl
 ·rw [List.getElem?_set_ne (zej h.hd h.hk fun e=>nomatch e)]; exact h.hk
noncomputable def IniL (K:KF) (k i:Nat) (sl:Slots) (cs:List Cell):Prop:=ForR zqi (bden (IS.sems P1 zux)) K (.cell k i) sl cs
theorem zxh {K:KF} {l k i:Nat} {cs:List Cell} {hs:Hs} {p:Str × Str} {h a b:Option V} (tb:Tb cs l k hs) (hx:(pairsV hs)[i]? = some (pairV p)) (n:nameOk p.1) (v:valOk p.2) (q:IniL K k (i + 1) [some (.ref l),h,some (.str p.1),some (.str p.2)] cs):IniL K k i [some (.ref l),h,a,b] cs :=
 .go (.cell tb.ls hx) rfl ⟨tb.cls,zac zdk ⟨.ref l,p.1,true⟩ ⟨n,tb.cls,zac zdk ⟨.ref l,p.2,false⟩ ⟨v,q⟩⟩⟩
theorem zxi {K:KF} {l k:Nat} {cs:List Cell} {hs:Hs} {h:Option V} (tb:Tb cs l k hs) (ok:∀ p ∈ hs,nameOk p.1 /\ valOk p.2) (q:∀ a b,K .next [some (.ref l),h,a,b] cs) (r:Hs):∀ (i:Nat) (a b:Option V),hs.drop i = r -> IniL K k i [some (.ref l),h,a,b] cs:=by
 induction r with
 | nil=>exact fun i a b e=>.done (.cell tb.ls (zbu e)) (q a b)
 | cons p r ih=>exact fun i a b e=>zxh tb (zax e) (ok p (zag e)).1 (ok p (zag e)).2 (ih _ _ _ (zao e))
section
variable {C:Cx} {K:Frag} (F2:Facts2 C P1 K) (L:LimAt C)
include F2 L
theorem z22 (Fk:FnK K 69 F_init) (B:BdP2 K 69 (S "self") (S "headers")):FnOk C.up 69 initS :=
 fnP2 (sl:=fun a:InA=>[some (.ref a.l),some (.ref a.k),none,none]) F2 L Fk (T_init T1) B (fun _=>rfl) fun a cs K' q =>
  .isNot (.ref _) (.type (.seq (.ref q.1.hk)) (.isNot (.typ _ _) (.mk q.1.hl q.1.hd ⟨_,.cell q.1.tb.ls,zxi q.1.tb q.1.ok (fun _ _=>q.2) a.hs 0 _ _ rfl⟩)))
end
structure TlA where
 l:Nat
 k:Nat
 hs:Hs
noncomputable def itemsS:Spec:=Sp (fun a:TlA=>[.ref a.l]) [] noKw fun a cs K=>Tb cs a.l a.k a.hs /\ a.hs.length <= lim /\ K (.lst (pairsV a.hs)) cs
noncomputable def allV (hs:Hs) (low:Str):List V:=(hs.filter fun p=>decide (Txt.lower p.1 = low)).map fun p=>.str p.2
noncomputable def getAllS:Spec:=Sp (fun a:GtA=>[.ref a.l,.str a.x]) [] noKw fun a cs K=>(GtOk a cs /\ a.hs.length <= lim) /\ K (.lst (allV a.hs (Txt.lower a.x))) cs
noncomputable def GalL (K:List V -> List Cell -> Prop) (s:Option V) (low:Str) (acc:List V) (k i:Nat) (cs:List Cell):Prop:=CompR zjt (boolT .And (IE.sems P1 zko)) (emitL (zkt.sem P1).val) [none,none,s,some (.str low)] K acc (.cell k i) cs
section
variable {K:List V -> List Cell -> Prop} {s:Option V} {low:Str} {acc:List V} {k i:Nat} {cs:List Cell} {xs:List V} {p:Str × Str}
theorem ztj (h:cs[k]? = some (.list xs)) (hx:xs[i]? = some (pairV p)) (lp:lowB p.1) (he:Txt.lower p.1 ≠ low) (q:GalL K s low acc k (i + 1) cs):GalL K s low acc k i cs :=
 .go (.cell h hx) rfl ⟨_,.seq (.tup _) rfl,.lower _,.lower lp (.eq (.strF he) q)⟩
theorem zti (h:cs[k]? = some (.list xs)) (hx:xs[i]? = some (pairV p)) (lp:lowB p.1) (he:Txt.lower p.1 = low) (hl:acc.length < lim) (q:GalL K s low (acc ++ [.str p.2]) k (i + 1) cs):GalL K s low acc k i cs :=
 .go (.cell h hx) rfl ⟨_,.seq (.tup _) rfl,.lower _,.lower lp (.eq (.strT he) ⟨hl,_,.seq (.tup _) rfl,q⟩)⟩
end
theorem zxu {K:List V -> List Cell -> Prop} {s:Option V} {low:Str} {k:Nat} {cs:List Cell} {hs:Hs} (h:cs[k]? = some (.list (pairsV hs))) (lk:∀ p ∈ hs,lowB p.1) (r:Hs):∀ (i:Nat) (acc:List V),hs.drop i = r -> acc.length + r.length <= lim -> K (acc ++ allV r low) cs -> GalL K s low acc k i cs:=by
 induction r with
 | nil=>exact fun i acc e _ q=>.done (.cell h (zbu e)) (by rw [<- List.append_nil acc]; exact q)
 | cons p r ih =>
  intro i acc e hl q
  rw [List.length_cons] at hl
  by_cases he:Txt.lower p.1 = low
  ·refine zti h (zax e) (lk p (zag e)) he (Nat.lt_of_lt_of_le (Nat.lt_add_of_pos_right (Nat.succ_pos _)) hl) (ih _ _ (zao e) (by rw [List.length_append,Nat.add_assoc,Nat.add_comm [_].length]; exact hl) ?_)
   rw [show allV (p :: r) low = .str p.2 :: allV r low from by unfold allV; rw [List.filter_cons_of_pos (by rw [decide_eq_true he])]; rfl] at q
   rw [List.append_assoc]
   exact q
  ·refine ztj h (zax e) (lk p (zag e)) he (ih _ _ (zao e) (Nat.le_of_succ_le hl) ?_)
   rw [show allV (p :: r) low = allV r low from by unfold allV; rw [List.filter_cons_of_neg (by rw [decide_eq_false he]; decide)]] at q
   exact q
theorem zza (hs:Hs) (low:Str):(allV hs low).length <= hs.length:=by rw [allV,List.length_map]; exact List.length_filter_le _ _
theorem zqy (xs:List V):sliceL xs none none none = xs:=by
 unfold sliceL sliceBounds
 dsimp only [Option.getD]
 have h1:((1:Int) > 0) = True:=by simp
 simp only [h1,if_true]
 have:=zau xs 0 xs.length (Nat.zero_le _) (Nat.le_refl _)
 simpa using this
section
variable {C:Cx} {K:Frag} (F2:Facts2 C P1 K) (L:LimAt C)
include F2 L
theorem znl (Fk:FnK K 139 F_items) (B:Bd1 K 139 (S "self")):FnOk C.up 139 itemsS :=
 fn1 (sl:=fun a:TlA=>[some (.ref a.l)]) F2 L Fk (z5o T1) B (fun _=>rfl) fun a cs K' q =>
  ⟨_,q.1.at,none,none,none,.none,.none,.none,.lst (.ref q.1.ls) (by decide) (by rw [zqy]; exact ⟨by rw [pairsV,List.length_map]; exact q.2.1,q.2.2⟩)⟩
theorem zke (Fk:FnK K 114 F_getall) (B:Bd2 K 114 (S "self") (S "name")):FnOk C.up 114 getAllS :=
 fn2 (sl:=fun a:GtA=>[some (.ref a.l),some (.str a.x)]) F2 L Fk (zzd T1) B (fun _=>rfl) fun a cs K' q =>
  ⟨q.1.1.tb.cls,.lower a.x,.lower q.1.1.lx (zac zdk ⟨.ref a.l,Txt.lower a.x,true⟩ ⟨q.1.1.nx,_,q.1.1.tb.at,_,.cell q.1.1.tb.ls,zxu q.1.1.tb.ls q.1.1.lk a.hs 0 [] rfl (by rw [List.length_nil,Nat.zero_add]; exact q.1.2)
   ⟨Nat.le_trans (zza _ _) q.1.2,q.2⟩⟩)⟩
end
noncomputable def T2:Tab:=[(122,getS),(69,initS),(139,itemsS),(114,getAllS)] ++ T1
noncomputable def P2:Prm:=law3.prm T2
theorem ztp:P2.fn 76 = convS:=rfl
theorem f2_get:P2.fn 122 = getS:=rfl
theorem z34:P2.fn 69 = initS:=rfl
noncomputable def fV (hs:Hs) (low:Str):Option Str:=List.rec none (fun p _ ih=>if Txt.lower p.1 = low then some p.2 else ih) hs
theorem getV_f (hs:Hs) (low:Str):getV hs low .none = Option.rec V.none V.str (fV hs low):=by
 induction hs with
 | nil=>rfl
 | cons p r ih =>
  by_cases he:Txt.lower p.1 = low
  ·rw [show getV (p :: r) low .none = .str p.2 from if_pos he,show fV (p :: r) low = some p.2 from if_pos he]
  ·rw [show getV (p :: r) low .none = getV r low .none from if_neg he,show fV (p :: r) low = fV r low from if_neg he]; exact ih
structure SdA where
 l:Nat
 x:Str
 v:Str
 k:Nat
 hs:Hs
structure SdOk (a:SdA) (cs:List Cell):Prop where
 gt:GtOk ⟨a.l,a.x,a.k,a.hs⟩ cs
 nx:nameOk a.x
 vv:valOk a.v
 ll:a.hs.length < lim
noncomputable def setdS:Spec:=Sp (fun a:SdA=>[.ref a.l,.str a.x,.str a.v]) [] noKw fun a cs K=>SdOk a cs /\ Option.rec (K (.str a.v) (cs.set a.k (.list (pairsV (a.hs ++ [(a.x,a.v)]))))) (fun w=>K (.str w) cs) (fV a.hs (Txt.lower a.x))
section
variable {C:Cx} {K:Frag} (F2:Facts2 C P2 K) (L:LimAt C)
include F2 L
theorem z2z (Fk:FnK K 165 F_setd) (B:Bd3 K 165 (S "self") (S "name") (S "value")):FnOk C.up 165 setdS :=
 fn3 (sl:=fun a:SdA=>[some (.ref a.l),some (.str a.x),some (.str a.v),none]) F2 L Fk (T_setd T2) B (fun _=>rfl) fun a cs K' q=>by
  refine ⟨q.1.gt.tb.cls,zac f2_get ⟨a.l,a.x,a.k,a.hs⟩ ⟨q.1.gt,?_⟩⟩
  have q2:=q.2
  have t:=q.1.gt.tb
  rw [getV_f]
  cases h:fV a.hs (Txt.lower a.x) with
  | none =>
   rw [h] at q2
   exact .is .none ⟨_,t.at,.append t.ls,t.cls,zac ztp ⟨.ref a.l,a.x,true⟩ ⟨q.1.nx,t.cls,zac ztp ⟨.ref a.l,a.v,false⟩ ⟨q.1.vv,(by decide:2 <= lim),
    .append t.ls (by rw [pairsV,List.length_map]; exact q.1.ll) (by have q3:=q2; dsimp only at q3; rw [pairsV,List.map_append] at q3; exact q3)⟩⟩⟩
  | some w =>
   rw [h] at q2
   exact .is (.str _) q2
end
structure MkA where
 k:Nat
 hs:Hs
noncomputable def mkHS:Spec:=Sp (fun a:MkA=>[.ref a.k]) [] noKw fun a cs K=>cs[a.k]? = some (.list (pairsV a.hs)) /\ (∀ p ∈ a.hs,nameOk p.1 /\ valOk p.2) /\ K (.ref (cs.length + 1)) (cs ++ [.attr (some (.ref a.k)),.inst 175 cs.length])
theorem zw0 {α:Type} (cs:List α) (a b c:α):(cs ++ [a,b]).set cs.length c = cs ++ [c,b]:=by rw [List.set_append_right _ _ (Nat.le_refl _),Nat.sub_self]; rfl
theorem mk_at {α:Type} (cs:List α) (a b:α):(cs ++ [a,b])[cs.length]? = some a /\ (cs ++ [a,b])[cs.length + 1]? = some b:=by
 constructor
 ·rw [List.getElem?_append_right (Nat.le_refl _),Nat.sub_self]; rfl
 ·rw [List.getElem?_append_right (Nat.le_add_right _ 1),Nat.add_sub_cancel_left]; rfl
theorem z21 {C:Cx} (h:FnOk C 175 (makeSpec P2 69)):FnOk C 175 mkHS:=by
 intro A σ args kws args' kws' K O H B ra rk q
 refine h O H B ra rk ?_
 obtain ⟨a,rfl,rfl,hk,ok,q⟩:=q
 show P2.fn 69 _ _ _ _
 rw [z34]
 refine ⟨⟨σ.g.cs.length + 1,σ.g.cs.length,a.k,a.hs⟩,rfl,rfl,⟨(mk_at ..).2,(mk_at ..).1,?_,ok⟩,rfl,?_⟩
 ·show (σ.g.cs ++ _)[a.k]? = _
  rw [List.getElem?_append_left (zaa hk)]; exact hk
 ·show K _ ((σ.g.cs ++ _).set σ.g.cs.length _)
  rw [zw0]; exact q
end Mine
end
section
namespace Mine
open PySem
noncomputable def digs (n:Nat):Nat -> Nat -> List Nat
 | 0,_=>[]
 | 1,x=>[x]
 | k + 2,x=>x % 2 ^ n :: digs n (k + 1) (x / 2 ^ n)
theorem za9 (n:Nat):∀ (k x:Nat),(digs n k x).length = k
 | 0,_=>rfl
 | 1,_=>rfl
 | k + 2,x=>by simp [digs,za9 n (k + 1)]
theorem zhe (n:Nat):∀ (a b x:Nat),1 <= a -> 1 <= b -> digs n (a + b) x = digs n a (x % 2 ^ (n * a)) ++ digs n b (x / 2 ^ (n * a))
 | 0,b,x,h,_=>by lia
 | 1,b,x,_,hb=>by
  obtain ⟨b',rfl⟩:∃ b',b = b' + 1:=⟨b - 1,by lia⟩
  rw [show 1 + (b' + 1) = b' + 2 by exact Nat.add_comm _ _]
  simp [digs]
 | a + 2,b,x,_,hb=>by
  rw [show a + 2 + b = (a + b) + 2 by lia]
  have ih:=zhe n (a + 1) b (x / 2 ^ n) (Nat.succ_pos _) hb
  rw [show a + 1 + b = a + b + 1 by lia] at ih
  have e1:n * (a + 2) = n + n * (a + 1):=by rw [show a + 2 = (a + 1) + 1 by lia,Nat.mul_succ]; exact Nat.add_comm _ _
  have p1:2 ^ (n * (a + 2)) = 2 ^ n * 2 ^ (n * (a + 1)):=by rw [e1,Nat.pow_add]
  show x % 2 ^ n :: digs n (a + b + 1) (x / 2 ^ n) = (x % 2 ^ (n * (a + 2))) % 2 ^ n :: digs n (a + 1) ((x % 2 ^ (n * (a + 2))) / 2 ^ n) ++ digs n b (x / 2 ^ (n * (a + 2)))
  rw [ih,p1,Nat.mod_mul_right_mod,Nat.mod_mul_right_div_self,Nat.div_div_eq_div_mul]
  rfl
theorem z2x (x s:Nat):x ||| (x / 2 ^ s * 2 ^ s) = x:=by
 apply Nat.eq_of_testBit_eq
 intro i
 rw [Nat.testBit_or,Nat.testBit_mul_two_pow]
 by_cases h:s <= i
 ·simp only [h,decide_true,Bool.true_and,Nat.testBit_div_two_pow]
  rw [show i - s + s = i by exact Nat.sub_add_cancel ‹_›]
  simp
 ·simp [h]
theorem zy9 (x s:Nat):x &&& (x / 2 ^ s * 2 ^ s) = x / 2 ^ s * 2 ^ s:=by
 apply Nat.eq_of_testBit_eq
 intro i
 rw [Nat.testBit_and,Nat.testBit_mul_two_pow]
 by_cases h:s <= i
 ·simp only [h,decide_true,Bool.true_and,Nat.testBit_div_two_pow]
  rw [show i - s + s = i by exact Nat.sub_add_cancel ‹_›]
  simp
 ·simp [h]
theorem zpx (x:Nat):¬ (0 <= Builtin.bitNot (x:Int)):=by unfold Builtin.bitNot; lia
theorem zi3 (x:Int):Builtin.bitNot (Builtin.bitNot x) = x:=by unfold Builtin.bitNot; lia
theorem zpy (x y:Nat):Builtin.bitAnd (x:Int) (y:Int) = ((x &&& y:Nat):Int):=by
 unfold Builtin.bitAnd
 simp
theorem zur (x y:Nat):Builtin.bitOr (x:Int) (y:Int) = ((x ||| y:Nat):Int):=by
 unfold Builtin.bitOr Builtin.bitAnd
 simp only [zpx,decide_false,zi3,Int.toNat_natCast]
theorem zve (x s:Nat):Builtin.bitXor (x:Int) ((x / 2 ^ s * 2 ^ s:Nat):Int) = ((x % 2 ^ s:Nat):Int):=by
 unfold Builtin.bitXor
 rw [zur,zpy,z2x,zy9]
 have:=Nat.div_add_mod x (2 ^ s)
 rw [Nat.mul_comm] at this
 omega
theorem zq1 (x:Nat) (s:Nat):Int.fdiv (x:Int) (2 ^ s) = ((x / 2 ^ s:Nat):Int):=by
 rw [Int.fdiv_eq_ediv_of_nonneg _ (by exact Int.le_of_lt (Int.pow_pos (by decide)))]
 push_cast
 rfl
noncomputable def splice {α:Type} (ds:List α) (i:Nat) (seg:List α):List α:=ds.take i ++ seg ++ ds.drop (i + seg.length)
theorem zhp {α:Type} {ds seg:List α} {i:Nat} (h:i + seg.length <= ds.length):(splice ds i seg).length = ds.length:=by
 simp [splice]; lia
theorem zol {α:Type} {ds:List α} {i:Nat} {v:α} (h:i < ds.length):ds.set i v = splice ds i [v]:=by
 unfold splice
 rw [List.set_eq_take_append_cons_drop,if_pos h]
 simp
theorem zok {α:Type} {ds s1 s2:List α} {i:Nat} (h:i + s1.length + s2.length <= ds.length):splice (splice ds i s1) (i + s1.length) s2 = splice ds i (s1 ++ s2):=by
 unfold splice
 have l1:(ds.take i ++ s1).length = i + s1.length:=by simp; lia
 rw [List.take_append_of_le_length (by lia),List.take_of_length_le (by lia),List.drop_append,l1]
 have e:List.drop (i + s1.length + s2.length) (List.take i ds ++ s1) = []:=by rw [List.drop_eq_nil_iff]; lia
 rw [e,List.drop_drop]
 simp only [List.nil_append,List.length_append,List.append_assoc]
 congr 3
 congr 1
 lia
theorem zlo {α:Type} {ds seg:List α} (h:seg.length = ds.length):splice ds 0 seg = seg:=by
 unfold splice
 simp [h]
noncomputable def val (n:Nat):List Nat -> Nat
 | []=>0
 | d :: r=>d + 2 ^ n * val n r
theorem zcx (n:Nat):∀ a b:List Nat,val n (a ++ b) = val n a + 2 ^ (n * a.length) * val n b
 | [],b=>by simp [val]
 | d :: r,b=>by
  have e1:val n (d :: r ++ b) = d + 2 ^ n * val n (r ++ b):=rfl
  have e2:val n (d :: r) = d + 2 ^ n * val n r:=rfl
  rw [e1,e2,zcx n r b,List.length_cons,Nat.mul_succ,Nat.pow_add,Nat.mul_add,Nat.add_assoc,Nat.mul_comm (2 ^ (n * r.length)) (2 ^ n),Nat.mul_assoc]
theorem zvj (n:Nat) (ds:List Nat) (k:Nat):val n (ds.take k) <= val n ds:=by
 have:=zcx n (ds.take k) (ds.drop k)
 rw [List.take_append_drop] at this
 lia
theorem zvk (n:Nat) (ds:List Nat) (k:Nat):val n (ds.drop k) <= val n ds:=by
 have:=zcx n (ds.take k) (ds.drop k)
 rw [List.take_append_drop] at this
 have h1:val n (ds.drop k) <= 2 ^ (n * (ds.take k).length) * val n (ds.drop k):=Nat.le_mul_of_pos_left _ (Nat.pow_pos (by decide))
 lia
noncomputable def seg {α:Type} (ds:List α) (lo hi:Nat):List α:=(ds.drop lo).take (hi - lo)
theorem z1f (n:Nat) (ds:List Nat) (lo hi:Nat):val n (seg ds lo hi) <= val n ds:=Nat.le_trans (zvj ..) (zvk ..)
theorem zra {α:Type} (ds:List α) {lo mid hi:Nat} (h1:lo <= mid) (h2:mid <= hi):seg ds lo hi = seg ds lo mid ++ seg ds mid hi:=by
 unfold seg
 rw [show hi - lo = (mid - lo) + (hi - mid) by lia,List.take_add,List.drop_drop,show lo + (mid - lo) = mid by exact Nat.add_sub_cancel' ‹_›]
theorem zor {α:Type} (ds:List α) {lo hi:Nat} (h2:hi <= ds.length):(seg ds lo hi).length = hi - lo:=by
 unfold seg; simp; lia
theorem z1x {α:Type} (ds:List α) {lo:Nat} {d:α} (h:ds[lo]? = some d):seg ds lo (lo + 1) = [d]:=by
 unfold seg
 obtain ⟨hl,e⟩:=List.getElem?_eq_some_iff.mp h
 rw [List.drop_eq_getElem_cons hl,show lo + 1 - lo = 1 by lia,e]; rfl
theorem zv5 {α:Type} (ds:List α):seg ds 0 ds.length = ds:=by unfold seg; simp
theorem zm2 (n:Nat):∀ (k a:Nat),1 <= k -> val n (digs n k a) = a
 | 0,a,h=>by lia
 | 1,a,_=>by simp [digs,val]
 | k + 2,a,_=>by
  have ih:=zm2 n (k + 1) (a / 2 ^ n) (Nat.succ_pos _)
  show a % 2 ^ n + 2 ^ n * val n (digs n (k + 1) (a / 2 ^ n)) = a
  rw [ih]
  exact Nat.mod_add_div a (2 ^ n)
theorem ziw (n:Nat):∀ (k a:Nat),a < 2 ^ (n * k) -> ∀ d ∈ digs n k a,d < 2 ^ n
 | 0,a,h,d,hd=>by cases hd
 | 1,a,h,d,hd=>by
  simp [digs] at hd
  subst hd
  simpa using h
 | k + 2,a,h,d,hd=>by
  have hd':d = a % 2 ^ n \/ d ∈ digs n (k + 1) (a / 2 ^ n):=by simpa [digs] using hd
  rcases hd' with rfl | hd'
  ·exact Nat.mod_lt _ (Nat.pow_pos (by decide))
  ·refine ziw n (k + 1) _ ?_ d hd'
   refine Nat.div_lt_of_lt_mul ?_
   rw [<- Nat.pow_add]
   rw [show n + n * (k + 1) = n * (k + 2) by rw [Nat.mul_succ n (k + 1)]; exact Nat.add_comm _ _]
   exact h
theorem zye (S b m d:Nat) (hb:0 < b):((S % b) * m + d) / b + m * (S / b) = (d + m * S) / b:=by
 have e:d + m * S = ((S % b) * m + d) + b * (m * (S / b)):=by
  have:=Nat.div_add_mod S b
  calc d + m * S = d + m * (b * (S / b) + S % b):=by rw [this]
   _ = _:=by rw [Nat.mul_add,Nat.mul_comm m (S % b),Nat.mul_left_comm m b]; lia
 rw [e,Nat.add_mul_div_left _ _ hb]
theorem zwz (S b m d:Nat):((S % b) * m + d) % b = (d + m * S) % b:=by
 have e:d + m * S = ((S % b) * m + d) + b * (m * (S / b)):=by
  have:=Nat.div_add_mod S b
  calc d + m * S = d + m * (b * (S / b) + S % b):=by rw [this]
   _ = _:=by rw [Nat.mul_add,Nat.mul_comm m (S % b),Nat.mul_left_comm m b]; lia
 rw [e,Nat.add_mul_mod_self_left]
theorem zi2 (b:Nat) (h:1 <= b):1 <= Builtin.Int.intBits (b:Int) /\ b < 2 ^ Builtin.Int.intBits (b:Int):=by
 have e:Builtin.Int.intBits (b:Int) = b.log2 + 1:=by
  unfold Builtin.Int.intBits
  rw [if_neg (by simp; exact Nat.ne_of_gt ‹_›),Int.natAbs_natCast]
 rw [e]
 exact ⟨by exact Nat.succ_pos _,Nat.lt_log2_self⟩
theorem zuq (b k:Nat) (h:b < 2 ^ k):Builtin.Int.intBits (b:Int) <= k:=by
 unfold Builtin.Int.intBits
 split
 ·exact Nat.zero_le _
 ·rename_i h0
  rw [Int.natAbs_natCast]
  have h1:b ≠ 0:=fun q=>h0 (by rw [q]; rfl)
  have:=(Nat.log2_lt h1).mpr h
  exact Nat.succ_le_of_lt ‹_›
theorem zeq (a n:Nat) (hn:1 <= n):a < 2 ^ (n * ((Builtin.Int.intBits (a:Int) + n - 1) / n)):=by
 have h1:Builtin.Int.intBits (a:Int) <= n * ((Builtin.Int.intBits (a:Int) + n - 1) / n):=by
  have:=Nat.div_add_mod (Builtin.Int.intBits (a:Int) + n - 1) n
  have:=Nat.mod_lt (Builtin.Int.intBits (a:Int) + n - 1) (show n > 0 by exact Nat.succ_le_of_lt ‹_›)
  lia
 by_cases ha:a = 0
 ·subst ha; exact Nat.pow_pos (by decide)
 ·exact Nat.lt_of_lt_of_le (zi2 a (Nat.pos_of_ne_zero ‹_›)).2 (Nat.pow_le_pow_right (by decide) h1)
theorem z4f (a n:Nat) (hn:1 <= n) (ha:a ≠ 0):1 <= (Builtin.Int.intBits (a:Int) + n - 1) / n:=by
 have:=(zi2 a (Nat.pos_of_ne_zero ‹_›)).1
 exact (Nat.le_div_iff_mul_le (Nat.succ_le_of_lt ‹_›)).mpr (by lia)
theorem zys (n:Nat) (hn:1 <= n):(Builtin.Int.intBits ((0:Nat):Int) + n - 1) / n = 0:=by
 have:Builtin.Int.intBits ((0:Nat):Int) = 0:=rfl
 rw [this]; exact Nat.div_eq_of_lt (by omega)
theorem zqd (n a:Nat) (hn:1 <= n):val n (digs n ((Builtin.Int.intBits (a:Int) + n - 1) / n) a) = a:=by
 by_cases ha:a = 0
 ·subst ha; rw [zys n hn]; rfl
 ·exact zm2 n _ a (z4f a n hn ha)
theorem fl4 (a b:Int) (hb:0 < b):-((-a - 1).fdiv b) - 1 = a.fdiv b /\ b + (-((-a - 1).fmod b) - 1) = a.fmod b:=by
 rw [Int.fdiv_eq_ediv_of_nonneg _ (Int.le_of_lt ‹_›),Int.fdiv_eq_ediv_of_nonneg _ (Int.le_of_lt ‹_›),Int.fmod_eq_emod_of_nonneg _ (Int.le_of_lt ‹_›),Int.fmod_eq_emod_of_nonneg _ (Int.le_of_lt ‹_›)]
 have h1:=Int.mul_ediv_add_emod (-a - 1) b
 have h2:=Int.emod_nonneg (-a - 1) (show b ≠ 0 by exact Int.ne_of_gt ‹_›)
 have h3:=Int.emod_lt_of_pos (-a - 1) hb
 have:=(Int.ediv_emod_unique hb (a:=a) (r:=b + (-((-a - 1) % b) - 1)) (q:=-((-a - 1) / b) - 1)).mpr ⟨by grind,by lia,by lia⟩
 exact ⟨this.1.symm,this.2.symm⟩
theorem fl5 (a b:Int) (hb:b < 0):(-a).fdiv (-b) = a.fdiv b /\ -((-a).fmod (-b)) = a.fmod b:=by
 have e1:(-a).fdiv (-b) = a.fdiv b:=by
  exact Int.neg_fdiv_neg ..
 refine ⟨e1,?_⟩
 rw [Int.fmod_def,Int.fmod_def,e1]
 grind
end Mine
end
section
namespace Mine
open PySem PySem.SeqAt PySem.W PySem.Calls
noncomputable abbrev Cx.at (C:Cx) (d:Nat):Cx:={ C with d:=d }
noncomputable def zbf:List Str:=[S "a_digits",S "inner",S "n"]
noncomputable abbrev zaj:Scope:=scopeOf F_i2d
noncomputable def ze3:List IS:=[s2_i2d,s3_i2d,s4_i2d,s5_i2d,s6_i2d]
theorem z06:(IS.sems P0 ze3).map SD.ast ++ [(zzr.sem P0).ast,(zrm.sem P0).ast] = bodyOf F_i2d:=by kernel_rfl
theorem z01:bwf (IS.sems P0 ze3) zaj (ownNs zaj ++ zbf) = true:=by kernel_rfl
theorem W2_i2d:wfs (IE.sems P0 zoc) zaj (ownNs zaj ++ zbf) = true:=by kernel_rfl
theorem W3_i2d:wfs (IE.sems P0 zob) zaj (ownNs zaj ++ zbf) = true:=by kernel_rfl
theorem W4_i2d (p:Pos):(ED.loc (S "inner") 8 p).wf zaj (ownNs zaj ++ zbf) = true:=by kernel_rfl
theorem z0z:[(S "x",0),(S "L",1),(S "R",2)].all (fun p=>tgt1 zaj (ownNs zaj ++ zbf) p.1 p.2) = true:=by kernel_rfl
theorem W6_i2d:(zaj.names.all fun p=>!(p.2 == .cell)) = true:=by kernel_rfl
theorem z0x:List.replicate (ownNs zaj).length (none:Option V) = [none,none,none,none,none,none,none]:=by kernel_rfl
noncomputable abbrev zjy (x l r m s u w:Option V) (la n:Nat) (f:Addr):Slots:=[x,l,r,m,s,u,w,some (.ref la),some (.adr f),some (.int n)]
theorem zr9 (a b:Nat):Int.fdiv (((a + b:Nat)):Int) (2 ^ (1:Int).toNat) = (((a + b) / 2:Nat):Int):=zq1 (a + b) 1
section
variable {cs:List Cell} {ds:List V} {la n x lo hi:Nat} {f:Addr} {K:KF}
theorem zxr (h:cs[la]? = some (.list ds)) (hl:lo < ds.length) (hh:lo + 1 = hi) {m s u w:Option V} (q:∀ sl,K (.ret .none) sl (cs.set la (.list (ds.set lo (.int x))))) :
  bden (IS.sems P0 ze3) (zjy (some (.int x)) (some (.int lo)) (some (.int hi)) m s u w la n f) cs K :=
 .addI (.eq (.intT (congrArg Int.ofNat hh)) (.list h ⟨Int.natCast_nonneg _,Int.ofNat_lt.mpr hl⟩ (q _)))
theorem z3v {mid sh:Nat} (h1:lo + 1 ≠ hi) (hm:(lo + hi) / 2 = mid) (hlo:lo <= mid) (hsh:(mid - lo) * n = sh) (h4:sh <= 4000) (hx:x < 2 ^ 240) (hmm:mid - lo < 2 ^ 63) {m s u w:Option V}
  (q:K .next (zjy (some (.int x)) (some (.int lo)) (some (.int hi)) (some (.int mid)) (some (.int sh)) (some (.int (x / 2 ^ sh:Nat))) (some (.int (x % 2 ^ sh:Nat))) la n f) cs) :
  bden (IS.sems P0 ze3) (zjy (some (.int x)) (some (.int lo)) (some (.int hi)) m s u w la n f) cs K:=by
 subst hm
 refine .addI (.eq (.intF fun e=>h1 (Int.ofNat.inj e)) (.addI (.shrI (by decide) ?_)))
 rw [show Int.fdiv ((lo:Int) + (hi:Int)) (2 ^ (1:Int).toNat) = (((lo + hi) / 2:Nat):Int) from zr9 lo hi]
 refine .subI' (z:=(((lo + hi) / 2 - lo:Nat):Int)) (Int.ofNat_sub hlo).symm (.mulI' (z:=(sh:Int)) (mul_l (by rw [Int.natAbs_natCast]; exact hmm)) (by rw [<- Int.natCast_mul,hsh]) (.shrI (Int.natCast_nonneg _) ?_))
 rw [show Int.fdiv (x:Int) (2 ^ (sh:Int).toNat) = ((x / 2 ^ sh:Nat):Int) by rw [Int.toNat_natCast]; exact zq1 x sh]
 refine .shlI ⟨Int.natCast_nonneg _,Int.ofNat_le.mpr h4,?_⟩ (.xorI ?_)
 ·rw [Int.natAbs_natCast,show bigN = 2 ^ 240 by decide +kernel]
  exact Nat.lt_of_le_of_lt (Nat.div_le_self _ _) hx
 ·rw [show Builtin.bitXor (x:Int) (((x / 2 ^ sh:Nat):Int) * 2 ^ (sh:Int).toNat) = ((x % 2 ^ sh:Nat):Int) by rw [Int.toNat_natCast,<- zve]; rw [Int.natCast_mul,Int.natCast_pow]; rfl]
  exact q
end
noncomputable def natV (l:List Nat):List V:=l.map fun k=>.int (k:Nat)
structure InF (C:Cx) (K:Frag) (f:Addr) (sc:Scope) (body:List Stmt) (fd:FuncData):Prop where
 F2:∀ d,Facts2 (C.at d) P0 K
 L:∀ d,LimAt (C.at d)
 Fa:∀ d,FnAt0 (C.at d) f sc body fd
theorem InF.keep {C:Cx} {K:Frag} {f:Addr} {sc:Scope} {body:List Stmt} {fd:FuncData} (I:InF C K f sc body fd) {A:Around} {σ:St} (H:HRel σ.g σ.s.heap) (B:Base C σ.g):KeepOk C A σ.s (.ref f):=by
 obtain ⟨o,ho,hd⟩:=(I.Fa 0).ho
 exact zf4 (C:=C) (H.fz _ _ (B.hf _ _ ho)) hd
structure I2A (σ:St) (la n x lo hi:Nat) (ds:List V) (args':List Value):Prop where
 h:σ.g.cs[la]? = some (.list ds)
 hh:hi <= ds.length
 hl:lo < hi
 hx:x < 2 ^ 240
 hn:n * (hi - lo) <= 4000
 h63:hi - lo < 2 ^ 63
 ra:VRels σ.g [.int x,.int lo,.int hi] args'
theorem zhi {C:Cx} {Φ:Fm} {ns:List Str} {P:Prm} (F:Facts C P) (es:List IE) (w:wfs (IE.sems P es) Φ.env.scope ns = true):∀ e ∈ IE.sems P es,EOk C Φ ns e:=(IE.all_good F es).ok w
theorem zyf {n a b x:Nat} {ds:List V} {lo:Nat} (ha:1 <= a) (hb:1 <= b) (h:lo + a + b <= ds.length):splice (splice ds lo (natV (digs n a (x % 2 ^ (n * a))))) (lo + a) (natV (digs n b (x / 2 ^ (n * a)))) = splice ds lo (natV (digs n (a + b) x)):=by
 have l1:(natV (digs n a (x % 2 ^ (n * a)))).length = a:=by rw [natV,List.length_map,za9]
 have l2:(natV (digs n b (x / 2 ^ (n * a)))).length = b:=by rw [natV,List.length_map,za9]
 have:=zok (ds:=ds) (s1:=natV (digs n a (x % 2 ^ (n * a)))) (s2:=natV (digs n b (x / 2 ^ (n * a)))) (i:=lo) (by rw [l1,l2]; exact h)
 rw [l1] at this
 rw [this,zhe n a b x ha hb,natV,natV,natV,List.map_append]
structure MidOk (lo hi e:Nat) (mid:Nat):Prop where
 l:lo < mid
 r:mid < hi
 ea:mid - lo <= 2 ^ e
 eb:hi - mid <= 2 ^ e
 sa:mid - lo <= hi - lo
 sb:hi - mid <= hi - lo
 ad:mid - lo + (hi - mid) = hi - lo
 am:lo + (mid - lo) = mid
theorem zz7 {lo hi e:Nat} (h:lo < hi) (h1:lo + 1 ≠ hi) (hm:hi - lo <= 2 ^ (e + 1)):MidOk lo hi e ((lo + hi) / 2):=by
 obtain ⟨n,rfl⟩:=Nat.exists_eq_add_of_le (Nat.lt_of_le_of_ne (Nat.succ_le_of_lt h) h1)
 rw [Nat.pow_succ] at hm
 have e0:lo + 1 + 1 + n = lo + (n + 2):=by rw [Nat.add_assoc,Nat.add_assoc,<- Nat.add_assoc 1 1 n,Nat.add_comm n]
 rw [show lo.succ + 1 + n = lo + (n + 2) from e0] at hm ⊢
 rw [Nat.add_sub_cancel_left] at hm
 have em:(lo + (lo + (n + 2))) / 2 = lo + (n / 2 + 1):=by
  rw [show lo + (lo + (n + 2)) = n + 2 * (lo + 1) by clear hm h1 h e0; lia,Nat.add_mul_div_left _ _ (by decide),Nat.add_comm lo 1,<- Nat.add_assoc,Nat.add_comm]
 have hb:n + 2 - (n / 2 + 1) <= 2 ^ e:=by clear e0 em h h1; generalize 2 ^ e = p at hm; lia
 have ha:n / 2 + 1 <= 2 ^ e:=by clear e0 em h h1 hb; generalize 2 ^ e = p at hm; lia
 have hl:n / 2 + 1 < n + 2:=Nat.add_lt_add_of_le_of_lt (Nat.div_le_self n 2) (by decide)
 have ea:lo + (n / 2 + 1) - lo = n / 2 + 1:=Nat.add_sub_cancel_left ..
 have eb:lo + (n + 2) - (lo + (n / 2 + 1)) = n + 2 - (n / 2 + 1):=Nat.add_sub_add_left ..
 have et:lo + (n + 2) - lo = n + 2:=Nat.add_sub_cancel_left ..
 rw [em]
 exact ⟨Nat.lt_add_of_pos_right (Nat.succ_pos _),Nat.add_lt_add_left hl lo,by rw [ea]; exact ha,by rw [eb]; exact hb,by rw [ea,et]; exact Nat.le_of_lt hl,by rw [eb,et]; exact Nat.sub_le _ _,by rw [ea,eb,et]; exact Nat.add_sub_cancel' (Nat.le_of_lt hl),by rw [ea]⟩
theorem zg8 {n a k:Nat} (h:a <= k) (hn:n * k <= 4000):n * a <= 4000:=Nat.le_trans (Nat.mul_le_mul_left n h) hn
section
variable {C:Cx} {K:Frag} {f:Addr} {fd:FuncData} {la n:Nat}
theorem I2A.low {σ σ':St} {x lo hi mid e:Nat} {ds:List V} {args' a:List Value} (T:I2A σ la n x lo hi ds args') (M:MidOk lo hi e mid) (c:σ'.g.cs = σ.g.cs) (ra:VRels σ'.g [.int (x % 2 ^ (n * (mid - lo)):Nat),.int lo,.int mid] a):I2A σ' la n (x % 2 ^ (n * (mid - lo))) lo mid ds a :=
 ⟨c ▸ T.h,Nat.le_trans (Nat.le_of_lt M.r) T.hh,M.l,Nat.lt_of_le_of_lt (Nat.mod_le _ _) T.hx,zg8 M.sa T.hn,Nat.lt_of_le_of_lt M.sa T.h63,ra⟩
theorem I2A.high {σ σ':St} {x lo hi mid e:Nat} {ds ds1:List V} {args' a:List Value} (T:I2A σ la n x lo hi ds args') (M:MidOk lo hi e mid) (hl:ds1.length = ds.length) (c:σ'.g.cs = σ.g.cs.set la (.list ds1)) (ra:VRels σ'.g [.int (x / 2 ^ (n * (mid - lo)):Nat),.int mid,.int hi] a):I2A σ' la n (x / 2 ^ (n * (mid - lo))) mid hi ds1 a :=
 ⟨by rw [c]; exact List.getElem?_set_self ((List.getElem?_eq_some_iff.mp T.h).1),hl ▸ T.hh,M.r,Nat.lt_of_le_of_lt (Nat.div_le_self _ _) T.hx,zg8 M.sb T.hn,Nat.lt_of_le_of_lt M.sb T.h63,ra⟩
theorem zqg {x lo hi mid e:Nat} {ds:List V} {cs:List Cell} (M:MidOk lo hi e mid) (hh:hi <= ds.length):(cs.set la (.list (splice ds lo (natV (digs n (mid - lo) (x % 2 ^ (n * (mid - lo)))))))).set la (.list (splice (splice ds lo (natV (digs n (mid - lo) (x % 2 ^ (n * (mid - lo)))))) mid (natV (digs n (hi - mid) (x / 2 ^ (n * (mid - lo))))))) = cs.set la (.list (splice ds lo (natV (digs n (hi - lo) x)))):=by
 have h:=zyf (n:=n) (a:=mid - lo) (b:=hi - mid) (x:=x) (ds:=ds) (lo:=lo) (Nat.sub_pos_of_lt M.l) (Nat.sub_pos_of_lt M.r) (by rw [Nat.add_assoc,M.ad]; have:=M.l; have:=M.r; lia)
 rw [M.am,M.ad] at h
 rw [List.set_set,h]
theorem z1y {x lo hi mid e:Nat} {ds:List V} (M:MidOk lo hi e mid) (hh:hi <= ds.length):(splice ds lo (natV (digs n (mid - lo) (x % 2 ^ (n * (mid - lo)))))).length = ds.length:=by
 refine zhp ?_
 rw [natV,List.length_map,za9,M.am]
 exact Nat.le_trans (Nat.le_of_lt M.r) hh
theorem W4' {sc:Scope} (h:sc = zaj) (p:Pos):(ED.loc (S "inner") 8 p).wf sc (ownNs zaj ++ zbf) = true:=by rw [h]; exact W4_i2d p
theorem zc4 {A:Around} {σ:St} {d:Nat} {g:Value} {a:List Value} {KK:KV} (k:KeepOk C A σ.s g) (h:CRuns C A σ g a [] KK):CallsOk (C.at d) A σ KK g a []:=⟨k,h.runs⟩
theorem T2_i2d:[(zzr.sem P0).ast,(zrm.sem P0).ast] = [.Expr (.Call (.Name (S "inner") (pp 141 8 13)) ((IE.sems P0 zoc).map ED.ast) [] (pp 141 8 28)) (pp 141 8 28),.Expr (.Call (.Name (S "inner") (pp 142 8 13)) ((IE.sems P0 zob).map ED.ast) [] (pp 142 8 28)) (pp 142 8 28)]:=by kernel_rfl
theorem zta {σ σ3:St} {d:Nat} {Φ:Fm} {ds:List V} {x lo hi:Nat} {args':List Value} {KK:KV} (I:InF C K f zaj (bodyOf F_i2d) fd) (T:I2A σ la n x lo hi ds args') (hh:lo + 1 = hi) (hsc:Φ.env.scope = zaj) {m s u w:Option V}
  (S3:Std (C.at d) Φ (look (ownNs zaj ++ zbf) (zjy (some (.int x)) (some (.int lo)) (some (.int hi)) m s u w la n f)) σ3) (e3:σ3.g.cs = σ.g.cs) (q:KK .none (σ.g.cs.set la (.list (splice ds lo (natV (digs n (hi - lo) x)))))) :
  XRuns (C.at d) Φ (ownNs zaj ++ zbf) σ3 (execs (bodyOf F_i2d) Φ.env) fun fl _ cs=>KK (retOf fl) cs:=by
 rw [<- z06]
 refine zbj (K1:=fun fl _ cs=>fl = .ret .none /\ cs = σ.g.cs.set la (.list (ds.set lo (.int x)))) (IS.sems P0 ze3) ((IS.all_good (I.F2 d) ze3).ok ((I.L _).fm _ _) (hsc ▸ z01)) _ σ3 S3 (zxr (hi:=hi) (e3 ▸ T.h) (Nat.lt_of_lt_of_le T.hl T.hh) hh fun _=>⟨rfl,e3 ▸ rfl⟩) (fun fl sl cs hk _=>?_) fun sl' σ' X' S' hk=>nomatch hk.1
 rw [hk.1,hk.2]
 subst hh
 rw [Nat.add_sub_cancel_left] at q
 rw [zol (Nat.lt_of_lt_of_le T.hl T.hh)]
 exact q
theorem i2d_in (I:InF C K f zaj (bodyOf F_i2d) fd) (hb:∀ x l r:Value,bindArgs fd ⟨[x,l,r],[]⟩ = pure [(S "x",x),(S "L",l),(S "R",r)]) (e:Nat) :
  ∀ {A:Around} {σ:St} {ds:List V} {x lo hi:Nat} {args':List Value} {KK:KV},AOk A (e + 1) -> HRel σ.g σ.s.heap -> Base C σ.g -> CloOk σ zaj fd.closure zbf [some (.ref la),some (.adr f),some (.int n)] -> I2A σ la n x lo hi ds args' -> hi - lo <= 2 ^ e ->
   KK .none (σ.g.cs.set la (.list (splice ds lo (natV (digs n (hi - lo) x))))) -> CRuns C A σ (.ref f) args' [] KK:=by
 induction e with
 | zero =>
  intro A σ ds x lo hi args' KK O H B Q T hm q
  obtain ⟨x',l',r',rfl,rx,rl,rr⟩:=T.ra.three
  have hh:lo + 1 = hi:=by have:=T.hl; lia
  refine zb8 (C:=C.at 0) (ns:=zbf) (ps:=[(S "x",0),(S "L",1),(S "R",2)]) (vs:=[.int x,.int lo,.int hi]) (I.L 0).l (I.Fa 0) O H ⟨B.pr,B.hf,B.fl⟩ rfl (fun M A E Q h=>by rw [hb]; exact wpAny_pure h) (.cons ⟨rfl,rx⟩ (.cons ⟨rfl,rl⟩ (.cons ⟨rfl,rr⟩ .nil))) Q z0z fun Φ σ3 hsc I3 S3=>?_
  have e3:=I3.cs
  have hcode:=I3.code
  have hqual:=I3.qual
  have X3:=I3.X.drop_own I3.own0
  rw [z0x] at S3
  exact zta (d:=0) I T hh hsc S3 e3 q
 | succ e ih =>
  intro A σ ds x lo hi args' KK O H B Q T hm q
  obtain ⟨x',l',r',rfl,rx,rl,rr⟩:=T.ra.three
  refine zb8 (C:=C.at (e + 1)) (ns:=zbf) (ps:=[(S "x",0),(S "L",1),(S "R",2)]) (vs:=[.int x,.int lo,.int hi]) (I.L _).l (I.Fa _) O H ⟨B.pr,B.hf,B.fl⟩ rfl (fun M A E Q h=>by rw [hb]; exact wpAny_pure h) (.cons ⟨rfl,rx⟩ (.cons ⟨rfl,rl⟩ (.cons ⟨rfl,rr⟩ .nil))) Q z0z fun Φ σ3 hsc I3 S3=>?_
  have e3:=I3.cs
  have hcode:=I3.code
  have hqual:=I3.qual
  have X3:=I3.X.drop_own I3.own0
  rw [z0x] at S3
  by_cases h1:lo + 1 = hi
  ·exact zta I T h1 hsc S3 e3 q
  have M:=zz7 T.hl h1 hm
  rw [<- z06,T2_i2d]
  refine zbj (K1:=fun fl sl cs=>fl = .next /\ sl = zjy (some (.int x)) (some (.int lo)) (some (.int hi)) (some (.int ((lo + hi) / 2:Nat))) (some (.int (n * ((lo + hi) / 2 - lo):Nat))) (some (.int (x / 2 ^ (n * ((lo + hi) / 2 - lo)):Nat))) (some (.int (x % 2 ^ (n * ((lo + hi) / 2 - lo)):Nat))) la n f /\ cs = σ.g.cs) (IS.sems P0 ze3) ((IS.all_good (I.F2 _) ze3).ok ((I.L _).fm _ _) (hsc ▸ z01)) _ σ3 S3
   (z3v h1 rfl (Nat.le_of_lt M.l) (Nat.mul_comm _ _) (zg8 M.sa T.hn) T.hx (Nat.lt_of_le_of_lt M.sa T.h63) ⟨rfl,rfl,e3⟩) (fun fl sl cs hk ne=>(ne hk.1).elim) fun sl4 σ4 X4 S4 hk=>?_
  obtain ⟨_,rfl,c4⟩:=hk
  have no:=zhf S3 (Q.ext H X3 fun _ _ _ z=>z) (hsc ▸ W6_i2d)
  have X34:=(toOwn (Φ:=Φ) X3).trans X4
  generalize (lo + hi) / 2 = mid at *
  refine zga (K1:=fun _ cs=>cs = σ.g.cs.set la (.list (splice ds lo (natV (digs n (mid - lo) (x % 2 ^ (n * (mid - lo)))))))) S4 rfl (zc1 (W4' hsc _) (zhi (I.F2 (e + 1)).F zoc (hsc ▸ W2_i2d)) S4 (T:=fun vs cs=>vs = [.int (x % 2 ^ (n * (mid - lo)):Nat),.int lo,.int mid] /\ cs = σ.g.cs) rfl ⟨rfl,c4⟩ fun vs a σ5 X5 ra ht=>?_) fun v σ6 X6 S6 k6=>?_
  ·obtain ⟨rfl,c5⟩:=ht
   have X:=X34.trans (toOwn X5)
   exact zc4 (I.keep X5.H ⟨(S4.ext X5).B.pr,(S4.ext X5).B.hf,(S4.ext X5).B.fl⟩) (ih (S4.ext X5).O X5.H ⟨(S4.ext X5).B.pr,(S4.ext X5).B.hf,(S4.ext X5).B.fl⟩ (Q.ext H X no) (T.low M c5 ra) M.ea (by rw [c5]))
  ·refine zga (K1:=fun _ cs=>cs = σ.g.cs.set la (.list (splice ds lo (natV (digs n (hi - lo) x))))) S6 rfl (zc1 (W4' hsc _) (zhi (I.F2 (e + 1)).F zob (hsc ▸ W3_i2d)) S6 (T:=fun vs cs=>vs = [.int (x / 2 ^ (n * (mid - lo)):Nat),.int mid,.int hi] /\ cs = σ6.g.cs) rfl ⟨rfl,rfl⟩ fun vs a σ7 X7 ra ht=>?_) fun v σ8 X8 S8 k8=>zty S8 (by rw [k8]; exact q)
   obtain ⟨rfl,c7⟩:=ht
   have X:=(X34.trans (toOwn X6)).trans (toOwn X7)
   exact zc4 (I.keep X7.H ⟨(S6.ext X7).B.pr,(S6.ext X7).B.hf,(S6.ext X7).B.fl⟩) (ih (S6.ext X7).O X7.H ⟨(S6.ext X7).B.pr,(S6.ext X7).B.hf,(S6.ext X7).B.fl⟩ (Q.ext H X no) (T.high M (z1y M T.hh) (c7.trans k6) ra) M.eb (by rw [c7.trans k6,zqg M T.hh]))
end
section
variable {C:Cx} {Φ:Fm} {σ:St} {ns:List Str}
theorem zju {s:Stmt} {rest:List Stmt} {K1 K2:KF} (h1:XRuns C Φ ns σ (exec s Φ.env) K1) (hx:∀ fl sl cs,K1 fl sl cs -> fl ≠ .next -> K2 fl sl cs) (h:∀ sl' σ',Ext σ σ' (ownOf Φ.env) -> Std C Φ (look ns sl') σ' -> K1 .next sl' σ'.g.cs -> XRuns C Φ ns σ' (execs rest Φ.env) K2) :
  XRuns C Φ ns σ (execs (s :: rest) Φ.env) K2:=fun Q E k=>by
 refine wpAny_execs_cons (h1 _ _ fun fl sl1 f σ1 X1 r1 S1 q1=>?_)
 cases r1 with
 | next=>exact h sl1 σ1 X1 S1 q1 Q E fun fl sl2 f σ2 X2 r2 S2 q2=>k fl sl2 f σ2 (X1.trans X2) r2 S2 q2
 | brk=>exact k .brk sl1 .brk σ1 X1 .brk S1 (hx _ _ _ q1 fun e=>nomatch e)
 | cont=>exact k .cont sl1 .cont σ1 X1 .cont S1 (hx _ _ _ q1 fun e=>nomatch e)
 | ret r=>exact k (.ret _) sl1 (.ret _) σ1 X1 (.ret r) S1 (hx _ _ _ q1 fun e=>nomatch e)
theorem z3r {t:ED} {a b:List Stmt} {p:Pos} {sl:Slots} {T:Bool -> List Cell -> Prop} {K2:KF} (O:EOk C Φ ns t) (S:Std C Φ (look ns sl) σ) (q:t.tst sl σ.g.cs T) (h:∀ c σ',Ext σ σ' noOwn -> Std C Φ (look ns sl) σ' -> T c σ'.g.cs -> XRuns C Φ ns σ' (execs (cond c a b) Φ.env) K2) :
  XRuns C Φ ns σ (exec (.If t.ast a b p) Φ.env) K2:=fun Q E k=>by
 refine wpAny_If (O.tst sl σ _ S q _ _ fun c c' σ1 X1 rc q1=>?_)
 cases (rc:c' = c)
 have:=h c σ1 X1 (S.ext X1) q1 Q E fun fl sl2 f σ2 X2 r2 S2 q2=>k fl sl2 f σ2 ((toOwn X1).trans X2) r2 S2 q2
 cases c <;> exact this
end
theorem W0.more {C:Cx} {K:Frag} (W:W0 C K) {b:Addr -> Option Obj} (m:∀ a o,C.base a = some o -> b a = some o) (d:Nat):W0 { C with base:=b,d:=d } K where
 inK:=⟨fun a o e=>m _ _ (W.inK.sub a o e)⟩
 blt:=by obtain ⟨o,mb,e,r⟩:=W.blt; exact ⟨o,mb,m _ _ e,r⟩
 glo:=by obtain ⟨o,mb,e,r⟩:=W.glo; exact ⟨o,mb,m _ _ e,r⟩
 lim:=by obtain ⟨o,es,ep,mc,e,r⟩:=W.lim; exact ⟨o,es,ep,mc,m _ _ e,r⟩
 lo:=by obtain ⟨o,e⟩:=W.lo; exact ⟨o,m _ _ e⟩
 bmain:=by obtain ⟨bm,ob,e1,e2,e3,r⟩:=W.bmain; exact ⟨bm,ob,e1,e2,m _ _ e3,r⟩
noncomputable abbrev zae:Scope:=scopeOf F_int2digits
theorem TO_i2d:(IS.sems P0 [zbh]).map SD.ast ++ (F_i2d :: ((IS.sems P0 [zb3]).map SD.ast ++ (IS.sems P0 [zb2]).map SD.ast)) = bodyOf F_int2digits:=by kernel_rfl
theorem z5m:bwf (IS.sems P0 [zbh]) zae (ownNs zae ++ []) = true:=by kernel_rfl
theorem z5k:bwf (IS.sems P0 [zb2]) zae (ownNs zae ++ []) = true:=by kernel_rfl
theorem z5i:wfs (IE.sems P0 za3) zae (ownNs zae ++ []) = true:=by kernel_rfl
theorem z5g (p:Pos):(ED.loc (S "inner") 3 p).wf zae (ownNs zae ++ []) = true:=by kernel_rfl
theorem z5e:[(S "a",0),(S "n",1)].all (fun p=>tgt1 zae (ownNs zae ++ []) p.1 p.2) = true:=by kernel_rfl
theorem z5c:tgt1 zae (ownNs zae ++ []) (S "inner") 3 = true:=by kernel_rfl
theorem z5a:List.replicate (ownNs zae).length (none:Option V) = [none,none,none,none]:=by kernel_rfl
theorem z48:(zaj.names.all fun p=>!(isFree p.2) || ((zae.names.lookup p.1 == some .cell) && !(zaj.names.contains (p.1,.cell)))) = true:=by kernel_rfl
noncomputable def parOf:Stmt -> Arguments
 | .FunctionDef _ a _ _ _ _ _ _ _ _=>a
 | _=>default
noncomputable def posOf:Stmt -> Pos
 | .FunctionDef _ _ _ _ _ _ _ _ _ p=>p
 | _=>default
theorem TD_i2d:F_i2d = .FunctionDef (S "inner") (parOf F_i2d) (bodyOf F_i2d) [] none [] zaj none (S "inner") (posOf F_i2d):=by kernel_rfl
theorem z04:(parOf F_i2d).defaults = [] /\ (parOf F_i2d).kw_defaults = []:=⟨by kernel_rfl,by kernel_rfl⟩
section
variable {C:Cx} {Φ:Fm} {σ:St} {ns:List Str} {sl:Slots} {K:Frag}
theorem XRuns.less {b:Addr -> Option Obj} {t:Sem Flow} {KK:KF} (m:∀ a o,C.base a = some o -> b a = some o) (h:XRuns (C.more b) Φ ns σ t KK):XRuns C Φ ns σ t KK:=fun Q E k =>
 h Q E fun fl sl f σ' X r S q=>k fl sl f σ' X r ⟨S.F,S.H,⟨S.B.pr,fun a o e=>S.B.hf a o (m a o e),S.B.fl⟩,S.O⟩ q
theorem zn2 (W:W0 C K) (S:Std C Φ (look ns sl) σ) {name:Str} {params:Arguments} {body:List Stmt} {scope:Scope} {pos:Pos} {c Pt:Addr} {lt i:Nat} {rest:List Stmt} {K2:KF}
  (hd0:params.defaults = []) (hk0:params.kw_defaults = []) (ha:annTrees params none Φ.env = []) (hcode:Φ.env.code = .ref c) (Tb:TabFact C c Pt) (hct:σ.g.cs[lt]? = some (.tab Pt pos (Φ.env.qual ++ name)))
  (hfree:∀ x ∈ scope.names,x.2 = .free -> ∃ c,Φ.env.cells.lookup x.1 = some c) (hgP:mainGlobals ≠ Pt) (hkn:Φ.env.kindOf name = some .cell) (htg:tgt1 Φ.env.scope ns name i = true) (h1:scope.isCoroutine = false) (h2:scope.isGenerator = false) (h3:scope.kind = .function)
  (h:∀ f fd base' σ',Ext σ σ' (ownOf Φ.env) -> σ'.g.cs = σ.g.cs -> Std (C.more base') Φ (look ns (sl.set i (some (.adr f)))) σ' -> DefAt C Φ σ σ' scope body name params f fd base' -> XRuns (C.more base') Φ ns σ' (execs rest Φ.env) K2) :
  XRuns C Φ ns σ (execs (.FunctionDef name params body [] none [] scope none name pos :: rest) Φ.env) K2:=fun Q E k=>by
 refine wpAny_execs_cons (def_ok W S hd0 hk0 ha hcode Tb hct hfree hgP hkn htg h1 h2 h3 fun f fd base' σ5 X5 e5 S5 D=>?_)
 exact (h f fd base' σ5 X5 e5 ⟨S5.F,S5.H,D.B,S5.O⟩ D).less D.more Q E fun fl sl2 f σ2 X2 r2 S2 q2=>k fl sl2 f σ2 (X5.trans X2) r2 S2 q2
end
theorem LawOk.more {C:Cx} {K:Frag} {l:Law} (O:LawOk C K l) {b:Addr -> Option Obj} (m:∀ a o,C.base a = some o -> b a = some o) (d:Nat):LawOk { C with base:=b,d:=d } K l :=
 ⟨O.W.more m d,O.globs,O.cf,fun a bad h=>by
  obtain ⟨code,⟨c,o1,o2,o3,o4,o5,its,n,e1,e2,e3⟩,s⟩:=O.pats a bad h
  exact ⟨code,⟨c,o1,o2,o3,o4,o5,its,n,m _ _ e1,m _ _ e2,e3⟩,s⟩⟩
theorem zpn (a k:Nat) (h:a < 2 ^ k):Builtin.Int.intBits (a:Int) <= k:=by
 unfold Builtin.Int.intBits
 split
 ·exact Nat.zero_le _
 ·rename_i h0
  rw [Int.natAbs_natCast]
  have h1:a ≠ 0:=fun q=>h0 (by rw [q]; rfl)
  have:=(Nat.log2_lt h1).mpr h
  exact Nat.succ_le_of_lt ‹_›
theorem ztn (k:Nat):(List.replicate k [V.int 0]).flatten = List.replicate k (V.int 0):=by
 induction k with
 | zero=>rfl
 | succ k ih=>rw [List.replicate_succ,List.replicate_succ,List.flatten_cons,ih]; rfl
noncomputable def cntOf (a n:Nat):Nat:=(Builtin.Int.intBits (a:Int) + n - 1) / n
structure CntOk (a n c:Nat):Prop where
 n1:1 <= n
 c1:c <= 240
 cn:n * c <= 480
 e1:((Builtin.Int.intBits (a:Int):Int) + (n:Int) - 1) = ((Builtin.Int.intBits (a:Int) + n - 1:Nat):Int)
 pos:a ≠ 0 -> 1 <= c
 zero:a = 0 -> c = 0
theorem z0q {a n:Nat} (ha:a < 2 ^ 240) (h1:1 <= n) (h2:n <= 240):CntOk a n (cntOf a n):=by
 have hb:=zpn a 240 ha
 unfold cntOf
 refine ⟨h1,?_,?_,by lia,fun h0=>?_,fun h0=>?_⟩
 ·refine Nat.le_trans (Nat.div_le_div_right (c:=n) (b:=240 + n - 1) (by lia)) ?_
  have:(240 + n - 1) / n < 241:=(Nat.div_lt_iff_lt_mul (Nat.succ_le_of_lt ‹_›)).mpr (by lia)
  exact Nat.le_of_lt_succ ‹_›
 ·have:=Nat.mul_div_le (Builtin.Int.intBits (a:Int) + n - 1) n
  lia
 ·have hb1:1 <= Builtin.Int.intBits (a:Int):=by
   unfold Builtin.Int.intBits
   rw [if_neg (by simp; lia)]
   exact Nat.succ_pos _
  exact (Nat.le_div_iff_mul_le (Nat.succ_le_of_lt ‹_›)).mpr (by lia)
 ·subst h0
  exact Nat.div_eq_of_lt (by have:Builtin.Int.intBits ((0:Nat):Int) = 0:=rfl; lia)
theorem BinR.mulL' {c:Bool} {cs:List Cell} {K:KV} {xs zs:List V} {j:Int} (e:(List.replicate j.toNat xs).flatten = zs) (h:xs.length * j.toNat <= lim) (hj:small62 j) (k:listK c zs cs K):BinR c cs K .Mult (.lst xs) (.int j):=by subst e; exact .mulL h hj k
theorem ztb {a n:Nat} {cs:List Cell} {K:KF} (M:CntOk a n (cntOf a n)) (hb:(n:Int).natAbs < bigN) (q:K .next [some (.int a),some (.int n),some (.ref cs.length),none] (cs ++ [.list (List.replicate (cntOf a n) (.int 0))])) :
  bden (IS.sems P0 [zbh]) [some (.int a),some (.int n),none,none] cs K :=
 ⟨(by decide:1 <= lim),⟨.bits _,.bits (.addI (.subI' M.e1 (.fdivI' (z:=(cntOf a n:Nat)) ⟨fun e=>by have:=M.n1; lia,hb⟩ (by rw [Int.fdiv_eq_ediv_of_nonneg _ (Int.natCast_nonneg n)]; rfl) (.mulL' (zs:=List.replicate (cntOf a n) (.int 0)) (by rw [Int.toNat_natCast]; exact ztn _) (by rw [Int.toNat_natCast]; have:=M.c1; show 1 * _ <= 8388608; lia) ⟨by lia,by have:=M.c1; lia⟩ ⟨by rw [List.length_replicate]; have:=M.c1; show _ <= 8388608; exact Nat.le_trans ‹_› (by decide),q⟩))))⟩⟩
theorem TI_i2d:(IS.sems P0 [zb3]).map SD.ast = [.If ((IE.nm (S "a") 0 (pp 143 7 8)).sem P0).ast [.Expr (.Call (.Name (S "inner") (pp 144 8 13)) ((IE.sems P0 za3).map ED.ast) [] (pp 144 8 34)) (pp 144 8 34)] [] ⟨143,4,144,34⟩]:=by kernel_rfl
theorem WI_i2d:((IE.nm (S "a") 0 (pp 143 7 8)).sem P0).wf zae (ownNs zae ++ []) = true:=by kernel_rfl
theorem WO4' {sc:Scope} (h:sc = zae) (p:Pos):(ED.loc (S "inner") 3 p).wf sc (ownNs zae ++ []) = true:=by rw [h]; exact z5g p
noncomputable abbrev zdi (a n la:Nat) (f:Addr):Slots:=[some (.int a),some (.int n),some (.ref la),some (.adr f)]
theorem zc6 (cs:List Cell) (c:Cell):(cs ++ [c])[cs.length]? = some c:=by rw [List.getElem?_append_right (Nat.le_refl _),Nat.sub_self]; rfl
theorem zxs {a n:Nat} {f:Addr} {cs c1:List Cell} {k:Nat} (e:c1 = cs ++ [.list (List.replicate k (.int 0))]):vals (IE.sems P0 za3) (zdi a n cs.length f) c1 fun vs c=>vs = [.int a,.int (0:Nat),.int k] /\ c = c1:=by
 subst e
 refine .lenL (.ref (zc6 _ _)) ⟨?_,rfl⟩
 rw [List.length_replicate]; rfl
section
variable {C:Cx} {Φ:Fm} {σ:St} {K:Frag} {f:Addr} {fd:FuncData} {a n:Nat} {cs:List Cell} {KK:KV}
theorem I2A.first {σ':St} {a':List Value} (M:CntOk a n (cntOf a n)) (h0:a ≠ 0) (ha:a < 2 ^ 240) (c:σ'.g.cs = cs ++ [.list (List.replicate (cntOf a n) (.int 0))]) (ra:VRels σ'.g [.int a,.int (0:Nat),.int (cntOf a n)] a'):I2A σ' cs.length n a 0 (cntOf a n) (List.replicate (cntOf a n) (.int 0)) a' :=
 ⟨by rw [c]; exact zc6 _ _,by rw [List.length_replicate]; exact Nat.le_refl _,M.pos h0,ha,by have:=M.cn; rw [Nat.sub_zero]; exact Nat.le_trans ‹_› (by decide),by have:=M.c1; exact Nat.lt_of_le_of_lt ‹_› (by decide),ra⟩
theorem z3w (M:CntOk a n (cntOf a n)):(cs ++ [Cell.list (List.replicate (cntOf a n) (.int 0))]).set cs.length (.list (splice (List.replicate (cntOf a n) (.int 0)) 0 (natV (digs n (cntOf a n - 0) a)))) = cs ++ [.list (natV (digs n (cntOf a n) a))]:=by
 rw [Nat.sub_zero,zlo (by rw [List.length_replicate,natV,List.length_map,za9]),List.set_append_right _ _ (Nat.le_refl _),Nat.sub_self]
 rfl
theorem zxp (I:InF C K f zaj (bodyOf F_i2d) fd) (hb:∀ x l r:Value,bindArgs fd ⟨[x,l,r],[]⟩ = pure [(S "x",x),(S "L",l),(S "R",r)]) (hsc:Φ.env.scope = zae) (Q:CloOk σ zaj fd.closure zbf [some (.ref cs.length),some (.adr f),some (.int n)])
  (Sd:Std (C.at 9) Φ (look (ownNs zae ++ []) (zdi a n cs.length f)) σ) (M:CntOk a n (cntOf a n)) (ha:a < 2 ^ 240) (e:σ.g.cs = cs ++ [.list (List.replicate (cntOf a n) (.int 0))]) (q:KK (.ref cs.length) (cs ++ [.list (natV (digs n (cntOf a n) a))])) :
  XRuns (C.at 9) Φ (ownNs zae ++ []) σ (execs ((IS.sems P0 [zb3]).map SD.ast ++ (IS.sems P0 [zb2]).map SD.ast) Φ.env) fun fl _ cs=>KK (retOf fl) cs:=by
 rw [TI_i2d]
 refine zju (K1:=fun fl sl c=>fl = .next /\ sl = zdi a n cs.length f /\ c = cs ++ [.list (natV (digs n (cntOf a n) a))]) (z3r (T:=fun b c=>b = decide ((a:Int) ≠ 0) /\ c = σ.g.cs) ((IE.nm (S "a") 0 (pp 143 7 8)).good (I.F2 9).F Φ _ (hsc ▸ WI_i2d)) Sd ⟨rfl,rfl⟩ fun c σ1 X1 S1 ht=>?_) (fun fl sl c hk ne=>(ne hk.1).elim) fun sl' σ' X' S' hk=>?_
 ·obtain ⟨hc,e1⟩:=ht
  by_cases h0:a = 0
  ·have:c = false:=hc.trans (by subst h0; rfl)
   subst this
   refine zty S1 ⟨rfl,rfl,?_⟩
   rw [e1,e,M.zero h0]; rfl
  ·have:c = true:=hc.trans (decide_eq_true fun z=>h0 (Int.ofNat.inj z))
   subst this
   refine zga (K1:=fun _ c=>c = cs ++ [.list (natV (digs n (cntOf a n) a))]) S1 rfl (zc1 (WO4' hsc _) (zhi (I.F2 9).F za3 (hsc ▸ z5i)) S1 rfl (zxs (e1.trans e)) fun vs a' σ2 X2 ra ht=>?_) fun v σ3 X3 S3 k3=>zty S3 ⟨rfl,rfl,k3⟩
   obtain ⟨rfl,c2⟩:=ht
   have S2:=S1.ext X2
   refine zc4 (I.keep S2.H ⟨S2.B.pr,S2.B.hf,S2.B.fl⟩) (i2d_in I hb 8 S2.O S2.H ⟨S2.B.pr,S2.B.hf,S2.B.fl⟩ (Q.ext Sd.H (X1.trans X2) fun _ _ _ z=>z) (I2A.first M h0 ha (c2.trans (e1.trans e)) ra) (by have:=M.c1; exact Nat.le_trans ‹_› (by decide)) ?_)
   rw [c2.trans (e1.trans e),z3w M]
 ·obtain ⟨_,rfl,e'⟩:=hk
  exact zd6 _ ((IS.all_good (I.F2 9) _).ok ((I.L _).fm _ _) (hsc ▸ z5k)) _ _ _ S' (e' ▸ q)
end
theorem zmf {C:Cx} {K:Frag} {a:Addr} {F:Stmt} {fd:FuncData} (W:Within C K) (Fk:FnK K a F) (h:fdO K a = some fd) (co:(scopeOf F).isCoroutine = false) (gen:(scopeOf F).isGenerator = false) (kind:(scopeOf F).kind = .function):FnAt0 C a (scopeOf F) (bodyOf F) fd:=by
 obtain ⟨o,e1,e2⟩:=z0l h
 obtain ⟨c,oc,vs,t,q1,q2,q3,q4⟩:=zkx Fk h
 exact ⟨⟨o,W.sub _ _ e1,e2⟩,zak h Fk.s,zak h Fk.b,zak h Fk.g,zak h Fk.u,co,gen,kind,c,oc,vs,t,q1,W.sub _ _ q2,q3,q4⟩
theorem CRuns.at_ {C:Cx} {A:Around} {σ:St} {f:Value} {a:List Value} {k:List (Str × Value)} {KK:KV} {d e:Nat} (h:CRuns (C.at d) A σ f a k KK):CRuns (C.at e) A σ f a k KK:=fun R q=>h R q
theorem zsp {ns:List Str} {sl:Slots} {x:Str} {v:V} (hl:sl.length <= ns.length) (h:look ns sl x = some v):x ∈ ns:=by
 refine Classical.byContradiction fun q=>?_
 unfold look at h
 rw [List.idxOf_eq_length q,List.getElem?_eq_none hl] at h
 cases h
theorem TA_i2d (env:Env):annTrees (parOf F_i2d) none env = []:=by kernel_rfl
theorem TB_i2d (q:Str) (clo:List (Str × Addr)) (doc pm c ctv x l r:Value):bindArgs (fnX (S "inner") q (parOf F_i2d) (bodyOf F_i2d) zaj clo .none .none doc pm none c ctv) ⟨[x,l,r],[]⟩ = pure [(S "x",x),(S "L",l),(S "R",r)]:=by kernel_rfl
theorem zxq {a n la:Nat} {f:Addr} (x:Str) (v:V) (h:look zbf [some (.ref la),some (.adr f),some (.int n)] x = some v):look (ownNs zae ++ []) (zdi a n la f) x = some v:=by
 have hx:=zsp (ns:=zbf) (sl:=[some (.ref la),some (.adr f),some (.int n)]) (Nat.le_refl 3) h
 have e1:look zbf [some (.ref la),some (.adr f),some (.int n)] (S "a_digits") = look (ownNs zae ++ []) (zdi a n la f) (S "a_digits"):=by kernel_rfl
 have e2:look zbf [some (.ref la),some (.adr f),some (.int n)] (S "inner") = look (ownNs zae ++ []) (zdi a n la f) (S "inner"):=by kernel_rfl
 have e3:look zbf [some (.ref la),some (.adr f),some (.int n)] (S "n") = look (ownNs zae ++ []) (zdi a n la f) (S "n"):=by kernel_rfl
 rcases List.mem_cons.mp hx with rfl | hx
 ·exact e1 ▸ h
 rcases List.mem_cons.mp hx with rfl | hx
 ·exact e2 ▸ h
 cases List.mem_singleton.mp hx
 exact e3 ▸ h
theorem zim {x:Str} (hx:(x,NameKind.free) ∈ zaj.names):zae.names.lookup x = some .cell /\ (x,NameKind.cell) ∉ zaj.names:=by
 have:=List.all_eq_true.mp z48 _ hx
 simp only [show isFree NameKind.free = true from rfl,Bool.not_true,Bool.false_or,Bool.and_eq_true,beq_iff_eq,Bool.not_eq_true',List.contains_eq_mem,decide_eq_false_iff_not] at this
 exact this
theorem z46:nfree zae = true:=by kernel_rfl
theorem no_i2d (x:Str):(x,NameKind.free) ∉ zae.names:=fun hx=>by
 have:=List.all_eq_true.mp z46 _ hx
 cases this
noncomputable def qI2D:Str:=(S "_int2digits" ++ (".<locals>." : Str)) ++ S "inner"
structure DgOk (lt:Nat) (a n:Nat) (cs:List Cell):Prop where
 t:cs[lt]? = some (.tab 195 (posOf F_i2d) qI2D)
 ha:a < 2 ^ 240
 n1:1 <= n
 n2:n <= 240
noncomputable def digS (lt:Nat):Spec:=Sp (fun a:Nat × Nat=>[.int a.1,.int a.2]) [] noKw fun a cs K=>DgOk lt a.1 a.2 cs /\ K (.lst (natV (digs a.2 (cntOf a.1 a.2) a.1))) cs
theorem zwu (l:List Nat):natV l = (l.map fun k=>((k:Nat):Int)).map .int:=by rw [natV,List.map_map]; rfl
theorem zif {C:Cx} {K:Frag} (O:LawOk C K law3) (hfm:∀ A env,C.fm A env) (Fk:FnK K 200 F_int2digits) (Bd:Bd2 K 200 (S "a") (S "n")) (hq:(fdO K 200).map (·.qualname) = some (S "_int2digits")) (hc:(fdO K 200).map (·.code) = some (.ref 199)) (Tb:TabFact C 199 195) (lt:Nat):FnOk (C.at 10) 200 (digS lt):=by
 intro A σ args kws args' kws' K' Oa H B ra rk q
 obtain ⟨⟨a,n⟩,rfl,rfl,(T:DgOk lt a n σ.g.cs),(q:K' (.lst (natV (digs n (cntOf a n) a))) σ.g.cs)⟩:=q
 obtain ⟨fd,hf⟩:=Option.isSome_iff_exists.mp Fk.i
 have Fa:∀ d,FnAt0 (C.at d) 200 zae (bodyOf F_int2digits) fd:=fun d=>zmf ⟨O.W.inK.sub⟩ Fk hf rfl rfl rfl
 have M:=z0q T.ha T.n1 T.n2
 have Oo:∀ d,LawOk (C.at d) K law3:=fun d=>O.more (fun _ _ e=>e) d
 obtain ⟨o,ho,hd⟩:=(Fa 9).ho
 refine ⟨zf4 (C:=C.at 10) (H.fz _ _ (B.hf _ _ ho)) hd,?_⟩
 cases rk.nil_of
 obtain ⟨v,u,rfl,r1,r2⟩:=ra.two
 refine CRuns.dropL (ns:=(digs n (cntOf a n) a).map fun k=>((k:Nat):Int)) ?_ H
 rw [<- zwu]
 refine CRuns.at_ (d:=9) ?_
 refine zb8 (C:=C.at 9) (ns:=[]) (sl:=[]) (ps:=[(S "a",0),(S "n",1)]) (vs:=[.int a,.int n]) O.W.lim (Fa 9) Oa H ⟨B.pr,B.hf,B.fl⟩ rfl (fun M A E Q h=>by rw [zak hf (Bd v u)]; exact wpAny_pure h) (.cons ⟨rfl,r1⟩ (.cons ⟨rfl,r2⟩ .nil)) (by rw [zak hf Fk.k]; exact .nil no_i2d) z5e fun Φ σ3 hsc I3 S3=>?_
 have e3:=I3.cs
 have hcode:=I3.code
 have hqual:=I3.qual
 have X3:=I3.X.drop_own I3.own0
 rw [z5a] at S3
 rw [<- TO_i2d,TD_i2d]
 refine zbj (K1:=fun fl sl c=>fl = .next /\ sl = [some (.int a),some (.int n),some (.ref σ.g.cs.length),none] /\ c = σ.g.cs ++ [.list (List.replicate (cntOf a n) (.int 0))]) (IS.sems P0 [zbh]) ((IS.all_good (zfb (Oo 9) za8) _).ok (hfm _ _) (hsc ▸ z5m)) _ σ3 S3
  (ztb M (by rw [Int.natAbs_natCast,show bigN = 2 ^ 240 by decide +kernel]; exact Nat.lt_of_le_of_lt T.n2 (by decide +kernel)) ⟨rfl,by rw [e3],by rw [e3]⟩) (fun fl sl c hk ne=>(ne hk.1).elim) fun sl4 σ4 X4 S4 hk=>?_
 obtain ⟨_,rfl,c4⟩:=hk
 refine zn2 (Oo 9).W S4 z04.1 z04.2 (TA_i2d _) (hcode.trans (zak hf hc)) ⟨Tb.at_⟩ (lt:=lt) (i:=3) ?_ (fun x hx hxk=>?_) (by decide) (by show Φ.env.scope.names.lookup _ = _; rw [hsc]; kernel_rfl) (hsc ▸ z5c) rfl rfl rfl fun f fd' base' σ5 X5 e5 S5 D=>?_
 ·rw [c4,List.getElem?_append_left (List.getElem?_eq_some_iff.mp T.t).1,T.t,hqual,zak hf hq]; rfl
 ·obtain ⟨y,k⟩:=x
  cases (hxk:k = _)
  obtain ⟨c,_,e,_⟩:=S4.F.cell y (.inl (by show Φ.env.scope.names.lookup _ = _; rw [hsc]; exact (zim hx).1))
  exact ⟨c,e⟩
 obtain ⟨c',doc,pm,ctv,hfd⟩:=D.fd_
 have Lm:=D.lim
 have Fi:=D.Fa
 refine zxp (C:=(C.at 9).more base') (K:=K) (f:=f) (fd:=fd') (cs:=σ.g.cs) (KK:=fun v c=>v = .ref σ.g.cs.length /\ c = σ.g.cs ++ [Cell.list (natV (digs n (cntOf a n) a))] /\ K' (.lst (natV (digs n (cntOf a n) a))) σ.g.cs) ⟨fun d=>zfb (O.more D.more d) za8,fun d=>⟨hfm,D.lim⟩,fun d=>⟨Fi.ho,Fi.scope,Fi.body,Fi.glo,Fi.blt,Fi.co,Fi.gen,Fi.kind,Fi.code⟩⟩ (fun x l r=>by rw [hfd]; exact TB_i2d ..) hsc ?_ S5 M T.ha (e5.trans c4) ⟨rfl,rfl,q⟩
 rw [D.clo]
 exact z0s S5 (fun x hx=>.inl (by show Φ.env.scope.names.lookup _ = _; rw [hsc]; exact (zim hx).1)) zxq fun x hx=>(zim hx).2
section
variable {C:Cx} {Φ:Fm} {σ:St} {ns:List Str}
theorem zn6 {l r:Expr} {op:Operator} {p:Pos} {K1 K2 K:KV} (h1:Runs C Φ.A σ noOwn (eval l Φ.env) VR K1) (h2:∀ v σ',Ext σ σ' noOwn -> K1 v σ'.g.cs -> Runs C Φ.A σ' noOwn (eval r Φ.env) VR K2) (h:∀ v u cs,(∃ cs',K1 v cs') -> K2 u cs -> BinR false cs K op v u):Runs C Φ.A σ noOwn (eval (.BinOp l op r p) Φ.env) VR K:=fun Q E k =>
 wpAny_BinOp (h1 _ _ fun a a' σ1 X1 r1 q1=>h2 a σ1 X1 q1 _ _ fun b b' σ2 X2 r2 q2=>z0u (h a b σ2.g.cs ⟨_,q1⟩ q2) X2.H (r1.mono X2.le) r2 Q E fun v x σ3 X3 r q=>k v x σ3 ((X1.trans X2).trans X3) r q)
theorem znh {e:Expr} {p:Pos} {rest:List Stmt} {sl:Slots} {K1:KV} {K2:KF} (S:Std C Φ (look ns sl) σ) (he:Runs C Φ.A σ noOwn (eval e Φ.env) VR K1) (h:∀ v cs,K1 v cs -> K2 (.ret v) sl cs):XRuns C Φ ns σ (execs (.Return (some e) p :: rest) Φ.env) K2:=fun Q E k =>
 wpAny_execs_cons (wpAny_Return_some (he _ _ fun v a σ1 X1 r q1=>k (.ret v) sl _ σ1 (toOwn X1) (.ret r) (S.ext X1) (h v _ q1)))
end
noncomputable def za5:List Str:=[S "digits",S "inner",S "n"]
noncomputable abbrev zai:Scope:=scopeOf F_d2i
noncomputable def ze4:List IS:=[s2_d2i,s3_d2i,s4_d2i]
theorem z07:(IS.sems P0 ze4).map SD.ast ++ [(zzs.sem P0).ast] = bodyOf F_d2i:=by kernel_rfl
theorem T2_d2i:[(zzs.sem P0).ast] = [.Return (some (.BinOp (.BinOp (.Call (.Name (S "inner") (pp 153 16 21)) ((IE.sems P0 zoe).map ED.ast) [] (pp 153 16 29)) .LShift ((IE.nm (S "shift") 3 (pp 153 33 38)).sem P0).ast (pp 153 16 38)) .Add (.Call (.Name (S "inner") (pp 153 42 47)) ((IE.sems P0 zod).map ED.ast) [] (pp 153 42 55)) (pp 153 15 55))) (pp 153 8 55)]:=by kernel_rfl
theorem z02:bwf (IS.sems P0 ze4) zai (ownNs zai ++ za5) = true:=by kernel_rfl
theorem W2_d2i:wfs (IE.sems P0 zoe) zai (ownNs zai ++ za5) = true:=by kernel_rfl
theorem W3_d2i:wfs (IE.sems P0 zod) zai (ownNs zai ++ za5) = true:=by kernel_rfl
theorem W4_d2i (p:Pos):(ED.loc (S "inner") 5 p).wf zai (ownNs zai ++ za5) = true:=by kernel_rfl
theorem z00:[(S "L",0),(S "R",1)].all (fun p=>tgt1 zai (ownNs zai ++ za5) p.1 p.2) = true:=by kernel_rfl
theorem W6_d2i:(zai.names.all fun p=>!(p.2 == .cell)) = true:=by kernel_rfl
theorem z0y:List.replicate (ownNs zai).length (none:Option V) = [none,none,none,none]:=by kernel_rfl
theorem W8_d2i:((IE.nm (S "shift") 3 (pp 153 33 38)).sem P0).wf zai (ownNs zai ++ za5) = true:=by kernel_rfl
noncomputable abbrev zjz (l r m s:Option V) (dv:V) (n:Nat) (f:Addr):Slots:=[l,r,m,s,some dv,some (.adr f),some (.int n)]
section
variable {cs:List Cell} {ds:List Nat} {dv:V} {n lo hi:Nat} {f:Addr} {K:KF}
theorem zxo {ds:List Nat} {lo d:Nat} (h:ds[lo]? = some d):idxV (natV ds) (lo:Int) = some (.int d):=by
 rw [zeo,natV,List.getElem?_map,h]; rfl
theorem zym {d:Nat} (D:SeqR cs dv false (natV ds)) (hd:ds[lo]? = some d) (hh:lo + 1 = hi) {m s:Option V} (q:∀ sl,K (.ret (.int d)) sl cs) :
  bden (IS.sems P0 ze4) (zjz (some (.int lo)) (some (.int hi)) m s dv n f) cs K :=
 .addI (.eq (.intT (congrArg Int.ofNat hh)) ⟨_,.seq D (zxo hd),q _⟩)
theorem z4d {mid sh:Nat} (h1:lo + 1 ≠ hi) (hm:(lo + hi) / 2 = mid) (hlo:lo <= mid) (hsh:(mid - lo) * n = sh) (hmm:mid - lo < 2 ^ 63) {m s:Option V}
  (q:K .next (zjz (some (.int lo)) (some (.int hi)) (some (.int mid)) (some (.int sh)) dv n f) cs) :
  bden (IS.sems P0 ze4) (zjz (some (.int lo)) (some (.int hi)) m s dv n f) cs K:=by
 subst hm
 refine .addI (.eq (.intF fun e=>h1 (Int.ofNat.inj e)) (.addI (.shrI (by decide) ?_)))
 rw [show Int.fdiv ((lo:Int) + (hi:Int)) (2 ^ (1:Int).toNat) = (((lo + hi) / 2:Nat):Int) from zr9 lo hi]
 exact .subI' (z:=(((lo + hi) / 2 - lo:Nat):Int)) (Int.ofNat_sub hlo).symm (.mulI' (z:=(sh:Int)) (mul_l (by rw [Int.natAbs_natCast]; exact hmm)) (by rw [<- Int.natCast_mul,hsh]) q)
end
theorem W4d' {sc:Scope} (h:sc = zai) (p:Pos):(ED.loc (S "inner") 5 p).wf sc (ownNs zai ++ za5) = true:=by rw [h]; exact W4_d2i p
structure D2A (σ:St) (dv:V) (n:Nat) (ds:List Nat) (lo hi:Nat) (args':List Value):Prop where
 D:SeqR σ.g.cs dv false (natV ds)
 hh:hi <= ds.length
 hl:lo < hi
 hn:n * (hi - lo) <= 4000
 h63:hi - lo < 2 ^ 63
 ra:VRels σ.g [.int lo,.int hi] args'
section
variable {C:Cx} {K:Frag} {f:Addr} {fd:FuncData} {dv:V} {n:Nat} {ds:List Nat} {lo hi mid e:Nat}
theorem D2A.high {σ σ':St} {args' a:List Value} (T:D2A σ dv n ds lo hi args') (M:MidOk lo hi e mid) (c:σ'.g.cs = σ.g.cs) (ra:VRels σ'.g [.int mid,.int hi] a):D2A σ' dv n ds mid hi a :=
 ⟨c ▸ T.D,T.hh,M.r,zg8 M.sb T.hn,Nat.lt_of_le_of_lt M.sb T.h63,ra⟩
theorem D2A.low {σ σ':St} {args' a:List Value} (T:D2A σ dv n ds lo hi args') (M:MidOk lo hi e mid) (c:σ'.g.cs = σ.g.cs) (ra:VRels σ'.g [.int lo,.int mid] a):D2A σ' dv n ds lo mid a :=
 ⟨c ▸ T.D,Nat.le_trans (Nat.le_of_lt M.r) T.hh,M.l,zg8 M.sa T.hn,Nat.lt_of_le_of_lt M.sa T.h63,ra⟩
theorem z1d (M:MidOk lo hi e mid) (hh:hi <= ds.length):((val n (seg ds mid hi):Nat):Int) * 2 ^ (((n * (mid - lo):Nat):Int)).toNat + ((val n (seg ds lo mid):Nat):Int) = ((val n (seg ds lo hi):Nat):Int):=by
 rw [zra ds (Nat.le_of_lt M.l) (Nat.le_of_lt M.r),zcx,zor ds (Nat.le_trans (Nat.le_of_lt M.r) hh),Nat.mul_comm (2 ^ _),Nat.add_comm (val n (seg ds lo mid)),Int.toNat_natCast]
 push_cast
 rfl
theorem zug {σ σ3:St} {d:Nat} {Φ:Fm} {args':List Value} {KK:KV} (I:InF C K f zai (bodyOf F_d2i) fd) (T:D2A σ dv n ds lo hi args') (hh:lo + 1 = hi) (hsc:Φ.env.scope = zai) {m s:Option V}
  (S3:Std (C.at d) Φ (look (ownNs zai ++ za5) (zjz (some (.int lo)) (some (.int hi)) m s dv n f)) σ3) (e3:σ3.g.cs = σ.g.cs) (q:KK (.int (val n (seg ds lo hi):Nat)) σ.g.cs) :
  XRuns (C.at d) Φ (ownNs zai ++ za5) σ3 (execs (bodyOf F_d2i) Φ.env) fun fl _ cs=>KK (retOf fl) cs:=by
 rw [<- z07]
 obtain ⟨x,hx⟩:∃ x,ds[lo]? = some x:=⟨_,List.getElem?_eq_getElem (Nat.lt_of_lt_of_le T.hl T.hh)⟩
 refine zbj (K1:=fun fl _ cs=>fl = .ret (.int x) /\ cs = σ.g.cs) (IS.sems P0 ze4) ((IS.all_good (I.F2 d) ze4).ok ((I.L _).fm _ _) (hsc ▸ z02)) _ σ3 S3 (zym (hi:=hi) (e3 ▸ T.D) hx hh fun _=>⟨rfl,e3⟩) (fun fl sl cs hk _=>?_) fun sl' σ' X' S' hk=>nomatch hk.1
 rw [hk.1,hk.2]
 subst hh
 rw [z1x ds hx] at q
 have e:val n [x] = x:=by show x + 2 ^ n * 0 = x; lia
 rw [e] at q
 exact q
theorem d2i_in (I:InF C K f zai (bodyOf F_d2i) fd) (hb:∀ l r:Value,bindArgs fd ⟨[l,r],[]⟩ = pure [(S "L",l),(S "R",r)]) (hv:val n ds < 2 ^ 240) (e:Nat) :
  ∀ {A:Around} {σ:St} {lo hi:Nat} {args':List Value} {KK:KV},AOk A (e + 1) -> HRel σ.g σ.s.heap -> Base C σ.g -> CloOk σ zai fd.closure za5 [some dv,some (.adr f),some (.int n)] -> D2A σ dv n ds lo hi args' -> hi - lo <= 2 ^ e ->
   KK (.int (val n (seg ds lo hi):Nat)) σ.g.cs -> CRuns C A σ (.ref f) args' [] KK:=by
 induction e with
 | zero =>
  intro A σ lo hi args' KK O H B Q T hm q
  obtain ⟨l',r',rfl,rl,rr⟩:=T.ra.two
  have hh:lo + 1 = hi:=by have:=T.hl; lia
  refine zb8 (C:=C.at 0) (ns:=za5) (ps:=[(S "L",0),(S "R",1)]) (vs:=[.int lo,.int hi]) (I.L 0).l (I.Fa 0) O H ⟨B.pr,B.hf,B.fl⟩ rfl (fun M A E Q h=>by rw [hb]; exact wpAny_pure h) (.cons ⟨rfl,rl⟩ (.cons ⟨rfl,rr⟩ .nil)) Q z00 fun Φ σ3 hsc I3 S3=>?_
  have e3:=I3.cs
  have hcode:=I3.code
  have hqual:=I3.qual
  have X3:=I3.X.drop_own I3.own0
  rw [z0y] at S3
  exact zug (d:=0) I T hh hsc S3 e3 q
 | succ e ih =>
  intro A σ lo hi args' KK O H B Q T hm q
  obtain ⟨l',r',rfl,rl,rr⟩:=T.ra.two
  refine zb8 (C:=C.at (e + 1)) (ns:=za5) (ps:=[(S "L",0),(S "R",1)]) (vs:=[.int lo,.int hi]) (I.L _).l (I.Fa _) O H ⟨B.pr,B.hf,B.fl⟩ rfl (fun M A E Q h=>by rw [hb]; exact wpAny_pure h) (.cons ⟨rfl,rl⟩ (.cons ⟨rfl,rr⟩ .nil)) Q z00 fun Φ σ3 hsc I3 S3=>?_
  have e3:=I3.cs
  have hcode:=I3.code
  have hqual:=I3.qual
  have X3:=I3.X.drop_own I3.own0
  rw [z0y] at S3
  by_cases h1:lo + 1 = hi
  ·exact zug I T h1 hsc S3 e3 q
  have M:=zz7 T.hl h1 hm
  rw [<- z07,T2_d2i]
  refine zbj (K1:=fun fl sl cs=>fl = .next /\ sl = zjz (some (.int lo)) (some (.int hi)) (some (.int ((lo + hi) / 2:Nat))) (some (.int (n * ((lo + hi) / 2 - lo):Nat))) dv n f /\ cs = σ.g.cs) (IS.sems P0 ze4) ((IS.all_good (I.F2 _) ze4).ok ((I.L _).fm _ _) (hsc ▸ z02)) _ σ3 S3
   (z4d h1 rfl (Nat.le_of_lt M.l) (Nat.mul_comm _ _) (Nat.lt_of_le_of_lt M.sa T.h63) ⟨rfl,rfl,e3⟩) (fun fl sl cs hk ne=>(ne hk.1).elim) fun sl4 σ4 X4 S4 hk=>?_
  obtain ⟨_,rfl,c4⟩:=hk
  have no:=zhf S3 (Q.ext H X3 fun _ _ _ z=>z) (hsc ▸ W6_d2i)
  have X34:=(toOwn (Φ:=Φ) X3).trans X4
  generalize (lo + hi) / 2 = mid at *
  refine znh (K1:=fun v c=>v = .int (val n (seg ds lo hi):Nat) /\ c = σ.g.cs) S4 (zn6 (K1:=fun v c=>v = .int (((val n (seg ds mid hi):Nat):Int) * 2 ^ (((n * (mid - lo):Nat):Int)).toNat) /\ c = σ.g.cs) (K2:=fun v c=>v = .int (val n (seg ds lo mid):Nat) /\ c = σ.g.cs)
   (zn6 (K1:=fun v c=>v = .int (val n (seg ds mid hi):Nat) /\ c = σ.g.cs) (K2:=fun v c=>v = .int (n * (mid - lo):Nat) /\ c = σ.g.cs) (zc1 (W4d' hsc _) (zhi (I.F2 (e + 1)).F zoe (hsc ▸ W2_d2i)) S4 (T:=fun vs c=>vs = [.int mid,.int hi] /\ c = σ.g.cs) rfl ⟨rfl,c4⟩ fun vs a σ5 X5 ra ht=>?_)
    (fun v σ5 X5 h5=>((IE.nm (S "shift") 3 (pp 153 33 38)).good (I.F2 (e + 1)).F Φ _ (hsc ▸ W8_d2i)).val _ _ _ (S4.ext X5) ⟨rfl,h5.2⟩) fun v u c hv' hu=>?_)
   (fun v σ6 X6 h6=>zc1 (W4d' hsc _) (zhi (I.F2 (e + 1)).F zod (hsc ▸ W3_d2i)) (S4.ext X6) (T:=fun vs c=>vs = [.int lo,.int mid] /\ c = σ.g.cs) rfl ⟨rfl,h6.2⟩ fun vs a σ7 X7 ra ht=>?_) fun v u c hv' hu=>?_) fun v c h=>by rw [h.1,h.2]; exact q
  ·obtain ⟨rfl,c5⟩:=ht
   have S5:=S4.ext X5
   exact zc4 (I.keep S5.H ⟨S5.B.pr,S5.B.hf,S5.B.fl⟩) (ih S5.O S5.H ⟨S5.B.pr,S5.B.hf,S5.B.fl⟩ (Q.ext H (X34.trans (toOwn X5)) no) (T.high M c5 ra) M.eb ⟨rfl,c5⟩)
  ·obtain ⟨_,rfl,_⟩:=hv'
   obtain ⟨rfl,rfl⟩:=hu
   refine .shlI ⟨Int.natCast_nonneg _,Int.ofNat_le.mpr (zg8 M.sa T.hn),?_⟩ ⟨rfl,rfl⟩
   rw [Int.natAbs_natCast,show bigN = 2 ^ 240 by decide +kernel]
   exact Nat.lt_of_le_of_lt (z1f n ds mid hi) hv
  ·obtain ⟨rfl,c7⟩:=ht
   have S7:=(S4.ext X6).ext X7
   exact zc4 (I.keep S7.H ⟨S7.B.pr,S7.B.hf,S7.B.fl⟩) (ih S7.O S7.H ⟨S7.B.pr,S7.B.hf,S7.B.fl⟩ (Q.ext H ((X34.trans (toOwn X6)).trans (toOwn X7)) no) (T.low M c7 ra) M.ea ⟨rfl,c7⟩)
  ·obtain ⟨_,rfl,_⟩:=hv'
   obtain ⟨rfl,rfl⟩:=hu
   exact .addI' (z1d M T.hh) ⟨rfl,rfl⟩
end
theorem zxm {C:Cx} {Φ:Fm} {σ:St} {ns:List Str} {t:ED} {a b:Expr} {p:Pos} {sl:Slots} {T:Bool -> List Cell -> Prop} {K:KV} (O:EOk C Φ ns t) (S:Std C Φ (look ns sl) σ) (q:t.tst sl σ.g.cs T) (h:∀ c σ',Ext σ σ' noOwn -> Std C Φ (look ns sl) σ' -> T c σ'.g.cs -> Runs C Φ.A σ' noOwn (eval (cond c a b) Φ.env) VR K) :
  Runs C Φ.A σ noOwn (eval (.IfExp t.ast a b p) Φ.env) VR K:=fun Q E k=>wpAny_IfExp (O.tst sl σ _ S q _ _ fun c c' σ1 X1 rc q1=>by
 cases (rc:c' = c)
 have:=h c σ1 X1 (S.ext X1) q1 Q E fun v a σ2 X2 r q=>k v a σ2 (X1.trans X2) r q
 cases c <;> exact this)
theorem zq7 {cs:List Cell} {v:V} {xs:List V} {K:KB} (D:SeqR cs v false xs) (k:K (!xs.isEmpty) cs):truthK cs v K:=by
 cases D with
 | lst=>exact k
 | ref h=>exact ⟨_,h,k⟩
noncomputable abbrev zaf:Scope:=scopeOf F_digits2int
theorem TO_d2i:[F_d2i,.Return (some (.IfExp ((IE.nm (S "digits") 0 (pp 154 36 42)).sem P0).ast (.Call (.Name (S "inner") (pp 154 11 16)) ((IE.sems P0 za4).map ED.ast) [] (pp 154 11 32)) ((IE.con (.int 0) 0 (pp 154 48 49)).sem P0).ast (pp 154 11 49))) (pp 154 4 49)] = bodyOf F_digits2int:=by kernel_rfl
theorem z5n:((IE.nm (S "digits") 0 (pp 154 36 42)).sem P0).wf zaf (ownNs zaf ++ []) = true:=by kernel_rfl
theorem z5l:((IE.con (.int 0) 0 (pp 154 48 49)).sem P0).wf zaf (ownNs zaf ++ []) = true:=by kernel_rfl
theorem z5j:wfs (IE.sems P0 za4) zaf (ownNs zaf ++ []) = true:=by kernel_rfl
theorem z5h (p:Pos):(ED.loc (S "inner") 2 p).wf zaf (ownNs zaf ++ []) = true:=by kernel_rfl
theorem WO4d' {sc:Scope} (h:sc = zaf) (p:Pos):(ED.loc (S "inner") 2 p).wf sc (ownNs zaf ++ []) = true:=by rw [h]; exact z5h p
theorem z5f:[(S "digits",0),(S "n",1)].all (fun p=>tgt1 zaf (ownNs zaf ++ []) p.1 p.2) = true:=by kernel_rfl
theorem z5d:tgt1 zaf (ownNs zaf ++ []) (S "inner") 2 = true:=by kernel_rfl
theorem z5b:List.replicate (ownNs zaf).length (none:Option V) = [none,none,none]:=by kernel_rfl
theorem z49:(zai.names.all fun p=>!(isFree p.2) || ((zaf.names.lookup p.1 == some .cell) && !(zai.names.contains (p.1,.cell)))) = true:=by kernel_rfl
theorem z47:nfree zaf = true:=by kernel_rfl
theorem no_d2i (x:Str):(x,NameKind.free) ∉ zaf.names:=fun hx=>by
 have:=List.all_eq_true.mp z47 _ hx
 cases this
theorem TD_d2i:F_d2i = .FunctionDef (S "inner") (parOf F_d2i) (bodyOf F_d2i) [] none [] zai none (S "inner") (posOf F_d2i):=by kernel_rfl
theorem z05:(parOf F_d2i).defaults = [] /\ (parOf F_d2i).kw_defaults = []:=⟨by kernel_rfl,by kernel_rfl⟩
theorem TA_d2i (env:Env):annTrees (parOf F_d2i) none env = []:=by kernel_rfl
theorem TB_d2i (q:Str) (clo:List (Str × Addr)) (doc pm c ctv l r:Value):bindArgs (fnX (S "inner") q (parOf F_d2i) (bodyOf F_d2i) zai clo .none .none doc pm none c ctv) ⟨[l,r],[]⟩ = pure [(S "L",l),(S "R",r)]:=by kernel_rfl
theorem zix {x:Str} (hx:(x,NameKind.free) ∈ zai.names):zaf.names.lookup x = some .cell /\ (x,NameKind.cell) ∉ zai.names:=by
 have:=List.all_eq_true.mp z49 _ hx
 simp only [show isFree NameKind.free = true from rfl,Bool.not_true,Bool.false_or,Bool.and_eq_true,beq_iff_eq,Bool.not_eq_true',List.contains_eq_mem,decide_eq_false_iff_not] at this
 exact this
noncomputable abbrev zeg (dv:V) (n:Nat) (f:Addr):Slots:=[some dv,some (.int n),some (.adr f)]
theorem zyl {dv:V} {n:Nat} {f:Addr} (x:Str) (v:V) (h:look za5 [some dv,some (.adr f),some (.int n)] x = some v):look (ownNs zaf ++ []) (zeg dv n f) x = some v:=by
 have hx:=zsp (ns:=za5) (sl:=[some dv,some (.adr f),some (.int n)]) (Nat.le_refl 3) h
 have e1:look za5 [some dv,some (.adr f),some (.int n)] (S "digits") = look (ownNs zaf ++ []) (zeg dv n f) (S "digits"):=by kernel_rfl
 have e2:look za5 [some dv,some (.adr f),some (.int n)] (S "inner") = look (ownNs zaf ++ []) (zeg dv n f) (S "inner"):=by kernel_rfl
 have e3:look za5 [some dv,some (.adr f),some (.int n)] (S "n") = look (ownNs zaf ++ []) (zeg dv n f) (S "n"):=by kernel_rfl
 rcases List.mem_cons.mp hx with rfl | hx
 ·exact e1 ▸ h
 rcases List.mem_cons.mp hx with rfl | hx
 ·exact e2 ▸ h
 cases List.mem_singleton.mp hx
 exact e3 ▸ h
noncomputable def qD2I:Str:=(S "_digits2int" ++ (".<locals>." : Str)) ++ S "inner"
structure DtA where
 dv:V
 ds:List Nat
 n:Nat
structure DtOk (lt:Nat) (a:DtA) (cs:List Cell):Prop where
 t:cs[lt]? = some (.tab 202 (posOf F_d2i) qD2I)
 D:SeqR cs a.dv false (natV a.ds)
 hl:a.ds.length <= 240
 hn:a.n * a.ds.length <= 4000
 hv:val a.n a.ds < 2 ^ 240
noncomputable def datS (lt:Nat):Spec:=Sp (fun a:DtA=>[a.dv,.int a.n]) [] noKw fun a cs K=>DtOk lt a cs /\ K (.int (val a.n a.ds:Nat)) cs
theorem zyn {dv:V} {ds:List Nat} {n:Nat} {f:Addr} {cs:List Cell} (D:SeqR cs dv false (natV ds)):vals (IE.sems P0 za4) (zeg dv n f) cs fun vs c=>vs = [.int (0:Nat),.int ds.length] /\ c = cs:=by
 refine .lenL D ⟨?_,rfl⟩
 rw [natV,List.length_map]; rfl
section
variable {C:Cx} {Φ:Fm} {σ:St} {K:Frag} {f:Addr} {fd:FuncData} {dv:V} {ds:List Nat} {n lt:Nat} {KK:KV}
theorem zyk {p:Pos} (I:InF C K f zai (bodyOf F_d2i) fd) (hb:∀ l r:Value,bindArgs fd ⟨[l,r],[]⟩ = pure [(S "L",l),(S "R",r)]) (hsc:Φ.env.scope = zaf) (Q:CloOk σ zai fd.closure za5 [some dv,some (.adr f),some (.int n)])
  (Sd:Std (C.at 9) Φ (look (ownNs zaf ++ []) (zeg dv n f)) σ) (T:DtOk lt ⟨dv,ds,n⟩ σ.g.cs) (q:KK (.int (val n ds:Nat)) σ.g.cs) :
  XRuns (C.at 9) Φ (ownNs zaf ++ []) σ (execs [.Return (some (.IfExp ((IE.nm (S "digits") 0 (pp 154 36 42)).sem P0).ast (.Call (.Name (S "inner") (pp 154 11 16)) ((IE.sems P0 za4).map ED.ast) [] (pp 154 11 32)) ((IE.con (.int 0) 0 (pp 154 48 49)).sem P0).ast (pp 154 11 49))) p] Φ.env) fun fl _ cs=>KK (retOf fl) cs:=by
 refine znh (K1:=fun v c=>v = .int (val n ds:Nat) /\ c = σ.g.cs) Sd (zxm (T:=fun b c=>b = (!(natV ds).isEmpty) /\ c = σ.g.cs) ((IE.nm (S "digits") 0 (pp 154 36 42)).good (I.F2 9).F Φ _ (hsc ▸ z5n)) Sd (show truthK σ.g.cs dv (fun b c=>b = (!(natV ds).isEmpty) /\ c = σ.g.cs) from zq7 T.D ⟨rfl,rfl⟩) fun c σ1 X1 S1 ht=>?_) fun v c h=>by rw [h.1,h.2]; exact q
 obtain ⟨hc,e1⟩:=ht
 cases ds with
 | nil =>
  cases hc
  exact ((IE.con (.int 0) 0 (pp 154 48 49)).good (I.F2 9).F Φ _ (hsc ▸ z5l)).val _ _ _ S1 ⟨rfl,e1⟩
 | cons d r =>
  cases hc
  refine zc1 (WO4d' hsc _) (zhi (I.F2 9).F za4 (hsc ▸ z5j)) S1 rfl (zyn (e1 ▸ T.D)) fun vs a' σ2 X2 ra ht=>?_
  obtain ⟨rfl,c2⟩:=ht
  have S2:=S1.ext X2
  have e2:=c2.trans e1
  have hl:=T.hl
  exact zc4 (I.keep S2.H ⟨S2.B.pr,S2.B.hf,S2.B.fl⟩) (d2i_in I hb T.hv 8 S2.O S2.H ⟨S2.B.pr,S2.B.hf,S2.B.fl⟩ (Q.ext Sd.H (X1.trans X2) fun _ _ _ z=>z) ⟨e2 ▸ T.D,Nat.le_refl _,Nat.succ_pos _,by rw [Nat.sub_zero]; exact T.hn,Nat.lt_of_le_of_lt (Nat.le_trans (Nat.sub_le _ _) hl) (by decide),ra⟩ (Nat.le_trans (Nat.le_trans (Nat.sub_le _ _) hl) (by decide)) ⟨by rw [zv5],e2⟩)
end
theorem zih {C:Cx} {K:Frag} (O:LawOk C K law3) (hfm:∀ A env,C.fm A env) (Fk:FnK K 207 F_digits2int) (Bd:Bd2 K 207 (S "digits") (S "n")) (hq:(fdO K 207).map (·.qualname) = some (S "_digits2int")) (hc:(fdO K 207).map (·.code) = some (.ref 206)) (Tb:TabFact C 206 202) (lt:Nat):FnOk (C.at 10) 207 (datS lt):=by
 intro A σ args kws args' kws' K' Oa H B ra rk q
 obtain ⟨⟨dv,ds,n⟩,rfl,rfl,T,(q:K' (.int (val n ds:Nat)) σ.g.cs)⟩:=q
 obtain ⟨fd,hf⟩:=Option.isSome_iff_exists.mp Fk.i
 have Fa:∀ d,FnAt0 (C.at d) 207 zaf (bodyOf F_digits2int) fd:=fun d=>zmf ⟨O.W.inK.sub⟩ Fk hf rfl rfl rfl
 have Oo:∀ d,LawOk (C.at d) K law3:=fun d=>O.more (fun _ _ e=>e) d
 obtain ⟨o,ho,hd⟩:=(Fa 9).ho
 refine ⟨zf4 (C:=C.at 10) (H.fz _ _ (B.hf _ _ ho)) hd,?_⟩
 cases rk.nil_of
 obtain ⟨v,u,rfl,r1,r2⟩:=ra.two
 refine CRuns.at_ (d:=9) ?_
 refine zb8 (C:=C.at 9) (ns:=[]) (sl:=[]) (ps:=[(S "digits",0),(S "n",1)]) (vs:=[dv,.int n]) O.W.lim (Fa 9) Oa H ⟨B.pr,B.hf,B.fl⟩ rfl (fun M A E Q h=>by rw [zak hf (Bd v u)]; exact wpAny_pure h) (.cons ⟨rfl,r1⟩ (.cons ⟨rfl,r2⟩ .nil)) (by rw [zak hf Fk.k]; exact .nil no_d2i) z5f fun Φ σ3 hsc I3 S3=>?_
 have e3:=I3.cs
 have hcode:=I3.code
 have hqual:=I3.qual
 have X3:=I3.X.drop_own I3.own0
 rw [z5b] at S3
 rw [<- TO_d2i,TD_d2i]
 refine zn2 (Oo 9).W S3 z05.1 z05.2 (TA_d2i _) (hcode.trans (zak hf hc)) ⟨Tb.at_⟩ (lt:=lt) (i:=2) ?_ (fun x hx hxk=>?_) (by decide) (by show Φ.env.scope.names.lookup _ = _; rw [hsc]; kernel_rfl) (hsc ▸ z5d) rfl rfl rfl fun f fd' base' σ5 X5 e5 S5 D=>?_
 ·rw [e3,T.t,hqual,zak hf hq]; rfl
 ·obtain ⟨y,k⟩:=x
  cases (hxk:k = _)
  obtain ⟨c,_,e,_⟩:=S3.F.cell y (.inl (by show Φ.env.scope.names.lookup _ = _; rw [hsc]; exact (zix hx).1))
  exact ⟨c,e⟩
 obtain ⟨c',doc,pm,ctv,hfd⟩:=D.fd_
 have Fi:=D.Fa
 have ec:=e5.trans e3
 refine zyk (C:=(C.at 9).more base') (K:=K) (f:=f) (fd:=fd') (lt:=lt) (KK:=K') ⟨fun d=>zfb (O.more D.more d) za8,fun d=>⟨hfm,D.lim⟩,fun d=>⟨Fi.ho,Fi.scope,Fi.body,Fi.glo,Fi.blt,Fi.co,Fi.gen,Fi.kind,Fi.code⟩⟩ (fun l r=>by rw [hfd]; exact TB_d2i ..) hsc ?_ S5 (ec ▸ T) (ec ▸ q)
 rw [D.clo]
 exact z0s S5 (fun x hx=>.inl (by show Φ.env.scope.names.lookup _ = _; rw [hsc]; exact (zix hx).1)) zyl fun x hx=>(zix hx).2
structure D2nOk (a b n:Int):Prop where
 lim:(Builtin.Int.intBits a:Int) - n <= 4000
 b0:b ≠ 0
 bb:b.natAbs < bigN
noncomputable def d2nS:Spec:=Sp (fun a:Int × Int × Int=>[.int a.1,.int a.2.1,.int a.2.2]) [] noKw fun a cs K=>D2nOk a.1 a.2.1 a.2.2 /\ K (.tup [.int (a.1.fdiv a.2.1),.int (a.1.fmod a.2.1)]) cs
section
variable {C:Cx} {K:Frag} (F2:Facts2 C P0 K) (L:LimAt C)
include F2 L
theorem zpd (Fk:FnK K 186 F_div2n1n) (B:Bd3 K 186 (S "a") (S "b") (S "n")):FnOk C.up 186 d2nS :=
 fn3 (sl:=fun a:Int × Int × Int=>[some (.int a.1),some (.int a.2.1),some (.int a.2.2),none,none,none,none,none,none,none,none]) F2 L Fk (zu8 []) B (fun _=>rfl) fun a cs K' q =>
  ⟨.bits _,.bits (.subI (.le (by rw [show decide ((Builtin.Int.intBits a.1:Int) - a.2.2 <= 4000) = true from decide_eq_true q.1.lim]; exact .divmod ⟨q.1.b0,q.1.bb⟩ q.2)))⟩
end
noncomputable def T4:Tab:=[(186,d2nS),(200,digS 0),(207,datS 1)]
noncomputable def P4:Prm:=law3.prm T4
theorem f4_d2n:P4.fn 186 = d2nS:=rfl
theorem f4_dig:P4.fn 200 = digS 0:=rfl
theorem f4_dat:P4.fn 207 = datS 1:=rfl
structure PdOk (a b:Nat) (cs:List Cell):Prop where
 t1:cs[0]? = some (.tab 195 (posOf F_i2d) qI2D)
 t2:cs[1]? = some (.tab 202 (posOf F_d2i) qD2I)
 hb:1 <= b
 ha:a < 2 ^ 240
 hb2:b < 2 ^ 240
noncomputable def pdS:Spec:=Sp (fun a:Nat × Nat=>[.int a.1,.int a.2]) [] noKw fun a cs K=>PdOk a.1 a.2 cs /\ K (.tup [.int (a.1 / a.2:Nat),.int (a.1 % a.2:Nat)]) cs
set_option exponentiation.threshold 1000 in
theorem z1o {S b n d:Nat} (hb:1 <= b) (hb2:b < 2 ^ 240) (hn:n <= 240) (hd:d < 2 ^ n):(S % b) * 2 ^ n + d < 2 ^ 480:=by
 have hrb:S % b < b:=Nat.mod_lt _ hb
 have h1:(S % b) * 2 ^ n + d < b * 2 ^ n:=by
  have:(S % b + 1) * 2 ^ n <= b * 2 ^ n:=Nat.mul_le_mul_right _ hrb
  rw [Nat.add_mul,Nat.one_mul] at this
  lia
 refine Nat.lt_of_lt_of_le h1 (Nat.le_trans ?_ (Nat.le_of_eq (Nat.pow_add 2 240 240).symm))
 exact Nat.mul_le_mul (Nat.le_of_lt hb2) (Nat.pow_le_pow_right (by decide) hn)
noncomputable def PdL (K:KF) (va ad vq:Option V) (b n l:Nat) (r:Nat) (o1 o2:Option V) (ys:List V) (cs:List Cell):Prop:=ForR zdp (bden (IS.sems P4 zd8)) K (.items ys) [va,some (.int b),some (.int n),ad,some (.int r),some (.ref l),o1,o2,vq] cs
structure PdT (b n r d X:Nat):Prop where
 hn:n <= 4000
 hr:((r:Nat):Int).natAbs < bigN
 e:(r:Int) * 2 ^ ((n:Nat):Int).toNat + (d:Int) = (X:Int)
 D:D2nOk (X:Int) (b:Int) (n:Int)
 q1:(X:Int).fdiv (b:Int) = ((X / b:Nat):Int)
 q2:(X:Int).fmod (b:Int) = ((X % b:Nat):Int)
theorem z2r {K:KF} {va ad vq o1 o2:Option V} {b n l r d X:Nat} {ys:List V} {cs:List Cell} {ql:List V} (T:PdT b n r d X) (h:cs[l]? = some (.list ql)) (hl:ql.length < lim)
  (q:PdL K va ad vq b n l (X % b) (some (.int d)) (some (.int (X / b:Nat))) ys (cs.set l (.list (ql ++ [.int (X / b:Nat)])))):PdL K va ad vq b n l r o1 o2 (.int d :: ys) cs :=
 .go (.items _ _) rfl (.shlI ⟨Int.natCast_nonneg _,Int.ofNat_le.mpr T.hn,T.hr⟩ (.addI' T.e (zac f4_d2n ((X:Int),(b:Int),(n:Int)) ⟨T.D,by
  show bindK _ (.tup [.int ((X:Int).fdiv (b:Int)),.int ((X:Int).fmod (b:Int))]) _ _
  rw [T.q1,T.q2]
  exact ⟨.append h,.append' h hl rfl q⟩⟩)))
theorem pdt_of {b n S d:Nat} (hb:1 <= b) (hb2:b < 2 ^ 240) (hn:n <= 240) (hd:d < 2 ^ n):PdT b n (S % b) d ((S % b) * 2 ^ n + d) where
 hn:=Nat.le_trans hn (by decide)
 hr:=by
  rw [Int.natAbs_natCast,show bigN = 2 ^ 240 by decide +kernel]
  exact Nat.lt_trans (Nat.mod_lt _ hb) hb2
 e:=by rw [Int.toNat_natCast]; push_cast; rfl
 D:=⟨by have:=zuq _ 480 (z1o (S:=S) hb hb2 hn hd); lia,by lia,by rw [Int.natAbs_natCast,show bigN = 2 ^ 240 by decide +kernel]; exact hb2⟩
 q1:=by rw [Int.fdiv_eq_ediv_of_nonneg _ (Int.natCast_nonneg b)]; rfl
 q2:=by rw [Int.fmod_eq_emod_of_nonneg _ (Int.natCast_nonneg b)]; rfl
theorem z2t {K:KF} {va ad vq:Option V} {b n:Nat} {cs0:List Cell} (hb:1 <= b) (hb2:b < 2 ^ 240) (hn:n <= 240) (R:List Nat):∀ (S ql:List Nat) (o1 o2:Option V),(∀ d ∈ R,d < 2 ^ n) -> ql.length + R.length <= 1000 -> val n ql.reverse = val n S / b ->
  (∀ (q2:List Nat) (u1 u2:Option V),q2.length = ql.length + R.length -> val n q2.reverse = val n (R.reverse ++ S) / b -> K .next [va,some (.int b),some (.int n),ad,some (.int (val n (R.reverse ++ S) % b:Nat)),some (.ref cs0.length),u1,u2,vq] (cs0 ++ [.list (natV q2)])) ->
  PdL K va ad vq b n cs0.length (val n S % b) o1 o2 (natV R) (cs0 ++ [.list (natV ql)]):=by
 induction R with
 | nil=>exact fun S ql o1 o2 _ _ hv q=>.done .items (q ql o1 o2 rfl hv)
 | cons d R ih =>
  intro S ql o1 o2 hd hl hv q
  have hdd:=hd d List.mem_cons_self
  refine z2r (pdt_of hb hb2 hn hdd) (zc6 _ _) (by rw [natV,List.length_map]; rw [List.length_cons] at hl; show _ < 8388608; exact Nat.lt_of_lt_of_le (ze1 ‹_›) (by decide)) ?_
  rw [zgk,show natV ql ++ [V.int (((val n S % b) * 2 ^ n + d) / b:Nat)] = natV (ql ++ [((val n S % b) * 2 ^ n + d) / b]) by rw [natV,natV,List.map_append]; rfl]
  have em:((val n S % b) * 2 ^ n + d) % b = val n (d :: S) % b:=zwz (val n S) b (2 ^ n) d
  rw [em]
  refine ih (d :: S) (ql ++ [((val n S % b) * 2 ^ n + d) / b]) _ _ (fun x hx=>hd x (List.mem_cons_of_mem _ hx)) (by rw [List.length_append,List.length_singleton]; rw [List.length_cons] at hl; exact zed ‹_›) ?_ fun q2 u1 u2 e1 e2=>?_
  ·rw [List.reverse_append]
   show _ + 2 ^ n * val n ql.reverse = _
   rw [hv]
   exact zye (val n S) b (2 ^ n) d hb
  ·have:=q q2 u1 u2 (by rw [e1,List.length_append,List.length_singleton,List.length_cons]; lia)
   rw [List.reverse_cons,List.append_assoc] at this
   exact this e2
noncomputable def pdS1:Spec:=Sp (fun a:Nat × Nat=>[.int a.1,.int a.2]) [] noKw fun a cs K=>PdOk a.1 a.2 cs /\ ∀ xs,K (.tup [.int (a.1 / a.2:Nat),.int (a.1 % a.2:Nat)]) (cs ++ xs)
structure PdD (a b n:Nat):Prop where
 n1:1 <= n
 n2:n <= 240
 bn:b < 2 ^ n
 M:CntOk a n (cntOf a n)
 lt:∀ d ∈ (digs n (cntOf a n) a).reverse,d < 2 ^ n
 len:(digs n (cntOf a n) a).reverse.length = cntOf a n
 v:val n ((digs n (cntOf a n) a).reverse.reverse ++ []) = a
theorem pd_d {a b:Nat} (ha:a < 2 ^ 240) (hb:1 <= b) (hb2:b < 2 ^ 240):PdD a b (Builtin.Int.intBits (b:Int)):=by
 have h1:=zi2 b hb
 have h2:=zuq b 240 hb2
 refine ⟨h1.1,h2,h1.2,z0q ha h1.1 h2,fun d hd=>ziw _ _ _ (zeq a _ h1.1) d (List.mem_reverse.mp hd),by rw [List.length_reverse,za9],?_⟩
 rw [List.append_nil,List.reverse_reverse]
 exact zqd _ a h1.1
theorem znn (l:List Nat):(natV l).reverse = natV l.reverse:=List.map_reverse.symm
section
variable {a b n:Nat} {cs:List Cell} {K:KV} {va ad vq u1 u2:Option V} {r:Nat} {q2:List Nat}
theorem z2s (T:PdOk a b cs) (D:PdD a b n) (e1:q2.length = cntOf a n) (e2:val n q2.reverse = a / b) (e3:r = a % b) (q:K (.tup [.int (a / b:Nat),.int (a % b:Nat)]) (cs ++ [.list (natV q2.reverse)])) :
  den0 P4 [zb1,zb0,zbz] [va,some (.int b),some (.int n),ad,some (.int r),some (.ref cs.length),u1,u2,vq] (cs ++ [.list (natV q2)]) K:=by
 subst e3
 refine ⟨.reverse (zc6 _ _),.reverse (zc6 _ _) ?_⟩
 rw [zgk,znn]
 refine zac f4_dat ⟨.ref cs.length,q2.reverse,n⟩ ⟨⟨?_,.ref (zc6 _ _),?_,?_,?_⟩,?_⟩
 ·rw [List.getElem?_append_left (zaa T.t2)]; exact T.t2
 ·rw [List.length_reverse,e1]; exact D.M.c1
 ·rw [List.length_reverse,e1]; exact Nat.le_trans D.M.cn (by decide)
 ·rw [e2]; exact Nat.lt_of_le_of_lt (Nat.div_le_self _ _) T.ha
 ·rw [e2]; exact ⟨(by decide:2 <= 8388608),q⟩
end
section
variable {C:Cx} {K:Frag} (F2:Facts2 C P4 K) (L:LimAt C)
include F2 L
theorem zgw (Fk:FnK K 214 F_divmod_pos) (B:Bd2 K 214 (S "a") (S "b")):FnOk C.up 214 pdS1 :=
 fn2 (sl:=fun a:Nat × Nat=>[some (.int a.1),some (.int a.2),none,none,none,none,none,none,none]) F2 L Fk (zla T4) B (fun _=>rfl) fun a cs K' q=>by
  have D:=pd_d q.1.ha q.1.hb q.1.hb2
  refine ⟨.bits _,.bits (zac f4_dig (a.1,Builtin.Int.intBits (a.2:Int)) ⟨⟨q.1.t1,q.1.ha,D.n1,D.n2⟩,⟨Nat.zero_le _,rfl,.rev ?_⟩⟩)⟩
  rw [znn]
  refine z2t q.1.hb q.1.hb2 D.n2 (digs (Builtin.Int.intBits (a.2:Int)) (cntOf a.1 (Builtin.Int.intBits (a.2:Int))) a.1).reverse [] [] none none D.lt ?_ ?_ fun q2 u1 u2 e1 e2=>?_
  ·rw [D.len]; have:=D.M.c1; show 0 + _ <= 1000; lia
  ·show 0 = 0 / a.2; rw [Nat.zero_div]
  ·show den0 P4 [zb1,zb0,zbz] _ _ K'
   exact z2s q.1 D (by rw [e1,D.len]; exact Nat.zero_add _) (by rw [e2,D.v]) (by rw [D.v]) (q.2 _)
theorem zig (Fk:FnK K 214 F_divmod_pos) (B:Bd2 K 214 (S "a") (S "b")):FnOk C.up 214 pdS:=by
 intro A σ args kws args' kws' K' O H B' ra rk q
 obtain ⟨a,rfl,rfl,T,q⟩:=q
 have:=@zgw C K F2 L Fk B A σ _ _ _ _ (fun v c=>v = .tup [.int (a.1 / a.2:Nat),.int (a.1 % a.2:Nat)] /\ (∃ xs,c = σ.g.cs ++ xs) /\ K' (.tup [.int (a.1 / a.2:Nat),.int (a.1 % a.2:Nat)]) σ.g.cs) O H B' ra rk ⟨a,rfl,rfl,T,fun xs=>⟨rfl,⟨xs,rfl⟩,q⟩⟩
 exact ⟨this.1,CRuns.dropP this.2 H⟩
end
structure IdOk (c:Int -> Int -> Prop) (a b:Int) (cs:List Cell):Prop where
 t1:cs[0]? = some (.tab 195 (posOf F_i2d) qI2D)
 t2:cs[1]? = some (.tab 202 (posOf F_d2i) qD2I)
 ha:a.natAbs < 2 ^ 240
 hb:b.natAbs < 2 ^ 240
 c:c a b
noncomputable def idS (c:Int -> Int -> Prop):Spec:=Sp (fun a:Int × Int=>[.int a.1,.int a.2]) [] noKw fun a cs K=>IdOk c a.1 a.2 cs /\ K (.tup [.int (a.1.fdiv a.2),.int (a.1.fmod a.2)]) cs
noncomputable def cA (a b:Int):Prop:=0 <= a /\ 0 < b
noncomputable def cB (_ b:Int):Prop:=0 < b
noncomputable def cC (_ b:Int):Prop:=b ≠ 0
noncomputable def T5:Tab:=[(214,pdS)]
noncomputable def P5:Prm:=law3.prm T5
theorem f5_pd:P5.fn 214 = pdS:=rfl
noncomputable def T6:Tab:=[(221,idS cA),(214,pdS)]
noncomputable def P6:Prm:=law3.prm T6
theorem f6_pd:P6.fn 214 = pdS:=rfl
theorem f6_id:P6.fn 221 = idS cA:=rfl
noncomputable def T7:Tab:=[(221,idS cB),(214,pdS)]
noncomputable def P7:Prm:=law3.prm T7
theorem f7_pd:P7.fn 214 = pdS:=rfl
theorem f7_id:P7.fn 221 = idS cB:=rfl
section
variable {a b:Int} {cs:List Cell} {T0:Tab} {K:KF} {c:Int -> Int -> Prop}
theorem zs6 (h:(law3.prm T0).fn 214 = pdS) (T:IdOk c a b cs) (ha:0 <= a) (hb:0 < b) (q:∀ sl,K (.ret (.tup [.int (a.fdiv b),.int (a.fmod b)])) sl cs):bden (IS.sems (law3.prm T0) zcc) [some (.int a),some (.int b),none,none] cs K:=by
 obtain ⟨a,rfl⟩:=Int.eq_ofNat_of_zero_le ha
 obtain ⟨b,rfl⟩:=Int.eq_ofNat_of_zero_le (Int.le_of_lt hb)
 refine zac h (a,b) ⟨⟨T.t1,T.t2,by lia,T.ha,T.hb⟩,?_⟩
 have e1:(a:Int).fdiv (b:Int) = ((a / b:Nat):Int):=by rw [Int.fdiv_eq_ediv_of_nonneg _ (Int.natCast_nonneg b)]; rfl
 have e2:(a:Int).fmod (b:Int) = ((a % b:Nat):Int):=by rw [Int.fmod_eq_emod_of_nonneg _ (Int.natCast_nonneg b)]; rfl
 rw [e1,e2] at q
 exact q _
theorem id_b4 (hb:0 < b) (h1:0 <= a -> bden (IS.sems (law3.prm T0) zcc) [some (.int a),some (.int b),none,none] cs K) (h2:a < 0 -> bden (IS.sems (law3.prm T0) zcd) [some (.int a),some (.int b),none,none] cs K):bden (IS.sems (law3.prm T0) zcb) [some (.int a),some (.int b),none,none] cs K:=by
 by_cases h:a < 0
 ·exact .ltT h (h2 h)
 ·exact .ltF h (h1 (Int.not_lt.mp h))
theorem z0e {c':Int -> Int -> Prop} (h:(law3.prm T0).fn 221 = idS c) (T:IdOk c' a b cs) (hc:c (-a - 1) b) (ha:a < 0) (hb:0 < b) (q:∀ sl,K (.ret (.tup [.int (a.fdiv b),.int (a.fmod b)])) sl cs):bden (IS.sems (law3.prm T0) zcd) [some (.int a),some (.int b),none,none] cs K:=by
 refine .inv (zac h (-a - 1,b) ⟨⟨T.t1,T.t2,Nat.lt_of_le_of_lt (show (-a - 1).natAbs <= a.natAbs by omega) T.ha,T.hb,hc⟩,?_⟩)
 have e:=fl4 a b hb
 refine .inv (.inv (.addI' e.2 ?_))
 rw [e.1]
 exact ⟨(by decide:2 <= 8388608),q _⟩
theorem z3u {c':Int -> Int -> Prop} (h:(law3.prm T0).fn 221 = idS c) (T:IdOk c' a b cs) (hc:c (-a) (-b)) (hb:b < 0) (q:∀ sl,K (.ret (.tup [.int (a.fdiv b),.int (a.fmod b)])) sl cs):bden (IS.sems (law3.prm T0) zcf) [some (.int a),some (.int b),none,none] cs K:=by
 refine .neg (.neg (zac h (-a,-b) ⟨⟨T.t1,T.t2,by rw [Int.natAbs_neg]; exact T.ha,by rw [Int.natAbs_neg]; exact T.hb,hc⟩,?_⟩))
 have e:=fl5 a b hb
 refine .neg ?_
 rw [e.2,e.1]
 exact ⟨(by decide:2 <= 8388608),q _⟩
theorem zs7 (hb0:b ≠ 0) (h1:b < 0 -> bden (IS.sems (law3.prm T0) zcf) [some (.int a),some (.int b),none,none] cs K) (h2:0 < b -> bden (IS.sems (law3.prm T0) zcb) [some (.int a),some (.int b),none,none] cs K):bden (IS.sems (law3.prm T0) ze2) [some (.int a),some (.int b),none,none] cs K:=by
 refine .eq (.intF hb0) ?_
 by_cases h:b < 0
 ·exact .ltT h (h1 h)
 ·exact .ltF h (h2 (by lia))
end
section
variable {C:Cx} {K:Frag} (L:LimAt C) (Fk:FnK K 221 F_int_divmod) (B:Bd2 K 221 (S "a") (S "b"))
include L Fk B
theorem ok_idA (F2:Facts2 C P5 K):FnOk C.up 221 (idS cA) :=
 fn2 (sl:=fun a:Int × Int=>[some (.int a.1),some (.int a.2),none,none]) F2 L Fk (zcv T5) B (fun _=>rfl) fun a cs K' q =>
  zs7 (Int.ne_of_gt q.1.c.2) (fun h=>absurd h (Int.not_lt.mpr (Int.le_of_lt q.1.c.2))) fun hb=>id_b4 hb (fun ha=>zs6 f5_pd q.1 ha hb fun _=>q.2) fun ha=>absurd ha (Int.not_lt.mpr q.1.c.1)
theorem ok_idB (F2:Facts2 C P6 K):FnOk C.up 221 (idS cB) :=
 fn2 (sl:=fun a:Int × Int=>[some (.int a.1),some (.int a.2),none,none]) F2 L Fk (zcv T6) B (fun _=>rfl) fun a cs K' q =>
  zs7 (Int.ne_of_gt q.1.c) (fun h=>absurd h (Int.not_lt.mpr (Int.le_of_lt q.1.c))) fun hb=>id_b4 hb (fun ha=>zs6 f6_pd q.1 ha hb fun _=>q.2) fun ha=>z0e f6_id q.1 ⟨by lia,hb⟩ ha hb fun _=>q.2
theorem ok_idC (F2:Facts2 C P7 K):FnOk C.up 221 (idS cC) :=
 fn2 (sl:=fun a:Int × Int=>[some (.int a.1),some (.int a.2),none,none]) F2 L Fk (zcv T7) B (fun _=>rfl) fun a cs K' q =>
  zs7 q.1.c (fun h=>z3u f7_id q.1 (show 0 < -a.2 by lia) h fun _=>q.2) fun hb=>id_b4 hb (fun ha=>zs6 f7_pd q.1 ha hb fun _=>q.2) fun ha=>z0e f7_id q.1 hb ha hb fun _=>q.2
end
noncomputable abbrev zbn:Scope:=scopeOf F_addh
noncomputable def ahT:Tgt:=.tup [(S "k",5,(pp 94 12 13)),(S "v",6,(pp 94 15 16))] 0 (pp 94 12 16)
theorem z5q:bodyOf F_addh = (IS.sems P1 [zh7,zhw]).map SD.ast ++ .For ahT.ast (.Call (.Attribute (.Name (S "_params") (pp 94 20 27)) ("items" : Str) (pp 94 20 33)) [] [] (pp 94 20 35)) (loopOf ((bodyOf F_addh).getD 2 default)) [] ⟨94,8,100,66⟩ :: (IS.sems P1 [zls]).map SD.ast:=by kernel_rfl
theorem WA1:bwf (IS.sems P1 [zh7,zhw]) zbn (ownNs zbn ++ []) = true:=by kernel_rfl
theorem WA2:(ED.loc (S "_params") 3 (pp 94 20 27)).wf zbn (ownNs zbn ++ []) = true:=by kernel_rfl
theorem WA3:bwf (IS.sems P1 [zls]) zbn (ownNs zbn ++ []) = true:=by kernel_rfl
noncomputable abbrev zl1:List (Str × Nat):=[(S "self",0),(S "_name",1),(S "_value",2),(S "_params",3)]
theorem WA4:zl1.all (fun p=>tgt1 zbn (ownNs zbn ++ []) p.1 p.2) = true:=by kernel_rfl
theorem WA5:nfree zbn = true:=by kernel_rfl
noncomputable abbrev zdh (l:Nat) (x v:Str) (p:Option V):Slots:=[some (.ref l),some (.str x),some (.str v),some (.dct [] []),p,none,none]
theorem zp0 (l:Nat) (x v:Str):bindP zl1 [.ref l,.str x,.str v,.dct [] []] (List.replicate (ownNs zbn).length none ++ []) = zdh l x v none:=by kernel_rfl
theorem zr6 {sc:Scope} (h:nfree sc = true) (x:Str):(x,NameKind.free) ∉ sc.names:=fun hx=>by
 have:=List.all_eq_true.mp h _ hx
 cases this
structure AdOk (a:SdA) (cs:List Cell):Prop where
 tb:Tb cs a.l a.k a.hs
 nx:nameOk a.x
 vv:valOk a.v
 lv:a.v.length <= 1000
 ll:a.hs.length < lim
theorem zxc (x:Str):Txt.join (S "; ") [x] = x:=rfl
theorem zpk {x:Str} (h:x.length <= 1000):JoinOk (S "; ") [x] = true:=by
 have e:(S "; ").length = 2:=by kernel_rfl
 unfold JoinOk
 refine congrArg (! ·) (decide_eq_false (Nat.not_lt.mpr ?_))
 show 0 + x.length + (S "; ").length <= sizeLine
 rw [e,sizeLine_eq,Nat.zero_add]
 exact Nat.le_trans (Nat.add_le_add_right h 2) (by decide)
noncomputable def addS:Spec:=Sp (fun a:SdA=>[.ref a.l,.str a.x,.str a.v]) [] noKw fun a cs K=>AdOk a cs /\ K .none (cs.set a.k (.list (pairsV (a.hs ++ [(a.x,a.v)]))))
theorem Tb.app {cs:List Cell} {l k:Nat} {hs:Hs} (h:Tb cs l k hs) (xs:List Cell):Tb (cs ++ xs) l k hs:=by
 obtain ⟨d,h1,h2⟩:=h.ex
 exact ⟨⟨d,(List.getElem?_append_left (zaa h1)).trans h1,(List.getElem?_append_left (zaa h2)).trans h2⟩,(List.getElem?_append_left (zaa h.ls)).trans h.ls⟩
theorem zbs (cs:List Cell) (c:Cell):(cs ++ [c])[cs.length]? = some c:=by rw [List.getElem?_append_right (Nat.le_refl _),Nat.sub_self]; rfl
theorem zzb {l:Nat} {x v:Str} {cs:List Cell} {K1:KF} (cl:ClsR (cs ++ [.list []]) (.ref l) 175) (vv:valOk v) (q:K1 .next (zdh l x v (some (.ref cs.length))) (cs ++ [.list [.str v]])):bden (IS.sems P1 [zh7,zhw]) (zdh l x v none) cs K1 :=
 ⟨Nat.zero_le _,.isNot (.str _) ⟨cl,zac zdk ⟨.ref l,v,false⟩ ⟨vv,⟨.append (zbs _ _),.append (zbs _ _) (by decide) (by rw [zgk]; exact q)⟩⟩⟩⟩
theorem z45 {l k:Nat} {hs:Hs} {x v:Str} {cs:List Cell} {K1:KF} (tb:Tb cs l k hs) (nx:nameOk x) (lv:v.length <= 1000) (ll:hs.length < lim) (q:K1 .next (zdh l x v (some (.ref cs.length))) (cs.set k (.list (pairsV (hs ++ [(x,v)]))) ++ [.list [.str v]])) :
  bden (IS.sems P1 [zls]) (zdh l x v (some (.ref cs.length))) (cs ++ [.list [.str v]]) K1:=by
 have t:=tb.app [.list [.str v]]
 refine ⟨_,t.at,.append t.ls,t.cls,zac zdk ⟨.ref l,x,true⟩ ⟨nx,.join _,.join (xs:=[v]) (.ref (zbs _ _)) (zpk lv) (by rw [zxc]; exact Nat.le_trans lv (by decide)) ⟨(by decide:2 <= lim),.append t.ls (by rw [pairsV,List.length_map]; exact ll) ?_⟩⟩⟩
 rw [List.set_append_left _ _ (zaa tb.ls)]
 rw [pairsV,List.map_append] at q
 exact q
theorem zoj (hs:Hs):∀ y ∈ pairsV hs,stayV y:=fun y hy=>by
 obtain ⟨p,_,rfl⟩:=List.mem_map.mp hy
 exact zvu fun z hz=>by
  rcases List.mem_cons.mp hz with rfl | hz
  ·exact zna _
  ·cases List.mem_singleton.mp hz; exact zna _
theorem zv2 {cs:List Cell} {k:Nat} {hs:Hs} (l:Nat) (c:Cell) (h:(cs.set k (.list (pairsV hs)))[l]? = some c):cs[l]? = some c \/ ∃ ys,c = Cell.list ys /\ ∀ y ∈ ys,stayV y:=by
 by_cases e:k = l
 ·subst e
  rw [List.getElem?_set_self (by have:=zaa h; rw [List.length_set] at this; exact this)] at h
  cases h
  exact .inr ⟨_,rfl,zoj hs⟩
 ·rw [List.getElem?_set_ne e] at h; exact .inl h
section
variable {C:Cx} {K:Frag} (F2:Facts2 C P1 K) (L:LimAt C)
include F2 L
theorem z24 (Fk:FnK K 172 F_addh) (B:BdW K 172 (S "self") (S "_name") (S "_value") (S "_params")):FnOk C.up 172 addS:=by
 intro A σ args kws args' kws' K' O H Bs ra rk q
 obtain ⟨a,rfl,rfl,h,q⟩:=q
 cases rk.nil_of
 obtain ⟨u1,u2,u3,rfl,r1,r2,r3⟩:=ra.three
 obtain ⟨fd,hf⟩:=Option.isSome_iff_exists.mp Fk.i
 have Fa:FnAt0 C 172 zbn (bodyOf F_addh) fd:=zmf F2.W Fk hf rfl rfl rfl
 obtain ⟨o,ho,hd⟩:=Fa.ho
 refine ⟨zf4 (C:=C.up) (H.fz _ _ (Bs.hf _ _ ho)) hd,?_⟩
 have hk:=h.tb.ls
 refine CRuns.dropC (c0:=σ.g.cs.set a.k (.list (pairsV (a.hs ++ [(a.x,a.v)])))) (List.length_set ..) (fun l c e=>zv2 l c e) ?_ H
 refine CRuns.at_ (C:=C) (d:=C.d) ?_
 refine z32 (C:=C) (ns:=[]) (sl:=[]) (ps:=zl1) (vs:=[.ref a.l,.str a.x,.str a.v,.dct [] []]) L.l Fa O H ⟨Bs.pr,Bs.hf,Bs.fl⟩ rfl (fun Q E k=>bindsW hf B H ⟨Bs.pr,Bs.hf,Bs.fl⟩ F2.F.lo r1 r2 r3 fun bs' σ' X e r=>k bs' σ' X e r (by rw [zak hf Fk.k]; exact .nil (zr6 WA5))) WA4 fun Φ σ3 hsc I S3=>?_
 rw [zp0] at S3
 rw [z5q]
 refine zbj (K1:=fun fl sl cs=>fl = .next /\ sl = zdh a.l a.x a.v (some (.ref σ.g.cs.length)) /\ cs = σ.g.cs ++ [.list [.str a.v]]) (IS.sems P1 [zh7,zhw]) ((IS.all_good F2 _).ok (L.fm _ _) (by rw [hsc]; exact WA1)) _ σ3 S3 ?_ (fun fl sl c hk ne=>(ne hk.1).elim) fun sl4 σ4 X4 S4 h4=>?_
 ·exact zzb (by rw [I.cs]; exact (h.tb.app _).cls) h.vv (by rw [I.cs]; exact ⟨rfl,rfl,rfl⟩)
 obtain ⟨_,rfl,c4⟩:=h4
 refine zju (K1:=fun fl sl cs=>fl = .next /\ sl = zdh a.l a.x a.v (some (.ref σ.g.cs.length)) /\ cs = σ4.g.cs) (zpl (i:=3) (by rw [hsc]; exact WA2) rfl S4 ⟨rfl,rfl⟩ ⟨rfl,rfl,rfl⟩) (fun fl sl c hk ne=>(ne hk.1).elim) fun sl5 σ5 X5 S5 h5=>?_
 obtain ⟨_,rfl,c5⟩:=h5
 refine zd6 _ ((IS.all_good F2 _).ok (L.fm _ _) (by rw [hsc]; exact WA3)) _ _ _ S5 ?_
 rw [c5,c4]
 exact z45 h.tb h.nx h.lv h.ll ⟨rfl,⟨_,rfl⟩,q⟩
end
noncomputable def dropV (hs:Hs) (low:Str):Hs:=hs.filter fun p=>!decide (Txt.lower p.1 = low)
structure DlA where
 l:Nat
 x:Str
 k:Nat
 hs:Hs
structure DlOk (a:DlA) (cs:List Cell):Prop where
 tb:Tb cs a.l a.k a.hs
 lx:lowB a.x
 nx:nameOk (Txt.lower a.x)
 lk:∀ p ∈ a.hs,lowB p.1
 ll:a.hs.length <= lim
noncomputable def delS:Spec:=Sp (fun a:DlA=>[.ref a.l,.str a.x]) [] noKw fun a cs K=>DlOk a cs /\ K .none (cs.set a.k (.list (pairsV (dropV a.hs (Txt.lower a.x)))))
noncomputable def DelL (K:List V -> List Cell -> Prop) (s:Option V) (low:Str) (acc:List V) (k i:Nat) (cs:List Cell):Prop:=CompR zg1 (boolT .And (IE.sems P1 zhc)) (emitL (zhd.sem P1).val) [none,none,s,some (.str low)] K acc (.cell k i) cs
section
variable {K:List V -> List Cell -> Prop} {s:Option V} {low:Str} {acc:List V} {k i:Nat} {cs:List Cell} {xs:List V} {p:Str × Str}
theorem zub (h:cs[k]? = some (.list xs)) (hx:xs[i]? = some (pairV p)) (lp:lowB p.1) (he:Txt.lower p.1 = low) (q:DelL K s low acc k (i + 1) cs):DelL K s low acc k i cs :=
 .go (.cell h hx) rfl ⟨_,.seq (.tup _) rfl,.lower _,.lower lp (.ne (.strT he) q)⟩
theorem zuc (h:cs[k]? = some (.list xs)) (hx:xs[i]? = some (pairV p)) (lp:lowB p.1) (he:Txt.lower p.1 ≠ low) (hl:acc.length < lim) (q:DelL K s low (acc ++ [pairV p]) k (i + 1) cs):DelL K s low acc k i cs :=
 .go (.cell h hx) rfl ⟨_,.seq (.tup _) rfl,.lower _,.lower lp (.ne (.strF he) ⟨hl,q⟩)⟩
end
theorem zyh {K:List V -> List Cell -> Prop} {s:Option V} {low:Str} {k:Nat} {cs:List Cell} {hs:Hs} (h:cs[k]? = some (.list (pairsV hs))) (lk:∀ p ∈ hs,lowB p.1) (r:Hs):∀ (i:Nat) (acc:List V),hs.drop i = r -> acc.length + r.length <= lim -> K (acc ++ pairsV (dropV r low)) cs -> DelL K s low acc k i cs:=by
 induction r with
 | nil=>exact fun i acc e _ q=>.done (.cell h (zbu e)) (by rw [<- List.append_nil acc]; exact q)
 | cons p r ih =>
  intro i acc e hl q
  rw [List.length_cons] at hl
  by_cases he:Txt.lower p.1 = low
  ·refine zub h (zax e) (lk p (zag e)) he (ih _ _ (zao e) (Nat.le_of_succ_le hl) ?_)
   rw [show dropV (p :: r) low = dropV r low from List.filter_cons_of_neg (by rw [decide_eq_true he]; decide)] at q
   exact q
  ·refine zuc h (zax e) (lk p (zag e)) he (Nat.lt_of_lt_of_le (Nat.lt_add_of_pos_right (Nat.succ_pos _)) hl) (ih _ _ (zao e) (by rw [List.length_append,Nat.add_assoc,Nat.add_comm [_].length]; exact hl) ?_)
   rw [show dropV (p :: r) low = p :: dropV r low from List.filter_cons_of_pos (by rw [decide_eq_false he]; rfl)] at q
   rw [List.append_assoc]
   exact q
theorem zku (hs:Hs) (low:Str):(pairsV (dropV hs low)).length <= hs.length:=by rw [pairsV,List.length_map]; exact List.length_filter_le _ _
section
variable {C:Cx} {K:Frag} (F2:Facts2 C P1 K) (L:LimAt C)
include F2 L
theorem zg6 (Fk:FnK K 95 F_delitem) (B:Bd2 K 95 (S "self") (S "name")):FnOk C.up 95 delS :=
 fn2 (sl:=fun a:DlA=>[some (.ref a.l),some (.str a.x)]) F2 L Fk (zu9 T1) B (fun _=>rfl) fun a cs K' q =>
  ⟨q.1.tb.cls,.lower a.x,.lower q.1.lx (zac zdk ⟨.ref a.l,Txt.lower a.x,true⟩ ⟨q.1.nx,_,q.1.tb.at,_,.cell q.1.tb.ls,zyh q.1.tb.ls q.1.lk a.hs 0 [] rfl (by rw [List.length_nil,Nat.zero_add]; exact q.1.ll)
   ⟨Nat.le_trans (zku _ _) q.1.ll,_,q.1.tb.at,.mk q.1.tb.ls (.lst _) q.2⟩⟩)⟩
end
noncomputable def T2s:Tab:=[(95,delS)] ++ T1
noncomputable def P2s:Prm:=law3.prm T2s
theorem znv:P2s.fn 76 = convS:=rfl
theorem zx4:P2s.fn 95 = delS:=rfl
structure StA where
 l:Nat
 x:Str
 v:Str
 k:Nat
 hs:Hs
structure StOk (a:StA) (cs:List Cell):Prop where
 dl:DlOk ⟨a.l,a.x,a.k,a.hs⟩ cs
 nx:nameOk a.x
 vv:valOk a.v
 ll:a.hs.length < lim
noncomputable def setS:Spec:=Sp (fun a:StA=>[.ref a.l,.str a.x,.str a.v]) [] noKw fun a cs K=>StOk a cs /\ K .none (cs.set a.k (.list (pairsV (dropV a.hs (Txt.lower a.x) ++ [(a.x,a.v)]))))
theorem Tb.set {cs:List Cell} {l k:Nat} {hs:Hs} (h:Tb cs l k hs) (hs':Hs):Tb (cs.set k (.list (pairsV hs'))) l k hs':=by
 obtain ⟨d,h1,h2⟩:=h.ex
 refine ⟨⟨d,?_,?_⟩,List.getElem?_set_self (zaa h.ls)⟩
 ·rw [List.getElem?_set_ne (zej h.ls h1 fun e=>nomatch e)]; exact h1
 ·rw [List.getElem?_set_ne (zej h.ls h2 fun e=>nomatch e)]; exact h2
section
variable {C:Cx} {K:Frag} (F2:Facts2 C P2s K) (L:LimAt C)
include F2 L
theorem zpc (Fk:FnK K 90 F_setitem) (B:Bd3 K 90 (S "self") (S "name") (S "val")):FnOk C.up 90 setS :=
 fn3 (sl:=fun a:StA=>[some (.ref a.l),some (.str a.x),some (.str a.v)]) F2 L Fk (zu6 T2s) B (fun _=>rfl) fun a cs K' q =>
  have t:=q.1.dl.tb.set (dropV a.hs (Txt.lower a.x))
  .own q.1.dl.tb.cls rfl (zac zx4 ⟨a.l,a.x,a.k,a.hs⟩ ⟨q.1.dl,_,t.at,.append t.ls,t.cls,zac znv ⟨.ref a.l,a.x,true⟩ ⟨q.1.nx,t.cls,zac znv ⟨.ref a.l,a.v,false⟩ ⟨q.1.vv,(by decide:2 <= lim),
   .append t.ls (Nat.lt_of_le_of_lt (zku _ _) q.1.ll) (by have:=q.2; rw [pairsV,List.map_append] at this; rw [List.set_set]; exact this)⟩⟩⟩)
end
structure Rl where
 n:Nat
 p:Nat
 g:Nat
 q:Nat
noncomputable def nmL (n:Nat):List Nat:=[[115],[83],[97],[65],[98],[66],[115,66]].getD n []
noncomputable def preL (p:Nat):List Nat:=[[115],[83],[97],[65],[98],[66],[]].getD p []
noncomputable def posL (q:Nat):List Nat:=[[115],[83],[97],[65],[98],[66],[],[32]].getD q []
noncomputable def sgT:List (List Nat):=[[40],[41],[91],[93],[58],[44],[59],[43],[45],[42],[47],[124],[38],[60],[62],[61],[46],[37],[123],[125],[61,61],[33,61],[60,61],[62,61],[126],[94],[60,60],[62,62],[42,42],[43,61],[45,61],[42,61],[47,61],[37,61],[38,61],[124,61],[94,61],[60,60,61],[62,62,61],[42,42,61],[47,47],[47,47,61],[64],[64,61],[45,62],[46,46,46],[58,61],[33]]
noncomputable def sgL (g:Nat):List Nat:=sgT.getD g []
noncomputable def txL (p g q:Nat):List Nat:=preL p ++ (sgL g ++ posL q)
structure RlOk (r:Rl):Prop where
 n:r.n < 7
 p:r.p < 7
 g:r.g < 48
 q:r.q < 8
noncomputable def kP (k:Nat):Nat:=[6,6,6,6,1,1,1,2,2,2,4,4,4].getD k 6
noncomputable def kQ (k:Nat):Nat:=[7,0,3,4,0,3,5,0,3,5,0,3,5].getD k 6
noncomputable def nK (N:Int):Nat:=(N.fmod 13).toNat
noncomputable def nG (N:Int):Nat:=((N.fdiv 13).fmod 48).toNat
noncomputable def rtL (N:Int):List Nat:=txL (kP (nK N)) (nG N) (kQ (nK N))
theorem zbc (a:Int) (m:Nat) (h:0 < m):a.fmod (m:Int) = ((a.fmod (m:Int)).toNat:Nat) /\ (a.fmod (m:Int)).toNat < m:=by
 have h1:(0:Int) <= a.fmod (m:Int):=Int.fmod_nonneg_of_pos a (Int.ofNat_lt.mpr h)
 have h2:a.fmod (m:Int) < (m:Int):=Int.fmod_lt_of_pos a (Int.ofNat_lt.mpr h)
 exact ⟨(Int.toNat_of_nonneg h1).symm,by omega⟩
noncomputable def sgV:List V:=sgT.map fun l=>.str (mkS l)
noncomputable def sgS:Spec:=Sp (fun _:Unit=>[]) [] noKw fun _ cs K=>K (.lst sgV) cs
noncomputable def sgX:Str:=S "( ) [ ] : , ; + - * / | & < > = . % { } == != <= >= ~ ^ << >> ** += -= *= /= %= &= |= ^= <<= >>= **= // //= @ @= -> ... := !"
theorem sg_cat:S "( ) [ ] : , ; + - * / | & < > = . % { } == != <= >= ~ ^ << >> ** += -= *= /= %= &= |= ^= <<= >>= **= // //= @ @= -> ... :" ++ S "= !" = sgX:=by decide +kernel
theorem zhr:splitL sgX (S " ") = sgT.map mkS:=by decide +kernel
theorem sg_ok:SplitOk sgX (S " "):=by
 refine ⟨by decide +kernel,by decide +kernel,by decide +kernel,?_,?_⟩
 ·rw [zhr]; decide +kernel
 ·rw [zhr]
  have h:(sgT.map mkS).all (fun z=>Nat.ble z.length 3) = true:=by decide +kernel
  exact fun z hz=>Nat.le_trans (Nat.ble_eq.mp (List.all_eq_true.mp h z hz)) (by decide)
noncomputable abbrev Bd0 (K:Frag) (a:Addr):Prop:=(fdO K a).map (fun fd=>bindArgs fd ⟨[],[]⟩) = some (pure [])
theorem binds0 {K:Frag} {a:Addr} (h:Bd0 K a):Binds K a [] [] [] []:=by
 intro C fd W hf σ args' kws' H B ra rk
 cases rk.nil_of
 cases ra.nil_of
 exact ⟨_,.nil,fun M A E Q k=>by rw [zak hf h]; exact wpAny_pure k⟩
noncomputable def rtS:Spec:=Sp (fun N:Int=>[.int N]) [] noKw fun N cs K=>K (.str (mkS (rtL N))) cs
noncomputable def T1r:Tab:=[(252,sgS)]
noncomputable def P1r:Prm:=law3.prm T1r
theorem f1_sg:P1r.fn 252 = sgS:=rfl
theorem sg_at {g:Nat} (h:g < 48):idxV sgV (g:Int) = some (.str (mkS (sgL g))):=by
 rw [zeo]
 unfold sgV
 rw [List.getElem?_map]
 have hl:g < sgT.length:=h
 unfold sgL
 rw [List.getD_eq_getElem?_getD,List.getElem?_eq_getElem hl]
 rfl
theorem rt_lo0:∀ k:Fin 13,k.val < 4 -> kP k.val = 6 /\ idxV [V.str (S " "),.str (S "s"),.str (S "A"),.str (S "b")] (k.val:Int) = some (.str (mkS (posL (kQ k.val)))):=by
 intro k hk
 have:k.val = 0 \/ k.val = 1 \/ k.val = 2 \/ k.val = 3:=by lia
 rcases this with h | h | h | h <;> rw [h] <;> exact ⟨rfl,by kernel_rfl⟩
theorem rt_lo {k:Nat} (hk13:k < 13) (hk:k < 4):kP k = 6 /\ idxV [V.str (S " "),.str (S "s"),.str (S "A"),.str (S "b")] (k:Int) = some (.str (mkS (posL (kQ k)))):=rt_lo0 ⟨k,hk13⟩ hk
theorem nG_at (N:Int):(N.fdiv 13).fmod 48 = (nG N:Nat) /\ nG N < 48:=zbc (N.fdiv 13) 48 (by decide)
theorem nK_at (N:Int):N.fmod 13 = (nK N:Nat) /\ nK N < 13:=zbc N 13 (by decide)
theorem rt_hi {k:Nat} (hk13:k < 13) (hk:4 <= k):∃ a b,idxV (S "Sab").cps.toList (((k:Int) - 4).fdiv 3) = some a /\ idxV (S "sAB").cps.toList (((k:Int) - 4).fmod 3) = some b /\ preL (kP k) = [a] /\ posL (kQ k) = [b]:=by
 have h:∀ k:Fin 13,4 <= k.val -> (idxV (S "Sab").cps.toList (((k.val:Int) - 4).fdiv 3) = some ((preL (kP k.val)).headD 0) /\ idxV (S "sAB").cps.toList (((k.val:Int) - 4).fmod 3) = some ((posL (kQ k.val)).headD 0)) /\ preL (kP k.val) = [(preL (kP k.val)).headD 0] /\ posL (kQ k.val) = [(posL (kQ k.val)).headD 0]:=by decide +kernel
 obtain ⟨⟨h1,h2⟩,h3,h4⟩:=h ⟨k,hk13⟩ hk
 exact ⟨_,_,h1,h2,h3,h4⟩
theorem z1v:∀ g:Fin 48,(sgL g.val).length <= 3:=by decide +kernel
theorem zq2 {g:Nat} (h:g < 48):(sgL g).length <= 3:=z1v ⟨g,h⟩
theorem z2j (p:Nat):(preL p).length <= 1:=by
 rcases p with _ | _ | _ | _ | _ | _ | _ | p
 all_goals first | decide | exact Nat.zero_le _
theorem z2l (q:Nat):(posL q).length <= 1:=by
 rcases q with _ | _ | _ | _ | _ | _ | _ | _ | q
 all_goals first | decide | exact Nat.zero_le _
theorem zjp {p g q:Nat} (hg:g < 48):(txL p g q).length <= 5:=by
 have h:=zq2 hg
 have h1:=z2j p
 have h2:=z2l q
 unfold txL
 rw [List.length_append,List.length_append]
 lia
theorem tx_lim {p g k:Nat} (hg:g < 48) (hk:k < 13):(mkS (txL p g (kQ k))).length <= lim:=Nat.le_trans (zjp hg) (by decide)
section
variable {C:Cx} {K:Frag} (F2:Facts2 C P0 K) (L:LimAt C)
include F2 L
theorem znk (Fk:FnK K 252 F_law_signs) (B:Bd0 K 252):FnOk C.up 252 sgS :=
 fn_sp (sl:=fun _:Unit=>[]) (fun _=>[]) F2 L Fk (zmw []) (fun _=>rfl) (fun _=>binds0 B) (fun _=>rfl) fun a cs K' q =>
  .addS' sg_cat (by decide +kernel) ⟨.split _,.split sg_ok (by rw [zhr,List.map_map]; exact q)⟩
end
section
variable {C:Cx} {K:Frag} (F2:Facts2 C P1r K) (L:LimAt C)
include F2 L
theorem zwp (Fk:FnK K 259 F_law_right) (B:Bd1 K 259 (S "number")):FnOk C.up 259 rtS :=
 fn1 (sl:=fun N:Int=>[some (.int N),none,none]) F2 L Fk (zmx T1r) B (fun _=>rfl) fun N cs K' q=>by
  have hg:=nG_at N
  have hk:=nK_at N
  refine zac f1_sg () (.fdivI (by decide) (.modI' (by decide) hg.1 ⟨_,.seq (.lst _) (sg_at hg.2),.modI' (by decide) hk.1 ?_⟩))
  have q':K' (.str (mkS (txL (kP (nK N)) (nG N) (kQ (nK N))))) cs:=q
  have l2:=tx_lim (p:=kP (nK N)) hg.2 hk.2
  by_cases h:nK N < 4
  ·obtain ⟨e1,e2⟩:=rt_lo hk.2 h
   rw [e1] at q' l2
   exact .ltT (Int.ofNat_lt.mpr h) ⟨(by decide:4 <= lim),_,.seq (.lst _) e2,.addS' (zel _ _) l2 q'⟩
  ·obtain ⟨a,b,e1,e2,e3,e4⟩:=rt_hi hk.2 (Nat.not_lt.mp h)
   have e5:(⟨#[a]⟩:Str) ++ mkS (sgL (nG N)) = mkS ([a] ++ sgL (nG N)):=zel [a] _
   have e6:mkS ([a] ++ sgL (nG N)) ++ (⟨#[b]⟩:Str) = mkS (txL (kP (nK N)) (nG N) (kQ (nK N))):=(zel _ [b]).trans (by unfold txL; rw [e3,e4,List.append_assoc])
   refine .ltF (fun z=>h (Int.ofNat_lt.mp z)) (.subI (.fdivI (by decide) ⟨_,.str e1,.addS' e5 ?_ (.subI (.modI (by decide) ⟨_,.str e2,.addS' e6 l2 q'⟩))⟩))
   rw [zsd,List.length_append]
   exact Nat.le_trans (Nat.add_le_add_left (zq2 hg.2) 1) (by decide)
end
end Mine
end
section
namespace Mine
namespace L3
noncomputable abbrev Q:=Nat × Nat × Nat
noncomputable abbrev U:=List Q
noncomputable def shps:List (List Nat):=[[],[0],[1],[2],[0,0],[0,1],[0,2],[1,0],[1,1],[1,2],[2,0],[2,1],[2,2]]
noncomputable def shp (k:Nat):List Nat:=shps.getD k []
noncomputable def eqq (a b:Q):Bool:=Nat.beq a.1 b.1 && (Nat.beq a.2.1 b.2.1 && Nat.beq a.2.2 b.2.2)
noncomputable def era (q:Q) (u:U):U:=List.rec [] (fun p r ih=>Bool.rec (p :: ih) r (eqq p q)) u
noncomputable def sm (f:Q -> Nat) (u:U):Nat:=List.rec 0 (fun q _ ih=>f q + ih) u
noncomputable def T (n:Nat):List Nat -> U -> Nat :=
 Nat.rec (fun p _=>List.rec 1 (fun _ _ _=>0) p) (fun k ih p u=>List.rec 0 (fun x t _=>sm (fun q=>Bool.rec 0 (ih (shp q.2.1 ++ t) ((q.1,q.2.1,q.2.2 - 1) :: era q u)) (Nat.beq q.1 x && (Nat.blt 0 q.2.2 && Nat.ble ((shp q.2.1).length + t.length) k))) u) p) n
noncomputable def uses (u:U) (x:Nat):Nat:=sm (fun q=>Bool.rec 0 q.2.2 (Nat.beq q.1 x)) u
noncomputable def cnt (y:Nat) (l:List Nat):Nat:=List.rec 0 (fun a _ ih=>Bool.rec ih (ih + 1) (Nat.beq a y)) l
noncomputable def born (u:U) (x y:Nat):Nat:=sm (fun q=>Bool.rec 0 (q.2.2 * cnt y (shp q.2.1)) (Nat.beq q.1 x)) u
noncomputable def fact (n:Nat):Nat:=Nat.rec 1 (fun n ih=>(n + 1) * ih) n
noncomputable def md (u:U) (k:Nat):Nat × Nat:=Bool.rec (1,0) (uses u k,born u k k) (Nat.blt 0 (uses u k))
noncomputable def below (u:U):Nat:=List.rec 1 (fun q _ ih=>fact q.2.2 * ih) u
noncomputable def tot (u:U):Nat:=sm (fun q=>q.2.2) u
noncomputable def prod3 (u:U):Nat:=fact (uses u 0 - 1) * (fact (uses u 1 - 1) * fact (uses u 2 - 1))
noncomputable def ok (u:U):Bool :=
 Nat.beq (((md u 1).1 * (md u 2).1 + (md u 1).2 * (md u 2).2) * prod3 u)
  (T (tot u) [0] u * below u + ((md u 1).1 * (md u 2).2 + (md u 1).2 * (md u 2).1 + born u 1 2 * born u 2 1) * prod3 u)
noncomputable def inc (i:Nat) (u:U):U:=List.rec (motive:=fun _=>Nat -> U) (fun _=>[]) (fun q r ih i=>Nat.rec ((q.1,q.2.1,q.2.2 + 1) :: r) (fun i _=>q :: ih i) i) u i
noncomputable def leafs (p:List Nat) (u:U):U:=List.rec (motive:=fun _=>U -> U) (fun u=>u) (fun x _ ih u=>ih (inc x u)) p u
noncomputable def slf (x:Nat):Nat:=x + 1
noncomputable def every (n:Nat) (f:Nat -> Bool):Bool:=Nat.rec true (fun k ih=>f k && ih) n
noncomputable def isSelf (q:Q):Bool:=Nat.beq q.2.1 (slf q.1)
noncomputable def atU (i:Nat) (u:U):Q:=u.getD i (9,0,0)
noncomputable def nz (u:U):U:=List.rec [] (fun q _ ih=>Bool.rec ih (q :: ih) (Nat.blt 0 q.2.2)) u
noncomputable def fin0 (u:U):Bool:=ok u && (every 3 (fun x=>ok ((x,slf x,1) :: u)) && every u.length (fun i=>!isSelf (atU i u) || ok (inc i u)))
noncomputable def fin (u:U):Bool:=fin0 (nz u)
noncomputable def chk (n:Nat):List Nat -> U -> Bool :=
 Nat.rec (fun p u=>fin (leafs p u)) (fun _ ih p u=>List.rec (fin u) (fun x t _ =>
  every u.length (fun i=>!Nat.beq (atU i u).1 x || ih (shp (atU i u).2.1 ++ t) (inc i u)) && every 13 (fun b=>ih (shp b ++ t) (u ++ [(x,b,1)]))) p) n
noncomputable def u0:U:=[(0,0,0),(1,0,0),(2,0,0)]
end L3
end Mine
end
section
namespace Mine
namespace L3
theorem zam (f:Q -> Nat) (q:Q) (u:U):sm f (q :: u) = f q + sm f u:=rfl
theorem zhq (f:Q -> Nat) {u v:U} (h:u.Perm v):sm f u = sm f v:=by
 induction h with
 | nil=>rfl
 | cons q _ ih=>rw [zam,zam,ih]
 | swap a b u=>rw [zam,zam,zam,zam,Nat.add_left_comm]
 | trans _ _ h1 h2=>exact h1.trans h2
theorem znb {f g:Q -> Nat} {u:U} (h:∀ q ∈ u,f q = g q):sm f u = sm g u:=by
 induction u with
 | nil=>rfl
 | cons q u ih=>rw [zam,zam,h q List.mem_cons_self,ih fun x hx=>h x (List.mem_cons_of_mem _ hx)]
theorem ztt {a b:Q}:eqq a b = true ↔ a = b:=by
 unfold eqq
 rw [Bool.and_eq_true,Bool.and_eq_true,Nat.beq_eq,Nat.beq_eq,Nat.beq_eq,Prod.ext_iff,Prod.ext_iff]
theorem zts (q:Q) (u:U):era q u = u.erase q:=by
 induction u with
 | nil=>rfl
 | cons p u ih =>
  show (Bool.rec (motive:=fun _=>U) (p :: era q u) u (eqq p q)) = _
  rw [List.erase_cons,ih]
  cases h:eqq p q with
  | true=>rw [if_pos (beq_iff_eq.mpr (ztt.mp h))]
  | false=>rw [if_neg (fun z=>by rw [ztt.mpr (beq_iff_eq.mp z)] at h; cases h)]
theorem zx5 (q:Q) {u v:U} (h:u.Perm v):(era q u).Perm (era q v):=by
 rw [zts,zts]
 exact h.erase q
noncomputable def Tq (k:Nat) (x:Nat) (t:List Nat) (u:U) (q:Q):Nat:=Bool.rec 0 (T k (shp q.2.1 ++ t) ((q.1,q.2.1,q.2.2 - 1) :: era q u)) (Nat.beq q.1 x && (Nat.blt 0 q.2.2 && Nat.ble ((shp q.2.1).length + t.length) k))
theorem z03 (p:List Nat) (u:U):T 0 p u = if p = [] then 1 else 0:=by cases p <;> rfl
theorem T_nil (k:Nat) (u:U):T (k + 1) [] u = 0:=rfl
theorem zlb (k x:Nat) (t:List Nat) (u:U):T (k + 1) (x :: t) u = sm (Tq k x t u) u:=rfl
theorem zu7 (n:Nat):∀ (p:List Nat) {u v:U},u.Perm v -> T n p u = T n p v:=by
 induction n with
 | zero=>intro p u v _; rw [z03,z03]
 | succ k ih =>
  intro p u v h
  cases p with
  | nil=>rfl
  | cons x t =>
   rw [zlb,zlb,zhq _ h]
   refine znb fun q _=>?_
   unfold Tq
   rw [ih _ ((zx5 q h).cons (q.1,q.2.1,q.2.2 - 1))]
theorem zp1 {u v:U} (h:u.Perm v):below u = below v:=by
 have c:∀ (q:Q) (u:U),below (q :: u) = fact q.2.2 * below u:=fun _ _=>rfl
 induction h with
 | nil=>rfl
 | cons q _ ih=>rw [c,c,ih]
 | swap a b u=>rw [c,c,c,c,Nat.mul_left_comm]
 | trans _ _ h1 h2=>exact h1.trans h2
theorem zl4 {u v:U} (h:u.Perm v):ok u = ok v:=by
 have e1:∀ x,uses u x = uses v x:=fun x=>zhq _ h
 have e2:∀ x y,born u x y = born v x y:=fun x y=>zhq _ h
 have e3:tot u = tot v:=zhq _ h
 unfold ok md prod3
 rw [e3,zu7 _ _ h,zp1 h]
 simp only [e1,e2]
noncomputable abbrev Ru:=List (Nat × Nat)   -- the rules: letter,shape
noncomputable def zipU (rs:Ru) (c:List Nat):U:=rs.zipWith (fun r k=>(r.1,r.2,k)) c
noncomputable def decK (k:Nat) (c:List Nat):List Nat:=c.set k (c.getD k 0 - 1)
theorem zqa (rs:Ru):∀ (c:List Nat) (k:Nat) (r:Nat × Nat) (m:Nat),rs[k]? = some r -> c[k]? = some m -> (zipU rs (decK k c)).Perm ((r.1,r.2,m - 1) :: era (r.1,r.2,m) (zipU rs c)):=by
 intro c k r m hr hc
 rw [zts]
 have hz:(zipU rs c)[k]? = some (r.1,r.2,m):=by unfold zipU; rw [List.getElem?_zipWith,hr,hc]
 have hs:zipU rs (decK k c) = (zipU rs c).set k (r.1,r.2,m - 1):=by
  unfold decK
  have hm:c.getD k 0 = m:=by rw [List.getD_eq_getElem?_getD,hc]; rfl
  rw [hm]
  unfold zipU
  refine List.ext_getElem? fun j=>?_
  rw [List.getElem?_zipWith,List.getElem?_set,List.getElem?_set,List.getElem?_zipWith]
  by_cases h:k = j
  ·subst h
   have h1:=(List.getElem?_eq_some_iff.mp hc).1
   have h2:=(List.getElem?_eq_some_iff.mp hz).1
   unfold zipU at h2
   rw [if_pos rfl,if_pos rfl,if_pos h1,if_pos h2,hr]
  ·rw [if_neg h,if_neg h]
 rw [hs]
 obtain ⟨hk,he⟩:=List.getElem?_eq_some_iff.mp hz
 have hm:(r.1,r.2,m) ∈ zipU rs c:=he ▸ List.getElem_mem hk
 have p1:(zipU rs c).Perm ((r.1,r.2,m) :: ((zipU rs c).take k ++ (zipU rs c).drop (k + 1))):=by
  have e:zipU rs c = (zipU rs c).take k ++ (r.1,r.2,m) :: (zipU rs c).drop (k + 1):=by rw [<- he,<- List.drop_eq_getElem_cons hk,List.take_append_drop]
  exact (List.Perm.of_eq e).trans List.perm_middle
 have p2:((zipU rs c).set k (r.1,r.2,m - 1)).Perm ((r.1,r.2,m - 1) :: ((zipU rs c).take k ++ (zipU rs c).drop (k + 1))):=by
  rw [List.set_eq_take_append_cons_drop,if_pos hk]
  exact List.perm_middle
 refine p2.trans (List.Perm.cons _ ?_)
 have:=p1.erase (r.1,r.2,m)
 rw [List.erase_cons_head] at this
 exact this.symm
end L3
end Mine
end
section
namespace Mine
namespace L3
noncomputable abbrev Row:=List Nat × List Nat
noncomputable def rowK (rs:Ru) (row:Row) (k:Nat):Option Row :=
 if 0 < row.2.getD k 0 /\ row.1.head? = (rs[k]?).map (·.1) /\ row.1.length + (shp (rs.getD k (9,0)).2).length <= row.2.sum then some (shp (rs.getD k (9,0)).2 ++ row.1.tail,decK k row.2) else none
noncomputable def fr (rs:Ru) (row:Row):List Row:=(List.range rs.length).filterMap (rowK rs row)
noncomputable def cntR (rs:Ru) (n:Nat) (rows:List Row):Nat:=(rows.map fun r=>T n r.1 (zipU rs r.2)).sum
theorem zqw (f:Q -> Nat) (u:U):sm f u = (u.map f).sum:=by
 induction u with
 | nil=>rfl
 | cons q u ih=>rw [zam,ih]; rfl
theorem zsh {α:Type} (f:α -> Nat) (u:List α):(u.map f).sum = ((List.range u.length).map fun k=>((u[k]?).map f).getD 0).sum:=by
 induction u with
 | nil=>rfl
 | cons a u ih =>
  rw [List.length_cons,List.range_succ_eq_map,List.map_cons,List.map_cons,List.map_map,List.sum_cons,List.sum_cons,ih]
  rfl
theorem sum0 {l:List Nat} (h:∀ a ∈ l,a = 0):l.sum = 0:=by
 induction l with
 | nil=>rfl
 | cons a l ih=>rw [List.sum_cons,h a List.mem_cons_self,ih fun x hx=>h x (List.mem_cons_of_mem _ hx)]
theorem zx0 {α β:Type} (g:α -> Option β) (h:β -> Nat) (l:List α):((l.filterMap g).map h).sum = (l.map fun a=>((g a).map h).getD 0).sum:=by
 induction l with
 | nil=>rfl
 | cons a l ih =>
  rw [List.map_cons,List.sum_cons,<- ih]
  cases e:g a with
  | none=>rw [List.filterMap_cons_none e]; exact (Nat.zero_add _).symm
  | some b=>rw [List.filterMap_cons_some e,List.map_cons,List.sum_cons]; rfl
theorem zlg (rs:Ru) (c:List Nat) (h:c.length = rs.length):(zipU rs c).length = rs.length:=by unfold zipU; rw [List.length_zipWith,h,Nat.min_self]
theorem cnt_fr {rs:Ru} {n:Nat} {p c:List Nat} (hc:c.length = rs.length) (hs:c.sum = n + 1):cntR rs n (fr rs (p,c)) = T (n + 1) p (zipU rs c):=by
 unfold cntR fr
 rw [zx0]
 cases p with
 | nil =>
  rw [T_nil]
  refine sum0 (fun a ha=>?_)
  obtain ⟨k,hk,rfl⟩:=List.mem_map.mp ha
  have hk':=List.mem_range.mp hk
  unfold rowK
  rw [if_neg (fun z=>by have:=z.2.1; rw [List.getElem?_eq_getElem hk'] at this; cases this)]
  rfl
 | cons x t =>
  rw [zlb,zqw,zsh (Tq n x t (zipU rs c)),zlg rs c hc]
  refine congrArg List.sum (List.map_congr_left fun k hk=>?_)
  have hk':=List.mem_range.mp hk
  have hr:=List.getElem?_eq_getElem hk'
  have hck:=List.getElem?_eq_getElem (hc ▸ hk':k < c.length)
  have hz:(zipU rs c)[k]? = some (rs[k].1,rs[k].2,c[k]'(hc ▸ hk')):=by unfold zipU; rw [List.getElem?_zipWith,hr,hck]
  have hd:rs.getD k (9,0) = rs[k]:=by rw [List.getD_eq_getElem?_getD,hr]; rfl
  have hm:c.getD k 0 = c[k]'(hc ▸ hk'):=by rw [List.getD_eq_getElem?_getD,hck]; rfl
  rw [hz]
  show ((rowK rs (x :: t,c) k).map _).getD 0 = Tq n x t (zipU rs c) _
  unfold rowK Tq
  dsimp only
  rw [hd,hm,hr,hs]
  by_cases h:0 < c[k]'(hc ▸ hk') /\ (x :: t).head? = Option.map (·.1) (some rs[k]) /\ (x :: t).length + (shp rs[k].2).length <= n + 1
  ·rw [if_pos h]
   have e1:Nat.beq rs[k].1 x = true:=by rw [Nat.beq_eq]; exact (Option.some.inj h.2.1).symm
   have e2:Nat.blt 0 (c[k]'(hc ▸ hk')) = true:=Nat.blt_eq.mpr h.1
   have e3:Nat.ble ((shp rs[k].2).length + t.length) n = true:=Nat.ble_eq.mpr (by have:=h.2.2; rw [List.length_cons] at this; lia)
   rw [e1,e2,e3]
   exact zu7 _ _ (zqa rs c k _ _ hr hck)
  ·rw [if_neg h]
   have:(Nat.beq rs[k].1 x && (Nat.blt 0 (c[k]'(hc ▸ hk')) && Nat.ble ((shp rs[k].2).length + t.length) n)) = false:=by
    rw [Bool.eq_false_iff]
    intro z
    rw [Bool.and_eq_true,Bool.and_eq_true,Nat.beq_eq,Nat.blt_eq,Nat.ble_eq] at z
    exact h ⟨z.2.1,congrArg some z.1.symm,by rw [List.length_cons]; lia⟩
   rw [this]
   rfl
noncomputable def rowsN (rs:Ru) (c:List Nat):Nat -> List Row:=Nat.rec [([0],c)] fun _ ih=>ih.flatMap (fr rs)
theorem z1t {c:List Nat} {k m:Nat} (h:c[k]? = some (m + 1)):(c.set k m).sum + 1 = c.sum:=by
 induction c generalizing k with
 | nil=>cases h
 | cons a c ih =>
  cases k with
  | zero=>cases h; rw [List.set_cons_zero,List.sum_cons,List.sum_cons]; lia
  | succ k=>rw [List.set_cons_succ,List.sum_cons,List.sum_cons,<- ih (k:=k) h]; lia
theorem z0h {rs:Ru} {row r:Row} {n:Nat} (hs:row.2.sum = n + 1) (hl:row.2.length = rs.length) (h:r ∈ fr rs row):r.2.sum = n /\ r.2.length = rs.length:=by
 obtain ⟨k,hk,e⟩:=List.mem_filterMap.mp h
 have hk':=List.mem_range.mp hk
 unfold rowK at e
 split at e
 ·rename_i z
  cases e
  have hck:=List.getElem?_eq_getElem (hl ▸ hk':k < row.2.length)
  have hm:row.2.getD k 0 = row.2[k]'(hl ▸ hk'):=by rw [List.getD_eq_getElem?_getD,hck]; rfl
  obtain ⟨m,e⟩:=Nat.exists_eq_succ_of_ne_zero (Nat.ne_of_gt z.1)
  have hm2:row.2[k]? = some (m + 1):=by rw [hck,<- hm,e]
  unfold decK
  refine ⟨?_,by rw [List.length_set,hl]⟩
  have:=z1t hm2
  rw [e]
  show (row.2.set k (m + 1 - 1)).sum = n
  rw [Nat.add_sub_cancel]
  lia
 ·cases e
theorem zib {rs:Ru} {c:List Nat} (hl:c.length = rs.length) (m:Nat):m <= c.sum -> ∀ r ∈ rowsN rs c m,r.2.sum + m = c.sum /\ r.2.length = rs.length:=by
 induction m with
 | zero=>intro _ r h; cases List.mem_singleton.mp h; exact ⟨rfl,hl⟩
 | succ m ih =>
  intro hm r h
  obtain ⟨row,h1,h2⟩:=List.mem_flatMap.mp h
  obtain ⟨a,b⟩:=ih (Nat.le_of_succ_le hm) row h1
  obtain ⟨q,w⟩:=z0h (n:=c.sum - m - 1) (by lia) b h2
  exact ⟨by lia,w⟩
theorem zyt {rs:Ru} {c:List Nat} (hl:c.length = rs.length) (m:Nat):m <= c.sum -> cntR rs (c.sum - m) (rowsN rs c m) = T c.sum [0] (zipU rs c):=by
 induction m with
 | zero=>intro _; exact Nat.add_zero _
 | succ m ih =>
  intro hm
  rw [<- ih (Nat.le_of_succ_le hm)]
  have e:c.sum - m = (c.sum - (m + 1)) + 1:=by lia
  rw [e]
  have inv:=zib hl m (Nat.le_of_succ_le hm)
  show cntR rs _ ((rowsN rs c m).flatMap (fr rs)) = _
  generalize rowsN rs c m = rows at inv
  induction rows with
  | nil=>rfl
  | cons r rows ih2 =>
   rw [List.flatMap_cons]
   have i:=inv r List.mem_cons_self
   unfold cntR at ih2 ⊢
   rw [List.map_append,List.sum_append,List.map_cons,List.sum_cons,ih2 fun x hx=>inv x (List.mem_cons_of_mem _ hx)]
   have:=cnt_fr (rs:=rs) (n:=c.sum - (m + 1)) (p:=r.1) (c:=r.2) i.2 (by lia)
   unfold cntR at this
   rw [this]
theorem fr_len {rs:Ru} {row:Row} (hl:row.2.length = rs.length):(fr rs row).length <= row.2.sum:=by
 have h1:(fr rs row).length <= ((List.range rs.length).map fun k=>row.2.getD k 0).sum:=by
  unfold fr
  generalize List.range rs.length = l
  induction l with
  | nil=>exact Nat.le_refl _
  | cons k l ih =>
   rw [List.map_cons,List.sum_cons]
   cases e:rowK rs row k with
   | none=>rw [List.filterMap_cons_none e]; lia
   | some b =>
    rw [List.filterMap_cons_some e,List.length_cons]
    have:0 < row.2.getD k 0:=by
     unfold rowK at e
     split at e
     ·rename_i z; exact z.1
     ·cases e
    lia
 refine Nat.le_trans h1 (Nat.le_of_eq ?_)
 have:=zsh (fun x:Nat=>x) row.2
 rw [List.map_id'] at this
 rw [this,hl]
 refine congrArg List.sum (List.map_congr_left fun k _=>?_)
 rw [List.getD_eq_getElem?_getD]
 cases row.2[k]? <;> rfl
end L3
end Mine
end
section
namespace Mine
namespace L3
noncomputable def nzq (q:Q):Bool:=Nat.blt 0 q.2.2
theorem nz_eq (u:U):nz u = u.filter nzq:=by
 induction u with
 | nil=>rfl
 | cons q u ih =>
  show (Bool.rec (motive:=fun _=>U) (nz u) (q :: nz u) (Nat.blt 0 q.2.2)) = _
  rw [List.filter_cons,ih]
  show _ = if Nat.blt 0 q.2.2 = true then _ else _
  cases Nat.blt 0 q.2.2 <;> rfl
theorem zii {u v:U} (h:u.Perm v):(nz u).Perm (nz v):=by rw [nz_eq,nz_eq]; exact h.filter _
noncomputable def gq (R:Ru) (c:List Nat) (k:Nat):Q:=((R.getD k (9,0)).1,(R.getD k (9,0)).2,c.getD k 0)
theorem zzf {R:Ru} {c:List Nat} (hc:c.length = R.length) {k:Nat} (hk:k < R.length):(zipU R c)[k]? = some (gq R c k):=by
 unfold zipU gq
 rw [List.getElem?_zipWith,List.getElem?_eq_getElem hk,List.getElem?_eq_getElem (hc ▸ hk:k < c.length),List.getD_eq_getElem?_getD,List.getElem?_eq_getElem hk,List.getD_eq_getElem?_getD,List.getElem?_eq_getElem (hc ▸ hk:k < c.length)]
 rfl
theorem zjn {R:Ru} {c:List Nat} (hc:c.length = R.length) {k:Nat} (hk:k < R.length):∃ rest,(zipU R c).Perm (gq R c k :: rest) /\ ∀ m,(zipU R (c.set k m)).Perm (((R.getD k (9,0)).1,(R.getD k (9,0)).2,m) :: rest):=by
 have hkz:k < (zipU R c).length:=by rw [zlg R c hc]; exact hk
 have hg:(zipU R c)[k] = gq R c k:=(List.getElem?_eq_some_iff.mp (zzf hc hk)).2
 refine ⟨(zipU R c).take k ++ (zipU R c).drop (k + 1),?_,fun m=>?_⟩
 ·have e:zipU R c = (zipU R c).take k ++ gq R c k :: (zipU R c).drop (k + 1):=by rw [<- hg,<- List.drop_eq_getElem_cons hkz,List.take_append_drop]
  exact (List.Perm.of_eq e).trans List.perm_middle
 ·have hs:zipU R (c.set k m) = (zipU R c).set k ((R.getD k (9,0)).1,(R.getD k (9,0)).2,m):=by
   unfold zipU
   refine List.ext_getElem? fun j=>?_
   rw [List.getElem?_zipWith,List.getElem?_set,List.getElem?_set,List.getElem?_zipWith]
   by_cases h:k = j
   ·subst h
    unfold zipU at hkz
    rw [if_pos rfl,if_pos rfl,if_pos (hc ▸ hk),if_pos hkz,List.getElem?_eq_getElem hk,List.getD_eq_getElem?_getD,List.getElem?_eq_getElem hk]
    rfl
   ·rw [if_neg h,if_neg h]
  rw [hs,List.set_eq_take_append_cons_drop,if_pos hkz]
  exact List.perm_middle
theorem zbg (q:Q) (u:U):nz (q :: u) = if nzq q = true then q :: nz u else nz u:=by rw [nz_eq,nz_eq,List.filter_cons]
theorem zdz {R:Ru} {c:List Nat} {k j m:Nat} (h:k ≠ j):gq R (c.set k m) j = gq R c j:=by
 have e:(c.set k m).getD j 0 = c.getD j 0:=by rw [List.getD_eq_getElem?_getD,List.getD_eq_getElem?_getD,List.getElem?_set,if_neg h]
 unfold gq
 rw [e]
theorem z0g {R:Ru} {c:List Nat} {k m:Nat} (h:k < c.length):gq R (c.set k m) k = ((R.getD k (9,0)).1,(R.getD k (9,0)).2,m):=by
 have e:(c.set k m).getD k 0 = m:=by rw [List.getD_eq_getElem?_getD,List.getElem?_set,if_pos rfl,if_pos h]; rfl
 unfold gq
 rw [e]
theorem nz_f {R:Ru} (f:List Nat):∀ {c:List Nat},c.length = R.length -> f.Nodup -> (∀ k ∈ f,k < R.length) -> (∀ k,k < R.length -> k ∉ f -> c.getD k 0 = 0) -> (nz (zipU R c)).Perm (nz (f.map (gq R c))):=by
 induction f with
 | nil =>
  intro c hc _ _ h0
  have:nz (zipU R c) = []:=by
   rw [nz_eq,List.filter_eq_nil_iff]
   intro q hq
   obtain ⟨k,hk,e⟩:=List.getElem_of_mem hq
   have hk':k < R.length:=by rw [zlg R c hc] at hk; exact hk
   have hz:=h0 k hk' (List.not_mem_nil)
   have e2:=(List.getElem?_eq_some_iff.mp (zzf hc hk')).2
   rw [<- e,e2]
   unfold nzq gq
   dsimp only
   rw [hz]
   decide
  rw [this]
  exact .nil
 | cons k f ih =>
  intro c hc hn hf h0
  obtain ⟨h1,h2⟩:=List.nodup_cons.mp hn
  have hk:=hf k List.mem_cons_self
  obtain ⟨rest,p1,p2⟩:=zjn hc hk
  have i:=ih (c:=c.set k 0) (by rw [List.length_set]; exact hc) h2 (fun j hj=>hf j (List.mem_cons_of_mem _ hj)) (fun j hj hj2=>by
   rw [List.getD_eq_getElem?_getD,List.getElem?_set]
   by_cases e:k = j
   ·rw [if_pos e,if_pos (hc ▸ hk)]; rfl
   ·rw [if_neg e,<- List.getD_eq_getElem?_getD]
    exact h0 j hj fun z=>(List.mem_cons.mp z).elim (fun q=>e q.symm) hj2)
  have em:f.map (gq R (c.set k 0)) = f.map (gq R c):=List.map_congr_left fun j hj=>zdz fun e=>h1 (e ▸ hj)
  rw [em] at i
  have i2:=(zii (p2 0)).symm.trans i
  rw [zbg] at i2
  have z:nzq ((R.getD k (9,0)).1,(R.getD k (9,0)).2,0) = false:=rfl
  rw [z,if_neg Bool.false_ne_true] at i2
  refine (zii p1).trans ?_
  rw [List.map_cons,zbg,zbg]
  cases nzq (gq R c k) with
  | true=>exact i2.cons _
  | false=>exact i2
theorem zs4 {R:Ru} {c:List Nat} (hc:c.length = R.length) (f:List Nat):∀ (i k:Nat),f[i]? = some k -> f.Nodup -> k < R.length -> f.map (gq R (c.set k (c.getD k 0 + 1))) = inc i (f.map (gq R c)):=by
 induction f with
 | nil=>intro i k h; cases h
 | cons j f ih =>
  intro i k h hn hk
  obtain ⟨h1,h2⟩:=List.nodup_cons.mp hn
  cases i with
  | zero =>
   cases h
   have em:f.map (gq R (c.set j (c.getD j 0 + 1))) = f.map (gq R c):=List.map_congr_left fun a ha=>zdz (k:=j) (j:=a) fun e=>h1 (e ▸ ha)
   rw [List.map_cons,z0g (hc ▸ hk),em]
   rfl
  | succ i =>
   have hm:k ∈ f:=List.mem_of_getElem? h
   rw [List.map_cons,zdz (k:=k) (j:=j) (fun e=>h1 (e ▸ hm)),ih i k h h2 hk]
   rfl
end L3
end Mine
end
section
namespace Mine
namespace L3
inductive Run (R:Ru) (last:Nat -> Nat):Nat -> List Nat -> List Nat -> List Nat -> Prop
 | done (n c):Run R last n [] c c
 | pick {n x t c k s c'} (hk:R[k]? = some (x,s)) (hs:s < 13) (h:Run R last n (shp s ++ t) (c.set k (c.getD k 0 + 1)) c'):Run R last (n + 1) (x :: t) c c'
 | leaf {x t c c'} (hx:x < 3) (h:Run R last 0 t (c.set (last x) (c.getD (last x) 0 + 1)) c'):Run R last 0 (x :: t) c c'
structure Sim (R:Ru) (last:Nat -> Nat) (c f:List Nat):Prop where
 l:c.length = R.length
 n:f.Nodup
 lt:∀ k ∈ f,k < R.length
 z:∀ k,k < R.length -> k ∉ f -> c.getD k 0 = 0
 h:∀ x,x < 3 -> f[x]? = some (last x)
theorem zc3 {n:Nat} {f:Nat -> Bool} (h:every n f = true):∀ k,k < n -> f k = true:=by
 induction n with
 | zero=>intro k hk; exact absurd hk (Nat.not_lt_zero _)
 | succ n ih =>
  obtain ⟨h1,h2⟩:=(Bool.and_eq_true _ _).mp (show (f n && every n f) = true from h)
  intro k hk
  rcases Nat.lt_or_eq_of_le (Nat.le_of_lt_succ hk) with q | q
  ·exact ih h2 k q
  ·exact q ▸ h1
theorem znd {c:List Nat} {k j m:Nat} (h:k ≠ j):(c.set k m).getD j 0 = c.getD j 0:=by rw [List.getD_eq_getElem?_getD,List.getD_eq_getElem?_getD,List.getElem?_set,if_neg h]
theorem Sim.old {R:Ru} {last:Nat -> Nat} {c f:List Nat} (S:Sim R last c f) {k m:Nat} (hk:k ∈ f):Sim R last (c.set k m) f :=
 ⟨by rw [List.length_set]; exact S.l,S.n,S.lt,fun j hj hn=>by rw [znd (k:=k) (j:=j) fun e=>hn (e ▸ hk)]; exact S.z j hj hn,S.h⟩
theorem zme {R:Ru} {k:Nat} {q:Nat × Nat} (h:R[k]? = some q):R.getD k (9,0) = q:=by rw [List.getD_eq_getElem?_getD,h]; rfl
theorem run_ok {R:Ru} {last:Nat -> Nat} {n:Nat} {p c c':List Nat} (h:Run R last n p c c'):∀ {f:List Nat},Sim R last c f -> chk n p (f.map (gq R c)) = true -> ∃ f',Sim R last c' f' /\ fin (f'.map (gq R c')) = true:=by
 induction h with
 | done n c =>
  intro f S q
  refine ⟨f,S,?_⟩
  cases n with
  | zero=>exact q
  | succ n=>exact q
 | @pick n x t c k s c' hk hs h ih =>
  intro f S q
  obtain ⟨q1,q2⟩:=(Bool.and_eq_true _ _).mp (show (every (f.map (gq R c)).length (fun i=>!Nat.beq (atU i (f.map (gq R c))).1 x || chk n (shp (atU i (f.map (gq R c))).2.1 ++ t) (inc i (f.map (gq R c)))) && every 13 (fun b=>chk n (shp b ++ t) (f.map (gq R c) ++ [(x,b,1)]))) = true from q)
  have hkl:=(List.getElem?_eq_some_iff.mp hk).1
  have hd:=zme hk
  by_cases hf:k ∈ f
  ·obtain ⟨i,hi,e⟩:=List.getElem_of_mem hf
   have hi2:f[i]? = some k:=by rw [List.getElem?_eq_getElem hi,e]
   have ha:atU i (f.map (gq R c)) = (x,s,c.getD k 0):=by
    unfold atU
    rw [List.getD_eq_getElem?_getD,List.getElem?_map,hi2]
    show gq R c k = _
    unfold gq
    rw [hd]
   have:=zc3 q1 i (by rw [List.length_map]; exact hi)
   rw [ha] at this
   have b:Nat.beq x x = true:=by rw [Nat.beq_eq]
   rw [b] at this
   rw [<- zs4 S.l f i k hi2 S.n hkl] at this
   exact ih (S.old hf) this
  ·have hz:=S.z k hkl hf
   have q3:=zc3 q2 s hs
   have e:(f ++ [k]).map (gq R (c.set k (c.getD k 0 + 1))) = f.map (gq R c) ++ [(x,s,1)]:=by
    have em:f.map (gq R (c.set k (c.getD k 0 + 1))) = f.map (gq R c):=List.map_congr_left fun a ha=>zdz (k:=k) (j:=a) fun e=>hf (e ▸ ha)
    rw [List.map_append,em,List.map_cons,z0g (S.l ▸ hkl),hd,hz]
    rfl
   rw [<- e] at q3
   refine ih ⟨by rw [List.length_set]; exact S.l,?_,fun j hj=>?_,fun j hj hn=>?_,fun x hx=>?_⟩ q3
   ·rw [List.nodup_append]
    exact ⟨S.n,List.nodup_cons.mpr ⟨List.not_mem_nil,List.nodup_nil⟩,fun a ha b hb=>by cases List.mem_singleton.mp hb; exact fun e=>hf (e ▸ ha)⟩
   ·rcases List.mem_append.mp hj with hj | hj
    ·exact S.lt j hj
    ·cases List.mem_singleton.mp hj; exact hkl
   ·rw [znd fun e=>hn (List.mem_append_right _ (List.mem_singleton.mpr e.symm))]
    exact S.z j hj fun z=>hn (List.mem_append_left _ z)
   ·have:=S.h x hx
    rw [List.getElem?_append_left (List.getElem?_eq_some_iff.mp this).1]
    exact this
 | @leaf x t c c' hx h ih =>
  intro f S q
  have hl:=S.h x hx
  have hm:=List.mem_of_getElem? hl
  have q2:chk 0 t (inc x (f.map (gq R c))) = true:=q
  rw [<- zs4 S.l f x (last x) hl S.n (S.lt _ hm)] at q2
  exact ih (S.old hm) q2
theorem zxl (u:U):∀ (i:Nat) (q:Q),u[i]? = some q -> ∃ rest,u.Perm (q :: rest) /\ (inc i u).Perm ((q.1,q.2.1,q.2.2 + 1) :: rest):=by
 induction u with
 | nil=>intro i q h; cases h
 | cons a u ih =>
  intro i q h
  cases i with
  | zero=>cases h; exact ⟨u,List.Perm.refl _,List.Perm.refl _⟩
  | succ i =>
   obtain ⟨rest,p1,p2⟩:=ih i q h
   exact ⟨a :: rest,(p1.cons a).trans (List.Perm.swap _ _ _),(p2.cons a).trans (List.Perm.swap _ _ _)⟩
theorem bag_ok {R:Ru} {last:Nat -> Nat} {n:Nat} {p c c' f:List Nat} (h:Run R last n p c c') (S:Sim R last c f) (q:chk n p (f.map (gq R c)) = true) :
  ok (nz (zipU R c')) = true /\ ∀ k x,x < 3 -> R[k]? = some (x,slf x) -> ok (nz (zipU R (c'.set k (c'.getD k 0 + 1)))) = true:=by
 obtain ⟨f',S',q'⟩:=run_ok h S q
 have p:=nz_f f' S'.l S'.n S'.lt S'.z
 obtain ⟨a,b⟩:=(Bool.and_eq_true _ _).mp (show (ok (nz (f'.map (gq R c'))) && (every 3 (fun x=>ok ((x,slf x,1) :: nz (f'.map (gq R c')))) && every (nz (f'.map (gq R c'))).length (fun i=>!isSelf (atU i (nz (f'.map (gq R c')))) || ok (inc i (nz (f'.map (gq R c'))))))) = true from q')
 obtain ⟨b1,b2⟩:=(Bool.and_eq_true _ _).mp b
 refine ⟨by rw [zl4 p]; exact a,fun k x hx hk=>?_⟩
 have hkl:=(List.getElem?_eq_some_iff.mp hk).1
 have hd:=zme hk
 obtain ⟨rest,p1,p2⟩:=zjn S'.l hkl
 have p2':=zii (p2 (c'.getD k 0 + 1))
 rw [hd,zbg] at p2'
 have z1:nzq (x,slf x,c'.getD k 0 + 1) = true:=Nat.blt_eq.mpr (Nat.succ_pos _)
 rw [if_pos z1] at p2'
 have p1':=zii p1
 have g:gq R c' k = (x,slf x,c'.getD k 0):=by unfold gq; rw [hd]
 rw [g,zbg] at p1'
 by_cases h0:c'.getD k 0 = 0
 ·rw [h0] at p1' p2'
  rw [if_neg (show ¬ nzq (x,slf x,0) = true from Bool.false_ne_true)] at p1'
  have e:(nz (zipU R (c'.set k (0 + 1)))).Perm ((x,slf x,1) :: nz (f'.map (gq R c'))):=p2'.trans ((p1'.symm.trans p).cons _)
  rw [h0,zl4 e]
  exact zc3 b1 x hx
 ·have z2:nzq (x,slf x,c'.getD k 0) = true:=Nat.blt_eq.mpr (Nat.pos_of_ne_zero h0)
  rw [if_pos z2] at p1'
  have p3:=p1'.symm.trans p
  have hm:(x,slf x,c'.getD k 0) ∈ nz (f'.map (gq R c')):=p3.subset List.mem_cons_self
  obtain ⟨i,hi,e⟩:=List.getElem_of_mem hm
  have hi2:(nz (f'.map (gq R c')))[i]? = some (x,slf x,c'.getD k 0):=by rw [List.getElem?_eq_getElem hi,e]
  obtain ⟨rest2,r1,r2⟩:=zxl _ i _ hi2
  have e3:(nz rest).Perm rest2:=(p3.trans r1).cons_inv
  have w:=zc3 b2 i hi
  have ha:atU i (nz (f'.map (gq R c'))) = (x,slf x,c'.getD k 0):=by unfold atU; rw [List.getD_eq_getElem?_getD,hi2]; rfl
  rw [ha] at w
  have is:isSelf (x,slf x,c'.getD k 0) = true:=by unfold isSelf; rw [Nat.beq_eq]
  rw [is] at w
  rw [zl4 (p2'.trans ((e3.cons _).trans r2.symm))]
  exact w
end L3
end Mine
end
section
namespace Mine
namespace L3
noncomputable def pcd (l:List Nat):Nat:=List.rec 0 (fun x _ ih=>Nat.add (Nat.succ x) (Nat.mul 4 ih)) l
noncomputable def ccd (c:List Nat):Nat:=List.rec 0 (fun d _ ih=>Nat.add d (Nat.mul 16 ih)) c
noncomputable def frc (S:Nat) (f:Nat -> Nat):Nat:=Nat.rec 0 (fun m _=>f m) (Nat.add S 1)
noncomputable def lp4 (s:Nat):Nat:=[1,4,4,4,16,16,16,16,16,16,16,16,16].getD s 1
noncomputable def loop2 (ih:Nat -> Nat) (P N:Nat) (u:U):Nat -> Nat :=
 List.rec (motive:=fun _=>Nat -> Nat) (fun _=>0) (fun q _ rest w=>Nat.add (Bool.rec 0 (frc (Nat.add (Nat.mul 1048576 (Nat.sub N w)) (Nat.add (pcd (shp q.2.1)) (Nat.mul (lp4 q.2.1) (Nat.div P 4)))) ih) (Nat.beq (Nat.succ q.1) (Nat.mod P 4) && Nat.blt 0 (Nat.mod (Nat.div N w) 16))) (rest (Nat.mul 16 w))) u
noncomputable def T2 (u:U) (n:Nat):Nat -> Nat:=Nat.rec (fun S=>Bool.rec 0 1 (Nat.beq (Nat.mod S 1048576) 0)) (fun _ ih S=>frc (Nat.mod S 1048576) fun P=>frc (Nat.div S 1048576) fun N=>loop2 ih P N u 1) n
theorem frc_eq (S:Nat) (f:Nat -> Nat):frc S f = f S:=rfl
theorem T_long (n:Nat):∀ (p:List Nat) (u:U),n < p.length -> T n p u = 0:=by
 intro p u h
 cases p with
 | nil=>exact absurd h (Nat.not_lt_zero _)
 | cons x t =>
  cases n with
  | zero=>rfl
  | succ k =>
   rw [zlb,zqw]
   refine sum0 fun a ha=>?_
   obtain ⟨q,_,rfl⟩:=List.mem_map.mp ha
   unfold Tq
   have:Nat.ble ((shp q.2.1).length + t.length) k = false:=Bool.eq_false_iff.mpr fun z=>by
    have:=Nat.le_of_ble_eq_true z
    rw [List.length_cons] at h
    lia
   rw [this,Bool.and_false,Bool.and_false]
noncomputable def gqT (k x:Nat) (t:List Nat) (u:U) (q:Q):Nat:=Bool.rec 0 (T k (shp q.2.1 ++ t) ((q.1,q.2.1,q.2.2 - 1) :: era q u)) (Nat.beq q.1 x && Nat.blt 0 q.2.2)
theorem T_open (k x:Nat) (t:List Nat) (u:U):T (k + 1) (x :: t) u = sm (gqT k x t u) u:=by
 rw [zlb]
 refine znb fun q _=>?_
 unfold Tq gqT
 cases Nat.beq q.1 x with
 | false=>rfl
 | true =>
  cases Nat.blt 0 q.2.2 with
  | false=>rfl
  | true =>
   cases h:Nat.ble ((shp q.2.1).length + t.length) k with
   | true=>rfl
   | false =>
    refine (T_long k _ _ ?_).symm
    rw [List.length_append]
    exact Nat.lt_of_not_le fun z=>by rw [Nat.ble_eq.mpr z] at h; cases h
theorem zc0 (x:Nat) (l:List Nat):pcd (x :: l) = x + 1 + 4 * pcd l:=rfl
theorem zd5 (d:Nat) (c:List Nat):ccd (d :: c) = d + 16 * ccd c:=rfl
theorem z2v (a b:List Nat):pcd (a ++ b) = pcd a + 4 ^ a.length * pcd b:=by
 induction a with
 | nil=>rw [List.nil_append,List.length_nil,Nat.pow_zero,Nat.one_mul]; exact (Nat.zero_add _).symm
 | cons x a ih =>
  rw [List.cons_append,zc0,zc0,ih,List.length_cons,Nat.pow_succ,Nat.mul_add,<- Nat.add_assoc,<- Nat.mul_assoc,Nat.mul_comm 4 (4 ^ a.length)]
theorem zz2 (l:List Nat) (h:∀ x ∈ l,x < 3):pcd l < 4 ^ l.length:=by
 induction l with
 | nil=>exact Nat.one_pos
 | cons x l ih =>
  have h1:=h x List.mem_cons_self
  have h2:=ih fun y hy=>h y (List.mem_cons_of_mem _ hy)
  rw [zc0,List.length_cons,Nat.pow_succ]
  lia
theorem ccd_at (c:List Nat):∀ k,(∀ d ∈ c,d < 16) -> ccd c / 16 ^ k % 16 = c.getD k 0:=by
 induction c with
 | nil=>intro k _; rw [show ccd [] = 0 from rfl,Nat.zero_div]; rfl
 | cons d c ih =>
  intro k h
  have hd:=h d List.mem_cons_self
  rw [zd5]
  cases k with
  | zero=>rw [Nat.pow_zero,Nat.div_one]; show _ = d; lia
  | succ k =>
   rw [Nat.pow_succ,Nat.mul_comm (16 ^ k),<- Nat.div_div_eq_div_mul,show (d + 16 * ccd c) / 16 = ccd c by lia]
   exact ih k fun e he=>h e (List.mem_cons_of_mem _ he)
theorem z4i (c:List Nat):∀ k m,c[k]? = some (m + 1) -> ccd (decK k c) + 16 ^ k = ccd c:=by
 unfold decK
 induction c with
 | nil=>intro k m h; cases h
 | cons d c ih =>
  intro k m h
  cases k with
  | zero =>
   cases h
   show ccd ((m + 1 - 1) :: c) + 16 ^ 0 = ccd ((m + 1) :: c)
   rw [zd5,zd5,Nat.pow_zero]; lia
  | succ k =>
   have i:=ih k m h
   show ccd (d :: c.set k (c.getD k 0 - 1)) + 16 ^ (k + 1) = ccd (d :: c)
   rw [zd5,zd5,Nat.pow_succ]; lia
theorem z0b:∀ s:Fin 13,lp4 s.val = 4 ^ (shp s.val).length /\ (shp s.val).length <= 2 /\ (shp s.val).all (· < 3) = true:=by decide +kernel
noncomputable def rsU (u:U):Ru:=u.map fun q=>(q.1,q.2.1)
noncomputable def ctU (u:U):List Nat:=u.map fun q=>q.2.2
theorem zqb (u:U):zipU (rsU u) (ctU u) = u:=by
 unfold zipU rsU ctU
 induction u with
 | nil=>rfl
 | cons q u ih=>rw [List.map_cons,List.map_cons,List.zipWith_cons_cons,ih]
theorem zip_drop (R:Ru) (c:List Nat) (i:Nat):zipU (R.drop i) (c.drop i) = (zipU R c).drop i:=by unfold zipU; rw [List.drop_zipWith]
theorem z3i {u:U} {n x:Nat} {t c:List Nat} {ih:Nat -> Nat} (hx:x < 3) (hs:∀ q ∈ u,q.2.1 < 13) (hc:c.length = u.length) (h16:∀ d ∈ c,d < 16)
  (H:∀ k q,u[k]? = some q -> 0 < c.getD k 0 -> ih (pcd (shp q.2.1 ++ t) + 1048576 * ccd (decK k c)) = T n (shp q.2.1 ++ t) (zipU (rsU u) (decK k c))) (v:U):∀ i,u.drop i = v ->
  loop2 ih (pcd (x :: t)) (ccd c) v (16 ^ i) = sm (gqT n x t (zipU (rsU u) c)) ((zipU (rsU u) c).drop i):=by
 induction v with
 | nil =>
  intro i e
  have:(zipU (rsU u) c).drop i = []:=List.drop_eq_nil_iff.mpr (by
   have:=List.drop_eq_nil_iff.mp e
   unfold zipU rsU
   rw [List.length_zipWith,List.length_map]
   lia)
  rw [this]; rfl
 | cons q v ihv =>
  intro i e
  have hk:u[i]? = some q:=by
   have:(u.drop i)[0]? = some q:=by rw [e]; rfl
   rw [List.getElem?_drop] at this; exact this
  have hi:=(List.getElem?_eq_some_iff.mp hk).1
  have e2:u.drop (i + 1) = v:=by rw [<- List.drop_drop,e]; rfl
  have hR:(rsU u)[i]? = some (q.1,q.2.1):=by unfold rsU; rw [List.getElem?_map,hk]; rfl
  have hC:c[i]? = some (c.getD i 0):=by rw [List.getD_eq_getElem?_getD,List.getElem?_eq_getElem (hc ▸ hi)]; rfl
  have hz:(zipU (rsU u) c)[i]? = some (q.1,q.2.1,c.getD i 0):=by unfold zipU; rw [List.getElem?_zipWith,hR,hC]
  have hd:(zipU (rsU u) c).drop i = (q.1,q.2.1,c.getD i 0) :: (zipU (rsU u) c).drop (i + 1):=by
   obtain ⟨h1,h2⟩:=List.getElem?_eq_some_iff.mp hz
   rw [List.drop_eq_getElem_cons h1,h2]
  have hq:=hs q (List.mem_of_getElem? hk)
  have l4:=(z0b ⟨_,hq⟩).1
  rw [hd,zam,<- ihv (i + 1) e2]
  show Nat.add (Bool.rec 0 (ih (1048576 * (ccd c - 16 ^ i) + (pcd (shp q.2.1) + lp4 q.2.1 * (pcd (x :: t) / 4)))) (Nat.beq (Nat.succ q.1) (pcd (x :: t) % 4) && Nat.blt 0 (ccd c / 16 ^ i % 16))) (loop2 ih (pcd (x :: t)) (ccd c) v (16 * 16 ^ i)) = _
  have p4:pcd (x :: t) % 4 = x + 1:=by rw [zc0]; lia
  have d4:pcd (x :: t) / 4 = pcd t:=by rw [zc0]; lia
  rw [p4,d4,ccd_at c i h16,Nat.mul_comm 16 (16 ^ i),<- Nat.pow_succ]
  show Nat.add _ _ = Nat.add _ _
  refine congrArg (fun z=>Nat.add z _) ?_
  unfold gqT
  show @Bool.rec (fun _=>Nat) 0 _ (Nat.beq q.1 x && Nat.blt 0 (c.getD i 0)) = @Bool.rec (fun _=>Nat) 0 _ (Nat.beq q.1 x && Nat.blt 0 (c.getD i 0))
  cases Nat.beq q.1 x with
  | false=>rfl
  | true =>
   cases hb:Nat.blt 0 (c.getD i 0) with
   | false=>rfl
   | true =>
    have pos:=Nat.blt_eq.mp hb
    obtain ⟨m,hm⟩:=Nat.exists_eq_succ_of_ne_zero (Nat.ne_of_gt pos)
    have dc:=z4i c i m (by rw [hC,hm])
    have es:1048576 * (ccd c - 16 ^ i) + (pcd (shp q.2.1) + lp4 q.2.1 * pcd t) = pcd (shp q.2.1 ++ t) + 1048576 * ccd (decK i c):=by
     rw [z2v,<- dc,Nat.add_sub_cancel,show lp4 q.2.1 = 4 ^ (shp q.2.1).length from l4,Nat.add_comm]
    show ih _ = T n _ _
    rw [es,H i q hk pos]
    exact zu7 _ _ (zqa (rsU u) c i _ _ hR hC)
theorem T2_eq {u:U} (hs:∀ q ∈ u,q.2.1 < 13) (n:Nat):∀ (p c:List Nat),p.length + n <= 10 -> (∀ x ∈ p,x < 3) -> c.length = u.length -> (∀ d ∈ c,d < 16) -> T2 u n (pcd p + 1048576 * ccd c) = T n p (zipU (rsU u) c):=by
 induction n with
 | zero =>
  intro p c hn hp hc h16
  have hl:pcd p < 1048576:=Nat.lt_of_lt_of_le (zz2 p hp) (Nat.le_trans (Nat.pow_le_pow_right (by decide) (show p.length <= 10 by lia)) (by decide +kernel))
  show @Bool.rec (fun _=>Nat) 0 1 (Nat.beq ((pcd p + 1048576 * ccd c) % 1048576) 0) = _
  rw [Nat.add_mul_mod_self_left,Nat.mod_eq_of_lt hl]
  cases p with
  | nil=>rfl
  | cons x t=>rw [zc0,show x + 1 + 4 * pcd t = Nat.succ (x + 4 * pcd t) by lia]; rfl
 | succ n ih =>
  intro p c hn hp hc h16
  have hl:pcd p < 1048576:=Nat.lt_of_lt_of_le (zz2 p hp) (Nat.le_trans (Nat.pow_le_pow_right (by decide) (show p.length <= 10 by lia)) (by decide +kernel))
  show loop2 (T2 u n) ((pcd p + 1048576 * ccd c) % 1048576) ((pcd p + 1048576 * ccd c) / 1048576) u 1 = _
  rw [Nat.add_mul_mod_self_left,Nat.mod_eq_of_lt hl,Nat.add_mul_div_left _ _ (by decide),Nat.div_eq_of_lt hl,Nat.zero_add]
  cases p with
  | nil =>
   rw [T_nil]
   have:∀ (v:U) (w:Nat),loop2 (T2 u n) (pcd []) (ccd c) v w = 0:=by
    intro v
    induction v with
    | nil=>exact fun w=>rfl
    | cons q v iv=>intro w; show Nat.add 0 (loop2 (T2 u n) (pcd []) (ccd c) v (Nat.mul 16 w)) = 0; rw [iv]
   exact this u 1
  | cons x t =>
   rw [T_open]
   have hx:=hp x List.mem_cons_self
   refine z3i (u:=u) (n:=n) (x:=x) (t:=t) (c:=c) (ih:=T2 u n) hx hs hc h16 (fun k q hk h0=>?_) u 0 rfl
   have hq:=(z0b ⟨_,hs q (List.mem_of_getElem? hk)⟩).2
   have l2:(shp q.2.1).length <= 2:=hq.1
   refine ih _ _ ?_ (fun y hy=>?_) ?_ (fun d hd=>?_)
   ·rw [List.length_append]; rw [List.length_cons] at hn; lia
   ·rcases List.mem_append.mp hy with hy | hy
    ·exact of_decide_eq_true (List.all_eq_true.mp hq.2 y hy)
    ·exact hp y (List.mem_cons_of_mem _ hy)
   ·unfold decK; rw [List.length_set]; exact hc
   ·unfold decK at hd
    rcases List.mem_or_eq_of_mem_set hd with hd | hd
    ·exact h16 d hd
    ·have:c.getD k 0 < 16:=by
      have hlt:=(List.getElem?_eq_some_iff.mp hk).1
      rw [List.getD_eq_getElem?_getD,List.getElem?_eq_getElem (hc ▸ hlt)]
      exact h16 _ (List.getElem_mem _)
     lia
end L3
end Mine
end
section
namespace Mine
namespace L3
noncomputable def small (u:U):Bool:=List.rec true (fun q _ ih=>Nat.blt q.2.1 13 && ih) u
noncomputable def okF (u:U):Bool:=(Nat.ble (tot u) 9 && small u) &&
 Nat.beq (((md u 1).1 * (md u 2).1 + (md u 1).2 * (md u 2).2) * prod3 u)
  (T2 u (tot u) (Nat.add 1 (Nat.mul 1048576 (ccd (ctU u)))) * below u + ((md u 1).1 * (md u 2).2 + (md u 1).2 * (md u 2).1 + born u 1 2 * born u 2 1) * prod3 u)
theorem zvy {u:U} (h:small u = true):∀ q ∈ u,q.2.1 < 13:=by
 induction u with
 | nil=>exact fun q hq=>nomatch hq
 | cons p u ih =>
  obtain ⟨h1,h2⟩:=(Bool.and_eq_true _ _).mp (show (Nat.blt p.2.1 13 && small u) = true from h)
  intro q hq
  rcases List.mem_cons.mp hq with e | hq
  ·subst e; exact Nat.blt_eq.mp h1
  ·exact ih h2 q hq
theorem ct_tot (u:U):∀ d ∈ ctU u,d <= tot u:=by
 induction u with
 | nil=>exact fun d hd=>nomatch hd
 | cons p u ih =>
  intro d hd
  show d <= sm _ (p :: u)
  rw [zam]
  rcases List.mem_cons.mp hd with e | hd
  ·subst e; exact Nat.le_add_right _ _
  ·exact Nat.le_trans (ih d hd) (Nat.le_add_left _ _)
theorem zr4 {u:U} (h:okF u = true):ok u = true:=by
 obtain ⟨h1,h2⟩:=(Bool.and_eq_true _ _).mp h
 obtain ⟨h3,h4⟩:=(Bool.and_eq_true _ _).mp h1
 have h9:=Nat.le_of_ble_eq_true h3
 have e:=T2_eq (u:=u) (zvy h4) (tot u) [0] (ctU u) (by show 1 + tot u <= 10; lia) (fun x hx=>by cases List.mem_singleton.mp hx; decide) (List.length_map _) (fun d hd=>by have:=ct_tot u d hd; lia)
 rw [zqb] at e
 unfold ok
 rw [<- e]
 exact h2
noncomputable def fin0F (u:U):Bool:=okF u && (every 3 (fun x=>okF ((x,slf x,1) :: u)) && every u.length (fun i=>!isSelf (atU i u) || okF (inc i u)))
noncomputable def finF (u:U):Bool:=fin0F (nz u)
noncomputable def chkF (n:Nat):List Nat -> U -> Bool :=
 Nat.rec (fun p u=>finF (leafs p u)) (fun _ ih p u=>List.rec (finF u) (fun x t _ =>
  every u.length (fun i=>!Nat.beq (atU i u).1 x || ih (shp (atU i u).2.1 ++ t) (inc i u)) && every 13 (fun b=>ih (shp b ++ t) (u ++ [(x,b,1)]))) p) n
theorem zc2 {n:Nat} {f g:Nat -> Bool} (h:∀ k,f k = true -> g k = true):every n f = true -> every n g = true:=by
 induction n with
 | zero=>exact fun z=>z
 | succ n ih =>
  intro z
  obtain ⟨h1,h2⟩:=(Bool.and_eq_true _ _).mp (show (f n && every n f) = true from z)
  exact (Bool.and_eq_true _ _).mpr ⟨h n h1,ih h2⟩
theorem zrz {a b c:Bool} (h:b = true -> c = true):(a || b) = true -> (a || c) = true:=by
 cases a with
 | true=>exact fun _=>rfl
 | false=>exact h
theorem znt {u:U} (h:finF u = true):fin u = true:=by
 obtain ⟨h1,h2⟩:=(Bool.and_eq_true _ _).mp (show (okF (nz u) && (every 3 (fun x=>okF ((x,slf x,1) :: nz u)) && every (nz u).length (fun i=>!isSelf (atU i (nz u)) || okF (inc i (nz u))))) = true from h)
 obtain ⟨h3,h4⟩:=(Bool.and_eq_true _ _).mp h2
 exact (Bool.and_eq_true _ _).mpr ⟨zr4 h1,(Bool.and_eq_true _ _).mpr ⟨zc2 (fun _ z=>zr4 z) h3,zc2 (fun _ z=>zrz zr4 z) h4⟩⟩
theorem zyv (n:Nat):∀ (p:List Nat) (u:U),chkF n p u = true -> chk n p u = true:=by
 induction n with
 | zero=>exact fun p u h=>znt h
 | succ n ih =>
  intro p u h
  cases p with
  | nil=>exact znt (u:=u) h
  | cons x t =>
   obtain ⟨h1,h2⟩:=(Bool.and_eq_true _ _).mp (show (every u.length (fun i=>!Nat.beq (atU i u).1 x || chkF n (shp (atU i u).2.1 ++ t) (inc i u)) && every 13 (fun b=>chkF n (shp b ++ t) (u ++ [(x,b,1)]))) = true from h)
   exact (Bool.and_eq_true _ _).mpr ⟨zc2 (fun _ z=>zrz (ih _ _) z) h1,zc2 (fun _ z=>ih _ _ z) h2⟩
end L3
end Mine
end
section
namespace Mine
namespace L3
noncomputable def ck (b:Nat):Bool:=chkF 2 (shp b ++ []) (u0 ++ [(0,b,1)])
noncomputable def pc (b x:Nat) (t:List Nat) (d:Nat):Bool:=chkF 1 (shp d ++ t) ((u0 ++ [(0,b,1)]) ++ [(x,d,1)])
noncomputable def pe (b x:Nat) (t:List Nat):Bool:=every (u0 ++ [(0,b,1)]).length fun i=>!Nat.beq (atU i (u0 ++ [(0,b,1)])).1 x || chkF 1 (shp (atU i (u0 ++ [(0,b,1)])).2.1 ++ t) (inc i (u0 ++ [(0,b,1)]))
theorem every13 (f:Nat -> Bool) (h0:f 0 = true) (h1:f 1 = true) (h2:f 2 = true) (h3:f 3 = true) (h4:f 4 = true) (h5:f 5 = true) (h6:f 6 = true) (h7:f 7 = true) (h8:f 8 = true) (h9:f 9 = true) (h10:f 10 = true) (h11:f 11 = true) (h12:f 12 = true):every 13 f = true:=by
 show (f 12 && (f 11 && (f 10 && (f 9 && (f 8 && (f 7 && (f 6 && (f 5 && (f 4 && (f 3 && (f 2 && (f 1 && (f 0 && true))))))))))))) = true
 rw [h0,h1,h2,h3,h4,h5,h6,h7,h8,h9,h10,h11,h12]
 rfl
theorem ck_of {b x:Nat} {t:List Nat} (h:shp b ++ [] = x :: t) (he:pe b x t = true) (hp:every 13 (pc b x t) = true):ck b = true:=by
 unfold ck
 rw [h]
 exact (Bool.and_eq_true _ _).mpr ⟨he,hp⟩
theorem ck0:ck 0 = true:=by decide +kernel
theorem pe1:pe 1 0 [] = true:=by decide +kernel
theorem pc1x0:pc 1 0 [] 0 = true:=by decide +kernel
theorem pc1x1:pc 1 0 [] 1 = true:=by decide +kernel
theorem pc1x2:pc 1 0 [] 2 = true:=by decide +kernel
theorem pc1x3:pc 1 0 [] 3 = true:=by decide +kernel
theorem pc1x4:pc 1 0 [] 4 = true:=by decide +kernel
theorem pc1x5:pc 1 0 [] 5 = true:=by decide +kernel
theorem pc1x6:pc 1 0 [] 6 = true:=by decide +kernel
theorem pc1x7:pc 1 0 [] 7 = true:=by decide +kernel
theorem pc1x8:pc 1 0 [] 8 = true:=by decide +kernel
theorem pc1x9:pc 1 0 [] 9 = true:=by decide +kernel
theorem pc1x10:pc 1 0 [] 10 = true:=by decide +kernel
theorem pc1x11:pc 1 0 [] 11 = true:=by decide +kernel
theorem pc1x12:pc 1 0 [] 12 = true:=by decide +kernel
theorem ck1:ck 1 = true:=ck_of rfl pe1 (every13 _ pc1x0 pc1x1 pc1x2 pc1x3 pc1x4 pc1x5 pc1x6 pc1x7 pc1x8 pc1x9 pc1x10 pc1x11 pc1x12)
theorem pe2:pe 2 1 [] = true:=by decide +kernel
theorem pc2x0:pc 2 1 [] 0 = true:=by decide +kernel
theorem pc2x1:pc 2 1 [] 1 = true:=by decide +kernel
theorem pc2x2:pc 2 1 [] 2 = true:=by decide +kernel
theorem pc2x3:pc 2 1 [] 3 = true:=by decide +kernel
theorem pc2x4:pc 2 1 [] 4 = true:=by decide +kernel
theorem pc2x5:pc 2 1 [] 5 = true:=by decide +kernel
theorem pc2x6:pc 2 1 [] 6 = true:=by decide +kernel
theorem pc2x7:pc 2 1 [] 7 = true:=by decide +kernel
theorem pc2x8:pc 2 1 [] 8 = true:=by decide +kernel
theorem pc2x9:pc 2 1 [] 9 = true:=by decide +kernel
theorem pc2x10:pc 2 1 [] 10 = true:=by decide +kernel
theorem pc2x11:pc 2 1 [] 11 = true:=by decide +kernel
theorem pc2x12:pc 2 1 [] 12 = true:=by decide +kernel
theorem ck2:ck 2 = true:=ck_of rfl pe2 (every13 _ pc2x0 pc2x1 pc2x2 pc2x3 pc2x4 pc2x5 pc2x6 pc2x7 pc2x8 pc2x9 pc2x10 pc2x11 pc2x12)
theorem pe3:pe 3 2 [] = true:=by decide +kernel
theorem pc3x0:pc 3 2 [] 0 = true:=by decide +kernel
theorem pc3x1:pc 3 2 [] 1 = true:=by decide +kernel
theorem pc3x2:pc 3 2 [] 2 = true:=by decide +kernel
theorem pc3x3:pc 3 2 [] 3 = true:=by decide +kernel
theorem pc3x4:pc 3 2 [] 4 = true:=by decide +kernel
theorem pc3x5:pc 3 2 [] 5 = true:=by decide +kernel
theorem pc3x6:pc 3 2 [] 6 = true:=by decide +kernel
theorem pc3x7:pc 3 2 [] 7 = true:=by decide +kernel
theorem pc3x8:pc 3 2 [] 8 = true:=by decide +kernel
theorem pc3x9:pc 3 2 [] 9 = true:=by decide +kernel
theorem pc3x10:pc 3 2 [] 10 = true:=by decide +kernel
theorem pc3x11:pc 3 2 [] 11 = true:=by decide +kernel
theorem pc3x12:pc 3 2 [] 12 = true:=by decide +kernel
theorem ck3:ck 3 = true:=ck_of rfl pe3 (every13 _ pc3x0 pc3x1 pc3x2 pc3x3 pc3x4 pc3x5 pc3x6 pc3x7 pc3x8 pc3x9 pc3x10 pc3x11 pc3x12)
theorem pe4:pe 4 0 [0] = true:=by decide +kernel
theorem pc4x0:pc 4 0 [0] 0 = true:=by decide +kernel
theorem pc4x1:pc 4 0 [0] 1 = true:=by decide +kernel
theorem pc4x2:pc 4 0 [0] 2 = true:=by decide +kernel
theorem pc4x3:pc 4 0 [0] 3 = true:=by decide +kernel
theorem pc4x4:pc 4 0 [0] 4 = true:=by decide +kernel
theorem pc4x5:pc 4 0 [0] 5 = true:=by decide +kernel
theorem pc4x6:pc 4 0 [0] 6 = true:=by decide +kernel
theorem pc4x7:pc 4 0 [0] 7 = true:=by decide +kernel
theorem pc4x8:pc 4 0 [0] 8 = true:=by decide +kernel
theorem pc4x9:pc 4 0 [0] 9 = true:=by decide +kernel
theorem pc4x10:pc 4 0 [0] 10 = true:=by decide +kernel
theorem pc4x11:pc 4 0 [0] 11 = true:=by decide +kernel
theorem pc4x12:pc 4 0 [0] 12 = true:=by decide +kernel
theorem ck4:ck 4 = true:=ck_of rfl pe4 (every13 _ pc4x0 pc4x1 pc4x2 pc4x3 pc4x4 pc4x5 pc4x6 pc4x7 pc4x8 pc4x9 pc4x10 pc4x11 pc4x12)
theorem pe5:pe 5 0 [1] = true:=by decide +kernel
theorem pc5x0:pc 5 0 [1] 0 = true:=by decide +kernel
theorem pc5x1:pc 5 0 [1] 1 = true:=by decide +kernel
theorem pc5x2:pc 5 0 [1] 2 = true:=by decide +kernel
theorem pc5x3:pc 5 0 [1] 3 = true:=by decide +kernel
theorem pc5x4:pc 5 0 [1] 4 = true:=by decide +kernel
theorem pc5x5:pc 5 0 [1] 5 = true:=by decide +kernel
theorem pc5x6:pc 5 0 [1] 6 = true:=by decide +kernel
theorem pc5x7:pc 5 0 [1] 7 = true:=by decide +kernel
theorem pc5x8:pc 5 0 [1] 8 = true:=by decide +kernel
theorem pc5x9:pc 5 0 [1] 9 = true:=by decide +kernel
theorem pc5x10:pc 5 0 [1] 10 = true:=by decide +kernel
theorem pc5x11:pc 5 0 [1] 11 = true:=by decide +kernel
theorem pc5x12:pc 5 0 [1] 12 = true:=by decide +kernel
theorem ck5:ck 5 = true:=ck_of rfl pe5 (every13 _ pc5x0 pc5x1 pc5x2 pc5x3 pc5x4 pc5x5 pc5x6 pc5x7 pc5x8 pc5x9 pc5x10 pc5x11 pc5x12)
theorem pe6:pe 6 0 [2] = true:=by decide +kernel
theorem pc6x0:pc 6 0 [2] 0 = true:=by decide +kernel
theorem pc6x1:pc 6 0 [2] 1 = true:=by decide +kernel
theorem pc6x2:pc 6 0 [2] 2 = true:=by decide +kernel
theorem pc6x3:pc 6 0 [2] 3 = true:=by decide +kernel
theorem pc6x4:pc 6 0 [2] 4 = true:=by decide +kernel
theorem pc6x5:pc 6 0 [2] 5 = true:=by decide +kernel
theorem pc6x6:pc 6 0 [2] 6 = true:=by decide +kernel
theorem pc6x7:pc 6 0 [2] 7 = true:=by decide +kernel
theorem pc6x8:pc 6 0 [2] 8 = true:=by decide +kernel
theorem pc6x9:pc 6 0 [2] 9 = true:=by decide +kernel
theorem pc6x10:pc 6 0 [2] 10 = true:=by decide +kernel
theorem pc6x11:pc 6 0 [2] 11 = true:=by decide +kernel
theorem pc6x12:pc 6 0 [2] 12 = true:=by decide +kernel
theorem ck6:ck 6 = true:=ck_of rfl pe6 (every13 _ pc6x0 pc6x1 pc6x2 pc6x3 pc6x4 pc6x5 pc6x6 pc6x7 pc6x8 pc6x9 pc6x10 pc6x11 pc6x12)
theorem pe7:pe 7 1 [0] = true:=by decide +kernel
theorem pc7x0:pc 7 1 [0] 0 = true:=by decide +kernel
theorem pc7x1:pc 7 1 [0] 1 = true:=by decide +kernel
theorem pc7x2:pc 7 1 [0] 2 = true:=by decide +kernel
theorem pc7x3:pc 7 1 [0] 3 = true:=by decide +kernel
theorem pc7x4:pc 7 1 [0] 4 = true:=by decide +kernel
theorem pc7x5:pc 7 1 [0] 5 = true:=by decide +kernel
theorem pc7x6:pc 7 1 [0] 6 = true:=by decide +kernel
theorem pc7x7:pc 7 1 [0] 7 = true:=by decide +kernel
theorem pc7x8:pc 7 1 [0] 8 = true:=by decide +kernel
theorem pc7x9:pc 7 1 [0] 9 = true:=by decide +kernel
theorem pc7x10:pc 7 1 [0] 10 = true:=by decide +kernel
theorem pc7x11:pc 7 1 [0] 11 = true:=by decide +kernel
theorem pc7x12:pc 7 1 [0] 12 = true:=by decide +kernel
theorem ck7:ck 7 = true:=ck_of rfl pe7 (every13 _ pc7x0 pc7x1 pc7x2 pc7x3 pc7x4 pc7x5 pc7x6 pc7x7 pc7x8 pc7x9 pc7x10 pc7x11 pc7x12)
theorem pe8:pe 8 1 [1] = true:=by decide +kernel
theorem pc8x0:pc 8 1 [1] 0 = true:=by decide +kernel
theorem pc8x1:pc 8 1 [1] 1 = true:=by decide +kernel
theorem pc8x2:pc 8 1 [1] 2 = true:=by decide +kernel
theorem pc8x3:pc 8 1 [1] 3 = true:=by decide +kernel
theorem pc8x4:pc 8 1 [1] 4 = true:=by decide +kernel
theorem pc8x5:pc 8 1 [1] 5 = true:=by decide +kernel
theorem pc8x6:pc 8 1 [1] 6 = true:=by decide +kernel
theorem pc8x7:pc 8 1 [1] 7 = true:=by decide +kernel
theorem pc8x8:pc 8 1 [1] 8 = true:=by decide +kernel
theorem pc8x9:pc 8 1 [1] 9 = true:=by decide +kernel
theorem pc8x10:pc 8 1 [1] 10 = true:=by decide +kernel
theorem pc8x11:pc 8 1 [1] 11 = true:=by decide +kernel
theorem pc8x12:pc 8 1 [1] 12 = true:=by decide +kernel
theorem ck8:ck 8 = true:=ck_of rfl pe8 (every13 _ pc8x0 pc8x1 pc8x2 pc8x3 pc8x4 pc8x5 pc8x6 pc8x7 pc8x8 pc8x9 pc8x10 pc8x11 pc8x12)
theorem pe9:pe 9 1 [2] = true:=by decide +kernel
theorem pc9x0:pc 9 1 [2] 0 = true:=by decide +kernel
theorem pc9x1:pc 9 1 [2] 1 = true:=by decide +kernel
theorem pc9x2:pc 9 1 [2] 2 = true:=by decide +kernel
theorem pc9x3:pc 9 1 [2] 3 = true:=by decide +kernel
theorem pc9x4:pc 9 1 [2] 4 = true:=by decide +kernel
theorem pc9x5:pc 9 1 [2] 5 = true:=by decide +kernel
theorem pc9x6:pc 9 1 [2] 6 = true:=by decide +kernel
theorem pc9x7:pc 9 1 [2] 7 = true:=by decide +kernel
theorem pc9x8:pc 9 1 [2] 8 = true:=by decide +kernel
theorem pc9x9:pc 9 1 [2] 9 = true:=by decide +kernel
theorem pc9x10:pc 9 1 [2] 10 = true:=by decide +kernel
theorem pc9x11:pc 9 1 [2] 11 = true:=by decide +kernel
theorem pc9x12:pc 9 1 [2] 12 = true:=by decide +kernel
theorem ck9:ck 9 = true:=ck_of rfl pe9 (every13 _ pc9x0 pc9x1 pc9x2 pc9x3 pc9x4 pc9x5 pc9x6 pc9x7 pc9x8 pc9x9 pc9x10 pc9x11 pc9x12)
theorem pe10:pe 10 2 [0] = true:=by decide +kernel
theorem pc10x0:pc 10 2 [0] 0 = true:=by decide +kernel
theorem pc10x1:pc 10 2 [0] 1 = true:=by decide +kernel
theorem pc10x2:pc 10 2 [0] 2 = true:=by decide +kernel
theorem pc10x3:pc 10 2 [0] 3 = true:=by decide +kernel
theorem pc10x4:pc 10 2 [0] 4 = true:=by decide +kernel
theorem pc10x5:pc 10 2 [0] 5 = true:=by decide +kernel
theorem pc10x6:pc 10 2 [0] 6 = true:=by decide +kernel
theorem pc10x7:pc 10 2 [0] 7 = true:=by decide +kernel
theorem pc10x8:pc 10 2 [0] 8 = true:=by decide +kernel
theorem pc10x9:pc 10 2 [0] 9 = true:=by decide +kernel
theorem pc10x10:pc 10 2 [0] 10 = true:=by decide +kernel
theorem pc10x11:pc 10 2 [0] 11 = true:=by decide +kernel
theorem pc10x12:pc 10 2 [0] 12 = true:=by decide +kernel
theorem ck10:ck 10 = true:=ck_of rfl pe10 (every13 _ pc10x0 pc10x1 pc10x2 pc10x3 pc10x4 pc10x5 pc10x6 pc10x7 pc10x8 pc10x9 pc10x10 pc10x11 pc10x12)
theorem pe11:pe 11 2 [1] = true:=by decide +kernel
theorem pc11x0:pc 11 2 [1] 0 = true:=by decide +kernel
theorem pc11x1:pc 11 2 [1] 1 = true:=by decide +kernel
theorem pc11x2:pc 11 2 [1] 2 = true:=by decide +kernel
theorem pc11x3:pc 11 2 [1] 3 = true:=by decide +kernel
theorem pc11x4:pc 11 2 [1] 4 = true:=by decide +kernel
theorem pc11x5:pc 11 2 [1] 5 = true:=by decide +kernel
theorem pc11x6:pc 11 2 [1] 6 = true:=by decide +kernel
theorem pc11x7:pc 11 2 [1] 7 = true:=by decide +kernel
theorem pc11x8:pc 11 2 [1] 8 = true:=by decide +kernel
theorem pc11x9:pc 11 2 [1] 9 = true:=by decide +kernel
theorem pc11x10:pc 11 2 [1] 10 = true:=by decide +kernel
theorem pc11x11:pc 11 2 [1] 11 = true:=by decide +kernel
theorem pc11x12:pc 11 2 [1] 12 = true:=by decide +kernel
theorem ck11:ck 11 = true:=ck_of rfl pe11 (every13 _ pc11x0 pc11x1 pc11x2 pc11x3 pc11x4 pc11x5 pc11x6 pc11x7 pc11x8 pc11x9 pc11x10 pc11x11 pc11x12)
theorem pe12:pe 12 2 [2] = true:=by decide +kernel
theorem pc12x0:pc 12 2 [2] 0 = true:=by decide +kernel
theorem pc12x1:pc 12 2 [2] 1 = true:=by decide +kernel
theorem pc12x2:pc 12 2 [2] 2 = true:=by decide +kernel
theorem pc12x3:pc 12 2 [2] 3 = true:=by decide +kernel
theorem pc12x4:pc 12 2 [2] 4 = true:=by decide +kernel
theorem pc12x5:pc 12 2 [2] 5 = true:=by decide +kernel
theorem pc12x6:pc 12 2 [2] 6 = true:=by decide +kernel
theorem pc12x7:pc 12 2 [2] 7 = true:=by decide +kernel
theorem pc12x8:pc 12 2 [2] 8 = true:=by decide +kernel
theorem pc12x9:pc 12 2 [2] 9 = true:=by decide +kernel
theorem pc12x10:pc 12 2 [2] 10 = true:=by decide +kernel
theorem pc12x11:pc 12 2 [2] 11 = true:=by decide +kernel
theorem pc12x12:pc 12 2 [2] 12 = true:=by decide +kernel
theorem ck12:ck 12 = true:=ck_of rfl pe12 (every13 _ pc12x0 pc12x1 pc12x2 pc12x3 pc12x4 pc12x5 pc12x6 pc12x7 pc12x8 pc12x9 pc12x10 pc12x11 pc12x12)
theorem ckl:every 3 (fun i=>!Nat.beq (atU i u0).1 0 || chkF 2 (shp (atU i u0).2.1 ++ []) (inc i u0)) = true:=by decide +kernel
theorem ck_all:every 13 ck = true:=every13 ck ck0 ck1 ck2 ck3 ck4 ck5 ck6 ck7 ck8 ck9 ck10 ck11 ck12
end L3
end Mine
end
section
namespace Mine
namespace L3
theorem zuk (n x:Nat) (t:List Nat) (u:U):chkF (n + 1) (x :: t) u = (every u.length (fun i=>!Nat.beq (atU i u).1 x || chkF n (shp (atU i u).2.1 ++ t) (inc i u)) && every 13 (fun b=>chkF n (shp b ++ t) (u ++ [(x,b,1)]))):=rfl
theorem zyw:chkF 3 [0] u0 = true:=(zuk 2 0 [] u0).trans ((Bool.and_eq_true _ _).mpr ⟨ckl,ck_all⟩)
theorem z4h:chk 3 [0] u0 = true:=zyv 3 [0] u0 zyw
end L3
end Mine
end
section
namespace Mine
namespace L3
noncomputable def midI (u:U) (k:Nat):Int:=if 0 < uses u k then (uses u k:Int) - (born u k k:Nat) else 1
noncomputable def aboveI (u:U):Int:=(midI u 1 * midI u 2 - (born u 1 2:Nat) * (born u 2 1:Nat)) * (prod3 u:Nat)
theorem zz8 (u:U) (k:Nat):midI u k = ((md u k).1:Int) - ((md u k).2:Nat):=by
 unfold midI md
 by_cases h:0 < uses u k
 ·rw [if_pos h,show Nat.blt 0 (uses u k) = true from Nat.blt_eq.mpr h]
 ·rw [if_neg h,show Nat.blt 0 (uses u k) = false from Bool.eq_false_iff.mpr fun z=>h (Nat.blt_eq.mp z)]
  rfl
theorem ok_int {u:U} (h:ok u = true):aboveI u = (T (tot u) [0] u:Nat) * (below u:Nat):=by
 unfold ok at h
 rw [Nat.beq_eq] at h
 have h2:=congrArg (fun n:Nat=>(n:Int)) h
 unfold aboveI
 rw [zz8,zz8]
 generalize (md u 1).1 = a at *
 generalize (md u 1).2 = b at *
 generalize (md u 2).1 = c at *
 generalize (md u 2).2 = d at *
 push_cast at h2
 grind
theorem start {R:Ru} {last:Nat -> Nat} (h0:∀ x,x < 3 -> R[last x]? = some (x,0)):Sim R last (List.replicate R.length 0) [last 0,last 1,last 2] /\ ([last 0,last 1,last 2].map (gq R (List.replicate R.length 0))) = u0:=by
 have z:∀ k,(List.replicate R.length 0).getD k 0 = 0:=fun k=>by
  rw [List.getD_eq_getElem?_getD,List.getElem?_replicate]
  split <;> rfl
 have d:∀ x y,x < 3 -> y < 3 -> x ≠ y -> last x ≠ last y:=fun x y hx hy hn e=>by
  have:=(h0 x hx).symm.trans (e ▸ h0 y hy)
  cases this
  exact hn rfl
 have lt:∀ x,x < 3 -> last x < R.length:=fun x hx=>(List.getElem?_eq_some_iff.mp (h0 x hx)).1
 refine ⟨⟨List.length_replicate,?_,fun k hk=>?_,fun k _ _=>z k,fun x hx=>?_⟩,?_⟩
 ·rw [List.nodup_cons,List.nodup_cons,List.nodup_cons]
  refine ⟨fun h=>?_,fun h=>?_,List.not_mem_nil,List.nodup_nil⟩
  ·rcases List.mem_cons.mp h with e | h
   ·exact d 0 1 (by decide) (by decide) (by decide) e
   ·exact d 0 2 (by decide) (by decide) (by decide) (List.mem_singleton.mp h)
  ·exact d 1 2 (by decide) (by decide) (by decide) (List.mem_singleton.mp h)
 ·rcases List.mem_cons.mp hk with e | hk
  ·exact e ▸ lt 0 (by decide)
  rcases List.mem_cons.mp hk with e | hk
  ·exact e ▸ lt 1 (by decide)
  ·exact List.mem_singleton.mp hk ▸ lt 2 (by decide)
 ·rcases x with _ | _ | _ | x
  ·rfl
  ·rfl
  ·rfl
  ·exact absurd hx (by lia)
 ·have g:∀ x,x < 3 -> gq R (List.replicate R.length 0) (last x) = (x,0,0):=fun x hx=>by unfold gq; rw [zme (h0 x hx),z]
  rw [List.map_cons,List.map_cons,List.map_cons,List.map_nil,g 0 (by decide),g 1 (by decide),g 2 (by decide)]
  rfl
theorem plain03 {R:Ru} {last:Nat -> Nat} {c:List Nat} (h0:∀ x,x < 3 -> R[last x]? = some (x,0)) (h:Run R last 3 [0] (List.replicate R.length 0) c) :
  ok (nz (zipU R c)) = true /\ ∀ k x,x < 3 -> R[k]? = some (x,slf x) -> ok (nz (zipU R (c.set k (c.getD k 0 + 1)))) = true:=by
 obtain ⟨S,e⟩:=start h0
 exact bag_ok h S (e ▸ z4h)
end L3
end Mine
end
section
namespace Mine
open PySem PySem.SeqAt PySem.W PySem.Calls
noncomputable def tokOf (s:List Nat):Option V:=dctGet (mkS s) exactK exactV
noncomputable def sz (r:List Nat):Nat:=if (tokOf (r.take 3)).isSome then 3 else if (tokOf (r.take 2)).isSome then 2 else 1
noncomputable def symb (r:List Nat):V:=(tokOf (r.take (sz r))).getD (.int (256 + ((r.headD 0:Nat):Int)))
theorem zzl (r:List Nat):1 <= sz r:=by unfold sz; split <;> (try split) <;> decide
inductive Rd:List Nat -> List V -> Prop
 | nil:Rd [] []
 | cons {c:Nat} {r:List Nat} {T:List V}:Rd ((c :: r).drop (sz (c :: r))) T -> Rd (c :: r) (symb (c :: r) :: T)
theorem Rd.uniq {X:List Nat} {T U:List V} (h:Rd X T):Rd X U -> T = U:=by
 induction h generalizing U with
 | nil=>intro h; cases h; rfl
 | cons h ih=>intro h2; cases h2 with | cons h3=>rw [ih h3]
noncomputable def szL (b2 b3:Bool):List V:=Bool.rec [] [.int 2] b2 ++ Bool.rec [] [.int 3] b3
section
variable {cs:List Cell} {X r:List Nat} {j ch:Nat}
theorem znc (h:X.drop j = ch :: r) (n:Nat):Txt.slice (mkS X) (some (j:Int)) (some ((j:Int) + (n:Int))) = mkS ((ch :: r).take n):=by
 have hl:j < X.length:=Nat.lt_of_not_le fun z=>by rw [List.drop_of_length_le z] at h; cases h
 have:=zqx X j n hl
 rw [h] at this
 exact this
theorem zqz {K:List V -> List Cell -> Prop} {s b:Option V} (h:X.drop j = ch :: r) (q:K (szL (tokOf ((ch :: r).take 2)).isSome (tokOf ((ch :: r).take 3)).isSome) cs) :
  CompR zbx (boolT .And (IE.sems P1 zb5)) (emitL (zb9.sem P1).val) [none,none,some (.str (mkS X)),s,b,some (.int j)] K [] (.items [.int 2,.int 3]) cs:=by
 have two:∀ {acc:List V} {z:Nat} {b0:Bool} {ys:List V},(tokOf ((ch :: r).take z)).isSome = b0 -> acc.length <= 2 -> CompR zbx (boolT .And (IE.sems P1 zb5)) (emitL (zb9.sem P1).val) [none,none,some (.str (mkS X)),s,b,some (.int j)] K (acc ++ Bool.rec [] [.int z] b0) (.items ys) cs ->
   CompR zbx (boolT .And (IE.sems P1 zb5)) (emitL (zb9.sem P1).val) [none,none,some (.str (mkS X)),s,b,some (.int j)] K acc (.items (.int z :: ys)) cs:=by
  intro acc z b0 ys e hl q
  refine .go (.items _ _) rfl (.addI ⟨_,_,_,.int _,.int _,.none,.str' (znc h z) (.inD' e ?_)⟩)
  cases b0 with
  | false=>rw [<- List.append_nil acc]; exact q
  | true=>exact ⟨Nat.lt_of_le_of_lt hl (by decide),q⟩
 exact two (z:=2) rfl (Nat.zero_le _) (two (z:=3) rfl (by cases (tokOf ((ch :: r).take 2)).isSome <;> decide) (.done .items q))
theorem zw2 {K:KV} (r:List Nat) (q:K (.int (sz r:Nat)) cs):BinR false cs (fun v cs=>CallR P1 cs K (.bi "max") [v] []) .Add (.lst [.int 1]) (.lst (szL (tokOf (r.take 2)).isSome (tokOf (r.take 3)).isSome)):=by
 unfold sz at q
 cases h3:(tokOf (r.take 3)).isSome <;> cases h2:(tokOf (r.take 2)).isSome <;> rw [h3] at q <;> (try rw [h2] at q)
 ·exact .addL (.lst _) (.lst _) ⟨by decide,.max (a:=1) (r:=[]) (.lst _) q⟩
 ·exact .addL (.lst _) (.lst _) ⟨by decide,.max (a:=1) (r:=[2]) (.lst _) q⟩
 ·exact .addL (.lst _) (.lst _) ⟨by decide,.max (a:=1) (r:=[3]) (.lst _) q⟩
 ·exact .addL (.lst _) (.lst _) ⟨by decide,.max (a:=1) (r:=[2,3]) (.lst _) q⟩
noncomputable def ReadL (K:KF) (j m:Nat) (sl:Slots) (cs:List Cell):Prop:=ForR zfe (bden (IS.sems P1 zgd)) K (.items (upTo j m)) sl cs
variable {K:KF} {n m:Nat} {U:List V} {o:Option V}
theorem get_at (h:X.drop j = ch :: r):idxV (mkS X).cps.toList (j:Int) = some ch:=by
 rw [z29]
 have:(X.drop j)[0]? = some ch:=by rw [h]; rfl
 rw [List.getElem?_drop] at this
 unfold idxV
 rw [if_pos (Int.natCast_nonneg _)]
 exact this
theorem zo8 (h:X.drop j = ch :: r) (hn:cs[n]? = some (.list U)) (hU:U.length < lim) {bb:Int} (hb:bb = ((j + sz (ch :: r):Nat):Int)) (q:ReadL K (j + 1) m [some (.str (mkS X)),some (.ref n),some (.int bb),some (.int j)] (cs.set n (.list (U ++ [symb (ch :: r)])))):ReadL K j (m + 1) [some (.str (mkS X)),some (.ref n),some (.int j),o] cs:=by
 subst hb
 exact .go (.items _ _) rfl (.geT (Int.le_refl _) ⟨by decide,by decide,_,.tup _,zqz h ⟨by cases (tokOf ((ch :: r).take 2)).isSome <;> cases (tokOf ((ch :: r).take 3)).isSome <;> decide,zw2 (ch :: r) (.addI ⟨.append hn,.get _ _,_,_,_,.int _,.int _,.none,.str' (znc h (sz (ch :: r))) ⟨_,.str (get_at h),.ord (.addI (.get (.append hn hU q)))⟩⟩)⟩⟩)
theorem zo9 {b:Nat} (hb:j < b) (q:ReadL K (j + 1) m [some (.str (mkS X)),some (.ref n),some (.int b),some (.int j)] cs):ReadL K j (m + 1) [some (.str (mkS X)),some (.ref n),some (.int b),o] cs :=
 .go (.items _ _) rfl (.geF (Int.not_le.mpr (Int.ofNat_lt.mpr hb)) q)
theorem zrt {S:List V} (hX:X.length <= 1000) (hR:Rd X S) (q:∀ b o,K .next [some (.str (mkS X)),some (.ref cs.length),b,o] (cs ++ [.list S])) (m:Nat):∀ (j b:Nat) (U:List V) (o:Option V),j + m = X.length -> j <= b -> U.length <= j -> (∀ W,Rd (X.drop b) W -> Rd X (U ++ W)) ->
  ReadL K j m [some (.str (mkS X)),some (.ref cs.length),some (.int b),o] (cs ++ [.list U]):=by
 induction m with
 | zero =>
  intro j b U o hj hb hU hW
  have h:=hW [] (by rw [List.drop_of_length_le (Nat.le_trans (Nat.le_of_eq hj.symm) hb)]; exact .nil)
  rw [List.append_nil] at h
  cases hR.uniq h
  exact .done .items (q _ _)
 | succ m ih =>
  intro j b U o hj hb hU hW
  have hlt:j < X.length:=by rw [<- hj]; exact Nat.lt_add_of_pos_right (Nat.succ_pos _)
  have hj':j + 1 + m = X.length:=by rw [<- hj,Nat.add_assoc,Nat.add_comm 1]
  rcases Nat.lt_or_eq_of_le hb with h | h
  ·exact zo9 h (ih (j + 1) b U _ hj' h (Nat.le_succ_of_le hU) hW)
  ·subst h
   have hd:X.drop j = X[j] :: X.drop (j + 1):=List.drop_eq_getElem_cons hlt
   refine zo8 hd (zbs _ _) (Nat.lt_of_le_of_lt hU (Nat.lt_trans hlt (Nat.lt_of_le_of_lt hX (by decide)))) rfl ?_
   rw [zgk]
   refine ih (j + 1) _ _ _ hj' (Nat.add_le_add_left (zzl _) j) (by rw [List.length_append]; exact Nat.succ_le_succ hU) fun W h=>?_
   rw [List.append_assoc]
   refine hW _ ?_
   rw [<- List.drop_drop,hd] at h
   rw [hd]
   exact .cons h
structure RdA where
 X:List Nat
 T:List V
noncomputable def readS:Spec:=Sp (fun a:RdA=>[.str (mkS a.X)]) [] noKw fun a cs K=>(a.X.length <= 1000 /\ Rd a.X a.T) /\ K (.ref cs.length) (cs ++ [.list a.T])
end
section
variable {C:Cx} {K:Frag} (F2:Facts2 C P1 K) (L:LimAt C)
include F2 L
theorem z20 (Fk:FnK K 269 F_law_read) (B:Bd1 K 269 (S "text")):FnOk C.up 269 readS :=
 fn1 (sl:=fun a:RdA=>[some (.str (mkS a.X)),none,none,none]) F2 L Fk (zp7 T1) B (fun _=>rfl) fun a cs K' q =>
  ⟨Nat.zero_le _,.lenS (.rng1 ⟨_,znf (Nat.le_trans q.1.1 (by decide)),zrt q.1.1 q.1.2 (fun b o=>q.2) a.X.length 0 0 [] none (Nat.zero_add _) (Nat.le_refl _) (Nat.le_refl _) fun W h=>h⟩)⟩
end
end Mine
end
section
namespace Mine
open PySem
noncomputable def exactN:List (List Nat × Nat):=[([33],54),([33,61],28),([37],24),([37,61],40),([38],19),([38,61],41),([40],7),([41],8),([42],16),([42,42],35),([42,42,61],46),([42,61],38),([43],14),([43,61],36),([44],12),([45],15),([45,61],37),([45,62],51),([46],23),([46,46,46],52),([47],17),([47,47],47),([47,47,61],48),([47,61],39),([58],11),([58,61],53),([59],13),([60],20),([60,60],33),([60,60,61],44),([60,61],29),([61],22),([61,61],27),([62],21),([62,61],30),([62,62],34),([62,62,61],45),([64],49),([64,61],50),([91],9),([93],10),([94],32),([94,61],43),([123],25),([124],18),([124,61],42),([125],26),([126],31)]
theorem ztr:exactL.map (fun p=>(p.1.toList.map Char.toNat,p.2)) = exactN:=by decide +kernel
noncomputable def eqL (a:List Nat):List Nat -> Bool:=List.rec (fun b=>List.rec true (fun _ _ _=>false) b) (fun x _ ih b=>List.rec false (fun y b _=>Nat.beq x y && ih b) b) a
theorem zmg {a b:List Nat}:eqL a b = true ↔ a = b:=by
 induction a generalizing b with
 | nil=>cases b with
  | nil=>exact ⟨fun _=>rfl,fun _=>rfl⟩
  | cons=>exact ⟨fun h=>Bool.noConfusion h,fun h=>nomatch h⟩
 | cons x a ih=>cases b with
  | nil=>exact ⟨fun h=>Bool.noConfusion h,fun h=>nomatch h⟩
  | cons y b =>
   show (Nat.beq x y && eqL a b) = true ↔ _
   rw [Bool.and_eq_true,Nat.beq_eq,ih,List.cons.injEq]
noncomputable def tokG (s:List Nat) (l:List (List Nat × Nat)):Option Nat:=List.rec none (fun p _ ih=>Bool.rec ih (some p.2) (eqL p.1 s)) l
noncomputable def tokN (s:List Nat):Option Nat:=tokG s exactN
noncomputable def intV (n:Nat):V:=.int (n:Nat)
theorem zqh (s:List Nat):tokOf s = (tokN s).map intV:=by
 unfold tokOf tokN exactK exactV
 rw [<- ztr]
 generalize exactL = l
 induction l with
 | nil=>rfl
 | cons p l ih =>
  show (if S p.1 = mkS s then some (V.int (p.2:Nat)) else dctGet (mkS s) (l.map fun p=>S p.1) (l.map fun p=>.int (p.2:Nat))) = Option.map intV (Bool.rec (tokG s (l.map fun p=>(p.1.toList.map Char.toNat,p.2))) (some p.2) (eqL (p.1.toList.map Char.toNat) s))
  rw [show S p.1 = mkS (p.1.toList.map Char.toNat) from mkS_of p.1]
  by_cases h:p.1.toList.map Char.toNat = s
  ·rw [if_pos (congrArg mkS h),zmg.mpr h]; rfl
  ·rw [if_neg fun z=>h (zek z),show eqL (p.1.toList.map Char.toNat) s = false from Bool.eq_false_iff.mpr fun z=>h (zmg.mp z)]; exact ih
noncomputable def szN (r:List Nat):Nat:=if (tokN (r.take 3)).isSome then 3 else if (tokN (r.take 2)).isSome then 2 else 1
noncomputable def symN (r:List Nat):Nat:=(tokN (r.take (szN r))).getD (256 + r.headD 0)
theorem sz_eq (r:List Nat):sz r = szN r:=by unfold sz szN; rw [zqh,zqh,Option.isSome_map,Option.isSome_map]
theorem zqm (r:List Nat):symb r = intV (symN r):=by
 unfold symb symN
 rw [sz_eq,zqh]
 cases tokN (r.take (szN r)) with
 | none=>rfl
 | some n=>rfl
noncomputable def ckR (n:Nat):List Nat -> List Nat -> Bool:=Nat.rec (fun X T=>X.isEmpty && T.isEmpty) (fun _ ih X T=>List.rec T.isEmpty (fun c r _=>List.rec false (fun t T _=>Nat.beq (symN (c :: r)) t && ih ((c :: r).drop (szN (c :: r))) T) T) X) n
theorem ckR_ok (n:Nat):∀ {X T:List Nat},ckR n X T = true -> Rd X (T.map intV):=by
 induction n with
 | zero =>
  intro X T h
  obtain ⟨h1,h2⟩:=(Bool.and_eq_true _ _).mp (show (X.isEmpty && T.isEmpty) = true from h)
  cases X with
  | nil=>cases T with
   | nil=>exact .nil
   | cons=>cases h2
  | cons=>cases h1
 | succ n ih =>
  intro X T h
  cases X with
  | nil =>
   have h':T.isEmpty = true:=h
   cases T with
   | nil=>exact .nil
   | cons=>cases h'
  | cons c r =>
   cases T with
   | nil=>exact Bool.noConfusion (show false = true from h)
   | cons t T =>
    obtain ⟨h1,h2⟩:=(Bool.and_eq_true _ _).mp (show (Nat.beq (symN (c :: r)) t && ckR n ((c :: r).drop (szN (c :: r))) T) = true from h)
    have e:=zqm (c :: r)
    rw [Nat.beq_eq.mp h1] at e
    rw [List.map_cons,<- e]
    refine .cons ?_
    rw [sz_eq]
    exact ih h2
noncomputable def isLt (c:Nat):Bool:=[115,83,97,65,98,66,32].contains c
theorem heads:exactN.all (fun p=>!isLt (p.1.headD 115) && !p.1.isEmpty) = true:=by decide +kernel
theorem zlh {c:Nat} {r:List Nat} (h:isLt c = true):tokN (c :: r) = none:=by
 have key:∀ l:List (List Nat × Nat),l.all (fun p=>!isLt (p.1.headD 115) && !p.1.isEmpty) = true -> tokG (c :: r) l = none:=by
  intro l
  induction l with
  | nil=>exact fun _=>rfl
  | cons p l ih =>
   intro hl
   rw [List.all_cons,Bool.and_eq_true] at hl
   have e:eqL p.1 (c :: r) = false:=Bool.eq_false_iff.mpr fun z=>by
    rw [zmg.mp z] at hl
    have:=hl.1
    rw [show (c :: r).headD 115 = c from rfl,h] at this
    cases this
   show Bool.rec (motive:=fun _=>Option Nat) (tokG (c :: r) l) (some p.2) (eqL p.1 (c :: r)) = none
   rw [e]
   exact ih hl.2
 exact key _ heads
theorem rd_let {c:Nat} {r:List Nat} {T:List V} (h:isLt c = true) (q:Rd r T):Rd (c :: r) (intV (256 + c) :: T):=by
 have hz:szN (c :: r) = 1:=by
  unfold szN
  rw [show (c :: r).take 3 = c :: r.take 2 from rfl,show (c :: r).take 2 = c :: r.take 1 from rfl,zlh h,zlh h]
  rfl
 have hs:symN (c :: r) = 256 + c:=by
  unfold symN
  rw [hz,show (c :: r).take 1 = c :: r.take 0 from rfl,zlh h]
  rfl
 have e:=zqm (c :: r)
 rw [hs] at e
 rw [<- e]
 refine .cons ?_
 rw [sz_eq,hz]
 exact q
noncomputable def tkP (l:List Nat):List Nat:=l.map fun c=>256 + c
noncomputable def tkS (g q:Nat):List Nat:=(g + 7) :: tkP (posL q)
noncomputable def tkR (p g q:Nat):List Nat:=tkP (preL p) ++ tkS g q
noncomputable def ckS (g:Nat):Bool:=L3.every 8 fun q=>ckR 4 (sgL g ++ posL q) (tkS g q)
theorem z4g:L3.every 48 ckS = true:=by decide +kernel
theorem zwc {p g q:Nat} (hp:p < 7) (hg:g < 48) (hq:q < 8):Rd (txL p g q) ((tkR p g q).map intV):=by
 have h:=ckR_ok 4 (L3.zc3 (L3.zc3 z4g g hg) q hq)
 unfold txL tkR
 rw [List.map_append]
 have:p = 6 \/ ∃ c,isLt c = true /\ preL p = [c]:=by
  rcases p with _ | _ | _ | _ | _ | _ | _ | p
  all_goals first | exact .inl rfl | exact .inr ⟨_,by decide +kernel,rfl⟩ | exact absurd hp (by lia)
 rcases this with rfl | ⟨c,hc,e⟩
 ·exact h
 ·rw [e]; exact rd_let hc h
end Mine
end
section
namespace Mine
open PySem PySem.SeqAt PySem.W PySem.Calls
noncomputable def lt7 (n:Nat):Nat:=[0,0,1,1,2,2,3].getD n 3
noncomputable def lowL (l:Nat):List Nat:=[[115],[97],[98],[115,98]].getD l []
theorem zsk:∀ n:Fin 7,Txt.lower (mkS (nmL n.val)) = mkS (lowL (lt7 n.val)):=by decide +kernel
theorem zbr {n:Nat} (h:n < 7):Txt.lower (mkS (nmL n)) = mkS (lowL (lt7 n)):=zsk ⟨n,h⟩
theorem zw9:∀ l m:Fin 4,lowL l.val = lowL m.val -> l = m:=by decide +kernel
theorem zew (n:Nat):lt7 n < 4:=by
 rcases n with _ | _ | _ | _ | _ | _ | _ | n
 all_goals first | decide | exact (by decide:3 < 4)
theorem z3h {n m:Nat} (hn:n < 7) (hm:m < 7) (h:Txt.lower (mkS (nmL n)) = Txt.lower (mkS (nmL m))):lt7 n = lt7 m:=by
 rw [zbr hn,zbr hm] at h
 exact congrArg Fin.val (zw9 ⟨_,zew n⟩ ⟨_,zew m⟩ (zek h))
theorem zem {n:Nat} (h:n < 7):lowB (mkS (nmL n)):=by
 unfold lowB
 rw [zbr h,zsd]
 have:∀ l:Fin 4,(lowL l.val).length <= 2:=by decide +kernel
 exact Nat.le_trans (this ⟨_,zew n⟩) (by decide)
theorem zz5:∀ n:Fin 7,(nmL n.val).any nameBad = false /\ (lowL (lt7 n.val)).any nameBad = false:=by decide +kernel
theorem zdv {n:Nat} (h:n < 7):nameOk (mkS (nmL n)):=(zz5 ⟨n,h⟩).1
theorem zg7 {n:Nat} (h:n < 7):nameOk (Txt.lower (mkS (nmL n))):=by rw [zbr h]; exact (zz5 ⟨n,h⟩).2
theorem sg_fin:∀ g:Fin 48,(sgL g.val).any valBad = false:=by decide +kernel
theorem z2k:∀ p:Fin 7,(preL p.val).any valBad = false:=by decide +kernel
theorem z2m:∀ q:Fin 8,(posL q.val).any valBad = false:=by decide +kernel
theorem ze9 {p g q:Nat} (hp:p < 7) (hg:g < 48) (hq:q < 8):valOk (mkS (txL p g q)):=by
 show (txL p g q).any valBad = false
 unfold txL
 rw [List.any_append,List.any_append,z2k ⟨p,hp⟩,sg_fin ⟨g,hg⟩,z2m ⟨q,hq⟩]
 rfl
noncomputable def Rl.tx (r:Rl):List Nat:=txL r.p r.g r.q
noncomputable def enc (r:Rl):Str × Str:=(mkS (nmL r.n),mkS r.tx)
noncomputable def encs (D:List Rl):Hs:=D.map enc
noncomputable def sameR (n:Nat) (r:Rl):Bool:=decide (lt7 r.n = lt7 n)
noncomputable def AllOk (D:List Rl):Prop:=∀ r ∈ D,RlOk r
section
variable {D:List Rl} {n:Nat}
theorem zl7 {r:Rl} (hr:r.n < 7) (hn:n < 7):decide (Txt.lower (enc r).1 = Txt.lower (mkS (nmL n))) = sameR n r:=by
 unfold sameR enc
 refine decide_eq_decide.mpr ⟨z3h hr hn,fun e=>?_⟩
 show Txt.lower (mkS (nmL r.n)) = _
 rw [zbr hr,zbr hn,e]
theorem zis (h:AllOk D):∀ p ∈ encs D,lowB p.1:=fun p hp=>by
 obtain ⟨r,hr,rfl⟩:=List.mem_map.mp hp
 exact zem (h r hr).n
theorem enc_ok (h:AllOk D):∀ p ∈ encs D,nameOk p.1 /\ valOk p.2:=fun p hp=>by
 obtain ⟨r,hr,rfl⟩:=List.mem_map.mp hp
 exact ⟨zdv (h r hr).n,ze9 (h r hr).p (h r hr).g (h r hr).q⟩
theorem zf8 (h:AllOk D) (hn:n < 7):(encs D).filter (fun p=>decide (Txt.lower p.1 = Txt.lower (mkS (nmL n)))) = encs (D.filter (sameR n)):=by
 unfold encs
 rw [List.filter_map]
 refine congrArg (List.map enc) (List.filter_congr fun r hr=>?_)
 exact zl7 (h r hr).n hn
theorem zgb (h:AllOk D) (hn:n < 7):dropV (encs D) (Txt.lower (mkS (nmL n))) = encs (D.filter fun r=>!sameR n r):=by
 unfold dropV encs
 rw [List.filter_map]
 refine congrArg (List.map enc) (List.filter_congr fun r hr=>?_)
 exact congrArg (! ·) (zl7 (h r hr).n hn)
theorem f_same (h:AllOk D) (hn:n < 7):fV (encs D) (Txt.lower (mkS (nmL n))) = ((D.filter (sameR n)).head?).map fun r=>mkS r.tx:=by
 induction D with
 | nil=>rfl
 | cons r D ih =>
  have hd:=zl7 (h r List.mem_cons_self).n hn
  have i:=ih fun x hx=>h x (List.mem_cons_of_mem _ hx)
  show (if Txt.lower (enc r).1 = Txt.lower (mkS (nmL n)) then some (enc r).2 else fV (encs D) _) = _
  by_cases e:Txt.lower (enc r).1 = Txt.lower (mkS (nmL n))
  ·rw [if_pos e,List.filter_cons_of_pos (by rw [<- hd]; exact decide_eq_true e)]; rfl
  ·rw [if_neg e,List.filter_cons_of_neg (by rw [<- hd,decide_eq_false e]; exact Bool.false_ne_true)]; exact i
end
theorem zry {cs:List Cell} (q p:Str × Str):EqR cs 8 (pairV q) (pairV p) (decide (q = p)) :=
 .two (n:=7) (.tup _) (.tup _) (.str _ _ _) (.str _ _ _) (by rw [<- Bool.decide_and]; exact decide_eq_decide.mpr ⟨fun h=>Prod.ext h.1 h.2,fun h=>⟨congrArg Prod.fst h,congrArg Prod.snd h⟩⟩)
theorem zqr {g:Gh} {x z:Str} {y:Value} (r:VRel g (.str x) y) (s:VRel g (.str z) y):x = z:=by
 obtain ⟨t,rfl,_⟩:=r.inv
 obtain ⟨_,e,_⟩:=s.inv
 cases e; rfl
theorem zwi (g:Gh) (q z:Str × Str) (y:Value) (r:VRel g (pairV q) y) (s:VRel g (pairV z) y):q = z:=by
 obtain ⟨vs,r1,r2⟩:=zvp r s
 obtain ⟨a,b,rfl,ra,rb⟩:=r1.two
 obtain ⟨a',b',e,ra',rb'⟩:=r2.two
 injection e with e1 e2
 injection e2 with e2 _
 subst e1 e2
 exact Prod.ext (zqr ra ra') (zqr rb rb')
theorem zfz {cs:List Cell} {K:KB} {p:Str × Str} {hs:Hs} {b:Bool} (e:(!decide (p ∈ hs)) = b) (q:K b cs):CmpR cs K .NotIn (pairV p) (.lst (pairsV hs)):=by
 refine .notInL _ (.lst _) (zns pairV (fun q=>zry q p) zwi hs) ?_
 have h:(List.range (pairsV hs).length).any (fun j=>decide (hs[j]? = some p)) = decide (p ∈ hs):=by
  rw [Bool.eq_iff_iff,List.any_eq_true,decide_eq_true_iff,pairsV,List.length_map]
  exact ⟨fun ⟨j,_,h⟩=>List.mem_of_getElem? (of_decide_eq_true h),fun h=>by
   obtain ⟨j,hj,e⟩:=List.getElem_of_mem h
   exact ⟨j,List.mem_range.mpr hj,decide_eq_true (by rw [List.getElem?_eq_getElem hj,e])⟩⟩
 rw [h,e]
 exact q
noncomputable def Tt:Tab:=[(259,rtS),(172,addS),(165,setdS),(90,setS),(95,delS),(175,mkHS)]
noncomputable def Pt:Prm:=law3.prm Tt
theorem ft_rt:Pt.fn 259 = rtS:=rfl
theorem ft_add:Pt.fn 172 = addS:=rfl
theorem z3z:Pt.fn 165 = setdS:=rfl
theorem ft_set:Pt.fn 90 = setS:=rfl
theorem ft_del:Pt.fn 95 = delS:=rfl
theorem ft_mk:Pt.fn 175 = mkHS:=rfl
noncomputable abbrev tsl (x:V) (k d a t:Nat) (c n r s:Option V):Slots:=[some x,some (.ref k),some (.ref d),some (.ref a),some (.ref t),c,n,r,s]
section
variable {K:List V -> List Cell -> Prop} {cs:List Cell} {hs:Hs} {d:Nat} {p:Str × Str} {x:V} {k0 d0 a t:Nat} {c r s:Option V} {nm:Str}
noncomputable def SamL (K:List V -> List Cell -> Prop) (sl:Slots) (acc:List V) (d i:Nat) (cs:List Cell):Prop:=CompR zet (boolT .And (IE.sems Pt zex)) (emitL (zez.sem Pt).val) (none :: none :: sl) K acc (.cell d i) cs
theorem zv6 (h:cs[d]? = some (.list (pairsV hs))) (lk:∀ p ∈ hs,lowB p.1) (ln:lowB nm) (r':Hs):∀ (i:Nat) (acc:List V),hs.drop i = r' -> acc.length + r'.length <= lim -> K (acc ++ pairsV (r'.filter fun p=>decide (Txt.lower p.1 = Txt.lower nm))) cs -> SamL K (tsl x k0 d0 a t c (some (.str nm)) r s) acc d i cs:=by
 induction r' with
 | nil=>exact fun i acc e _ q=>.done (.cell h (zbu e)) (by rw [<- List.append_nil acc]; exact q)
 | cons p r' ih =>
  intro i acc e hl q
  rw [List.length_cons] at hl
  by_cases he:Txt.lower p.1 = Txt.lower nm
  ·refine .go (.cell h (zax e)) rfl ⟨_,.seq (.tup _) rfl,.lower _,.lower (lk p (zag e)) ⟨.lower _,.lower ln (.eq (.strT he) ⟨ze1 (b:=r'.length) hl,ih _ _ (zao e) (by rw [List.length_append]; exact zed hl) ?_⟩)⟩⟩
   rw [List.filter_cons_of_pos (by exact decide_eq_true he)] at q
   rw [List.append_assoc]
   exact q
  ·refine .go (.cell h (zax e)) rfl ⟨_,.seq (.tup _) rfl,.lower _,.lower (lk p (zag e)) ⟨.lower _,.lower ln (.eq (.strF he) (ih _ _ (zao e) (zhj hl) ?_))⟩⟩
   rw [List.filter_cons_of_neg (by rw [decide_eq_false he]; exact Bool.false_ne_true)] at q
   exact q
noncomputable def DueL (K:List V -> List Cell -> Prop) (sl:Slots) (acc:List V) (d i:Nat) (cs:List Cell):Prop:=CompR zdr (boolT .And (IE.sems Pt zdy)) (emitL (zd2.sem Pt).val) (none :: none :: sl) K acc (.cell d i) cs
theorem zyb {ss:Hs} {n:Option V} (h:cs[d]? = some (.list (pairsV hs))) (r':Hs):∀ (i:Nat) (acc:List V),hs.drop i = r' -> acc.length + r'.length <= lim -> K (acc ++ pairsV (r'.filter fun p=>!decide (p ∈ ss))) cs -> DueL K (tsl x k0 d0 a t c n r (some (.lst (pairsV ss)))) acc d i cs:=by
 induction r' with
 | nil=>exact fun i acc e _ q=>.done (.cell h (zbu e)) (by rw [<- List.append_nil acc]; exact q)
 | cons p r' ih =>
  intro i acc e hl q
  rw [List.length_cons] at hl
  by_cases he:p ∈ ss
  ·refine .go (.cell h (zax e)) rfl (zfz (b:=false) (by rw [decide_eq_true he]; rfl) (ih _ _ (zao e) (zhj hl) ?_))
   rw [List.filter_cons_of_neg (by rw [decide_eq_true he]; exact Bool.false_ne_true)] at q
   exact q
  ·refine .go (.cell h (zax e)) rfl (zfz (b:=true) (by rw [decide_eq_false he]; rfl) ⟨ze1 (b:=r'.length) hl,ih _ _ (zao e) (by rw [List.length_append]; exact zed hl) ?_⟩)
   rw [List.filter_cons_of_pos (by rw [decide_eq_false he]; rfl)] at q
   rw [List.append_assoc]
   exact q
end
theorem zwq (hs:Hs) (low:Str):hs.filter (fun p=>!decide (p ∈ hs.filter fun p=>decide (Txt.lower p.1 = low))) = dropV hs low:=by
 unfold dropV
 refine List.filter_congr fun p hp=>congrArg (! ·) (decide_eq_decide.mpr ?_)
 rw [List.mem_filter,decide_eq_true_iff]
 exact ⟨fun h=>h.2,fun h=>⟨hp,h⟩⟩
noncomputable def tru (m:Nat):List V:=List.replicate m (.bool true)
structure TS (c0:List Cell) (E D:List Rl) (m d:Nat) (cs:List Cell):Prop where
 pre:∃ ext,cs = c0 ++ ext
 tb:Tb cs (c0.length + 4) c0.length (encs E)
 du:cs[d]? = some (.list (pairsV (encs D)))
 an:cs[c0.length + 2]? = some (.list (tru m))
 d0:c0.length < d
 d2:d ≠ c0.length + 2
section
variable {c0 cs:List Cell} {E D:List Rl} {m d:Nat}
theorem zl2 {k:Nat} {c:Cell} (h:∃ ext,cs = c0 ++ ext) (hk:c0.length <= k):∃ ext,cs.set k c = c0 ++ ext:=by
 obtain ⟨ext,rfl⟩:=h
 exact ⟨_,List.set_append_right _ _ hk⟩
theorem TS.setK (T:TS c0 E D m d cs) (E':List Rl):TS c0 E' D m d (cs.set c0.length (.list (pairsV (encs E')))) :=
 ⟨zl2 T.pre (Nat.le_refl _),T.tb.set _,(List.getElem?_set_ne (Nat.ne_of_lt T.d0)).trans T.du,(List.getElem?_set_ne (Nat.ne_of_lt (Nat.lt_add_of_pos_right (by decide)))).trans T.an,T.d0,T.d2⟩
theorem zhn {l k n:Nat} {hs:Hs} {c c':Cell} (t:Tb cs l k hs) (hn:n ≠ k) (h:cs[n]? = some c) (h1:∀ a b,c ≠ .inst a b) (h2:∀ a,c ≠ .attr a):Tb (cs.set n c') l k hs:=by
 obtain ⟨d,e1,e2⟩:=t.ex
 refine ⟨⟨d,?_,?_⟩,(List.getElem?_set_ne hn).trans t.ls⟩
 ·exact (List.getElem?_set_ne (zej h e1 (h1 _ _))).trans e1
 ·exact (List.getElem?_set_ne (zej h e2 (h2 _))).trans e2
theorem TS.setD (T:TS c0 E D m d cs) (D':List Rl):TS c0 E D' m d (cs.set d (.list (pairsV (encs D')))) :=
 ⟨zl2 T.pre (Nat.le_of_lt T.d0),zhn T.tb (Nat.ne_of_gt T.d0) T.du (fun _ _ e=>nomatch e) (fun _ e=>nomatch e),List.getElem?_set_self (zaa T.du),(List.getElem?_set_ne T.d2).trans T.an,T.d0,T.d2⟩
theorem TS.setA (T:TS c0 E D m d cs):TS c0 E D (m + 1) d (cs.set (c0.length + 2) (.list (tru (m + 1)))) :=
 ⟨zl2 T.pre (Nat.le_add_right _ _),zhn T.tb (Nat.ne_of_gt (Nat.lt_add_of_pos_right (by decide))) T.an (fun _ _ e=>nomatch e) (fun _ e=>nomatch e),(List.getElem?_set_ne T.d2.symm).trans T.du,List.getElem?_set_self (zaa T.an),T.d0,T.d2⟩
theorem TS.newD (T:TS c0 E D m d cs) (D':List Rl):TS c0 E D' m cs.length (cs ++ [.list (pairsV (encs D'))]):=by
 have h4:c0.length + 2 < cs.length:=zaa T.an
 obtain ⟨ext,e⟩:=T.pre
 exact ⟨⟨ext ++ [.list (pairsV (encs D'))],by rw [e,List.append_assoc]⟩,T.tb.app _,zbs _ _,(List.getElem?_append_left h4).trans T.an,Nat.lt_of_le_of_lt (Nat.le_add_right _ 2) h4,Nat.ne_of_gt h4⟩
end
noncomputable def rl4 (z:Int):Rl:=⟨((z.fdiv 4).fmod 6).toNat,kP (nK (z.fdiv 24)),nG (z.fdiv 24),kQ (nK (z.fdiv 24))⟩
noncomputable def stepM (m:Nat) (r:Rl) (D:List Rl):List Rl :=
 if m = 0 then D ++ [r] else if m = 1 then (if (D.filter (sameR r.n)).isEmpty = true then D ++ [r] else D) else if m = 2 then D.filter (fun x=>!sameR r.n x) ++ [r] else D.filter fun x=>!sameR r.n x
noncomputable def m4 (z:Int):Nat:=(z.fmod 4).toNat
theorem m4_at (z:Int):z.fmod 4 = (m4 z:Nat) /\ m4 z < 4:=zbc z 4 (by decide)
theorem n6_at (z:Int):(z.fdiv 4).fmod 6 = ((rl4 z).n:Nat) /\ (rl4 z).n < 6:=zbc (z.fdiv 4) 6 (by decide)
theorem kP_fin:∀ k:Fin 13,kP k.val < 7 /\ kQ k.val < 8:=by decide +kernel
theorem zg3 (z:Int):RlOk (rl4 z):=by
 have hk:=nK_at (z.fdiv 24)
 have h:=kP_fin ⟨_,hk.2⟩
 exact ⟨Nat.lt_succ_of_lt (n6_at z).2,h.1,(nG_at _).2,h.2⟩
theorem z25:∀ n:Fin 6,idxV (S "sSaAbB").cps.toList (n.val:Int) = some ((nmL n.val).headD 0) /\ nmL n.val = [(nmL n.val).headD 0]:=by decide +kernel
theorem zkf {D:List Rl} (h:AllOk D) (f:Rl -> Bool):AllOk (D.filter f):=fun r hr=>h r ((List.mem_filter.mp hr).1)
theorem zei {D:List Rl} (h:AllOk D) {r:Rl} (hr:RlOk r):AllOk (D ++ [r]):=fun x hx=>by
 rcases List.mem_append.mp hx with hx | hx
 ·exact h x hx
 ·exact List.mem_singleton.mp hx ▸ hr
theorem zfh {D:List Rl} (h:AllOk D) {r:Rl} (hr:RlOk r) (m:Nat):AllOk (stepM m r D):=by
 unfold stepM
 split
 ·exact zei h hr
 ·split
  ·split
   ·exact zei h hr
   ·exact h
  ·split
   ·exact zei (zkf h _) hr
   ·exact zkf h _
theorem zvt {D:List Rl} {r:Rl} (m:Nat):(stepM m r D).length <= D.length + 1:=by
 unfold stepM
 have f:=List.length_filter_le (fun x=>!sameR r.n x) D
 split
 ·rw [List.length_append]; exact Nat.le_refl _
 ·split
  ·split
   ·rw [List.length_append]; exact Nat.le_refl _
   ·exact Nat.le_succ _
  ·split
   ·rw [List.length_append]; exact Nat.succ_le_succ f
   ·exact Nat.le_succ_of_le f
theorem zkr {cs:List Cell} {n:Nat} (xs:List V):EqR cs (n + 1) (.lst xs) (.lst []) xs.isEmpty:=by
 have h:=EqR.seq (cs:=cs) (n:=n) (fun _=>true) (.lst xs) (.lst []) fun j x y _ e=>nomatch e
 rw [zji,Bool.true_and] at h
 cases xs with
 | nil=>exact h
 | cons x xs=>exact h
theorem zt0 (D:List Rl) (r:Rl):pairsV (encs D) ++ [pairV (enc r)] = pairsV (encs (D ++ [r])):=by unfold pairsV encs; rw [List.map_append,List.map_append]; rfl
theorem zan (D:List Rl):(encs D).length = D.length:=List.length_map _
theorem za6 (hs:Hs):(pairsV hs).length = hs.length:=List.length_map _
theorem zvr (m:Nat):tru m ++ [.bool true] = tru (m + 1):=(List.replicate_succ' ..).symm
theorem ItemR.strN {cs:List Cell} {x s:Str} {i:Int} {c:Nat} (h:idxV x.cps.toList i = some c) (e:(⟨#[c]⟩:Str) = s):ItemR cs (.str x) (.int i) (.str s):=e ▸ .str h
theorem CmpR.gtT {cs:List Cell} {K:KB} {i j:Int} (h:j < i) (k:K true cs):CmpR cs K .Gt (.int i) (.int j):=.gt ((decide_eq_true h).symm ▸ k)
theorem CmpR.gtF {cs:List Cell} {K:KB} {i j:Int} (h:¬ j < i) (k:K false cs):CmpR cs K .Gt (.int i) (.int j):=.gt ((decide_eq_false h).symm ▸ k)
section
variable {K:KF} {c0 cs:List Cell} {D E:List Rl} {m d:Nat} {x:V} {z:Int} {n r s:Option V}
noncomputable abbrev tslE (x:V) (c0:List Cell) (d:Nat) (z:Int) (n r s:Option V):Slots:=[some x,some (.ref c0.length),some (.ref d),some (.ref (c0.length + 2)),some (.ref (c0.length + 4)),some (.int z),n,r,s]
theorem zir (D:List Rl) (r:Rl):encs D ++ [enc r] = encs (D ++ [r]):=by unfold encs; rw [List.map_append]; rfl
theorem zbo {n:Nat} (h:n <= 100):n < lim:=Nat.lt_of_le_of_lt h (by decide)
section
variable {KK:KV} {r0:Rl} {x:V}
theorem zoa (tb:Tb cs (c0.length + 4) c0.length (encs D)) (hl:D.length <= 100) (hr:RlOk r0) (k:KK .none (cs.set c0.length (.list (pairsV (encs (D ++ [r0])))))):CallR Pt cs KK (.adr 172) [.ref (c0.length + 4),.str (mkS (nmL r0.n)),.str (mkS r0.tx)] [] :=
 zac ft_add ⟨c0.length + 4,mkS (nmL r0.n),mkS r0.tx,c0.length,encs D⟩ ⟨⟨tb,zdv hr.n,ze9 hr.p hr.g hr.q,Nat.le_trans (zjp hr.g) (by decide),by rw [zan]; exact zbo hl⟩,by rw [show encs D ++ [(mkS (nmL r0.n),mkS r0.tx)] = encs (D ++ [r0]) from zir D r0]; exact k⟩
theorem zq3 (tb:Tb cs (c0.length + 4) c0.length (encs D)) (hD:AllOk D) (hl:D.length <= 100) (hr:RlOk r0) (k:Option.rec (motive:=fun _=>Prop) (KK (.str (mkS r0.tx)) (cs.set c0.length (.list (pairsV (encs (D ++ [r0])))))) (fun w=>KK (.str (mkS w.tx)) cs) (D.filter (sameR r0.n)).head?) :
  CallR Pt cs KK (.adr 165) [.ref (c0.length + 4),.str (mkS (nmL r0.n)),.str (mkS r0.tx)] [] :=
 zac z3z ⟨c0.length + 4,mkS (nmL r0.n),mkS r0.tx,c0.length,encs D⟩ ⟨⟨⟨tb,zem hr.n,zg7 hr.n,zis hD⟩,zdv hr.n,ze9 hr.p hr.g hr.q,by rw [zan]; exact zbo hl⟩,by
  rw [show encs D ++ [(mkS (nmL r0.n),mkS r0.tx)] = encs (D ++ [r0]) from zir D r0,f_same hD hr.n]
  cases h:(D.filter (sameR r0.n)).head? with
  | none=>rw [h] at k; exact k
  | some w=>rw [h] at k; exact k⟩
theorem dl_ok (tb:Tb cs (c0.length + 4) c0.length (encs D)) (hD:AllOk D) (hl:D.length <= 100) (hr:RlOk r0):DlOk ⟨c0.length + 4,mkS (nmL r0.n),c0.length,encs D⟩ cs :=
 ⟨tb,zem hr.n,zg7 hr.n,zis hD,by rw [zan]; exact Nat.le_of_lt (zbo hl)⟩
theorem zv4 {KC:List Cell -> Prop} (tb:Tb cs (c0.length + 4) c0.length (encs D)) (hD:AllOk D) (hl:D.length <= 100) (hr:RlOk r0) (k:KC (cs.set c0.length (.list (pairsV (encs (D.filter (fun x=>!sameR r0.n x) ++ [r0])))))) :
  SetR Pt cs KC (.ref (c0.length + 4)) (.str (mkS (nmL r0.n))) (.str (mkS r0.tx)) :=
 .own tb.cls rfl (zac ft_set ⟨c0.length + 4,mkS (nmL r0.n),mkS r0.tx,c0.length,encs D⟩ ⟨⟨dl_ok tb hD hl hr,zdv hr.n,ze9 hr.p hr.g hr.q,by rw [zan]; exact zbo hl⟩,by
  rw [zgb hD hr.n,show encs (D.filter fun x=>!sameR r0.n x) ++ [(mkS (nmL r0.n),mkS r0.tx)] = encs (D.filter (fun x=>!sameR r0.n x) ++ [r0]) from zir _ r0]
  exact k⟩)
theorem zyi {KC:List Cell -> Prop} (tb:Tb cs (c0.length + 4) c0.length (encs D)) (hD:AllOk D) (hl:D.length <= 100) (hr:RlOk r0) (k:KC (cs.set c0.length (.list (pairsV (encs (D.filter fun x=>!sameR r0.n x)))))) :
  DelR Pt cs KC (.ref (c0.length + 4)) (.str (mkS (nmL r0.n))) :=
 .own tb.cls rfl (zac ft_del ⟨c0.length + 4,mkS (nmL r0.n),c0.length,encs D⟩ ⟨dl_ok tb hD hl hr,by rw [zgb hD hr.n]; exact k⟩)
theorem ziu (du:cs[d]? = some (.list (pairsV (encs D)))) (hl:D.length <= 100) (k:KK .none (cs.set d (.list (pairsV (encs (D ++ [r0])))))):MethR Pt cs KK .append (.ref d) [.tup [.str (mkS (nmL r0.n)),.str (mkS r0.tx)]] :=
 .append' du (by rw [za6,zan]; exact zbo hl) (congrArg (fun c=>cs.set d (Cell.list c)) (zt0 D r0)) k
theorem zya (hD:AllOk D) {k:Nat} (hn:k < 7):(encs D).filter (fun p=>!decide (p ∈ encs (D.filter (sameR k)))) = encs (D.filter fun x=>!sameR k x):=by
 rw [<- zf8 hD hn,zwq,zgb hD hn]
theorem zt4 {K:V -> List Cell -> Prop} {k0 a t:Nat} {c n:Option V} {r':Option V} (hD:AllOk D) (hl:D.length <= 100) (hr:RlOk r0) (du:cs[d]? = some (.list (pairsV (encs D)))) (q:K (.ref cs.length) (cs ++ [.list (pairsV (encs (D.filter fun x=>!sameR r0.n x)))])) :
  DueL (fun acc cs=>outL true acc cs K) (tsl x k0 d a t c n r' (some (.lst (pairsV (encs (D.filter (sameR r0.n))))))) [] d 0 cs:=by
 refine zyb du (encs D) 0 [] rfl (by rw [zan]; exact Nat.le_trans (Nat.le_of_eq (Nat.zero_add _)) (Nat.le_of_lt (zbo hl))) ?_
 rw [zya hD hr.n]
 exact ⟨by rw [List.nil_append,za6,zan]; exact Nat.le_trans (List.length_filter_le _ _) (Nat.le_of_lt (zbo hl)),q⟩
end
theorem zho (hD:AllOk D) (hl:D.length <= 100) (hm2:m <= 100) (T:TS c0 D D m d cs)
  (q:∀ m' d' cs' n r s,m' <= m + 1 -> TS c0 (stepM (m4 z) (rl4 z) D) (stepM (m4 z) (rl4 z) D) m' d' cs' -> K .next (tslE x c0 d' z n r s) cs'):bden (IS.sems Pt zd9) (tslE x c0 d z n r s) cs K:=by
 have hm:=m4_at z
 have hn:=n6_at z
 have hr:=zg3 z
 obtain ⟨ni,ne⟩:=z25 ⟨_,hn.2⟩
 have eN:(⟨#[(nmL (rl4 z).n).headD 0]⟩:Str) = mkS (nmL (rl4 z).n):=by rw [show nmL (rl4 z).n = [(nmL (rl4 z).n).headD 0] from ne]; rfl
 refine .fdivI (by decide) (.modI' (by decide) hn.1 ⟨_,.strN ni eN,.fdivI (by decide) (zac ft_rt (z.fdiv 24) ⟨(by decide:2 <= lim),?_⟩)⟩)
 have fl:=List.length_filter_le (sameR (rl4 z).n) D
 refine ⟨_,.cell T.du,zv6 (x:=x) T.du (zis hD) (zem hr.n) (encs D) 0 [] rfl (by rw [zan]; exact Nat.le_trans (Nat.le_of_eq (Nat.zero_add _)) (Nat.le_trans hl (by decide))) ?_⟩
 rw [zf8 hD hr.n]
 refine ⟨by rw [List.nil_append,za6,zan]; exact Nat.le_trans fl (Nat.le_trans hl (by decide)),?_⟩
 generalize m4 z = mm at hm q
 rcases mm with _ | _ | _ | _ | mm
 ·have T1:=T.setK (D ++ [rl4 z])
  exact .modI' (by decide) hm.1 (.eq (.intT rfl) ⟨T.tb.cls,zoa T.tb hl hr (.modI' (by decide) hm.1 (.gtF (by decide) (.modI' (by decide) hm.1 ⟨(by decide:2 <= lim),.inI (b:=true) (l:=[0,2]) (.tup _) rfl ⟨.append T1.du,(by decide:2 <= lim),ziu T1.du hl
   (q m d _ _ _ _ (Nat.le_succ _) (T1.setD (D ++ [rl4 z])))⟩⟩)))⟩)
 ·have hA:(tru m).length < lim:=by unfold tru; rw [List.length_replicate]; exact zbo hm2
  have eA:∀ c:List Cell,c.set (c0.length + 2) (.list (tru m ++ [.bool true])) = c.set (c0.length + 2) (.list (tru (m + 1))):=fun c=>by rw [zvr]
  refine .modI' (by decide) hm.1 (.eq (.intF (by decide)) (.modI' (by decide) hm.1 (.eq (.intT rfl) ⟨.append T.an,T.tb.cls,zq3 T.tb hD hl hr ?_⟩)))
  unfold stepM at q
  cases hf:D.filter (sameR (rl4 z).n) with
  | nil =>
   have T1:=(T.setK (D ++ [rl4 z]))
   have T2:=T1.setA
   refine ⟨(by decide:2 <= lim),(by decide:1 <= lim),.addL (.lst _) (.lst _) ⟨(by decide:1 <= lim),_,.seq (.lst _) rfl,_,.seq (.tup _) rfl,.eq (.strT rfl) (.append' T1.an hA (eA _) (.modI' (by decide) hm.1 (.gtF (by decide) (.modI' (by decide) hm.1 ⟨(by decide:2 <= lim),.inI (b:=true) (l:=[0,2]) (.tup _) rfl
    (.modI' (by decide) hm.1 (.eq (.intT rfl) ⟨Nat.zero_le _,.eq (zkr _) ⟨.append T2.du,(by decide:2 <= lim),ziu T2.du hl ?_⟩⟩))⟩))))⟩⟩
   rw [hf] at q
   exact q (m + 1) d _ _ _ _ (Nat.le_refl _) (T2.setD (D ++ [rl4 z]))
  | cons w ws =>
   have T2:=T.setA
   have lw:(pairsV (encs (w :: ws))).length + 1 <= lim:=by rw [za6,zan,<- hf]; exact Nat.lt_of_le_of_lt fl (zbo hl)
   refine ⟨(by decide:2 <= lim),(by decide:1 <= lim),.addL (.lst _) (.lst _) ⟨by rw [List.length_append]; exact lw,_,.seq (.lst _) rfl,_,.seq (.tup _) rfl,.eq (.strT rfl) (.append' T.an hA (eA _) (.modI' (by decide) hm.1 (.gtF (by decide) (.modI' (by decide) hm.1 ⟨(by decide:2 <= lim),.inI (b:=true) (l:=[0,2]) (.tup _) rfl
    (.modI' (by decide) hm.1 (.eq (.intT rfl) ⟨Nat.zero_le _,.eq (zkr _) ?_⟩))⟩))))⟩⟩
   rw [hf] at q
   exact q (m + 1) d _ _ _ _ (Nat.le_refl _) T2
 ·have T1:=T.setK (D.filter (fun x=>!sameR (rl4 z).n x) ++ [rl4 z])
  have T2:=T1.newD (D.filter fun x=>!sameR (rl4 z).n x)
  exact .modI' (by decide) hm.1 (.eq (.intF (by decide)) (.modI' (by decide) hm.1 (.eq (.intF (by decide)) (.modI' (by decide) hm.1 (.eq (.intT rfl) (zv4 T.tb hD hl hr
   (.modI' (by decide) hm.1 (.gtT (by decide) ⟨_,.cell T1.du,zt4 hD hl hr T1.du (.modI' (by decide) hm.1 ⟨(by decide:2 <= lim),.inI (b:=true) (l:=[0,2]) (.tup _) rfl ⟨.append T2.du,(by decide:2 <= lim),ziu T2.du (Nat.le_trans (List.length_filter_le _ _) hl)
    (q m _ _ _ _ _ (Nat.le_succ _) (T2.setD _))⟩⟩)⟩))))))))
 ·have T1:=T.setK (D.filter fun x=>!sameR (rl4 z).n x)
  have T2:=T1.newD (D.filter fun x=>!sameR (rl4 z).n x)
  exact .modI' (by decide) hm.1 (.eq (.intF (by decide)) (.modI' (by decide) hm.1 (.eq (.intF (by decide)) (.modI' (by decide) hm.1 (.eq (.intF (by decide)) (zyi T.tb hD hl hr
   (.modI' (by decide) hm.1 (.gtT (by decide) ⟨_,.cell T1.du,zt4 hD hl hr T1.du (.modI' (by decide) hm.1 ⟨(by decide:2 <= lim),.inI (b:=true) (l:=[0,2]) (.tup _) rfl (.modI' (by decide) hm.1 (.eq (.intF (by decide)) (q m _ _ _ _ _ (Nat.le_succ _) T2)))⟩)⟩))))))))
 ·exact absurd hm.2 (by lia)
end
noncomputable def D0:List Rl:=[⟨6,2,11,0⟩,⟨0,2,7,4⟩,⟨3,6,24,5⟩,⟨4,3,45,6⟩,⟨5,6,44,4⟩]
noncomputable def fin0:Rl:=⟨1,6,20,7⟩
noncomputable def fin1:Rl:=⟨2,6,39,6⟩
noncomputable def fin2:Rl:=⟨5,6,47,6⟩
noncomputable def stepZ (D:List Rl) (z:Int):List Rl:=stepM (m4 z) (rl4 z) D
structure Ab where
 a:Int
 b:Int
 c:Int
noncomputable def D3 (x:Ab):List Rl:=stepZ (stepZ (stepZ D0 x.a) x.b) x.c
noncomputable def dueOf (x:Ab):List Rl:=D3 x ++ [fin0] ++ [fin1] ++ [fin2]
theorem z3m:[V.tup [.str (S "sB"),.str (S "a|s")],.tup [.str (S "s"),.str (S "a+b")],.tup [.str (S "A"),.str (S "~B")],.tup [.str (S "b"),.str (S "A...")],.tup [.str (S "B"),.str (S "->b")]] = pairsV (encs D0):=by
 have h:[(S "sB",S "a|s"),(S "s",S "a+b"),(S "A",S "~B"),(S "b",S "A..."),(S "B",S "->b")] = encs D0:=by decide +kernel
 rw [<- h]; rfl
theorem fin_eq:[V.tup [.str (S "S"),.str (S "== ")],.tup [.str (S "a"),.str (S "**=")],.tup [.str (S "B"),.str (S "!")]] = pairsV (encs [fin0,fin1,fin2]):=by
 have h:[(S "S",S "== "),(S "a",S "**="),(S "B",S "!")] = encs [fin0,fin1,fin2]:=by decide +kernel
 rw [<- h]; rfl
theorem zz4 {D:List Rl} (h:(D.all fun r=>Nat.blt r.n 7 && (Nat.blt r.p 7 && (Nat.blt r.g 48 && Nat.blt r.q 8))) = true):AllOk D:=fun r hr=>by
 have:=List.all_eq_true.mp h r hr
 simp only [Bool.and_eq_true,Nat.blt_eq] at this
 exact ⟨this.1,this.2.1,this.2.2.1,this.2.2.2⟩
theorem D0_ok:AllOk D0:=zz4 (by decide +kernel)
theorem zep:AllOk [fin0,fin1,fin2]:=zz4 (by decide +kernel)
theorem D3_ok (x:Ab):AllOk (D3 x):=zfh (zfh (zfh D0_ok (zg3 _) _) (zg3 _) _) (zg3 _) _
theorem due_ok (x:Ab):AllOk (dueOf x):=zei (zei (zei (D3_ok x) (zep _ List.mem_cons_self)) (zep _ (List.mem_cons_of_mem _ List.mem_cons_self))) (zep _ (List.mem_cons_of_mem _ (List.mem_cons_of_mem _ List.mem_cons_self)))
theorem zcm (D:List Rl) (z:Int):(stepZ D z).length <= D.length + 1:=zvt _
theorem z08 (x:Ab):(D3 x).length <= 8:=Nat.le_trans (zcm _ _) (Nat.succ_le_succ (Nat.le_trans (zcm _ _) (Nat.succ_le_succ (zcm D0 _))))
theorem z36 (x:Ab):(dueOf x).length <= 11:=by
 unfold dueOf
 rw [List.length_append,List.length_append,List.length_append]
 exact Nat.add_le_add_right (z08 x) 3
theorem listC {cs:List Cell} {K:V -> List Cell -> Prop} {xs ys:List V} {n:Nat} (e:xs = ys) (hl:ys.length <= lim) (hn:cs.length = n) (q:K (.ref n) (cs ++ [.list ys])):listK true xs cs K:=by subst e hn; exact ⟨hl,q⟩
theorem zsr {P:Prm} {KK:KV} {cs:List Cell} {v:V} {b:Bool} {xs:List V} {n:Nat} (h:SeqR cs v b xs) (hl:xs.length <= lim) (hn:cs.length = n) (q:KK (.ref n) (cs ++ [.list xs])):CallR P cs KK (.typ "list") [v] []:=by subst hn; exact .list h hl q
theorem z28 {KK:KV} {cs:List Cell} {k n:Nat} {D:List Rl} (h:cs[k]? = some (.list (pairsV (encs D)))) (hD:AllOk D) (hn:cs.length = n) (q:KK (.ref (n + 1)) (cs ++ [.attr (some (.ref k)),.inst 175 n])):CallR Pt cs KK (.adr 175) [.ref k] []:=by
 subst hn
 exact zac ft_mk ⟨k,encs D⟩ ⟨h,enc_ok hD,q⟩
section
variable {K:KF} {c0 cs:List Cell} {D:List Rl} {m d:Nat} {x:V} {c n r s:Option V}
theorem TS.start (c0:List Cell):TS c0 D0 D0 0 (c0.length + 1) (((c0 ++ [.list (pairsV (encs D0))]) ++ [.list (pairsV (encs D0))]) ++ [.list []] ++ [.attr (some (.ref c0.length)),.inst 175 (c0.length + 3)]):=by
 have e:((c0 ++ [.list (pairsV (encs D0))]) ++ [.list (pairsV (encs D0))]) ++ [.list []] ++ [.attr (some (.ref c0.length)),.inst 175 (c0.length + 3)] = c0 ++ [Cell.list (pairsV (encs D0)),.list (pairsV (encs D0)),.list [],.attr (some (.ref c0.length)),.inst 175 (c0.length + 3)]:=by
  rw [List.append_assoc,List.append_assoc,List.append_assoc]; rfl
 rw [e]
 have g:∀ k c,[Cell.list (pairsV (encs D0)),.list (pairsV (encs D0)),.list [],.attr (some (.ref c0.length)),.inst 175 (c0.length + 3)][k]? = some c -> (c0 ++ [Cell.list (pairsV (encs D0)),.list (pairsV (encs D0)),.list [],.attr (some (.ref c0.length)),.inst 175 (c0.length + 3)])[c0.length + k]? = some c:=fun k c h=>by
  rw [List.getElem?_append_right (Nat.le_add_right _ _),Nat.add_sub_cancel_left]; exact h
 exact ⟨⟨_,rfl⟩,⟨⟨c0.length + 3,g 4 _ rfl,g 3 _ rfl⟩,g 0 _ rfl⟩,g 1 _ rfl,g 2 _ rfl,Nat.lt_succ_self _,Nat.ne_of_lt (Nat.lt_succ_self _)⟩
noncomputable abbrev tslF (x:V) (c0:List Cell) (d:Nat) (c n r s:Option V):Slots:=[some x,some (.ref c0.length),some (.ref d),some (.ref (c0.length + 2)),some (.ref (c0.length + 4)),c,n,r,s]
theorem zio {r0:Rl} {vs:List V} (hr:RlOk r0) (hl:D.length <= 100) (T:TS c0 D D m d cs)
  (q:∀ cs' n r,TS c0 (D ++ [r0]) (D ++ [r0]) m d cs' -> ForR zby (bden (IS.sems Pt zce)) K (.items vs) (tslF x c0 d c n r s) cs'):ForR zby (bden (IS.sems Pt zce)) K (.items (pairV (enc r0) :: vs)) (tslF x c0 d c n r s) cs :=
 have T1:=T.setK (D ++ [r0])
 .go (.items _ _) rfl ⟨T.tb.cls,zoa T.tb hl hr ⟨.append T1.du,(by decide:2 <= lim),ziu T1.du hl (q _ _ _ (T1.setD (D ++ [r0])))⟩⟩
end
theorem finS {t:Tgt} {body:Slots -> List Cell -> KF -> Prop} {K:KF} {xs ys:List V} {sl:Slots} {cs:List Cell} (e:xs = ys) (q:ForR t body K (.items ys) sl cs):ForR t body K (.items xs) sl cs:=by subst e; exact q
noncomputable def tabS:Spec:=Sp (fun x:Ab=>[.lst [.int x.a,.int x.b,.int x.c]]) [] noKw fun x cs K=>∀ cs' m d,TS cs (dueOf x) (dueOf x) m d cs' -> K (.tup [.ref (cs.length + 4),.ref cs.length,.ref d,.ref (cs.length + 2)]) cs'
section
variable {C:Cx} {K:Frag} (F2:Facts2 C Pt K) (L:LimAt C)
include F2 L
theorem zwo (Fk:FnK K 264 F_law_table) (B:Bd1 K 264 (S "cells")):FnOk C.up 264 tabS :=
 fn1 (sl:=fun x:Ab=>[some (.lst [.int x.a,.int x.b,.int x.c]),none,none,none,none,none,none,none,none]) F2 L Fk (zmv Tt) B (fun _=>rfl) fun x cs K' q=>by
  have h5:(pairsV (encs D0)).length <= lim:=by rw [za6,zan]; decide
  have S0:=TS.start cs
  have e1:(cs ++ [Cell.list (pairsV (encs D0))]).length = cs.length + 1:=List.length_append
  have e2:(cs ++ [Cell.list (pairsV (encs D0))] ++ [Cell.list (pairsV (encs D0))]).length = cs.length + 2:=by rw [List.length_append,e1]; rfl
  have e3:(cs ++ [Cell.list (pairsV (encs D0))] ++ [Cell.list (pairsV (encs D0))] ++ [Cell.list []]).length = cs.length + 3:=by rw [List.length_append,e2]; rfl
  have g0:(cs ++ [Cell.list (pairsV (encs D0))] ++ [Cell.list (pairsV (encs D0))] ++ [Cell.list []])[cs.length]? = some (.list (pairsV (encs D0))):=by rw [List.append_assoc,List.append_assoc,List.getElem?_append_right (Nat.le_refl _),Nat.sub_self]; rfl
  have l1:(stepZ D0 x.a).length <= 6:=zcm D0 _
  have l2:(stepZ (stepZ D0 x.a) x.b).length <= 7:=Nat.le_trans (zcm _ _) (Nat.succ_le_succ l1)
  have o1:AllOk (stepZ D0 x.a):=zfh D0_ok (zg3 _) _
  have o2:AllOk (stepZ (stepZ D0 x.a) x.b):=zfh o1 (zg3 _) _
  have l3:=z08 x
  refine ⟨(by decide:2 <= lim),(by decide:2 <= lim),(by decide:2 <= lim),(by decide:2 <= lim),(by decide:2 <= lim),listC z3m h5 rfl (zsr (.ref (zbs _ _)) h5 e1 ⟨Nat.zero_le _,?_⟩)⟩
  rw [e2]
  refine z28 g0 D0_ok e3 ⟨(by decide:3 <= lim),rfl,?_⟩
  refine ⟨_,.lst _,.go (.items _ _) rfl (zho D0_ok (by decide) (Nat.zero_le _) S0 fun m1 d1 cs1 n1 r1 s1 h1 T1=>.go (.items _ _) rfl (zho o1 (Nat.le_trans l1 (by decide)) (Nat.le_trans h1 (by decide)) T1 fun m2 d2 cs2 n2 r2 s2 h2 T2 =>
   .go (.items _ _) rfl (zho o2 (Nat.le_trans l2 (by decide)) (Nat.le_trans h2 (Nat.le_trans (Nat.succ_le_succ h1) (by decide))) T2 fun m3 d3 cs3 n3 r3 s3 h3 T3=>.done .items ?_)))⟩
  have w1:=zep fin0 List.mem_cons_self
  have w2:=zep fin1 (List.mem_cons_of_mem _ List.mem_cons_self)
  have w3:=zep fin2 (List.mem_cons_of_mem _ (List.mem_cons_of_mem _ List.mem_cons_self))
  have k1:(D3 x ++ [fin0]).length <= 9:=by rw [List.length_append]; exact Nat.succ_le_succ l3
  have k2:(D3 x ++ [fin0] ++ [fin1]).length <= 10:=by rw [List.length_append]; exact Nat.succ_le_succ k1
  refine ⟨(by decide:2 <= lim),(by decide:2 <= lim),(by decide:2 <= lim),(by decide:3 <= lim),_,.tup _,?_⟩
  refine finS fin_eq ?_
  exact zio w1 (Nat.le_trans l3 (by decide)) T3 fun cs4 n4 r4 T4=>zio w2 (Nat.le_trans k1 (by decide)) T4 fun cs5 n5 r5 T5=>zio w3 (Nat.le_trans k2 (by decide)) T5 fun cs6 n6 r6 T6=>.done .items ⟨(by decide:4 <= lim),q _ _ _ T6⟩
end
noncomputable def lc (c:Nat):Nat:=if c = 115 \/ c = 83 then 0 else if c = 97 \/ c = 65 then 1 else if c = 98 \/ c = 66 then 2 else 5
noncomputable def symOk (t:Nat):Bool:=(Nat.ble 7 t && Nat.blt t 55) || (Nat.ble 256 t && isLt (t - 256))
noncomputable def ltk (t:Nat):List Nat:=if 256 <= t /\ lc (t - 256) < 3 then [lc (t - 256)] else []
noncomputable def opk (t:Nat):List Nat:=if t < 256 then [t] else []
noncomputable def wt (t:Nat):Nat:=if 256 <= t /\ lc (t - 256) < 3 then 3 else 1
noncomputable def lets (st:List Nat):List Nat:=st.flatMap ltk
noncomputable def ops (st:List Nat):List Nat:=st.flatMap opk
noncomputable def wts (st:List Nat):Nat:=(st.map wt).sum
noncomputable def shS (p q:Nat):Nat:=if p < 6 then (if q < 6 then 4 + 3 * (p / 2) + q / 2 else p / 2 + 1) else (if q < 6 then q / 2 + 1 else 0)
noncomputable def ru (r:Rl):Nat × Nat:=(lt7 r.n,shS r.p r.q)
theorem zfi:∀ p:Fin 7,∀ q:Fin 8,shS p.val q.val < 13 /\ (lets (tkP (preL p.val)) ++ lets (tkP (posL q.val)) = L3.shp (shS p.val q.val)) /\ (ops (tkP (preL p.val)) = [] /\ ops (tkP (posL q.val)) = []) /\ wts (tkP (preL p.val)) + wts (tkP (posL q.val)) <= 6 /\ ((tkP (preL p.val)).all symOk && (tkP (posL q.val)).all symOk) = true:=by decide +kernel
theorem zd0 {f:Nat -> List Nat} (a b:List Nat):(a ++ b).flatMap f = a.flatMap f ++ b.flatMap f:=List.flatMap_append
theorem zhk (a b:List Nat):wts (a ++ b) = wts a + wts b:=by unfold wts; rw [List.map_append,List.sum_append]
theorem zdm (a:Nat) (b:List Nat):wts (a :: b) = wt a + wts b:=by unfold wts; rw [List.map_cons,List.sum_cons]
section
variable {r:Rl} (h:RlOk r)
include h
theorem op_lt:r.g + 7 < 256:=Nat.lt_of_lt_of_le (Nat.add_lt_add_right h.g 7) (by decide)
theorem zst:lets (tkR r.p r.g r.q) = L3.shp (shS r.p r.q):=by
 rw [<- (zfi ⟨_,h.p⟩ ⟨_,h.q⟩).2.1]
 have e:ltk (r.g + 7) = []:=if_neg fun z=>absurd z.1 (Nat.not_le.mpr (op_lt h))
 unfold tkR tkS lets
 rw [zd0,List.flatMap_cons,e]
 rfl
theorem ops_tk:ops (tkR r.p r.g r.q) = [r.g + 7]:=by
 have f:=(zfi ⟨_,h.p⟩ ⟨_,h.q⟩).2.2.1
 have f1:List.flatMap opk (tkP (preL r.p)) = []:=f.1
 have f2:List.flatMap opk (tkP (posL r.q)) = []:=f.2
 have e:opk (r.g + 7) = [r.g + 7]:=if_pos (op_lt h)
 unfold tkR tkS ops
 rw [zd0,List.flatMap_cons,e,f1,f2]
 rfl
theorem wts_tk:wts (tkR r.p r.g r.q) <= 7:=by
 have f:=(zfi ⟨_,h.p⟩ ⟨_,h.q⟩).2.2.2.1
 have e:wt (r.g + 7) = 1:=if_neg fun z=>absurd z.1 (Nat.not_le.mpr (op_lt h))
 unfold tkR tkS
 rw [zhk,zdm,e]
 have f':wts (tkP (preL r.p)) + wts (tkP (posL r.q)) <= 6:=f
 lia
theorem sym_tk:(tkR r.p r.g r.q).all symOk = true:=by
 have f:=(Bool.and_eq_true _ _).mp (zfi ⟨_,h.p⟩ ⟨_,h.q⟩).2.2.2.2
 have e:symOk (r.g + 7) = true:=by
  unfold symOk
  rw [Bool.or_eq_true,Bool.and_eq_true,Nat.ble_eq,Nat.blt_eq]
  exact .inl ⟨Nat.le_add_left _ _,Nat.add_lt_add_right h.g 7⟩
 unfold tkR tkS
 rw [List.all_append,List.all_cons,e,f.1,f.2]
 rfl
end
noncomputable def plF (x:Nat) (D:List Rl):Nat -> List Nat:=List.rec (fun _=>[]) (fun r _ ih i=>Bool.rec (ih (i + 1)) (i :: ih (i + 1)) (decide (lt7 r.n = x))) D
noncomputable def ledR (x:Nat) (r:Rl):Bool:=decide (lt7 r.n = x)
theorem zdj (x:Nat) (r:Rl) (D:List Rl) (i:Nat):plF x (r :: D) i = Bool.rec (plF x D (i + 1)) (i :: plF x D (i + 1)) (decide (lt7 r.n = x)):=rfl
theorem zz1 (x:Nat) (D:List Rl):∀ i,(plF x D i).length = (D.filter (ledR x)).length:=by
 induction D with
 | nil=>exact fun _=>rfl
 | cons r D ih =>
  intro i
  rw [zdj,List.filter_cons,show ledR x r = decide (lt7 r.n = x) from rfl]
  cases decide (lt7 r.n = x) with
  | false=>exact ih _
  | true=>exact congrArg (· + 1) (ih _)
theorem pl_get (x:Nat) (D:List Rl):∀ (i j k:Nat),(plF x D i)[j]? = some k -> ∃ r,i <= k /\ D[k - i]? = some r /\ lt7 r.n = x /\ (D.filter (ledR x))[j]? = some r:=by
 induction D with
 | nil=>intro i j k h; cases h
 | cons r D ih =>
  intro i j k h
  rw [zdj] at h
  rw [List.filter_cons,show ledR x r = decide (lt7 r.n = x) from rfl]
  cases hd:decide (lt7 r.n = x) with
  | false =>
   rw [hd] at h
   obtain ⟨s,h1,h2,h3,h4⟩:=ih (i + 1) j k h
   refine ⟨s,Nat.le_of_succ_le h1,?_,h3,h4⟩
   rw [show k - i = (k - (i + 1)) + 1 by lia]
   exact h2
  | true =>
   rw [hd] at h
   cases j with
   | zero =>
    cases h
    exact ⟨r,Nat.le_refl _,by rw [Nat.sub_self]; rfl,of_decide_eq_true hd,rfl⟩
   | succ j =>
    obtain ⟨s,h1,h2,h3,h4⟩:=ih (i + 1) j k h
    refine ⟨s,Nat.le_of_succ_le h1,?_,h3,h4⟩
    rw [show k - i = (k - (i + 1)) + 1 by lia]
    exact h2
theorem pl_app (x:Nat) (D E:List Rl):∀ i,plF x (D ++ E) i = plF x D i ++ plF x E (i + D.length):=by
 induction D with
 | nil=>exact fun _=>rfl
 | cons r D ih =>
  intro i
  rw [List.cons_append,zdj,zdj,ih,List.length_cons,show i + 1 + D.length = i + (D.length + 1) by lia]
  cases decide (lt7 r.n = x) <;> rfl
noncomputable def fins:List Rl:=[fin0,fin1,fin2]
theorem z2q (X:List Rl) {x:Nat} (hx:x < 3):plF x (X ++ fins) 0 = plF x X 0 ++ [X.length + x]:=by
 rw [pl_app,Nat.zero_add]
 rcases x with _ | _ | _ | x
 ·rfl
 ·rfl
 ·rfl
 ·exact absurd hx (by lia)
theorem z2p {D:List Rl}:∀ i,plF 5 D i = []:=by
 induction D with
 | nil=>exact fun _=>rfl
 | cons r D ih =>
  intro i
  have h:=zew r.n
  rw [zdj,decide_eq_false (fun z=>by rw [z] at h; exact absurd h (by decide))]
  exact ih _
noncomputable def bagF (c:List Nat):Nat -> Nat:=List.rec (fun _=>0) (fun a _ ih i=>a * 8 ^ i + ih (i + 1)) c
noncomputable def bagOf (c:List Nat):Nat:=bagF c 0
theorem zmp (c:List Nat):∀ (k i:Nat),k < c.length -> bagF (c.set k (c.getD k 0 + 1)) i = bagF c i + 8 ^ (i + k):=by
 induction c with
 | nil=>intro k i h; exact absurd h (Nat.not_lt_zero _)
 | cons a c ih =>
  intro k i h
  cases k with
  | zero =>
   show (a + 1) * 8 ^ i + bagF c (i + 1) = (a * 8 ^ i + bagF c (i + 1)) + 8 ^ i
   rw [Nat.add_mul,Nat.one_mul]; lia
  | succ k =>
   have e:=ih k (i + 1) (Nat.lt_of_succ_lt_succ h)
   show a * 8 ^ i + bagF (c.set k (c.getD k 0 + 1)) (i + 1) = (a * 8 ^ i + bagF c (i + 1)) + 8 ^ (i + (k + 1))
   rw [e,show i + 1 + k = i + (k + 1) by lia]; lia
theorem zy4 (n:Nat):∀ i,bagF (List.replicate n 0) i = 0:=by
 induction n with
 | zero=>exact fun _=>rfl
 | succ n ih=>intro i; show 0 * 8 ^ i + bagF (List.replicate n 0) (i + 1) = 0; rw [ih,Nat.zero_mul]
noncomputable def opsOf (D:List Rl) (c:List Nat):List Nat:=(D.zip c).flatMap fun rk=>List.replicate rk.2 (rk.1.g + 7)
theorem zr2 (D:List Rl):∀ (c:List Nat) (k:Nat) (r:Rl),c.length = D.length -> D[k]? = some r -> (opsOf D (c.set k (c.getD k 0 + 1))).Perm ((r.g + 7) :: opsOf D c):=by
 induction D with
 | nil=>intro c k r _ h; cases h
 | cons s D ih =>
  intro c k r hc h
  cases c with
  | nil=>cases hc
  | cons a c =>
   cases k with
   | zero =>
    cases h
    show (List.replicate (a + 1) (s.g + 7) ++ opsOf D c).Perm ((s.g + 7) :: (List.replicate a (s.g + 7) ++ opsOf D c))
    rw [List.replicate_succ]
    exact List.Perm.refl _
   | succ k =>
    have e:=ih c k r (Nat.succ.inj hc) h
    show (List.replicate a (s.g + 7) ++ opsOf D (c.set k (c.getD k 0 + 1))).Perm ((r.g + 7) :: (List.replicate a (s.g + 7) ++ opsOf D c))
    exact (e.append_left _).trans List.perm_middle
theorem zpa (D:List Rl):∀ n,opsOf D (List.replicate n 0) = []:=by
 induction D with
 | nil=>exact fun _=>rfl
 | cons r D ih =>
  intro n
  cases n with
  | zero=>rfl
  | succ n=>exact ih n
theorem zwe {α:Type} (xs:List α):(List.range xs.length).filterMap (xs[·]?) = xs:=by
 have h:=krv_all xs.toArray
 rw [List.size_toArray] at h
 refine Eq.trans (congrArg (fun f=>List.filterMap f _) (funext fun i=>List.getElem?_toArray.symm)) (h.trans rfl)
theorem zoo {α:Type} (xs:List α):sliceL xs none none (some (-1)) = xs.reverse:=by
 unfold sliceL
 rw [krv_bounds]
 show (sliceRange ((xs.length:Int) - 1) (-1) (-1)).filterMap (xs[·]?) = _
 rw [krv_sliceRange,krv_range,List.filterMap_reverse,zwe]
noncomputable def Td:Tab:=[(114,getAllS),(269,readS),(231,tokS fun i=>decide (i < 256)),(238,tokS fun i=>decide (256 <= i)),(245,tokS fun i=>decide (i = 0))]
noncomputable def Pd:Prm:=law3.prm Td
theorem fd_all:Pd.fn 114 = getAllS:=rfl
theorem z33:Pd.fn 269 = readS:=rfl
theorem z0i:Pd.fn 231 = tokS fun i=>decide (i < 256):=rfl
theorem z0j:Pd.fn 238 = tokS fun i=>decide (256 <= i):=rfl
theorem z0k:Pd.fn 245 = tokS fun i=>decide (i = 0):=rfl
section
variable {cs:List Cell} {KK:KV} {P:Prm}
theorem zcy {a:Addr} {f:Int -> Bool} {x:Int} {b:Bool} (h:P.fn a = tokS f) (e:f x = b) (k:KK (.bool b) cs):CallR P cs KK (.adr a) [.int x] []:=zac h x (by show KK (.bool (f x)) cs; rw [e]; exact k)
end
noncomputable def pileV (st:List Nat):List V:=intV 0 :: st.reverse.map intV
theorem zrw (t:Nat) (st:List Nat):pileV (t :: st) = pileV st ++ [intV t]:=by unfold pileV; rw [List.reverse_cons,List.map_append]; rfl
theorem zwh (T st:List Nat):pileV st ++ (T.map intV).reverse = pileV (T ++ st):=by unfold pileV; rw [List.reverse_append,List.map_append,<- List.map_reverse]; rfl
theorem zwg (st:List Nat):(pileV st).length = st.length + 1:=by unfold pileV; rw [List.length_cons,List.length_map,List.length_reverse]
noncomputable def dcs (c0:List Cell) (ch:Nat) (xs:List Int) (P:List V) (tl:List Nat) (ext:List Cell):List Cell:=c0.set ch (.list (xs.map .int)) ++ (.list P :: .list (tl.map intV) :: ext)
section
variable {c0:List Cell} {ch:Nat} {xs xs':List Int} {P P':List V} {tl tl':List Nat} {ext:List Cell} {l k:Nat} {D:List Rl}
theorem dcs_0:(dcs c0 ch xs P tl ext)[c0.length]? = some (.list P):=by
 unfold dcs
 rw [List.getElem?_append_right (by rw [List.length_set]; exact Nat.le_refl _),List.length_set,Nat.sub_self]; rfl
theorem dcs_1:(dcs c0 ch xs P tl ext)[c0.length + 1]? = some (.list (tl.map intV)):=by
 unfold dcs
 rw [List.getElem?_append_right (by rw [List.length_set]; exact Nat.le_succ _),List.length_set,Nat.add_sub_cancel_left]; rfl
theorem dcs_c (h:ch < c0.length):(dcs c0 ch xs P tl ext)[ch]? = some (.list (xs.map .int)):=by
 unfold dcs
 rw [List.getElem?_append_left (by rw [List.length_set]; exact h),List.getElem?_set_self h]
theorem dcs_o {n:Nat} {c:Cell} (hn:n ≠ ch) (h:c0[n]? = some c):(dcs c0 ch xs P tl ext)[n]? = some c:=by
 unfold dcs
 rw [List.getElem?_append_left (by rw [List.length_set]; exact zaa h),List.getElem?_set_ne hn.symm]
 exact h
theorem zuf:(dcs c0 ch xs P tl ext).set c0.length (.list P') = dcs c0 ch xs P' tl ext:=by
 unfold dcs
 rw [List.set_append_right _ _ (by rw [List.length_set]; exact Nat.le_refl _),List.length_set,Nat.sub_self]; rfl
theorem dcs_s1:(dcs c0 ch xs P tl ext).set (c0.length + 1) (.list (tl'.map intV)) = dcs c0 ch xs P tl' ext:=by
 unfold dcs
 rw [List.set_append_right _ _ (by rw [List.length_set]; exact Nat.le_succ _),List.length_set,Nat.add_sub_cancel_left]; rfl
theorem dcs_sc (h:ch < c0.length):(dcs c0 ch xs P tl ext).set ch (.list (xs'.map .int)) = dcs c0 ch xs' P tl ext:=by
 unfold dcs
 rw [List.set_append_left _ _ (by rw [List.length_set]; exact h),List.set_set]
theorem z4c (c:Cell):dcs c0 ch xs P tl ext ++ [c] = dcs c0 ch xs P tl (ext ++ [c]):=by
 unfold dcs
 rw [List.append_assoc]; rfl
theorem z0p (t:Tb c0 l k (encs D)) (hk:ch ≠ k) {zs:List V} (hc:c0[ch]? = some (.list zs)):Tb (dcs c0 ch xs P tl ext) l k (encs D):=(zhn t hk hc (fun _ _ e=>nomatch e) (fun _ e=>nomatch e)).app _
end
theorem z0c:∀ c:Fin 116,isLt c.val = true -> (Txt.lower (mkS [c.val]) = mkS [[115,97,98,0,0,32].getD (lc c.val) 0]) /\ (lc c.val < 3 \/ lc c.val = 5) /\ [c.val].any nameBad = false:=by decide +kernel
theorem zl9 {c:Nat} (h:isLt c = true):c < 116:=by
 unfold isLt at h
 rw [List.contains_iff_mem] at h
 have:∀ x ∈ [115,83,97,65,98,66,32],x < 116:=by decide
 exact this c h
noncomputable def loC (x:Nat):List Nat:=[[115,97,98,0,0,32].getD x 0]
theorem zl6 {c:Nat} (h:isLt c = true):Txt.lower (mkS [c]) = mkS (loC (lc c)):=(z0c ⟨c,zl9 h⟩ h).1
theorem lc_of {c:Nat} (h:isLt c = true):lc c < 3 \/ lc c = 5:=(z0c ⟨c,zl9 h⟩ h).2.1
theorem lo_fin:∀ n:Fin 4,∀ x:Fin 6,(x.val < 3 \/ x.val = 5) -> (lowL n.val = loC x.val ↔ n.val = x.val):=by decide +kernel
theorem low_c {r:Rl} {c:Nat} (hr:r.n < 7) (h:isLt c = true):decide (Txt.lower (enc r).1 = Txt.lower (mkS [c])) = ledR (lc c) r:=by
 have hl:=lc_of h
 have hx:lc c < 6:=by lia
 unfold ledR enc
 refine decide_eq_decide.mpr ?_
 show Txt.lower (mkS (nmL r.n)) = _ ↔ _
 rw [zbr hr,zl6 h,<- lo_fin ⟨_,zew _⟩ ⟨_,hx⟩ hl]
 exact ⟨zek,congrArg mkS⟩
theorem zsm {c:Nat} (h:isLt c = true):lowB (mkS [c]):=by unfold lowB; rw [zl6 h]; exact (by decide:1 <= lim)
theorem zwx {c:Nat} (h:isLt c = true):nameOk (Txt.lower (mkS [c])):=by
 rw [zl6 h]
 have:∀ x:Fin 6,(loC x.val).any nameBad = false \/ ¬ (x.val < 3 \/ x.val = 5):=by decide +kernel
 have hl:=lc_of h
 exact (this ⟨lc c,by lia⟩).resolve_right fun z=>z hl
noncomputable def rtsV (x:Nat) (D:List Rl):List V:=(D.filter (ledR x)).map fun r=>.str (mkS r.tx)
section
variable {D:List Rl} {c:Nat}
theorem all_c (h:AllOk D) (hc:isLt c = true):allV (encs D) (Txt.lower (mkS [c])) = rtsV (lc c) D:=by
 unfold allV rtsV encs
 rw [List.filter_map,List.map_map]
 refine congrArg (List.map _) (List.filter_congr fun r hr=>?_)
 exact low_c (h r hr).n hc
end
section
variable {cs:List Cell} {D:List Rl} {l k d c:Nat} {KK:KV} {K:List V -> List Cell -> Prop}
theorem zxv (tb:Tb cs l k (encs D)) (hD:AllOk D) (hl:D.length <= 100) (hc:isLt c = true) (q:KK (.lst (rtsV (lc c) D)) cs):CallR Pd cs KK (.adr 114) [.ref l,.str (mkS [c])] [] :=
 zac fd_all ⟨l,mkS [c],k,encs D⟩ ⟨⟨⟨tb,zsm hc,zwx hc,zis hD⟩,by rw [zan]; exact Nat.le_of_lt (zbo hl)⟩,by rw [all_c hD hc]; exact q⟩
theorem ziz (hc:isLt c = true) (q:KK (.str (mkS [c])) cs):CallR Pd cs KK (.bi "chr") [.int (c:Nat)] [] :=
 .chr ⟨Int.natCast_nonneg _,Int.lt_of_lt_of_le (Int.ofNat_lt.mpr (zl9 hc)) (by decide)⟩ q
theorem zll (c:Nat):((256 + c:Nat):Int) - 256 = (c:Nat):=by lia
theorem zwf (h:cs[d]? = some (.list (pairsV (encs D)))) (hD:AllOk D) (hc:isLt c = true) {ta du cx pi tl bg tu ri pc pk:Option V} (r:List Rl):∀ (i:Nat) (acc:List V),D.drop i = r -> acc.length + r.length <= lim -> K (acc ++ (plF (lc c) r i).map intV) cs ->
  CompR zc8 (boolT .And (IE.sems Pd zdb)) (emitL (zde.sem Pd).val) [none,none,none,ta,du,cx,pi,tl,bg,tu,some (intV (256 + c)),ri,pc,pk] K acc (.enumc d i) cs:=by
 induction r with
 | nil =>
  intro i acc e _ q
  exact .done (.enumc h (by rw [List.getElem?_eq_none_iff,za6,zan]; exact List.drop_eq_nil_iff.mp e)) (by rw [<- List.append_nil acc]; exact q)
 | cons r0 r ih =>
  intro i acc e hl q
  rw [List.length_cons] at hl
  have hx:(pairsV (encs D))[i]? = some (pairV (enc r0)):=by
   have:(D.drop i)[0]? = some r0:=by rw [e]; rfl
   rw [List.getElem?_drop] at this
   unfold pairsV encs
   rw [List.getElem?_map,List.getElem?_map,show D[i]? = some r0 from this]; rfl
  have hr:=hD r0 (zag e)
  have hb:=low_c hr.n hc
  rw [zdj] at q
  by_cases he:Txt.lower (enc r0).1 = Txt.lower (mkS [c])
  ·rw [decide_eq_true he] at hb
   rw [show decide (lt7 r0.n = lc c) = true from hb.symm] at q
   refine .go (.enumc h hx) rfl ⟨_,.seq (.tup _) rfl,.lower _,.lower (zem hr.n) (.subI' (zll c) (ziz hc ⟨.lower _,.lower (zsm hc) (.eq (.strT he) ⟨ze1 (b:=r.length) hl,ih _ _ (zao e) (by rw [List.length_append]; exact zed hl) ?_⟩)⟩))⟩
   rw [List.append_assoc]
   exact q
  ·rw [decide_eq_false he] at hb
   rw [show decide (lt7 r0.n = lc c) = false from hb.symm] at q
   exact .go (.enumc h hx) rfl ⟨_,.seq (.tup _) rfl,.lower _,.lower (zem hr.n) (.subI' (zll c) (ziz hc ⟨.lower _,.lower (zsm hc) (.eq (.strF he) (ih _ _ (zao e) (zhj hl) q))⟩))⟩
theorem zv9 (h:cs[d]? = some (.list (pairsV (encs D)))) {ta cx pi tl bg tu to ri pc pk:Option V} (ps:List Nat):∀ (acc:List V) (zs:List V),All2 (fun p z=>∃ r,D[p]? = some r /\ z = .str (mkS r.tx)) ps zs -> acc.length + ps.length <= lim -> K (acc ++ zs) cs ->
  CompR zck (boolT .And (IE.sems Pd zco)) (emitL (zcr.sem Pd).val) [none,none,ta,some (.ref d),cx,pi,tl,bg,tu,to,ri,pc,pk] K acc (.items (ps.map intV)) cs:=by
 induction ps with
 | nil=>intro acc zs r _ q; cases r.nil_of; exact .done .items (by rw [<- List.append_nil acc]; exact q)
 | cons p ps ih =>
  intro acc zs r hl q
  rw [List.length_cons] at hl
  obtain ⟨z,zs',rfl,⟨r0,h1,rfl⟩,r2⟩:=r.cons_of
  have hx:idxV (pairsV (encs D)) (p:Int) = some (pairV (enc r0)):=by
   rw [zeo]
   unfold pairsV encs
   rw [List.getElem?_map,List.getElem?_map,h1]; rfl
  refine .go (.items _ _) rfl ⟨ze1 (b:=ps.length) hl,_,.seq (.ref h) hx,_,.seq (.tup _) rfl,ih _ _ r2 (by rw [List.length_append]; exact zed hl) ?_⟩
  rw [List.append_assoc]
  exact q
theorem pl_all (x:Nat) (D:List Rl):All2 (fun p z=>∃ r,D[p]? = some r /\ z = V.str (mkS r.tx)) (plF x D 0) (rtsV x D):=by
 have key:∀ (E:List Rl) (i:Nat),(∀ j r,E[j]? = some r -> D[i + j]? = some r) -> All2 (fun p z=>∃ r,D[p]? = some r /\ z = V.str (mkS r.tx)) (plF x E i) (rtsV x E):=by
  intro E
  induction E with
  | nil=>exact fun _ _=>.nil
  | cons r E ih =>
   intro i hi
   have t:=ih (i + 1) fun j s h=>by rw [show i + 1 + j = i + (j + 1) by lia]; exact hi (j + 1) s h
   unfold rtsV at t ⊢
   rw [zdj,List.filter_cons,show ledR x r = decide (lt7 r.n = x) from rfl]
   cases decide (lt7 r.n = x) with
   | false=>exact t
   | true=>exact .cons ⟨r,hi 0 r rfl,rfl⟩ t
 exact key D 0 fun j r h=>by rw [Nat.zero_add]; exact h
end
structure DvC where
 c0:List Cell
 l:Nat
 k:Nat
 d:Nat
 ch:Nat
 X:List Rl
noncomputable abbrev DvC.D (a:DvC):List Rl:=a.X ++ fins
structure DvOk (a:DvC):Prop where
 tb:Tb a.c0 a.l a.k (encs a.D)
 du:a.c0[a.d]? = some (.list (pairsV (encs a.D)))
 cx:∃ zs,a.c0[a.ch]? = some (.list zs)
 hk:a.ch ≠ a.k
 hd:a.d ≠ a.ch
 ok:AllOk a.D
 ln:a.D.length <= 11
noncomputable abbrev dsl (a:DvC) (bag:Nat) (o6 o7 o8 o9 o10:Option V):Slots:=[some (.ref a.l),some (.ref a.d),some (.ref a.ch),some (.ref a.c0.length),some (.ref (a.c0.length + 1)),some (intV bag),o6,o7,o8,o9,o10]
noncomputable abbrev dcl (a:DvC) (xs:List Int) (P:List V) (tl:List Nat) (ext:List Cell):List Cell:=dcs a.c0 a.ch xs P tl ext
noncomputable def DerL (K:KF) (j m:Nat) (sl:Slots) (cs:List Cell):Prop:=ForR zda (bden (IS.sems Pd zct)) K (.items (upTo j m)) sl cs
section
variable {a:DvC} (A:DvOk a) {K:KF} {xs:List Int} {st tl:List Nat} {ext:List Cell} {bag t c j m:Nat} {o6 o7 o8 o9 o10:Option V}
theorem DvOk.lt (A:DvOk a):a.ch < a.c0.length:=by obtain ⟨zs,h⟩:=A.cx; exact zaa h
theorem eof_F {cs:List Cell} {KK:KV} {t:Nat} (h:t ≠ 0) (k:KK (.bool false) cs):CallR Pd cs KK (.adr 245) [intV t] []:=zcy z0k (decide_eq_false fun z=>h (Int.ofNat_eq_zero.mp z)) k
theorem ter_T {cs:List Cell} {KK:KV} {t:Nat} (h:t < 256) (k:KK (.bool true) cs):CallR Pd cs KK (.adr 231) [intV t] []:=zcy z0i (decide_eq_true (Int.ofNat_lt.mpr h)) k
theorem ter_F {cs:List Cell} {KK:KV} {t:Nat} (h:256 <= t) (k:KK (.bool false) cs):CallR Pd cs KK (.adr 231) [intV t] []:=zcy z0i (decide_eq_false (Int.not_lt.mpr (Int.ofNat_le.mpr h))) k
theorem non_T {cs:List Cell} {KK:KV} {t:Nat} (h:256 <= t) (k:KK (.bool true) cs):CallR Pd cs KK (.adr 238) [intV t] []:=zcy z0j (decide_eq_true (Int.ofNat_le.mpr h)) k
theorem non_F {cs:List Cell} {KK:KV} {t:Nat} (h:t < 256) (k:KK (.bool false) cs):CallR Pd cs KK (.adr 238) [intV t] []:=zcy z0j (decide_eq_false (Int.not_le.mpr (Int.ofNat_lt.mpr h))) k
theorem zz0 {KK:KV} (k:KK (intV t) (dcl a xs (pileV st) tl ext)):MethR Pd (dcl a xs (pileV (t :: st)) tl ext) KK .pop (.ref a.c0.length) [] :=
 .popL (xs:=pileV st) (by rw [<- zrw]; exact dcs_0) (by rw [zuf]; exact k)
theorem z39 (q:∀ sl,K (.ret (.tup [intV bag,.ref (a.c0.length + 1)])) sl (dcl a xs [] tl ext)):DerL K j (m + 1) (dsl a bag o6 o7 o8 o9 o10) (dcl a xs (pileV []) tl ext) :=
 .go (.items _ _) rfl ⟨.pop dcs_0,.popL (xs:=[]) (v:=intV 0) dcs_0 (by rw [zuf]; exact zcy z0k (x:=0) (decide_eq_true rfl) (.is (.bool _ _) ⟨(by decide:2 <= lim),q _⟩))⟩
theorem der_op (h0:t ≠ 0) (h1:t < 256) (hl:tl.length <= 100) (q:DerL K (j + 1) m (dsl a bag (some (.int (j:Nat))) (some (intV t)) o8 o9 o10) (dcl a xs (pileV st) (tl ++ [t]) ext)):DerL K j (m + 1) (dsl a bag o6 o7 o8 o9 o10) (dcl a xs (pileV (t :: st)) tl ext) :=
 .go (.items _ _) rfl ⟨.pop dcs_0,zz0 (eof_F h0 (.is (.bool _ _) (ter_T h1 (.is (.bool _ _) ⟨.append dcs_1,.append' dcs_1 (by rw [List.length_map]; exact zbo hl) (by rw [show tl.map intV ++ [intV t] = (tl ++ [t]).map intV by rw [List.map_append]; rfl]; exact dcs_s1) (non_F h1 (.is (.bool _ _) q))⟩))))⟩
include A
theorem A_tb:Tb (dcl a xs (pileV st) tl ext) a.l a.k (encs a.D):=by obtain ⟨zs,h⟩:=A.cx; exact z0p A.tb A.hk h
theorem A_du:(dcl a xs (pileV st) tl ext)[a.d]? = some (.list (pairsV (encs a.D))):=dcs_o A.hd A.du
theorem A_l:a.D.length <= 100:=Nat.le_trans A.ln (by decide)
theorem z38 (hc:isLt c = true) (q:bden (IS.sems Pd [.ite (.cmp (.nm (S "rights") 8 (pp 287 15 21)) .NotEq (.list false [] (pp 287 25 27)) (pp 287 15 27)) za2 zcu ⟨287,12,290,58⟩])
   (dsl a bag (some (.int (j:Nat))) (some (intV (256 + c))) (some (.lst (rtsV (lc c) a.D))) (some (.lst ((plF (lc c) a.D 0).map intV))) o10) (dcl a xs (pileV st) tl ext) fun fl sl' cs'=>Fl.rec (DerL K (j + 1) m sl' cs') (K .next sl' cs') (DerL K (j + 1) m sl' cs') (fun v=>K (.ret v) sl' cs') fl) :
  DerL K j (m + 1) (dsl a bag o6 o7 o8 o9 o10) (dcl a xs (pileV ((256 + c) :: st)) tl ext):=by
 have hp:(plF (lc c) a.D 0).length <= 100:=by rw [zz1]; exact Nat.le_trans (List.length_filter_le _ _) (A_l A)
 have hr:(rtsV (lc c) a.D).length <= 100:=by unfold rtsV; rw [List.length_map]; exact Nat.le_trans (List.length_filter_le _ _) (A_l A)
 have e:EqR (dcl a xs (pileV st) tl ext) 9 (.lst (rtsV (lc c) a.D)) (.lst (rtsV (lc c) a.D)) true:=.allT (.lst _) (.lst _) (by
  unfold rtsV
  generalize a.D.filter (ledR (lc c)) = E
  induction E with
  | nil=>exact .nil
  | cons r E ih=>exact .cons (.strT rfl) ih)
 refine .go (.items _ _) rfl ⟨.pop dcs_0,zz0 (eof_F (by lia) (.is (.bool _ _) (ter_F (Nat.le_add_right _ _) (.is (.bool _ _) (non_T (Nat.le_add_right _ _) (.is (.bool _ _) ⟨(A_tb A).cls,.subI' (zll c) (ziz hc (zxv (A_tb A) A.ok (A_l A) hc ?_))⟩))))))⟩
 refine ⟨rfl,.enum (.cell (A_du A)) (zwf (A_du A) A.ok hc a.D 0 [] rfl (by rw [List.length_nil,Nat.zero_add]; exact Nat.le_of_lt (zbo (A_l A))) ⟨by rw [List.nil_append,List.length_map]; exact Nat.le_of_lt (zbo hp),?_⟩)⟩
 refine ⟨_,.lst _,zv9 (A_du A) (plF (lc c) a.D 0) [] _ (pl_all (lc c) a.D) (by rw [List.length_nil,Nat.zero_add]; exact Nat.le_of_lt (zbo hp)) ⟨by rw [List.nil_append]; exact Nat.le_of_lt (zbo hr),.ne e q⟩⟩
end
theorem ztu {cs:List Cell} {n:Nat} {v:V} {xs:List V} (h:SeqR cs v false xs):EqR cs (n + 1) v (.lst []) xs.isEmpty:=by
 have h:=EqR.seq (cs:=cs) (n:=n) (fun _=>true) h (.lst []) fun j x y _ e=>nomatch e
 rw [zji,Bool.true_and] at h
 cases xs with
 | nil=>exact h
 | cons x xs=>exact h
theorem Rd.len {X:List Nat} {U:List V} (h:Rd X U):U.length <= X.length:=by
 induction h with
 | nil=>exact Nat.le_refl _
 | @cons c r T h ih =>
  have:=zzl (c :: r)
  rw [List.length_drop] at ih
  rw [List.length_cons] at ih ⊢
  rw [List.length_cons]
  omega
noncomputable def b16t:List IS:=[(.asg (.nm (S "bag") 5 (pp 289 16 19)) (.bin false (.nm (S "bag") 5 (pp 289 22 25)) .Add (.bin false (.con (.int (8)) 0 (pp 289 28 29)) .Pow (.item (.nm (S "places") 9 (pp 289 33 39)) (.nm (S "pick") 10 (pp 289 40 44)) (pp 289 33 45)) (pp 289 28 45)) (pp 289 22 45)) (pp 289 16 45)),(.expr (.mcall (.nm (S "pile") 3 (pp 290 16 20)) .extend (pp 290 16 27) [(.slice false (.call true (S "_law_read") 29 (pp 290 28 37) [(.item (.nm (S "rights") 8 (pp 290 38 44)) (.nm (S "pick") 10 (pp 290 45 49)) (pp 290 38 50))] (pp 290 28 51)) .absent .absent (.un .USub (.con (.int (1)) 0 (pp 290 55 56)) (pp 290 54 56)) (pp 290 52 56) (pp 290 28 57))] (pp 290 16 58)) (pp 290 16 58))]
section
variable {a:DvC} (A:DvOk a) {K:KF} {xs:List Int} {st tl:List Nat} {ext:List Cell} {bag t c j m:Nat} {o6 o7 o8 o9 o10:Option V}
structure Pk (a:DvC) (x j k:Nat) (r:Rl):Prop where
 p:(plF x a.D 0)[j]? = some k
 d:a.D[k]? = some r
 le:lt7 r.n = x
 r:(rtsV x a.D)[j]? = some (.str (mkS r.tx))
theorem pk_of {x j:Nat} (h:j < (plF x a.D 0).length):∃ k r,Pk a x j k r:=by
 obtain ⟨k,hk⟩:∃ k,(plF x a.D 0)[j]? = some k:=⟨_,List.getElem?_eq_getElem h⟩
 obtain ⟨r,_,h2,h3,h4⟩:=pl_get x a.D 0 j k hk
 refine ⟨k,r,hk,h2,h3,?_⟩
 unfold rtsV
 rw [List.getElem?_map,h4]; rfl
include A
theorem zn1 {x k:Nat} {r:Rl} {KK:KF} (P:Pk a x j k r) (hst:st.length <= 100) (q:∀ ext',KK .next (dsl a (bag + 8 ^ k) o6 o7 (some (.lst (rtsV x a.D))) (some (.lst ((plF x a.D 0).map intV))) (some (intV j))) (dcl a xs (pileV (tkR r.p r.g r.q ++ st)) tl ext')) :
  bden (IS.sems Pd b16t) (dsl a bag o6 o7 (some (.lst (rtsV x a.D))) (some (.lst ((plF x a.D 0).map intV))) (some (intV j))) (dcl a xs (pileV st) tl ext) KK:=by
 have hr:=A.ok r (List.mem_of_getElem? P.d)
 have hk:k <= 4000:=by
  have:=(List.getElem?_eq_some_iff.mp P.d).1
  have:=A.ln
  lia
 have hi:idxV ((plF x a.D 0).map intV) (j:Int) = some (intV k):=by rw [zeo,List.getElem?_map,P.p]; rfl
 have e:(bag:Int) + 8 ^ ((k:Nat):Int).toNat = ((bag + 8 ^ k:Nat):Int):=by rw [Int.toNat_natCast]; norm_cast
 have hT:=(zwc hr.p hr.g hr.q)
 have hTl:((tkR r.p r.g r.q).map intV).length <= 5:=Nat.le_trans hT.len (zjp hr.g)
 refine ⟨_,.seq (.lst _) hi,.powI ⟨Int.natCast_nonneg _,Int.ofNat_le.mpr hk,by decide⟩ (.addI' e ⟨.extend dcs_0,_,.seq (.lst _) (by rw [zeo]; exact P.r),zac z33 ⟨r.tx,(tkR r.p r.g r.q).map intV⟩ ⟨⟨Nat.le_trans (zjp hr.g) (by decide),hT⟩,?_⟩⟩)⟩
 refine .neg ⟨none,none,some (-1),.none,.none,.int _,.lst' (.ref (zbs _ _)) (by decide) (zoo _) ⟨by rw [List.length_reverse]; exact Nat.le_trans hTl (by decide),?_⟩⟩
 rw [z4c]
 refine .extendL dcs_0 (.lst _) ?_ ?_
 ·rw [zwg,List.length_reverse]
  exact Nat.le_trans (Nat.add_le_add (Nat.succ_le_succ hst) hTl) (by decide)
 ·rw [zuf,zwh]
  exact q _
theorem zua {x k n:Nat} {r:Rl} {KK:KF} (P:Pk a x n k r) (hn:(rtsV x a.D).length = n + 1) (hst:st.length <= 100) (q:∀ ext',KK .next (dsl a (bag + 8 ^ k) o6 o7 (some (.lst (rtsV x a.D))) (some (.lst ((plF x a.D 0).map intV))) (some (intV n))) (dcl a [] (pileV (tkR r.p r.g r.q ++ st)) tl ext')) :
  bden (IS.sems Pd za2) (dsl a bag o6 o7 (some (.lst (rtsV x a.D))) (some (.lst ((plF x a.D 0).map intV))) o10) (dcl a [] (pileV st) tl ext) KK:=by
 have e4:((rtsV x a.D).length:Int) - 1 = (n:Nat):=by rw [hn]; lia
 exact ⟨Nat.zero_le _,.ne (ztu (.ref (dcs_c A.lt))) (.lenL (.lst _) (.subI' e4 (zn1 A P hst q)))⟩
theorem zt9 {x k n:Nat} {y:Int} {ys:List Int} {r:Rl} {KK:KF} (P:Pk a x n k r) (h0:(rtsV x a.D).length ≠ 0) (hn:y.fmod ((rtsV x a.D).length:Int) = (n:Nat)) (hst:st.length <= 100) (q:∀ ext',KK .next (dsl a (bag + 8 ^ k) o6 o7 (some (.lst (rtsV x a.D))) (some (.lst ((plF x a.D 0).map intV))) (some (intV n))) (dcl a ys (pileV (tkR r.p r.g r.q ++ st)) tl ext')) :
  bden (IS.sems Pd za2) (dsl a bag o6 o7 (some (.lst (rtsV x a.D))) (some (.lst ((plF x a.D 0).map intV))) o10) (dcl a (y :: ys) (pileV st) tl ext) KK :=
 ⟨Nat.zero_le _,.ne (ztu (.ref (dcs_c A.lt))) ⟨.pop (dcs_c A.lt),.pop0 (dcs_c A.lt) (by
  rw [dcs_sc A.lt]
  exact .lenL (.lst _) (.modI' (fun z=>h0 (Int.ofNat_eq_zero.mp z)) hn (zn1 A P hst q)))⟩⟩
end
structure Inv (a:DvC) (xs:List Int) (st tl c:List Nat):Prop where
 sy:st.all symOk = true
 cl:c.length = a.D.length
 pm:(tl ++ ops st).Perm (opsOf a.D c)
 b:tl.length + (wts st + 5 * xs.length) <= 30
noncomputable abbrev ruS (a:DvC):L3.Ru:=a.D.map ru
noncomputable abbrev lastS (a:DvC) (x:Nat):Nat:=a.X.length + x
theorem wt_pos (t:Nat):1 <= wt t:=by unfold wt; split <;> decide
theorem st_len (st:List Nat):st.length <= wts st:=by
 induction st with
 | nil=>exact Nat.zero_le _
 | cons t st ih =>
  have:=wt_pos t
  rw [zdm,List.length_cons]
  lia
theorem zqn {t:Nat} (h:symOk t = true):(t ≠ 0 /\ t < 256) \/ ∃ c,isLt c = true /\ t = 256 + c:=by
 unfold symOk at h
 rw [Bool.or_eq_true,Bool.and_eq_true,Bool.and_eq_true,Nat.ble_eq,Nat.ble_eq,Nat.blt_eq] at h
 rcases h with h | h
 ·exact .inl ⟨by omega,by omega⟩
 ·exact .inr ⟨t - 256,h.2,by omega⟩
section
variable {a:DvC} {xs:List Int} {st tl c:List Nat} {t:Nat}
theorem zz3 (h:t < 256):lets (t :: st) = lets st /\ ops (t :: st) = t :: ops st /\ wts (t :: st) = 1 + wts st:=by
 have e1:ltk t = []:=if_neg fun z=>absurd z.1 (Nat.not_le.mpr h)
 have e2:opk t = [t]:=if_pos h
 have e3:wt t = 1:=if_neg fun z=>absurd z.1 (Nat.not_le.mpr h)
 unfold lets ops
 rw [List.flatMap_cons,List.flatMap_cons,e1,e2,zdm,e3]
 exact ⟨rfl,rfl,rfl⟩
theorem no_op (k:Nat):opk (256 + k) = []:=if_neg (Nat.not_lt.mpr (Nat.le_add_right _ _))
theorem zkz {k:Nat} (h:lc k = 5):lets ((256 + k) :: st) = lets st /\ ops ((256 + k) :: st) = ops st /\ wts ((256 + k) :: st) = 1 + wts st:=by
 have h2:¬ (256 <= 256 + k /\ lc (256 + k - 256) < 3):=fun z=>by rw [Nat.add_sub_cancel_left,h] at z; exact absurd z.2 (by decide)
 have e1:ltk (256 + k) = []:=if_neg h2
 have e3:wt (256 + k) = 1:=if_neg h2
 unfold lets ops
 rw [List.flatMap_cons,List.flatMap_cons,e1,no_op,zdm,e3]
 exact ⟨rfl,rfl,rfl⟩
theorem zsv {k:Nat} (h:lc k < 3):lets ((256 + k) :: st) = lc k :: lets st /\ ops ((256 + k) :: st) = ops st /\ wts ((256 + k) :: st) = 3 + wts st:=by
 have h2:256 <= 256 + k /\ lc (256 + k - 256) < 3:=⟨Nat.le_add_right _ _,by rw [Nat.add_sub_cancel_left]; exact h⟩
 have e1:ltk (256 + k) = [lc k]:=(if_pos h2).trans (by rw [Nat.add_sub_cancel_left])
 have e3:wt (256 + k) = 3:=if_pos h2
 unfold lets ops
 rw [List.flatMap_cons,List.flatMap_cons,e1,no_op,zdm,e3]
 exact ⟨rfl,rfl,rfl⟩
theorem Inv.op (I:Inv a xs (t :: st) tl c) (h:t < 256):Inv a xs st (tl ++ [t]) c:=by
 obtain ⟨_,e2,e3⟩:=zz3 (st:=st) h
 have p:=I.pm
 have b:=I.b
 rw [e2] at p
 rw [e3] at b
 exact ⟨((Bool.and_eq_true _ _).mp (show (symOk t && st.all symOk) = true from I.sy)).2,I.cl,by rw [List.append_assoc]; exact p,by rw [List.length_append]; show tl.length + 1 + _ <= 30; lia⟩
theorem Inv.blank {k:Nat} (I:Inv a xs ((256 + k) :: st) tl c) (h:lc k = 5):Inv a xs st tl c:=by
 obtain ⟨_,e2,e3⟩:=zkz (st:=st) h
 have p:=I.pm
 have b:=I.b
 rw [e2] at p
 rw [e3] at b
 exact ⟨((Bool.and_eq_true _ _).mp (show (symOk (256 + k) && st.all symOk) = true from I.sy)).2,I.cl,p,by lia⟩
theorem Inv.use {k i:Nat} {r:Rl} {ys:List Int} (I:Inv a xs ((256 + k) :: st) tl c) (h:lc k < 3) (hr:RlOk r) (hi:a.D[i]? = some r) (hw:wts (tkR r.p r.g r.q) + 5 * ys.length <= 3 + 5 * xs.length):Inv a ys (tkR r.p r.g r.q ++ st) tl (c.set i (c.getD i 0 + 1)):=by
 obtain ⟨_,e2,e3⟩:=zsv (st:=st) h
 have p:=I.pm
 have b:=I.b
 rw [e2] at p
 rw [e3] at b
 refine ⟨?_,by rw [List.length_set]; exact I.cl,?_,by rw [zhk]; lia⟩
 ·rw [List.all_append,sym_tk hr,((Bool.and_eq_true _ _).mp (show (symOk (256 + k) && st.all symOk) = true from I.sy)).2]; rfl
 ·have e:ops (tkR r.p r.g r.q ++ st) = (r.g + 7) :: ops st:=by
   have:=ops_tk hr
   unfold ops at this ⊢
   rw [zd0,this]; rfl
  rw [e]
  exact (List.perm_middle.trans (p.cons _)).trans (zr2 a.D c i r I.cl hi).symm
end
theorem fin_at (X:List Rl) {x:Nat} (hx:x < 3) {r:Rl} (h:(X ++ fins)[X.length + x]? = some r):shS r.p r.q = 0 /\ wts (tkR r.p r.g r.q) <= 2:=by
 rw [List.getElem?_append_right (Nat.le_add_right _ _),Nat.add_sub_cancel_left] at h
 rcases x with _ | _ | _ | x
 ·cases h; exact ⟨rfl,by decide +kernel⟩
 ·cases h; exact ⟨rfl,by decide +kernel⟩
 ·cases h; exact ⟨rfl,by decide +kernel⟩
 ·exact absurd hx (by lia)
theorem zly (x:Nat) (D:List Rl):(rtsV x D).length = (plF x D 0).length:=by unfold rtsV; rw [List.length_map,zz1]
section
variable {a:DvC} (A:DvOk a) {K:KF}
include A
theorem zyg (m:Nat):∀ {j:Nat} {xs:List Int} {st tl c:List Nat} {ext:List Cell} {o6 o7 o8 o9 o10:Option V},wts st + 5 * xs.length < m -> Inv a xs st tl c ->
  (∀ c' tl' xs' ext' P sl,L3.Run (ruS a) (lastS a) xs.length (lets st) c c' -> c'.length = a.D.length -> tl'.Perm (opsOf a.D c') -> K (.ret (.tup [intV (bagOf c'),.ref (a.c0.length + 1)])) sl (dcl a xs' P tl' ext')) ->
  DerL K j m (dsl a (bagOf c) o6 o7 o8 o9 o10) (dcl a xs (pileV st) tl ext):=by
 induction m with
 | zero=>intro j xs st tl c ext o6 o7 o8 o9 o10 h; exact absurd h (Nat.not_lt_zero _)
 | succ m ih =>
  intro j xs st tl c ext o6 o7 o8 o9 o10 hm I q
  cases st with
  | nil =>
   have p:=I.pm
   rw [show ops [] = [] from rfl,List.append_nil] at p
   exact z39 fun sl=>q c tl xs ext [] sl (.done _ _) I.cl p
  | cons t st =>
   rcases zqn ((Bool.and_eq_true _ _).mp (show (symOk t && st.all symOk) = true from I.sy)).1 with h | ⟨k,hc,rfl⟩
   ·obtain ⟨e1,e2,e3⟩:=zz3 (st:=st) h.2
    rw [e3] at hm
    rw [e1] at q
    have b:=I.b
    exact der_op h.1 h.2 (by lia) (ih (by lia) (I.op h.2) q)
   ·refine z38 A hc ?_
    rcases lc_of hc with h | h
    ·obtain ⟨e1,e2,e3⟩:=zsv (st:=st) h
     rw [e3] at hm
     rw [e1] at q
     have hpl:=z2q a.X h
     have hlen:(plF (lc k) a.D 0).length = (plF (lc k) a.X 0).length + 1:=by rw [show plF (lc k) a.D 0 = _ from hpl,List.length_append]; rfl
     have hrl:(rtsV (lc k) a.D).length = (plF (lc k) a.X 0).length + 1:=(zly _ _).trans hlen
     have hne:(rtsV (lc k) a.D).isEmpty = false:=by
      cases hq:rtsV (lc k) a.D with
      | nil=>rw [hq] at hrl; cases hrl
      | cons=>rfl
     have en:∀ cs,EqR cs 9 (.lst (rtsV (lc k) a.D)) (.lst []) false:=fun cs=>by have:=zkr (cs:=cs) (n:=8) (rtsV (lc k) a.D); rw [hne] at this; exact this
     have b:=I.b
     rw [e3] at b
     have sl:=st_len st
     refine ⟨Nat.zero_le _,.ne (en _) ?_⟩
     cases xs with
     | nil =>
      obtain ⟨i,r,P⟩:=pk_of (x:=lc k) (a:=a) (j:=(plF (lc k) a.X 0).length) (by rw [hlen]; exact Nat.lt_succ_self _)
      have hi:i = a.X.length + lc k:=by
       have:=P.p
       rw [show plF (lc k) a.D 0 = _ from hpl,List.getElem?_append_right (Nat.le_refl _),Nat.sub_self] at this
       exact (Option.some.inj this).symm
      subst hi
      obtain ⟨f1,f2⟩:=fin_at a.X h P.d
      have hr:=A.ok r (List.mem_of_getElem? P.d)
      have e5:lets (tkR r.p r.g r.q ++ st) = lets st:=by
       have:=zst hr
       unfold lets at this ⊢
       rw [zd0,this,f1]; rfl
      have eb:bagOf (c.set (a.X.length + lc k) (c.getD (a.X.length + lc k) 0 + 1)) = bagOf c + 8 ^ (a.X.length + lc k):=by
       have:=zmp c (a.X.length + lc k) 0 (by rw [I.cl]; exact (List.getElem?_eq_some_iff.mp P.d).1)
       rw [Nat.zero_add] at this
       exact this
      have I2:=I.use (ys:=[]) h hr P.d (by lia)
      have nxt:=fun ext'=>ih (j:=j + 1) (ext:=ext') (o6:=some (.int (j:Nat))) (o7:=some (intV (256 + k))) (o8:=some (.lst (rtsV (lc k) a.D))) (o9:=some (.lst ((plF (lc k) a.D 0).map intV))) (o10:=some (intV (plF (lc k) a.X 0).length)) (by rw [zhk]; lia) I2 fun c' tl' xs' ext' PP sl' R'=>q c' tl' xs' ext' PP sl' (by rw [e5] at R'; exact .leaf h R')
      rw [eb] at nxt
      exact zua A P hrl (by lia) nxt
     | cons y ys =>
      rw [List.length_cons] at hm b
      have hj:=zbc y (rtsV (lc k) a.D).length (by rw [hrl]; exact Nat.succ_pos _)
      generalize (y.fmod ((rtsV (lc k) a.D).length:Int)).toNat = jj at hj
      obtain ⟨i,r,P⟩:=pk_of (x:=lc k) (a:=a) (j:=jj) (by rw [<- zly]; exact hj.2)
      have hr:=A.ok r (List.mem_of_getElem? P.d)
      have w7:=wts_tk hr
      have e5:lets (tkR r.p r.g r.q ++ st) = L3.shp (shS r.p r.q) ++ lets st:=by
       have:=zst hr
       unfold lets at this ⊢
       rw [zd0,this]
      have eb:bagOf (c.set i (c.getD i 0 + 1)) = bagOf c + 8 ^ i:=by
       have:=zmp c i 0 (by rw [I.cl]; exact (List.getElem?_eq_some_iff.mp P.d).1)
       rw [Nat.zero_add] at this
       exact this
      have I2:=I.use (ys:=ys) h hr P.d (by rw [List.length_cons]; lia)
      have hk:(ruS a)[i]? = some (lc k,shS r.p r.q):=by
       rw [List.getElem?_map,P.d]
       show some (lt7 r.n,_) = _
       rw [P.le]
      have nxt:=fun ext'=>ih (j:=j + 1) (ext:=ext') (o6:=some (.int (j:Nat))) (o7:=some (intV (256 + k))) (o8:=some (.lst (rtsV (lc k) a.D))) (o9:=some (.lst ((plF (lc k) a.D 0).map intV))) (o10:=some (intV jj)) (by rw [zhk]; lia) I2 fun c' tl' xs' ext' PP sl' R'=>q c' tl' xs' ext' PP sl' (by rw [e5] at R'; exact .pick hk (zfi ⟨_,hr.p⟩ ⟨_,hr.q⟩).1 R')
      rw [eb] at nxt
      exact zt9 A P (by rw [hrl]; exact Nat.succ_ne_zero _) hj.1 (by lia) nxt
    ·obtain ⟨e1,e2,e3⟩:=zkz (st:=st) h
     rw [e3] at hm
     rw [e1] at q
     have e:(rtsV (lc k) a.D).isEmpty = true:=by
      have:=zly (lc k) a.D
      rw [h,z2p] at this
      rw [h,List.eq_nil_of_length_eq_zero this]; rfl
     have en:∀ cs,EqR cs 9 (.lst (rtsV (lc k) a.D)) (.lst []) true:=fun cs=>by have:=zkr (cs:=cs) (n:=8) (rtsV (lc k) a.D); rw [e] at this; exact this
     exact ⟨Nat.zero_le _,.ne (en _) (ih (by lia) (I.blank h) q)⟩
end
structure DrA where
 l:Nat
 k:Nat
 d:Nat
 ch:Nat
 X:List Rl
 xs:List Int
noncomputable abbrev DrA.at (a:DrA) (cs:List Cell):DvC:=⟨cs,a.l,a.k,a.d,a.ch,a.X⟩
structure DrOk (a:DrA) (cs:List Cell):Prop where
 A:DvOk (a.at cs)
 cx:cs[a.ch]? = some (.list (a.xs.map .int))
 x3:a.xs.length <= 3
noncomputable def derS:Spec:=Sp (fun a:DrA=>[.ref a.l,.ref a.d,.ref a.ch]) [] noKw fun a cs K=>DrOk a cs /\ ∀ c' tl xs' ext P,L3.Run ((a.X ++ fins).map ru) (fun x=>a.X.length + x) a.xs.length [0] (List.replicate (a.X ++ fins).length 0) c' -> c'.length = (a.X ++ fins).length ->
 tl.Perm (opsOf (a.X ++ fins) c') -> K (.tup [intV (bagOf c'),.ref (cs.length + 1)]) (dcs cs a.ch xs' P tl ext)
theorem S_s:S "s" = mkS [115]:=by decide +kernel
theorem zwl {P:Prm} {cs:List Cell} {KK:KV} {x:Str} {c:Nat} (e:x = mkS [c]) (k:KK (.int (c:Nat)) cs):CallR P cs KK (.bi "ord") [.str x] []:=by subst e; exact .ord k
theorem zv3 {cs:List Cell} {n:Nat} {c:Cell} (h:cs[n]? = some c):cs.set n c = cs:=by
 obtain ⟨hl,e⟩:=List.getElem?_eq_some_iff.mp h
 rw [<- e,List.set_getElem_self]
section
variable {C:Cx} {K:Frag} (F2:Facts2 C Pd K) (L:LimAt C)
include F2 L
theorem zpe (Fk:FnK K 274 F_law_derived) (B:Bd3 K 274 (S "table") (S "due") (S "choices")):FnOk C.up 274 derS :=
 fn3 (sl:=fun a:DrA=>[some (.ref a.l),some (.ref a.d),some (.ref a.ch),none,none,none,none,none,none,none,none]) F2 L Fk (zjk Td) B (fun _=>rfl) fun a cs K' q=>by
  have e1:∀ c:Cell,(cs ++ [c]).length = cs.length + 1:=fun c=>List.length_append
  refine zwl S_s (.addI' (z:=((371:Nat):Int)) rfl ⟨(by decide:2 <= lim),Nat.zero_le _,?_⟩)
  rw [e1]
  refine ⟨(by decide:3 <= lim),rfl,.rng1 ⟨_,znf (n:=24) (by decide),?_⟩⟩
  have ec:dcl (a.at cs) a.xs (pileV [371]) [] [] = cs ++ [Cell.list [V.int 0,V.int ((371:Nat):Int)]] ++ [.list []]:=by
   unfold dcl dcs
   rw [show (a.at cs).c0 = cs from rfl,zv3 q.1.cx,List.append_assoc]
   rfl
  have z:=zy4 (a.X ++ fins).length 0
  have I:Inv (a.at cs) a.xs [371] [] (List.replicate (a.X ++ fins).length 0):=⟨by decide +kernel,List.length_replicate,by rw [zpa]; exact List.Perm.refl _,by
   have:wts [371] = 3:=by decide +kernel
   have h:=q.1.x3
   rw [this]
   show 0 + _ <= 30
   lia⟩
  have r:∀ K1:KF,(∀ c' tl' xs' ext' P sl,L3.Run ((a.X ++ fins).map ru) (fun x=>a.X.length + x) a.xs.length [0] (List.replicate (a.X ++ fins).length 0) c' -> c'.length = (a.X ++ fins).length -> tl'.Perm (opsOf (a.X ++ fins) c') -> K1 (.ret (.tup [intV (bagOf c'),.ref (cs.length + 1)])) sl (dcs cs a.ch xs' P tl' ext')) ->
    DerL K1 0 24 (dsl (a.at cs) (bagOf (List.replicate (a.X ++ fins).length 0)) none none none none none) (dcl (a.at cs) a.xs (pileV [371]) [] []):=fun K1 h1=>zyg q.1.A 24 (by
   have:wts [371] = 3:=by decide +kernel
   have h:=q.1.x3
   rw [this]; lia) I h1
  rw [show bagOf (List.replicate (a.X ++ fins).length 0) = 0 from z,ec] at r
  exact r _ fun c' tl' xs' ext' P sl R hc p=>q.2 c' tl' xs' ext' P R hc p
end
noncomputable abbrev Qs:=Nat × Nat × Nat
noncomputable def shL (s:Nat):List Nat:=(L3.shp s).map fun x=>[115,97,98].getD x 0
noncomputable def useV (q:Qs):V:=.tup [.str (mkS (lowL q.1)),.str (mkS (shL q.2.1)),.int ((q.2.2:Nat):Int)]
structure UOk (u:List Qs):Prop where
 q:∀ q ∈ u,q.1 < 4 /\ q.2.1 < 13 /\ q.2.2 <= 7
 n:u.length <= 11
 b:∀ y,y < 3 -> L3.uses u y <= 8
noncomputable def cdL (y:Nat):Nat:=[115,97,98].getD y 0
theorem z3g:∀ x:Fin 4,∀ y:Fin 3,decide (mkS (lowL x.val) = mkS [cdL y.val]) = Nat.beq x.val y.val:=by decide +kernel
theorem zsl {x y:Nat} (hx:x < 4) (hy:y < 3):decide (mkS (lowL x) = mkS [cdL y]) = Nat.beq x y:=z3g ⟨x,hx⟩ ⟨y,hy⟩
noncomputable def cntL (s y:Nat):Nat:=(Builtin.Str.occurrences (mkS (shL s)) (mkS [cdL y]) 0 (mkS (shL s)).length ((mkS (shL s)).length + 1)).length
theorem zmn:∀ s:Fin 13,∀ y:Fin 3,cntL s.val y.val = L3.cnt y.val (L3.shp s.val) /\ L3.cnt y.val (L3.shp s.val) <= 2:=by decide +kernel
theorem sum_sm (f:Qs -> Nat) (y:Nat) (u:List Qs):((u.filter fun q=>Nat.beq q.1 y).map fun q=>((f q:Nat):Int)).sum = ((L3.sm (fun q=>Bool.rec 0 (f q) (Nat.beq q.1 y)) u:Nat):Int):=by
 induction u with
 | nil=>rfl
 | cons q u ih =>
  rw [List.filter_cons,L3.zam]
  cases h:Nat.beq q.1 y with
  | false =>
   rw [if_neg Bool.false_ne_true,ih]
   exact congrArg _ (Nat.zero_add _).symm
  | true =>
   rw [if_pos rfl,List.map_cons,List.sum_cons,ih]
   exact (Int.natCast_add _ _).symm
theorem zni {f:Qs -> Nat} {y:Nat} {u:List Qs} (h:∀ q ∈ u,f q <= 14) (hn:u.length <= 11):(∀ x ∈ (u.filter fun q=>Nat.beq q.1 y).map fun q=>((f q:Nat):Int),0 <= x /\ x <= 1000) /\ ((u.filter fun q=>Nat.beq q.1 y).map fun q=>((f q:Nat):Int)).length <= 1000:=by
 refine ⟨fun x hx=>?_,by rw [List.length_map]; exact Nat.le_trans (List.length_filter_le _ _) (Nat.le_trans hn (by decide))⟩
 obtain ⟨q,hq,rfl⟩:=List.mem_map.mp hx
 have:=h q (List.mem_filter.mp hq).1
 exact ⟨Int.natCast_nonneg _,by lia⟩
section
variable {K:List V -> List Cell -> Prop} {cs:List Cell} {y z:Nat} {fr:Slots}
theorem zvn {a:Option V} (hy:y < 3) (u:List Qs):∀ (acc:List V),(∀ q ∈ u,q.1 < 4) -> acc.length + u.length <= lim -> K (acc ++ ((u.filter fun q=>Nat.beq q.1 y).map fun q=>((q.2.2:Nat):Int)).map .int) cs ->
  CompR zc9 (boolT .And (IE.sems P0 zdc)) (emitL (zdf.sem P0).val) (none :: none :: none :: none :: a :: some (.str (mkS [cdL y])) :: fr) K acc (.items (u.map useV)) cs:=by
 induction u with
 | nil=>exact fun acc _ _ q=>.done .items (by rw [<- List.append_nil acc]; exact q)
 | cons p u ih =>
  intro acc h hl q
  rw [List.length_cons] at hl
  have hp:=zsl (h p List.mem_cons_self) hy
  rw [List.filter_cons] at q
  by_cases he:mkS (lowL p.1) = mkS [cdL y]
  ·rw [decide_eq_true he] at hp
   rw [<- hp,if_pos rfl] at q
   refine .go (.items _ _) rfl (.eq (.strT he) ⟨ze1 (b:=u.length) hl,ih _ (fun x hx=>h x (List.mem_cons_of_mem _ hx)) (by rw [List.length_append]; exact zed hl) ?_⟩)
   rw [List.append_assoc]
   exact q
  ·rw [decide_eq_false he] at hp
   rw [<- hp,if_neg Bool.false_ne_true] at q
   exact .go (.items _ _) rfl (.eq (.strF he) (ih _ (fun x hx=>h x (List.mem_cons_of_mem _ hx)) (zhj hl) q))
theorem z27 {a b:Nat} (h:a <= 7):mulOk (a:Int) (b:Int) = true:=mul_l (by omega)
theorem zuo {a b:Option V} (hy:y < 3) (hz:z < 3) (u:List Qs):∀ (acc:List V),(∀ q ∈ u,q.1 < 4 /\ q.2.1 < 13 /\ q.2.2 <= 7) -> acc.length + u.length <= lim -> K (acc ++ ((u.filter fun q=>Nat.beq q.1 y).map fun q=>((q.2.2 * L3.cnt z (L3.shp q.2.1):Nat):Int)).map .int) cs ->
  CompR zcl (boolT .And (IE.sems P0 zcp)) (emitL (zdd.sem P0).val) (none :: none :: none :: none :: a :: some (.str (mkS [cdL z])) :: b :: some (.str (mkS [cdL y])) :: fr) K acc (.items (u.map useV)) cs:=by
 induction u with
 | nil=>exact fun acc _ _ q=>.done .items (by rw [<- List.append_nil acc]; exact q)
 | cons p u ih =>
  intro acc h hl q
  rw [List.length_cons] at hl
  obtain ⟨h1,h2,h3⟩:=h p List.mem_cons_self
  have hp:=zsl h1 hy
  rw [List.filter_cons] at q
  by_cases he:mkS (lowL p.1) = mkS [cdL y]
  ·rw [decide_eq_true he] at hp
   rw [<- hp,if_pos rfl] at q
   have e:((p.2.2:Nat):Int) * ((cntL p.2.1 z:Nat):Int) = ((p.2.2 * L3.cnt z (L3.shp p.2.1):Nat):Int):=by rw [show cntL p.2.1 z = L3.cnt z (L3.shp p.2.1) from (zmn ⟨_,h2⟩ ⟨_,hz⟩).1,Int.natCast_mul]
   refine .go (.items _ _) rfl (.eq (.strT he) ⟨ze1 (b:=u.length) hl,.countS _,.countS (.mulI' (z27 h3) e (ih _ (fun x hx=>h x (List.mem_cons_of_mem _ hx)) (by rw [List.length_append]; exact zed hl) ?_))⟩)
   rw [List.append_assoc]
   exact q
  ·rw [decide_eq_false he] at hp
   rw [<- hp,if_neg Bool.false_ne_true] at q
   exact .go (.items _ _) rfl (.eq (.strF he) (ih _ (fun x hx=>h x (List.mem_cons_of_mem _ hx)) (zhj hl) q))
end
theorem zln {cs:List Cell}:SrcR cs (.str (S "sab")) (.items [.str (mkS [cdL 0]),.str (mkS [cdL 1]),.str (mkS [cdL 2])]):=by
 have e:S "sab" = mkS [115,97,98]:=by decide +kernel
 rw [e]
 exact .str (by decide +kernel)
theorem zm6 {cs:List Cell} {KK:KV} {f:Qs -> Nat} {y:Nat} {u:List Qs} (h:∀ q ∈ u,f q <= 14) (hn:u.length <= 11) (k:KK (.int ((L3.sm (fun q=>Bool.rec 0 (f q) (Nat.beq q.1 y)) u:Nat):Int)) cs) :
  CallR P0 cs KK (.bi "sum") [.lst (((u.filter fun q=>Nat.beq q.1 y).map fun q=>((f q:Nat):Int)).map .int)] [] :=
 .sum (.lst _) (zni h hn).1 (zni h hn).2 (by rw [sum_sm]; exact k)
noncomputable def usL (u:List Qs):List V:=[.int (L3.uses u 0:Nat),.int (L3.uses u 1:Nat),.int (L3.uses u 2:Nat)]
noncomputable def boL (u:List Qs) (y:Nat):V:=.lst [.int (L3.born u y 0:Nat),.int (L3.born u y 1:Nat),.int (L3.born u y 2:Nat)]
noncomputable def boLs (u:List Qs):List V:=[boL u 0,boL u 1,boL u 2]
theorem zsg (u:List Qs) (f:Qs -> Int) (y:Nat) (h:u.length <= 11):(((u.filter fun q=>Nat.beq q.1 y).map f).map V.int).length <= lim:=by
 rw [List.length_map,List.length_map]; exact Nat.le_trans (List.length_filter_le _ _) (Nat.le_trans h (by decide))
theorem zup {u:List Qs} (h:∀ q ∈ u,q.2.1 < 13) (x:Nat) {y:Nat} (hy:y < 3):L3.born u x y <= 2 * L3.uses u x:=by
 unfold L3.born L3.uses
 induction u with
 | nil=>exact Nat.le_refl _
 | cons q u ih =>
  rw [L3.zam,L3.zam]
  have i:=ih fun p hp=>h p (List.mem_cons_of_mem _ hp)
  have c:=(zmn ⟨_,h q List.mem_cons_self⟩ ⟨_,hy⟩).2
  cases Nat.beq q.1 x with
  | false =>
   show 0 + _ <= 2 * (0 + _)
   lia
  | true =>
   show q.2.2 * _ + _ <= 2 * (q.2.2 + _)
   have:=Nat.mul_le_mul_left q.2.2 c
   dsimp only at this
   lia
section
variable {u:List Qs} (U:UOk u) {cs:List Cell} {fr:Slots}
include U
theorem one_le:∀ q ∈ u,q.2.2 <= 14:=fun q hq=>Nat.le_trans (U.q q hq).2.2 (by decide)
theorem z4j {z:Nat} (hz:z < 3):∀ q ∈ u,q.2.2 * L3.cnt z (L3.shp q.2.1) <= 14:=fun q hq=>Nat.mul_le_mul (U.q q hq).2.2 (zmn ⟨_,(U.q q hq).2.1⟩ ⟨_,hz⟩).2
theorem n_lim:u.length <= lim:=Nat.le_trans U.n (by decide)
theorem z1g {K:V -> List Cell -> Prop} {a1 a2 a3 a4 a5 a6 a7 a8 a9 a10:Option V} (q:K (.lst (usL u)) cs) :
  CompR zba (boolT .And (IE.sems P0 zbb)) (emitL (zbd.sem P0).val) [none,none,some (.lst (u.map useV)),a1,a2,a3,a4,a5,a6,a7,a8,a9,a10] (fun acc cs=>outL false acc cs K) [] (.items [.str (mkS [cdL 0]),.str (mkS [cdL 1]),.str (mkS [cdL 2])]) cs:=by
 have one:∀ (y:Nat) (hy:y < 3) {acc:List V} {r:List V},acc.length <= 2 -> CompR zba (boolT .And (IE.sems P0 zbb)) (emitL (zbd.sem P0).val) [none,none,some (.lst (u.map useV)),a1,a2,a3,a4,a5,a6,a7,a8,a9,a10] (fun acc cs=>outL false acc cs K) (acc ++ [.int (L3.uses u y:Nat)]) (.items r) cs ->
   CompR zba (boolT .And (IE.sems P0 zbb)) (emitL (zbd.sem P0).val) [none,none,some (.lst (u.map useV)),a1,a2,a3,a4,a5,a6,a7,a8,a9,a10] (fun acc cs=>outL false acc cs K) acc (.items (.str (mkS [cdL y]) :: r)) cs:=fun y hy acc r ha q =>
  .go (.items _ _) rfl ⟨Nat.lt_of_le_of_lt ha (by decide),_,.lst _,zvn hy u [] (fun q hq=>(U.q q hq).1) (by rw [List.length_nil,Nat.zero_add]; exact n_lim U) ⟨zsg u _ y U.n,zm6 (f:=fun q=>q.2.2) (y:=y) (one_le U) U.n q⟩⟩
 exact one 0 (by decide) (Nat.zero_le 2) (one 1 (by decide) (Nat.le_succ 1) (one 2 (by decide) (Nat.le_refl 2) (.done .items ⟨(by decide:3 <= lim),q⟩)))
theorem row_at {y:Nat} (hy:y < 3) {K:V -> List Cell -> Prop} {b1 a1 a2 a3 a4 a5 a6 a7 a8 a9 a10:Option V} (q:K (boL u y) cs) :
  CompR zaw (boolT .And (IE.sems P0 zaz)) (emitL (za1.sem P0).val) [none,none,b1,some (.str (mkS [cdL y])),some (.lst (u.map useV)),a1,a2,a3,a4,a5,a6,a7,a8,a9,a10] (fun acc cs=>outL false acc cs K) [] (.items [.str (mkS [cdL 0]),.str (mkS [cdL 1]),.str (mkS [cdL 2])]) cs:=by
 have one:∀ (z:Nat) (hz:z < 3) {acc:List V} {r:List V},acc.length <= 2 -> CompR zaw (boolT .And (IE.sems P0 zaz)) (emitL (za1.sem P0).val) [none,none,b1,some (.str (mkS [cdL y])),some (.lst (u.map useV)),a1,a2,a3,a4,a5,a6,a7,a8,a9,a10] (fun acc cs=>outL false acc cs K) (acc ++ [.int (L3.born u y z:Nat)]) (.items r) cs ->
   CompR zaw (boolT .And (IE.sems P0 zaz)) (emitL (za1.sem P0).val) [none,none,b1,some (.str (mkS [cdL y])),some (.lst (u.map useV)),a1,a2,a3,a4,a5,a6,a7,a8,a9,a10] (fun acc cs=>outL false acc cs K) acc (.items (.str (mkS [cdL z]) :: r)) cs:=fun z hz acc r ha q =>
  .go (.items _ _) rfl ⟨Nat.lt_of_le_of_lt ha (by decide),_,.lst _,zuo hy hz u [] (fun q hq=>U.q q hq) (by rw [List.length_nil,Nat.zero_add]; exact n_lim U) ⟨zsg u _ y U.n,zm6 (f:=fun q=>q.2.2 * L3.cnt z (L3.shp q.2.1)) (y:=y) (z4j U hz) U.n q⟩⟩
 exact one 0 (by decide) (Nat.zero_le 2) (one 1 (by decide) (Nat.le_succ 1) (one 2 (by decide) (Nat.le_refl 2) (.done .items ⟨(by decide:3 <= lim),q⟩)))
theorem z2f {K:V -> List Cell -> Prop} {a1 a2 a3 a4 a5 a6 a7 a8 a9 a10:Option V} (q:K (.lst (boLs u)) cs) :
  CompR zav (boolT .And (IE.sems P0 zay)) (emitL (za0.sem P0).val) [none,none,some (.lst (u.map useV)),a1,a2,a3,a4,a5,a6,a7,a8,a9,a10] (fun acc cs=>outL false acc cs K) [] (.items [.str (mkS [cdL 0]),.str (mkS [cdL 1]),.str (mkS [cdL 2])]) cs:=by
 have one:∀ (y:Nat) (hy:y < 3) {acc:List V} {r:List V},acc.length <= 2 -> CompR zav (boolT .And (IE.sems P0 zay)) (emitL (za0.sem P0).val) [none,none,some (.lst (u.map useV)),a1,a2,a3,a4,a5,a6,a7,a8,a9,a10] (fun acc cs=>outL false acc cs K) (acc ++ [boL u y]) (.items r) cs ->
   CompR zav (boolT .And (IE.sems P0 zay)) (emitL (za0.sem P0).val) [none,none,some (.lst (u.map useV)),a1,a2,a3,a4,a5,a6,a7,a8,a9,a10] (fun acc cs=>outL false acc cs K) acc (.items (.str (mkS [cdL y]) :: r)) cs:=fun y hy acc r ha q =>
  .go (.items _ _) rfl ⟨Nat.lt_of_le_of_lt ha (by decide),_,zln,row_at U hy q⟩
 exact one 0 (by decide) (Nat.zero_le 2) (one 1 (by decide) (Nat.le_succ 1) (one 2 (by decide) (Nat.le_refl 2) (.done .items ⟨(by decide:3 <= lim),q⟩)))
end
theorem mul_r {a b:Int} (h:b.natAbs < 9223372036854775808):mulOk a b = true:=by unfold mulOk; rw [decide_eq_true h,Bool.or_true,Bool.true_or]
noncomputable def prL:List V:=[.int 1,.int 1,.int 2,.int 6,.int 24,.int 120,.int 720,.int 5040]
theorem zzy:∀ n:Fin 8,idxV [(1:Int),1,2,6,24,120,720,5040] (n.val:Int) = some ((L3.fact n.val:Nat):Int) /\ L3.fact n.val <= 5040:=by decide +kernel
theorem z3s {α β:Type} (f:α -> β) (xs:List α) (i:Int):idxV (xs.map f) i = (idxV xs i).map f:=by
 unfold idxV
 rw [List.length_map]
 split
 ·rw [List.getElem?_map]
 ·split
  ·rw [List.getElem?_map]
  ·rfl
theorem pr_at {n:Nat} (h:n <= 7):idxV prL (n:Int) = some (.int (L3.fact n:Nat)):=by
 have e:prL = [(1:Int),1,2,6,24,120,720,5040].map .int:=rfl
 rw [e,z3s,(zzy ⟨n,Nat.lt_succ_of_le h⟩).1]; rfl
theorem pr_le {n:Nat} (h:n <= 7):((L3.fact n:Nat):Int).natAbs < 9223372036854775808:=by
 have:=(zzy ⟨n,Nat.lt_succ_of_le h⟩).2
 dsimp only at this
 omega
theorem zw3 {n:Nat} (h:n <= 8):max ((n:Int) - 1) 0 = ((n - 1:Nat):Int) /\ n - 1 <= 7:=by lia
theorem CmpR.gT {cs:List Cell} {K:KB} {i j:Int} (h:j < i) (k:K true cs):CmpR cs K .Gt (.int i) (.int j):=.gt ((decide_eq_true h).symm ▸ k)
theorem CmpR.gF {cs:List Cell} {K:KB} {i j:Int} (h:¬ j < i) (k:K false cs):CmpR cs K .Gt (.int i) (.int j):=.gt ((decide_eq_false h).symm ▸ k)
section
variable {u:List Qs} (U:UOk u) {cs:List Cell} {KK:KF} {a1 a2 a3 a6 a8 a10:Option V} {K:V -> List Cell -> Prop}
noncomputable abbrev wsl (u:List Qs) (a1 a2 a3 a6:Option V) (ab be:Int) (a10:Option V):Slots:=[some (.lst (u.map useV)),a1,a2,a3,some (.lst (usL u)),some (.lst (boLs u)),a6,some (.int ab),some (.int be),some (.lst prL),a10]
theorem zij {n:Nat} {r:List V} {ab be:Int} (hn:n <= 8) (q:ForR zbm (bden (IS.sems P0 zbq)) KK (.items r) (wsl u a1 a2 a3 a6 (ab * (L3.fact (n - 1):Nat)) be (some (.int (n:Nat)))) cs):ForR zbm (bden (IS.sems P0 zbq)) KK (.items (.int (n:Nat) :: r)) (wsl u a1 a2 a3 a6 ab be a10) cs:=by
 have m:=zw3 hn
 exact .go (.items _ _) rfl (.subI (.max2 (by rw [m.1]; exact ⟨_,.seq (.lst _) (pr_at m.2),.mulI (mul_r (pr_le m.2)) q⟩)))
theorem zw8 {ab:Int} {w:List Qs} (q:∀ a1 a2 a3,KK .next (wsl u a1 a2 a3 a6 ab (L3.below w:Nat) a10) cs) (r:List Qs):∀ (b:Nat) (a1 a2 a3:Option V),(∀ q ∈ r,q.2.2 <= 7) -> b * L3.below r = L3.below w -> ForR zcj (bden (IS.sems P0 zcs)) KK (.items (r.map useV)) (wsl u a1 a2 a3 a6 ab (b:Nat) a10) cs:=by
 induction r with
 | nil=>exact fun b a1 a2 a3 _ e=>.done .items (by rw [show L3.below [] = 1 from rfl,Nat.mul_one] at e; subst e; exact q _ _ _)
 | cons p r ih =>
  intro b a1 a2 a3 h e
  have h7:=h p List.mem_cons_self
  refine .go (.items _ _) rfl ⟨_,.seq (.lst _) (pr_at h7),.mulI' (mul_r (pr_le h7)) (Int.natCast_mul b (L3.fact p.2.2)).symm (ih _ _ _ _ (fun x hx=>h x (List.mem_cons_of_mem _ hx)) ?_)⟩
  rw [<- e,Nat.mul_assoc]; rfl
include U
theorem zz9 (k:Nat) (hk:k < 3):(L3.midI u k).natAbs <= 16:=by
 have h1:=U.b k hk
 have h2:=zup (fun q hq=>(U.q q hq).2.1) k (y:=k) hk
 unfold L3.midI
 split <;> lia
theorem zse {k:Nat} {zs:List V} {b0 b2 b3 b4 b5 b8 b9 b10 b11 b12:Option V} (h1:idxV (usL u) (k:Int) = some (.int (L3.uses u k:Nat))) (h2:idxV (boLs u) (k:Int) = some (.lst zs)) (h3:idxV zs (k:Int) = some (.int (L3.born u k k:Nat))) (q:K (.int (L3.midI u k)) cs) :
  (zcq.sem P0).val [b0,some (.int (k:Nat)),b2,b3,b4,b5,some (.lst (usL u)),some (.lst (boLs u)),b8,b9,b10,b11,b12] cs K:=by
 by_cases h:0 < L3.uses u k
 ·rw [show L3.midI u k = (L3.uses u k:Int) - (L3.born u k k:Nat) from if_pos h] at q
  exact ⟨_,.seq (.lst _) h1,.gT (Int.ofNat_lt.mpr h) ⟨_,.seq (.lst _) h1,_,.seq (.lst _) h2,_,.seq (.lst _) h3,.subI q⟩⟩
 ·rw [show L3.midI u k = 1 from if_neg h] at q
  exact ⟨_,.seq (.lst _) h1,.gF (fun z=>h (Int.ofNat_lt.mp z)) q⟩
end
noncomputable def weiS:Spec:=Sp (fun u:List Qs=>[.lst (u.map useV)]) [] noKw fun u cs K=>UOk u /\ K (.tup [.int (L3.aboveI u),.int ((L3.below u:Nat):Int)]) cs
theorem prods (a f0 f1 f2:Int):a * f0 * f1 * f2 = a * (f0 * (f1 * f2)):=by rw [Int.mul_assoc,Int.mul_assoc]
theorem zzc (u:List Qs):(L3.midI u 1 * L3.midI u 2 - (L3.born u 1 2:Nat) * (L3.born u 2 1:Nat)) * (L3.fact (L3.uses u 0 - 1):Nat) * (L3.fact (L3.uses u 1 - 1):Nat) * (L3.fact (L3.uses u 2 - 1):Nat) = L3.aboveI u:=by
 rw [prods]
 unfold L3.aboveI L3.prod3
 push_cast
 rfl
section
variable {C:Cx} {K:Frag} (F2:Facts2 C P0 K) (L:LimAt C)
include F2 L
theorem zpb (Fk:FnK K 279 F_law_weighed) (B:Bd1 K 279 (S "used")):FnOk C.up 279 weiS :=
 fn1 (sl:=fun u:List Qs=>[some (.lst (u.map useV)),none,none,none,none,none,none,none,none,none,none]) F2 L Fk (zjj []) B (fun _=>rfl) fun u cs K' q=>by
  obtain ⟨U,q⟩:=q
  have h1:=zz9 U 1 (by decide)
  have h2:=zz9 U 2 (by decide)
  have b12:=zup (fun q hq=>(U.q q hq).2.1) 1 (y:=2) (by decide)
  have b1:=U.b 1 (by decide)
  refine ⟨_,zln,z1g U ⟨_,zln,z2f U ⟨(by decide:2 <= lim),_,.tup _,.go (.items _ _) rfl ⟨(by decide:0 < lim),zse U (k:=1) rfl rfl rfl (.go (.items _ _) rfl ⟨(by decide:1 < lim),zse U (k:=2) rfl rfl rfl (.done .items ⟨(by decide:2 <= lim),?_⟩)⟩)⟩⟩⟩⟩
  refine ⟨_,.seq (.lst _) rfl,_,.seq (.lst _) rfl,.mulI (mul_l (by lia)) ⟨_,.seq (.lst _) rfl,_,.seq (.lst _) rfl,_,.seq (.lst _) rfl,_,.seq (.lst _) rfl,.mulI (mul_l (by lia)) (.subI ⟨(by decide:2 <= lim),rfl,(by decide:8 <= lim),?_⟩)⟩⟩
  refine ⟨_,.lst _,zij (U.b 0 (by decide)) (zij (U.b 1 (by decide)) (zij (U.b 2 (by decide)) (.done .items ⟨_,.lst _,zw8 (fun a1 a2 a3=>⟨(by decide:2 <= lim),?_⟩) u 1 _ _ _ (fun q hq=>(U.q q hq).2.2) (Nat.one_mul _)⟩)))⟩
  rw [zzc]
  exact q
end
theorem zlq {α:Type} (xs:List α) (p:Nat) (h:p <= xs.length):sliceL xs (some (p:Int)) none none = xs.drop p:=by
 refine Eq.trans (b:=(sliceRange (max 0 (min (if (p:Int) < 0 then (p:Int) + (xs.length:Int) else p) (xs.length:Int))) ((xs.length:Nat):Int) 1).filterMap (xs[·]?)) rfl ?_
 rw [clipN,Nat.min_eq_left h,zau xs p _ h (Nat.le_refl _),List.take_length]
theorem zvz (X:List Nat) (q:Nat):Txt.slice (mkS X) none (some (q:Int)) = mkS (X.take q):=by
 have e:Builtin.Str.strSliceIndices none (some (q:Int)) 1 (mkS X).length = sliceRange ((0:Nat):Int) ((min q X.length:Nat):Int) 1:=by
  refine Eq.trans (b:=sliceRange ((0:Nat):Int) (max 0 (min (if (q:Int) < 0 then (q:Int) + (X.length:Int) else q) (X.length:Int))) 1) rfl ?_
  rw [clipN]
 unfold Txt.slice
 rw [e]
 by_cases hc:min q X.length = X.length
 ·rw [zat,List.length_map,List.length_range,Nat.sub_zero,hc,List.take_of_length_le (hc ▸ Nat.min_le_left _ _)]
  exact if_pos (show (X.length == X.length) = true from beq_self_eq_true _)
 ·rw [if_neg (fun z=>hc (by rw [zat,List.length_map,List.length_range,Nat.sub_zero] at z; exact beq_iff_eq.mp z))]
  refine congrArg mkS (Eq.trans (b:=(sliceRange ((0:Nat):Int) ((min q X.length:Nat):Int) 1).filterMap (X[·]?)) (congrArg (fun f=>List.filterMap f _) (funext fun i=>List.getElem?_toArray)) ?_)
  rw [zau X 0 _ (Nat.zero_le _) (Nat.min_le_right _ _),List.drop_zero,<- List.take_eq_take_min]
theorem zon (X:List Nat) (p:Nat) (h:p <= X.length) (h0:0 < p):Txt.slice (mkS X) (some (p:Int)) none = mkS (X.drop p):=by
 have e:Builtin.Str.strSliceIndices (some (p:Int)) none 1 (mkS X).length = sliceRange (p:Int) ((X.length:Nat):Int) 1:=by
  refine Eq.trans (b:=sliceRange (max 0 (min (if (p:Int) < 0 then (p:Int) + (X.length:Int) else p) (X.length:Int))) ((X.length:Nat):Int) 1) rfl ?_
  rw [clipN,Nat.min_eq_left h]
 unfold Txt.slice
 rw [e,if_neg (fun z=>by
  rw [zat,List.length_map,List.length_range] at z
  have:X.length - p = X.length:=beq_iff_eq.mp z
  omega)]
 refine congrArg mkS (Eq.trans (b:=(sliceRange (p:Int) ((X.length:Nat):Int) 1).filterMap (X[·]?)) (congrArg (fun f=>List.filterMap f _) (funext fun i=>List.getElem?_toArray)) ?_)
 rw [zau X p _ h (Nat.le_refl _),List.take_length]
noncomputable def pgS (X:List Nat):Str:=mkS (X.map cdL)
noncomputable def lfI (c:List Nat):List Int:=c.map fun n=>((n:Nat):Int)
noncomputable def lfV (c:List Nat):List V:=(lfI c).map .int
noncomputable def rowV (r:L3.Row):V:=.tup [.str (pgS r.1),.lst (lfV r.2)]
noncomputable def rsOf (u:List Qs):L3.Ru:=u.map fun q=>(q.1,q.2.1)
theorem zss (c:List Nat):(lfI c).sum = ((c.sum:Nat):Int):=by
 induction c with
 | nil=>rfl
 | cons a c ih =>
  show (a:Int) + (lfI c).sum = _
  rw [ih,List.sum_cons,Int.natCast_add]
theorem zf1 (c:List Nat):(lfV c).length = c.length:=by unfold lfV lfI; rw [List.length_map,List.length_map]
theorem lf_at {c:List Nat} {k n:Nat} (h:c[k]? = some n):idxV (lfV c) (k:Int) = some (.int (n:Nat)):=by
 unfold idxV lfV lfI
 rw [if_pos (Int.natCast_nonneg _),Int.toNat_natCast,List.getElem?_map,List.getElem?_map,h]; rfl
theorem zha {c:List Nat} {a:Nat} (h:a ∈ c):a <= c.sum:=by
 induction c with
 | nil=>cases h
 | cons b c ih =>
  rw [List.sum_cons]
  rcases List.mem_cons.mp h with e | h
  ·subst e; lia
  ·have:=ih h; lia
theorem lf_ok {c:List Nat} (h:c.sum <= 1000):∀ x ∈ lfI c,0 <= x /\ x <= 1000:=fun x hx=>by
 obtain ⟨a,ha,rfl⟩:=List.mem_map.mp hx
 have:=zha ha
 lia
structure RowOk (u:List Qs) (r:L3.Row):Prop where
 l:∀ x ∈ r.1,x < 3
 s:r.1.length <= r.2.sum + 1
 n:r.2.sum <= 8
 c:r.2.length = u.length
theorem zzo:∀ s:Fin 13,(L3.shp s.val).all (· < 3) = true /\ (L3.shp s.val).length <= 2:=by decide +kernel
theorem z2u {X:List Nat} (hX:∀ x ∈ X,x < 3) {a:Nat} (ha:a < 4):decide (mkS ((X.map cdL).take 1) = mkS (lowL a)) = decide (X.head? = some a):=by
 cases X with
 | nil =>
  have:∀ a:Fin 4,decide (mkS (([]:List Nat).map cdL |>.take 1) = mkS (lowL a.val)) = false:=by decide +kernel
  rw [this ⟨a,ha⟩]
  rfl
 | cons x t =>
  have h:=zsl ha (hX x List.mem_cons_self)
  show decide (mkS [cdL x] = _) = _
  have e:decide (mkS [cdL x] = mkS (lowL a)) = decide (mkS (lowL a) = mkS [cdL x]):=decide_eq_decide.mpr eq_comm
  rw [e,h]
  show Nat.beq a x = decide (some x = some a)
  by_cases g:x = a
  ·subst g; rw [decide_eq_true rfl]; exact Nat.beq_refl _
  ·rw [decide_eq_false (fun z=>g (Option.some.inj z))]
   exact Bool.eq_false_iff.mpr fun z=>g (Nat.eq_of_beq_eq_true z).symm
theorem z4a {c:List Nat} {k:Nat} (h:k < c.length):(lfV c).take k ++ [.int (((c.getD k 0:Nat):Int) - 1)] ++ (lfV c).drop (k + 1) = (lfV c).set k (.int (((c.getD k 0:Nat):Int) - 1)):=by
 rw [List.set_eq_take_append_cons_drop,if_pos (by rw [zf1]; exact h),List.append_assoc]; rfl
theorem dec_eq {c:List Nat} {k:Nat} (h:k < c.length) (h0:0 < c.getD k 0):(lfV c).take k ++ [.int (((c.getD k 0:Nat):Int) - 1)] ++ (lfV c).drop (k + 1) = lfV (L3.decK k c):=by
 rw [z4a h]
 unfold lfV lfI L3.decK
 rw [List.map_set,List.map_set,show (((c.getD k 0 - 1:Nat):Nat):Int) = ((c.getD k 0:Nat):Int) - 1 by lia]
theorem CmpR.leT {cs:List Cell} {K:KB} {i j:Int} (h:i <= j) (k:K true cs):CmpR cs K .LtE (.int i) (.int j):=.le ((decide_eq_true h).symm ▸ k)
theorem CmpR.leF {cs:List Cell} {K:KB} {i j:Int} (h:¬ i <= j) (k:K false cs):CmpR cs K .LtE (.int i) (.int j):=.le ((decide_eq_false h).symm ▸ k)
theorem CmpR.gT2 {cs:List Cell} {K:KB} {i j:Int} (h:j < i) (k:K true cs):CmpR cs K .Gt (.int i) (.int j):=.gt ((decide_eq_true h).symm ▸ k)
theorem CmpR.gF2 {cs:List Cell} {K:KB} {i j:Int} (h:¬ j < i) (k:K false cs):CmpR cs K .Gt (.int i) (.int j):=.gt ((decide_eq_false h).symm ▸ k)
theorem lastget (cs:List Cell) (c:Cell):(cs ++ [c])[cs.length]? = some c:=by rw [List.getElem?_append_right (Nat.le_refl _),Nat.sub_self]; rfl
theorem lastset (cs:List Cell) (c d:Cell):(cs ++ [c]).set cs.length d = cs ++ [d]:=by rw [List.set_append_right _ _ (Nat.le_refl _),Nat.sub_self]; rfl
theorem z2g {u:List Qs} {row:L3.Row} {k:Nat} {q:Qs} (h:u[k]? = some q):L3.rowK (rsOf u) row k = if 0 < row.2.getD k 0 /\ row.1.head? = some q.1 /\ row.1.length + (L3.shp q.2.1).length <= row.2.sum then some (L3.shp q.2.1 ++ row.1.tail,L3.decK k row.2) else none:=by
 have e:(rsOf u)[k]? = some (q.1,q.2.1):=by unfold rsOf; rw [List.getElem?_map,h]; rfl
 have e2:(rsOf u).getD k (9,0) = (q.1,q.2.1):=by rw [List.getD_eq_getElem?_getD,e]; rfl
 unfold L3.rowK
 rw [e,e2]
 rfl
noncomputable def frR (u:List Qs) (row:L3.Row) (k n:Nat):List L3.Row:=(List.range' k n).filterMap (L3.rowK (rsOf u) row)
theorem zxx {u:List Qs} {row:L3.Row} {k n:Nat} (h:L3.rowK (rsOf u) row k = none):frR u row k (n + 1) = frR u row (k + 1) n:=by unfold frR; rw [List.range'_succ,List.filterMap_cons_none h]
theorem zxw {u:List Qs} {row b:L3.Row} {k n:Nat} (h:L3.rowK (rsOf u) row k = some b):frR u row k (n + 1) = b :: frR u row (k + 1) n:=by unfold frR; rw [List.range'_succ,List.filterMap_cons_some h]
theorem fr_R (u:List Qs) (row:L3.Row):L3.fr (rsOf u) row = frR u row 0 u.length:=by
 unfold L3.fr frR
 rw [List.range_eq_range',show (rsOf u).length = u.length from List.length_map _]
section
variable {KK:KF} {u:List Qs} {c0:List Cell} {a1 a2:Option V} {row:L3.Row}
noncomputable abbrev trsl (u:List Qs) (a1 a2:Option V) (f:Nat) (a4 a5 a6 a7:Option V):Slots:=[some (.lst (u.map useV)),a1,a2,some (.ref f),a4,a5,a6,a7]
noncomputable abbrev rowC (c0:List Cell) (acc:List L3.Row):List Cell:=c0 ++ [.list (acc.map rowV)]
theorem z44 {P:Prm} {K:KV} {c0:List Cell} {acc:List L3.Row} {b:L3.Row} (h:acc.length < lim) (q:K .none (rowC c0 (acc ++ [b]))):MethR P (rowC c0 acc) K .append (.ref c0.length) [rowV b] :=
 .append' (lastget _ _) (by rw [List.length_map]; exact h) (by rw [lastset]; exact congrArg (fun z=>c0 ++ [Cell.list z]) (List.map_append (l₁:=acc) (l₂:=[b]) (f:=rowV)).symm) q
theorem zro (R:RowOk u row) (U:∀ q ∈ u,q.1 < 4 /\ q.2.1 < 13) (hu:u.length <= 11) (r:List Qs):∀ (k:Nat) (acc:List L3.Row) (a6 a7:Option V),u.drop k = r -> acc.length + (frR u row k r.length).length <= lim ->
  (∀ a6 a7,KK .next (trsl u a1 a2 c0.length (some (.str (pgS row.1))) (some (.lst (lfV row.2))) a6 a7) (rowC c0 (acc ++ frR u row k r.length))) ->
  ForR zci (bden (IS.sems P0 zcg)) KK (.items (enumV (r.map useV) k)) (trsl u a1 a2 c0.length (some (.str (pgS row.1))) (some (.lst (lfV row.2))) a6 a7) (rowC c0 acc):=by
 induction r with
 | nil =>
  intro k acc a6 a7 _ _ q
  have q:=q a6 a7
  rw [show frR u row k ([]:List Qs).length = [] from rfl,List.append_nil] at q
  exact .done .items q
 | cons p r ih =>
  intro k acc a6 a7 e hl q
  have hk:u[k]? = some p:=by
   have:(u.drop k)[0]? = some p:=by rw [e]; rfl
   rw [List.getElem?_drop] at this; exact this
  have hlt:k < row.2.length:=by rw [R.c]; exact (List.getElem?_eq_some_iff.mp hk).1
  have he:u.drop (k + 1) = r:=by rw [<- List.drop_drop,e]; rfl
  obtain ⟨u1,u2⟩:=U p (List.mem_of_getElem? hk)
  have hat:idxV (lfV row.2) (k:Int) = some (.int ((row.2.getD k 0:Nat):Int)):=lf_at (by rw [List.getD_eq_getElem?_getD,List.getElem?_eq_getElem hlt]; rfl)
  have RK:=z2g (row:=row) hk
  -- what follows when the rule is not taken
  have no:¬ (0 < row.2.getD k 0 /\ row.1.head? = some p.1 /\ row.1.length + (L3.shp p.2.1).length <= row.2.sum) -> ForR zci (bden (IS.sems P0 zcg)) KK (.items (enumV (r.map useV) (k + 1))) (trsl u a1 a2 c0.length (some (.str (pgS row.1))) (some (.lst (lfV row.2))) (some (.int (k:Nat))) (some (useV p))) (rowC c0 acc):=fun hn=>by
   rw [if_neg hn] at RK
   rw [List.length_cons,zxx RK] at hl q
   exact ih (k + 1) acc _ _ he hl q
  have hh:=z2u R.l u1
  refine .go (.items _ _) rfl ⟨_,.seq (.lst _) hat,?_⟩
  by_cases h0:0 < row.2.getD k 0
  ·refine .gT2 (Int.ofNat_lt.mpr h0) ⟨_,_,_,.none,.int _,.none,.str' (zvz _ 1) ⟨_,.seq (.tup _) rfl,?_⟩⟩
   by_cases h1:mkS ((row.1.map cdL).take 1) = mkS (lowL p.1)
   ·rw [decide_eq_true h1] at hh
    have h1':=of_decide_eq_true hh.symm
    refine .eq (.strT h1) (.lenS ⟨_,.seq (.tup _) rfl,.lenS (.addI (.sum (.lst _) (lf_ok (Nat.le_trans R.n (by decide))) (by rw [show (lfI row.2).length = row.2.length from List.length_map _,R.c]; exact Nat.le_trans hu (by decide)) ?_))⟩)
    have l1:(pgS row.1).length = row.1.length:=List.length_map _
    have l2:(mkS (shL p.2.1)).length = (L3.shp p.2.1).length:=List.length_map _
    by_cases h2:row.1.length + (L3.shp p.2.1).length <= row.2.sum
    ·rw [if_pos ⟨h0,h1',h2⟩] at RK
     rw [List.length_cons,zxw RK] at hl q
     rw [List.length_cons] at hl
     have l3:=R.n
     have hc:row.2.length <= 11:=by rw [R.c]; exact hu
     have lt:((lfV row.2).take k).length <= 11:=by rw [List.length_take,zf1]; lia
     have ld:((lfV row.2).drop (k + 1)).length <= 11:=by rw [List.length_drop,zf1]; lia
     have hne:1 <= row.1.length:=by
      cases hr:row.1 with
      | nil=>rw [hr] at h1'; cases h1'
      | cons a t=>exact Nat.le_add_left _ _
     have eS:mkS (shL p.2.1) ++ mkS ((row.1.map cdL).drop 1) = pgS (L3.shp p.2.1 ++ row.1.tail):=by
      unfold pgS
      rw [zel,List.map_append,<- List.map_drop,List.drop_one]
      rfl
     refine .leT (by rw [zss,l1,l2]; lia) ⟨.append (lastget _ _),_,.seq (.tup _) rfl,_,_,_,.int _,.none,.none,.str' (zon _ 1 (by rw [List.length_map]; exact hne) (by decide)) (.addS' eS ?_ ⟨_,_,_,.none,.int _,.none,.lst' (.lst _) (fun z=>nomatch z) (zds _ k) ⟨Nat.le_trans lt (by decide),_,.seq (.lst _) hat,.subI ⟨(by decide:1 <= lim),.addL (.lst _) (.lst _) ⟨?_,.addI' (z:=((k + 1:Nat):Int)) rfl ⟨_,_,_,.int _,.none,.none,.lst' (.lst _) (fun z=>nomatch z) (zlq _ (k + 1) (by rw [zf1]; exact hlt)) ⟨Nat.le_trans ld (by decide),.addL (.lst _) (.lst _) ⟨?_,(by decide:2 <= lim),?_⟩⟩⟩⟩⟩⟩⟩)⟩
     ·rw [show (pgS (L3.shp p.2.1 ++ row.1.tail)).length = (L3.shp p.2.1 ++ row.1.tail).length from List.length_map _,List.length_append,List.length_tail]
      exact Nat.le_trans (by lia:_ <= 20) (by decide)
     ·rw [List.length_append]; exact Nat.le_trans (Nat.add_le_add_right lt 1) (by decide)
     ·rw [List.length_append,List.length_append]; exact Nat.le_trans (Nat.add_le_add (Nat.add_le_add_right lt 1) ld) (by decide)
     ·rw [dec_eq hlt h0]
      refine z44 (b:=(L3.shp p.2.1 ++ row.1.tail,L3.decK k row.2)) (by lia) (ih (k + 1) (acc ++ [(L3.shp p.2.1 ++ row.1.tail,L3.decK k row.2)]) _ _ he (by rw [List.length_append,List.length_singleton]; lia) ?_)
      rw [List.append_assoc]
      exact q
    ·exact .leF (by rw [zss,l1,l2]; lia) (no fun z=>h2 z.2.2)
   ·rw [decide_eq_false h1] at hh
    exact .eq (.strF h1) (no fun z=>of_decide_eq_false hh.symm z.2.1)
  ·exact .gF2 (fun z=>h0 (Int.ofNat_lt.mp z)) (no fun z=>h0 z.1)
end
end Mine
end
section
namespace Mine
open PySem
noncomputable def ctOf (u:List Qs):List Nat:=u.map fun q=>q.2.2
theorem zvd (u:List Qs):L3.zipU (rsOf u) (ctOf u) = u:=by
 unfold L3.zipU rsOf ctOf
 induction u with
 | nil=>rfl
 | cons q u ih=>rw [List.map_cons,List.map_cons,List.zipWith_cons_cons,ih]
theorem zc7 (u:List Qs):L3.tot u = (ctOf u).sum:=by unfold L3.tot; rw [L3.zqw]; rfl
theorem zkv (u:List Qs):(ctOf u).length = (rsOf u).length:=by unfold ctOf rsOf; rw [List.length_map,List.length_map]
theorem znu (n:Nat):0 < L3.fact n:=by
 induction n with
 | zero=>exact Nat.one_pos
 | succ n ih=>exact Nat.mul_pos (Nat.succ_pos n) ih
theorem zx1 {α β:Type} (f:α -> List β) (k:Nat) (l:List α) (h:∀ a ∈ l,(f a).length <= k):(l.flatMap f).length <= l.length * k:=by
 induction l with
 | nil=>exact Nat.zero_le _
 | cons a l ih =>
  rw [List.flatMap_cons,List.length_append,List.length_cons,Nat.succ_mul,Nat.add_comm]
  exact Nat.add_le_add (ih fun x hx=>h x (List.mem_cons_of_mem _ hx)) (h a List.mem_cons_self)
theorem zrr {rs:L3.Ru} {c:List Nat} (hl:c.length = rs.length) (m:Nat):m <= c.sum -> (L3.rowsN rs c m).length * L3.fact (c.sum - m) <= L3.fact c.sum:=by
 induction m with
 | zero=>intro _; exact Nat.le_of_eq (Nat.one_mul _)
 | succ m ih =>
  intro hm
  refine Nat.le_trans ?_ (ih (Nat.le_of_succ_le hm))
  have e:c.sum - m = (c.sum - (m + 1)) + 1:=by lia
  have inv:=L3.zib hl m (Nat.le_of_succ_le hm)
  have b:(L3.rowsN rs c (m + 1)).length <= (L3.rowsN rs c m).length * (c.sum - m):=zx1 _ _ _ fun r hr=>by
   have i:=inv r hr
   have:=L3.fr_len (rs:=rs) (row:=r) i.2
   lia
  rw [e]
  show _ <= (L3.rowsN rs c m).length * ((c.sum - (m + 1) + 1) * L3.fact (c.sum - (m + 1)))
  rw [<- Nat.mul_assoc,<- e]
  exact Nat.mul_le_mul_right _ b
theorem zia {rs:L3.Ru} {c:List Nat} (hl:c.length = rs.length) (h8:c.sum <= 8) {m:Nat} (hm:m <= c.sum):(L3.rowsN rs c m).length <= 40320:=by
 have h:=zrr hl m hm
 have f8:∀ n:Fin 9,L3.fact n.val <= 40320:=by decide +kernel
 exact Nat.le_trans (Nat.le_mul_of_pos_right _ (znu _)) (Nat.le_trans h (f8 ⟨c.sum,Nat.lt_succ_of_le h8⟩))
theorem fr_row {u:List Qs} (U:∀ q ∈ u,q.1 < 4 /\ q.2.1 < 13) {row r:L3.Row} (R:RowOk u row) (h:r ∈ L3.fr (rsOf u) row):(∀ x ∈ r.1,x < 3) /\ r.1.length + 1 <= row.2.sum + 1:=by
 obtain ⟨k,hk,e⟩:=List.mem_filterMap.mp h
 have hk':=List.mem_range.mp hk
 have hq:(rsOf u)[k]? = some ((rsOf u)[k]):=List.getElem?_eq_getElem hk'
 have hd:(rsOf u).getD k (9,0) = (rsOf u)[k]:=by rw [List.getD_eq_getElem?_getD,hq]; rfl
 obtain ⟨q,hm,eq⟩:=List.mem_map.mp (List.getElem_mem hk')
 have hs:=zzo ⟨q.2.1,(U q hm).2⟩
 unfold L3.rowK at e
 split at e
 ·rename_i z
  have z2:=z.2.2
  cases e
  rw [hd,<- eq] at z2 ⊢
  refine ⟨fun x hx=>?_,?_⟩
  ·rcases List.mem_append.mp hx with hx | hx
   ·exact of_decide_eq_true (List.all_eq_true.mp hs.1 x hx)
   ·exact R.l x (List.mem_of_mem_tail hx)
  ·have hne:1 <= row.1.length:=by
    cases hr:row.1 with
    | nil=>have:=z.2.1; rw [hr,hq] at this; cases this
    | cons a t=>exact Nat.le_add_left _ _
   rw [List.length_append,List.length_tail]
   dsimp only at z2
   show (L3.shp q.2.1).length + (row.1.length - 1) + 1 <= _
   lia
 ·cases e
theorem zrp {u:List Qs} (U:∀ q ∈ u,q.1 < 4 /\ q.2.1 < 13) (h8:L3.tot u <= 8) (m:Nat):m <= L3.tot u -> ∀ r ∈ L3.rowsN (rsOf u) (ctOf u) m,RowOk u r:=by
 rw [zc7] at h8 ⊢
 induction m with
 | zero =>
  intro _ r hr
  cases List.mem_singleton.mp hr
  exact ⟨fun x hx=>by cases List.mem_singleton.mp hx; decide,Nat.le_add_left _ _,h8,List.length_map _⟩
 | succ m ih =>
  intro hm r hr
  obtain ⟨row,h1,h2⟩:=List.mem_flatMap.mp hr
  have R:=ih (Nat.le_of_succ_le hm) row h1
  obtain ⟨i1,i2⟩:=L3.zib (zkv u) m (Nat.le_of_succ_le hm) row h1
  obtain ⟨f1,f2⟩:=L3.z0h (n:=(ctOf u).sum - m - 1) (by lia) i2 h2
  obtain ⟨g1,g2⟩:=fr_row U R h2
  exact ⟨g1,by lia,by lia,by rw [f2]; exact List.length_map _⟩
noncomputable def doneB (r:L3.Row):Bool:=r.1.isEmpty
theorem zyd (rs:L3.Ru) (rows:List L3.Row):(rows.filter doneB).length = L3.cntR rs 0 rows:=by
 induction rows with
 | nil=>rfl
 | cons r rows ih =>
  unfold L3.cntR at ih ⊢
  rw [List.filter_cons,List.map_cons,List.sum_cons,<- ih]
  obtain ⟨p,c⟩:=r
  cases p with
  | nil=>rw [if_pos (show doneB ([],c) = true from rfl),List.length_cons]; exact Nat.add_comm _ 1
  | cons x t=>rw [if_neg (show ¬ doneB (x :: t,c) = true from Bool.false_ne_true)]; exact (Nat.zero_add _).symm
theorem ziv (u:List Qs):((L3.rowsN (rsOf u) (ctOf u) (L3.tot u)).filter doneB).length = L3.T (L3.tot u) [0] u:=by
 rw [zyd (rsOf u),zc7]
 have:=L3.zyt (zkv u) (ctOf u).sum (Nat.le_refl _)
 rw [Nat.sub_self,zvd] at this
 exact this
end Mine
end
section
namespace Mine
open PySem PySem.SeqAt PySem.W PySem.Calls
section
variable {KK:KF} {u:List Qs} {c0:List Cell} {a1 a2:Option V}
theorem zmk {α:Type} {l r:List α} {a:α} {i:Nat} (e:l.drop i = a :: r):l[i]? = some a /\ l.drop (i + 1) = r:=by
 refine ⟨?_,by rw [<- List.drop_drop,e]; rfl⟩
 have:(l.drop i)[0]? = some a:=by rw [e]; rfl
 rw [List.getElem?_drop] at this; exact this
theorem za7 {c0:List Cell} {rl:Nat} {c d:Cell} (h:c0[rl]? = some c):(c0 ++ [d])[rl]? = some c:=by
 rw [List.getElem?_append_left (List.getElem?_eq_some_iff.mp h).1]; exact h
theorem zrq {rl:Nat} {rows:List L3.Row} (hr:c0[rl]? = some (.list (rows.map rowV))) (hR:∀ row ∈ rows,RowOk u row) (U:∀ q ∈ u,q.1 < 4 /\ q.2.1 < 13) (hu:u.length <= 11) (r:List L3.Row):∀ (i:Nat) (acc:List L3.Row) (a4 a5 a6 a7:Option V),
  rows.drop i = r -> acc.length + (r.flatMap (L3.fr (rsOf u))).length <= lim -> (∀ a4 a5 a6 a7,KK .next (trsl u a1 a2 c0.length a4 a5 a6 a7) (rowC c0 (acc ++ r.flatMap (L3.fr (rsOf u))))) ->
  ForR zer (bden (IS.sems P0 zeb)) KK (.cell rl i) (trsl u a1 a2 c0.length a4 a5 a6 a7) (rowC c0 acc):=by
 induction r with
 | nil =>
  intro i acc a4 a5 a6 a7 e _ q
  have q:=q a4 a5 a6 a7
  rw [List.flatMap_nil,List.append_nil] at q
  exact .done (.cell (za7 hr) (by rw [List.getElem?_eq_none_iff,List.length_map]; exact List.drop_eq_nil_iff.mp e)) q
 | cons row r ih =>
  intro i acc a4 a5 a6 a7 e hl q
  obtain ⟨h1,h2⟩:=zmk e
  rw [List.flatMap_cons,fr_R] at hl q
  rw [List.length_append] at hl
  refine .go (.cell (za7 hr) (x:=rowV row) (by rw [List.getElem?_map,h1]; rfl)) rfl ⟨rfl,.enum (.lst _) (zro (hR row (List.mem_of_getElem? h1)) U hu u 0 acc _ _ rfl (by lia) fun a6 a7=>ih (i + 1) _ _ _ _ _ h2 (by rw [List.length_append]; lia) ?_)⟩
  rw [List.append_assoc]
  exact q
noncomputable abbrev tusl (u:List Qs) (rl:Nat) (a2 a3 a4 a5 a6 a7:Option V):Slots:=[some (.lst (u.map useV)),some (.ref rl),a2,a3,a4,a5,a6,a7]
theorem zog (U:∀ q ∈ u,q.1 < 4 /\ q.2.1 < 13) (hu:u.length <= 11) (h8:L3.tot u <= 8)
  (q:∀ rl ext a2 a3 a4 a5 a6 a7,(c0 ++ ext)[rl]? = some (.list ((L3.rowsN (rsOf u) (ctOf u) (L3.tot u)).map rowV)) -> KK .next (tusl u rl a2 a3 a4 a5 a6 a7) (c0 ++ ext)) (d:Nat):∀ (m rl:Nat) (ext:List Cell) (a2 a3 a4 a5 a6 a7:Option V),m + d = L3.tot u ->
  (c0 ++ ext)[rl]? = some (.list ((L3.rowsN (rsOf u) (ctOf u) m).map rowV)) -> ForR zes (bden (IS.sems P0 zea)) KK (.items (upTo m d)) (tusl u rl a2 a3 a4 a5 a6 a7) (c0 ++ ext):=by
 induction d with
 | zero=>intro m rl ext a2 a3 a4 a5 a6 a7 e h; cases (e:m = L3.tot u); exact .done .items (q _ _ _ _ _ _ _ _ h)
 | succ d ih =>
  intro m rl ext a2 a3 a4 a5 a6 a7 e h
  have hm:m + 1 <= L3.tot u:=by lia
  have hl:(L3.rowsN (rsOf u) (ctOf u) (m + 1)).length <= lim:=Nat.le_trans (zia (zkv u) (by rw [<- zc7]; exact h8) (by rw [<- zc7]; exact hm)) (by decide)
  refine .go (.items _ _) rfl ⟨Nat.zero_le _,_,.cell (za7 h),zrq (c0:=c0 ++ ext) h (zrp U h8 m (Nat.le_of_succ_le hm)) U hu _ 0 [] _ _ _ _ rfl (by rw [List.length_nil,Nat.zero_add]; exact hl) fun a4 a5 a6 a7=>?_⟩
  have z:=ih (m + 1) (c0 ++ ext).length (ext ++ [.list ((L3.rowsN (rsOf u) (ctOf u) (m + 1)).map rowV)]) (some (.int (m:Nat))) (some (.ref (c0 ++ ext).length)) a4 a5 a6 a7 (by lia) (by rw [<- List.append_assoc]; exact lastget _ _)
  rw [<- List.append_assoc] at z
  exact z
theorem zt6 {K:List V -> List Cell -> Prop} {rl:Nat} {rows:List L3.Row} {cs:List Cell} {fr:Slots} (hr:cs[rl]? = some (.list (rows.map rowV))) (r:List L3.Row):∀ (i:Nat) (acc:List V) (a b:Option V),rows.drop i = r -> (∀ x ∈ r,∀ y ∈ x.1,y < 3) -> acc.length + r.length <= lim ->
  (∀ zs:List V,zs.length = acc.length + (r.filter doneB).length -> K zs cs) ->
  CompR zdq (boolT .And (IE.sems P0 zdx)) (emitL (zd1.sem P0).val) (none :: a :: b :: fr) K acc (.cell rl i) cs:=by
 induction r with
 | nil=>exact fun i acc a b e _ _ q=>.done (.cell hr (by rw [List.getElem?_eq_none_iff,List.length_map]; exact List.drop_eq_nil_iff.mp e)) (q acc rfl)
 | cons row r ih =>
  intro i acc a b e hy hl q
  obtain ⟨h1,h2⟩:=zmk e
  rw [List.length_cons] at hl
  have hg:(rows.map rowV)[i]? = some (rowV row):=by rw [List.getElem?_map,h1]; rfl
  have hy':=fun x hx=>hy x (List.mem_cons_of_mem _ hx)
  rw [List.filter_cons] at q
  cases hr1:row.1 with
  | nil =>
   rw [if_pos (by unfold doneB; rw [hr1]; rfl),List.length_cons] at q
   exact .go (.cell hr hg) rfl (.eq (.strT (by rw [hr1]; rfl)) ⟨by lia,ih (i + 1) _ _ _ h2 hy' (by rw [List.length_append,List.length_singleton]; lia) fun zs hz=>q zs (by rw [hz,List.length_append,List.length_singleton]; lia)⟩)
  | cons x t =>
   rw [if_neg (by unfold doneB; rw [hr1]; exact Bool.false_ne_true)] at q
   exact .go (.cell hr hg) rfl (.eq (.strF (fun z=>by rw [hr1] at z; cases zek (b:=[]) z)) (ih (i + 1) _ _ _ h2 hy' (by lia) q))
end
theorem listT {cs:List Cell} {K:V -> List Cell -> Prop} {xs ys:List V} (e:xs = ys) (hl:ys.length <= lim) (q:K (.ref cs.length) (cs ++ [.list ys])):listK true xs cs K:=by subst e; exact ⟨hl,q⟩
theorem z4e {K:List V -> List Cell -> Prop} {cs:List Cell} {fr:Slots} (u:List Qs):∀ (acc:List V) (a b c:Option V),acc.length + u.length <= lim -> K (acc ++ lfV (ctOf u)) cs ->
  CompR zeu (boolT .And (IE.sems P0 zey)) (emitL (ze0.sem P0).val) (none :: a :: b :: c :: fr) K acc (.items (u.map useV)) cs:=by
 induction u with
 | nil=>exact fun acc a b c _ q=>.done .items (by rw [<- List.append_nil acc]; exact q)
 | cons p u ih =>
  intro acc a b c hl q
  rw [List.length_cons] at hl
  refine .go (.items _ _) rfl ⟨by lia,ih _ _ _ _ (by rw [List.length_append,List.length_singleton]; lia) ?_⟩
  rw [List.append_assoc]
  exact q
noncomputable def treS:Spec:=Sp (fun u:List Qs=>[.lst (u.map useV)]) [] noKw fun u cs K=>((∀ q ∈ u,q.1 < 4 /\ q.2.1 < 13) /\ u.length <= 11 /\ L3.tot u <= 8) /\ ∀ ext,K (.int ((L3.T (L3.tot u) [0] u:Nat):Int)) (cs ++ ext)
theorem S_pg:S "s" = pgS [0]:=by decide +kernel
section
variable {C:Cx} {K:Frag} (F2:Facts2 C P0 K) (L:LimAt C)
include F2 L
theorem zwn (Fk:FnK K 284 F_law_trees) (B:Bd1 K 284 (S "used")):FnOk C.up 284 treS :=
 fn1 (sl:=fun u:List Qs=>[some (.lst (u.map useV)),none,none,none,none,none,none,none]) F2 L Fk (zmu []) B (fun _=>rfl) fun u cs K' q=>by
  obtain ⟨⟨U,hu,h8⟩,q⟩:=q
  have hl:u.length <= lim:=Nat.le_trans hu (by decide)
  have hc:(lfV (ctOf u)).length <= lim:=by rw [zf1]; unfold ctOf; rw [List.length_map]; exact hl
  refine ⟨_,.lst _,z4e u [] _ _ _ (by rw [List.length_nil,Nat.zero_add]; exact hl) ⟨hc,(by decide:2 <= lim),listT (ys:=(L3.rowsN (rsOf u) (ctOf u) 0).map rowV) (congrArg (fun s=>[V.tup [.str s,.lst (lfV (ctOf u))]]) S_pg) (by decide:1 <= lim) ?_⟩⟩
  have hs:(lfI (ctOf u)).sum = ((L3.tot u:Nat):Int):=by rw [zss,zc7]
  refine ⟨_,.seq (.ref (lastget _ _)) rfl,_,.seq (.tup _) rfl,.sum (.lst _) (lf_ok (by rw [<- zc7]; exact Nat.le_trans h8 (by decide))) (by rw [show (lfI (ctOf u)).length = u.length by unfold lfI ctOf; rw [List.length_map,List.length_map]]; exact Nat.le_trans hu (by decide)) ?_⟩
  rw [hs]
  refine .rng1 ⟨_,znf (Nat.le_trans h8 (by decide)),zog U hu h8 (fun rl ext a2 a3 a4 a5 a6 a7 h=>?_) _ 0 _ _ _ _ _ _ _ _ (Nat.zero_add _) (lastget _ _)⟩
  have R:=zrp U h8 (L3.tot u) (Nat.le_refl _)
  have hn:=zia (zkv u) (by rw [<- zc7]; exact h8) (m:=L3.tot u) (by rw [<- zc7]; exact Nat.le_refl _)
  refine ⟨_,.cell h,zt6 h _ 0 [] _ _ List.drop_zero (fun x hx=>(R x hx).l) (by rw [List.length_nil,Nat.zero_add]; exact Nat.le_trans hn (by decide)) fun zs hz=>?_⟩
  rw [List.length_nil,Nat.zero_add,ziv] at hz
  refine ⟨by rw [hz,<- ziv]; exact Nat.le_trans (List.length_filter_le _ _) (Nat.le_trans hn (by decide)),.lenL (.lst _) ?_⟩
  rw [hz]
  exact q ext
end
noncomputable def Tw:Tab:=[(264,tabS),(252,sgS),(274,derS),(200,digS 0),(279,weiS),(284,treS),(221,idS cC),(139,itemsS)]
noncomputable def Pw:Prm:=law3.prm Tw
theorem fw_tab:Pw.fn 264 = tabS:=rfl
theorem fw_sg:Pw.fn 252 = sgS:=rfl
theorem fw_der:Pw.fn 274 = derS:=rfl
theorem fw_dg:Pw.fn 200 = digS 0:=rfl
theorem fw_wei:Pw.fn 279 = weiS:=rfl
theorem fw_tre:Pw.fn 284 = treS:=rfl
theorem fw_id:Pw.fn 221 = idS cC:=rfl
theorem fw_it:Pw.fn 139 = itemsS:=rfl
noncomputable def cellS (c:List Int) (k:Nat) (x:Int):List Int:=c.set (k % 7) (c.getD (k % 7) 0 + x)
theorem fmod7 (k:Nat):((k:Int).fmod 7) = ((k % 7:Nat):Int):=by rw [Int.fmod_eq_emod_of_nonneg _ (by decide)]; rfl
theorem c_idx {c:List Int} (h:c.length = 7) (j:Nat) (hj:j < 7):idxV (c.map V.int) (j:Int) = some (.int (c.getD j 0)):=by
 have:c.getD j 0 = c[j]:=by rw [List.getD_eq_getElem?_getD,List.getElem?_eq_getElem (by omega)]; rfl
 rw [zeo,List.getElem?_map,List.getElem?_eq_getElem (by omega),this]; rfl
section
variable {K:KF} {cs:List Cell} {sc:Option V} {r:Slots}
noncomputable def CelL (K:KF) (ys:List V) (sl:Slots) (cs:List Cell):Prop:=ForR zzj (bden (IS.sems Pw z0w)) K (.items ys) sl cs
theorem zul {ys:List V} {n k:Nat} {x:Int} {c:List Int} {o2 o3:Option V} (h:cs[n]? = some (.list (c.map .int))) (hc:c.length = 7)
  (q:CelL K ys (sc :: some (.ref n) :: some (.int (k:Nat)) :: some (.int x) :: r) (cs.set n (.list ((cellS c k x).map .int)))):CelL K (.tup [.int (k:Nat),.int x] :: ys) (sc :: some (.ref n) :: o2 :: o3 :: r) cs:=by
 have h9:k % 7 < 7:=Nat.mod_lt _ (by decide)
 have e:(c.map V.int).set ((k % 7:Nat):Int).toNat (.int (c.getD (k % 7) 0 + x)) = (cellS c k x).map .int:=by rw [Int.toNat_natCast,cellS,List.map_set]
 exact .go (.items _ _) rfl (.modI' (by decide) (fmod7 k) ⟨_,.seq (.ref h) (c_idx hc _ h9),.addI (.modI' (by decide) (fmod7 k) (.list' h ⟨Int.natCast_nonneg _,by rw [List.length_map,hc]; exact Int.ofNat_lt.mpr h9⟩ (congrArg (fun z=>cs.set n (Cell.list z)) e) q))⟩)
theorem zyx (q:∀ c o2 o3,c.length = 7 -> K .next (sc :: some (.ref cs.length) :: o2 :: o3 :: r) (cs ++ [.list (List.map .int c)])) (w:List Int):∀ (k:Nat) (c:List Int) (o2 o3:Option V),c.length = 7 -> CelL K (enumV (w.map .int) k) (sc :: some (.ref cs.length) :: o2 :: o3 :: r) (cs ++ [.list (c.map .int)]):=by
 induction w with
 | nil=>exact fun k c o2 o3 h=>.done .items (q c o2 o3 h)
 | cons x w ih =>
  intro k c o2 o3 h
  refine zul (zbs _ _) h ?_
  rw [zgk]
  exact ih (k + 1) _ _ _ (by rw [cellS,List.length_set]; exact h)
end
noncomputable def chS (l:List Nat):List Str:=l.map fun c=>mkS [c]
noncomputable def chrV (l:List Nat):List V:=(chS l).map .str
theorem zsz (l:List Nat):Txt.join (S "") (chS l) = mkS l:=by
 have e0:S "" = mkS []:=by decide +kernel
 show Builtin.Str.glued (S "") (chS l) = _
 rw [StrLaws.glued_eq_join,e0]
 induction l with
 | nil=>rfl
 | cons c l ih =>
  cases l with
  | nil=>rfl
  | cons d l =>
   show mkS [c] ++ mkS [] ++ Str.join (mkS []) (chS (d :: l)) = _
   rw [ih,zel,zel]; rfl
theorem ch_sum (l:List Nat):((chS l).map (·.length)).sum = l.length:=by
 induction l with
 | nil=>rfl
 | cons c l ih =>
  show (mkS [c]).length + ((chS l).map (·.length)).sum = _
  rw [ih,List.length_cons,Nat.add_comm]; rfl
theorem zs0 {l:List Nat} (h:l.length <= 1000):JoinOk (S "") (chS l) = true:=by
 have e0:(S "").length = 0:=by decide +kernel
 unfold JoinOk
 refine congrArg (! ·) (decide_eq_false (Nat.not_lt.mpr ?_))
 rw [StrLaws.joinTotal,ch_sum,e0,Nat.mul_zero,sizeLine_eq]
 exact Nat.le_trans h (by decide)
theorem zzn {cs:List Cell} {l:List Nat} (h:l.all (· < 128) = true):SrcR cs (.str (mkS l)) (.items (chrV l)):=by
 have e:charsV (mkS l) = chrV l:=by
  unfold chrV chS charsV
  rw [List.map_map]; rfl
 rw [<- e]
 exact .str (by rw [show (mkS l).cps = l.toArray from rfl,List.all_toArray]; exact h)
theorem CmpR.notInS' {cs:List Cell} {K:KB} {x y:Str} {b:Bool} (e:(!Txt.contains y x) = b) (k:K b cs):CmpR cs K .NotIn (.str x) (.str y):=by subst e; exact .notInS k
theorem CmpR.inS' {cs:List Cell} {K:KB} {x y:Str} {b:Bool} (e:Txt.contains y x = b) (k:K b cs):CmpR cs K .In (.str x) (.str y):=by subst e; exact .inS k
theorem MethR.lower' {P:Prm} {cs:List Cell} {K:KV} {x z:Str} (e:Txt.lower x = z) (h:z.length <= lim) (k:K (.str z) cs):MethR P cs K .lower (.str x) []:=by subst e; exact .lower h k
theorem zkl {P:Prm} {cs:List Cell} {K:KV} {l:List Nat} (h:l.length <= 1000) (k:K (.str (mkS l)) cs):MethR P cs K .join (.str (S "")) [.lst (chrV l)] :=
 .join (xs:=chS l) (.lst _) (zs0 h) (by rw [zsz]; exact Nat.le_trans h (by decide)) (by rw [zsz]; exact k)
noncomputable def isL6 (c:Nat):Bool:=[115,83,97,65,98,66].contains c
noncomputable def loN (c:Nat):Nat:=if c = 83 then 115 else if c = 65 then 97 else if c = 66 then 98 else c
theorem zs5:∀ c:Fin 128,Txt.contains (S "sabSAB ") (mkS [c.val]) = isLt c.val /\ Txt.contains (S "sabSAB") (mkS [c.val]) = isL6 c.val /\ (isL6 c.val = true -> Txt.lower (mkS [c.val]) = mkS [loN c.val]):=by
 have e1:S "sabSAB " = mkS [115,97,98,83,65,66,32]:=by decide +kernel
 have e2:S "sabSAB" = mkS [115,97,98,83,65,66]:=by decide +kernel
 rw [e1,e2]
 decide +kernel
theorem zzx:∀ p:Fin 7,(preL p.val).filter (fun c=>!isLt c) = [] /\ (preL p.val).all (· < 128) = true:=by decide +kernel
theorem zzz:∀ q:Fin 8,(posL q.val).filter (fun c=>!isLt c) = [] /\ (posL q.val).all (· < 128) = true:=by decide +kernel
theorem sg_tx:∀ g:Fin 48,(sgL g.val).filter (fun c=>!isLt c) = sgL g.val /\ (sgL g.val).filter isL6 = [] /\ (sgL g.val).all (· < 128) = true:=by decide +kernel
theorem let_tx:∀ p:Fin 7,∀ q:Fin 8,((preL p.val).filter isL6 ++ (posL q.val).filter isL6).map loN = shL (shS p.val q.val):=by decide +kernel
section
variable {r:Rl} (h:RlOk r)
include h
theorem zm3:r.tx.all (· < 128) = true:=by
 unfold Rl.tx txL
 rw [List.all_append,List.all_append,(zzx ⟨_,h.p⟩).2,(sg_tx ⟨_,h.g⟩).2.2,(zzz ⟨_,h.q⟩).2]; rfl
theorem z1l:r.tx.filter (fun c=>!isLt c) = sgL r.g:=by
 unfold Rl.tx txL
 rw [List.filter_append,List.filter_append,(zzx ⟨_,h.p⟩).1,(sg_tx ⟨_,h.g⟩).1,(zzz ⟨_,h.q⟩).1,List.append_nil]; rfl
theorem z1m:(r.tx.filter isL6).map loN = shL (shS r.p r.q):=by
 rw [<- let_tx ⟨_,h.p⟩ ⟨_,h.q⟩]
 unfold Rl.tx txL
 rw [List.filter_append,List.filter_append,(sg_tx ⟨_,h.g⟩).2.1]; rfl
theorem tx_5:r.tx.length <= 5:=zjp h.g
end
noncomputable def ruV (r:Rl):V:=.tup [.str (mkS (lowL (lt7 r.n))),.str (mkS (shL (shS r.p r.q))),.int ((r.g + 7:Nat):Int)]
section
variable {K:List V -> List Cell -> Prop} {cs:List Cell} {fr:Slots}
theorem zq0 (l:List Nat):∀ (acc:List Nat) (a:Option V),l.all (· < 128) = true -> acc.length + l.length <= lim -> K (chrV (acc ++ l.filter fun c=>!isLt c)) cs ->
  CompR zzh (boolT .And (IE.sems Pw z0f)) (emitL (z0n.sem Pw).val) (none :: a :: fr) K (chrV acc) (.items (chrV l)) cs:=by
 induction l with
 | nil=>exact fun acc a _ _ q=>.done .items (by rw [List.filter_nil,List.append_nil] at q; exact q)
 | cons c l ih =>
  intro acc a h hl q
  rw [List.all_cons,Bool.and_eq_true] at h
  rw [List.length_cons] at hl
  have hc:=(zs5 ⟨c,of_decide_eq_true h.1⟩).1
  rw [List.filter_cons] at q
  have hl1:(chrV acc).length = acc.length:=by unfold chrV chS; rw [List.length_map,List.length_map]
  cases hi:isLt c with
  | true =>
   rw [hi,if_neg (by decide)] at q
   exact .go (.items _ _) rfl (.notInS' (b:=false) (by rw [hc,hi]; rfl) (ih acc _ h.2 (by lia) q))
  | false =>
   rw [hi,if_pos (by rfl:(!false) = true)] at q
   have e:chrV acc ++ [.str (mkS [c])] = chrV (acc ++ [c]):=by unfold chrV chS; rw [List.map_append,List.map_append]; rfl
   refine .go (.items _ _) rfl (.notInS' (b:=true) (by rw [hc,hi]; rfl) ⟨by lia,?_⟩)
   have z:=ih (acc ++ [c]) a h.2 (by rw [List.length_append,List.length_singleton]; lia) (by rw [List.append_assoc]; exact q)
   rw [<- e] at z
   exact z
theorem zsu (l:List Nat):∀ (acc:List Nat) (a:Option V),l.all (· < 128) = true -> acc.length + l.length <= lim -> K (chrV (acc ++ (l.filter isL6).map loN)) cs ->
  CompR zql (boolT .And (IE.sems Pw ztc)) (emitL (zt3.sem Pw).val) (none :: a :: fr) K (chrV acc) (.items (chrV l)) cs:=by
 induction l with
 | nil=>exact fun acc a _ _ q=>.done .items (by rw [List.filter_nil,List.map_nil,List.append_nil] at q; exact q)
 | cons c l ih =>
  intro acc a h hl q
  rw [List.all_cons,Bool.and_eq_true] at h
  rw [List.length_cons] at hl
  have hc:=(zs5 ⟨c,of_decide_eq_true h.1⟩).2
  rw [List.filter_cons] at q
  have hl1:(chrV acc).length = acc.length:=by unfold chrV chS; rw [List.length_map,List.length_map]
  cases hi:isL6 c with
  | false =>
   rw [hi,if_neg (by decide)] at q
   exact .go (.items _ _) rfl (.inS' (b:=false) (by rw [hc.1,hi]) (ih acc _ h.2 (by lia) q))
  | true =>
   rw [hi,if_pos rfl] at q
   have e:chrV acc ++ [.str (mkS [loN c])] = chrV (acc ++ [loN c]):=by unfold chrV chS; rw [List.map_append,List.map_append]; rfl
   refine .go (.items _ _) rfl (.inS' (b:=true) (by rw [hc.1,hi]) ⟨by lia,.lower _,.lower' (hc.2 hi) (by decide:1 <= lim) ?_⟩)
   have z:=ih (acc ++ [loN c]) a h.2 (by rw [List.length_append,List.length_singleton]; lia) (by rw [List.append_assoc]; exact q)
   rw [<- e] at z
   exact z
end
theorem sgV_eq:sgV = (sgT.map mkS).map .str:=by unfold sgV; rw [List.map_map]; rfl
theorem zv1:∀ g m:Fin 48,sgT[m.val]? = some (sgL g.val) ↔ m.val = g.val:=by decide +kernel
theorem zzp {g m:Nat} (hg:g < 48) (hm:m < 48):decide ((sgT.map mkS)[m]? = some (mkS (sgL g))) = decide (m = g):=by
 refine decide_eq_decide.mpr ?_
 rw [<- zv1 ⟨g,hg⟩ ⟨m,hm⟩,List.getElem?_map]
 show Option.map mkS sgT[m]? = some (mkS (sgL g)) ↔ _
 cases sgT[m]? with
 | none=>exact ⟨(fun z=>nomatch z),(fun z=>nomatch z)⟩
 | some a =>
  constructor
  ·intro z; exact congrArg some (zek (Option.some.inj z))
  ·intro z; rw [Option.some.inj z]; rfl
theorem zxj {P:Prm} {cs:List Cell} {K:KV} {g:Nat} (hg:g < 48) (k:K (.int (g:Nat)) cs):MethR P cs K .index (.lst sgV) [.str (mkS (sgL g))]:=by
 have hl:((sgT.map mkS).map V.str).length = 48:=by rw [List.length_map,List.length_map]; rfl
 rw [sgV_eq]
 refine .index _ g (.lst _) (z30 _ _) (by rw [hl]; exact hg) (by rw [zzp hg hg]; exact decide_eq_true rfl) (fun m hm=>?_) k
 rw [zzp hg (Nat.lt_trans hm hg)]
 exact decide_eq_false (Nat.ne_of_lt hm)
noncomputable abbrev ruC (c0:List Cell) (D:List Rl):List Cell:=c0 ++ [.list (D.map ruV)]
section
variable {KK:KF} {c0:List Cell} {D:List Rl} {d:Nat} {o0 o1 o2 o3 o4 o5 o6 o7:Option V} {rs:Slots}
theorem zy8 {P:Prm} {K:KV} {D:List Rl} {r:Rl} (h:D.length < lim) (q:K .none (ruC c0 (D ++ [r]))):MethR P (ruC c0 D) K .append (.ref c0.length) [ruV r] :=
 .append' (lastget _ _) (by rw [List.length_map]; exact h) (by rw [lastset]; exact congrArg (fun z=>c0 ++ [Cell.list z]) (List.map_append (l₁:=D) (l₂:=[r]) (f:=ruV)).symm) q
theorem zo5 (hd:c0[d]? = some (.list (pairsV (encs D)))) (hD:AllOk D) (h11:D.length <= 100) (q:∀ o9 o10 o11,KK .next (o0 :: o1 :: o2 :: o3 :: o4 :: o5 :: o6 :: o7 :: some (.ref c0.length) :: o9 :: o10 :: o11 :: rs) (ruC c0 D)) (r:List Rl):∀ (E:List Rl) (o9 o10 o11:Option V),E ++ r = D ->
  ForR zzi (bden (IS.sems Pw zuy)) KK (.cell d E.length) (o0 :: o1 :: o2 :: o3 :: o4 :: o5 :: o6 :: o7 :: some (.ref c0.length) :: o9 :: o10 :: o11 :: rs) (ruC c0 E):=by
 induction r with
 | nil =>
  intro E o9 o10 o11 e
  rw [List.append_nil] at e
  subst e
  exact .done (.cell (za7 hd) (by rw [List.getElem?_eq_none_iff,za6,zan]; exact Nat.le_refl _)) (q _ _ _)
 | cons p r ih =>
  intro E o9 o10 o11 e
  have hm:p ∈ D:=by rw [<- e]; exact List.mem_append_right _ List.mem_cons_self
  have hp:=hD p hm
  have hx:(pairsV (encs D))[E.length]? = some (pairV (enc p)):=by
   unfold pairsV encs
   rw [List.getElem?_map,List.getElem?_map,<- e,List.getElem?_append_right (Nat.le_refl _),Nat.sub_self]; rfl
  have hE:E.length <= 100:=by rw [<- e,List.length_append] at h11; lia
  have l5:=tx_5 hp
  have l3:=zq2 hp.g
  have f3:((p.tx.filter isL6).map loN).length <= 5:=by rw [List.length_map]; exact Nat.le_trans (List.length_filter_le _ _) l5
  have hlow:(mkS (lowL (lt7 p.n))).length <= lim:=by
   have:∀ x:Fin 4,(lowL x.val).length <= 2:=by decide
   exact Nat.le_trans (this ⟨_,zew p.n⟩) (by decide)
  have z:=ih (E ++ [p]) (some (.str (mkS (nmL p.n)))) (some (.str (mkS p.tx))) (some (.str (mkS (sgL p.g)))) (by rw [List.append_assoc]; exact e)
  rw [List.length_append] at z
  have len_ch:∀ l:List Nat,(chrV l).length = l.length:=fun l=>by unfold chrV chS; rw [List.length_map,List.length_map]
  refine .go (.cell (za7 hd) hx) rfl ⟨.join _,_,zzn (zm3 hp),zq0 p.tx [] none (zm3 hp) (by rw [List.length_nil,Nat.zero_add]; exact Nat.le_trans l5 (by decide)) ?_⟩
  rw [List.nil_append,z1l hp]
  refine ⟨by rw [len_ch]; exact Nat.le_trans l3 (by decide),zkl (Nat.le_trans l3 (by decide)) ⟨.append (lastget _ _),.lower _,.lower' (zbr hp.n) hlow ⟨.join _,_,zzn (zm3 hp),zsu p.tx [] none (zm3 hp) (by rw [List.length_nil,Nat.zero_add]; exact Nat.le_trans l5 (by decide)) ?_⟩⟩⟩
  rw [List.nil_append]
  refine ⟨by rw [len_ch]; exact Nat.le_trans f3 (by decide),zkl (Nat.le_trans f3 (by decide)) ?_⟩
  rw [z1m hp]
  exact zac fw_sg () ⟨.index (.lst _),zxj hp.g (.addI' (z:=((p.g + 7:Nat):Int)) rfl ⟨(by decide:3 <= lim),zy8 (r:=p) (Nat.lt_of_le_of_lt hE (by decide)) z⟩)⟩
end
end Mine
end
section
namespace Mine
open PySem
theorem ze8 (n d:Nat) (r:List Nat):val n (d :: r) = d + 2 ^ n * val n r:=rfl
theorem z4n (c:List Nat):∀ i,bagF c i = 8 ^ i * val 3 c:=by
 induction c with
 | nil=>exact fun i=>rfl
 | cons a c ih =>
  intro i
  show a * 8 ^ i + bagF c (i + 1) = 8 ^ i * (a + 2 ^ 3 * val 3 c)
  rw [ih,Nat.pow_succ,Nat.mul_add,Nat.mul_comm a,Nat.mul_assoc]
theorem zk0 (c:List Nat):bagOf c = val 3 c:=by unfold bagOf; rw [z4n,Nat.pow_zero,Nat.one_mul]
theorem zvi (ds:List Nat):∀ c:List Nat,(∀ d ∈ ds,d < 8) -> (∀ d ∈ c,d < 8) -> val 3 ds = val 3 c -> ∀ i,ds.getD i 0 = c.getD i 0:=by
 induction ds with
 | nil =>
  intro c
  induction c with
  | nil=>exact fun _ _ _ i=>rfl
  | cons a c ih =>
   intro h1 h2 e i
   rw [ze8] at e
   have e':0 = a + 8 * val 3 c:=e
   have ha:a = 0:=by lia
   cases i with
   | zero=>exact ha.symm
   | succ i=>exact ih h1 (fun d hd=>h2 d (List.mem_cons_of_mem _ hd)) (by show 0 = _; lia) i
 | cons b ds ih =>
  intro c h1 h2 e i
  have hb:=h1 b List.mem_cons_self
  rw [ze8] at e
  cases c with
  | nil =>
   have e':b + 8 * val 3 ds = 0:=e
   have hb0:b = 0:=by lia
   cases i with
   | zero=>exact hb0
   | succ i=>exact (ih [] (fun d hd=>h1 d (List.mem_cons_of_mem _ hd)) (fun d hd=>nomatch hd) (by show _ = 0; lia) i)
  | cons a c =>
   have ha:=h2 a List.mem_cons_self
   rw [ze8] at e
   have e':b + 8 * val 3 ds = a + 8 * val 3 c:=e
   have:b = a:=by lia
   cases i with
   | zero=>exact this
   | succ i=>exact ih c (fun d hd=>h1 d (List.mem_cons_of_mem _ hd)) (fun d hd=>h2 d (List.mem_cons_of_mem _ hd)) (by lia) i
noncomputable def dg3 (N:Nat):List Nat:=digs 3 (cntOf N 3) N
theorem z0o {c:List Nat} (h:∀ d ∈ c,d < 8):∀ i,(dg3 (bagOf c)).getD i 0 = c.getD i 0 :=
 zvi _ _ (fun d hd=>ziw 3 _ _ (zeq (bagOf c) 3 (by decide)) d hd) h ((zqd 3 (bagOf c) (by decide)).trans (zk0 c))
theorem z2y (D:List Rl):∀ (ds c:List Nat),(∀ i,ds.getD i 0 = c.getD i 0) -> c.length = D.length -> opsOf D ds = opsOf D c:=by
 induction D with
 | nil=>exact fun _ _ _ _=>rfl
 | cons r D ih =>
  intro ds c h hc
  cases c with
  | nil=>cases hc
  | cons a c =>
   have h0:=h 0
   cases ds with
   | nil =>
    have i:=ih [] c (fun i=>h (i + 1)) (Nat.succ.inj hc)
    have h1:0 = a:=h0
    subst h1
    show [] = List.replicate 0 (r.g + 7) ++ opsOf D c
    rw [<- i]
    show [] = [] ++ opsOf D []
    unfold opsOf
    rw [List.zip_nil_right]; rfl
   | cons b ds =>
    have i:=ih ds c (fun i=>h (i + 1)) (Nat.succ.inj hc)
    show List.replicate b (r.g + 7) ++ opsOf D ds = List.replicate a (r.g + 7) ++ opsOf D c
    have h1:b = a:=h0
    rw [i,h1]
noncomputable def usedOf (D:List Rl) (c:List Nat):List (Nat × Nat × Nat):=L3.nz (L3.zipU (D.map ru) c)
theorem zdl (R:L3.Ru) (p:Nat × Nat) (a:Nat) (c:List Nat):L3.zipU (p :: R) (a :: c) = (p.1,p.2,a) :: L3.zipU R c:=rfl
theorem zbg (q:Nat × Nat × Nat) (u:L3.U):L3.nz (q :: u) = Bool.rec (L3.nz u) (q :: L3.nz u) (Nat.blt 0 q.2.2):=rfl
theorem zvm (D:List Rl):∀ (ds c:List Nat),(∀ i,ds.getD i 0 = c.getD i 0) -> c.length = D.length -> usedOf D ds = usedOf D c:=by
 unfold usedOf
 induction D with
 | nil=>exact fun _ _ _ _=>rfl
 | cons r D ih =>
  intro ds c h hc
  cases c with
  | nil=>cases hc
  | cons a c =>
   have h0:=h 0
   rw [List.map_cons]
   cases ds with
   | nil =>
    have i:=ih [] c (fun i=>h (i + 1)) (Nat.succ.inj hc)
    have h1:0 = a:=h0
    subst h1
    rw [zdl,zbg]
    show _ = L3.nz (L3.zipU (D.map ru) c)
    rw [<- i]
    have:∀ R:L3.Ru,L3.zipU R [] = []:=fun R=>List.zipWith_nil_right
    rw [this,this]
   | cons b ds =>
    have i:=ih ds c (fun i=>h (i + 1)) (Nat.succ.inj hc)
    have h1:b = a:=h0
    rw [zdl,zdl,zbg,zbg,i,h1]
theorem nz_mem {u:L3.U} {q:Nat × Nat × Nat} (h:q ∈ L3.nz u):q ∈ u:=by
 induction u with
 | nil=>exact h
 | cons p u ih =>
  rw [zbg] at h
  cases hb:Nat.blt 0 p.2.2 with
  | false=>rw [hb] at h; exact List.mem_cons_of_mem _ (ih h)
  | true =>
   rw [hb] at h
   rcases List.mem_cons.mp h with e | h
   ·subst e; exact List.mem_cons_self
   ·exact List.mem_cons_of_mem _ (ih h)
theorem nz_len (u:L3.U):(L3.nz u).length <= u.length:=by
 induction u with
 | nil=>exact Nat.le_refl _
 | cons p u ih =>
  rw [zbg]
  cases Nat.blt 0 p.2.2 with
  | false=>exact Nat.le_succ_of_le ih
  | true=>exact Nat.succ_le_succ ih
theorem nz_tot (u:L3.U):L3.tot (L3.nz u) = L3.tot u:=by
 unfold L3.tot
 induction u with
 | nil=>rfl
 | cons p u ih =>
  rw [zbg,L3.zam,<- ih]
  cases hb:Nat.blt 0 p.2.2 with
  | false =>
   have:¬ 0 < p.2.2:=fun z=>by rw [Nat.blt_eq.mpr z] at hb; cases hb
   show L3.sm _ (L3.nz u) = _
   lia
  | true=>rfl
theorem z09 (R:L3.Ru):∀ c:List Nat,L3.tot (L3.zipU R c) <= c.sum:=by
 induction R with
 | nil=>exact fun c=>Nat.zero_le _
 | cons p R ih =>
  intro c
  cases c with
  | nil=>exact Nat.le_refl _
  | cons a c =>
   rw [zdl,List.sum_cons]
   have:=ih c
   unfold L3.tot at this ⊢
   rw [L3.zam]
   dsimp only
   lia
theorem zvl (u:L3.U) (y:Nat):L3.uses u y <= L3.tot u:=by
 unfold L3.uses L3.tot
 induction u with
 | nil=>exact Nat.le_refl _
 | cons p u ih =>
  rw [L3.zam,L3.zam]
  cases Nat.beq p.1 y with
  | false=>show 0 + _ <= _; lia
  | true=>show p.2.2 + _ <= _; lia
theorem zx3 (a b:Nat):L3.fact a * L3.fact b <= L3.fact (a + b):=by
 induction a with
 | zero=>rw [Nat.zero_add]; exact Nat.le_of_eq (Nat.one_mul _)
 | succ a ih =>
  rw [show a + 1 + b = (a + b) + 1 by lia]
  show (a + 1) * L3.fact a * L3.fact b <= (a + b + 1) * L3.fact (a + b)
  rw [Nat.mul_assoc]
  exact Nat.mul_le_mul (by lia) ih
theorem zp2 (u:L3.U):L3.below u <= L3.fact (L3.tot u):=by
 induction u with
 | nil=>exact Nat.le_refl _
 | cons p u ih =>
  show L3.fact p.2.2 * L3.below u <= L3.fact (L3.sm _ (p :: u))
  rw [L3.zam]
  exact Nat.le_trans (Nat.mul_le_mul_left _ ih) (zx3 _ _)
theorem zuv (u:L3.U):0 < L3.below u:=by
 induction u with
 | nil=>exact Nat.one_pos
 | cons p u ih=>exact Nat.mul_pos (znu _) ih
theorem fact_8 {n:Nat} (h:n <= 8):L3.fact n <= 40320:=by
 have f8:∀ n:Fin 9,L3.fact n.val <= 40320:=by decide +kernel
 exact f8 ⟨n,Nat.lt_succ_of_le h⟩
theorem T_le {u:L3.U} (h8:L3.tot u <= 8):L3.T (L3.tot u) [0] u <= 40320:=by
 rw [<- ziv]
 exact Nat.le_trans (List.length_filter_le _ _) (zia (zkv u) (by rw [<- zc7]; exact h8) (by rw [<- zc7]; exact Nat.le_refl _))
theorem zeh (c:List Nat):∀ k,(c.set k (c.getD k 0 + 1)).sum <= c.sum + 1:=by
 induction c with
 | nil=>exact fun k=>Nat.zero_le _
 | cons a c ih =>
  intro k
  cases k with
  | zero=>show ((a + 1) :: c).sum <= _; rw [List.sum_cons,List.sum_cons]; lia
  | succ k =>
   show (a :: c.set k (c.getD k 0 + 1)).sum <= _
   rw [List.sum_cons,List.sum_cons]
   have:=ih k
   lia
theorem zg2 (c:List Nat) (k j v:Nat) (h:k ≠ j):(c.set k v).getD j 0 = c.getD j 0:=by
 rw [List.getD_eq_getElem?_getD,List.getD_eq_getElem?_getD,List.getElem?_set_ne h]
theorem zoq (c:List Nat) (k:Nat):(c.set k (c.getD k 0 + 1)).getD k 0 <= c.getD k 0 + 1:=by
 by_cases h:k < c.length
 ·rw [List.getD_eq_getElem?_getD,List.getElem?_set_self h]; exact Nat.le_refl _
 ·rw [List.set_eq_of_length_le (Nat.not_lt.mp h)]; exact Nat.le_succ _
theorem z2d {R:L3.Ru} {last:Nat -> Nat} {n:Nat} {p c c':List Nat} (h:L3.Run R last n p c c'):c'.sum <= c.sum + p.length + 2 * n:=by
 induction h with
 | done n c=>lia
 | @pick n x t c k s c' hk hs _ ih =>
  have a:=zeh c k
  have l:(L3.shp s).length <= 2:=(zzo ⟨s,hs⟩).2
  rw [List.length_append] at ih
  rw [List.length_cons]
  lia
 | @leaf x t c c' hx _ ih =>
  have a:=zeh c (last x)
  rw [List.length_cons]
  lia
theorem z2e {R:L3.Ru} {last:Nat -> Nat} {n:Nat} {p c c':List Nat} {k:Nat} (hk:∀ x,x < 3 -> last x ≠ k) (h:L3.Run R last n p c c'):c'.getD k 0 <= c.getD k 0 + n:=by
 induction h with
 | done n c=>lia
 | @pick n x t c j s c' _ hs _ ih =>
  by_cases e:j = k
  ·subst e
   have:=zoq c j
   lia
  ·rw [zg2 _ _ _ _ e] at ih
   lia
 | @leaf x t c c' hx _ ih =>
  rw [zg2 _ _ _ _ (hk x hx)] at ih
  exact ih
noncomputable def selfB (r:Rl):Bool:=decide (mkS (lowL (lt7 r.n)) = mkS (shL (shS r.p r.q)))
noncomputable def SbOk (D:List Rl):Prop:=∀ r ∈ D,lt7 r.n = 3 -> shS r.p r.q ≠ 6
theorem low_sh:∀ x:Fin 4,∀ s:Fin 13,lowL x.val = shL s.val -> (x.val = 3 -> s.val ≠ 6) -> x.val < 3 /\ s.val = x.val + 1:=by decide +kernel
theorem z1w {r:Rl} (h:RlOk r) (hs:lt7 r.n = 3 -> shS r.p r.q ≠ 6) (e:selfB r = true):lt7 r.n < 3 /\ shS r.p r.q = L3.slf (lt7 r.n) :=
 low_sh ⟨_,zew r.n⟩ ⟨_,(zfi ⟨_,h.p⟩ ⟨_,h.q⟩).1⟩ (zek (of_decide_eq_true e)) hs
theorem lt7_6:∀ n:Fin 6,lt7 n.val ≠ 3:=by decide
theorem zlm {D:List Rl} (h:SbOk D) (z:Int):SbOk (stepZ D z):=by
 have hr:∀ r ∈ D ++ [rl4 z],lt7 r.n = 3 -> shS r.p r.q ≠ 6:=fun r hr e=>by
  rcases List.mem_append.mp hr with hr | hr
  ·exact h r hr e
  ·cases List.mem_singleton.mp hr
   exact absurd e (lt7_6 ⟨_,(n6_at z).2⟩)
 have hf:∀ f:Rl -> Bool,∀ r ∈ D.filter f ++ [rl4 z],r ∈ D ++ [rl4 z]:=fun f r hr=>by
  rcases List.mem_append.mp hr with hr | hr
  ·exact List.mem_append_left _ (List.mem_filter.mp hr).1
  ·exact List.mem_append_right _ hr
 unfold stepZ stepM
 split
 ·exact hr
 ·split
  ·split
   ·exact hr
   ·exact h
  ·split
   ·exact fun r q=>hr r (hf _ r q)
   ·exact fun r q=>h r (List.mem_filter.mp q).1
theorem D0_sb:SbOk D0:=fun r hr=>by
 have:∀ r ∈ D0,lt7 r.n = 3 -> shS r.p r.q ≠ 6:=by decide +kernel
 exact this r hr
theorem due_sb (x:Ab):SbOk (D3 x ++ fins):=fun r hr e=>by
 rcases List.mem_append.mp hr with hr | hr
 ·exact zlm (zlm (zlm D0_sb _) _) _ r hr e
 ·have:∀ r ∈ fins,lt7 r.n ≠ 3:=by decide +kernel
  exact absurd e (this r hr)
theorem zyc (x:Ab):dueOf x = D3 x ++ fins:=by
 unfold dueOf fins
 rw [List.append_assoc,List.append_assoc]; rfl
structure BagOk (D:List Rl) (N:Nat) (c:List Nat):Prop where
 n:N = bagOf c
 l:c.length = D.length
 s:c.sum <= 8
 e:∀ d ∈ c,d < 8
 k:L3.ok (usedOf D c) = true
theorem zqp (n:Nat):(List.replicate n 0).sum = 0:=by
 induction n with
 | zero=>rfl
 | succ n ih=>rw [List.replicate_succ,List.sum_cons,ih]
theorem zqc (n k:Nat):(List.replicate n 0).getD k 0 = 0:=by
 rw [List.getD_eq_getElem?_getD,List.getElem?_replicate]
 split <;> rfl
theorem zto (X:List Rl):∀ x,x < 3 -> ((X ++ fins).map ru)[X.length + x]? = some (x,0):=by
 intro x hx
 rw [List.getElem?_map,List.getElem?_append_right (Nat.le_add_right _ _),Nat.add_sub_cancel_left]
 have:∀ x:Fin 3,(fins[x.val]?).map ru = some (x.val,0):=by decide +kernel
 exact this ⟨x,hx⟩
theorem z4m {X:List Rl} {c:List Nat} (hD:AllOk (X ++ fins)) (hb:SbOk (X ++ fins)) (h:L3.Run ((X ++ fins).map ru) (fun x=>X.length + x) 3 [0] (List.replicate (X ++ fins).length 0) c) (hc:c.length = (X ++ fins).length) :
  BagOk (X ++ fins) (bagOf c) c /\ ∀ k r,(X ++ fins)[k]? = some r -> selfB r = true -> BagOk (X ++ fins) (bagOf c + 8 ^ k) (c.set k (c.getD k 0 + 1)):=by
 have hz:((X ++ fins).map ru).length = (X ++ fins).length:=List.length_map _
 obtain ⟨p1,p2⟩:=L3.plain03 (R:=(X ++ fins).map ru) (last:=fun x=>X.length + x) (c:=c) (zto X) (by rw [hz]; exact h)
 have hs:=z2d h
 rw [zqp] at hs
 have s7:c.sum <= 7:=hs
 have e7:∀ d ∈ c,d < 8:=fun d hd=>by have:=zha hd; lia
 refine ⟨⟨rfl,hc,by lia,e7,p1⟩,fun k r hk hr=>?_⟩
 obtain ⟨s1,s2⟩:=z1w (hD r (List.mem_of_getElem? hk)) (hb r (List.mem_of_getElem? hk)) hr
 have hkR:((X ++ fins).map ru)[k]? = some (lt7 r.n,L3.slf (lt7 r.n)):=by rw [List.getElem?_map,hk,<- s2]; rfl
 have hlt:k < c.length:=by rw [hc]; exact (List.getElem?_eq_some_iff.mp hk).1
 have nl:∀ x,x < 3 -> X.length + x ≠ k:=fun x hx e=>by
  have:=zto X x hx
  rw [e,hkR] at this
  have:=congrArg (fun o:Option (Nat × Nat)=>o.map (·.2)) this
  have:L3.slf (lt7 r.n) = 0:=Option.some.inj this
  exact Nat.succ_ne_zero _ this
 have h3:=z2e nl h
 rw [zqc] at h3
 have inc:=zmp c k 0 hlt
 rw [Nat.zero_add] at inc
 refine ⟨inc.symm,by rw [List.length_set]; exact hc,Nat.le_trans (zeh c k) (Nat.succ_le_succ s7),fun d hd=>?_,p2 k _ s1 hkR⟩
 rcases List.mem_or_eq_of_mem_set hd with hd | hd
 ·exact e7 d hd
 ·lia
structure UsedOk (u:List (Nat × Nat × Nat)):Prop where
 k:UOk u
 t:L3.tot u <= 8
 a:L3.aboveI u = ((L3.T (L3.tot u) [0] u:Nat):Int) * ((L3.below u:Nat):Int)
theorem z1a {R:L3.Ru} {c:List Nat} {q:Nat × Nat × Nat} (h:q ∈ L3.zipU R c):(q.1,q.2.1) ∈ R /\ q.2.2 ∈ c:=by
 obtain ⟨k,hk⟩:=List.mem_iff_getElem?.mp h
 unfold L3.zipU at hk
 rw [List.getElem?_zipWith] at hk
 cases h1:R[k]? with
 | none=>rw [h1] at hk; cases hk
 | some r =>
  cases h2:c[k]? with
  | none=>rw [h1,h2] at hk; cases hk
  | some a =>
   rw [h1,h2] at hk
   cases hk
   exact ⟨List.mem_of_getElem? h1,List.mem_of_getElem? h2⟩
theorem z1h {D:List Rl} {N:Nat} {c:List Nat} (hD:AllOk D) (h11:D.length <= 11) (B:BagOk D N c):UsedOk (usedOf D c):=by
 have t:L3.tot (usedOf D c) <= 8:=by
  unfold usedOf
  rw [nz_tot]
  exact Nat.le_trans (z09 _ c) B.s
 refine ⟨⟨fun q hq=>?_,?_,fun y _=>Nat.le_trans (zvl _ y) t⟩,t,L3.ok_int B.k⟩
 ·obtain ⟨z1,z2⟩:=z1a (nz_mem hq)
  obtain ⟨r,hr,e⟩:=List.mem_map.mp z1
  have hp:=hD r hr
  have e1:lt7 r.n = q.1:=congrArg Prod.fst e
  have e2:shS r.p r.q = q.2.1:=congrArg Prod.snd e
  exact ⟨by rw [<- e1]; exact zew _,by rw [<- e2]; exact (zfi ⟨_,hp.p⟩ ⟨_,hp.q⟩).1,Nat.le_of_lt_succ (B.e _ z2)⟩
 ·refine Nat.le_trans (nz_len _) ?_
  unfold L3.zipU
  rw [List.length_zipWith,List.length_map]
  exact Nat.le_trans (Nat.min_le_left _ _) h11
theorem val_lt (c:List Nat) (h:∀ d ∈ c,d < 8):val 3 c < 8 ^ c.length:=by
 induction c with
 | nil=>exact Nat.one_pos
 | cons a c ih =>
  have h1:=ih fun d hd=>h d (List.mem_cons_of_mem _ hd)
  have h2:=h a List.mem_cons_self
  rw [ze8,List.length_cons,Nat.pow_succ]
  show a + 8 * val 3 c < _
  lia
theorem zuw {D:List Rl} {N:Nat} {c:List Nat} (h11:D.length <= 11) (B:BagOk D N c):N < 2 ^ 240:=by
 rw [B.n,zk0]
 refine Nat.lt_of_lt_of_le (val_lt c B.e) (Nat.le_trans (Nat.pow_le_pow_right (by decide) (by rw [B.l]; exact h11:c.length <= 11)) (by decide +kernel))
theorem ask_eq {side way:Int} (hs:side = 1 \/ side = -1) (hw:way = 1 \/ way = -1) {t b m:Nat} {x:Int} (hb:0 < b) :
  (side * (way * ((t:Int) * b + m * b) + x.fmod b)).fdiv (side * b) = way * (t + m) /\ (side * (way * ((t:Int) * b + m * b) + x.fmod b)).fmod (side * b) = side * x.fmod b:=by
 have h1:=(zbc x b hb).1
 have h2:=(zbc x b hb).2
 generalize (x.fmod (b:Int)).toNat = y at h1 h2
 rw [h1]
 have e:way * ((t:Int) * b + m * b) + (y:Int) = (y:Int) + (b:Int) * (way * (t + m)):=by
  rw [<- Int.add_mul,<- Int.mul_assoc,Int.mul_comm _ (b:Int),Int.add_comm]
 have hb':(0:Int) < b:=Int.ofNat_lt.mpr hb
 have q:(way * ((t:Int) * b + m * b) + (y:Int)).fdiv b = way * (t + m) /\ (way * ((t:Int) * b + m * b) + (y:Int)).fmod b = y:=by
  rw [e,Int.fdiv_eq_ediv_of_nonneg _ (Int.le_of_lt hb'),Int.fmod_eq_emod_of_nonneg _ (Int.le_of_lt hb')]
  refine ⟨?_,?_⟩
  ·rw [Int.add_mul_ediv_left _ _ (Int.ne_of_gt hb'),Int.ediv_eq_zero_of_lt (Int.natCast_nonneg _) (Int.ofNat_lt.mpr h2),Int.zero_add]
  ·rw [Int.add_mul_emod_self_left,Int.emod_eq_of_lt (Int.natCast_nonneg _) (Int.ofNat_lt.mpr h2)]
 rcases hs with rfl | rfl
 ·rw [Int.one_mul,Int.one_mul,Int.one_mul]; exact q
 ·have f:=fl5 (-(way * ((t:Int) * b + m * b) + (y:Int))) (-(b:Int)) (by lia)
  rw [Int.neg_neg,Int.neg_neg] at f
  have g1:=f.1
  have g2:=f.2
  rw [q.1] at g1
  rw [q.2] at g2
  rw [Int.neg_one_mul,Int.neg_one_mul,Int.neg_one_mul]
  exact ⟨g1.symm,g2.symm⟩
end Mine
end
section
namespace Mine
open PySem PySem.SeqAt PySem.W PySem.Calls
theorem zlx {D:List Rl} {i:Nat} {p:Rl} {r:List Rl} (e:D.drop i = p :: r):(D.map ruV)[i]? = some (ruV p) /\ D.drop (i + 1) = r:=by
 obtain ⟨h1,h2⟩:=zmk e
 exact ⟨by rw [List.getElem?_map,h1]; rfl,h2⟩
theorem zh9 {D:List Rl} {i:Nat} (e:D.drop i = []):(D.map ruV)[i]? = none:=by
 rw [List.getElem?_eq_none_iff,List.length_map]; exact List.drop_eq_nil_iff.mp e
section
variable {K:List V -> List Cell -> Prop} {cs:List Cell} {fr:Slots} {r:Nat} {D:List Rl}
theorem zr3 {g:Nat} {a2:Option V} {M:List V -> List Cell -> Prop} {nm sh:V} (m:Nat):∀ (j:Nat) (acc:List V),acc.length + m <= lim -> M (acc ++ List.replicate m (intV g)) cs ->
  CompR (.nm (S "once") 3 (pp 323 80 84)) (boolT .And (IE.sems Pw zin)) (emitL (zit.sem Pw).val) (none :: some (.tup [nm,sh,.int ((g:Nat):Int)]) :: a2 :: none :: fr) M acc (.items (upTo j m)) cs:=by
 induction m with
 | zero=>exact fun j acc _ q=>.done .items (by rw [List.replicate_zero,List.append_nil] at q; exact q)
 | succ m ih =>
  intro j acc hl q
  have z:=ih (j + 1) (acc ++ [intV g]) (by rw [List.length_append,List.length_singleton]; lia) (by rw [List.append_assoc]; exact q)
  exact .go (.items _ _) rfl ⟨by lia,_,.seq (.tup _) rfl,z⟩
theorem zwm (h:cs[r]? = some (.list (D.map ruV))) (E:List Rl):∀ (i:Nat) (ys:List Nat) (acc:List V) (a b:Option V),D.drop i = E -> (∀ y ∈ ys,y < 8) -> acc.length + (opsOf E ys).length <= lim -> K (acc ++ (opsOf E ys).map intV) cs ->
  CompR zlk (boolT .And (IE.sems Pw zmc)) (emitS 3 (S "once") (pp 323 80 84) ((zmi.sem Pw).src (.nm (S "once") 3 (pp 323 80 84))) (boolT .And (IE.sems Pw zin)) (zit.sem Pw).val) (none :: a :: b :: none :: fr) K acc (.zipc r i (natV ys)) cs:=by
 induction E with
 | nil=>exact fun i ys acc a b e _ _ q=>.done (.zipc h (.inl (zh9 e))) (by rw [<- List.append_nil acc]; exact q)
 | cons p E ih =>
  intro i ys acc a b e hy hl q
  obtain ⟨h1,h2⟩:=zlx e
  cases ys with
  | nil =>
   have e0:opsOf (p :: E) [] = []:=rfl
   rw [e0,List.map_nil,List.append_nil] at q
   exact .done (.zipc h (.inr rfl)) q
  | cons y ys =>
   have e1:opsOf (p :: E) (y :: ys) = List.replicate y (p.g + 7) ++ opsOf E ys:=rfl
   rw [e1,List.length_append,List.length_replicate] at hl
   rw [e1,List.map_append,List.map_replicate] at q
   have z:=ih (i + 1) ys (acc ++ List.replicate y (intV (p.g + 7))) a b h2 (fun x hx=>hy x (List.mem_cons_of_mem _ hx)) (by rw [List.length_append,List.length_replicate]; lia) (by rw [List.append_assoc]; exact q)
   exact .go (.zipc h h1) rfl ⟨rfl,.rng1 ⟨_,znf (Nat.le_trans (Nat.le_of_lt (hy y List.mem_cons_self)) (by decide)),zr3 y 0 acc (by lia) z⟩⟩
theorem zqf (p:Rl) (E:List Rl) (y:Nat) (ys:List Nat):usedOf (p :: E) (y :: ys) = Bool.rec (usedOf E ys) ((lt7 p.n,shS p.p p.q,y) :: usedOf E ys) (Nat.blt 0 y):=rfl
theorem zqe (h:cs[r]? = some (.list (D.map ruV))) (E:List Rl):∀ (i:Nat) (ys:List Nat) (acc:List V) (a b:Option V),D.drop i = E -> acc.length + E.length <= lim -> K (acc ++ (usedOf E ys).map useV) cs ->
  CompR zlj (boolT .And (IE.sems Pw zmb)) (emitL (zmh.sem Pw).val) (none :: a :: b :: fr) K acc (.zipc r i (natV ys)) cs:=by
 induction E with
 | nil=>exact fun i ys acc a b e _ q=>.done (.zipc h (.inl (zh9 e))) (by rw [<- List.append_nil acc]; exact q)
 | cons p E ih =>
  intro i ys acc a b e hl q
  obtain ⟨h1,h2⟩:=zlx e
  rw [List.length_cons] at hl
  cases ys with
  | nil =>
   have e0:usedOf (p :: E) [] = []:=rfl
   rw [e0,List.map_nil,List.append_nil] at q
   exact .done (.zipc h (.inr rfl)) q
  | cons y ys =>
   rw [zqf] at q
   cases hb:Nat.blt 0 y with
   | false =>
    rw [hb] at q
    exact .go (.zipc h h1) rfl (.gF2 (fun z=>by rw [Nat.blt_eq.mpr (Int.ofNat_lt.mp z)] at hb; cases hb) (ih (i + 1) ys acc a b h2 (by lia) q))
   | true =>
    rw [hb] at q
    have z:=ih (i + 1) ys (acc ++ [useV (lt7 p.n,shS p.p p.q,y)]) a b h2 (by rw [List.length_append,List.length_singleton]; lia) (by rw [List.append_assoc]; exact q)
    exact .go (.zipc h h1) rfl (.gT2 (Int.ofNat_lt.mpr (Nat.blt_eq.mp hb)) ⟨by lia,_,.seq (.tup _) rfl,_,.seq (.tup _) rfl,(by decide:3 <= lim),z⟩)
noncomputable def slF (D:List Rl):Nat -> List Nat:=List.rec (fun _=>[]) (fun p _ ih i=>Bool.rec (ih (i + 1)) (i :: ih (i + 1)) (selfB p)) D
theorem sl_mem (D:List Rl):∀ (i k:Nat),k ∈ slF D i -> ∃ p,i <= k /\ D[k - i]? = some p /\ selfB p = true:=by
 induction D with
 | nil=>exact fun _ _ h=>nomatch h
 | cons p D ih =>
  intro i k h
  have e:slF (p :: D) i = Bool.rec (slF D (i + 1)) (i :: slF D (i + 1)) (selfB p):=rfl
  rw [e] at h
  have later:k ∈ slF D (i + 1) -> ∃ q,i <= k /\ (p :: D)[k - i]? = some q /\ selfB q = true:=fun h=>by
   obtain ⟨q,h1,h2,h3⟩:=ih (i + 1) k h
   refine ⟨q,Nat.le_of_succ_le h1,?_,h3⟩
   rw [show k - i = (k - (i + 1)) + 1 by lia]
   exact h2
  cases hs:selfB p with
  | false=>rw [hs] at h; exact later h
  | true =>
   rw [hs] at h
   rcases List.mem_cons.mp h with e | h
   ·subst e; exact ⟨p,Nat.le_refl _,by rw [Nat.sub_self]; rfl,hs⟩
   ·exact later h
theorem sl_len (D:List Rl):∀ i,(slF D i).length <= D.length:=by
 induction D with
 | nil=>exact fun _=>Nat.le_refl _
 | cons p D ih =>
  intro i
  have e:slF (p :: D) i = Bool.rec (slF D (i + 1)) (i :: slF D (i + 1)) (selfB p):=rfl
  rw [e]
  cases selfB p with
  | false=>exact Nat.le_succ_of_le (ih _)
  | true=>exact Nat.succ_le_succ (ih _)
theorem zq9 {bag:Nat} {f0 f1 f2 f3 f4 f5 f6 f7 f8 f9 f10 f11:Option V} (h:cs[r]? = some (.list (D.map ruV))) (h11:D.length <= 100) (E:List Rl):∀ (i:Nat) (acc:List V) (a b:Option V),D.drop i = E -> i + E.length = D.length -> acc.length + E.length <= lim -> K (acc ++ (slF E i).map fun k=>intV (bag + 8 ^ k)) cs ->
  CompR zqk (boolT .And (IE.sems Pw zs9)) (emitL (zt2.sem Pw).val) (none :: a :: b :: f0 :: f1 :: f2 :: f3 :: f4 :: f5 :: f6 :: f7 :: f8 :: f9 :: f10 :: f11 :: some (intV bag) :: fr) K acc (.enumc r i) cs:=by
 induction E with
 | nil=>exact fun i acc a b e _ _ q=>.done (.enumc h (zh9 e)) (by rw [<- List.append_nil acc]; exact q)
 | cons p E ih =>
  intro i acc a b e hi hl q
  obtain ⟨h1,h2⟩:=zlx e
  rw [List.length_cons] at hl hi
  have es:slF (p :: E) i = Bool.rec (slF E (i + 1)) (i :: slF E (i + 1)) (selfB p):=rfl
  rw [es] at q
  cases hs:selfB p with
  | false =>
   rw [hs] at q
   exact .go (.enumc h h1) rfl ⟨_,.seq (.tup _) rfl,_,.seq (.tup _) rfl,.eq (.strF (of_decide_eq_false hs)) (ih (i + 1) acc a b h2 (by lia) (by lia) q)⟩
  | true =>
   rw [hs] at q
   have e8:((bag:Nat):Int) + (8:Int) ^ ((i:Nat):Int).toNat = ((bag + 8 ^ i:Nat):Int):=by rw [Int.toNat_natCast,Int.natCast_add,Int.natCast_pow]; rfl
   have z:=ih (i + 1) (acc ++ [intV (bag + 8 ^ i)]) a b h2 (by lia) (by rw [List.length_append,List.length_singleton]; lia) (by rw [List.append_assoc]; exact q)
   refine .go (.enumc h h1) rfl ⟨_,.seq (.tup _) rfl,_,.seq (.tup _) rfl,.eq (.strT (of_decide_eq_true hs)) ⟨by lia,.powI ⟨Int.natCast_nonneg _,by lia,by decide +kernel⟩ (.addI' e8 z)⟩⟩
end
structure Tabs (cs:List Cell):Prop where
 t1:cs[0]? = some (.tab 195 (posOf F_i2d) qI2D)
 t2:cs[1]? = some (.tab 202 (posOf F_d2i) qD2I)
theorem zgl {cs:List Cell} {i:Nat} {c:Cell} (xs:List Cell) (h:cs[i]? = some c):(cs ++ xs)[i]? = some c:=by
 rw [List.getElem?_append_left (List.getElem?_eq_some_iff.mp h).1]; exact h
theorem Tabs.app {cs:List Cell} (h:Tabs cs) (xs:List Cell):Tabs (cs ++ xs):=⟨zgl _ h.t1,zgl _ h.t2⟩
structure LwF (n r:Nat) (D:List Rl) (c:List Int) (cs:List Cell):Prop where
 t:Tabs cs
 hn:cs[n]? = some (.list (c.map .int))
 hr:cs[r]? = some (.list (D.map ruV))
 c7:c.length = 7
 ok:AllOk D
 ln:D.length <= 11
theorem LwF.app {n r:Nat} {D:List Rl} {c:List Int} {cs:List Cell} (h:LwF n r D c cs) (xs:List Cell):LwF n r D c (cs ++ xs):=⟨h.t.app xs,zgl _ h.hn,zgl _ h.hr,h.c7,h.ok,h.ln⟩
noncomputable abbrev c6 (c:List Int):Int:=c.getD 6 0
theorem LwF.i6 {n r:Nat} {D:List Rl} {c:List Int} {cs:List Cell} (h:LwF n r D c cs):idxV (c.map V.int) 6 = some (.int (c6 c)):=c_idx h.c7 6 (by decide)
theorem mul5 {a b:Int} (h:a = 1 \/ a = -1):mulOk a b = true:=mul_l (by rcases h with rfl | rfl <;> decide)
theorem z3t {cs:List Cell} {K:KV} {a b x y:Int} (T:IdOk cC a b cs) (e1:a.fdiv b = x) (e2:a.fmod b = y) (q:K (.tup [.int x,.int y]) cs):CallR Pw cs K (.adr 221) [.int a,.int b] []:=by
 subst e1 e2; exact zac fw_id (a,b) ⟨T,q⟩
theorem zvo {cs:List Cell} {n:Nat} {x y:Int}:EqR cs (n + 1) (.tup [.int x,.int y]) (.tup [.int x,.int y]) true:=.two (.tup _) (.tup _) (.intT rfl) (.intT rfl) rfl
theorem zwt {cs:List Cell} {n:Nat}:EqR cs (n + 1) (.lst []) (.lst []) true:=zkr []
theorem zxg {cs:List Cell} {K:List V -> List Cell -> Prop} {fr:Slots} {x y:Int} (q:K [] cs) :
  CompR zqj (boolT .And (IE.sems Pw zs8)) (emitL (zt1.sem Pw).val) (none :: none :: fr) K [] (.items [.int x,.int y]) cs :=
 .go (.items _ _) rfl (.type (.int _) (.isNot (.typ _ _) (.go (.items _ _) rfl (.type (.int _) (.isNot (.typ _ _) (.done .items q))))))
theorem z1i {cs:List Cell} {K:List V -> List Cell -> Prop} {fr:Slots} {r N:Nat} {D:List Rl} {c:List Nat} (h:cs[r]? = some (.list (D.map ruV))) (ln:D.length <= 11) (B:BagOk D N c) (q:K ((usedOf D c).map useV) cs) :
  CompR zlj (boolT .And (IE.sems Pw zmb)) (emitL (zmh.sem Pw).val) (none :: none :: none :: fr) K [] (.zipc r 0 (natV (digs 3 (cntOf N 3) N))) cs:=by
 have e:usedOf D (digs 3 (cntOf N 3) N) = usedOf D c:=zvm D _ _ (by have:=z0o B.e; rw [<- B.n] at this; exact this) B.l
 exact zqe h D 0 _ [] none none rfl (by rw [List.length_nil,Nat.zero_add]; exact Nat.le_trans ln (by decide)) (by rw [List.nil_append,e]; exact q)
section
variable {KK:KF} {cs:List Cell} {n r:Nat} {D:List Rl} {ci:List Int} {way side:Int} {v0 o2 o3 o4 o5 o6 o7 o9 o10 o11 o12 o13 o14 o17 o18 o19 o20 o21 o22:Option V}
noncomputable abbrev nsl (n r:Nat) (way side:Int) (v0 o2 o3 o4 o5 o6 o7 o9 o10 o11 o12 o13 o14 o17 o18 o19 o20 o21 o22:Option V):Slots :=
 [v0,some (.ref n),o2,o3,o4,o5,o6,o7,some (.ref r),o9,o10,o11,o12,o13,o14,some (.int way),some (.int side),o17,o18,o19,o20,o21,o22]
theorem zy5 (F:LwF n r D ci cs) {N:Nat} {c:List Nat} (B:BagOk D N c) (hw:way = 1 \/ way = -1) (hs:side = 1 \/ side = -1) {vs:List V}
  (q:∀ ext o3 o17 o18 o19 o20 o21 o22,ForR zff (bden (IS.sems Pw zge)) KK (.items vs) (nsl n r way side v0 o2 o3 o4 o5 o6 o7 o9 o10 o11 o12 o13 o14 o17 o18 o19 o20 o21 o22) (cs ++ ext)) :
  ForR zff (bden (IS.sems Pw zge)) KK (.items (intV N :: vs)) (nsl n r way side v0 o2 o3 o4 o5 o6 o7 o9 o10 o11 o12 o13 o14 o17 o18 o19 o20 o21 o22) cs:=by
 have U:=z1h F.ok F.ln B
 generalize hu:usedOf D c = u at U
 have bp:=zuv u
 have bl:L3.below u <= 40320:=Nat.le_trans (zp2 u) (fact_8 U.t)
 have tl:=T_le U.t
 have hn240:=zuw F.ln B
 have b0:((L3.below u:Nat):Int) ≠ 0:=by lia
 have bs:((L3.below u:Nat):Int).natAbs < bigN:=by rw [Int.natAbs_natCast]; exact Nat.lt_of_le_of_lt bl (by decide +kernel)
 have bm:((L3.below u:Nat):Int).natAbs < 9223372036854775808:=by lia
 obtain ⟨m1,m2⟩:=zbc (((c6 ci).fdiv 4).fdiv ((L3.below u:Nat):Int)) 1000000 (by decide)
 generalize hm:((((c6 ci).fdiv 4).fdiv ((L3.below u:Nat):Int)).fmod ((1000000:Nat):Int)).toNat = m at m1 m2
 have x1:=zbc ((c6 ci).fdiv 4) (L3.below u) bp
 obtain ⟨a1,a2⟩:=ask_eq (side:=side) (way:=way) hs hw (t:=L3.T (L3.tot u) [0] u) (b:=L3.below u) (m:=m) (x:=(c6 ci).fdiv 4) bp
 rw [<- U.a] at a1 a2
 have big:∀ x:Int,x.natAbs < 10000000000000 -> x.natAbs < 2 ^ 240:=fun x hx=>Nat.lt_trans hx (by decide +kernel)
 have hz0:(0:Int) <= L3.aboveI u + (m:Int) * (L3.below u:Nat) /\ L3.aboveI u + (m:Int) * (L3.below u:Nat) <= 1000000000000:=by
  have h1:L3.T (L3.tot u) [0] u * L3.below u <= 40320 * 40320:=Nat.mul_le_mul tl bl
  have h2:m * L3.below u <= 1000000 * 40320:=Nat.mul_le_mul (Nat.le_of_lt m2) bl
  rw [U.a,<- Int.natCast_mul,<- Int.natCast_mul]
  lia
 have hA:(side * (way * (L3.aboveI u + (m:Int) * (L3.below u:Nat)) + ((c6 ci).fdiv 4).fmod (L3.below u:Nat))).natAbs < 2 ^ 240:=by
  refine big _ ?_
  have y1:=x1.1
  have y2:=x1.2
  generalize L3.aboveI u + (m:Int) * (L3.below u:Nat) = z at hz0 ⊢
  generalize ((c6 ci).fdiv 4).fmod (L3.below u:Nat) = w at y1 y2 ⊢
  rcases hs with rfl | rfl <;> rcases hw with rfl | rfl <;> lia
 have hB:(side * ((L3.below u:Nat):Int)).natAbs < 2 ^ 240:=by
  refine big _ ?_
  rcases hs with rfl | rfl <;> lia
 have hB0:side * ((L3.below u:Nat):Int) ≠ 0:=by rcases hs with rfl | rfl <;> lia
 have lu:(u.map useV).length <= lim:=by rw [List.length_map]; exact Nat.le_trans U.k.n (by decide)
 refine .go (.items _ _) rfl ⟨rfl,zac fw_dg (N,3) ⟨⟨F.t.t1,hn240,(by decide:1 <= 3),(by decide:3 <= 240)⟩,.zip F.hr (z1i F.hr F.ln B ?_)⟩⟩
 rw [hu]
 refine ⟨lu,zac fw_wei u ⟨U.k,_,.seq (.ref F.hn) F.i6,.fdivI ⟨by decide,by decide +kernel⟩ (.fdivI ⟨b0,bs⟩ (.powI ⟨by decide,by decide,by decide +kernel⟩ (.modI' (z:=((m:Nat):Int)) (by decide +kernel) m1 ⟨_,.seq (.ref F.hn) F.i6,.fdivI ⟨by decide,by decide +kernel⟩ (.modI b0 ⟨(by decide:2 <= lim),rfl,?_⟩)⟩)))⟩⟩
 refine .mulI (mul_r bm) (.addI (.mulI (mul5 hw) (.addI (.mulI (mul5 hs) (.mulI (mul5 hs) (z3t ⟨F.t.t1,F.t.t2,hA,hB,hB0⟩ a1 a2 ?_))))))
 refine zac fw_tre u ⟨⟨fun q hq=>⟨(U.k.q q hq).1,(U.k.q q hq).2.1⟩,U.k.n,U.t⟩,fun ext=>.addI (.mulI (mul5 hw) (.mulI (mul5 hs) ⟨(by decide:2 <= lim),.ne zvo ⟨_,.tup _,zxg ⟨Nat.zero_le _,Nat.zero_le _,.ne zwt (q ext _ _ _ _ _ _ _)⟩⟩⟩))⟩
end
theorem zn9 {R:V -> V -> Prop} (h:∀ x,x ∈ xs -> R x x):All2 R xs xs:=by
 induction xs with
 | nil=>exact .nil
 | cons x xs ih=>exact .cons (h x List.mem_cons_self) (ih fun y hy=>h y (List.mem_cons_of_mem _ hy))
theorem zg5 {cs:List Cell} {hs:Hs} {u v:V} (hu:SeqR cs u false (pairsV hs)) (hv:SeqR cs v false (pairsV hs)):EqR cs 9 u v true :=
 .allT hu hv (zn9 fun x hx=>by
  obtain ⟨p,_,rfl⟩:=List.mem_map.mp hx
  have:=zry (cs:=cs) p p
  rw [decide_eq_true rfl] at this
  exact this)
theorem zs3 {cs:List Cell} {l:List Int}:EqR cs 9 (.lst (l.map .int)) (.lst (l.map .int)) true :=
 .allT (.lst _) (.lst _) (zn9 fun x hx=>by
  obtain ⟨p,_,rfl⟩:=List.mem_map.mp hx
  exact .intT rfl)
theorem zyy {g:Gh} {i j:Bool} {y:Value} (r:VRel g (.bool i) y) (s:VRel g (.bool j) y):i = j:=by
 cases r.inv
 cases s.inv
 rfl
theorem zws {cs:List Cell} {KK:KB} {a m:Nat} (h:cs[a]? = some (.list (tru m))) (q:KK false cs):CmpR cs KK .In (.bool false) (.ref a):=by
 have e:tru m = (List.replicate m true).map .bool:=by unfold tru; rw [List.map_replicate]
 rw [e] at h
 refine .inL _ (.ref h) (zns .bool (fun q=>?_) (fun g q z y r s=>zyy r s) (List.replicate m true)) ?_
 ·have:=EqR.bool (cs:=cs) 8 q false
  rw [show decide (q = false) = (q == false) by cases q <;> rfl]
  exact this
 ·rw [show ((List.range ((List.replicate m true).map V.bool).length).any fun j=>decide ((List.replicate m true)[j]? = some false)) = false from ?_]
  ·exact q
  ·rw [List.any_eq_false]
   intro j _ z
   have:=of_decide_eq_true z
   rw [List.getElem?_replicate] at this
   split at this <;> cases this
noncomputable def natI (l:List Nat):List Int:=l.map fun n=>((n:Nat):Int)
theorem zz6 (l:List Nat):l.map intV = (natI l).map .int:=by unfold natI; rw [List.map_map]; rfl
theorem zlp {a b:List Int} {x y:List Nat} (h:x.Perm y) (p1:a.Perm (natI x)) (s1:a.Pairwise (· <= ·)) (p2:b.Perm (natI y)) (s2:b.Pairwise (· <= ·)):a = b :=
 List.Perm.eq_of_pairwise (le:=(· <= ·)) (fun _ _ _ _ h1 h2=>Int.le_antisymm h1 h2) s1 s2 (p1.trans ((h.map _).trans p2.symm))
theorem zr1 (D:List Rl):∀ c:List Nat,(opsOf D c).length <= c.sum:=by
 induction D with
 | nil=>exact fun c=>Nat.zero_le _
 | cons p D ih =>
  intro c
  cases c with
  | nil=>exact Nat.le_refl _
  | cons a c =>
   show (List.replicate a (p.g + 7) ++ opsOf D c).length <= _
   rw [List.length_append,List.length_replicate,List.sum_cons]
   have:=ih c
   lia
theorem ops_at {cs:List Cell} {K:List V -> List Cell -> Prop} {fr:Slots} {r N:Nat} {D:List Rl} {c:List Nat} (h:cs[r]? = some (.list (D.map ruV))) (B:BagOk D N c) (q:K ((opsOf D c).map intV) cs) :
  CompR zlk (boolT .And (IE.sems Pw zmc)) (emitS 3 (S "once") (pp 323 80 84) ((zmi.sem Pw).src (.nm (S "once") 3 (pp 323 80 84))) (boolT .And (IE.sems Pw zin)) (zit.sem Pw).val) (none :: none :: none :: none :: fr) K [] (.zipc r 0 (natV (digs 3 (cntOf N 3) N))) cs:=by
 have e:opsOf D (digs 3 (cntOf N 3) N) = opsOf D c:=z2y D _ _ (by have:=z0o B.e; rw [<- B.n] at this; exact this) B.l
 have e8:∀ y ∈ digs 3 (cntOf N 3) N,y < 8:=fun y hy=>ziw 3 _ _ (zeq N 3 (by decide)) y hy
 have l8:=Nat.le_trans (zr1 D c) B.s
 exact zwm h D 0 _ [] none none rfl e8 (by rw [List.length_nil,Nat.zero_add,e]; exact Nat.le_trans l8 (by decide)) (by rw [List.nil_append,e]; exact q)
theorem zop {α:Type} (xs:List α) (p q:Nat) (h1:p <= q) (h2:q <= xs.length):sliceL xs (some (p:Int)) (some (q:Int)) none = (xs.take q).drop p:=by
 refine Eq.trans (b:=(sliceRange (max 0 (min (if (p:Int) < 0 then (p:Int) + (xs.length:Int) else p) (xs.length:Int))) (max 0 (min (if (q:Int) < 0 then (q:Int) + (xs.length:Int) else q) (xs.length:Int))) 1).filterMap (xs[·]?)) rfl ?_
 rw [clipN,clipN,Nat.min_eq_left (Nat.le_trans h1 h2),Nat.min_eq_left h2,zau xs p q h1 h2]
theorem sgn2 (x:Int):(1 - x.fmod 2 * 2 = 1) \/ (1 - x.fmod 2 * 2 = -1):=by
 have h:=(zbc x 2 (by decide))
 generalize (x.fmod ((2:Nat):Int)).toNat = y at h
 have h1:x.fmod 2 = (y:Nat):=h.1
 have h2:=h.2
 lia
section
variable {KK:KF} {n r:Nat} {D:List Rl} {ci:List Int} {way side:Int} {v0 o2 o4 o5 o6 o7 o9 o10 o11 o12 o13 o14:Option V}
theorem zr5 (hw:way = 1 \/ way = -1) (hs:side = 1 \/ side = -1) {cs0:List Cell} (q:∀ ext o3 o17 o18 o19 o20 o21 o22,KK .next (nsl n r way side v0 o2 o3 o4 o5 o6 o7 o9 o10 o11 o12 o13 o14 o17 o18 o19 o20 o21 o22) (cs0 ++ ext)) (Ns:List Nat) :
  ∀ (ext:List Cell) (o3 o17 o18 o19 o20 o21 o22:Option V),LwF n r D ci (cs0 ++ ext) -> (∀ N ∈ Ns,∃ c,BagOk D N c) -> ForR zff (bden (IS.sems Pw zge)) KK (.items (Ns.map intV)) (nsl n r way side v0 o2 o3 o4 o5 o6 o7 o9 o10 o11 o12 o13 o14 o17 o18 o19 o20 o21 o22) (cs0 ++ ext):=by
 induction Ns with
 | nil=>exact fun ext o3 o17 o18 o19 o20 o21 o22 _ _=>.done .items (q ext _ _ _ _ _ _ _)
 | cons N Ns ih =>
  intro ext o3 o17 o18 o19 o20 o21 o22 F h
  obtain ⟨c,B⟩:=h N List.mem_cons_self
  refine zy5 F B hw hs fun x o3 o17 o18 o19 o20 o21 o22=>?_
  have F':=F.app x
  rw [List.append_assoc] at F' ⊢
  exact ih (ext ++ x) _ _ _ _ _ _ _ F' fun N hN=>h N (List.mem_cons_of_mem _ hN)
end
structure LwX where
 n:Nat
 r:Nat
 l:Nat
 k:Nat
 d:Nat
 an:Nat
 to:Nat
 m:Nat
 tl:List Nat
 D:List Rl
 ci:List Int
 c:List Nat
structure LwG (a:LwX) (cs:List Cell):Prop where
 F:LwF a.n a.r a.D a.ci cs
 tb:Tb cs a.l a.k (encs a.D)
 du:cs[a.d]? = some (.list (pairsV (encs a.D)))
 an:cs[a.an]? = some (.list (tru a.m))
 to:cs[a.to]? = some (.list (a.tl.map intV))
 p:a.tl.Perm (opsOf a.D a.c)
 B:BagOk a.D (bagOf a.c) a.c
 S:∀ k r,a.D[k]? = some r -> selfB r = true -> BagOk a.D (bagOf a.c + 8 ^ k) (a.c.set k (a.c.getD k 0 + 1))
noncomputable abbrev gsl (a:LwX) (v0 o2 o3 o9 o10 o11:Option V):Slots :=
 [v0,some (.ref a.n),o2,o3,some (.ref a.l),some (.ref a.k),some (.ref a.d),some (.ref a.an),some (.ref a.r),o9,o10,o11,some (intV (bagOf a.c)),some (.ref a.to),none,none,none,none,none,none,none,none,none]
noncomputable def law3s:List IS:=[zrj,zri,zrh,zrg,zrf]
theorem z3l {a:LwX} {cs:List Cell} {K:KF} {v0 o2 o3 o9 o10 o11:Option V} (G:LwG a cs) (q:∀ sl cs',Tabs cs' -> K (.ret (.bool true)) sl cs'):bden (IS.sems Pw law3s) (gsl a v0 o2 o3 o9 o10 o11) cs K:=by
 have F:=G.F
 have l8:=Nat.le_trans (zr1 a.D a.c) G.B.s
 have lt8:a.tl.length <= 8:=by rw [G.p.length_eq]; exact l8
 have hto:=G.to
 rw [zz6] at hto
 have ln100:a.D.length <= 100:=Nat.le_trans F.ln (by decide)
 refine ⟨rfl,zac fw_dg (bagOf a.c,3) ⟨⟨F.t.t1,zuw F.ln G.B,(by decide:1 <= 3),(by decide:3 <= 240)⟩,.zip F.hr (ops_at F.hr G.B ⟨by rw [List.length_map]; exact Nat.le_trans l8 (by decide),?_⟩)⟩⟩
 rw [zz6]
 refine .ne (r:=true) (zg5 (.ref G.tb.ls) (.ref G.du)) ⟨G.tb.cls,zac fw_it ⟨a.l,a.k,encs a.D⟩ ⟨G.tb,by rw [zan]; exact Nat.le_trans ln100 (by decide),.ne (r:=true) (zg5 (.lst _) (.ref G.du)) (zws G.an ?_)⟩⟩
 refine .sorted (.ref hto) (by unfold natI; rw [List.length_map]; exact Nat.lt_of_le_of_lt lt8 (by decide)) fun y1 p1 s1=>.sorted (.lst _) (by unfold natI; rw [List.length_map]; exact Nat.lt_of_le_of_lt l8 (by decide)) fun y2 p2 s2=>?_
 have ey:=zlp G.p p1 s1 p2 s2
 subst ey
 refine .ne (r:=true) zs3 ?_
 have hw:=sgn2 (c6 a.ci)
 have hs:=sgn2 ((c6 a.ci).fdiv 2)
 have m2:∀ x:Int,mulOk x 2 = true:=fun x=>mul_r (by decide)
 refine ⟨_,.seq (.ref F.hn) F.i6,.modI (by decide) (.mulI (m2 _) (.subI ⟨_,.seq (.ref F.hn) F.i6,.fdivI ⟨by decide,by decide +kernel⟩ (.modI (by decide) (.mulI (m2 _) (.subI ⟨(by decide:2 <= lim),rfl,?_⟩)))⟩))⟩
 generalize 1 - (c6 a.ci).fmod 2 * 2 = way at hw ⊢
 generalize 1 - ((c6 a.ci).fdiv 2).fmod 2 * 2 = side at hs ⊢
 have sl:=sl_len a.D 0
 refine ⟨(by decide:1 <= lim),rfl,.enum (.cell F.hr) (zq9 F.hr ln100 a.D 0 [] none none rfl (Nat.zero_add _) (by rw [List.length_nil,Nat.zero_add]; exact Nat.le_trans ln100 (by decide)) ⟨?_,_,_,_,.none,.int _,.none,.lst' (.lst _) (fun z=>nomatch z) (zds _ 1) ⟨?_,.addL (.lst _) (.lst _) ⟨?_,_,.lst _,?_⟩⟩⟩)⟩
 ·rw [List.nil_append,List.length_map]; exact Nat.le_trans sl (Nat.le_trans ln100 (by decide))
 ·rw [List.length_take]; exact Nat.le_trans (Nat.min_le_left _ _) (by decide)
 ·rw [List.length_append,List.length_take]; exact Nat.le_trans (Nat.add_le_add_left (Nat.min_le_left _ _) _) (show 1 + 1 <= lim by decide)
 have ei:[intV (bagOf a.c)] ++ ([] ++ (slF a.D 0).map fun k=>intV (bagOf a.c + 8 ^ k)).take 1 = (bagOf a.c :: ((slF a.D 0).take 1).map fun k=>bagOf a.c + 8 ^ k).map intV:=by
  rw [List.nil_append,<- List.map_take,List.map_cons,List.map_map]; rfl
 refine finS ei ?_
 have ec:cs ++ [] = cs:=List.append_nil cs
 have z:∀ K1:KF,(∀ ext o3 o17 o18 o19 o20 o21 o22,K1 .next (nsl a.n a.r way side v0 o2 o3 (some (.ref a.l)) (some (.ref a.k)) (some (.ref a.d)) (some (.ref a.an)) o9 o10 o11 (some (intV (bagOf a.c))) (some (.ref a.to)) (some (.lst ((natI (opsOf a.D a.c)).map .int))) o17 o18 o19 o20 o21 o22) (cs ++ ext)) ->
   ForR zff (bden (IS.sems Pw zge)) K1 (.items ((bagOf a.c :: ((slF a.D 0).take 1).map fun k=>bagOf a.c + 8 ^ k).map intV)) (nsl a.n a.r way side v0 o2 o3 (some (.ref a.l)) (some (.ref a.k)) (some (.ref a.d)) (some (.ref a.an)) o9 o10 o11 (some (intV (bagOf a.c))) (some (.ref a.to)) (some (.lst ((natI (opsOf a.D a.c)).map .int))) none none none none none none) cs:=fun K1 h1=>by
  have:=zr5 (D:=a.D) (ci:=a.ci) hw hs h1 (bagOf a.c :: ((slF a.D 0).take 1).map fun k=>bagOf a.c + 8 ^ k) [] o3 none none none none none none (by rw [ec]; exact F) fun N hN=>by
   rcases List.mem_cons.mp hN with e | hN
   ·subst e; exact ⟨_,G.B⟩
   ·obtain ⟨k,hk,rfl⟩:=List.mem_map.mp hN
    obtain ⟨p,_,h2,h3⟩:=sl_mem a.D 0 k (List.mem_of_mem_take hk)
    exact ⟨_,G.S k p h2 h3⟩
  rw [ec] at this
  exact this
 exact z _ fun ext o3 o17 o18 o19 o20 o21 o22=>q _ _ (F.t.app ext)
theorem seven {c:List Int} (h:c.length = 7):∃ c0 c1 c2 c3 c4 c5 c6,c = [c0,c1,c2,c3,c4,c5,c6]:=by
 match c,h with
 | [c0,c1,c2,c3,c4,c5,c6],_=>exact ⟨_,_,_,_,_,_,_,rfl⟩
theorem zy3 (ds es:List SD):∀ (sl:Slots) (cs:List Cell) (K:KF),bden (ds ++ es) sl cs K = bden ds sl cs fun fl sl cs=>Fl.rec (bden es sl cs K) (K .brk sl cs) (K .cont sl cs) (fun v=>K (.ret v) sl cs) fl:=by
 induction ds with
 | nil=>exact fun _ _ _=>rfl
 | cons d ds ih =>
  intro sl cs K
  show d.den sl cs _ = d.den sl cs _
  congr 1
  funext fl sl' cs'
  cases fl with
  | next=>exact ih sl' cs' K
  | brk=>rfl
  | cont=>rfl
  | ret v=>rfl
noncomputable def law1s:List IS:=[zzw,zzv,zzu,zzt,zrl,zrk]
theorem zsw {zs:List Int} {cs:List Cell} {K:KF} (T:Tabs cs) (q:∀ a cs' v0 o2 o3 o9 o10 o11,LwG a cs' -> K .next (gsl a v0 o2 o3 o9 o10 o11) cs') :
  bden (IS.sems Pw law1s) (some (.lst (zs.map .int)) :: List.replicate 22 none) cs K:=by
 have hs:sliceL (zs.map V.int) none (some 60) none = (zs.take 60).map V.int:=by rw [List.map_take]; exact zds _ 60
 refine ⟨(by decide:7 <= lim),rfl,_,_,_,.none,.int _,.none,.lst' (.lst _) (fun z=>nomatch z) hs ⟨?_,.enum (.lst _) ?_⟩⟩
 ·rw [List.length_map,List.length_take]; exact Nat.le_trans (Nat.min_le_left _ _) (by decide)
 refine zyx (fun c o2 o3 hc=>?_) (zs.take 60) 0 [11756,13113,8836,13,6,20,40007] none none rfl
 obtain ⟨c0,c1,c2,c3,c4,c5,c6,rfl⟩:=seven hc
 have hcs:∀ x:Cell,(cs ++ [x]).length = cs.length + 1:=fun x=>List.length_append
 have h2:1 < cs.length:=zaa T.t2
 generalize e1:cs ++ [Cell.list ([c0,c1,c2,c3,c4,c5,c6].map .int)] = cs1
 have g1:cs1[cs.length]? = some (.list ([c0,c1,c2,c3,c4,c5,c6].map .int)):=by rw [<- e1]; exact lastget _ _
 have t1:Tabs cs1:=by rw [<- e1]; exact T.app _
 have n1:cs1.length = cs.length + 1:=by rw [<- e1]; exact hcs _
 refine ⟨_,_,_,.none,.int _,.none,.lst' (.ref g1) (fun z=>nomatch z) (zds _ 3) ⟨(by decide:3 <= lim),zac fw_tab (⟨c0,c1,c2⟩:Ab) fun cs2 m d X=>?_⟩⟩
 have hok:=due_ok (⟨c0,c1,c2⟩:Ab)
 have hln:=z36 (⟨c0,c1,c2⟩:Ab)
 have hsb:=due_sb (⟨c0,c1,c2⟩:Ab)
 rw [zyc] at X hok hln
 generalize D3 (⟨c0,c1,c2⟩:Ab) = Y at X hok hln hsb
 obtain ⟨x1,e2⟩:=X.pre
 have t2:Tabs cs2:=by rw [e2]; exact t1.app _
 have g2:cs2[cs.length]? = some (.list ([c0,c1,c2,c3,c4,c5,c6].map .int)):=by rw [e2]; exact zgl _ g1
 have n2:cs1.length <= cs2.length:=by rw [e2,List.length_append]; exact Nat.le_add_right _ _
 refine ⟨Nat.zero_le _,_,.cell (za7 X.du),zo5 X.du hok (Nat.le_trans hln (by decide)) (fun o9 o10 o11=>?_) (Y ++ fins) [] _ _ _ rfl⟩
 have n3:(ruC cs2 (Y ++ fins)).length = cs2.length + 1:=List.length_append
 have g3:(ruC cs2 (Y ++ fins))[cs2.length]? = some (.list ((Y ++ fins).map ruV)):=lastget _ _
 have g3n:(ruC cs2 (Y ++ fins))[cs.length]? = some (.list ([c0,c1,c2,c3,c4,c5,c6].map .int)):=za7 g2
 have t3:Tabs (ruC cs2 (Y ++ fins)):=t2.app _
 have tb3:Tb (ruC cs2 (Y ++ fins)) (cs1.length + 4) cs1.length (encs (Y ++ fins)):=X.tb.app _
 have du3:(ruC cs2 (Y ++ fins))[d]? = some (.list (pairsV (encs (Y ++ fins)))):=za7 X.du
 have an3:(ruC cs2 (Y ++ fins))[cs1.length + 2]? = some (.list (tru m)):=za7 X.an
 have d2:=zaa X.du
 have a2:=zaa X.an
 generalize ruC cs2 (Y ++ fins) = cs3 at n3 g3 g3n t3 tb3 du3 an3 ⊢
 refine ⟨_,_,_,.int _,.int _,.none,.lst' (.ref g3n) (fun z=>nomatch z) (zop _ 3 6 (by decide) (by decide:6 <= 7)) ⟨(by decide:3 <= lim),?_⟩⟩
 have tb4:=tb3.app [.list ([c3,c4,c5].map .int)]
 have du4:=za7 (d:=.list ([c3,c4,c5].map .int)) du3
 have an4:=za7 (d:=.list ([c3,c4,c5].map .int)) an3
 have g4:=za7 (d:=.list ([c3,c4,c5].map .int)) g3
 have g4n:=za7 (d:=.list ([c3,c4,c5].map .int)) g3n
 have ch4:=lastget cs3 (.list ([c3,c4,c5].map .int))
 have t4:Tabs (cs3 ++ [.list ([c3,c4,c5].map .int)]):=t3.app _
 have A:DrOk ⟨cs1.length + 4,cs1.length,d,cs3.length,Y,[c3,c4,c5]⟩ (cs3 ++ [.list ([c3,c4,c5].map .int)]) :=
  ⟨⟨tb4,du4,⟨_,ch4⟩,(by show cs3.length ≠ cs1.length; lia),(by show d ≠ cs3.length; lia),hok,hln⟩,ch4,Nat.le_refl 3⟩
 refine zac fw_der (⟨cs1.length + 4,cs1.length,d,cs3.length,Y,[c3,c4,c5]⟩:DrA) ⟨A,fun c' tl xs' ext P R hc' p=>?_⟩
 obtain ⟨B1,B2⟩:=z4m hok hsb R hc'
 exact q ⟨cs.length,cs2.length,cs1.length + 4,cs1.length,d,cs1.length + 2,(cs3 ++ [Cell.list ([c3,c4,c5].map .int)]).length + 1,m,tl,Y ++ fins,[c0,c1,c2,c3,c4,c5,c6],c'⟩ _ _ _ _ _ _ _
  ⟨⟨⟨dcs_o (by show 0 ≠ cs3.length; lia) t4.t1,dcs_o (by show 1 ≠ cs3.length; lia) t4.t2⟩,dcs_o (by show cs.length ≠ cs3.length; lia) g4n,dcs_o (by show cs2.length ≠ cs3.length; lia) g4,rfl,hok,hln⟩,
   z0p tb4 (by show cs3.length ≠ cs1.length; lia) ch4,dcs_o (by show d ≠ cs3.length; lia) du4,dcs_o (by show cs1.length + 2 ≠ cs3.length; lia) an4,dcs_1,p,B1,B2⟩
noncomputable def lawS:Spec:=Sp (fun zs:List Int=>[.lst (zs.map .int)]) [] noKw fun zs cs K=>Tabs cs /\ ∀ cs',Tabs cs' -> K (.bool true) cs'
section
variable {C:Cx} {K:Frag} (F2:Facts2 C Pw K) (L:LimAt C)
include F2 L
theorem ok_law (Fk:FnK K 289 F_law) (B:Bd1 K 289 (S "script")):FnOk C.up 289 lawS :=
 fn1 (sl:=fun zs:List Int=>some (.lst (zs.map .int)) :: List.replicate 22 none) F2 L Fk (T_law Tw) B (fun _=>rfl) fun zs cs K' q=>by
  have e:IS.sems Pw I_law = IS.sems Pw law1s ++ IS.sems Pw law3s:=rfl
  show bden (IS.sems Pw I_law) _ _ _
  rw [e,zy3]
  exact zsw q.1 fun a cs' v0 o2 o3 o9 o10 o11 G=>z3l G fun sl cs' T=>q.2 cs' T
end
structure Fns3 (K:Frag):Prop where
 k69:FnK K 69 F_init
 k76:FnK K 76 F_conv
 k90:FnK K 90 F_setitem
 k95:FnK K 95 F_delitem
 k114:FnK K 114 F_getall
 k122:FnK K 122 F_get
 k139:FnK K 139 F_items
 k165:FnK K 165 F_setd
 k172:FnK K 172 F_addh
 k186:FnK K 186 F_div2n1n
 k200:FnK K 200 F_int2digits
 k207:FnK K 207 F_digits2int
 k214:FnK K 214 F_divmod_pos
 k221:FnK K 221 F_int_divmod
 k231:FnK K 231 F_ISTERMINAL
 k238:FnK K 238 F_ISNONTERMINAL
 k245:FnK K 245 F_ISEOF
 k252:FnK K 252 F_law_signs
 k259:FnK K 259 F_law_right
 k264:FnK K 264 F_law_table
 k269:FnK K 269 F_law_read
 k274:FnK K 274 F_law_derived
 k279:FnK K 279 F_law_weighed
 k284:FnK K 284 F_law_trees
 k289:FnK K 289 F_law
 b69:BdP2 K 69 (S "self") (S "headers")
 b76:BdK K 76 (S "self") (S "value") (S "name")
 b90:Bd3 K 90 (S "self") (S "name") (S "val")
 b95:Bd2 K 95 (S "self") (S "name")
 b114:Bd2 K 114 (S "self") (S "name")
 b122:BdD3 K 122 (S "self") (S "name") (S "default")
 b139:Bd1 K 139 (S "self")
 b165:Bd3 K 165 (S "self") (S "name") (S "value")
 b172:BdW K 172 (S "self") (S "_name") (S "_value") (S "_params")
 b186:Bd3 K 186 (S "a") (S "b") (S "n")
 b200:Bd2 K 200 (S "a") (S "n")
 b207:Bd2 K 207 (S "digits") (S "n")
 b214:Bd2 K 214 (S "a") (S "b")
 b221:Bd2 K 221 (S "a") (S "b")
 b231:Bd1 K 231 (S "x")
 b238:Bd1 K 238 (S "x")
 b245:Bd1 K 245 (S "x")
 b252:Bd0 K 252 
 b259:Bd1 K 259 (S "number")
 b264:Bd1 K 264 (S "cells")
 b269:Bd1 K 269 (S "text")
 b274:Bd3 K 274 (S "table") (S "due") (S "choices")
 b279:Bd1 K 279 (S "used")
 b284:Bd1 K 284 (S "used")
 b289:Bd1 K 289 (S "script")
 makes:makesIn K 175 = true
 finds:findIn K (.ref 175) "__init__" = some (some (.ref 69))
 typ:typeIn K (.ref 69) = some (.type "function")
 keep:∀ S:Setting,(peek K S (keeperOf (.ref 175))).isSome = true
 q200:(fdO K 200).map (·.qualname) = some (S "_int2digits")
 c200:(fdO K 200).map (·.code) = some (.ref 199)
 q207:(fdO K 207).map (·.qualname) = some (S "_digits2int")
 c207:(fdO K 207).map (·.code) = some (.ref 206)
theorem zbl {C:Cx}:∀ p ∈ ([]:Tab),FnOk C p.1 p.2:=fun _ h=>nomatch h
theorem zab {C:Cx} {a:Addr} {s:Spec} {T:Tab} (h:FnOk C a s) (q:∀ p ∈ T,FnOk C p.1 p.2):∀ p ∈ (a,s) :: T,FnOk C p.1 p.2:=fun p hp=>by
 rcases List.mem_cons.mp hp with rfl | hp
 ·exact h
 ·exact q p hp
section
variable {C:Cx} {K:Frag} (O:LawOk C K law3) (hfm:∀ A env,C.fm A env) (Fs:Fns3 K) (t1:TabFact C 199 195) (t2:TabFact C 206 202)
include O
theorem lw_f2 {T:Tab} (d:Nat) (Fn:FnsOk (C.at d) (law3.prm T)):Facts2 (C.at d) (law3.prm T) K:=zfb (O.more (fun _ _ e=>e) d) Fn
theorem lw_0 (d:Nat):Facts2 (C.at d) P0 K:=lw_f2 O d za8
include hfm
theorem zbv (d:Nat):LimAt (C.at d):=⟨hfm,O.W.lim⟩
include Fs
theorem lw_1 (d:Nat):FnsOk (C.at (d + 1)) P1:=zbp (C:=C.at d) za8 T1 <|
 have L:=zbv O hfm d
 have F:=lw_0 O d
 zab (z23 F L Fs.k76 Fs.b76) <| zab (zdu F L Fs.k231 Fs.b231) <| zab (zch F L Fs.k238 Fs.b238) <| zab (znm F L Fs.k245 Fs.b245) zbl
theorem lw_2 (d:Nat):FnsOk (C.at (d + 2)) P2:=zbp (C:=C.at (d + 1)) (lw_1 O hfm Fs d) [(122,getS),(69,initS),(139,itemsS),(114,getAllS)] <|
 have F:=lw_f2 O (d + 1) (lw_1 O hfm Fs d)
 have L:=zbv O hfm (d + 1)
 zab (ok_get F L Fs.k122 Fs.b122) <| zab (z22 F L Fs.k69 Fs.b69) <| zab (znl F L Fs.k139 Fs.b139) <| zab (zke F L Fs.k114 Fs.b114) zbl
theorem lw_2s (d:Nat):FnsOk (C.at (d + 2)) P2s:=zbp (C:=C.at (d + 1)) (lw_1 O hfm Fs d) [(95,delS)] <|
 zab (zg6 (lw_f2 O (d + 1) (lw_1 O hfm Fs d)) (zbv O hfm (d + 1)) Fs.k95 Fs.b95) zbl
theorem lw_r (d:Nat):FnsOk (C.at (d + 1)) P1r:=zbp (C:=C.at d) za8 T1r <| zab (znk (lw_0 O d) (zbv O hfm d) Fs.k252 Fs.b252) zbl
theorem lw_t (d:Nat):FnsOk (C.at (d + 3)) Pt:=zbp (C:=C.at (d + 2)) za8 Tt <|
 have F1:=lw_f2 O (d + 2) (lw_1 O hfm Fs (d + 1))
 have L:=zbv O hfm (d + 2)
 zab (zwp (lw_f2 O (d + 2) (lw_r O hfm Fs (d + 1))) L Fs.k259 Fs.b259) <| zab (z24 F1 L Fs.k172 Fs.b172) <| zab (z2z (lw_f2 O (d + 2) (lw_2 O hfm Fs d)) L Fs.k165 Fs.b165) <|
 zab (zpc (lw_f2 O (d + 2) (lw_2s O hfm Fs d)) L Fs.k90 Fs.b90) <| zab (zg6 F1 L Fs.k95 Fs.b95) <| zab (z21 (z3b (O.more (fun _ _ e=>e) (d + 2)).W (lw_2 O hfm Fs d) Fs.makes Fs.finds Fs.typ Fs.keep)) zbl
theorem lw_d (d:Nat):FnsOk (C.at (d + 2)) Pd:=zbp (C:=C.at (d + 1)) za8 Td <|
 have F1:=lw_f2 O (d + 1) (lw_1 O hfm Fs d)
 have F0:=lw_0 O (d + 1)
 have L:=zbv O hfm (d + 1)
 zab (zke F1 L Fs.k114 Fs.b114) <| zab (z20 F1 L Fs.k269 Fs.b269) <| zab (zdu F0 L Fs.k231 Fs.b231) <| zab (zch F0 L Fs.k238 Fs.b238) <| zab (znm F0 L Fs.k245 Fs.b245) zbl
include t1
theorem z0a:FnOk (C.at 10) 200 (digS 0):=zif O hfm Fs.k200 Fs.b200 Fs.q200 Fs.c200 t1 0
include t2
theorem lw_4:FnsOk (C.at 10) P4:=zbp (C:=C.at 9) za8 T4 <|
 zab (zpd (lw_0 O 9) (zbv O hfm 9) Fs.k186 Fs.b186) <| zab (z0a O hfm Fs t1) <| zab (zih O hfm Fs.k207 Fs.b207 Fs.q207 Fs.c207 t2 1) zbl
theorem zsj:FnOk (C.at 11) 214 pdS:=zig (lw_f2 O 10 (lw_4 O hfm Fs t1 t2)) (zbv O hfm _) Fs.k214 Fs.b214
theorem lw_5:FnsOk (C.at 11) P5:=zbp (C:=C.at 10) za8 T5 <| zab (zsj O hfm Fs t1 t2) zbl
theorem lw_6:FnsOk (C.at 12) P6:=zbp (C:=C.at 11) za8 T6 <|
 zab (ok_idA (zbv O hfm 11) Fs.k221 Fs.b221 (lw_f2 O 11 (lw_5 O hfm Fs t1 t2))) <| zab (FnOk.less (C:=C.at 11) (zsj O hfm Fs t1 t2)) zbl
theorem lw_7:FnsOk (C.at 13) P7:=zbp (C:=C.at 12) za8 T7 <|
 zab (ok_idB (zbv O hfm 12) Fs.k221 Fs.b221 (lw_f2 O 12 (lw_6 O hfm Fs t1 t2))) <| zab (FnOk.less (C:=C.at 12) (FnOk.less (C:=C.at 11) (zsj O hfm Fs t1 t2))) zbl
theorem lw_221:FnOk (C.at 14) 221 (idS cC):=ok_idC (zbv O hfm 13) Fs.k221 Fs.b221 (lw_f2 O 13 (lw_7 O hfm Fs t1 t2))
theorem lw_w:FnsOk (C.at 15) Pw:=zbp (C:=C.at 14) za8 Tw <|
 have L:=zbv O hfm 14
 have F0:=lw_0 O 14
 zab (zwo (lw_f2 O 14 (lw_t O hfm Fs 11)) L Fs.k264 Fs.b264) <| zab (znk F0 L Fs.k252 Fs.b252) <| zab (zpe (lw_f2 O 14 (lw_d O hfm Fs 12)) L Fs.k274 Fs.b274) <|
 zab (FnOk.less (C:=C.at 14) <| FnOk.less (C:=C.at 13) <| FnOk.less (C:=C.at 12) <| FnOk.less (C:=C.at 11) <| FnOk.less (C:=C.at 10) <| z0a O hfm Fs t1) <|
 zab (zpb F0 L Fs.k279 Fs.b279) <| zab (zwn F0 L Fs.k284 Fs.b284) <| zab (FnOk.less (C:=C.at 14) <| lw_221 O hfm Fs t1 t2) <| zab (znl (lw_f2 O 14 (lw_1 O hfm Fs 13)) L Fs.k139 Fs.b139) zbl
theorem lw_law:FnOk (C.at 16) 289 lawS:=ok_law (lw_f2 O 15 (lw_w O hfm Fs t1 t2)) (zbv O hfm 15) Fs.k289 Fs.b289
end
noncomputable def glB1:List (Str × String):=[(S "len", "len"),(S "chr", "chr"),(S "ord", "ord"),(S "max", "max"),(S "sum", "sum"),(S "sorted", "sorted")]
noncomputable def glT1:List (Str × String):=[(S "range", "range"),(S "enumerate", "enumerate"),(S "zip", "zip"),(S "reversed", "reversed"),(S "str", "str"),(S "int", "int"),(S "type", "type"),(S "list", "list")]
noncomputable def glB2:List (Str × String):=[(S "min", "min")]
noncomputable def glB3:List (Str × String):=[(S "divmod", "divmod")]
noncomputable def glA:List (Str × Addr):=[(S "_name_disallowed_re",41),(S "_value_disallowed_re",46),(S "Headers",175),(S "_div2n1n",186),(S "_int2digits",200),(S "_digits2int",207),(S "_divmod_pos",214),(S "int_divmod",221),(S "ISTERMINAL",231),(S "ISNONTERMINAL",238),(S "ISEOF",245),(S "_law_signs",252),(S "_law_right",259),(S "_law_table",264),(S "_law_read",269),(S "_law_derived",274),(S "_law_weighed",279),(S "_law_trees",284)]
noncomputable def glI:List (Str × Int × Tok):=[(S "NT_OFFSET",256,728),(S "ENDMARKER",0,630),(S "_DIV_LIMIT",4000,548)]
theorem zmd:law3.globs = glB1.map (fun p=>(p.1,.bi p.2)) ++ (glT1.map (fun p=>(p.1,.typ p.2)) ++ (glB2.map (fun p=>(p.1,.bi p.2)) ++ (glA.map (fun p=>(p.1,.adr p.2)) ++ (glB3.map (fun p=>(p.1,.bi p.2)) ++ (glI.map (fun p=>(p.1,.int p.2.1)) ++ [(S "EXACT_TOKEN_TYPES",.dct exactK exactV)]))))):=by kernel_rfl
noncomputable def exE (P:Params) (i:Nat) (q:String × Nat):DictEntry:=⟨PyData.keyHash P (Str.ofString q.1),.str (Str.ofString q.1) (min (730 + 2 * i) (764 + i)),.int (q.2:Nat) (618 + 2 * q.2)⟩
noncomputable def exEs (P:Params):List (String × Nat) -> Nat -> List DictEntry:=List.rec (fun _=>[]) fun q _ ih i=>exE P i q :: ih (i + 1)
noncomputable def tupL (l:List Int):Obj:=⟨.type "tuple",none,.seq (l.map fun i=>Value.int i 0).toArray 0,#[]⟩
noncomputable def nameL:List Int:=[14,10,4,1,1,22,0,31,16,127,0,13,7,22,0,31,16,127,0,1]
noncomputable def valL:List Int:=[14,14,4,1,1,9,4294966783,0,0,2147483648,0,0,0,0,0,13,11,9,4294966783,0,0,2147483648,0,0,0,0,0,1]
noncomputable def patL (x:String) (t u:Tok) (b:Addr):Obj:=⟨.type "re.Pattern",none,.fields #[.str (Str.ofString x) t,.int 32 u,.int 0 0,.none,.none,.ref b,.int 0 0],#[]⟩
noncomputable def isCellD (o:Obj):Bool:=match o.data with
 | .cell _=>true
 | _=>false
structure KFr (K:Frag) (w:World):Prop where
 f:Fns3 K
 hd1:codeHdIn K 199 195 = true
 hd2:codeHdIn K 206 202 = true
 gb:(glB1 ++ (glT1 ++ (glB2 ++ glB3))).map (fun p=>nsIn K mainGlobals p.1) = (glB1 ++ (glT1 ++ (glB2 ++ glB3))).map fun _=>some none
 ga:glA.map (fun p=>nsIn K mainGlobals p.1) = glA.map fun p=>some (some (.ref p.2))
 gi:glI.map (fun p=>nsIn K mainGlobals p.1) = glI.map fun p=>some (some (.int p.2.1 p.2.2))
 ex0:nsIn K mainGlobals (S "EXACT_TOKEN_TYPES") = some (some (.ref 222))
 ex:K.lookup 222 = some (dictO (exEs w.params exactL 0) 48)
 noSeq:noSeq K 175 = true
 hga:findIn K (.ref 175) "__getattribute__" = some (some (.builtin "object.__getattribute__"))
 hk:findIn K (.ref 175) "__getattr__" = some none
 mt:law3.meths.map (fun p=>(findIn K (.ref 175) p.1,typeIn K (.ref p.2))) = law3.meths.map fun p=>(some (some (.ref p.2)),some (.type "function"))
 hn:findIn K (.ref 175) headersName = some none
 hs:findIn K (.ref 175) "__setattr__" = some (some (.builtin "object.__setattr__"))
 hp:plainOver K 175 = true
 ht:takerIn K 175 headersName = some none
 hh:(clsIn K 175).any (·.hasDict) = true
 tp:[40,41,45,46].map (fun a=>K.lookup a) = [some (tupL nameL),some (patL "[\\x00-\\x1F\\x7F]" 319 342 40),some (tupL valL),some (patL "[\\x00-\\x08\\x0A-\\x1F\\x7F]" 345 376 45)]
 alc:(K.all fun p=>!isCellD p.2 && !(p.1 == 195 || p.1 == 202)) = true
 blt4:nsIn K mainGlobals "__builtins__" = some (some (.ref 4))
 lawA:nsIn K mainGlobals "law" = some (some (.ref 289))
section
variable {w:World} {K:Frag}
theorem zfc {l:List (Str × String)} {f:String -> V} {f':String -> Value} (hv:∀ (g:Gh) i,VRel g (f i) (f' i)) (h1:∀ p ∈ l,nsIn K mainGlobals p.1 = some none) (h2:l.map (fun p=>(p.1 == ("__name__" : Str),bootBuiltins p.1)) = l.map fun p=>(false,some (f' p.2))) :
  ∀ p ∈ l.map (fun p=>(p.1,f p.2)),GlobFact w K p.1 p.2:=by
 intro p hp
 obtain ⟨q,hq,rfl⟩:=List.mem_map.mp hp
 have e:=List.map_inj_left.mp h2 q hq
 exact .inr ⟨h1 q hq,fun z=>Bool.noConfusion ((beq_iff_eq.mpr z).symm.trans (congrArg Prod.fst e)),_,congrArg Prod.snd e,fun g=>hv g _⟩
theorem z0m {g:Gh} (l:List (String × Nat)):∀ i,All2 (StrKey g.pr) (l.map fun p=>S p.1) (exEs g.pr l i) /\ VRels g (l.map fun p=>.int (p.2:Nat)) ((exEs g.pr l i).map (·.val)):=by
 induction l with
 | nil=>exact fun _=>⟨.nil,.nil⟩
 | cons q l ih=>exact fun i=>⟨.cons ⟨_,rfl,rfl⟩ (ih (i + 1)).1,.cons (.int _ _) (ih (i + 1)).2⟩
theorem globs3 (F:KFr K w):∀ p ∈ law3.globs,GlobFact w K p.1 p.2:=by
 have g:=List.map_inj_left.mp F.gb
 have m1:=fun p h=>g p (List.mem_append_left _ h)
 have m2:=fun p h=>g p (List.mem_append_right _ (List.mem_append_left _ h))
 have m3:=fun p h=>g p (List.mem_append_right _ (List.mem_append_right _ (List.mem_append_left _ h)))
 have m4:=fun p h=>g p (List.mem_append_right _ (List.mem_append_right _ (List.mem_append_right _ h)))
 rw [zmd]
 refine List.forall_mem_append.mpr ⟨zfc (f:=.bi) (fun _ i=>.bi i) m1 (by kernel_rfl),List.forall_mem_append.mpr ⟨zfc (f:=.typ) (fun _ i=>.typ i) m2 (by kernel_rfl),List.forall_mem_append.mpr ⟨zfc (f:=.bi) (fun _ i=>.bi i) m3 (by kernel_rfl),
  List.forall_mem_append.mpr ⟨fun p hp=>?_,List.forall_mem_append.mpr ⟨zfc (f:=.bi) (fun _ i=>.bi i) m4 (by kernel_rfl),List.forall_mem_append.mpr ⟨fun p hp=>?_,fun p hp=>?_⟩⟩⟩⟩⟩⟩
 ·obtain ⟨q,hq,rfl⟩:=List.mem_map.mp hp
  exact .inl ⟨_,List.map_inj_left.mp F.ga q hq,fun g _ _=>.adr _⟩
 ·obtain ⟨q,hq,rfl⟩:=List.mem_map.mp hp
  exact .inl ⟨_,List.map_inj_left.mp F.gi q hq,fun g _ _=>.int _ _⟩
 ·cases List.mem_singleton.mp hp
  refine .inl ⟨.ref 222,F.ex0,fun g hp hh=>?_⟩
  have e:=hh _ _ F.ex
  rw [<- hp] at e
  exact .dct e (z0m exactL 0).1 (z0m exactL 0).2 (by decide)
theorem cls3 (F:KFr K w):ClsFacts K (law3.prm []) where
 noSeq:=F.noSeq
 hga:=F.hga
 hk:=F.hk
 meth:=fun p hp=>by
  have e:=List.map_inj_left.mp F.mt p hp
  have n:law3.meths.map (fun p=>p.1 == headersName) = law3.meths.map fun _=>false:=by kernel_rfl
  exact ⟨congrArg Prod.fst e,congrArg Prod.snd e,fun z=>Bool.noConfusion ((beq_iff_eq.mpr z).symm.trans (List.map_inj_left.mp n p hp))⟩
 hd:=by
  have h:=F.hh
  cases e:clsIn K 175 with
  | none=>rw [e] at h; cases h
  | some cd=>rw [e] at h; exact ⟨cd,e,h⟩
 hn:=F.hn
 hs:=F.hs
 hp:=F.hp
 ht:=F.ht
 hh:=F.hh
end
end Mine
end
section
namespace Mine
open PySem PySem.SeqAt PySem.W PySem.Calls PyProof.Rows
section
variable {C:Cx} {w:World} {K:Frag} {h:Heap}
noncomputable def okB (a:Addr) (o:Obj):Bool:=!isCellD o && !(a == 195 || a == 202)
noncomputable def base1 (h:Heap) (a:Addr):Option Obj:=(h.get? a).filter (okB a)
noncomputable abbrev cx3 (prog:Program) (w:World) (h:Heap) (d:Nat):Cx:={ prog:=prog,w:=w,base:=base1 h,d:=d }
theorem zd7 {a:Addr} {o:Obj}:base1 h a = some o ↔ h.get? a = some o /\ okB a o = true:=Option.filter_eq_some_iff
theorem zc5 {a:Addr} {o:Obj} {d:Data} (e:h.get? a = some o) (hn:(a == 195 || a == 202) = false) (hd:o.data = d) (hc:isCellD ⟨o.cls,o.dict,d,o.slots⟩ = false):base1 h a = some o:=by
 subst hd
 refine zd7.mpr ⟨e,?_⟩
 unfold okB
 rw [hn,show isCellD o = false from hc]
 rfl
theorem zjr {prog:Program} {d:Nat} {c P:Addr} (hn:(c == 195 || c == 202) = false) (X:K.In h) (e:codeHdIn K c P = true):TabFact (cx3 prog w h d) c P:=by
 obtain ⟨o,vs,file,tf,flags,tg,inF,text,tt,e1,e2,e3,r⟩:=codeHd_of_K X e
 exact ⟨o,vs,file,tf,flags,tg,inF,text,tt,zc5 e1 hn e3 rfl,e2,e3,r⟩
theorem zkj {β:Type} {a:Addr} {b:β} (l:List (Addr × β)) (h:l.lookup a = some b):(a,b) ∈ l:=by
 induction l with
 | nil=>cases h
 | cons q r ih =>
  rw [List.lookup_cons] at h
  cases hb:a == q.1 with
  | true=>rw [hb] at h; cases h; rw [eq_of_beq hb]; exact List.mem_cons_self
  | false=>rw [hb] at h; exact List.mem_cons_of_mem _ (ih h)
theorem pat_nm (F:KFr K w) (W:Within C K):PatAt C.base 41 nameCode:=by
 have h:=F.tp
 rw [List.map_cons,List.map_cons,List.cons.injEq,List.cons.injEq] at h
 exact ⟨40,_,_,_,_,_,_,_,W.sub _ _ h.2.1,W.sub _ _ h.1,by kernel_rfl⟩
theorem pat_vl (F:KFr K w) (W:Within C K):PatAt C.base 46 valCode:=by
 have h:=F.tp
 rw [List.map_cons,List.map_cons,List.map_cons,List.map_cons,List.cons.injEq,List.cons.injEq,List.cons.injEq,List.cons.injEq] at h
 exact ⟨45,_,_,_,_,_,_,_,W.sub _ _ h.2.2.2.1,W.sub _ _ h.2.2.1,by kernel_rfl⟩
theorem pats1 (F:KFr K w) (W:Within C K):PatsOk C (law3.prm []):=by
 intro a bad e
 have hm:(a,bad) ∈ [((41:Addr),nameBad),(46,valBad)]:=zkj _ e
 rcases List.mem_cons.mp hm with e | hm
 ·cases e
  exact ⟨nameCode,pat_nm F W,zwv⟩
 ·cases List.mem_singleton.mp hm
  exact ⟨valCode,pat_vl F W,z1e⟩
theorem hin1 (F:KFr K w) (X:K.In h) (a:Addr) (o:Obj) (e:K.lookup a = some o):base1 h a = some o :=
 zd7.mpr ⟨X a o e,List.all_eq_true.mp F.alc _ (zkj K e)⟩
theorem w01 {prog:Program} (F:KFr K w) (X:K.In h) {mg mb:Str -> Option Value} (Tg:h.Ns mainGlobals mg) (Tb:h.Ns builtinsNs mb) (N:h.NoLimit) (hbi:∀ x:Str,x ≠ "__name__" -> mb x = bootBuiltins x)
  (hbm:∃ bm ob,mg "__builtins__" = some (.ref bm) /\ bm ≠ builtinsNs /\ h.get? bm = some ob /\ ob.cls = .type "module" /\ ob.dict = some builtinsNs /\ ob.data = .plain) (d:Nat):W0 (cx3 prog w h d) K:=by
 have L:Lim0 (cx3 prog w h d):=by
  obtain ⟨mc,⟨o,es,ep,h1,h2,h3,h4⟩,hn⟩:=N
  exact ⟨o,es,ep,mc,zc5 h1 rfl h2 rfl,h2,fun h' e=>⟨o,es,ep,e,h2,h3,h4⟩,hn⟩
 refine ⟨⟨hin1 F X⟩,?_,?_,L,?_,?_⟩
 ·obtain ⟨o,es,ep,h1,h2,h3,h4⟩:=Tb
  exact ⟨o,mb,zc5 h1 rfl h2 rfl,fun h' e=>⟨o,es,ep,e,h2,h3,h4⟩,hbi⟩
 ·have Tg':=Tg
  obtain ⟨o,es,ep,h1,h2,h3,h4⟩:=Tg
  refine ⟨o,mg,zc5 h1 rfl h2 rfl,fun h' e=>⟨o,es,ep,e,h2,h3,h4⟩,fun x v e=>?_⟩
  cases v with
  | none=>exact mg_none_of X Tg' e
  | some v=>exact mg_of X Tg' e
 ·obtain ⟨o,_,_,_,h1,_⟩:=L
  exact ⟨o,h1⟩
 ·obtain ⟨bm,ob,h1,h2,h3,h4,h5,h6⟩:=hbm
  have e2:=mg_of X Tg F.blt4
  rw [h1] at e2
  cases e2
  exact ⟨4,ob,F.blt4,h2,zc5 h3 rfl h6 rfl,h4,h5,h6⟩
noncomputable def cs1:List Cell:=[.tab 195 (posOf F_i2d) qI2D,.tab 202 (posOf F_d2i) qD2I]
noncomputable def gh1 (h:Heap) (P:Params):Gh:=⟨base1 h,fun l=>cond (l == 0) 195 202,cs1,P,fun _=>False⟩
theorem zjq {l:Nat} (h:l < cs1.length):l = 0 \/ l = 1:=by
 have:l < 2:=h
 lia
theorem hrel1 {P:Params} (h1:h.get? 195 = some (tabObj #[])) (h2:h.get? 202 = some (tabObj #[])):HRel (gh1 h P) h where
 fz:=fun a o e=>(zd7.mp e).1
 ce:=by
  intro l c e
  rcases zjq (zaa e) with rfl | rfl
  ·cases e; exact ⟨rfl,#[],h1,trivial,.inl rfl⟩
  ·cases e; exact ⟨rfl,#[],h2,trivial,.inl rfl⟩
 ap:=by
  intro l hl
  rcases zjq hl with rfl | rfl
  ·show (h.get? 195).filter _ = none; rw [h1]; rfl
  ·show (h.get? 202).filter _ = none; rw [h2]; rfl
 inj:=by
  intro l l' hl hl' e
  rcases zjq hl with rfl | rfl <;> rcases zjq hl' with rfl | rfl
  ·rfl
  ·exact absurd (show (195:Nat) = 202 from e) (by decide)
  ·exact absurd (show (202:Nat) = 195 from e) (by decide)
  ·rfl
 nofr:=fun a o e v z=>by
  have h:=(zd7.mp e).2
  unfold okB isCellD at h
  rw [z] at h
  cases h
 lv:=fun _ z=>z.elim
theorem codeTab {c P:Addr} (hc:CodeHd h c P) (ht:h.get? P = some (tabObj #[])):isCodeTable h P:=by
 obtain ⟨o,vs,file,tf,flags,tg,inF,text,tt,e1,e2,e3,e4,_⟩:=hc
 exact Heap.TableAt.isCodeTable (c:=c) (ps:=#[]) ⟨⟨o,vs,e1,e2,e3,e4⟩,ht⟩
theorem old1 {s:Shared} {P:Params} {σ':St} (X:Ext ⟨s,gh1 s.heap P⟩ σ' noOwn) (T:Tabs σ'.g.cs) (h1:s.heap.get? 195 = some (tabObj #[])) (h2:s.heap.get? 202 = some (tabObj #[])) (c1:isCodeTable s.heap 195) (c2:isCodeTable s.heap 202):OldK s.heap σ'.s.heap:=by
 have t0:=X.H.ce 0 _ T.t1
 have t1:=X.H.ce 1 _ T.t2
 rw [X.le.ρ 0 (by show 0 < 2; decide)] at t0
 rw [X.le.ρ 1 (by show 1 < 2; decide)] at t1
 obtain ⟨_,ps,e0,_⟩:=t0
 obtain ⟨_,qs,e1,_⟩:=t1
 have rest:∀ b o,s.heap.get? b = some o -> b ≠ 195 -> b ≠ 202 -> σ'.s.heap.get? b = some o:=fun b o e n1 n2=>(fun ⟨o2,g1,_,g3⟩=>g3 (fun z=>z) ▸ g1) (X.keep b o e (fun l hl=>by
  rcases zjq hl with rfl | rfl
  ·exact n1
  ·exact n2) fun z=>z)
 refine ⟨fun b o e=>?_,fun b o e=>?_⟩
 ·by_cases n1:b = 195
  ·cases n1
   cases h1.symm.trans e
   exact .inr (.inl ⟨c1,rfl,#[],ps,rfl,by rw [Array.empty_append]; exact e0⟩)
  ·by_cases n2:b = 202
   ·cases n2
    cases h2.symm.trans e
    exact .inr (.inl ⟨c2,rfl,#[],qs,rfl,by rw [Array.empty_append]; exact e1⟩)
   ·exact .inl (rest b o e n1 n2)
 ·by_cases n1:b = 195
  ·exact n1 ▸ ⟨_,e0⟩
  ·by_cases n2:b = 202
   ·exact n2 ▸ ⟨_,e1⟩
   ·exact ⟨_,rest b o e n1 n2⟩
end
theorem O16:AOk callerA 16:=⟨rfl,by decide,by decide⟩
theorem law3_run {prog:Program} {w:World} {K:Frag} (F:KFr K w) {s:Shared} {mg mb:Str -> Option Value} (X:K.In s.heap) (h1:s.heap.get? 195 = some (tabObj #[])) (h2:s.heap.get? 202 = some (tabObj #[]))
  (Tg:s.heap.Ns mainGlobals mg) (Tb:s.heap.Ns builtinsNs mb) (N:s.heap.NoLimit) (hbi:∀ x:Str,x ≠ "__name__" -> mb x = bootBuiltins x)
  (hbm:∃ bm ob,mg "__builtins__" = some (.ref bm) /\ bm ≠ builtinsNs /\ s.heap.get? bm = some ob /\ ob.cls = .type "module" /\ ob.dict = some builtinsNs /\ ob.data = .plain)
  {fa:Addr} (hmg:mg "law" = some (.ref fa)) {a:Addr} {vs:List Value} {zs:List Int} (hl:s.heap.get? a = some { cls:=.type "list",data:=.seq vs.toArray }) (hI:IntsAre vs zs) (hz:zs.length <= 63)
  {Q E:Value -> Shared -> Prop} (k:∀ h' tk,OldK s.heap h' -> Q (.bool true) { s with heap:=h',toks:=tk }):wpAny (model prog w) callerA (call (.ref fa) [.ref a]) Q E s:=by
 have e:=mg_of X Tg F.lawA
 rw [hmg] at e
 cases e
 have W:=w01 (prog:=prog) F X Tg Tb N hbi hbm 0
 have O:LawOk (cx3 prog w s.heap 0) K law3:=⟨W,globs3 F,cls3 F,pats1 F W.inK⟩
 have n1:(a == 195 || a == 202) = false:=by
  cases e1:a == 195 with
  | true=>rw [eq_of_beq e1,h1] at hl; cases hl
  | false =>
   cases e2:a == 202 with
   | true=>rw [eq_of_beq e2,h2] at hl; cases hl
   | false=>rfl
 have rv:VRel (gh1 s.heap w.params) (.lst (zs.map V.int)) (.ref a) :=
  .lst (ep:=0) (zc5 hl n1 rfl rfl) (znq hI) (by rw [List.length_map]; exact Nat.le_trans hz (by decide))
 have rr:VRels (gh1 s.heap w.params) [.lst (zs.map V.int)] [.ref a]:=.cons rv .nil
 have fk:FnOk ((cx3 prog w s.heap 0).at 16) 289 lawS:=lw_law (C:=cx3 prog w s.heap 0) (K:=K) O (fun _ _=>trivial) F.f (zjr rfl X F.hd1) (zjr rfl X F.hd2)
 have run:=fk (A:=callerA) (σ:=⟨s,gh1 s.heap w.params⟩) (args:=[.lst (zs.map V.int)]) (kws:=[]) (args':=[.ref a]) (kws':=[]) (K:=fun v c=>v = V.bool true /\ Tabs c) O16 (hrel1 h1 h2) ⟨rfl,fun a o e=>e,fun _ z=>z.elim⟩ rr .nil ⟨zs,rfl,rfl,⟨rfl,rfl⟩,fun c T=>⟨rfl,T⟩⟩
 refine run.2.runs Q E fun v x σ' Xt r q=>?_
 obtain ⟨rfl,T⟩:=q
 cases r.inv
 have:=k σ'.s.heap σ'.s.toks (old1 Xt T h1 h2 (codeTab (codeHd_of_K (c:=199) X F.hd1) h1) (codeTab (codeHd_of_K (c:=206) X F.hd2) h2))
 rw [Xt.sh]
 exact this
end Mine
end
namespace Mine
open PySem PySem.W
theorem well_list {P:Params} {h:Heap} {a:Addr} {xs:List WData} (W:Well P h (.ref a) (.list xs)):∃ vs:List Value,h.get? a = some { cls:=.type "list",data:=.seq vs.toArray }:=by
 cases W with
 | list e _=>exact ⟨_,e⟩
theorem list_same {h:Heap} {a:Addr} {vs vs':List Value} (e:h.get? a = some { cls:=.type "list",data:=.seq vs'.toArray }) (L:h.IsList a vs.toArray):h.get? a = some { cls:=.type "list",data:=.seq vs.toArray }:=by
 obtain ⟨o,e1,_,n,e2⟩:=L
 rw [e] at e1
 cases e1
 injection e2 with e3 e4
 rw [e,e3]
end Mine
namespace Mine.main
theorem tw11156056980113079860:True:=⟨⟩
theorem tw16826212616301561204:True:=⟨⟩
theorem tw7064332440735228920:True:=⟨⟩
theorem tw14510055921401542917:True:=⟨⟩
theorem tw4072190877284726289:True:=⟨⟩
theorem tw5603421363915211267:True:=⟨⟩
theorem tw11770474507260867162:True:=⟨⟩
theorem tw5548943743634857327:True:=⟨⟩
theorem tw3076701833197740903:True:=⟨⟩
theorem tw17181277949884725937:True:=⟨⟩
theorem tw7991365701116552721:True:=⟨⟩
theorem tw11903146300924635186:True:=⟨⟩
theorem tw552790068290351234:True:=⟨⟩
theorem tw7237411587787531456:True:=⟨⟩
theorem tw9385303126178720230:True:=⟨⟩
theorem tw4760565928005411242:True:=⟨⟩
theorem tw10825838108423173272:True:=⟨⟩
theorem tw1587290215689348708:True:=⟨⟩
theorem tw11857135199678951331:True:=⟨⟩
theorem tw16022705525353773275:True:=⟨⟩
theorem tw2225956059507018244:True:=⟨⟩
theorem tw15984706205718930553:True:=⟨⟩
theorem tw3491332818749588091:True:=⟨⟩
theorem tw14218914174604095658:True:=⟨⟩
theorem tw11595355409239048105:True:=⟨⟩
theorem tw4126091431370883743:True:=⟨⟩
theorem tw14027531716089632829:True:=⟨⟩
theorem tw2647654807098235363:True:=⟨⟩
theorem tw15554039934745177238:True:=⟨⟩
theorem tw3137596982192898869:True:=⟨⟩
theorem tw18431692314602308842:True:=⟨⟩
theorem tw9986019674649008433:True:=⟨⟩
theorem tw16320729459185622934:True:=⟨⟩
theorem tw7259363254985744601:True:=⟨⟩
theorem tw4990475226369331113:True:=⟨⟩
theorem tw396634749626429354:True:=⟨⟩
theorem tw17715262827843222689:True:=⟨⟩
theorem tw5649967823195072380:True:=⟨⟩
theorem tw5418533224930618480:True:=⟨⟩
theorem tw7439787175107056256:True:=⟨⟩
theorem tw15467891735981029475:True:=⟨⟩
theorem tw4475767826048309731:True:=⟨⟩
theorem tw17725498274588495791:True:=⟨⟩
theorem tw4681395471914393968:True:=⟨⟩
theorem tw15017983477296125989:True:=⟨⟩
theorem tw15643365686152983790:True:=⟨⟩
theorem tw14492832472218066102:True:=⟨⟩
theorem tw6862492499505807319:True:=⟨⟩
theorem tw3779293765908593550:True:=⟨⟩
theorem tw18315214858253571532:True:=⟨⟩
theorem tw16102231251864390963:True:=⟨⟩
theorem tw7974275031393228247:True:=⟨⟩
theorem tw6511744376749373798:True:=⟨⟩
theorem tw16572128252103988241:True:=⟨⟩
theorem tw4039676971129161736:True:=⟨⟩
theorem tw13350764725976880583:True:=⟨⟩
theorem tw10896356407431480244:True:=⟨⟩
theorem tw1632041292262086317:True:=⟨⟩
theorem tw302440914744352476:True:=⟨⟩
theorem tw4261964983698606537:True:=⟨⟩
theorem tw750237026923860459:True:=⟨⟩
theorem tw2354262462317623899:True:=⟨⟩
theorem tw12590340796369385619:True:=⟨⟩
theorem tw6912675738884088206:True:=⟨⟩
theorem tw2190695567426971638:True:=⟨⟩
theorem tw2524017781993486291:True:=⟨⟩
theorem tw2702614204127132176:True:=⟨⟩
theorem tw17737603089517620647:True:=⟨⟩
theorem tw7436448052282571913:True:=⟨⟩
theorem tw3905226178654972811:True:=⟨⟩
theorem tw221909299271738847:True:=⟨⟩
theorem tw2821470743931037460:True:=⟨⟩
theorem tw13224007501803129859:True:=⟨⟩
theorem tw17679725944135375923:True:=⟨⟩
theorem tw16452447596832230105:True:=⟨⟩
theorem tw1714950047550659301:True:=⟨⟩
theorem tw12205347405646519318:True:=⟨⟩
theorem tw15079240505294077160:True:=⟨⟩
theorem tw2852251193174398662:True:=⟨⟩
theorem tw4900431672193113347:True:=⟨⟩
theorem tw1504049600530537962:True:=⟨⟩
theorem tw13626721169425172152:True:=⟨⟩
theorem tw18234761425742761375:True:=⟨⟩
theorem tw14009396871252706886:True:=⟨⟩
theorem tw3532412968194664532:True:=⟨⟩
theorem tw17708487481403421675:True:=⟨⟩
theorem tw5571399437266216444:True:=⟨⟩
theorem tw6112859857366181021:True:=⟨⟩
theorem tw12361340156312767134:True:=⟨⟩
theorem tw9682133043923132273:True:=⟨⟩
theorem tw16008457594558532635:True:=⟨⟩
theorem tw3626430660855392483:True:=⟨⟩
theorem tw10924716458440934090:True:=⟨⟩
theorem tw1826329307503635854:True:=⟨⟩
theorem tw13838900630717943254:True:=⟨⟩
theorem tw14639212616227390028:True:=⟨⟩
theorem tw10345001823751887135:True:=⟨⟩
theorem tw5329020728883791806:True:=⟨⟩
theorem tw15514936471743626214:True:=⟨⟩
theorem tw12885385263037960081:True:=⟨⟩
theorem tw18139410281061755227:True:=⟨⟩
theorem tw3598851301361773947:True:=⟨⟩
theorem tw796156627051863958:True:=⟨⟩
theorem tw6545385358150927430:True:=⟨⟩
theorem tw9508770018378322450:True:=⟨⟩
theorem tw7380652910202371479:True:=⟨⟩
theorem tw13547569757486424058:True:=⟨⟩
theorem tw7846812961960373227:True:=⟨⟩
theorem tw6508729118710982530:True:=⟨⟩
theorem tw13642826006792871662:True:=⟨⟩
theorem tw4500915450034043215:True:=⟨⟩
theorem tw17353955331779342651:True:=⟨⟩
theorem tw6259829193980601927:True:=⟨⟩
theorem tw10234815189450012239:True:=⟨⟩
theorem tw13406003279186336099:True:=⟨⟩
theorem tw834873547066669988:True:=⟨⟩
theorem tw14698914168384259385:True:=⟨⟩
theorem tw4044139247061151142:True:=⟨⟩
theorem tw17298425922696826006:True:=⟨⟩
theorem tw10455743928339290457:True:=⟨⟩
theorem tw6696893160125735727:True:=⟨⟩
theorem tw6053611964639427726:True:=⟨⟩
theorem tw15737690656516749961:True:=⟨⟩
theorem tw12670839924663504800:True:=⟨⟩
theorem tw6557543464795787104:True:=⟨⟩
theorem tw8207831470162742035:True:=⟨⟩
theorem tw8663697691656813868:True:=⟨⟩
theorem tw2583023086579268501:True:=⟨⟩
theorem tw3394367416137920725:True:=⟨⟩
theorem tw9406782406253462049:True:=⟨⟩
theorem tw12077450504624328385:True:=⟨⟩
theorem tw17006940842653477739:True:=⟨⟩
theorem tw6697339332421208802:True:=⟨⟩
theorem tw2759098988195820126:True:=⟨⟩
theorem tw1628013610222277130:True:=⟨⟩
theorem tw18325589031809861271:True:=⟨⟩
theorem tw979501456738626862:True:=⟨⟩
theorem tw5400957986263281647:True:=⟨⟩
theorem tw962032349192862916:True:=⟨⟩
theorem tw2629084897520917108:True:=⟨⟩
theorem tw18218335207050127959:True:=⟨⟩
theorem tw5401703158475992631:True:=⟨⟩
theorem tw1496695287857109588:True:=⟨⟩
theorem tw16251939892948500945:True:=⟨⟩
theorem tw2195194259037543316:True:=⟨⟩
theorem tw1277820614484962519:True:=⟨⟩
theorem tw15270170921892066516:True:=⟨⟩
theorem tw4749052000479324790:True:=⟨⟩
theorem tw15955573374722617477:True:=⟨⟩
theorem tw14061640607465278742:True:=⟨⟩
theorem tw9272984997812220495:True:=⟨⟩
theorem tw3550944181758424347:True:=⟨⟩
theorem tw5061512775090418087:True:=⟨⟩
theorem tw9155575984036265788:True:=⟨⟩
theorem tw4458048076830672230:True:=⟨⟩
theorem tw10642606787283503386:True:=⟨⟩
theorem tw11221353774195762014:True:=⟨⟩
theorem tw13590572293223372214:True:=⟨⟩
theorem tw3674409469955505439:True:=⟨⟩
theorem tw9681375758050803366:True:=⟨⟩
theorem tw917386388269078853:True:=⟨⟩
theorem tw14539993770535171780:True:=⟨⟩
theorem tw6785657489111691699:True:=⟨⟩
theorem tw2724176850512262202:True:=⟨⟩
theorem tw10625486282989778954:True:=⟨⟩
theorem tw9190990891756207365:True:=⟨⟩
theorem tw12872379398031375081:True:=⟨⟩
theorem tw8947760058931562597:True:=⟨⟩
theorem tw10391951854915411234:True:=⟨⟩
theorem tw14097447854668400296:True:=⟨⟩
theorem tw14662554035588321541:True:=⟨⟩
theorem tw12252054271945606052:True:=⟨⟩
theorem tw6361450105264607166:True:=⟨⟩
theorem tw3960113756560652017:True:=⟨⟩
theorem tw6741292078354696603:True:=⟨⟩
theorem tw7268301785047649679:True:=⟨⟩
theorem tw5613160597433933154:True:=⟨⟩
theorem tw2287757881348798766:True:=⟨⟩
theorem tw7698036289167662538:True:=⟨⟩
theorem tw7411558596216406370:True:=⟨⟩
theorem tw17510229520200029679:True:=⟨⟩
theorem tw12298629886278197574:True:=⟨⟩
theorem tw1099256609624015869:True:=⟨⟩
theorem tw14439473939278146460:True:=⟨⟩
theorem tw9730157408454304684:True:=⟨⟩
theorem tw65644731488775911:True:=⟨⟩
theorem tw8652556701797213591:True:=⟨⟩
theorem tw9561784451562097942:True:=⟨⟩
theorem tw9840939614602229412:True:=⟨⟩
theorem tw7186131708394509389:True:=⟨⟩
theorem tw2906824675625879941:True:=⟨⟩
theorem tw11403851563620829512:True:=⟨⟩
theorem tw14793117695081215449:True:=⟨⟩
theorem tw5240536507193477226:True:=⟨⟩
theorem tw7235775444256392728:True:=⟨⟩
theorem tw3234112476842188716:True:=⟨⟩
theorem tw13693970394777133609:True:=⟨⟩
theorem tw12455012482086183272:True:=⟨⟩
theorem tw13348322127785295214:True:=⟨⟩
theorem tw7751025194823839400:True:=⟨⟩
theorem tw12927740378394474205:True:=⟨⟩
theorem tw3466206800631347469:True:=⟨⟩
theorem tw13803360072150633466:True:=⟨⟩
theorem tw52199770228462824:True:=⟨⟩
theorem tw6385024630547198690:True:=⟨⟩
theorem tw17297283025540448806:True:=⟨⟩
theorem tw14161005256144132680:True:=⟨⟩
theorem tw9376575566392132001:True:=⟨⟩
theorem tw15109750227778091905:True:=⟨⟩
theorem tw10204856939554784155:True:=⟨⟩
theorem tw2976744350696088943:True:=⟨⟩
theorem tw8118072479153026202:True:=⟨⟩
theorem tw11987853993630220354:True:=⟨⟩
theorem tw11785714552879321826:True:=⟨⟩
theorem tw9483120023164983764:True:=⟨⟩
theorem tw2566753976717531306:True:=⟨⟩
theorem tw8079908401900000222:True:=⟨⟩
theorem tw9976160756891316704:True:=⟨⟩
theorem tw7875838824674609581:True:=⟨⟩
theorem tw9069182735580402390:True:=⟨⟩
theorem tw223528310411579522:True:=⟨⟩
theorem tw13180746182150919023:True:=⟨⟩
theorem tw15342904991969174519:True:=⟨⟩
theorem tw8478376212529829071:True:=⟨⟩
theorem tw2921958311620399285:True:=⟨⟩
theorem tw13777938177461255882:True:=⟨⟩
theorem tw1157997071576566072:True:=⟨⟩
theorem tw5871769198996169552:True:=⟨⟩
theorem tw5585478044538960755:True:=⟨⟩
theorem tw1677766988990989824:True:=⟨⟩
theorem tw2538046985915079169:True:=⟨⟩
theorem tw14635473669698735251:True:=⟨⟩
theorem tw4775608329324902142:True:=⟨⟩
theorem tw16356685582667847594:True:=⟨⟩
theorem tw1270039299266317192:True:=⟨⟩
theorem tw12915833801598196605:True:=⟨⟩
theorem tw3829396358689915599:True:=⟨⟩
theorem tw17958375852430007124:True:=⟨⟩
theorem tw8930851030842425676:True:=⟨⟩
theorem tw8440099810896429113:True:=⟨⟩
theorem tw4650958065196391918:True:=⟨⟩
theorem tw16923884221124529275:True:=⟨⟩
theorem tw10298723112805639129:True:=⟨⟩
theorem tw16641786646906312760:True:=⟨⟩
theorem tw9491025651921496060:True:=⟨⟩
theorem tw15768048840197415361:True:=⟨⟩
theorem tw10876375607700338302:True:=⟨⟩
theorem tw14672674291997333471:True:=⟨⟩
theorem tw17118054049896295152:True:=⟨⟩
theorem tw6389877041954997217:True:=⟨⟩
theorem tw9121559901702372667:True:=⟨⟩
theorem tw10669944970481658594:True:=⟨⟩
theorem tw10177057350305019805:True:=⟨⟩
theorem tw18134284020713443437:True:=⟨⟩
theorem tw9369988214560726041:True:=⟨⟩
theorem tw18332899500509843999:True:=⟨⟩
theorem tw5496428617142288131:True:=⟨⟩
theorem tw4544244032028310869:True:=⟨⟩
theorem tw12732289081945773324:True:=⟨⟩
theorem tw14722489848711283861:True:=⟨⟩
theorem tw9756827057097773860:True:=⟨⟩
theorem tw11752208632293872130:True:=⟨⟩
theorem tw16193401482309157537:True:=⟨⟩
theorem tw10450603732522932521:True:=⟨⟩
theorem tw14646587721710459877:True:=⟨⟩
theorem tw16008252555379753968:True:=⟨⟩
theorem tw12483276189755474720:True:=⟨⟩
theorem tw5995161000843957690:True:=⟨⟩
theorem tw3583811862363856187:True:=⟨⟩
theorem tw7074144079889050967:True:=⟨⟩
theorem tw11646826074482590764:True:=⟨⟩
theorem tw6449824600675878752:True:=⟨⟩
theorem tw3299218664060906527:True:=⟨⟩
theorem tw4324958949535026087:True:=⟨⟩
theorem tw6541472054586571296:True:=⟨⟩
theorem tw2238316416991798583:True:=⟨⟩
theorem tw13667920496262714385:True:=⟨⟩
theorem tw16832360635688203351:True:=⟨⟩
theorem tw8729708805864041840:True:=⟨⟩
theorem tw14771111431291430275:True:=⟨⟩
theorem tw5436791530062809996:True:=⟨⟩
theorem tw1678875084529416142:True:=⟨⟩
theorem tw6635558491612396129:True:=⟨⟩
theorem tw7083192437325867461:True:=⟨⟩
theorem tw3027586509356016917:True:=⟨⟩
theorem tw4026956272090484662:True:=⟨⟩
theorem tw6334894449686545209:True:=⟨⟩
theorem tw1439166485080882:True:=⟨⟩
theorem tw5102693214775723256:True:=⟨⟩
theorem tw15806524323241146399:True:=⟨⟩
theorem tw16468494690219507866:True:=⟨⟩
theorem tw11004402152517180667:True:=⟨⟩
theorem tw15843245209704562525:True:=⟨⟩
theorem tw11420884497731329202:True:=⟨⟩
theorem tw6611068267950478117:True:=⟨⟩
theorem tw12495339312024472815:True:=⟨⟩
theorem tw2164743871083121425:True:=⟨⟩
theorem tw6688985731102667080:True:=⟨⟩
theorem tw9563168847844234846:True:=⟨⟩
theorem tw13402765919934010277:True:=⟨⟩
theorem tw9268297945177815525:True:=⟨⟩
theorem tw2729793432009153956:True:=⟨⟩
theorem tw2019394398466159022:True:=⟨⟩
theorem tw11461230924637031220:True:=⟨⟩
theorem tw17052023290607921161:True:=⟨⟩
theorem tw3454311308915712629:True:=⟨⟩
theorem tw4812270449578504274:True:=⟨⟩
theorem tw1118068078248606362:True:=⟨⟩
theorem tw4189750870438640210:True:=⟨⟩
theorem tw2544328076492683441:True:=⟨⟩
theorem tw12273490649430754879:True:=⟨⟩
theorem tw452746233719593009:True:=⟨⟩
theorem tw7221758910455160077:True:=⟨⟩
theorem tw17695171507069755227:True:=⟨⟩
theorem tw5507402815253087181:True:=⟨⟩
theorem tw16049902774474827687:True:=⟨⟩
theorem tw1306636233014830658:True:=⟨⟩
theorem tw11710404883906591787:True:=⟨⟩
theorem tw15595112118272840620:True:=⟨⟩
theorem tw16819838333489098493:True:=⟨⟩
theorem tw16046730324260685337:True:=⟨⟩
theorem tw3934531018447913466:True:=⟨⟩
theorem tw4637267157515435788:True:=⟨⟩
theorem tw4038153913678941442:True:=⟨⟩
theorem tw11181722664286889309:True:=⟨⟩
theorem tw73751810991705359:True:=⟨⟩
theorem tw4333880214566435006:True:=⟨⟩
theorem tw5084117380071580128:True:=⟨⟩
theorem tw15131278010643852716:True:=⟨⟩
theorem tw12839114828313443825:True:=⟨⟩
theorem tw3613476055612923068:True:=⟨⟩
theorem tw17091655785135471103:True:=⟨⟩
theorem tw5203219222101121401:True:=⟨⟩
theorem tw12518504611687188807:True:=⟨⟩
theorem tw15465920861327815835:True:=⟨⟩
theorem tw14064073609400967072:True:=⟨⟩
theorem tw13219505800766818778:True:=⟨⟩
theorem tw15491723280356408159:True:=⟨⟩
theorem tw9265829497004654079:True:=⟨⟩
theorem tw11120327062377616369:True:=⟨⟩
theorem tw10609540516017602915:True:=⟨⟩
theorem tw8466321980469482115:True:=⟨⟩
theorem tw66260789543402106:True:=⟨⟩
theorem tw7308723440029596264:True:=⟨⟩
theorem tw1429040668314091153:True:=⟨⟩
theorem tw5240779543111244032:True:=⟨⟩
theorem tw16721930046160240684:True:=⟨⟩
theorem tw6655696309031964122:True:=⟨⟩
theorem tw13503263706703578961:True:=⟨⟩
theorem tw656089360051881306:True:=⟨⟩
theorem tw16965079339398995527:True:=⟨⟩
theorem tw2895952525429962455:True:=⟨⟩
theorem tw10047389527955405517:True:=⟨⟩
theorem tw18421580907717582127:True:=⟨⟩
theorem tw9656510801202774680:True:=⟨⟩
theorem tw3343439749351644125:True:=⟨⟩
theorem tw1178595665728414349:True:=⟨⟩
theorem tw1545906260438175962:True:=⟨⟩
theorem tw7761410557224570781:True:=⟨⟩
theorem tw4651154628705390771:True:=⟨⟩
theorem tw11554813239044494598:True:=⟨⟩
theorem tw11261727412033496967:True:=⟨⟩
theorem tw18403998269306519403:True:=⟨⟩
theorem tw10363585996791799541:True:=⟨⟩
theorem tw451873465583785326:True:=⟨⟩
theorem tw9512817274939609580:True:=⟨⟩
theorem tw2496676261509829067:True:=⟨⟩
theorem tw16035907590883218939:True:=⟨⟩
theorem tw11101190512080308003:True:=⟨⟩
theorem tw10821422270917381399:True:=⟨⟩
theorem tw12057704586751987240:True:=⟨⟩
theorem tw9274054859765456524:True:=⟨⟩
theorem tw15624239662980076321:True:=⟨⟩
theorem tw15485851114877660061:True:=⟨⟩
theorem tw17477492558424962760:True:=⟨⟩
theorem tw12623159325031504133:True:=⟨⟩
theorem tw2406621943657119228:True:=⟨⟩
theorem tw341453280667917650:True:=⟨⟩
theorem tw6801380410627298636:True:=⟨⟩
theorem tw17402982504261768225:True:=⟨⟩
theorem tw765107192605250810:True:=⟨⟩
theorem tw17974016328880235120:True:=⟨⟩
theorem tw6222487380544312443:True:=⟨⟩
theorem tw4839478117068044826:True:=⟨⟩
theorem tw104360540948158410:True:=⟨⟩
theorem tw1850612553970854742:True:=⟨⟩
theorem tw1615956725737779560:True:=⟨⟩
theorem tw33456957511925785:True:=⟨⟩
theorem tw16361134009908129286:True:=⟨⟩
theorem tw7590696779544312186:True:=⟨⟩
theorem tw10877679251791092727:True:=⟨⟩
theorem tw15734660467963936456:True:=⟨⟩
theorem tw11135027115929721415:True:=⟨⟩
theorem tw6910295442248876197:True:=⟨⟩
theorem tw6162249291895867263:True:=⟨⟩
theorem tw9897820754763898449:True:=⟨⟩
theorem tw7214478077546791972:True:=⟨⟩
theorem tw5781596087445459943:True:=⟨⟩
theorem tw13355152605343272895:True:=⟨⟩
theorem tw9670510015898674028:True:=⟨⟩
theorem tw5532463470591059822:True:=⟨⟩
theorem tw10114013102757674387:True:=⟨⟩
theorem tw11982392923317675503:True:=⟨⟩
theorem tw4297412468100583042:True:=⟨⟩
theorem tw1084114956928915155:True:=⟨⟩
theorem tw7153082081811710619:True:=⟨⟩
theorem tw8748973510418095054:True:=⟨⟩
theorem tw17292155258170135553:True:=⟨⟩
theorem tw12900284412222446716:True:=⟨⟩
theorem tw10199874654664476236:True:=⟨⟩
end Mine.main
open PySem PySem.W PyProof.Rows
set_option Elab.async true
set_option maxRecDepth 100000 in
set_option maxHeartbeats 8000000 in
theorem Mine.main:PySem.Challenge.rw_rs0231_03.Holds:=by
 w_on; o_law; k_head; (case hw=>w_witness2)
 k_fill
 intro w s₀ s₁ mg mb G Y fa o pm cd doc dV kV ho hd hcd hD hmg hg args vals as hpre hlay hrd hwl hlo
 have KX:=km_in_of Y
 have hT:=km_tabs_of Y
 refine Ground.open G ?_
 intro T B D TE TW
 clear hD hcd hd ho Y
 wrow_args hpre hlay hrd hwl hlo
 rename_i zs _ _ _ _ _ _ _ a vs _ hL ra w1 r0 hI hr hc1 hc2
 obtain ⟨vs',hv⟩:=Mine.well_list w1
 have hv2:=Mine.list_same hv hL
 refine Mine.law3_run ?F KX (hT 195 (by decide)) (hT 202 (by decide)) T.g T.b T.nolimit T.builtins T.bmain hmg hv2 hI (by omega) fun h' tk O=>?_
 case F =>
  constructor
  case f=>constructor <;> first | ((repeat intro _); kernel_rfl) | (constructor <;> kernel_rfl)
  all_goals first | ((repeat intro _); kernel_rfl) | kernel_rfl
 refine ⟨.inl ⟨.bool true,.bool true,[],rfl,fun cls=>rfl,.bool true,by first | rfl | kernel_rfl,fun _=>⟨List.nodup_nil,fun a ha=>by cases ha⟩⟩,O,rfl,.of_eq hg⟩
theorem PySem.Challenge.cw_rs0231_03_holds : PySem.Challenge.rw_rs0231_03.Holds :=
 Mine.main
