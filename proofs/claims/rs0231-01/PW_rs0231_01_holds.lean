import PyProof.Rows.All
import Wide.All
import OpenK.AllK
import Wide.FinOn
import PySem.Challenge.RW_rs0231_01
set_option Elab.async false
set_option linter.unusedVariables false
set_option linter.unusedSimpArgs false
set_option linter.unusedSectionVars false
set_option genSizeOf false
set_option genInjectivity false
set_option maxRecDepth 100000
noncomputable section
namespace Mine
noncomputable abbrev pp (a b c:Nat):PySem.Pos:=⟨a,b,a,c⟩
end Mine
section
namespace Mine
theorem zf0 {i n m:Nat} (h:i + (n + 1) = m):i < m:=h ▸ Nat.lt_add_of_pos_right (Nat.succ_pos n)
theorem ind_s {i n m:Nat} (h:i + (n + 1) = m):i + 1 + n = m:=(Nat.succ_add i n).trans h
theorem zc9 {a b m:Nat} (h:a + (b + 1) <= m):a < m:=Nat.lt_of_lt_of_le (Nat.lt_add_of_pos_right (Nat.succ_pos b)) h
theorem zda {a b m:Nat} (h:a + (b + 1) <= m):a + 1 + b <= m:=Nat.le_trans (Nat.le_of_eq (Nat.succ_add a b)) h
theorem znh {a b m:Nat} (h:a + (b + 1) <= m):a + b <= m:=Nat.le_of_lt h
theorem lt6 {P:Nat -> Prop} (h0:P 0) (h1:P 1) (h2:P 2) (h3:P 3) (h4:P 4) (h5:P 5) (k:Nat) (h:k < 6):P k:=by
 rcases k with _ | _ | _ | _ | _ | _ | k
 ·exact h0
 ·exact h1
 ·exact h2
 ·exact h3
 ·exact h4
 ·exact h5
 ·exact absurd h (Nat.not_lt.mpr (Nat.le_add_left 6 k))
theorem lt2 {P:Nat -> Prop} (h0:P 0) (h1:P 1) (k:Nat) (h:k < 2):P k:=by
 rcases k with _ | _ | k
 ·exact h0
 ·exact h1
 ·exact absurd h (Nat.not_lt.mpr (Nat.le_add_left 2 k))
end Mine
end
section
namespace Mine
open PySem
inductive V where
 | none
 | bool (b:Bool)
 | int (i:Int)
 | str (x:Str)
 | bi (id:String)
 | typ (n:String)
 | adr (a:Addr)
 | ref (l:Nat)
 | tup (xs:List V)
 | lst (xs:List V)
 | rng (a b c:Int)
 | dct (ks:List Str) (vs:List V)
 | dcti (ks:List Int) (vs:List V)
inductive Cell where
 | list (xs:List V)
 | inst (c:Addr) (d:Nat)
 | attr (v:Option V)
 | tab (pt:Addr) (pos:Pos) (qual:Str)
structure Gh where
 hf:Addr -> Option Obj
 ρ:Nat -> Addr
 cs:List Cell
 pr:Params
 fl:Addr -> Prop
noncomputable def lim:Nat:=8388608
noncomputable abbrev headersName:Str:=Str.ofString "_headers"
inductive All2 {α β:Type} (R:α -> β -> Prop):List α -> List β -> Prop
 | nil:All2 R [] []
 | cons {a b as bs} (h:R a b) (r:All2 R as bs):All2 R (a :: as) (b :: bs)
noncomputable abbrev listO (vs:List Value) (ep:Nat):Obj:=⟨.type "list",none,.seq (List.toArray vs) ep,#[]⟩
noncomputable abbrev tupO (vs:List Value) (ep:Nat):Obj:=⟨.type "tuple",none,.seq (List.toArray vs) ep,#[]⟩
noncomputable abbrev dictO (es:List DictEntry) (ep:Nat):Obj:=⟨.type "dict",none,.dict (List.toArray es) ep,#[]⟩
noncomputable abbrev rngO (a b c:Int) (t u v:Tok):Obj:=⟨.type "range",none,.fields #[.int a t,.int b u,.int c v],#[]⟩
noncomputable def StrKey (pr:Params) (x:Str) (e:DictEntry):Prop:=∃ t,e.key = .str x t /\ e.hash = PyData.keyHash pr x
noncomputable def IntKey (i:Int) (e:DictEntry):Prop:=(∃ t,e.key = .int i t) /\ e.hash = hashInt i
inductive VRel (g:Gh):V -> Value -> Prop
 | none:VRel g .none .none
 | bool (b):VRel g (.bool b) (.bool b)
 | int (i t):VRel g (.int i) (.int i t)
 | str (x t) (h:x.length <= lim):VRel g (.str x) (.str x t)
 | bi (i):VRel g (.bi i) (.builtin i)
 | typ (i):VRel g (.typ i) (.type i)
 | adr (a):VRel g (.adr a) (.ref a)
 | ref (l) (h:l < g.cs.length):VRel g (.ref l) (.ref (g.ρ l))
 | tup {a xs vs ep} (h:g.hf a = some (tupO vs ep)) (r:All2 (VRel g) xs vs) (hl:xs.length <= lim):VRel g (.tup xs) (.ref a)
 | lst {a xs vs ep} (h:g.hf a = some (listO vs ep)) (r:All2 (VRel g) xs vs) (hl:xs.length <= lim):VRel g (.lst xs) (.ref a)
 | rng {r a b c t u v} (h:g.hf r = some (rngO a b c t u v)):VRel g (.rng a b c) (.ref r)
 | dct {a ks vs es ep} (h:g.hf a = some (dictO es ep)) (k:All2 (StrKey g.pr) ks es) (r:All2 (VRel g) vs (es.map (·.val))) (hs:(a == sysModules) = false):VRel g (.dct ks vs) (.ref a)
 | dcti {a ks vs es ep} (h:g.hf a = some (dictO es ep)) (k:All2 IntKey ks es) (r:All2 (VRel g) vs (es.map (·.val))) (hs:(a == sysModules) = false):VRel g (.dcti ks vs) (.ref a)
noncomputable def VInv (g:Gh):V -> Value -> Prop :=
 V.rec (motive_1:=fun _=>Value -> Prop) (motive_2:=fun _=>Unit)
  (fun w=>w = .none) (fun b w=>w = .bool b) (fun i w=>∃ t,w = .int i t) (fun x w=>∃ t,w = .str x t /\ x.length <= lim) (fun i w=>w = .builtin i) (fun i w=>w = .type i) (fun a w=>w = .ref a)
  (fun l w=>w = .ref (g.ρ l) /\ l < g.cs.length) (fun xs _ w=>∃ a vs ep,w = .ref a /\ g.hf a = some (tupO vs ep) /\ All2 (VRel g) xs vs /\ xs.length <= lim)
  (fun xs _ w=>∃ a vs ep,w = .ref a /\ g.hf a = some (listO vs ep) /\ All2 (VRel g) xs vs /\ xs.length <= lim)
  (fun a b c w=>∃ r t u v,w = .ref r /\ g.hf r = some (rngO a b c t u v))
  (fun ks vs _ w=>∃ a es ep,w = .ref a /\ g.hf a = some (dictO es ep) /\ All2 (StrKey g.pr) ks es /\ All2 (VRel g) vs (es.map (·.val)) /\ (a == sysModules) = false)
  (fun ks vs _ w=>∃ a es ep,w = .ref a /\ g.hf a = some (dictO es ep) /\ All2 IntKey ks es /\ All2 (VRel g) vs (es.map (·.val)) /\ (a == sysModules) = false)
  () (fun _ _ _ _=>())
theorem VRel.inv {g:Gh} {v:V} {w:Value} (r:VRel g v w):VInv g v w:=by
 cases r with
 | none=>exact rfl
 | bool=>exact rfl
 | int i t=>exact ⟨t,rfl⟩
 | str x t h=>exact ⟨t,rfl,h⟩
 | bi=>exact rfl
 | typ=>exact rfl
 | adr=>exact rfl
 | ref l h=>exact ⟨rfl,h⟩
 | tup h r hl=>exact ⟨_,_,_,rfl,h,r,hl⟩
 | lst h r hl=>exact ⟨_,_,_,rfl,h,r,hl⟩
 | rng h=>exact ⟨_,_,_,_,rfl,h⟩
 | dct h k r hs=>exact ⟨_,_,_,rfl,h,k,r,hs⟩
 | dcti h k r hs=>exact ⟨_,_,_,rfl,h,k,r,hs⟩
noncomputable abbrev VRels (g:Gh):=All2 (VRel g)
structure Le (g g':Gh):Prop where
 n:g.cs.length <= g'.cs.length
 ρ:∀ l,l < g.cs.length -> g'.ρ l = g.ρ l
 hf:∀ a o,g.hf a = some o -> g'.hf a = some o
 pr:g'.pr = g.pr
 fl:g'.fl = g.fl
theorem Le.refl (g:Gh):Le g g:=⟨Nat.le_refl _,fun _ _=>rfl,fun _ _ e=>e,rfl,rfl⟩
theorem Le.trans {a b c:Gh} (x:Le a b) (y:Le b c):Le a c :=
 ⟨Nat.le_trans x.n y.n,fun l h=>(y.ρ l (Nat.lt_of_lt_of_le h x.n)).trans (x.ρ l h),fun a o e=>y.hf a o (x.hf a o e),y.pr.trans x.pr,y.fl.trans x.fl⟩
theorem VRel.ref' {g:Gh} {l:Nat} {a:Addr} (h:l < g.cs.length) (e:g.ρ l = a):VRel g (.ref l) (.ref a):=e ▸ .ref l h
theorem VRel.mono {g g':Gh} (L:Le g g') {v:V} {w:Value} (r:VRel g v w):VRel g' v w :=
 VRel.rec (motive_1:=fun v w _=>VRel g' v w) (motive_2:=fun xs ws _=>All2 (VRel g') xs ws)
  .none .bool .int .str .bi .typ .adr (fun l h=>.ref' (Nat.lt_of_lt_of_le h L.n) (L.ρ l h))
  (fun h _ hl r=>.tup (L.hf _ _ h) r hl) (fun h _ hl r=>.lst (L.hf _ _ h) r hl) (fun h=>.rng (L.hf _ _ h))
  (fun h k _ hs r=>.dct (L.hf _ _ h) (L.pr.symm ▸ k) r hs) (fun h k _ hs r=>.dcti (L.hf _ _ h) k r hs) .nil (fun _ _ h r=>.cons h r) r
namespace All2
variable {α β:Type} {R S:α -> β -> Prop}
theorem imp (h:∀ a b,R a b -> S a b) {xs:List α} {ys:List β} (r:All2 R xs ys):All2 S xs ys:=by
 induction r with
 | nil=>exact .nil
 | cons h' _ ih=>exact .cons (h _ _ h') ih
theorem length {xs:List α} {ys:List β} (r:All2 R xs ys):ys.length = xs.length:=by
 induction r with
 | nil=>rfl
 | cons _ _ ih=>exact congrArg (· + 1) ih
theorem append {xs us:List α} {ys vs:List β} (r:All2 R xs ys) (q:All2 R us vs):All2 R (xs ++ us) (ys ++ vs):=by
 induction r with
 | nil=>exact q
 | cons h _ ih=>exact .cons h ih
theorem get {xs:List α} {ys:List β} (r:All2 R xs ys):∀ {i:Nat} {a:α},xs[i]? = some a -> ∃ b,ys[i]? = some b /\ R a b:=by
 induction r with
 | nil=>exact fun e=>nomatch e
 | cons h _ ih =>
  intro i a e
  cases i with
  | zero=>cases e; exact ⟨_,rfl,h⟩
  | succ i=>exact ih e
theorem get' {xs:List α} {ys:List β} (r:All2 R xs ys):∀ {i:Nat} {b:β},ys[i]? = some b -> ∃ a,xs[i]? = some a /\ R a b:=by
 induction r with
 | nil=>exact fun e=>nomatch e
 | cons h _ ih =>
  intro i a e
  cases i with
  | zero=>cases e; exact ⟨_,rfl,h⟩
  | succ i=>exact ih e
theorem reverse {xs:List α} {ys:List β} (r:All2 R xs ys):All2 R xs.reverse ys.reverse:=by
 induction r with
 | nil=>exact .nil
 | cons h _ ih=>rw [List.reverse_cons,List.reverse_cons]; exact ih.append (.cons h .nil)
theorem set {xs:List α} {ys:List β} (r:All2 R xs ys) {a:α} {b:β} (h:R a b):∀ i,All2 R (xs.set i a) (ys.set i b):=by
 induction r with
 | nil=>exact fun _=>.nil
 | cons h' r ih =>
  intro i
  cases i with
  | zero=>exact .cons h r
  | succ i=>exact .cons h' (ih i)
theorem nil_of {ys:List β} (r:All2 R [] ys):ys = []:=by cases r; rfl
theorem cons_of {x:α} {xs:List α} {ys:List β} (r:All2 R (x :: xs) ys):∃ y r',ys = y :: r' /\ R x y /\ All2 R xs r':=by
 cases r with
 | cons h r=>exact ⟨_,_,rfl,h,r⟩
theorem one {x:α} {ys:List β} (r:All2 R [x] ys):∃ y,ys = [y] /\ R x y:=by
 obtain ⟨y,r',rfl,h,r⟩:=r.cons_of
 cases r.nil_of
 exact ⟨y,rfl,h⟩
theorem two {x x':α} {ys:List β} (r:All2 R [x,x'] ys):∃ y y',ys = [y,y'] /\ R x y /\ R x' y':=by
 obtain ⟨y,r',rfl,h,r⟩:=r.cons_of
 obtain ⟨y',rfl,h'⟩:=r.one
 exact ⟨y,y',rfl,h,h'⟩
theorem three {x x' x'':α} {ys:List β} (r:All2 R [x,x',x''] ys):∃ y y' y'',ys = [y,y',y''] /\ R x y /\ R x' y' /\ R x'' y'':=by
 obtain ⟨y,r',rfl,h,r⟩:=r.cons_of
 obtain ⟨y',y'',rfl,h',h''⟩:=r.two
 exact ⟨y,y',y'',rfl,h,h',h''⟩
end All2
theorem vmono {g g':Gh} {xs:List V} {ys:List Value} (r:VRels g xs ys) (L:Le g g'):VRels g' xs ys:=r.imp fun _ _ h=>h.mono L
noncomputable def CellIs (g:Gh) (h:Heap) (a:Addr):Cell -> Prop :=
 Cell.rec (fun xs=>∃ vs ep,h.get? a = some (listO vs ep) /\ VRels g xs vs /\ xs.length <= lim)
  (fun c d=>d < g.cs.length /\ h.get? a = some ⟨.ref c,some (g.ρ d),.plain,#[]⟩)
  (fun v=>Option.rec (∃ sl ep,h.get? a = some ⟨.type "dict",none,.dict #[] ep,sl⟩)
   (fun v=>∃ hh tk v' ep sl,h.get? a = some ⟨.type "dict",none,.dict #[⟨hh,.str headersName tk,v'⟩] ep,sl⟩ /\ VRel g v v') v)
  (fun pt pos qual=>a = pt /\ ∃ ps,h.get? a = some (PySem.W.tabObj ps) /\ TriplesOk ps.toList /\ (codeAmong pos ps.toList = none \/ ∃ c oc vs t,codeAmong pos ps.toList = some (.ref c) /\ g.hf c = some oc /\ oc.data = .fields vs /\ vs[1]? = some (.str qual t)))
structure HRel (g:Gh) (h:Heap):Prop where
 fz:∀ a o,g.hf a = some o -> h.get? a = some o
 ce:∀ l c,g.cs[l]? = some c -> CellIs g h (g.ρ l) c
 ap:∀ l,l < g.cs.length -> g.hf (g.ρ l) = none
 inj:∀ l l',l < g.cs.length -> l' < g.cs.length -> g.ρ l = g.ρ l' -> l = l'
 nofr:∀ a o,g.hf a = some o -> ∀ v,o.data ≠ .cell v
 lv:∀ a,g.fl a -> (∃ o es ep,h.get? a = some o /\ o.data = .dict es ep) /\ (∀ l,l < g.cs.length -> g.ρ l ≠ a) /\ g.hf a = none
theorem CellIs.mono {g g':Gh} (L:Le g g') {h h':Heap} {a:Addr} (e:∀ o,h.get? a = some o -> h'.get? a = some o) {c:Cell} (q:CellIs g h a c):CellIs g' h' a c:=by
 cases c with
 | list xs=>obtain ⟨vs,ep,q,r,z⟩:=q; exact ⟨vs,ep,e _ q,vmono r L,z⟩
 | inst c d=>exact ⟨Nat.lt_of_lt_of_le q.1 L.n,(L.ρ d q.1).symm ▸ e _ q.2⟩
 | attr v =>
  cases v with
  | none=>obtain ⟨sl,ep,q⟩:=q; exact ⟨sl,ep,e _ q⟩
  | some v=>obtain ⟨hh,tk,v',ep,sl,q,r⟩:=q; exact ⟨hh,tk,v',ep,sl,e _ q,r.mono L⟩
 | tab pt pos qual =>
  obtain ⟨pe,ps,q,tr,r⟩:=q
  refine ⟨pe,ps,e _ q,tr,r.imp id fun r=>?_⟩
  obtain ⟨c,oc,vs,t,p1,p2,p3⟩:=r
  exact ⟨c,oc,vs,t,p1,L.hf _ _ p2,p3⟩
theorem CellIs.alive {g:Gh} {h:Heap} {a:Addr} {c:Cell} (q:CellIs g h a c):∃ o,h.get? a = some o /\ o.cls ≠ .type "frame" /\ (∀ v,o.data ≠ .cell v):=by
 cases c with
 | list xs=>obtain ⟨vs,ep,q,_⟩:=q; exact ⟨_,q,fun e=>(by injection e with e; exact absurd e (by decide)),fun v e=>nomatch e⟩
 | inst c d=>exact ⟨_,q.2,fun e=>(nomatch e),fun v e=>nomatch e⟩
 | attr v =>
  cases v with
  | none=>obtain ⟨sl,ep,q⟩:=q; exact ⟨_,q,fun e=>(by injection e with e; exact absurd e (by decide)),fun v e=>nomatch e⟩
  | some v=>obtain ⟨hh,tk,v',ep,sl,q,r⟩:=q; exact ⟨_,q,fun e=>(by injection e with e; exact absurd e (by decide)),fun v e=>nomatch e⟩
 | tab pt pos qual=>obtain ⟨pe,ps,q,_⟩:=q; exact ⟨_,q,fun e=>(nomatch e),fun v e=>nomatch e⟩
theorem HRel.alive {g:Gh} {h:Heap} (H:HRel g h) {l:Nat} (hl:l < g.cs.length):∃ o,h.get? (g.ρ l) = some o /\ o.cls ≠ .type "frame" /\ (∀ v,o.data ≠ .cell v) :=
 (H.ce l _ (List.getElem?_eq_getElem hl)).alive
theorem HRel.ne {g:Gh} {h:Heap} (H:HRel g h) {l:Nat} (hl:l < g.cs.length) {a:Addr} (e:h.get? a = none):g.ρ l ≠ a:=fun q=>by
 obtain ⟨o,q',_⟩:=H.alive hl
 rw [q,e] at q'; cases q'
theorem HRel.hf_none {g:Gh} {h:Heap} (H:HRel g h) {a:Addr} (e:h.get? a = none):g.hf a = none:=by
 cases q:g.hf a with
 | none=>rfl
 | some o=>rw [H.fz a o q] at e; cases e
theorem HRel.nfl {g:Gh} {h:Heap} (H:HRel g h) {a:Addr} (e:h.get? a = none):¬ g.fl a:=fun z=>by
 obtain ⟨⟨o,_,_,q,_⟩,_⟩:=H.lv a z
 rw [e] at q; cases q
theorem zaa {α:Type} {xs:List α} {i:Nat} {a:α} (e:xs[i]? = some a):i < xs.length:=(List.getElem?_eq_some_iff.mp e).1
theorem HRel.keep {g:Gh} {h h':Heap} (H:HRel g h) (k:∀ a o,h.get? a = some o -> (g.hf a = some o \/ (∃ l,l < g.cs.length /\ a = g.ρ l) \/ g.fl a) -> h'.get? a = some o):HRel g h' where
 fz a o e:=k a o (H.fz a o e) (.inl e)
 ce l c e:=(H.ce l c e).mono (Le.refl g) fun o q=>k _ o q (.inr (.inl ⟨l,zaa e,rfl⟩))
 ap:=H.ap
 inj:=H.inj
 nofr:=H.nofr
 lv a z:=by obtain ⟨⟨o,es,ep,q,d⟩,r⟩:=H.lv a z; exact ⟨⟨o,es,ep,k _ o q (.inr (.inr z)),d⟩,r⟩
structure St where
 s:Shared
 g:Gh
noncomputable abbrev St.up (σ:St) (h:Heap) (t:Nat) (g:Gh):St:=⟨{ σ.s with heap:=h,toks:=t },g⟩
structure Ext (σ σ':St) (own:Addr -> Prop):Prop where
 le:Le σ.g σ'.g
 fresh:∀ a o,σ'.g.hf a = some o -> σ.g.hf a = some o \/ σ.s.heap.get? a = none
 cfresh:∀ l,σ.g.cs.length <= l -> l < σ'.g.cs.length -> σ.s.heap.get? (σ'.g.ρ l) = none
 keep:∀ a o,σ.s.heap.get? a = some o -> (∀ l,l < σ.g.cs.length -> a ≠ σ.g.ρ l) -> ¬ own a -> ∃ o',σ'.s.heap.get? a = some o' /\ o'.data = o.data /\ (¬ σ.g.fl a -> o' = o)
 ownk:∀ a o,σ.s.heap.get? a = some o -> own a -> ∃ o',σ'.s.heap.get? a = some o'
 H:HRel σ'.g σ'.s.heap
 sh:σ'.s = { σ.s with heap:=σ'.s.heap,toks:=σ'.s.toks }
noncomputable def noOwn:Addr -> Prop:=fun _=>False
theorem Ext.refl {σ:St} (H:HRel σ.g σ.s.heap) (own:Addr -> Prop):Ext σ σ own :=
 ⟨Le.refl _,fun _ _ e=>.inl e,fun l a b=>absurd b (Nat.not_lt.mpr a),fun _ o e _ _=>⟨o,e,rfl,fun _=>rfl⟩,fun a o e _=>⟨o,e⟩,H,rfl⟩
theorem Ext.lives {σ σ':St} {own:Addr -> Prop} (x:Ext σ σ' own) {a:Addr} {o:Obj} (e:σ.s.heap.get? a = some o):∃ o',σ'.s.heap.get? a = some o':=by
 by_cases q:∃ l,l < σ.g.cs.length /\ a = σ.g.ρ l
 ·obtain ⟨l,hl,rfl⟩:=q
  obtain ⟨o',e',_⟩:=x.H.alive (Nat.lt_of_lt_of_le hl x.le.n)
  exact ⟨o',x.le.ρ l hl ▸ e'⟩
 ·by_cases r:own a
  ·exact x.ownk a o e r
  ·exact (x.keep a o e (fun l hl c=>q ⟨l,hl,c⟩) r).imp fun _ z=>z.1
theorem Ext.dead {σ σ':St} {own:Addr -> Prop} (x:Ext σ σ' own) {a:Addr} (e:σ'.s.heap.get? a = none):σ.s.heap.get? a = none:=by
 cases q:σ.s.heap.get? a with
 | none=>rfl
 | some o=>obtain ⟨o',e'⟩:=x.lives q; rw [e] at e'; cases e'
theorem Ext.nce {σ σ':St} {own:Addr -> Prop} (x:Ext σ σ' own) {a:Addr} {o:Obj} (e:σ.s.heap.get? a = some o) (n:∀ l,l < σ.g.cs.length -> σ.g.ρ l ≠ a):∀ l,l < σ'.g.cs.length -> σ'.g.ρ l ≠ a:=fun l hl q=>by
 by_cases r:l < σ.g.cs.length
 ·exact n l r (x.le.ρ l r ▸ q)
 ·have:=x.cfresh l (Nat.not_lt.mp r) hl
  rw [q,e] at this; cases this
theorem Ext.nhf {σ σ':St} {own:Addr -> Prop} (x:Ext σ σ' own) {a:Addr} {o:Obj} (e:σ.s.heap.get? a = some o) (n:σ.g.hf a = none):σ'.g.hf a = none:=by
 cases q:σ'.g.hf a with
 | none=>rfl
 | some o' =>
  rcases x.fresh a o' q with z | z
  ·rw [n] at z; cases z
  ·rw [e] at z; cases z
theorem Ext.mono {σ σ':St} {own own':Addr -> Prop} (x:Ext σ σ' own) (hs:∀ a,own a -> own' a):Ext σ σ' own' :=
 ⟨x.le,x.fresh,x.cfresh,fun a o e n q=>x.keep a o e n fun r=>q (hs a r),fun a o e _=>x.lives e,x.H,x.sh⟩
theorem Ext.trans {σ₁ σ₂ σ₃:St} {own:Addr -> Prop} (x:Ext σ₁ σ₂ own) (y:Ext σ₂ σ₃ own):Ext σ₁ σ₃ own where
 le:=x.le.trans y.le
 fresh a o e:=(y.fresh a o e).elim (x.fresh a o) fun q=>.inr (x.dead q)
 cfresh l a b:=by
  by_cases q:l < σ₂.g.cs.length
  ·rw [y.le.ρ l q]; exact x.cfresh l a q
  ·exact x.dead (y.cfresh l (Nat.not_lt.mp q) b)
 keep a o e n q:=by
  obtain ⟨o1,e1,d1,n1⟩:=x.keep a o e n q
  obtain ⟨o2,e2,d2,n2⟩:=y.keep a o1 e1 (fun l hl c=>x.nce e (fun l hl z=>n l hl z.symm) l hl c.symm) q
  exact ⟨o2,e2,d2.trans d1,fun z=>(n2 (x.le.fl.symm ▸ z)).trans (n1 z)⟩
 ownk a o e q:=by
  obtain ⟨o',e'⟩:=x.ownk a o e q
  exact y.ownk a o' e' q
 H:=y.H
 sh:=by rw [y.sh,x.sh]
theorem Ext.exact {σ σ':St} {own:Addr -> Prop} (x:Ext σ σ' own) {a:Addr} {o:Obj} (e:σ.s.heap.get? a = some o) (n:∀ l,l < σ.g.cs.length -> a ≠ σ.g.ρ l) (q:¬ own a) (f:¬ σ.g.fl a):σ'.s.heap.get? a = some o:=by
 obtain ⟨o',e',_,z⟩:=x.keep a o e n q
 rw [e',z f]
theorem Ext.drop_own {σ σ':St} {own:Addr -> Prop} (x:Ext σ σ' own) (f:∀ a,own a -> σ.s.heap.get? a = none):Ext σ σ' noOwn :=
 ⟨x.le,x.fresh,x.cfresh,fun a o e n _=>x.keep a o e n fun q=>(by rw [f a q] at e; cases e),fun a o e _=>x.lives e,x.H,x.sh⟩
theorem get?_ge {h:Heap} {a:Addr} (e:h.objs.size <= a):h.get? a = none:=by
 cases q:h.get? a with
 | none=>rfl
 | some o=>exact absurd (Heap.lt_size q) (Nat.not_lt.mpr e)
theorem get?_size (h:Heap):h.get? h.objs.size = none:=get?_ge (Nat.le_refl _)
noncomputable def Gh.freeze (g:Gh) (a:Addr) (o:Obj):Gh:={ g with hf:=fun b=>if b = a then some o else g.hf b }
noncomputable def Gh.grow (g:Gh) (a:Addr) (c:Cell):Gh:={ g with ρ:=fun l=>if l = g.cs.length then a else g.ρ l,cs:=g.cs ++ [c] }
noncomputable def Gh.upd (g:Gh) (l:Nat) (c:Cell):Gh:={ g with cs:=g.cs.set l c }
theorem zam (g:Gh) (a:Addr) (o:Obj):(g.freeze a o).hf a = some o:=if_pos rfl
theorem zat {g:Gh} {a b:Addr} {o o':Obj} (q:(g.freeze a o).hf b = some o'):(b = a /\ o' = o) \/ g.hf b = some o':=by
 have q':(if b = a then some o else g.hf b) = some o':=q
 by_cases hb:b = a
 ·rw [if_pos hb] at q'; exact .inl ⟨hb,(Option.some.inj q').symm⟩
 ·rw [if_neg hb] at q'; exact .inr q'
theorem Le.freeze (g:Gh) {a:Addr} (o:Obj) (e:g.hf a = none):Le g (g.freeze a o) :=
 ⟨Nat.le_refl _,fun _ _=>rfl,fun b o' q=>(if_neg fun hb=>by rw [hb,e] at q; cases q).trans q,rfl,rfl⟩
theorem zcl (g:Gh) (a:Addr) (c:Cell):(g.grow a c).cs.length = g.cs.length + 1:=List.length_append
theorem Le.grow (g:Gh) (a:Addr) (c:Cell):Le g (g.grow a c) :=
 ⟨by rw [zcl]; exact Nat.le_succ _,fun l hl=>if_neg (Nat.ne_of_lt hl),fun _ _ q=>q,rfl,rfl⟩
theorem grow_ρ (g:Gh) (a:Addr) (c:Cell):(g.grow a c).ρ g.cs.length = a:=if_pos rfl
theorem zck {g:Gh} {a:Addr} {c:Cell} {l:Nat} (h:l < (g.grow a c).cs.length):l < g.cs.length \/ l = g.cs.length :=
 Nat.lt_or_eq_of_le (Nat.le_of_lt_succ (Nat.lt_of_lt_of_eq h (zcl g a c)))
theorem zeb (g:Gh) (l:Nat) (c:Cell):(g.upd l c).cs.length = g.cs.length:=List.length_set
theorem Le.upd (g:Gh) (l:Nat) (c:Cell):Le g (g.upd l c):=⟨Nat.le_of_eq (zeb ..).symm,fun _ _=>rfl,fun _ _ q=>q,rfl,rfl⟩
section
variable {g:Gh} {h h':Heap}
theorem HRel.freeze (H:HRel g h) {a:Addr} {o:Obj} (k:∀ a o,g.hf a = some o \/ (∃ l,l < g.cs.length /\ a = g.ρ l) \/ g.fl a -> h.get? a = some o -> h'.get? a = some o) (n1:g.hf a = none) (n2:∀ l,l < g.cs.length -> g.ρ l ≠ a) (n3:¬ g.fl a) (e':h'.get? a = some o)
  (nc:∀ v,o.data ≠ .cell v):HRel (g.freeze a o) h' where
 fz b o' q:=(zat q).elim (fun z=>z.1 ▸ z.2 ▸ e') fun q=>k _ _ (.inl q) (H.fz b o' q)
 ce l c q:=(H.ce l c q).mono (Le.freeze g o n1) fun o' z=>k _ _ (.inr (.inl ⟨l,zaa q,rfl⟩)) z
 ap l hl:=(if_neg (n2 l hl)).trans (H.ap l hl)
 inj:=H.inj
 nofr b o' q:=(zat q).elim (fun z=>z.2 ▸ nc) (H.nofr b o')
 lv b z:=by
  obtain ⟨⟨o1,es,ep,q,d⟩,r1,r2⟩:=H.lv b z
  have ne:¬ b = a:=fun q=>n3 (q ▸ z)
  exact ⟨⟨o1,es,ep,k _ _ (.inr (.inr z)) q,d⟩,r1,(if_neg ne).trans r2⟩
theorem HRel.grow (H:HRel g h) {a:Addr} {c:Cell} (k:∀ a o,h.get? a = some o -> h'.get? a = some o) (n1:g.hf a = none) (n2:∀ l,l < g.cs.length -> g.ρ l ≠ a) (n3:¬ g.fl a) (c':CellIs (g.grow a c) h' a c):HRel (g.grow a c) h' where
 fz b o' q:=k _ _ (H.fz b o' q)
 ce l d q:=(zck (zaa q)).elim
  (fun hl=>(Le.grow g a c).ρ l hl ▸ (H.ce l d ((List.getElem?_append_left hl).symm.trans q)).mono (Le.grow g a c) fun o' z=>k _ _ z)
  fun hl=>by
   subst hl
   have q':(g.cs ++ [c])[g.cs.length]? = some d:=q
   rw [List.getElem?_append_right (Nat.le_refl _),Nat.sub_self] at q'
   cases q'
   exact (grow_ρ g a c).symm ▸ c'
 ap l hl:=(zck hl).elim (fun z=>(Le.grow g a c).ρ l z ▸ H.ap l z) fun z=>by rw [z,grow_ρ]; exact n1
 inj l l' hl hl' q:=(zck hl).elim
  (fun z=>(zck hl').elim (fun z'=>H.inj l l' z z' (by rw [(Le.grow g a c).ρ l z,(Le.grow g a c).ρ l' z'] at q; exact q)) fun z'=>by rw [(Le.grow g a c).ρ l z,z',grow_ρ] at q; exact absurd q (n2 l z))
  fun z=>(zck hl').elim (fun z'=>by rw [(Le.grow g a c).ρ l' z',z,grow_ρ] at q; exact absurd q.symm (n2 l' z')) fun z'=>z.trans z'.symm
 nofr:=H.nofr
 lv b z:=by
  obtain ⟨⟨o1,es,ep,q,d⟩,r1,r2⟩:=H.lv b z
  exact ⟨⟨o1,es,ep,k _ _ q,d⟩,fun l hl=>(zck hl).elim (fun y=>(Le.grow g a c).ρ l y ▸ r1 l y) fun y=>by rw [y,grow_ρ]; exact fun q=>n3 (q ▸ z),r2⟩
theorem HRel.upd (H:HRel g h) {l:Nat} {c:Cell} (hl:l < g.cs.length) (k:Heap.ExtBut (g.ρ l) h h') (c':CellIs (g.upd l c) h' (g.ρ l) c):HRel (g.upd l c) h' where
 fz b o' q:=k _ _ (fun z=>by subst z; cases (H.ap l hl).symm.trans q) (H.fz b o' q)
 ce l' c1 q:=by
  have q':(g.cs.set l c)[l']? = some c1:=q
  by_cases z:l = l'
  ·subst z
   rw [List.getElem?_set_self hl] at q'
   cases q'; exact c'
  ·rw [List.getElem?_set_ne z] at q'
   exact (H.ce l' c1 q').mono (Le.upd g l c) fun o' y=>k _ _ (fun w=>z (H.inj l l' hl (zaa q') w.symm)) y
 ap l' hl':=H.ap l' (zeb g l c ▸ hl')
 inj a b ha hb:=H.inj a b (zeb g l c ▸ ha) (zeb g l c ▸ hb)
 nofr:=H.nofr
 lv b z:=by
  obtain ⟨⟨o1,es,ep,q,d⟩,r1,r2⟩:=H.lv b z
  exact ⟨⟨o1,es,ep,k _ _ (fun y=>r1 l hl y.symm) q,d⟩,fun l' hl'=>r1 l' (zeb g l c ▸ hl'),r2⟩
end
section
variable {σ:St} {h':Heap} {t:Nat} {own:Addr -> Prop}
theorem Ext.keeps (H:HRel σ.g σ.s.heap) (k:∀ a o,σ.s.heap.get? a = some o -> h'.get? a = some o):Ext σ (σ.up h' t σ.g) own :=
 ⟨Le.refl _,fun _ _ e=>.inl e,fun l a b=>absurd b (Nat.not_lt.mpr a),fun a o e _ _=>⟨o,k _ _ e,rfl,fun _=>rfl⟩,fun a o e _=>⟨o,k _ _ e⟩,H.keep fun a o e _=>k a o e,rfl⟩
theorem Ext.tok (H:HRel σ.g σ.s.heap):Ext σ (σ.up σ.s.heap t σ.g) own:=Ext.keeps H fun _ _ e=>e
theorem Ext.freeze (H:HRel σ.g σ.s.heap) {a:Addr} {o:Obj} (k:∀ a o,σ.s.heap.get? a = some o -> h'.get? a = some o) (e:σ.s.heap.get? a = none) (e':h'.get? a = some o) (nc:∀ v,o.data ≠ .cell v):Ext σ (σ.up h' t (σ.g.freeze a o)) own :=
 ⟨Le.freeze _ o (H.hf_none e),fun b o' q=>(zat q).elim (fun z=>.inr (z.1 ▸ e)) .inl,fun l a b=>absurd b (Nat.not_lt.mpr a),fun a o e _ _=>⟨o,k _ _ e,rfl,fun _=>rfl⟩,fun a o e _=>⟨o,k _ _ e⟩,
  H.freeze (fun a o _=>k a o) (H.hf_none e) (fun l hl=>H.ne hl e) (H.nfl e) e' nc,rfl⟩
theorem Ext.grow (H:HRel σ.g σ.s.heap) {a:Addr} {c:Cell} (k:∀ a o,σ.s.heap.get? a = some o -> h'.get? a = some o) (e:σ.s.heap.get? a = none) (c':CellIs (σ.g.grow a c) h' a c):Ext σ (σ.up h' t (σ.g.grow a c)) own :=
 ⟨Le.grow _ a c,fun b o' q=>.inl q,fun l p q=>(zck q).elim (fun z=>absurd z (Nat.not_lt.mpr p)) fun z=>by rw [z]; exact (grow_ρ σ.g a c).symm ▸ e,fun a o e _ _=>⟨o,k _ _ e,rfl,fun _=>rfl⟩,fun a o e _=>⟨o,k _ _ e⟩,
  H.grow k (H.hf_none e) (fun l hl=>H.ne hl e) (H.nfl e) c',rfl⟩
theorem Ext.upd (H:HRel σ.g σ.s.heap) {l:Nat} {c:Cell} (hl:l < σ.g.cs.length) (k:Heap.ExtBut (σ.g.ρ l) σ.s.heap h') (c':CellIs (σ.g.upd l c) h' (σ.g.ρ l) c):Ext σ (σ.up h' t (σ.g.upd l c)) noOwn :=
 ⟨Le.upd _ l c,fun _ _ e=>.inl e,fun l' a b=>absurd (zeb σ.g l c ▸ b) (Nat.not_lt.mpr a),fun a o e n _=>⟨o,k _ _ (n l hl) e,rfl,fun _=>rfl⟩,fun a o e q=>q.elim,H.upd hl k c',rfl⟩
end
structure Cx where
 prog:Program
 w:World
 base:Addr -> Option Obj
 d:Nat
 fl:Addr -> Prop:=fun _=>False
 fm:Around -> Env -> Prop:=fun _ _=>True
noncomputable abbrev Cx.M (C:Cx):Model:=model C.prog C.w
section
variable {α β γ δ:Type}
noncomputable def Runs (C:Cx) (A:Around) (σ:St) (own:Addr -> Prop) (t:Sem α) (R:β -> α -> St -> Prop) (K:β -> List Cell -> Prop):Prop :=
 ∀ (Q:α -> Shared -> Prop) (E:Value -> Shared -> Prop),(∀ b a σ',Ext σ σ' own -> R b a σ' -> K b σ'.g.cs -> Q a σ'.s) -> wpAny C.M A t Q E σ.s
noncomputable def VR:V -> Value -> St -> Prop:=fun v x σ=>VRel σ.g v x
noncomputable def LR:List V -> List Value -> St -> Prop:=fun v x σ=>VRels σ.g v x
noncomputable def BR:Bool -> Bool -> St -> Prop:=fun v x _=>x = v
variable {C:Cx} {A:Around} {σ:St} {own:Addr -> Prop}
theorem Runs.still {t:Sem α} {R:β -> α -> St -> Prop} {K:β -> List Cell -> Prop} {b:β} {a:α} (H:HRel σ.g σ.s.heap) (h:∀ (Q:α -> Shared -> Prop) E,(∀ tk,Q a { σ.s with toks:=tk }) -> wpAny C.M A t Q E σ.s)
  (r:∀ tk,R b a (σ.up σ.s.heap tk σ.g)) (q:K b σ.g.cs):Runs C A σ own t R K :=
 fun Q E k=>h Q E fun tk=>k b a (σ.up σ.s.heap tk σ.g) (Ext.tok H) (r tk) q
end
theorem zdv {M:Model} {A:Around} {E:Value -> Shared -> Prop} {s:Shared} {vs:List Value} {t:Sem Value} {Q:Value -> Shared -> Prop} (h:wpAny M A t Q E s):wpAny M A (operate vs t) Q E s :=
 fun Γ p hΓ=>by rw [Sem.wp_operate]; exact h Γ p hΓ
theorem zdu {M:Model} {A:Around} {E:Value -> Shared -> Prop} {s:Shared} {vs k:List Value} {Q:Unit -> Shared -> Prop} (h:Q () s):wpAny M A (release vs k) Q E s :=
 fun Γ p hΓ=>by rw [Sem.wp_release]; exact h
noncomputable def listK (c:Bool) (xs:List V) (cs:List Cell) (K:V -> List Cell -> Prop):Prop:=xs.length <= lim /\ Bool.rec (K (.lst xs) cs) (K (.ref cs.length) (cs ++ [.list xs])) c
theorem nofrL (vs:List Value) (ep:Nat):∀ v,(listO vs ep).data ≠ .cell v:=fun _ e=>nomatch e
theorem zms {σ:St} {c:Bool} {xs:List V} {vs:List Value} {ep:Nat} {h':Heap} {a:Addr} {K:V -> List Cell -> Prop} (H:HRel σ.g σ.s.heap) (r:VRels σ.g xs vs) (k:∀ a o,σ.s.heap.get? a = some o -> h'.get? a = some o) (e:σ.s.heap.get? a = none) (e':h'.get? a = some (listO vs ep))
  (q:listK c xs σ.g.cs K) (t:Nat):∃ v σ',Ext σ σ' noOwn /\ σ'.s = { σ.s with heap:=h',toks:=t } /\ VRel σ'.g v (.ref a) /\ K v σ'.g.cs:=by
 obtain ⟨hl,q⟩:=q
 cases c with
 | true=>exact ⟨_,σ.up h' t (σ.g.grow a (.list xs)),Ext.grow H k e ⟨vs,ep,e',vmono r (Le.grow ..),hl⟩,rfl,.ref' (by rw [zcl]; exact Nat.lt_succ_self _) (grow_ρ ..),q⟩
 | false=>exact ⟨_,σ.up h' t (σ.g.freeze a (listO vs ep)),Ext.freeze H k e e' (nofrL vs ep),rfl,.lst (zam ..) (vmono r (Le.freeze _ _ (H.hf_none e))) hl,q⟩
theorem Runs.mkL {C:Cx} {A:Around} {σ:St} {t:Sem Value} {c:Bool} {xs:List V} {vs:List Value} {K:V -> List Cell -> Prop} (H:HRel σ.g σ.s.heap) (r:VRels σ.g xs vs) (q:listK c xs σ.g.cs K)
  (h:∀ (Q:Value -> Shared -> Prop) E,(∀ tk,Q (.ref σ.s.heap.objs.size) { σ.s with heap:=σ.s.heap.push (listO vs 0),toks:=tk }) -> wpAny C.M A t Q E σ.s):Runs C A σ noOwn t VR K:=fun Q E k =>
 h Q E fun tk=>by
  obtain ⟨v,σ',x,e,r',q'⟩:=zms H r (fun a o e=>Heap.get?_push_of_some _ e) (get?_size _) (Heap.get?_push_size _ rfl) q tk
  exact e ▸ k v _ σ' x r' q'
inductive SeqR (cs:List Cell):V -> Bool -> List V -> Prop
 | tup (xs):SeqR cs (.tup xs) true xs
 | lst (xs):SeqR cs (.lst xs) false xs
 | ref {l xs} (h:cs[l]? = some (.list xs)):SeqR cs (.ref l) false xs
inductive SeqAt' (g:Gh) (h:Heap) (b:Bool) (xs:List V):Value -> Prop
 | mk (a vs ep) (e:h.get? a = some ⟨.type (Bool.rec "list" "tuple" b),none,.seq (List.toArray vs) ep,#[]⟩) (r:VRels g xs vs) (hl:xs.length <= lim):SeqAt' g h b xs (.ref a)
theorem zav {g:Gh} {h:Heap} {v:V} {w:Value} {b:Bool} {xs:List V} (H:HRel g h) (e:SeqR g.cs v b xs) (r:VRel g v w):SeqAt' g h b xs w:=by
 cases e with
 | tup=>obtain ⟨a,vs,ep,rfl,q,r,hl⟩:=r.inv; exact .mk a vs ep (H.fz _ _ q) r hl
 | lst=>obtain ⟨a,vs,ep,rfl,q,r,hl⟩:=r.inv; exact .mk a vs ep (H.fz _ _ q) r hl
 | ref hx=>obtain ⟨rfl,hl⟩:=r.inv; obtain ⟨vs,ep,q,r,hl⟩:=H.ce _ _ hx; exact .mk _ vs ep q r hl
theorem zax:lim <= sizeLine:=by rw [sizeLine_eq]; decide
end Mine
end
section
namespace Mine
open PySem
structure AOk (A:Around) (d:Nat):Prop where
 hh:A.handled = none
 dep:A.depth + d < recursionLimit
 un:A.units + 100 * d + 200 < cLine
theorem AOk.less {A:Around} {d d':Nat} (h:d <= d') (O:AOk A d'):AOk A d:=⟨O.hh,Nat.lt_of_le_of_lt (Nat.add_le_add_left h _) O.dep,Nat.lt_of_le_of_lt (Nat.add_le_add_right (Nat.add_le_add_left (Nat.mul_le_mul_left _ h) _) _) O.un⟩
theorem Ext.trans' {σ₁ σ₂ σ₃:St} {own own':Addr -> Prop} (x:Ext σ₁ σ₂ own) (y:Ext σ₂ σ₃ own') (f:∀ a,own' a -> own a \/ σ₁.s.heap.get? a = none):Ext σ₁ σ₃ own :=
 have z:=x.mono (own':=fun a=>own a \/ own' a) fun _ h=>.inl h
 have w:=z.trans (y.mono (own':=fun a=>own a \/ own' a) fun _ h=>.inr h)
 ⟨w.le,w.fresh,w.cfresh,fun a o e n q=>w.keep a o e n fun r=>r.elim q fun r=>(f a r).elim q fun d=>(by rw [d] at e; cases e),fun a o e _=>w.lives e,w.H,w.sh⟩
theorem Ext.ns {σ σ':St} {own:Addr -> Prop} (x:Ext σ σ' own) {L:Addr} {m:Str -> Option Value} (hn:σ.s.heap.Ns L m) (hl:∀ l,l < σ.g.cs.length -> σ.g.ρ l ≠ L) (ho:¬ own L):σ'.s.heap.Ns L m:=by
 obtain ⟨o,es,ep,e,r⟩:=hn
 obtain ⟨o',e',d,_⟩:=x.keep L o e (fun l hl' c=>hl l hl' c.symm) ho
 exact ⟨o',es,ep,e',d.trans r.1,r.2⟩
theorem Ext.isCell {σ σ':St} {own:Addr -> Prop} (x:Ext σ σ' own) {c:Addr} {w:Option Value} (hn:σ.s.heap.IsCell c w) (hl:∀ l,l < σ.g.cs.length -> σ.g.ρ l ≠ c) (ho:¬ own c):σ'.s.heap.IsCell c w:=by
 obtain ⟨o,e,d⟩:=hn
 obtain ⟨o',e',d',_⟩:=x.keep c o e (fun l hl' c=>hl l hl' c.symm) ho
 exact ⟨o',e',d'.trans d⟩
noncomputable def isC (env:Env) (x:Str):Prop:=env.kindOf x = some .cell \/ env.kindOf x = some .free
inductive NsAt (g:Gh) (env:Env) (L:Str -> Option V) (h:Heap):Prop
 | mk (m) (hn:h.Ns env.locals m) (r:∀ x v,L x = some v -> env.kindOf x = some .local -> ∃ v',m x = some v' /\ VRel g v v')
inductive CellAt (g:Gh) (env:Env) (L:Str -> Option V) (h:Heap) (x:Str):Prop
 | mk (c w) (e:env.cells.lookup x = some c) (ic:h.IsCell c w) (r:∀ v,L x = some v -> ∃ v',w = some v' /\ VRel g v v')
structure FRel (g:Gh) (env:Env) (L:Str -> Option V) (h:Heap):Prop where
 kind:env.scope.kind = .function
 glo:env.globals = mainGlobals
 blt:env.builtins = builtinsNs
 ns:NsAt g env L h
 lfree:g.hf env.locals = none
 lcell:∀ l,l < g.cs.length -> g.ρ l ≠ env.locals
 nfl:¬ g.fl env.locals
 cell:∀ x,isC env x -> CellAt g env L h x
 capart:∀ x y c,isC env x -> isC env y -> env.cells.lookup x = some c -> env.cells.lookup y = some c -> x = y
noncomputable def ownAll (env:Env):Addr -> Prop:=fun a=>a = env.locals \/ ∃ x,isC env x /\ env.cells.lookup x = some a
noncomputable def ownOf (env:Env):Addr -> Prop:=fun a=>a = env.locals \/ ∃ x,env.kindOf x = some .cell /\ env.cells.lookup x = some a
theorem zjc {env:Env} (a:Addr) (h:ownOf env a):ownAll env a:=h.imp id fun ⟨x,h,e⟩=>⟨x,.inl h,e⟩
theorem zj9 {g:Gh} {h:Heap} (H:HRel g h) {c:Addr} {w:Option Value} (hc:h.IsCell c w):g.hf c = none:=by
 cases q:g.hf c with
 | none=>rfl
 | some o =>
  obtain ⟨o',e,d⟩:=hc
  rw [H.fz c o q] at e; cases e
  exact absurd d (H.nofr c o q w)
theorem IsCell_ne_ρ {g:Gh} {h:Heap} (H:HRel g h) {c:Addr} {w:Option Value} (hc:h.IsCell c w) (l:Nat) (hl:l < g.cs.length):g.ρ l ≠ c:=fun q=>by
 obtain ⟨o,e,_,n⟩:=H.alive hl
 obtain ⟨o',e',d⟩:=hc
 rw [q,e'] at e; cases e
 exact n w d
theorem zo6 {g:Gh} {h:Heap} (H:HRel g h) {c:Addr} {w:Option Value} (hc:h.IsCell c w):¬ g.fl c:=fun z=>by
 obtain ⟨⟨o,es,ep,e,d⟩,_⟩:=H.lv c z
 obtain ⟨o',e',d'⟩:=hc
 rw [e] at e'; cases e'
 rw [d] at d'; cases d'
theorem zbg {h:Heap} {c L:Addr} {w:Option Value} {m:Str -> Option Value} (hc:h.IsCell c w) (hn:h.Ns L m):c ≠ L:=fun q=>by
 obtain ⟨o,es,ep,e,d,_⟩:=hn
 obtain ⟨o',e',d'⟩:=hc
 rw [q,e] at e'; cases e'
 rw [d] at d'; cases d'
variable {g:Gh} {env:Env} {L L':Str -> Option V} {h:Heap}
theorem FRel.alive (F:FRel g env L h) (a:Addr) (q:ownAll env a):∃ o,h.get? a = some o:=by
 rcases q with rfl | ⟨x,hx,e⟩
 ·obtain ⟨m,hn,_⟩:=F.ns; obtain ⟨o,_,_,e,_⟩:=hn; exact ⟨o,e⟩
 ·obtain ⟨c,w',e',hc,_⟩:=F.cell x hx
  rw [e] at e'; cases e'
  exact hc.imp fun _ h=>h.1
theorem FRel.apart (F:FRel g env L h) (H:HRel g h) (a:Addr) (q:ownAll env a):g.hf a = none /\ (∀ l,l < g.cs.length -> g.ρ l ≠ a) /\ ¬ g.fl a:=by
 rcases q with rfl | ⟨x,hx,e⟩
 ·exact ⟨F.lfree,F.lcell,F.nfl⟩
 ·obtain ⟨c,w',e',ic,_⟩:=F.cell x hx
  rw [e] at e'; cases e'
  exact ⟨zj9 H ic,IsCell_ne_ρ H ic,zo6 H ic⟩
theorem FRel.weaken (F:FRel g env L' h) (e:∀ x v,L x = some v -> L' x = some v):FRel g env L h :=
 { F with
  ns:=by obtain ⟨m,hn,r⟩:=F.ns; exact ⟨m,hn,fun x v q=>r x v (e x v q)⟩
  cell:=fun x hx=>by obtain ⟨c,w',a,b,r⟩:=F.cell x hx; exact ⟨c,w',a,b,fun v q=>r v (e x v q)⟩ }
theorem FRel.ext {σ σ':St} {own:Addr -> Prop} (F:FRel σ.g env L σ.s.heap) (H:HRel σ.g σ.s.heap) (x:Ext σ σ' own) (no:∀ a,own a -> ¬ ownAll env a):FRel σ'.g env L σ'.s.heap where
 kind:=F.kind
 glo:=F.glo
 blt:=F.blt
 ns:=by
  obtain ⟨m,hn,r⟩:=F.ns
  exact ⟨m,x.ns hn F.lcell (fun z=>no _ z (.inl rfl)),fun y v a b=>(r y v a b).imp fun _ h=>⟨h.1,h.2.mono x.le⟩⟩
 lfree:=by obtain ⟨o,e⟩:=F.alive _ (.inl rfl); exact x.nhf e F.lfree
 lcell:=by obtain ⟨o,e⟩:=F.alive _ (.inl rfl); exact x.nce e F.lcell
 nfl:=x.le.fl.symm ▸ F.nfl
 cell y hy:=by
  obtain ⟨c,w,e,ic,r⟩:=F.cell y hy
  exact ⟨c,w,e,x.isCell ic (IsCell_ne_ρ H ic) (fun z=>no _ z (.inr ⟨y,hy,e⟩)),fun v q=>(r v q).imp fun _ h=>⟨h.1,h.2.mono x.le⟩⟩
 capart:=F.capart
noncomputable abbrev Slots:=List (Option V)
noncomputable def look (ns:List Str) (sl:Slots):Str -> Option V:=fun x=>(sl[ns.idxOf x]?).join
theorem zv1 {ns:List Str} {sl:Slots} {x y:Str} {i:Nat} {v u:V} (hi:ns.idxOf x = i) (hl:i < ns.length) (e:look ns (sl.set i (some v)) y = some u):(y = x /\ u = v) \/ (y ≠ x /\ look ns sl y = some u):=by
 subst hi
 unfold look at e ⊢
 by_cases h:y = x
 ·subst h
  rw [List.getElem?_set,if_pos rfl] at e
  split at e
  ·cases e; exact .inl ⟨rfl,rfl⟩
  ·cases e
 ·refine .inr ⟨h,?_⟩
  rw [List.getElem?_set_ne] at e
  ·exact e
  ·intro q
   have h1:=List.getElem_idxOf hl
   have h2:ns[ns.idxOf y]'(q ▸ hl) = y:=List.getElem_idxOf _
   exact h (h2.symm.trans ((by simp only [q]:ns[ns.idxOf y]'(q ▸ hl) = ns[ns.idxOf x]).trans h1))
structure Fm where
 A:Around
 env:Env
structure Base (C:Cx) (g:Gh):Prop where
 pr:g.pr = C.w.params
 hf:∀ a o,C.base a = some o -> g.hf a = some o
 fl:∀ a,C.fl a -> g.fl a
theorem Base.le {C:Cx} {g g':Gh} (b:Base C g) (L:Le g g'):Base C g':=⟨L.pr.trans b.pr,fun a o e=>L.hf a o (b.hf a o e),fun a z=>L.fl.symm ▸ b.fl a z⟩
structure Std (C:Cx) (Φ:Fm) (L:Str -> Option V) (σ:St):Prop where
 F:FRel σ.g Φ.env L σ.s.heap
 H:HRel σ.g σ.s.heap
 B:Base C σ.g
 O:AOk Φ.A C.d
theorem Std.ext {C:Cx} {Φ:Fm} {σ σ':St} (S:Std C Φ L σ) (x:Ext σ σ' noOwn):Std C Φ L σ':=⟨S.F.ext S.H x fun _ z=>z.elim,x.H,S.B.le x.le,S.O⟩
theorem Std.weaken {C:Cx} {Φ:Fm} {σ:St} (S:Std C Φ L' σ) (e:∀ x v,L x = some v -> L' x = some v):Std C Φ L σ:=⟨S.F.weaken e,S.H,S.B,S.O⟩
variable {C:Cx} {Φ:Fm} {σ:St}
theorem zjb {ow:Addr -> Prop} (S:Std C Φ L σ) {a:Addr} {h':Heap} {t:Nat} (ha:ow a) (hall:ownAll Φ.env a) (hs:Heap.SameBut a σ.s.heap h') (ho:∃ o',h'.get? a = some o'):Ext σ (σ.up h' t σ.g) ow:=by
 obtain ⟨n1,n2,n3⟩:=S.F.apart S.H a hall
 refine ⟨Le.refl _,fun _ _ e=>.inl e,fun l a b=>absurd b (Nat.not_lt.mpr a),fun b o eb nb nob=>⟨o,hs.extBut b o (fun z=>nob (z ▸ ha)) eb,rfl,fun _=>rfl⟩,fun b o eb hb=>?_,S.H.keep fun b o eb q=>hs.extBut b o (fun z=>?_) eb,rfl⟩
 ·by_cases hba:b = a
  ·exact hba ▸ ho
  ·exact ⟨o,hs.extBut b o hba eb⟩
 ·subst z
  rcases q with q | ⟨l,hl,q⟩ | q
  ·rw [n1] at q; cases q
  ·exact n2 l hl q.symm
  ·exact n3 q
noncomputable def upd1 (L:Str -> Option V) (x:Str) (v:V) (L':Str -> Option V):Prop:=∀ y u,L' y = some u -> (y = x /\ u = v) \/ (y ≠ x /\ L y = some u)
noncomputable def isL (env:Env) (x:Str):Prop:=env.kindOf x = some .local \/ env.kindOf x = some .cell
theorem zun (S:Std C Φ L σ) {x:Str} {v:V} {v':Value} (hk:isL Φ.env x) (u1:upd1 L x v L') (r:VRel σ.g v v') {Q:Unit -> Shared -> Prop} {E:Value -> Shared -> Prop} {ow:Addr -> Prop}
  (o1:ow Φ.env.locals) (o2:∀ c,Φ.env.kindOf x = some .cell -> Φ.env.cells.lookup x = some c -> ow c)
  (k:∀ σ',Ext σ σ' ow -> Std C Φ L' σ' -> σ'.g.cs = σ.g.cs -> Q () σ'.s):wpAny C.M Φ.A (storeName Φ.env x v') Q E σ.s:=by
 have H:=S.H
 rcases hk with hk | hk
 ·obtain ⟨m,hn,hr⟩:=S.F.ns
  refine wpAny_storeName_local hk hn (fun h' hn' hs=>?_) (by rw [S.F.kind]; rfl)
  have X:=zjb (t:=σ.s.toks + 1) S o1 (.inl rfl) hs (by obtain ⟨o,_,_,e,_⟩:=hn'; exact ⟨o,e⟩)
  refine k _ X ⟨⟨S.F.kind,S.F.glo,S.F.blt,⟨_,hn',fun y u q hy=>?_⟩,S.F.lfree,S.F.lcell,S.F.nfl,fun y hy=>?_,S.F.capart⟩,X.H,S.B,S.O⟩ rfl
  ·rcases u1 y u q with ⟨rfl,rfl⟩ | ⟨h,q⟩
   ·exact ⟨v',if_pos rfl,r⟩
   ·exact (hr y u q hy).imp fun _ z=>⟨(if_neg h).trans z.1,z.2⟩
  ·obtain ⟨c,w',a,b,r2⟩:=S.F.cell y hy
   refine ⟨c,w',a,?_,fun u q=>?_⟩
   ·obtain ⟨o,e1,e2⟩:=b
    exact ⟨o,hs.extBut _ _ (fun z=>zbg ⟨o,e1,e2⟩ hn z) e1,e2⟩
   ·rcases u1 y u q with ⟨rfl,rfl⟩ | ⟨h,q⟩
    ·rcases hy with hy | hy <;> cases hk.symm.trans hy
    ·exact r2 u q
 ·obtain ⟨c,w',hc,hi,hr⟩:=S.F.cell x (.inl hk)
  refine wpAny_storeName_cell S.F.kind hk hc hi fun h' hi' hs=>?_
  have X:=zjb (t:=σ.s.toks) S (o2 c hk hc) (.inr ⟨x,.inl hk,hc⟩) hs (by obtain ⟨o,e,q⟩:=hi'; exact ⟨o,e⟩)
  obtain ⟨m,hn,hr2⟩:=S.F.ns
  refine k _ X ⟨⟨S.F.kind,S.F.glo,S.F.blt,⟨m,?_,fun y u q hy=>?_⟩,S.F.lfree,S.F.lcell,S.F.nfl,fun y hy=>?_,S.F.capart⟩,X.H,S.B,S.O⟩ rfl
  ·have hcn:=zbg hi hn
   obtain ⟨o,es,ep,e1,e2⟩:=hn
   exact ⟨o,es,ep,hs.extBut _ _ (Ne.symm hcn) e1,e2⟩
  ·rcases u1 y u q with ⟨rfl,rfl⟩ | ⟨h,q⟩
   ·cases hk.symm.trans hy
   ·exact hr2 y u q hy
  ·by_cases h:y = x
   ·subst h
    refine ⟨c,some v',hc,hi',fun u q=>?_⟩
    rcases u1 y u q with ⟨_,rfl⟩ | ⟨h,_⟩
    ·exact ⟨v',rfl,r⟩
    ·exact absurd rfl h
   ·obtain ⟨c2,w2,a,b,r2⟩:=S.F.cell y hy
    refine ⟨c2,w2,a,?_,fun u q=>(u1 y u q).elim (fun z=>absurd z.1 h) fun z=>r2 u z.2⟩
    obtain ⟨o,e1,e2⟩:=b
    exact ⟨o,hs.extBut _ _ (fun z=>h (S.F.capart y x c2 hy (.inl hk) a (z ▸ hc))) e1,e2⟩
theorem z1l (S:Std C Φ L σ) {x:Str} {v:V} (hk:isL Φ.env x \/ (Φ.env.kindOf x = some .free /\ (x == ("__classdict__" : Str)) = false)) (e:L x = some v) {K:V -> List Cell -> Prop} (q:K v σ.g.cs) :
  Runs C Φ.A σ noOwn (loadName Φ.env x) VR K:=by
 rcases hk with (hk | hk) | ⟨hk,hn⟩
 ·obtain ⟨m,hn,r⟩:=S.F.ns
  obtain ⟨v',hm,r⟩:=r _ _ e hk
  exact Runs.still S.H (fun Q E k=>wpAny_loadName_local S.F.kind hk hn hm (k _)) (fun _=>r) q
 ·obtain ⟨c,w',hc,hi,hv⟩:=S.F.cell x (.inl hk)
  obtain ⟨v',rfl,r⟩:=hv _ e
  exact Runs.still S.H (fun Q E k=>wpAny_loadName_cell S.F.kind hk hc hi (k _)) (fun _=>r) q
 ·obtain ⟨c,w',hc,hi,hv⟩:=S.F.cell x (.inr hk)
  obtain ⟨v',rfl,r⟩:=hv _ e
  exact Runs.still S.H (fun Q E k=>wpAny_loadName_free S.F.kind hk hc hi (k _) hn) (fun _=>r) q
end Mine
end
section
namespace Mine
open PySem
noncomputable abbrev KV:=V -> List Cell -> Prop
noncomputable abbrev KB:=Bool -> List Cell -> Prop
noncomputable def bigN:Nat:=1766847064778384329583297500742918515827483896875618958121606201292619776
noncomputable def mulOk (a b:Int):Bool:=decide (a.natAbs < 9223372036854775808) || decide (b.natAbs < 9223372036854775808) || (decide (a.natAbs < bigN) && decide (b.natAbs < bigN))
noncomputable def small62 (j:Int):Prop:=-4611686018427387904 < j /\ j < 4611686018427387904
inductive BinR (c:Bool) (cs:List Cell) (K:KV):Operator -> V -> V -> Prop
 | addI {i j} (k:K (.int (i + j)) cs):BinR c cs K .Add (.int i) (.int j)
 | addS {x y} (h:x.length + y.length <= lim) (k:K (.str (x ++ y)) cs):BinR c cs K .Add (.str x) (.str y)
 | addL {a b xs ys} (ha:SeqR cs a false xs) (hb:SeqR cs b false ys) (k:listK c (xs ++ ys) cs K):BinR c cs K .Add a b
 | subI {i j} (k:K (.int (i - j)) cs):BinR c cs K .Sub (.int i) (.int j)
 | mulI {i j} (h:mulOk i j = true) (k:K (.int (i * j)) cs):BinR c cs K .Mult (.int i) (.int j)
 | mulS {x j} (h:x.length * j.toNat <= lim) (hj:small62 j) (k:K (.str (Txt.mul x j)) cs):BinR c cs K .Mult (.str x) (.int j)
 | mulL {xs j} (h:xs.length * j.toNat <= lim) (hj:small62 j) (k:listK c (List.replicate j.toNat xs).flatten cs K):BinR c cs K .Mult (.lst xs) (.int j)
 | fdivI {i j} (h:j ≠ 0 /\ j.natAbs < bigN) (k:K (.int (i.fdiv j)) cs):BinR c cs K .FloorDiv (.int i) (.int j)
 | modI {i j} (h:j ≠ 0) (k:K (.int (i.fmod j)) cs):BinR c cs K .Mod (.int i) (.int j)
 | powI {i j} (h:0 <= j /\ j <= 4000 /\ i.natAbs < bigN) (k:K (.int (i ^ j.toNat)) cs):BinR c cs K .Pow (.int i) (.int j)
 | shlI {i j} (h:0 <= j /\ j <= 4000 /\ i.natAbs < bigN) (k:K (.int (i * 2 ^ j.toNat)) cs):BinR c cs K .LShift (.int i) (.int j)
 | shrI {i j} (h:0 <= j) (k:K (.int (i.fdiv (2 ^ j.toNat))) cs):BinR c cs K .RShift (.int i) (.int j)
 | xorI {i j} (k:K (.int (Builtin.bitXor i j)) cs):BinR c cs K .BitXor (.int i) (.int j)
 | andI {i j} (k:K (.int (Builtin.bitAnd i j)) cs):BinR c cs K .BitAnd (.int i) (.int j)
 | orI {i j} (k:K (.int (Builtin.bitOr i j)) cs):BinR c cs K .BitOr (.int i) (.int j)
 | subB {i j} (k:K (.int ((if i = true then 1 else 0) - (if j = true then 1 else 0))) cs):BinR c cs K .Sub (.bool i) (.bool j)
inductive EqR (cs:List Cell):Nat -> V -> V -> Bool -> Prop
 | int (n i j):EqR cs n (.int i) (.int j) (decide (i = j))
 | str (n x y):EqR cs n (.str x) (.str y) (decide (x = y))
 | bool (n x y):EqR cs n (.bool x) (.bool y) (x == y)
 | seq {n a b k xs ys} (f:Nat -> Bool) (ha:SeqR cs a k xs) (hb:SeqR cs b k ys) (h:∀ j x y,xs[j]? = some x -> ys[j]? = some y -> EqR cs n x y (f j)) :
   EqR cs (n + 1) a b ((List.range (min xs.length ys.length)).all f && xs.length == ys.length)
structure Fnd (cs:List Cell) (xs:List V) (a:V) (f:Nat -> Bool):Prop where
 eq:∀ j x,xs[j]? = some x -> EqR cs 8 x a (f j)
 inj:∀ (g:Gh) (j k:Nat) (x z:V) (y:Value),xs[j]? = some x -> xs[k]? = some z -> VRel g x y -> VRel g z y -> f j = f k
inductive IsR:V -> V -> Bool -> Prop
 | typ (a b):IsR (.typ a) (.typ b) (a == b)
 | bool (a b):IsR (.bool a) (.bool b) (a == b)
 | none:IsR .none .none true
 | ref (l):IsR (.ref l) .none false
 | str (l):IsR (.str l) .none false
noncomputable def dctGet (x:Str):List Str -> List V -> Option V :=
 List.rec (fun _=>none) fun k _ ih vs=>List.rec none (fun v vs _=>if k = x then some v else ih vs) vs
inductive CmpR (cs:List Cell) (K:KB):CmpOp -> V -> V -> Prop
 | eq {a b r} (h:EqR cs 9 a b r) (k:K r cs):CmpR cs K .Eq a b
 | ne {a b r} (h:EqR cs 9 a b r) (k:K (!r) cs):CmpR cs K .NotEq a b
 | lt {i j} (k:K (decide (i < j)) cs):CmpR cs K .Lt (.int i) (.int j)
 | le {i j} (k:K (decide (i <= j)) cs):CmpR cs K .LtE (.int i) (.int j)
 | gt {i j} (k:K (decide (j < i)) cs):CmpR cs K .Gt (.int i) (.int j)
 | ge {i j} (k:K (decide (j <= i)) cs):CmpR cs K .GtE (.int i) (.int j)
 | is {a b r} (h:IsR a b r) (k:K r cs):CmpR cs K .Is a b
 | isNot {a b r} (h:IsR a b r) (k:K (!r) cs):CmpR cs K .IsNot a b
 | inS {x y} (k:K (Txt.contains y x) cs):CmpR cs K .In (.str x) (.str y)
 | inD {x ks vs} (k:K (dctGet x ks vs).isSome cs):CmpR cs K .In (.str x) (.dct ks vs)
 | inL {a o b xs} (f:Nat -> Bool) (ho:SeqR cs o b xs) (h:Fnd cs xs a f) (k:K ((List.range xs.length).any f) cs):CmpR cs K .In a o
 | notInL {a o b xs} (f:Nat -> Bool) (ho:SeqR cs o b xs) (h:Fnd cs xs a f) (k:K (!(List.range xs.length).any f) cs):CmpR cs K .NotIn a o
noncomputable def truthK (cs:List Cell) (v:V) (K:KB):Prop :=
 V.rec (motive_1:=fun _=>Prop) (motive_2:=fun _=>Unit) (K false cs) (fun b=>K b cs) (fun i=>K (decide (i ≠ 0)) cs) (fun x=>K (decide (x.length ≠ 0)) cs) (fun _=>False) (fun _=>False) (fun _=>False)
  (fun l=>∃ xs,cs[l]? = some (.list xs) /\ K (!xs.isEmpty) cs) (fun xs _=>K (!xs.isEmpty) cs) (fun xs _=>K (!xs.isEmpty) cs) (fun _ _ _=>False) (fun _ _ _=>False) (fun _ _ _=>False) () (fun _ _ _ _=>()) v
inductive UnR (cs:List Cell) (K:KV):UnaryOp -> V -> Prop
 | neg {i} (k:K (.int (-i)) cs):UnR cs K .USub (.int i)
 | inv {i} (k:K (.int (-i - 1)) cs):UnR cs K .Invert (.int i)
noncomputable def idxV {α:Type} (xs:List α) (i:Int):Option α :=
 if 0 <= i then xs[i.toNat]? else if 0 <= i + xs.length then xs[(i + xs.length).toNat]? else none
noncomputable def dctiGet (x:Int):List Int -> List V -> Option V :=
 List.rec (fun _=>none) fun k _ ih vs=>List.rec none (fun v vs _=>if k = x then some v else ih vs) vs
inductive ItemR (cs:List Cell):V -> V -> V -> Prop
 | str {x i c} (h:idxV x.cps.toList i = some c):ItemR cs (.str x) (.int i) (.str ⟨#[c]⟩)
 | dct {ks vs x v} (h:dctGet x ks vs = some v):ItemR cs (.dct ks vs) (.str x) v
 | dcti {ks vs x v} (h:dctiGet x ks vs = some v):ItemR cs (.dcti ks vs) (.int x) v
 | seq {o b xs i v} (ho:SeqR cs o b xs) (h:idxV xs i = some v):ItemR cs o (.int i) v
noncomputable def sliceL {α:Type} (xs:List α) (lo hi st:Option Int):List α :=
 (sliceRange (sliceBounds lo hi st xs.length).1 (sliceBounds lo hi st xs.length).2.1 (sliceBounds lo hi st xs.length).2.2).filterMap (xs[·]?)
inductive OptR:V -> Option Int -> Prop
 | none:OptR .none none
 | int (i):OptR (.int i) (some i)
inductive SliceR (c:Bool) (cs:List Cell) (K:KV):V -> Option Int -> Option Int -> Option Int -> Prop
 | str {x l h} (k:K (.str (Txt.slice x l h)) cs):SliceR c cs K (.str x) l h none
 | lst {o xs l h s} (ho:SeqR cs o false xs) (hs:s ≠ some 0) (k:listK c (sliceL xs l h s) cs K):SliceR c cs K o l h s
inductive Src where
 | items (xs:List V)
 | cell (l i:Nat)
 | enumc (l i:Nat)
noncomputable def charsV (x:Str):List V:=x.cps.toList.map fun c=>.str ⟨#[c]⟩
noncomputable def rangeFrom (c:Int) (n:Nat):Int -> List V:=Nat.rec (fun _=>[]) (fun _ ih x=>.int x :: ih (x + c)) n
noncomputable def rangeV (a b c:Int):List V:=rangeFrom c (Builtin.Range.rangeSize a b c).toNat a
noncomputable def enumV (xs:List V):Nat -> List V:=List.rec (fun _=>[]) (fun x _ ih k=>.tup [.int (k:Nat),x] :: ih (k + 1)) xs
inductive NextR (cs:List Cell):Src -> V -> Src -> Prop
 | items (x xs):NextR cs (.items (x :: xs)) x (.items xs)
 | cell {l i xs x} (h:cs[l]? = some (.list xs)) (hx:xs[i]? = some x):NextR cs (.cell l i) x (.cell l (i + 1))
 | enumc {l i xs x} (h:cs[l]? = some (.list xs)) (hx:xs[i]? = some x):NextR cs (.enumc l i) (.tup [.int (i:Nat),x]) (.enumc l (i + 1))
inductive EndR (cs:List Cell):Src -> Prop
 | items:EndR cs (.items [])
 | cell {l i xs} (h:cs[l]? = some (.list xs)) (hx:xs[i]? = none):EndR cs (.cell l i)
 | enumc {l i xs} (h:cs[l]? = some (.list xs)) (hx:xs[i]? = none):EndR cs (.enumc l i)
inductive SrcR (cs:List Cell):V -> Src -> Prop
 | tup (xs):SrcR cs (.tup xs) (.items xs)
 | lst (xs):SrcR cs (.lst xs) (.items xs)
 | str {x} (h:x.cps.all (· < 128) = true):SrcR cs (.str x) (.items (charsV x))
 | strW {x} (h:x.cps.all (· < 128) = false):SrcR cs (.str x) (.items (charsV x))
 | rng {a b c} (h:Builtin.Range.small a b c = true /\ c ≠ 0):SrcR cs (.rng a b c) (.items (rangeV a b c))
 | cell {l xs} (h:cs[l]? = some (.list xs)):SrcR cs (.ref l) (.cell l 0)
inductive EnumR (cs:List Cell):V -> Src -> Prop
 | lst (xs):EnumR cs (.lst xs) (.items (enumV xs 0))
 | cell {l xs} (h:cs[l]? = some (.list xs)):EnumR cs (.ref l) (.enumc l 0)
noncomputable def textOf (i:Int):Str:=Str.ofString (toString i)
noncomputable def maxI (r:List Int):Int -> Int:=List.rec (fun a=>a) (fun b _ ih a=>ih (if b > a then b else a)) r
inductive KindR (cs:List Cell):V -> String -> Prop
 | str (x):KindR cs (.str x) "str"
 | int (x):KindR cs (.int x) "int"
 | bool (x):KindR cs (.bool x) "bool"
 | seq {v b xs} (h:SeqR cs v b xs):KindR cs v (Bool.rec "list" "tuple" b)
noncomputable abbrev Kws:=List (Str × V)
noncomputable abbrev Spec:=List V -> Kws -> List Cell -> KV -> Prop
structure Prm where
 globs:List (Str × V)
 fn:Addr -> Spec
 cls:Addr
 meths:List (Str × Addr)
 pats:List (Addr × (Nat -> Bool))
inductive CallR (P:Prm) (cs:List Cell) (K:KV):V -> List V -> Kws -> Prop
 | lenS {x} (k:K (.int (x.length:Nat)) cs):CallR P cs K (.bi "len") [.str x] []
 | lenL {v b xs} (h:SeqR cs v b xs) (k:K (.int (xs.length:Nat)) cs):CallR P cs K (.bi "len") [v] []
 | ord {c} (k:K (.int (c:Nat)) cs):CallR P cs K (.bi "ord") [.str ⟨#[c]⟩] []
 | chr {i} (h:0 <= i /\ i < 0x110000) (k:K (.str ⟨#[i.toNat]⟩) cs):CallR P cs K (.bi "chr") [.int i] []
 | max {v a} {r:List Int} (h:SeqR cs v false ((a :: r).map .int)) (k:K (.int (maxI r a)) cs):CallR P cs K (.bi "max") [v] []
 | max2 {a b} (k:K (.int (max a b)) cs):CallR P cs K (.bi "max") [.int a,.int b] []
 | min2 {a b} (k:K (.int (min a b)) cs):CallR P cs K (.bi "min") [.int a,.int b] []
 | any {v} {xs:List Bool} (h:SeqR cs v false (xs.map .bool)) (k:K (.bool (xs.any id)) cs):CallR P cs K (.bi "any") [v] []
 | all {v} {xs:List Bool} (h:SeqR cs v false (xs.map .bool)) (k:K (.bool (xs.all id)) cs):CallR P cs K (.bi "all") [v] []
 | divmod {a b} (h:b ≠ 0 /\ b.natAbs < bigN) (k:K (.tup [.int (a.fdiv b),.int (a.fmod b)]) cs):CallR P cs K (.bi "divmod") [.int a,.int b] []
 | strI {i} (h:i.natAbs < bigN) (k:K (.str (textOf i)) cs):CallR P cs K (.typ "str") [.int i] []
 | intB {b} (k:K (.int (if b = true then 1 else 0)) cs):CallR P cs K (.typ "int") [.bool b] []
 | rng1 {a} (k:K (.rng 0 a 1) cs):CallR P cs K (.typ "range") [.int a] []
 | rng2 {a b} (k:K (.rng a b 1) cs):CallR P cs K (.typ "range") [.int a,.int b] []
 | listR {a b c} {n:Nat} (h:Builtin.Range.small a b c = true) (hn:Builtin.Range.rangeSize a b c = n) (hl:n <= lim) (k:K (.lst (rangeFrom c n a)) cs):CallR P cs K (.typ "list") [.rng a b c] []
 | type {v n} (h:KindR cs v n) (k:K (.typ n) cs):CallR P cs K (.typ "type") [v] []
 | fn {a args kws} (h:P.fn a args kws cs K):CallR P cs K (.adr a) args kws
inductive Meth where
 | append | extend | reverse | lower | get | bits | search | index | count | join
noncomputable def Meth.name:Meth -> Str:=Meth.rec (Str.ofString "append") (Str.ofString "extend") (Str.ofString "reverse") (Str.ofString "lower") (Str.ofString "get") (Str.ofString "bit_length") (Str.ofString "search") (Str.ofString "index") (Str.ofString "count") (Str.ofString "join")
inductive HasM (P:Prm) (cs:List Cell):Meth -> V -> Prop
 | append {l xs} (h:cs[l]? = some (.list xs)):HasM P cs .append (.ref l)
 | extend {l xs} (h:cs[l]? = some (.list xs)):HasM P cs .extend (.ref l)
 | reverse {l xs} (h:cs[l]? = some (.list xs)):HasM P cs .reverse (.ref l)
 | lower (x):HasM P cs .lower (.str x)
 | get (ks vs):HasM P cs .get (.dct ks vs)
 | bits (i):HasM P cs .bits (.int i)
 | search {a bad} (h:P.pats.lookup a = some bad):HasM P cs .search (.adr a)
 | index {o xs} (h:SeqR cs o false xs):HasM P cs .index o
 | count {o xs} (h:SeqR cs o false xs):HasM P cs .count o
 | join (x):HasM P cs .join (.str x)
inductive MethR (P:Prm) (cs:List Cell) (K:KV):Meth -> V -> List V -> Prop
 | append {l xs v} (h:cs[l]? = some (.list xs)) (hl:xs.length < lim) (k:K .none (cs.set l (.list (xs ++ [v])))):MethR P cs K .append (.ref l) [v]
 | reverse {l xs} (h:cs[l]? = some (.list xs)) (k:K .none (cs.set l (.list xs.reverse))):MethR P cs K .reverse (.ref l) []
 | lower {x} (h:(Txt.lower x).length <= lim) (k:K (.str (Txt.lower x)) cs):MethR P cs K .lower (.str x) []
 | get {ks vs x d} (k:K ((dctGet x ks vs).getD d) cs):MethR P cs K .get (.dct ks vs) [.str x,d]
 | bits {i} (k:K (.int (Builtin.Int.intBits i:Nat)) cs):MethR P cs K .bits (.int i) []
 | search {a bad x} (h:P.pats.lookup a = some bad) (hb:x.cps.toList.any bad = false) (k:K .none cs):MethR P cs K .search (.adr a) [.str x]
 | join1 {sep o x} (ho:SeqR cs o false [.str x]) (k:K (.str x) cs):MethR P cs K .join (.str sep) [o]
 | extendL {l xs o ys} (h:cs[l]? = some (.list xs)) (ho:SeqR cs o false ys) (hl:xs.length + ys.length <= lim) (k:K .none (cs.set l (.list (xs ++ ys)))):MethR P cs K .extend (.ref l) [o]
 | index {o xs a} (f:Nat -> Bool) (j:Nat) (ho:SeqR cs o false xs) (h:Fnd cs xs a f) (hj:j < xs.length) (hit:f j = true) (hno:∀ m,m < j -> f m = false) (k:K (.int j) cs):MethR P cs K .index o [a]
 | count {o xs a} (f:Nat -> Bool) (ho:SeqR cs o false xs) (h:Fnd cs xs a f) (k:K (.int ((List.range xs.length).countP f:Nat)) cs):MethR P cs K .count o [a]
inductive ClsR (cs:List Cell):V -> Addr -> Prop
 | mk {l c d v} (h:cs[l]? = some (.inst c d)) (hd:cs[d]? = some (.attr v)):ClsR cs (.ref l) c
noncomputable def notBi (v:V):Prop:=V.rec (motive_1:=fun _=>Prop) (motive_2:=fun _=>Unit) True (fun _=>True) (fun _=>True) (fun _=>True) (fun _=>False) (fun _=>True) (fun _=>True) (fun _=>True) (fun _ _=>True) (fun _ _=>True) (fun _ _ _=>True) (fun _ _ _=>True) (fun _ _ _=>True) () (fun _ _ _ _=>()) v
inductive AttrR (P:Prm) (cs:List Cell):V -> V -> Prop
 | mk {l d v} (h:cs[l]? = some (.inst P.cls d)) (hd:cs[d]? = some (.attr (some v))) (hv:notBi v):AttrR P cs (.ref l) v
end Mine
end
section
namespace Mine
open PySem PySem.SeqAt
theorem zqf {c:Value} {vs us:List Value} {e1 e2:Nat} (h:(some ⟨c,none,.seq (List.toArray vs) e1,#[]⟩:Option Obj) = some ⟨c,none,.seq (List.toArray us) e2,#[]⟩):vs = us:=by
 injection h with h
 injection h with _ _ h _
 injection h with h _
 injection h
theorem SeqAt'.isList {g:Gh} {h:Heap} {l:Addr} {vs:List Value} {ep:Nat} (e:h.get? l = some (listO vs ep)):h.IsList l vs.toArray:=⟨_,e,rfl,_,rfl⟩
theorem zij {g:Gh} {h:Heap} {l:Addr} {vs:List Value} {ep:Nat} (e:h.get? l = some (tupO vs ep)):h.IsTuple l vs.toArray:=⟨_,e,rfl,_,rfl⟩
theorem zw3 {g:Gh} {h:Heap} (H:HRel g h) {n:Nat} {a b:V} {r:Bool} (e:EqR g.cs n a b r):∀ {w:Value},VRel g a w -> VRel g b w -> r = true:=by
 induction e with
 | int n i j=>intro w ra rb; obtain ⟨t,rfl⟩:=ra.inv; obtain ⟨u,q⟩:=rb.inv; injection q with q; exact decide_eq_true q
 | str n x y=>intro w ra rb; obtain ⟨t,rfl,_⟩:=ra.inv; obtain ⟨u,q,_⟩:=rb.inv; injection q with q; exact decide_eq_true q
 | bool n x y=>intro w ra rb; have ea:=ra.inv; have eb:=rb.inv; cases ea; injection eb with eb; rw [eb]; exact beq_self_eq_true _
 | @seq n a b k xs ys f ha hb h ih =>
  intro w ra rb
  cases zav H ha ra with
  | mk l vs ep e1 r1 _ =>
   cases zav H hb rb with
   | mk _ us ep2 e2 r2 _ =>
    cases zqf (e1.symm.trans e2)
    have ll:xs.length = ys.length:=r1.length.symm.trans r2.length
    rw [Bool.and_eq_true]
    refine ⟨List.all_eq_true.mpr fun j hj=>?_,beq_iff_eq.mpr ll⟩
    rw [ll,Nat.min_self] at hj
    have hj2:=List.mem_range.mp hj
    have hx:=List.getElem?_eq_getElem (ll ▸ hj2:j < xs.length)
    have hy:=List.getElem?_eq_getElem hj2
    obtain ⟨v,hv,rv⟩:=r1.get hx
    obtain ⟨u,hu,ru⟩:=r2.get hy
    cases hv.symm.trans hu
    exact ih _ _ _ hx hy rv ru
structure EqBoth (A:Around) (s:Shared) (a' b':Value) (r:Bool):Prop where
 at_:EqAt A s a' b' r
 eq:RcAt A s a' b' r
 ne:RcNeAt A s a' b' (!r)
theorem zsm {s:Shared} {g:Gh} (H:HRel g s.heap) {n:Nat} {a b:V} {r:Bool} (e:EqR g.cs n a b r):∀ {A:Around} {a' b':Value},VRel g a a' -> VRel g b b' -> A.units + n < cLine -> EqBoth A s a' b' r:=by
 induction e with
 | int n i j=>intro A a' b' ra rb _; obtain ⟨t,rfl⟩:=ra.inv; obtain ⟨u,rfl⟩:=rb.inv; exact ⟨EqAt.int_int _ _ _ _,RcAt.int_int _ _ _ _,RcNeAt.int_int _ _ _ _⟩
 | str n x y=>intro A a' b' ra rb _; obtain ⟨t,rfl,_⟩:=ra.inv; obtain ⟨u,rfl,_⟩:=rb.inv; exact ⟨EqAt.str_str _ _ _ _,RcAt.str_str _ _ _ _,RcNeAt.str_str _ _ _ _⟩
 | bool n x y=>intro A a' b' ra rb _; cases ra.inv; cases rb.inv; exact ⟨EqAt.bool_bool _ _,RcAt.bool_bool _ _,RcNeAt.bool_bool _ _⟩
 | @seq n a b k xs ys f ha hb h ih =>
  intro A a' b' ra rb hu
  have same:=fun w=>zw3 (w:=w) H (.seq f ha hb h)
  have hu0:A.units < cLine:=Nat.lt_of_le_of_lt (Nat.le_add_right _ _) hu
  cases zav H ha ra with
  | mk l vs ep e1 r1 _ =>
   cases zav H hb rb with
   | mk l2 us ep2 e2 r2 _ =>
    have he:∀ j (h1:j < vs.toArray.size) (h2:j < us.toArray.size),EqAt A.in1 s vs.toArray[j] us.toArray[j] (f j):=fun j h1 h2=>by
     have k1:vs[j]? = some vs.toArray[j]:=by simp at h1; simp [h1]
     have k2:us[j]? = some us.toArray[j]:=by simp at h2; simp [h2]
     obtain ⟨x,hx,rx⟩:=r1.get' k1
     obtain ⟨y,hy,ry⟩:=r2.get' k2
     exact (ih j x y hx hy rx ry (by rw [Nat.add_comm n 1,<- Nat.add_assoc] at hu; exact hu)).at_
    have main:RcAt A s (.ref l) (.ref l2) ((List.range (min xs.length ys.length)).all f && xs.length == ys.length) /\ RcNeAt A s (.ref l) (.ref l2) (!((List.range (min xs.length ys.length)).all f && xs.length == ys.length)):=by
     rw [<- r1.length,<- r2.length]
     cases k with
     | true=>exact ⟨RcAt.tuples (zij (g:=g) e1) (zij (g:=g) e2) hu0 he,RcNeAt.tuples (zij (g:=g) e1) (zij (g:=g) e2) hu0 he⟩
     | false =>
      have i1:=SeqAt'.isList (g:=g) e1
      have i2:=SeqAt'.isList (g:=g) e2
      by_cases hsz:vs.length = us.length
      ·rw [hsz,Nat.min_self,beq_self_eq_true,Bool.and_true,<- hsz]
       exact ⟨RcAt.lists i1 i2 hsz hu0 he,RcNeAt.lists i1 i2 hsz hu0 he⟩
      ·rw [beq_false_of_ne hsz,Bool.and_false]
       have hb:(vs.toArray.size != us.toArray.size) = true:=bne_iff_ne.mpr hsz
       exact ⟨RcAt.lists_lengths i1 i2 hb hu0,RcNeAt.lists_lengths i1 i2 hb hu0⟩
    refine ⟨?_,main.1,main.2⟩
    by_cases hll:l = l2
    ·subst hll; rw [same _ ra rb]; exact EqAt.same _
    ·exact EqAt.of_refs hll main.1
variable {C:Cx} {A:Around} {σ:St} {cs:List Cell} {d:Nat}
theorem zhi {v:V} {v':Value} {K:KB} (H:HRel σ.g σ.s.heap) (r:VRel σ.g v v') (e:truthK σ.g.cs v K) {Q:Bool -> Shared -> Prop} {E:Value -> Shared -> Prop} (k:∀ b tk,K b σ.g.cs -> Q b { σ.s with toks:=tk }):wpAny C.M A (PySem.truthy v') Q E σ.s:=by
 have hl0:(lim:Int) < 2 ^ 63:=by decide
 have seq:∀ {b xs},SeqR σ.g.cs v b xs -> K (!xs.isEmpty) σ.g.cs -> wpAny C.M A (PySem.truthy v') Q E σ.s:=by
  intro b xs hs q
  cases zav H hs r with
  | mk a vs ep e rx hl =>
   have eb:(!vs.toArray.isEmpty) = !xs.isEmpty:=by
    cases rx <;> rfl
   have hsz:(vs.toArray.size:Int) < 2 ^ 63:=Int.lt_of_le_of_lt (by rw [<- rx.length] at hl; exact Int.ofNat_le.mpr hl) hl0
   cases b with
   | true=>exact PyProof.Rows.truthy_tuple ⟨_,e,rfl,_,rfl⟩ hsz (by rw [eb]; exact k _ _ q)
   | false=>exact wpAny_truthy_list ⟨_,e,rfl,_,rfl⟩ hsz (by rw [eb]; exact k _ _ q)
 cases v with
 | none=>cases r.inv; exact PyProof.Rows.truthy_none (k _ _ e)
 | bool b=>cases r.inv; exact wpAny_truthy_bool (k _ _ e)
 | int i =>
  obtain ⟨t,rfl⟩:=r.inv
  refine PySem.P.truthy_int ?_
  have:(i != 0) = decide (i ≠ 0):=by rw [bne,Bool.eq_iff_iff]; simp
  rw [this]; exact k _ _ e
 | str x =>
  obtain ⟨t,rfl,hx⟩:=r.inv
  refine PySem.P.truthy_str (Int.not_le.mpr (Int.lt_of_le_of_lt (Int.ofNat_le.mpr hx) hl0)) ?_
  have:((x.length:Int) != 0) = decide (x.length ≠ 0):=by rw [bne,Bool.eq_iff_iff]; simp
  rw [this]; exact k _ _ e
 | tup xs=>exact seq (.tup xs) e
 | lst xs=>exact seq (.lst xs) e
 | ref l=>obtain ⟨xs,h,q⟩:=e; exact seq (.ref h) q
 | _=>exact e.elim
theorem zvs {a b:Int} (h:mulOk a b = true):IntMulOk a b:=by
 unfold mulOk at h
 simp only [Bool.or_eq_true,decide_eq_true_eq,Bool.and_eq_true] at h
 rcases h with (h | h) | ⟨h1,h2⟩
 ·exact IntMulOk.of_left (intBits_le_64 (by omega) (by omega))
 ·exact IntMulOk.of_right (intBits_le_64 (by omega) (by omega))
 ·have eb:bigN = 2 ^ 240:=by decide +kernel
  rw [eb] at h1 h2
  exact IntMulOk.of_le (intBits_le_iff.mpr h1) (intBits_le_iff.mpr h2) (by decide)
theorem znf {a:Int} (h:a.natAbs < bigN):Builtin.Int.intBits a <= 240:=by
 have eb:bigN = 2 ^ 240:=by decide +kernel
 rw [eb] at h
 exact intBits_le_iff.mpr h
theorem zls {a:Int} (h:a.natAbs < bigN):a.natAbs.log2 < 240:=by
 by_cases h0:a.natAbs = 0
 ·rw [h0]; decide
 ·exact (Nat.log2_lt h0).mpr (Nat.lt_of_lt_of_eq h (by decide +kernel:bigN = 2 ^ 240))
theorem zne {a b:Int} (h:b.natAbs < bigN):Builtin.divisionGoesByPylong a b = false:=PyProof.noPylong_of_log2 (Nat.lt_trans (zls h) (by decide))
theorem zpx {x:Str} {j:Int} (h:x.length * j.toNat <= lim) (hj:small62 j):MulOk x j:=by
 have hl:lim = 8388608:=rfl
 obtain ⟨hj1,hj2⟩:=hj
 refine ⟨Bool.or_eq_false_iff.mpr ⟨decide_eq_false (by lia),decide_eq_false (by lia)⟩,fun h1 h2=>?_,fun h1 h2=>?_⟩
 ·intro hc
  have hj0:0 < j:=Int.not_lt.mp ‹_›
  have h3:(x.length:Int) * j = ((x.length * j.toNat:Nat):Int):=by rw [Int.natCast_mul,Int.toNat_of_nonneg (Int.le_of_lt hj0)]
  have h5:=Int.lt_mul_of_ediv_lt hj0 hc
  rw [h3] at h5
  lia
 ·exact decide_eq_false (Nat.not_lt.mpr (Nat.le_trans h zax))
theorem zpy {x:Str} {j:Int} (h:x.length * j.toNat <= lim):(Txt.mul x j).length <= lim:=by
 unfold Txt.mul
 split
 ·exact Nat.zero_le _
 ·split
  ·rename_i h1 h2
   simp only [Bool.or_eq_true,beq_iff_eq] at h2
   rcases h2 with h2 | h2
   ·subst h2; simpa using h
   ·rw [h2]; exact Nat.zero_le _
  ·have key:∀ (n:Nat) (acc:Array Nat),((List.replicate n x.cps).foldl (· ++ ·) acc).size = acc.size + n * x.cps.size:=by
    intro n
    induction n with
    | zero=>intro acc; rw [Nat.zero_mul]; rfl
    | succ n ih=>intro acc; rw [List.replicate_succ,List.foldl_cons,ih,Array.size_append,Nat.succ_mul,Nat.add_assoc,Nat.add_comm x.cps.size]
   show ((List.replicate j.toNat x.cps).foldl (· ++ ·) #[]).size <= lim
   rw [key,Nat.mul_comm]
   exact Nat.le_trans (Nat.le_of_eq (Nat.zero_add _)) h
theorem zsb (vs:List Value) (n:Nat):∀ (acc:List Value),(List.replicate n vs.toArray).foldl (fun x1 x2=>x1 ++ x2) acc.toArray = (acc ++ (List.replicate n vs).flatten).toArray:=by
 induction n with
 | zero=>intro acc; rw [List.replicate_zero,List.replicate_zero,List.flatten_nil,List.append_nil]; rfl
 | succ n ih =>
  intro acc
  rw [List.replicate_succ,List.replicate_succ,List.foldl_cons,List.flatten_cons,List.append_toArray,ih,List.append_assoc]
theorem zk3 {g:Gh} {xs:List V} {vs:List Value} (r:VRels g xs vs) (n:Nat):VRels g (List.replicate n xs).flatten (List.replicate n vs).flatten:=by
 induction n with
 | zero=>exact .nil
 | succ n ih=>rw [List.replicate_succ,List.replicate_succ,List.flatten_cons,List.flatten_cons]; exact r.append ih
theorem zq8 {l:Addr} {vs:List Value} {k:Nat} {x:Int} {u:Tok} {s:Shared} {M:Cx} {Q:Value -> Shared -> Prop} {E:Value -> Shared -> Prop}
  (hl:s.heap.get? l = some (listO vs k)) (hj:small62 x) (hsz:vs.length * x.toNat <= 2 ^ 24)
  (h:Q (.ref s.heap.objs.size) { s with heap:=s.heap.push (listO (List.replicate x.toNat vs).flatten 0) }) :
  wpAny C.M A (binaryOp .Mult (.ref l) (.int x u)) Q E s:=by
 have e:List.foldl (fun x1 x2=>x1 ++ x2) #[] (List.replicate (if vs.toArray.isEmpty = true then 0 else x.toNat) vs.toArray) = (List.replicate x.toNat vs).flatten.toArray:=by
  cases vs with
  | nil =>
   have:(List.replicate x.toNat ([]:List Value)).flatten = []:=by rw [List.flatten_replicate_nil]
   rw [this]; rfl
  | cons v vs=>exact zsb (v :: vs) x.toNat []
 have hsz':vs.toArray.size * x.toNat <= 2 ^ 24:=hsz
 obtain ⟨hlo,hhi⟩:=hj
 refine wpAny_binaryOp_repeat_ref (T := "list") (U := "int") (by decide) ⟨_,hl,rfl⟩ (fun s'=>typeIs_int s' x u) noFill_list_mul F.fills_int_mul F.slot_int_rmul repeat_list F.slot_int_index.lookup
  (call_meets F.slot_int_rmul (typeIs_int s x u) F.entry_int_rmul (F.args_int_rmul_2 _ _) (int___rmul___int_list x u l vs.toArray k)
   ⟨hl,rfl,⟨_,hl,rfl⟩,call_meets F.slot_list_mul ⟨_,hl,rfl⟩ F.entry_list_mul (F.args_list_mul_2 _ _)
    (AutoListH.list___mul___list_int_3 l vs.toArray k x u (by simp [Builtin.List.listFitsIndex]; lia) (by lia) (by simp [Builtin.List.listTooLong,sizeLine] at *; exact Nat.le_trans ‹_› (by decide)))
    ⟨hl,?_⟩⟩)
 show Q _ { s with heap:=s.heap.push _ }
 rw [e]
 exact h
theorem int2 {op:Operator} {i j r:Int} {a' b':Value} {K:KV} (H:HRel σ.g σ.s.heap) (ra:VRel σ.g (.int i) a') (rb:VRel σ.g (.int j) b')
  (h:∀ t u (Q:Value -> Shared -> Prop) E,(∀ v tk,Q (.int r v) { σ.s with toks:=tk }) -> wpAny C.M A (binaryOp op (.int i t) (.int j u)) Q E σ.s) (q:K (.int r) σ.g.cs):Runs C A σ noOwn (binaryOp op a' b') VR K:=by
 obtain ⟨t,rfl⟩:=ra.inv; obtain ⟨u,rfl⟩:=rb.inv
 exact fun Q E k=>h t u Q E fun v tk=>k _ _ (σ.up σ.s.heap tk σ.g) (Ext.tok H) (.int _ _) q
theorem zyw {c:Bool} {op:Operator} {a b:V} {a' b':Value} {K:KV} (e:BinR c σ.g.cs K op a b) (H:HRel σ.g σ.s.heap) (ra:VRel σ.g a a') (rb:VRel σ.g b b'):Runs C A σ noOwn (binaryOp op a' b') VR K:=by
 cases e with
 | addI q=>exact int2 H ra rb (fun t u Q E k=>PyProof.Rows.add_int (k _ _)) q
 | addS h q =>
  obtain ⟨t,rfl,_⟩:=ra.inv; obtain ⟨u,rfl,_⟩:=rb.inv
  exact fun Q E k=>SB.add (fun t' tk=>k _ _ (σ.up σ.s.heap tk σ.g) (Ext.tok H) (.str _ _ (Nat.le_trans (Nat.le_of_eq (Str.length_append ..)) h)) q) (Nat.le_trans h zax)
 | addL ha hb q =>
  cases zav H ha ra with
  | mk l1 vs ep e1 r1 _ =>
   cases zav H hb rb with
   | mk l2 us ep2 e2 r2 _ =>
    have hz:=q.1
    rw [List.length_append,<- r1.length,<- r2.length] at hz
    exact Runs.mkL H (r1.append r2) q fun Q E k=>PySem.P.add_list e1 e2 (by have:=k σ.s.toks; rw [listO,<- List.append_toArray] at this; exact this) (Nat.le_trans hz zax)
 | subI q=>exact int2 H ra rb (fun t u Q E k=>PyProof.Rows.sub_int' (k _ _)) q
 | mulI h q=>exact int2 H ra rb (fun t u Q E k=>PyProof.Rows.mul_int (k _ _) (zvs h)) q
 | mulS h hj q =>
  obtain ⟨t,rfl,_⟩:=ra.inv; obtain ⟨u,rfl⟩:=rb.inv
  exact fun Q E k=>SB.mul (zpx h hj) fun t' tk=>k _ _ (σ.up σ.s.heap tk σ.g) (Ext.tok H) (.str _ _ (zpy h)) q
 | mulL h hj q =>
  obtain ⟨u,rfl⟩:=rb.inv
  cases zav H (.lst _) ra with
  | mk l1 vs ep e1 r1 _ =>
   rw [<- r1.length] at h
   exact Runs.mkL H (zk3 r1 _) q fun Q E k=>zq8 (C:=C) (M:=C) e1 hj (Nat.le_trans h (by decide)) (k σ.s.toks)
 | fdivI h q=>exact int2 H ra rb (fun t u Q E k=>PyProof.Rows.floordiv_int h.1 (k _ _) (.inl (zne h.2))) q
 | modI h q=>exact int2 H ra rb (fun t u Q E k=>PyProof.Rows.mod_int' h (k _ _)) q
 | powI h q=>exact int2 H ra rb (fun t u Q E k=>PyProof.Rows.pow_int h.1 (Int.le_trans (Int.mul_le_mul (Int.ofNat_le.mpr (znf h.2.2)) h.2.1 h.1 (by decide)) (by decide)) (k _ _)) q
 | shlI h q=>exact int2 H ra rb (fun t u Q E k=>PyProof.Rows.lshift_int h.1 (Int.le_trans (Int.add_le_add (Int.ofNat_le.mpr (znf h.2.2)) h.2.1) (by decide)) (k _ _)) q
 | shrI h q=>exact int2 H ra rb (fun t u Q E k=>PyProof.Rows.rshift_int h (k _ _)) q
 | xorI q=>exact int2 H ra rb (fun t u Q E k=>PyProof.Rows.xor_int (k _ _)) q
 | andI q=>exact int2 H ra rb (fun t u Q E k=>PyProof.Rows.and_int (k _ _)) q
 | orI q=>exact int2 H ra rb (fun t u Q E k=>PyProof.Rows.or_int (k _ _)) q
 | subB q =>
  cases ra.inv; cases rb.inv
  exact Runs.still H (fun Q E k=>PyProof.Rows.sub_bool (k _)) (fun _=>.int _ _) q
end Mine
end
section
namespace Mine
open PySem PySem.SeqAt
variable {C:Cx} {A:Around} {σ:St} {cs:List Cell} {d:Nat}
noncomputable def Holds (g:Gh) (ks:List Str) (vs:List V) (f:Str -> Option Value):Prop:=∀ x,Option.rec (f x = none) (fun v=>∃ v',f x = some v' /\ VRel g v v') (dctGet x ks vs)
theorem zxa {prog:Program} {w:World} {g:Gh} {ks:List Str}:∀ {vs:List V} {es:List DictEntry},All2 (StrKey g.pr) ks es -> VRels g vs (es.map (·.val)) -> Holds g ks vs (findBy (strKind prog w).is es.toArray):=by
 induction ks with
 | nil=>intro vs es hk r x; cases hk.nil_of; rfl
 | cons k ks ih =>
  intro vs es hk r x
  obtain ⟨e,es',rfl,⟨t,he,_⟩,hk'⟩:=hk.cons_of
  cases r with
  | @cons v _ vs _ h r =>
   obtain ⟨eh,ek,ev⟩:=e
   cases he
   have is:(strKind prog w).is x (.str k t) = (k == x):=rfl
   by_cases hx:k = x
   ·have e1:dctGet x (k :: ks) (v :: vs) = some v:=if_pos hx
    rw [e1]
    refine ⟨ev,?_,h⟩
    unfold findBy
    rw [List.find?_toArray,List.find?_cons_of_pos (by rw [is,hx]; exact beq_self_eq_true x)]; rfl
   ·have e1:dctGet x (k :: ks) (v :: vs) = dctGet x ks vs:=if_neg hx
    rw [e1]
    have e2:findBy (strKind prog w).is (⟨eh,.str k t,ev⟩ :: es').toArray x = findBy (strKind prog w).is es'.toArray x:=by
     unfold findBy
     rw [List.find?_toArray,List.find?_toArray,List.find?_cons_of_neg (by rw [is]; simpa using hx)]
    rw [e2]; exact ih hk' r x
inductive DctAt (prog:Program) (w:World) (g:Gh) (h:Heap) (ks:List Str) (vs:List V):Value -> Prop
 | mk (a f) (m:h.MapOf (strKind prog w) a f) (hs:(a == sysModules) = false) (hf:Holds g ks vs f):DctAt prog w g h ks vs (.ref a)
theorem znb {prog:Program} {w:World} {g:Gh} {h:Heap} (H:HRel g h) (hp:g.pr = w.params) {ks:List Str} {vs:List V} {v':Value} (r:VRel g (.dct ks vs) v'):DctAt prog w g h ks vs v':=by
 obtain ⟨a,es,ep,rfl,h1,hk,r,hs⟩:=r.inv
 refine .mk a _ ⟨_,_,_,H.fz _ _ h1,⟨rfl,rfl,rfl⟩,rfl,fun e he=>?_,fun _=>rfl⟩ hs (zxa hk r)
 obtain ⟨i,hi,ei⟩:=List.getElem_of_mem (List.mem_toArray.mp he)
 obtain ⟨k,hk',t,q1,q2⟩:=hk.get' (i:=i) (b:=e) (by rw [List.getElem?_eq_getElem hi,ei])
 exact ⟨k,by rw [q1]; exact (beq_self_eq_true k:(k == k) = true),by rw [q2,hp]; rfl⟩
noncomputable def HoldsI (g:Gh) (ks:List Int) (vs:List V) (f:Int -> Option Value):Prop:=∀ x,Option.rec (motive:=fun _=>Prop) (f x = none) (fun v=>∃ v',f x = some v' /\ VRel g v v') (dctiGet x ks vs)
inductive DctiAt (prog:Program) (w:World) (g:Gh) (h:Heap) (ks:List Int) (vs:List V):Value -> Prop
 | mk (a f) (m:h.MapOf (intKind prog w) a f) (hs:(a == sysModules) = false) (hf:HoldsI g ks vs f):DctiAt prog w g h ks vs (.ref a)
theorem zs5 {prog:Program} {w:World} {g:Gh} {ks:List Int} {es:List DictEntry} (hk:All2 IntKey ks es):∀ {vs:List V},VRels g vs (es.map (·.val)) -> HoldsI g ks vs (findBy (intKind prog w).is es.toArray):=by
 induction hk with
 | nil=>intro vs r x; exact rfl
 | @cons k e ks es' hk hk' ih =>
  intro vs r x
  cases vs with
  | nil=>have:=r.nil_of; cases this
  | cons v vs =>
   obtain ⟨_,_,q,h,r2⟩:=r.cons_of
   injection q with q1 q2
   subst q1 q2
   obtain ⟨⟨t,e1⟩,e2⟩:=hk
   obtain ⟨eh,ek,ev⟩:=e
   cases (e1:ek = _)
   have is:(intKind prog w).is x (.int k t) = (k == x):=rfl
   by_cases hx:k = x
   ·have e1:dctiGet x (k :: ks) (v :: vs) = some v:=if_pos hx
    rw [e1]
    refine ⟨ev,?_,h⟩
    unfold findBy
    rw [List.find?_toArray,List.find?_cons_of_pos (by rw [is,hx]; exact beq_self_eq_true x)]; rfl
   ·have e1:dctiGet x (k :: ks) (v :: vs) = dctiGet x ks vs:=if_neg hx
    rw [e1]
    have e2:findBy (intKind prog w).is (⟨eh,.int k t,ev⟩ :: es').toArray x = findBy (intKind prog w).is es'.toArray x:=by
     unfold findBy
     rw [List.find?_toArray,List.find?_toArray,List.find?_cons_of_neg (by rw [is]; simpa using hx)]
    rw [e2]; exact ih r2 x
theorem z2i {prog:Program} {w:World} {g:Gh} {h:Heap} (H:HRel g h) {ks:List Int} {vs:List V} {v':Value} (r:VRel g (.dcti ks vs) v'):DctiAt prog w g h ks vs v':=by
 obtain ⟨a,es,ep,rfl,h1,hk,r,hs⟩:=r.inv
 refine .mk a _ ⟨_,_,_,H.fz _ _ h1,⟨rfl,rfl,rfl⟩,rfl,fun e he=>?_,fun _=>rfl⟩ hs (zs5 hk r)
 obtain ⟨i,hi,ei⟩:=List.getElem_of_mem (List.mem_toArray.mp he)
 obtain ⟨k,hk',⟨t,q1⟩,q2⟩:=hk.get' (i:=i) (b:=e) (by rw [List.getElem?_eq_getElem hi,ei])
 exact ⟨k,by rw [q1]; exact (beq_self_eq_true k:(k == k) = true),by rw [q2]; rfl⟩
theorem is_ok {a b:V} {a' b':Value} {r:Bool} {g:Gh} (e:IsR a b r) (ra:VRel g a a') (rb:VRel g b b'):plainIs a' b' = true /\ (a' == b') = r:=by
 cases e with
 | typ x y =>
  cases ra.inv; cases rb.inv
  refine ⟨rfl,?_⟩
  by_cases h:x = y
  ·subst h; exact (beq_self_eq_true _).trans (beq_self_eq_true x).symm
  ·exact (beq_eq_false_iff_ne.mpr fun q=>h (by injection q)).trans (beq_eq_false_iff_ne.mpr h).symm
 | bool x y=>cases ra.inv; cases rb.inv; exact ⟨rfl,by cases x <;> cases y <;> rfl⟩
 | none=>cases ra.inv; cases rb.inv; exact ⟨rfl,rfl⟩
 | ref l=>cases ra.inv.1; cases rb.inv; exact ⟨rfl,rfl⟩
 | str l=>obtain ⟨_,rfl,_⟩:=ra.inv; cases rb.inv; exact ⟨rfl,rfl⟩
theorem cmpI {op:CmpOp} {i j:Int} {r:Bool} {a' b':Value} {Q:Value -> Shared -> Prop} {E:Value -> Shared -> Prop} {K:KB} (ra:VRel σ.g (.int i) a') (rb:VRel σ.g (.int j) b')
  (h:∀ t u,(∀ tk,Q (.bool r) { σ.s with toks:=tk }) -> wpAny C.M A (compareOp op (.int i t) (.int j u)) Q E σ.s) (k:∀ b tk,K b σ.g.cs -> Q (.bool b) { σ.s with toks:=tk }) (q:K r σ.g.cs):wpAny C.M A (compareOp op a' b') Q E σ.s:=by
 obtain ⟨t,rfl⟩:=ra.inv; obtain ⟨u,rfl⟩:=rb.inv
 exact h t u fun tk=>k _ _ q
structure InAt (A:Around) (s:Shared) (vs:List Value) (x:Value) (f:Nat -> Bool) (e:Value -> Bool):Prop where
 at_:∀ y,y ∈ vs.toArray -> EqAt A.in1 s y x (e y)
 val:∀ (j:Nat) (y:Value),vs[j]? = some y -> e y = f j
theorem in_at {s:Shared} {g:Gh} {a:V} {xs:List V} {f:Nat -> Bool} {vs:List Value} {a':Value} (H:HRel g s.heap) (h:Fnd g.cs xs a f) (rx:VRels g xs vs) (ra:VRel g a a') (hu:A.units + 9 < cLine):∃ e,InAt A s vs a' f e:=by
 have at_:∀ (j:Nat) (y:Value),vs[j]? = some y -> ∃ x,xs[j]? = some x /\ VRel g x y /\ EqAt A.in1 s y a' (f j):=fun j y hy=>by
  obtain ⟨x,hx,rv⟩:=rx.get' hy
  exact ⟨x,hx,rv,(zsm H (h.eq j x hx) rv ra (by rw [show A.in1.units = A.units + 1 from rfl,Nat.add_assoc]; exact hu)).at_⟩
 have same:∀ (j k:Nat) (y:Value),vs[j]? = some y -> vs[k]? = some y -> f j = f k:=fun j k y h1 h2=>by
  obtain ⟨x,hx,rv,_⟩:=at_ j y h1
  obtain ⟨x2,hx2,rv2,_⟩:=at_ k y h2
  exact h.inj g j k x x2 y hx hx2 rv rv2
 letI dec:∀ y,Decidable (∃ j:Nat,vs[j]? = some y):=fun _=>Classical.propDecidable _
 refine ⟨fun y=>if q:∃ j:Nat,vs[j]? = some y then f q.choose else false,fun y hy=>?_,fun j y hy=>?_⟩
 ·obtain ⟨j,hj,ej⟩:=List.getElem_of_mem (List.mem_toArray.mp hy)
  have q:∃ j:Nat,vs[j]? = some y:=⟨j,by rw [List.getElem?_eq_getElem hj,ej]⟩
  rw [dif_pos q]
  obtain ⟨_,_,_,e⟩:=at_ _ y q.choose_spec
  exact e
 ·have q:∃ k:Nat,vs[k]? = some y:=⟨j,hy⟩
  rw [dif_pos q]
  exact same _ j _ q.choose_spec hy
theorem InAt.any {s:Shared} {vs:List Value} {x:Value} {f:Nat -> Bool} {e:Value -> Bool} (I:InAt A s vs x f e):vs.toArray.any e = (List.range vs.length).any f:=by
 rw [List.any_toArray,Bool.eq_iff_iff,List.any_eq_true,List.any_eq_true]
 constructor
 ·rintro ⟨y,hy,q⟩
  obtain ⟨j,hj,ej⟩:=List.getElem_of_mem hy
  exact ⟨j,List.mem_range.mpr hj,by rw [<- I.val j y (by rw [List.getElem?_eq_getElem hj,ej])]; exact q⟩
 ·rintro ⟨j,hj,q⟩
  have hj2:=List.mem_range.mp hj
  exact ⟨_,List.getElem_mem hj2,by rw [I.val j _ (List.getElem?_eq_getElem hj2)]; exact q⟩
theorem zyu {op:CmpOp} {a b:V} {a' b':Value} {K:KB} (e:CmpR σ.g.cs K op a b) (H:HRel σ.g σ.s.heap) (hp:σ.g.pr = C.w.params) (ra:VRel σ.g a a') (rb:VRel σ.g b b') (O:AOk A d)
  {Q:Value -> Shared -> Prop} {E:Value -> Shared -> Prop} (k:∀ r tk,K r σ.g.cs -> Q (.bool r) { σ.s with toks:=tk }):wpAny C.M A (compareOp op a' b') Q E σ.s:=by
 have un:A.units + 9 < cLine:=Nat.lt_of_le_of_lt (by rw [Nat.add_assoc]; exact Nat.add_le_add_left (Nat.le_trans (by decide) (Nat.le_add_left 200 _)) _) O.un
 cases e with
 | eq h q=>exact (zsm H h ra rb un).eq C.prog C.w E Q (k _ σ.s.toks q)
 | ne h q=>exact (zsm H h ra rb un).ne C.prog C.w E Q (k _ σ.s.toks q)
 | lt q=>exact cmpI ra rb (fun t u k=>PyProof.Rows.lt_int (k _)) k q
 | le q=>exact cmpI ra rb (fun t u k=>PyProof.Rows.le_int (k _)) k q
 | gt q=>exact cmpI ra rb (fun t u k=>PyProof.Rows.gt_int (k _)) k q
 | ge q=>exact cmpI ra rb (fun t u k=>PyProof.Rows.ge_int (k _)) k q
 | is h q=>exact wpAny_is_plain (is_ok h ra rb).1 (by rw [(is_ok h ra rb).2]; exact k _ _ q)
 | isNot h q=>exact wpAny_isNot_plain (is_ok h ra rb).1 (by rw [(is_ok h ra rb).2]; exact k _ _ q)
 | inS q=>obtain ⟨t,rfl,_⟩:=ra.inv; obtain ⟨u,rfl,_⟩:=rb.inv; exact SB.contains (k _ _ q)
 | inL f ho h q =>
  cases zav H ho rb with
  | mk l vs ep e1 r1 _ =>
   obtain ⟨e,I⟩:=in_at (A:=A) (s:=σ.s) H h r1 ra un
   have h1:=I.at_
   have h2:=I.any
   rw [r1.length] at h2
   rename_i bb _ _
   cases bb with
   | true=>exact SeqAt.in_tupleAt e ⟨_,e1,rfl,_,rfl⟩ h1 (by rw [h2]; exact k _ σ.s.toks q)
   | false=>exact SeqAt.in_listAt e ⟨_,e1,rfl,_,rfl⟩ h1 (by rw [h2]; exact k _ σ.s.toks q)
 | notInL f ho h q =>
  cases zav H ho rb with
  | mk l vs ep e1 r1 _ =>
   obtain ⟨e,I⟩:=in_at (A:=A) (s:=σ.s) H h r1 ra un
   have h1:=I.at_
   have h2:=I.any
   rw [r1.length] at h2
   rename_i bb _ _
   cases bb with
   | true=>exact SeqAt.notIn_tupleAt e ⟨_,e1,rfl,_,rfl⟩ h1 (by rw [h2]; exact k _ σ.s.toks q)
   | false=>exact SeqAt.notIn_listAt e ⟨_,e1,rfl,_,rfl⟩ h1 (by rw [h2]; exact k _ σ.s.toks q)
 | @inD x ks vs q =>
  obtain ⟨t,rfl,_⟩:=ra.inv
  cases znb (prog:=C.prog) H hp rb with
  | mk a f hm hs hf =>
   refine wpAny_in_of (knd:=strKind C.prog C.w) (k:=x) (beq_self_eq_true x:(x == x) = true) hs hm ?_
   have:=hf x
   have e:(f x).isSome = (dctGet x ks vs).isSome:=by
    cases hd:dctGet x ks vs with
    | none=>rw [hd] at this; rw [show f x = none from this]; rfl
    | some v=>rw [hd] at this; obtain ⟨v',q,_⟩:=this; rw [q]; rfl
   rw [e]; exact k _ _ q
theorem un_ok {op:UnaryOp} {v:V} {v':Value} {K:KV} (e:UnR σ.g.cs K op v) (H:HRel σ.g σ.s.heap) (rv:VRel σ.g v v'):Runs C A σ noOwn (unaryOp op v') VR K:=by
 cases e with
 | neg q=>obtain ⟨t,rfl⟩:=rv.inv; exact Runs.still H (fun Q E k=>PySem.P.neg_int (k _)) (fun _=>.int _ _) q
 | @inv i q =>
  obtain ⟨t,rfl⟩:=rv.inv
  have:Builtin.bitNot i = -i - 1:=by unfold Builtin.bitNot; lia
  exact Runs.still H (fun Q E k=>PyProof.Rows.invert_int (by rw [this]; exact k _)) (fun _=>.int _ _) q
theorem zgi (slice:Expr) (o i:Value):∃ vs,subscripted slice false o i = operate vs (getItem o i):=by
 cases slice with
 | Slice a b c p=>cases c <;> exact ⟨_,rfl⟩
 | _=>exact ⟨_,rfl⟩
theorem zeu {env:Env} {s:Shared} {E:Value -> Shared -> Prop} {value slice:Expr} {pos:Pos} {Q:Value -> Shared -> Prop}
  (h:wpAny C.M A (eval value env) (fun o s₁=>wpAny C.M A (eval slice env) (fun i s₂=>∃ T id,typeLookup (.type T) "__getitem__" = pure (some (.builtin id)) /\ s₂.TypeIs o T /\ wpAny C.M A (getItem o i) Q E s₂) E s₁) E s) :
  wpAny C.M A (eval (.Subscript value slice pos) env) Q E s:=by
 rw [eval_Subscript]
 refine wpAny_bind (wpAny_mono h (fun o s₁ h₁=>wpAny_bind (wpAny_holding (wpAny_mono h₁ (fun i s₂ h₂=>wpAny_bind (wpAny_standAt ?_)) fun _ _ x=>x))) fun _ _ x=>x)
 obtain ⟨T,id,hl,hT,hg⟩:=h₂
 refine wpAny_bind ?_
 rw [getitemInPython_of_ne hT.not_modules]
 refine wpAny_bind (wpAny_specialOf hT hl ?_)
 have tail:∀ r s₃,Q r s₃ -> wpAny C.M A (letTemporaryGo value o r >>= fun _=>pure r) Q E s₃:=fun r s₃ h₃=>wpAny_bind (wpAny_letTemporaryGo (wpAny_pure h₃))
 have fin:wpAny C.M A (subscripted slice false o i) (fun r s₃=>wpAny C.M A (letTemporaryGo value o r >>= fun _=>pure r) Q E s₃) E s₂:=by
  have h4:=wpAny_mono hg (fun r s₃ h₃=>tail r s₃ h₃) fun _ _ x=>x
  obtain ⟨vs,hs⟩:=zgi slice o i
  rw [hs]; exact zdv h4
 first
  | exact wpAny_pure (wpAny_bind fin)
  | exact wpAny_bind (wpAny_pure (wpAny_bind fin))
  | exact wpAny_bind fin
theorem zjn {α:Type} {xs:List α} {i:Int} {x:α} (h:idxV xs i = some x):∃ k,xs[k]? = some x /\ ((0 <= i /\ k = i.toNat) \/ (i < 0 /\ 0 <= i + xs.length /\ k = (i + xs.length).toNat)):=by
 unfold idxV at h
 by_cases h0:0 <= i
 ·rw [if_pos h0] at h; exact ⟨_,h,.inl ⟨h0,rfl⟩⟩
 ·rw [if_neg h0] at h
  by_cases h1:0 <= i + xs.length
  ·rw [if_pos h1] at h; exact ⟨_,h,.inr ⟨Int.not_le.mp h0,h1,rfl⟩⟩
  ·rw [if_neg h1] at h; cases h
theorem zjm {n k:Nat} {i:Int} (hk:k < n) (h:(0 <= i /\ k = i.toNat) \/ (i < 0 /\ 0 <= i + n /\ k = (i + n).toNat)):seqIndex? i n = some k /\ -(n:Int) <= i /\ i < n:=by
 rcases h with ⟨h0,rfl⟩ | ⟨h0,h1,rfl⟩
 ·have h2:¬ i < 0:=Int.not_lt.mpr ‹_›
  have h3:(decide (0 <= i) && decide (i < (n:Int))) = true:=by simp; lia
  refine ⟨?_,by lia,by lia⟩
  show (if (decide (0 <= (if i < 0 then i + n else i)) && decide ((if i < 0 then i + n else i) < (n:Int))) = true then some (if i < 0 then i + n else i).toNat else none) = _
  rw [if_neg h2,h3]; rfl
 ·have h3:(decide (0 <= i + (n:Int)) && decide (i + (n:Int) < (n:Int))) = true:=by simp; lia
  refine ⟨?_,by lia,by lia⟩
  show (if (decide (0 <= (if i < 0 then i + n else i)) && decide ((if i < 0 then i + n else i) < (n:Int))) = true then some (if i < 0 then i + n else i).toNat else none) = _
  rw [if_pos h0,h3]; rfl
noncomputable def GetOk (C:Cx) (A:Around) (σ:St) (o' i':Value) (v:V):Prop:=∃ T id,typeLookup (.type T) "__getitem__" = pure (some (.builtin id)) /\ σ.s.TypeIs o' T /\
 ∀ (Q:Value -> Shared -> Prop) (E:Value -> Shared -> Prop),(∀ v' tk,VRel σ.g v v' -> Q v' { σ.s with toks:=tk }) -> wpAny C.M A (getItem o' i') Q E σ.s
theorem z1r {o i v:V} {o' i':Value} (e:ItemR σ.g.cs o i v) (H:HRel σ.g σ.s.heap) (hp:σ.g.pr = C.w.params) (ro:VRel σ.g o o') (ri:VRel σ.g i i'):GetOk C A σ o' i' v:=by
 have hlim:(lim:Int) < 2 ^ 62:=by decide
 cases e with
 | @str x i c ec =>
  obtain ⟨t,rfl,hx⟩:=ro.inv; obtain ⟨u,rfl⟩:=ri.inv
  obtain ⟨k,h2,h3⟩:=zjn ec
  have hlt:=zaa h2
  obtain ⟨h1,h4,h5⟩:=zjm hlt h3
  have hl:x.cps.toList.length = x.length:=rfl
  rw [hl] at h1 h4 h5
  refine ⟨"str",_,F.slot_str_getitem.lookup,typeIs_str _ _ _,fun Q E q=>PyProof.Rows.getItem_str ?_ ?_ (q (.str ⟨#[c]⟩ _) _ (.str _ _ (show 1 <= lim by decide)))⟩
  ·have hx':(x.length:Int) <= lim:=Int.ofNat_le.mpr hx
   rw [Bool.or_eq_false_iff]; exact ⟨decide_eq_false (by lia),decide_eq_false (by lia)⟩
  ·rw [h1]; simpa using h2
 | @dct ks vs x v hd =>
  obtain ⟨t,rfl,hx⟩:=ri.inv
  cases znb (prog:=C.prog) H hp ro with
  | mk a f hm hs hf =>
   have:=hf x
   rw [hd] at this
   obtain ⟨v',q,r⟩:=this
   obtain ⟨ob,es,ep,h1,h2,_⟩:=id hm
   exact ⟨"dict",_,F.slot_dict_getitem.lookup,⟨_,h1,h2.1⟩,fun Q E k=>wpAny_getItem_of (knd:=strKind C.prog C.w) (k:=x) (beq_self_eq_true x:(x == x) = true) hm q (k _ _ r)⟩
 | @dcti ks vs x v hd =>
  obtain ⟨t,rfl⟩:=ri.inv
  cases z2i (prog:=C.prog) (w:=C.w) H ro with
  | mk a f hm hs hf =>
   have:=hf x
   rw [hd] at this
   obtain ⟨v',q,r⟩:=this
   obtain ⟨ob,es,ep,h1,h2,_⟩:=id hm
   exact ⟨"dict",_,F.slot_dict_getitem.lookup,⟨_,h1,h2.1⟩,fun Q E k=>wpAny_getItem_of (knd:=intKind C.prog C.w) (k:=x) (beq_self_eq_true x:(x == x) = true) hm q (k _ _ r)⟩
 | @seq o b xs i v ho h =>
  obtain ⟨u,rfl⟩:=ri.inv
  obtain ⟨k,h2,h3⟩:=zjn h
  cases zav H ho ro with
  | mk l vs ep e rx hl =>
   obtain ⟨v',hv,rv⟩:=rx.get h2
   rw [<- rx.length] at h3 hl
   obtain ⟨h1,h4,h5⟩:=zjm (zaa hv) h3
   have hv:=(List.getElem?_toArray (xs:=vs)).trans hv
   have hl':(vs.length:Int) <= lim:=Int.ofNat_le.mpr hl
   cases b with
   | true=>exact ⟨"tuple",_,F.slot_tuple_getitem.lookup,⟨_,e,rfl⟩,fun Q E q=>PyProof.Rows.getItem_tuple ⟨_,e,rfl,_,rfl⟩ (by lia) (by lia) (j:=k) h1 (x:=v') hv (q _ σ.s.toks rv)⟩
   | false =>
    refine ⟨"list",_,F.slot_list_getitem.lookup,⟨_,e,rfl⟩,fun Q E q=>?_⟩
    rcases h3 with ⟨h6,rfl⟩ | ⟨h6,h7,rfl⟩
    ·exact wpAny_getItem_list (x:=v') ⟨_,e,rfl,_,rfl⟩ h6 (by lia) hv (q _ σ.s.toks rv)
    ·exact wpAny_getItem_list_neg (x:=v') ⟨_,e,rfl,_,rfl⟩ h6 h4 (by lia) hv (q _ σ.s.toks rv)
theorem zqx {v:V} {v':Value} {l:Option Int} {g:Gh} (e:OptR v l) (r:VRel g v v'):IsPart v' l /\ ∃ q:Option (Int × Tok),partValue q = v' /\ q.map (·.1) = l:=by
 cases e with
 | none=>cases r.inv; exact ⟨.none,none,rfl,rfl⟩
 | int i=>obtain ⟨t,rfl⟩:=r.inv; exact ⟨.int _ _,some (_,_),rfl,rfl⟩
theorem zu7 {g:Gh} {xs:List V} {vs:List Value} (r:VRels g xs vs) (is:List Nat):VRels g (is.filterMap (xs[·]?)) (is.filterMap (vs[·]?)):=by
 induction is with
 | nil=>exact .nil
 | cons i is ih =>
  rw [List.filterMap_cons,List.filterMap_cons]
  cases hx:xs[i]? with
  | none =>
   have:vs[i]? = none:=by
    rw [List.getElem?_eq_none_iff] at hx ⊢
    rw [r.length]; exact hx
   rw [this]; exact ih
  | some x =>
   obtain ⟨v,e,q⟩:=r.get hx
   rw [e]; exact .cons q ih
noncomputable abbrev sliceO (b c c':Value):Obj:={ cls:=.type "slice",data:=.fields #[b,c,c'] }
theorem zus {c:Bool} {o:V} {o' b b1 b2:Value} {l h k:Option Int} {vl vh vk:V} {K:KV} (e:SliceR c σ.g.cs K o l h k) (H:HRel σ.g σ.s.heap) (ro:VRel σ.g o o') (ol:OptR vl l) (oh:OptR vh h) (ok:OptR vk k) (rl:VRel σ.g vl b) (rh:VRel σ.g vh b1) (rk:VRel σ.g vk b2)
  {Q:Value -> Shared -> Prop} {E:Value -> Shared -> Prop} (kk:∀ v a σ',Ext σ σ' noOwn -> VRel σ'.g v a -> K v σ'.g.cs -> Q a σ'.s) :
  ∃ T id,typeLookup (.type T) "__getitem__" = pure (some (.builtin id)) /\ Shared.TypeIs { σ.s with heap:=σ.s.heap.push (sliceO b b1 b2) } o' T /\ wpAny C.M A (getItem o' (.ref σ.s.heap.objs.size)) Q E { σ.s with heap:=σ.s.heap.push (sliceO b b1 b2) }:=by
 obtain ⟨pl,ql,el1,el2⟩:=zqx ol rl
 obtain ⟨ph,qh,eh1,eh2⟩:=zqx oh rh
 obtain ⟨pk,qk,ek1,ek2⟩:=zqx ok rk
 have x0:Ext σ (σ.up (σ.s.heap.push (sliceO b b1 b2)) σ.s.toks σ.g) noOwn:=Ext.keeps H fun a o e=>Heap.get?_push_of_some _ e
 have es:(σ.s.heap.push (sliceO b b1 b2)).get? σ.s.heap.objs.size = some (sliceO b b1 b2):=Heap.get?_push_size _ rfl
 cases e with
 | @str x _ _ q =>
  obtain ⟨t,rfl,hx⟩:=ro.inv
  refine ⟨"str",_,F.slot_str_getitem.lookup,typeIs_str _ _ _,wpAny_getItem_str_slice (l:=ql) (u:=qh) (st:=qk) ⟨_,es,rfl,by rw [el1,eh1,ek1]⟩ (by rw [ek2]; rfl) ?_⟩
  unfold sliceMade slicePicked
  rw [el2,eh2,ek2]
  have hle:=Nat.le_trans (Txt.slice_le x l h) hx
  have fin:∀ tk tok,Q (.str (Txt.slice x l h) tok) { σ.s with heap:=σ.s.heap.push (sliceO b b1 b2),toks:=tk }:=fun tk tok =>
   kk _ _ (σ.up _ tk σ.g) (x0.trans (Ext.tok x0.H)) (.str _ _ hle) q
  unfold Txt.slice at fin hle
  split
  ·rename_i hc
   have hc:((1:Int) == 1 && (Builtin.Str.strSliceIndices l h 1 x.length).length == x.length) = true:=hc
   rw [if_pos hc] at fin
   exact fin _ _
  ·rename_i hc
   have hc:¬ ((1:Int) == 1 && (Builtin.Str.strSliceIndices l h 1 x.length).length == x.length) = true:=hc
   rw [if_neg hc] at fin hle
   exact ⟨Nat.le_trans hle zax,fin _ _⟩
 | @lst o xs _ _ _ ho hs q =>
  cases zav x0.H ho ro with
  | mk a vs ep e rx hl =>
   have rr:VRels σ.g (sliceL xs l h k) (slicePick vs.toArray l h k).toList:=by
    unfold sliceL slicePick
    have:=zu7 rx (sliceRange (sliceBounds l h k xs.length).1 (sliceBounds l h k xs.length).2.1 (sliceBounds l h k xs.length).2.2)
    simpa [rx.length] using this
   have hlen:vs.toArray.size <= sizeLine:=Nat.le_trans (Nat.le_of_eq rx.length) (Nat.le_trans hl zax)
   refine ⟨"list",_,F.slot_list_getitem.lookup,⟨_,e,rfl⟩,wpAny_getItem_list_slice (items:=vs.toArray) ⟨_,e,rfl,_,rfl⟩ ⟨_,es,rfl,rfl⟩ pl ph pk hs ?_ hlen⟩
   obtain ⟨v,σ',x,es',r',q'⟩:=zms x0.H rr (fun a o e=>Heap.get?_push_of_some _ e) (get?_size _) (Heap.get?_push_size (o:=listO _ 0) _ rfl) q σ.s.toks
   have:=kk v _ σ' (x0.trans x) r' q'
   rw [es'] at this
   exact this
end Mine
end
section
namespace Mine
open PySem PySem.SeqAt
noncomputable def KeepOk (C:Cx) (A:Around) (s:Shared) (f:Value):Prop:=∀ (E:Value -> Shared -> Prop) (Q:Keeper -> Shared -> Prop),(∀ k,Q k s) -> wpAny C.M A (keeperOf f) Q E s
noncomputable abbrev KRel (g:Gh):=All2 (fun (p:Str × V) (q:Str × Value)=>p.1 = q.1 /\ VRel g p.2 q.2)
theorem kmono {g g':Gh} {xs:Kws} {ys:List (Str × Value)} (r:KRel g xs ys) (L:Le g g'):KRel g' xs ys:=r.imp fun _ _ h=>⟨h.1,h.2.mono L⟩
noncomputable def CRuns (C:Cx) (A:Around) (σ:St) (f:Value) (args':List Value) (kws':List (Str × Value)) (K:KV):Prop :=
 ∀ R:Result -> Shared -> Prop,(∀ v a σ',Ext σ σ' noOwn -> VRel σ'.g v a -> K v σ'.g.cs -> R (.ok (.ret a)) σ'.s) -> codeAny C.M A (.call f ⟨args',kws'⟩) R σ.s
theorem CRuns.runs {C:Cx} {A:Around} {σ:St} {f:Value} {args':List Value} {kws':List (Str × Value)} {K:KV} (h:CRuns C A σ f args' kws' K):Runs C A σ noOwn (call f args' kws') VR K :=
 fun Q E k=>wpAny_call (h _ fun v a σ' x r q=>k v a σ' x r q)
noncomputable def FnOk (C:Cx) (a:Addr) (sp:Spec):Prop:=∀ {A:Around} {σ:St} {args:List V} {kws:Kws} {args':List Value} {kws':List (Str × Value)} {K:KV},AOk A C.d -> HRel σ.g σ.s.heap -> Base C σ.g -> VRels σ.g args args' -> KRel σ.g kws kws' -> sp args kws σ.g.cs K ->
  KeepOk C A σ.s (.ref a) /\ CRuns C A σ (.ref a) args' kws' K
noncomputable def FnsOk (C:Cx) (P:Prm):Prop:=∀ a,FnOk C a (P.fn a)
variable {C:Cx} {A:Around} {σ:St} {P:Prm}
theorem zae (id:String):KeepOk C A σ.s (.builtin id):=fun E Q k=>wpAny_pure (k _)
theorem zfy (id:String):KeepOk C A σ.s (.type id):=fun E Q k=>wpAny_pure (k _)
theorem zrb (r:List Int):∀ a:Int,maxI r a ∈ a :: r /\ ∀ b ∈ a :: r,b <= maxI r a:=by
 induction r with
 | nil=>intro a; exact ⟨List.mem_singleton.mpr rfl,fun b hb=>by rw [List.mem_singleton.mp hb]; exact Int.le_refl _⟩
 | cons b r ih =>
  intro a
  have e:maxI (b :: r) a = maxI r (if b > a then b else a):=rfl
  rw [e]
  by_cases h:b > a
  ·rw [if_pos h]
   refine ⟨List.mem_cons_of_mem _ (ih b).1,fun c hc=>(List.mem_cons.mp hc).elim (fun z=>?_) ((ih b).2 c)⟩
   rw [z]; exact Int.le_trans (Int.le_of_lt h) ((ih b).2 b List.mem_cons_self)
  ·rw [if_neg h]
   refine ⟨(List.mem_cons.mp (ih a).1).elim (fun z=>by rw [z]; exact List.mem_cons_self) fun z=>List.mem_cons_of_mem _ (List.mem_cons_of_mem _ z),fun c hc=>(List.mem_cons.mp hc).elim (fun z=>(ih a).2 c (z ▸ List.mem_cons_self)) fun hc=>?_⟩
   rcases List.mem_cons.mp hc with rfl | hc
   ·exact Int.le_trans (Int.not_lt.mp h) ((ih a).2 a List.mem_cons_self)
   ·exact (ih a).2 c (List.mem_cons_of_mem _ hc)
theorem z1t {g:Gh} {ns:List Int}:∀ {vs:List Value},VRels g (ns.map .int) vs -> numsOf vs = ns /\ ∀ v ∈ vs,∃ a t,v = .int a t:=by
 induction ns with
 | nil=>intro vs r; cases r.nil_of; exact ⟨rfl,fun v hv=>nomatch hv⟩
 | cons i ns ih =>
  intro vs r
  obtain ⟨v,vs',rfl,h,r'⟩:=r.cons_of
  obtain ⟨t,rfl⟩:=h.inv
  refine ⟨congrArg (i :: ·) (ih r').1,fun v hv=>(List.mem_cons.mp hv).elim (fun z=>⟨_,_,z⟩) ((ih r').2 v)⟩
theorem zf3 (H:HRel σ.g σ.s.heap) {o:Obj} (nc:∀ v,o.data ≠ .cell v) (hf:o.isFreed = false) (t:Nat):Ext σ (σ.up (σ.s.heap.push o) t (σ.g.freeze σ.s.heap.objs.size o)) noOwn :=
 Ext.freeze H (fun a o e=>Heap.get?_push_of_some _ e) (get?_size _) (Heap.get?_push_size _ hf) nc
theorem zmg {t:Sem Value} {a b c:Int} {x u v:Tok} {K:KV} (H:HRel σ.g σ.s.heap) (q:K (.rng a b c) σ.g.cs)
  (h:∀ (Q:Value -> Shared -> Prop) E,(∀ tk,Q (.ref σ.s.heap.objs.size) { σ.s with heap:=σ.s.heap.push (rngO a b c x u v),toks:=tk }) -> wpAny C.M A t Q E σ.s):Runs C A σ noOwn t VR K :=
 fun Q E k=>h Q E fun tk=>k _ _ _ (zf3 (o:=rngO a b c x u v) H (fun _ e=>(nomatch e)) rfl tk) (.rng (zam ..)) q
theorem max_ok (hh:A.handled = none) {v':Value} {a:Int} {r:List Int} {K:KV} (H:HRel σ.g σ.s.heap) (h:SeqAt' σ.g σ.s.heap false ((a :: r).map .int) v') (q:K (.int (maxI r a)) σ.g.cs):Runs C A σ noOwn (call (.builtin "max") [v']) VR K:=by
 cases h with
 | mk l vs ep e rx hl =>
  obtain ⟨n1,n2⟩:=z1t rx
  have hall:AllInts vs.toArray:=fun v hv=>n2 v (List.mem_toArray.mp hv)
  obtain ⟨ps,hps⟩:=hall.items
  have hsz0:vs.length = ps.size:=by
   have:=congrArg Array.size hps
   simpa [intItems] using this
  have hsz:0 < ps.size:=by rw [<- hsz0,rx.length]; exact Nat.succ_pos _
  intro Q E k
  refine max_intList hh (l:=l) (xs:=ps) (by rw [<- hps]; exact ⟨_,e,rfl,_,rfl⟩) hsz fun v h' tk hv hk=>?_
  obtain ⟨t,rfl⟩:=intItems_at hv
  have hn:numsOf (intItems ps).toList = a :: r:=by rw [<- hps]; exact n1
  rw [nums_intItems] at hn
  have key:numAt ps (argBest (fun i j=>decide (numAt ps i > numAt ps j)) (ps.size - 1)) = maxI r a:=by
   obtain ⟨h1,h2⟩:=argBest_gt (numAt ps) (ps.size - 1)
   obtain ⟨m1,m2⟩:=zrb r a
   refine Int.le_antisymm (m2 _ ?_) ?_
   ·rw [<- hn,numAt_eq]; exact getD_mem (by rw [List.length_map,Array.length_toList]; omega)
   ·rw [<- hn] at m1
    obtain ⟨j,hj,hj2⟩:=mem_getD m1
    rw [List.length_map,Array.length_toList] at hj
    rw [<- hj2,<- numAt_eq]; exact h2 j (by omega)
  rw [key]
  exact k _ _ (σ.up h' tk σ.g) (Ext.keeps H fun b o e=>hk b o e) (.int _ _) q
theorem zuk (i:Int) (h:i.natAbs < bigN):(textOf i).length <= lim:=by
 have e:=int_text_length_le (k:=1920) (by decide) (Nat.lt_trans (zls h) (by decide))
 unfold textOf
 rw [ofString_length]
 exact Nat.le_trans e (by decide)
theorem zri {v:V} {v':Value} {n:String} (e:KindR σ.g.cs v n) (H:HRel σ.g σ.s.heap) (r:VRel σ.g v v'):σ.s.TypeIs v' n /\ (Value.type n == Value.type "builtin_function_or_method") = false:=by
 cases e with
 | str=>obtain ⟨_,rfl,_⟩:=r.inv; exact ⟨typeIs_str _ _ _,by decide⟩
 | int=>obtain ⟨_,rfl⟩:=r.inv; exact ⟨typeIs_int _ _ _,by decide⟩
 | bool=>cases r.inv; exact ⟨typeIs_bool _ _,by decide⟩
 | @seq v b xs h=>cases zav H h r with | mk a vs ep e _ _=>exact ⟨⟨_,e,rfl⟩,by cases b <;> decide⟩
noncomputable def CallsOk (C:Cx) (A:Around) (σ:St) (K:KV) (f':Value) (args':List Value) (kws':List (Str × Value)):Prop:=KeepOk C A σ.s f' /\ Runs C A σ noOwn (call f' args' kws') VR K
noncomputable def isBi (b:Bool) (id:String):V:=Bool.rec (.bi id) (.typ id) b
noncomputable def biVal (b:Bool) (id:String):Value:=Bool.rec (.builtin id) (.type id) b
section
variable {K:KV} {f':Value} {args':List Value} {kws':List (Str × Value)} {x y:V}
theorem zay (b:Bool) (id:String) (rf:VRel σ.g (isBi b id) f') (ra:VRels σ.g [x] args') (rk:KRel σ.g [] kws') (h:∀ v',VRel σ.g x v' -> Runs C A σ noOwn (call (biVal b id) [v']) VR K):CallsOk C A σ K f' args' kws':=by
 cases rk.nil_of
 obtain ⟨v',rfl,rv⟩:=ra.one
 cases b with
 | false=>cases rf.inv; exact ⟨zae _,h v' rv⟩
 | true=>cases rf.inv; exact ⟨zfy _,h v' rv⟩
theorem zfd (b:Bool) (id:String) (rf:VRel σ.g (isBi b id) f') (ra:VRels σ.g [x,y] args') (rk:KRel σ.g [] kws') (h:∀ v' u',VRel σ.g x v' -> VRel σ.g y u' -> Runs C A σ noOwn (call (biVal b id) [v',u']) VR K):CallsOk C A σ K f' args' kws':=by
 cases rk.nil_of
 obtain ⟨v',u',rfl,rv,ru⟩:=ra.two
 cases b with
 | false=>cases rf.inv; exact ⟨zae _,h v' u' rv ru⟩
 | true=>cases rf.inv; exact ⟨zfy _,h v' u' rv ru⟩
theorem len_ok {v:V} {v':Value} {b:Bool} {xs:List V} (H:HRel σ.g σ.s.heap) (h:SeqR σ.g.cs v b xs) (rv:VRel σ.g v v') (q:K (.int (xs.length:Nat)) σ.g.cs):Runs C A σ noOwn (call (.builtin "len") [v']) VR K:=by
 cases zav H h rv with
 | mk a vs ep e rx hl =>
  have hl':(vs.toArray.size:Int) < 2 ^ 63:=Int.lt_of_le_of_lt (Int.ofNat_le.mpr (Nat.le_trans (Nat.le_of_eq rx.length) hl)) (by decide)
  rw [<- rx.length] at q
  cases b with
  | true=>exact Runs.still H (fun Q E k=>PySem.P.len_tuple e (Int.not_le.mpr hl') (k _)) (fun _=>.int _ _) q
  | false=>exact Runs.still H (fun Q E k=>PyProof.Rows.len_list ⟨_,e,rfl,_,rfl⟩ hl' (k _)) (fun _=>.int _ _) q
theorem ofInt {i:Int} {v':Value} {r:V} {f:Tok -> Value} (H:HRel σ.g σ.s.heap) (rv:VRel σ.g (.int i) v') (q:K r σ.g.cs) (g:Value -> Sem Value) (hr:∀ t,VRel σ.g r (f t))
  (h:∀ t (Q:Value -> Shared -> Prop) E,(∀ u tk,Q (f u) { σ.s with toks:=tk }) -> wpAny C.M A (g (.int i t)) Q E σ.s):Runs C A σ noOwn (g v') VR K:=by
 obtain ⟨t,rfl⟩:=rv.inv
 exact fun Q E k=>h t Q E fun u tk=>k _ _ (σ.up σ.s.heap tk σ.g) (Ext.tok H) (hr u) q
theorem ofStr {x:Str} {v':Value} {r:V} {f:Tok -> Value} (H:HRel σ.g σ.s.heap) (rv:VRel σ.g (.str x) v') (q:K r σ.g.cs) (g:Value -> Sem Value) (hr:∀ t,VRel σ.g r (f t))
  (h:∀ t (Q:Value -> Shared -> Prop) E,x.length <= lim -> (∀ u tk,Q (f u) { σ.s with toks:=tk }) -> wpAny C.M A (g (.str x t)) Q E σ.s):Runs C A σ noOwn (g v') VR K:=by
 obtain ⟨t,rfl,hx⟩:=rv.inv
 exact fun Q E k=>h t Q E hx fun u tk=>k _ _ (σ.up σ.s.heap tk σ.g) (Ext.tok H) (hr u) q
theorem zs2 {a b:Int} {v' u':Value} (H:HRel σ.g σ.s.heap) (rv:VRel σ.g (.int a) v') (ru:VRel σ.g (.int b) u') (h:b ≠ 0 /\ b.natAbs < bigN) (q:K (.tup [.int (a.fdiv b),.int (a.fmod b)]) σ.g.cs):Runs C A σ noOwn (call (.builtin "divmod") [v',u']) VR K:=by
 obtain ⟨t,rfl⟩:=rv.inv; obtain ⟨u,rfl⟩:=ru.inv
 exact fun Q E k=>PyProof.Rows.divmod_int h.1 (k _ _ (σ.up _ _ _) (zf3 (o:=tupO [.int (a.fdiv b) σ.s.toks,.int (a.fmod b) (σ.s.toks + 1)] 0) H (fun _ e=>(nomatch e)) rfl _) (.tup (vs:=[_,_]) (zam ..) (.cons (.int _ _) (.cons (.int _ _) .nil)) (show 2 <= lim by decide)) q) (.inl (zne h.2))
theorem z0r {a:Int} {v':Value} (H:HRel σ.g σ.s.heap) (rv:VRel σ.g (.int a) v') (q:K (.rng 0 a 1) σ.g.cs):Runs C A σ noOwn (call (.type "range") [v']) VR K:=by
 obtain ⟨t,rfl⟩:=rv.inv; exact zmg H q fun Q E k=>call_range_1 (k _)
theorem z0q {a b:Int} {v' u':Value} (H:HRel σ.g σ.s.heap) (rv:VRel σ.g (.int a) v') (ru:VRel σ.g (.int b) u') (q:K (.rng a b 1) σ.g.cs):Runs C A σ noOwn (call (.type "range") [v',u']) VR K:=by
 obtain ⟨t,rfl⟩:=rv.inv; obtain ⟨u,rfl⟩:=ru.inv; exact zmg H q fun Q E k=>call_range_2 (k _)
theorem z1v {b:Bool} {v':Value} (H:HRel σ.g σ.s.heap) (rv:VRel σ.g (.bool b) v') (q:K (.int (if b = true then 1 else 0)) σ.g.cs):Runs C A σ noOwn (call (.type "int") [v']) VR K:=by
 cases rv.inv; exact Runs.still H (fun Q E k=>call_int_bool (k _)) (fun _=>.int _ _) q
theorem zzo {v:V} {n:String} {v':Value} (H:HRel σ.g σ.s.heap) (h:KindR σ.g.cs v n) (rv:VRel σ.g v v') (q:K (.typ n) σ.g.cs):Runs C A σ noOwn (call (.type "type") [v']) VR K :=
 Runs.still H (fun Q E k=>call_type_of (zri h H rv).1 (zri h H rv).2 (k _)) (fun _=>.typ _) q
theorem z1d (hh:A.handled = none) {a b:Int} {v' u':Value} (H:HRel σ.g σ.s.heap) (rv:VRel σ.g (.int a) v') (ru:VRel σ.g (.int b) u') (q:K (.int (max a b)) σ.g.cs):Runs C A σ noOwn (call (.builtin "max") [v',u']) VR K:=by
 obtain ⟨t,rfl⟩:=rv.inv; obtain ⟨u,rfl⟩:=ru.inv
 intro Q E k
 refine max_two_ints hh fun h' tk hk=>?_
 by_cases hc:b > a
 ·rw [if_pos hc]; exact k (.int (max a b)) _ (σ.up h' tk σ.g) (Ext.keeps H fun b o e=>hk b o e) (by rw [Int.max_eq_right (Int.le_of_lt hc)]; exact .int _ _) q
 ·rw [if_neg hc]; exact k (.int (max a b)) _ (σ.up h' tk σ.g) (Ext.keeps H fun b o e=>hk b o e) (by rw [Int.max_eq_left (Int.not_lt.mp hc)]; exact .int _ _) q
theorem z1c (hh:A.handled = none) {a b:Int} {v' u':Value} (H:HRel σ.g σ.s.heap) (rv:VRel σ.g (.int a) v') (ru:VRel σ.g (.int b) u') (q:K (.int (min a b)) σ.g.cs):Runs C A σ noOwn (call (.builtin "min") [v',u']) VR K:=by
 obtain ⟨t,rfl⟩:=rv.inv; obtain ⟨u,rfl⟩:=ru.inv
 intro Q E k
 refine min_two_ints hh fun h' tk hk=>?_
 by_cases hc:b < a
 ·rw [if_pos hc]; exact k (.int (min a b)) _ (σ.up h' tk σ.g) (Ext.keeps H fun b o e=>hk b o e) (by rw [Int.min_eq_right (Int.le_of_lt hc)]; exact .int _ _) q
 ·rw [if_neg hc]; exact k (.int (min a b)) _ (σ.up h' tk σ.g) (Ext.keeps H fun b o e=>hk b o e) (by rw [Int.min_eq_left (Int.not_lt.mp hc)]; exact .int _ _) q
theorem zjl {s:Shared} {h':Heap} {o:Obj} (hk:∀ b x,b ∉ [s.heap.objs.size] -> (s.heap.push o).get? b = some x -> h'.get? b = some x):∀ b x,s.heap.get? b = some x -> h'.get? b = some x :=
 fun b x e=>hk b x (fun hm=>by rw [List.mem_singleton.mp hm] at e; exact Nat.lt_irrefl _ (Heap.lt_size e)) (Heap.get?_push_of_some _ e)
theorem zj4 (hh:A.handled = none) (all:Bool) {xs:List Bool} {v':Value} (H:HRel σ.g σ.s.heap) (h:SeqAt' σ.g σ.s.heap false (xs.map .bool) v') (q:K (.bool (cond all (xs.all id) (xs.any id))) σ.g.cs):Runs C A σ noOwn (call (.builtin (cond all "all" "any")) [v']) VR K:=by
 cases h with
 | mk l vs ep e rx hl =>
  intro Q E k
  have hI:σ.s.heap.IsList l vs.toArray:=⟨_,e,rfl,_,rfl⟩
  have hlt:l < σ.s.heap.objs.size:=Heap.lt_size e
  have at_:∀ (d:Bool) (i:Nat) (v:Value),vs.toArray[i]? = some v -> v = Value.bool ((xs[i]?).getD d):=fun d i v hP=>by
   rw [List.getElem?_toArray] at hP
   obtain ⟨x,hx,r⟩:=rx.get' hP
   rw [List.getElem?_map] at hx
   obtain ⟨b,hb,rfl⟩:=Option.map_eq_some_iff.mp hx
   cases r.inv
   rw [hb]; rfl
  have len:vs.toArray.size = xs.length:=by rw [List.size_toArray,rx.length,List.length_map]
  cases all with
  | true =>
   refine call_all_walk (wpAny_pyIter_list hI ?_)
   refine ⟨σ.s.heap.objs.size,[σ.s.heap.objs.size,l],[σ.s.heap.objs.size],vs.toArray.size,_,_,fun i=>(xs[i]?).getD true,rfl,Walks.list (A:=A.in1) hh _ l (Nat.ne_of_lt hlt) vs.toArray,
    ⟨⟨_,Heap.get?_push_size _ rfl,rfl,rfl⟩,hI.push _⟩,fun i v s' Q' E' hP hQ=>?_,fun h' tk hk=>?_⟩
   ·rw [at_ true i v hP]; exact wpAny_truthy_bool hQ
   ·rw [len,PyProof.Rows.LSm.range_all xs]
    exact k _ _ (σ.up h' tk σ.g) (Ext.keeps H fun b o e=>zjl hk b o e) (.bool _) q
  | false =>
   refine call_any_walk (wpAny_pyIter_list hI ?_)
   refine ⟨σ.s.heap.objs.size,[σ.s.heap.objs.size,l],[σ.s.heap.objs.size],vs.toArray.size,_,_,fun i=>(xs[i]?).getD false,rfl,Walks.list (A:=A.in1) hh _ l (Nat.ne_of_lt hlt) vs.toArray,
    ⟨⟨_,Heap.get?_push_size _ rfl,rfl,rfl⟩,hI.push _⟩,fun i v s' Q' E' hP hQ=>?_,fun h' tk hk=>?_⟩
   ·rw [at_ false i v hP]; exact wpAny_truthy_bool hQ
   ·rw [len,PyProof.Rows.LSm.range_any xs]
    exact k _ _ (σ.up h' tk σ.g) (Ext.keeps H fun b o e=>zjl hk b o e) (.bool _) q
theorem zk4 {g:Gh} {c:Int} (n:Nat):∀ (a:Int) (vs:List Value),vs.length = n -> (∀ (j:Nat) (v:Value),vs[j]? = some v -> ∃ t,v = Value.int (a + j * c) t) -> VRels g (rangeFrom c n a) vs:=by
 induction n with
 | zero=>intro a vs hl _; cases List.eq_nil_of_length_eq_zero hl; exact .nil
 | succ n ih =>
  intro a vs hl h
  cases vs with
  | nil=>cases hl
  | cons v vs =>
   obtain ⟨t,e⟩:=h 0 v rfl
   rw [show a + ((0:Nat):Int) * c = a by simp] at e
   subst e
   refine .cons (.int a t) (ih (a + c) vs (Nat.succ.inj hl) fun j v hj=>?_)
   obtain ⟨u,e⟩:=h (j + 1) v hj
   exact ⟨u,by rw [e]; congr 1; rw [Int.natCast_succ,Int.add_mul,Int.one_mul]; lia⟩
theorem zv2 (hh:A.handled = none) {a b c:Int} {n:Nat} {v':Value} (H:HRel σ.g σ.s.heap) (rv:VRel σ.g (.rng a b c) v') (h:Builtin.Range.small a b c = true) (hn:Builtin.Range.rangeSize a b c = n) (hl:n <= lim) (q:K (.lst (rangeFrom c n a)) σ.g.cs):Runs C A σ noOwn (call (.type "list") [v']) VR K:=by
 obtain ⟨r,t,u,w,rfl,hr⟩:=rv.inv
 intro Q E k
 refine call_list_range hh (H.fz _ _ hr) h hn (Nat.le_trans hl (by decide)) fun h' tk acc' c' hk e' I=>?_
 have e2:h'.get? σ.s.heap.objs.size = some (listO acc'.toList c'):=e'
 have rr:VRels σ.g (rangeFrom c n a) acc'.toList:=zk4 n a _ (by rw [Array.length_toList]; exact I.1) fun j v hj=>I.2 j v (by rw [<- Array.getElem?_toList]; exact hj)
 obtain ⟨v,σ',X,es,r2,q2⟩:=zms (c:=false) H rr hk (get?_size _) e2 ⟨by rw [rr.length.symm,Array.length_toList,I.1]; exact hl,q⟩ tk
 exact es ▸ k v _ σ' X r2 q2
theorem zlq (Fn:FnsOk C P) {f:V} {args:List V} {kws:Kws} (e:CallR P σ.g.cs K f args kws) (O:AOk A C.d) (H:HRel σ.g σ.s.heap) (B:Base C σ.g) :
  VRel σ.g f f' -> VRels σ.g args args' -> KRel σ.g kws kws' -> CallsOk C A σ K f' args' kws':=by
 cases e with
 | lenS q=>exact fun rf ra rk=>zay false "len" rf ra rk fun v' rv=>ofStr (f:=fun t=>.int _ t) H rv q (fun v=>call (.builtin "len") [v]) (fun _=>.int _ _) fun t Q E hx k=>PySem.P.len_str (Int.not_le.mpr (Int.lt_of_le_of_lt (Int.ofNat_le.mpr hx) (by decide))) (k _ _)
 | lenL h q=>exact fun rf ra rk=>zay false "len" rf ra rk fun v' rv=>len_ok H h rv q
 | ord q=>exact fun rf ra rk=>zay false "ord" rf ra rk fun v' rv=>ofStr (f:=fun t=>.int _ t) H rv q (fun v=>call (.builtin "ord") [v]) (fun _=>.int _ _) fun t Q E _ k=>PySem.P.ord_of_char (k _ _)
 | chr h q=>exact fun rf ra rk=>zay false "chr" rf ra rk fun v' rv=>ofInt (f:=fun t=>.str _ t) H rv q (fun v=>call (.builtin "chr") [v]) (fun _=>.str _ _ (show 1 <= lim by decide)) fun t Q E k =>
   PySem.P.chr_of_int (by rw [Bool.or_eq_false_iff]; exact ⟨decide_eq_false (Int.not_lt.mpr h.1),decide_eq_false (Int.not_le.mpr h.2)⟩) (k _ _)
 | max h q=>exact fun rf ra rk=>zay false "max" rf ra rk fun v' rv=>max_ok O.hh H (zav H h rv) q
 | max2 q=>exact fun rf ra rk=>zfd false "max" rf ra rk fun v' u' rv ru=>z1d O.hh H rv ru q
 | min2 q=>exact fun rf ra rk=>zfd false "min" rf ra rk fun v' u' rv ru=>z1c O.hh H rv ru q
 | any h q=>exact fun rf ra rk=>zay false "any" rf ra rk fun v' rv=>zj4 O.hh false H (zav H h rv) q
 | all h q=>exact fun rf ra rk=>zay false "all" rf ra rk fun v' rv=>zj4 O.hh true H (zav H h rv) q
 | divmod h q=>exact fun rf ra rk=>zfd false "divmod" rf ra rk fun v' u' rv ru=>zs2 H rv ru h q
 | strI h q=>exact fun rf ra rk=>zay true "str" rf ra rk fun v' rv=>ofInt (f:=fun t=>.str _ t) H rv q (fun v=>call (.type "str") [v]) (fun _=>.str _ _ (zuk _ h)) fun t Q E k=>PySem.P.str_of_int (Nat.lt_trans (zls h) (by decide)) (k _ _)
 | intB q=>exact fun rf ra rk=>zay true "int" rf ra rk fun v' rv=>z1v H rv q
 | rng1 q=>exact fun rf ra rk=>zay true "range" rf ra rk fun v' rv=>z0r H rv q
 | rng2 q=>exact fun rf ra rk=>zfd true "range" rf ra rk fun v' u' rv ru=>z0q H rv ru q
 | listR h hn hl q=>exact fun rf ra rk=>zay true "list" rf ra rk fun v' rv=>zv2 O.hh H rv h hn hl q
 | type h q=>exact fun rf ra rk=>zay true "type" rf ra rk fun v' rv=>zzo H h rv q
 | fn q =>
  intro rf ra rk
  cases rf.inv
  obtain ⟨kp,run⟩:=Fn _ O H B ra rk q
  exact ⟨kp,run.runs⟩
end
end Mine
end
section
namespace Mine
open PySem PySem.SeqAt
inductive Tgt where
 | nm (x:Str) (i:Nat) (p:Pos)
 | tup (xs:List (Str × Nat × Pos)) (k:Nat) (p:Pos)
noncomputable def Tgt.ast (t:Tgt):Expr:=Tgt.rec (fun x _ p=>.Name x p) (fun xs k p=>.Tuple (xs.map fun y=>.Name y.1 y.2.2) k p) t
noncomputable def ItOwn (os:List Addr) (σ:St):Prop:=∀ a ∈ os,(∃ o,σ.s.heap.get? a = some o) /\ σ.g.hf a = none /\ (∀ l,l < σ.g.cs.length -> σ.g.ρ l ≠ a) /\ ¬ σ.g.fl a
theorem ItOwn.ext {os:List Addr} {σ σ':St} {own:Addr -> Prop} (O:ItOwn os σ) (x:Ext σ σ' own):ItOwn os σ':=fun a ha=>by
 obtain ⟨⟨o,e⟩,h1,h2,h3⟩:=O a ha
 exact ⟨x.lives e,x.nhf e h1,x.nce e h2,x.le.fl.symm ▸ h3⟩
theorem ItOwn.kept {os:List Addr} {σ σ':St} {own:Addr -> Prop} (O:ItOwn os σ) (x:Ext σ σ' own) (no:∀ a ∈ os,¬ own a) (a:Addr) (ha:a ∈ os) (o:Obj) (e:σ.s.heap.get? a = some o):σ'.s.heap.get? a = some o :=
 x.exact e (fun l hl q=>(O a ha).2.2.1 l hl q.symm) (no a ha) (O a ha).2.2.2
noncomputable abbrev Kept (os:List Addr) (h h':Heap):Prop:=∀ b o,b ∉ os -> h.get? b = some o -> h'.get? b = some o
theorem zmk {os:List Addr} {σ:St} {h':Heap} (O:ItOwn os σ) (H:HRel σ.g σ.s.heap) (k:Kept os σ.s.heap h'):HRel σ.g h':=H.keep fun a o e q=>k a o (fun ha=>by
 rcases q with q | ⟨l,hl,q⟩ | q
 ·rw [(O a ha).2.1] at q; cases q
 ·exact (O a ha).2.2.1 l hl q.symm
 ·exact (O a ha).2.2.2 q) e
theorem zl8 {os:List Addr} {σ:St} {h':Heap} {tk:Nat} (O:ItOwn os σ) (H:HRel σ.g σ.s.heap) (k:Kept os σ.s.heap h') (lv:∀ a ∈ os,∃ o,h'.get? a = some o):Ext σ (σ.up h' tk σ.g) (· ∈ os) :=
 ⟨Le.refl _,fun _ _ e=>.inl e,fun l a b=>absurd b (Nat.not_lt.mpr a),fun a o e _ n=>⟨o,k a o n e,rfl,fun _=>rfl⟩,fun a o _ q=>lv a q,zmk (σ:=σ) O H k,rfl⟩
theorem zuo {os:List Addr} {σ:St} {h':Heap} {tk:Nat} {o:Obj} (O:ItOwn os σ) (H:HRel σ.g σ.s.heap) (k:Kept os σ.s.heap h') (lv:∀ a ∈ os,∃ o,h'.get? a = some o) (e':h'.get? σ.s.heap.objs.size = some o) (nc:∀ v,o.data ≠ .cell v) :
  Ext σ (σ.up h' tk (σ.g.freeze σ.s.heap.objs.size o)) (· ∈ os) :=
 have n:=get?_size σ.s.heap
 ⟨Le.freeze _ o (H.hf_none n),fun b o' q=>(zat q).elim (fun z=>.inr (z.1 ▸ n)) .inl,fun l a b=>absurd b (Nat.not_lt.mpr a),fun a o e _ n=>⟨o,k a o n e,rfl,fun _=>rfl⟩,fun a o _ q=>lv a q,
  H.freeze (fun a o q e=>k a o (fun ha=>by
   rcases q with q | ⟨l,hl,q⟩ | q
   ·rw [(O a ha).2.1] at q; cases q
   ·exact (O a ha).2.2.1 l hl q.symm
   ·exact (O a ha).2.2.2 q) e) (H.hf_none n) (fun l hl=>H.ne hl n) (H.nfl n) e' nc,rfl⟩
theorem Ext.fin {σ₀ σ:St} {own:Addr -> Prop} {os:List Addr} {h':Heap} {tk:Nat} (x:Ext σ₀ σ own) (O:ItOwn os σ) (k:Kept os σ.s.heap h') (f:∀ a ∈ os,σ₀.s.heap.get? a = none):Ext σ₀ (σ.up h' tk σ.g) own :=
 have kk:∀ a o,σ₀.s.heap.get? a = some o -> ∀ o',σ.s.heap.get? a = some o' -> h'.get? a = some o':=fun a o e o' e'=>k a o' (fun ha=>by rw [f a ha] at e; cases e) e'
 ⟨x.le,x.fresh,x.cfresh,fun a o e n q=>(x.keep a o e n q).imp fun o' z=>⟨kk a o e o' z.1,z.2⟩,fun a o e q=>(x.ownk a o e q).imp fun o' e'=>kk a o e o' e',zmk (σ:=σ) O x.H k,by have:=x.sh; show ({ σ.s with heap:=h',toks:=tk }:Shared) = _; rw [this]⟩
theorem FRel.keepH {g:Gh} {env:Env} {L:Str -> Option V} {h h':Heap} (F:FRel g env L h) (k:∀ a o,ownAll env a -> h.get? a = some o -> h'.get? a = some o):FRel g env L h' :=
 { F with
  ns:=by obtain ⟨m,⟨o,es,ep,e,q⟩,r⟩:=F.ns; exact ⟨m,⟨o,es,ep,k _ o (.inl rfl) e,q⟩,r⟩
  cell:=fun y hy=>by obtain ⟨c,w',e,⟨o,e1,e2⟩,r⟩:=F.cell y hy; exact ⟨c,w',e,⟨o,k _ o (.inr ⟨y,hy,e⟩) e1,e2⟩,r⟩ }
noncomputable def FinOk (C:Cx) (A:Around) (it:Addr) (os:List Addr) (σ:St):Prop:=∀ (Q:Option Value -> Shared -> Prop) (E:Value -> Shared -> Prop),(∀ h' tk,Kept os σ.s.heap h' -> Q none { σ.s with heap:=h',toks:=tk }) -> wpAny C.M A (pyNext (.ref it)) Q E σ.s
noncomputable def NxtOk (C:Cx) (A:Around) (t:Expr) (it:Addr) (os:List Addr) (P:St -> Prop) (v:V) (σ:St):Prop:=∀ (Q:Value -> Shared -> Prop) (E:Value -> Shared -> Prop),(∀ v' σ',Ext σ σ' (· ∈ os) -> σ'.g.cs = σ.g.cs -> P σ' -> VRel σ'.g v v' -> Q v' σ'.s) ->
  wpAny C.M A (pyNext (.ref it)) (fun r s₁=>∃ v',r = some v' /\ wpAny C.M A (letOwnedTupleGo t (.ref it) v') (fun _ s₂=>Q v' s₂) E s₁) E σ.s
noncomputable def SelfOk (C:Cx) (A:Around) (it:Addr) (s:Shared):Prop:=∀ (Q:Value -> Shared -> Prop) (E:Value -> Shared -> Prop),Q (.ref it) s -> wpAny C.M A (pyIter (.ref it)) Q E s
structure It (C:Cx) (t:Expr) (it:Addr) (os:List Addr) (P:Src -> St -> Prop):Prop where
 own:∀ src σ,P src σ -> ItOwn os σ
 ext:∀ src σ σ' ow,P src σ -> HRel σ.g σ.s.heap -> Ext σ σ' ow -> (∀ a ∈ os,¬ ow a) -> P src σ'
 fin:∀ A src σ,A.handled = none -> P src σ -> HRel σ.g σ.s.heap -> EndR σ.g.cs src -> FinOk C A it os σ
 nxt:∀ A src v src' σ,A.handled = none -> P src σ -> HRel σ.g σ.s.heap -> NextR σ.g.cs src v src' -> NxtOk C A t it os (P src') v σ
 self:∀ A src σ,A.handled = none -> P src σ -> SelfOk C A it σ.s
variable {C:Cx} {A:Around}
theorem zfx (t:Tgt) {s:Shared} {it:Addr} {v:Value} {n:String} {o:Obj} {vs:Array Value} {Q:Unit -> Shared -> Prop} {E:Value -> Shared -> Prop} (e:s.heap.get? it = some o) (e1:o.cls = .type n) (e2:o.data = .fields vs)
  (hn:["enumerate", "zip", "dict_itemiterator", "dict_reverseitemiterator", "odict_iterator", "itertools.zip_longest", "itertools.pairwise"].contains n = false) (h:Q () s):wpAny C.M A (letOwnedTupleGo t.ast (.ref it) v) Q E s:=by
 cases t with
 | nm x i p=>exact wpAny_pure h
 | tup xs k p =>
  cases v with
  | ref a =>
   show wpAny _ _ (load it >>= _) _ _ _
   refine wpAny_bind (wpAny_load e ?_)
   rw [e1,e2]
   show wpAny _ _ (if (_ && _) = true then _ else _) _ _ _
   rw [hn,Bool.false_and,if_neg Bool.false_ne_true]
   exact wpAny_pure h
  | _=>exact wpAny_pure h
theorem zm7 {xs:List V} {i:Nat} {cs:List Cell} (e:EndR cs (.items (xs.drop i))):xs[i]? = none:=by
 generalize hx:xs.drop i = ys at e
 cases e
 exact List.getElem?_eq_none_iff.mpr (List.drop_eq_nil_iff.mp hx)
theorem zjg {xs:List V} {i:Nat} {src:Src} {v:V} {cs:List Cell} (e:NextR cs (.items (xs.drop i)) v src):xs[i]? = some v /\ src = .items (xs.drop (i + 1)):=by
 generalize hx:xs.drop i = ys at e
 cases e with
 | items x ys =>
  have:(xs.drop i)[0]? = some v:=by rw [hx]; rfl
  rw [List.getElem?_drop] at this
  exact ⟨this,by rw [<- List.drop_drop,hx]; rfl⟩
structure Wk (C:Cx) (it:Addr) (fp:List Addr) (n:Nat) (R:Nat -> Value -> Prop) (S:Nat -> Heap -> Prop) (nm:String):Prop where
 w:∀ A:Around,A.handled = none -> Walks C.prog C.w A it (it :: fp) [it] n R S
 cls:∀ i h,S i h -> ∃ o vs,h.get? it = some o /\ o.cls = .type nm /\ o.data = .fields vs
 hn:["enumerate", "zip", "dict_itemiterator", "dict_reverseitemiterator", "odict_iterator", "itertools.zip_longest", "itertools.pairwise"].contains nm = false
structure WkS (xs:List V) (it:Addr) (fp:List Addr) (R:Nat -> Value -> Prop) (S:Nat -> Heap -> Prop) (i:Nat) (σ:St):Prop where
 own:ItOwn [it] σ
 fz:∀ b ∈ fp,∃ o,σ.g.hf b = some o
 rel:∀ i v x,R i v -> xs[i]? = some x -> VRel σ.g x v
 hi:i <= xs.length
 hs:S i σ.s.heap
inductive From (xs:List V) (P:Nat -> St -> Prop):Src -> St -> Prop
 | mk (i σ) (h:P i σ):From xs P (.items (xs.drop i)) σ
theorem It.ofWalks (t:Tgt) {xs:List V} {it:Addr} {fp:List Addr} {R:Nat -> Value -> Prop} {S:Nat -> Heap -> Prop} {nm:String} (W:Wk C it fp xs.length R S nm):It C t.ast it [it] (From xs (WkS xs it fp R S)) where
 own _ _ h:=by cases h with | mk i σ h=>exact h.own
 ext _ _ σ' _ h H x no:=by
  cases h with
  | mk i σ h =>
   refine .mk i σ' ⟨h.own.ext x,fun b hb=>(h.fz b hb).imp fun o e=>x.le.hf _ _ e,fun i v y r e=>(h.rel i v y r e).mono x.le,h.hi,(W.w (⟨none,0,none,none,1⟩:Around) rfl).frame i _ _ h.hs fun b hb o e=>?_⟩
   rcases List.mem_cons.mp hb with rfl | hb
   ·exact h.own.kept x no b (List.mem_singleton.mpr rfl) o e
   ·obtain ⟨o',q⟩:=h.fz b hb
    cases e.symm.trans (H.fz _ _ q)
    exact x.H.fz _ _ (x.le.hf _ _ q)
 fin _ _ _ hh h H e:=by
  cases h with
  | mk i σ h =>
   have hs:=h.hs
   rw [Nat.le_antisymm h.hi (List.getElem?_eq_none_iff.mp (zm7 e))] at hs
   exact fun Q E k=>(W.w _ hh).done _ _ _ hs k
 nxt A src v src' σ hh h H e:=by
  cases h with
  | mk i σ h =>
   obtain ⟨h2,rfl⟩:=zjg e
   have hl:=zaa h2
   refine fun Q E k=>(W.w _ hh).item i _ _ _ hl h.hs fun v' h' tk hR hS hk=>⟨v',rfl,?_⟩
   obtain ⟨o,vs,e1,e2,e3⟩:=W.cls _ _ hS
   have X:=zl8 (tk:=tk) h.own H hk fun a ha=>⟨o,List.mem_singleton.mp ha ▸ e1⟩
   exact zfx t (s:={ σ.s with heap:=h',toks:=tk }) e1 e2 e3 W.hn (k v' _ X rfl (.mk (i + 1) (σ.up h' tk σ.g) ⟨h.own.ext X,h.fz,h.rel,hl,hS⟩) (h.rel i v' _ hR h2))
 self _ _ _ hh h:=by
  cases h with | mk i σ h=>exact fun Q E k=>(W.w _ hh).self i _ _ _ h.hs k
theorem It.ofW (t:Tgt) {xs:List V} {it:Addr} {fp:List Addr} {n:Nat} {R:Nat -> Value -> Prop} {S:Nat -> Heap -> Prop} {nm:String} (hn:n = xs.length) (W:Wk C it fp n R S nm):It C t.ast it [it] (From xs (WkS xs it fp R S)):=by
 subst hn; exact .ofWalks t W
theorem zzi (it l:Addr) (ne:l ≠ it) (items:Array Value):Wk C it [l] items.size (fun i v=>items[i]? = some v) (fun i h=>h.IsListIter it l i /\ h.IsList l items) "list_iterator" :=
 ⟨fun A hh=>Walks.list hh it l ne items,fun i h hs=>by obtain ⟨⟨o,e1,e2,e3⟩,_⟩:=hs; exact ⟨o,_,e1,e2,e3⟩,by decide⟩
theorem zt4 (it l:Addr) (ne:l ≠ it) (items:Array Value):Wk C it [l] items.size (fun i v=>items[i]? = some v) (fun i h=>h.IsTupleIter it l i /\ h.IsTuple l items) "tuple_iterator" :=
 ⟨fun A hh=>Walks.tuple hh it l ne items,fun i h hs=>by obtain ⟨⟨o,e1,e2,e3⟩,_⟩:=hs; exact ⟨o,_,e1,e2,e3⟩,by decide⟩
theorem wk_rev (it l:Addr) (ne:l ≠ it) (items:Array Value):Wk C it [l] items.size (fun i v=>items[items.size - 1 - i]? = some v) (fun i h=>i <= items.size /\ h.IsRevIter it l ((items.size:Int) - 1 - (i:Int)) /\ h.IsList l items) "list_reverseiterator" :=
 ⟨fun A hh=>Walks.listRev hh it l ne items,fun i h hs=>by obtain ⟨_,⟨o,e1,e2,e3⟩,_⟩:=hs; exact ⟨o,_,e1,e2,e3⟩,by decide⟩
theorem zt5 (it:Addr) (a c:Int) (n:Nat):Wk C it [] n (fun i v=>∃ t,v = .int (a + i * c) t) (fun i h=>IsRangeIter h it (a + (i:Nat) * c) ((n:Int) - (i:Nat)) c) "range_iterator" :=
 ⟨fun A hh=>Walks.range hh it a c n,fun i h hs=>⟨_,_,hs,rfl,rfl⟩,by decide⟩
theorem zt6 (it:Addr) (x:Str) (t:Tok):Wk C it [] x.cps.size (SignAt x) (fun i h=>h.IsStrIter it "str_ascii_iterator" x t i) "str_ascii_iterator" :=
 ⟨fun A hh=>Walks.strAscii hh it x t,fun i h hs=>by obtain ⟨o,e1,e2,e3⟩:=hs; exact ⟨o,_,e1,e2,e3⟩,by decide⟩
theorem zzh (it:Addr) (x:Str) (t:Tok):Wk C it [] x.cps.size (SignAt x) (fun i h=>h.IsStrIter it "str_iterator" x t i) "str_iterator" :=
 ⟨fun A hh=>Walks.strWide hh it x t,fun i h hs=>by obtain ⟨o,e1,e2,e3⟩:=hs; exact ⟨o,_,e1,e2,e3⟩,by decide⟩
end Mine
end
section
namespace Mine
open PySem PySem.SeqAt
variable {C:Cx} {A:Around}
theorem mem1 {a b:Addr} (h:a ∈ [b]):a = b:=List.mem_singleton.mp h
theorem zmu {it:Addr} {h h':Heap} (k:Heap.ExtBut it h h'):Kept [it] h h':=fun b o hb e=>k b o (fun z=>hb (z ▸ List.mem_singleton.mpr rfl)) e
theorem zw4 {cs:List Cell} {l i:Nat} (e:EndR cs (.cell l i)):∃ xs,cs[l]? = some (.list xs) /\ xs[i]? = none:=by
 cases e with | cell h hx=>exact ⟨_,h,hx⟩
theorem zsq {cs:List Cell} {l i:Nat} (e:EndR cs (.enumc l i)):∃ xs,cs[l]? = some (.list xs) /\ xs[i]? = none:=by
 cases e with | enumc h hx=>exact ⟨_,h,hx⟩
theorem zq5 {cs:List Cell} {l i:Nat} {v:V} {src:Src} (e:NextR cs (.cell l i) v src):∃ xs,cs[l]? = some (.list xs) /\ xs[i]? = some v /\ src = .cell l (i + 1):=by
 cases e with | cell h hx=>exact ⟨_,h,hx,rfl⟩
theorem zoe {cs:List Cell} {l i:Nat} {v:V} {src:Src} (e:NextR cs (.enumc l i) v src):∃ xs x,cs[l]? = some (.list xs) /\ xs[i]? = some x /\ v = .tup [.int (i:Nat),x] /\ src = .enumc l (i + 1):=by
 cases e with | enumc h hx=>exact ⟨_,_,h,hx,rfl,rfl⟩
theorem zq2 {xs:List V} {vs:List Value} {g:Gh} {i:Nat} (r:VRels g xs vs) (h:xs[i]? = none):vs.toArray[i]? = none:=by
 rw [List.getElem?_toArray,List.getElem?_eq_none_iff,r.length]; exact List.getElem?_eq_none_iff.mp h
theorem zkn {vs:List Value} {i:Nat} {v:Value} (h:vs[i]? = some v):vs.toArray[i]? = some v:=List.getElem?_toArray.trans h
inductive LAt (σ:St) (a:Addr) (xs:List V):Prop
 | mk (vs ep) (e:σ.s.heap.get? a = some (listO vs ep)) (r:VRels σ.g xs vs)
theorem zer {σ:St} (H:HRel σ.g σ.s.heap) {l:Nat} {xs:List V} (h:σ.g.cs[l]? = some (.list xs)):LAt σ (σ.g.ρ l) xs:=by
 obtain ⟨vs,ep,q,r,_⟩:=H.ce l _ h
 exact ⟨vs,ep,q,r⟩
structure CellS (it:Addr) (l i:Nat) (σ:St):Prop where
 own:ItOwn [it] σ
 hi:σ.s.heap.IsListIter it (σ.g.ρ l) i
 hl:l < σ.g.cs.length
inductive CellP (it:Addr):Src -> St -> Prop
 | mk (l i σ) (h:CellS it l i σ):CellP it (.cell l i) σ
theorem It.cell (t:Tgt) (it:Addr):It C t.ast it [it] (CellP it) where
 own _ _ h:=by cases h with | mk l i σ h=>exact h.own
 ext _ _ σ' _ h H x no:=by
  cases h with
  | mk l i σ h=>exact .mk l i σ' ⟨h.own.ext x,(x.le.ρ l h.hl).symm ▸ h.hi.at fun o e=>h.own.kept x no it (List.mem_singleton.mpr rfl) o e,Nat.lt_of_lt_of_le h.hl x.le.n⟩
 fin _ _ _ hh h H e:=by
  cases h with
  | mk l i σ h =>
   obtain ⟨xs,hx,hn⟩:=zw4 e
   obtain ⟨vs,ep,q,r⟩:=zer H hx
   exact fun Q E k=>wpAny_pyNext_list_end hh h.hi ⟨_,q,rfl,_,rfl⟩ (zq2 r hn) fun h' hs=>k h' _ (zmu hs)
 nxt A src v src' σ hh h H e:=by
  cases h with
  | mk l i σ h =>
   obtain ⟨xs,hx,hn,rfl⟩:=zq5 e
   obtain ⟨vs,ep,q,r⟩:=zer H hx
   obtain ⟨v',hv,rv⟩:=r.get hn
   refine fun Q E k=>wpAny_pyNext_list_item h.hi ⟨_,q,rfl,_,rfl⟩ (zkn hv) fun h' hi' hs=>⟨v',rfl,?_⟩
   obtain ⟨o,e1,e2,e3⟩:=id hi'
   have X:=zl8 (tk:=σ.s.toks) h.own H (zmu hs.extBut) fun a ha=>⟨o,mem1 ha ▸ e1⟩
   exact zfx t (s:={ σ.s with heap:=h' }) e1 e2 e3 (by decide) (k v' (σ.up h' σ.s.toks σ.g) X rfl (.mk l (i + 1) _ ⟨h.own.ext X,hi',h.hl⟩) rv)
 self _ _ _ hh h:=by
  cases h with | mk l i σ h=>exact fun Q E k=>wpAny_pyIter_listiter h.hi k
theorem mem2 {a b c:Addr} (h:a ∈ [b,c]):a = b \/ a = c:=(List.mem_cons.mp h).imp id mem1
theorem zjt {t:Tgt} (ht:∃ xs k p,t = .tup xs k p) {e it a:Addr} {i:Nat} {σ:St} {xs:List V} {x:V} {P:St -> Prop} (O:ItOwn [e,it] σ) (H:HRel σ.g σ.s.heap) (he:∃ old,IsEnum σ.s.heap e it i old) (hi:σ.s.heap.IsListIter it a i) (ne:e ≠ it) (hl:LAt σ a xs) (hx:xs[i]? = some x)
  (hP:∀ σ',Ext σ σ' (· ∈ [e,it]) -> (∃ old,IsEnum σ'.s.heap e it ((i + 1:Nat):Int) old) -> σ'.s.heap.IsListIter it a (i + 1) -> σ'.g.ρ = σ.g.ρ -> σ'.g.cs = σ.g.cs -> P σ'):NxtOk C A t.ast e [e,it] P (.tup [.int (i:Nat),x]) σ:=by
 obtain ⟨old,he⟩:=he
 obtain ⟨vs,ep,q,r⟩:=hl
 obtain ⟨v',hv,rv⟩:=r.get hx
 obtain ⟨ts,tk,tp,rfl⟩:=ht
 refine fun Q E k=>wpAny_pyNext_enum_item he hi ⟨_,q,rfl,_,rfl⟩ (zkn hv) ne fun h' he' hi' ht' _ hk=>⟨_,rfl,?_⟩
 refine wpAny_letOwnedTupleGo_enum he' fun h'' he'' hs=>?_
 have sz:=get?_size σ.s.heap
 obtain ⟨o,e1,e2,e3⟩:=hi'
 have e1':=hs.extBut _ _ (Ne.symm ne) e1
 have nsz:σ.s.heap.objs.size ≠ e:=fun z=>by rw [z] at sz; rw [he] at sz; cases sz
 have X:=zuo (tk:=σ.s.toks + 1) (h':=h'') (o:=tupO [.int i σ.s.toks,v'] 0) O H (fun b o hb e=>by
  have hb1:b ≠ _:=fun z=>hb (List.mem_cons.mpr (.inl z))
  exact hs.extBut b o hb1 (hk b o hb1 (fun z=>hb (List.mem_cons.mpr (.inr (List.mem_singleton.mpr z)))) e)) (fun a ha=>(mem2 ha).elim (fun z=>⟨_,z ▸ he''⟩) fun z=>⟨o,z ▸ e1'⟩) (hs.extBut _ _ nsz ht') (fun _ e=>(nomatch e))
 exact k _ _ X rfl (hP _ X ⟨v',he''⟩ ⟨o,e1',e2,e3⟩ rfl rfl) (.tup (vs:=[_,_]) (zam ..) (.cons (.int _ _) (.cons (rv.mono X.le) .nil)) (show 2 <= lim by decide))
theorem zm6 {e it a:Addr} {i:Nat} {σ:St} {xs:List V} (hh:A.handled = none) (he:∃ old,IsEnum σ.s.heap e it i old) (hi:σ.s.heap.IsListIter it a i) (hl:LAt σ a xs) (hx:xs[i]? = none):FinOk C A e [e,it] σ:=by
 obtain ⟨old,he⟩:=he
 obtain ⟨vs,ep,q,r⟩:=hl
 exact fun Q E k=>wpAny_pyNext_enum_end hh he hi ⟨_,q,rfl,_,rfl⟩ (zq2 r hx) fun h' hs=>k h' _ fun b o hb e=>hs b o (fun z=>hb (z ▸ List.mem_cons_of_mem _ (List.mem_singleton.mpr rfl))) e
theorem zm5 {e it a:Addr} {i:Nat} {σ σ':St} {ow:Addr -> Prop} (O:ItOwn [e,it] σ) (x:Ext σ σ' ow) (no:∀ a ∈ [e,it],¬ ow a) (he:∃ old,IsEnum σ.s.heap e it i old) (hi:σ.s.heap.IsListIter it a i):(∃ old,IsEnum σ'.s.heap e it i old) /\ σ'.s.heap.IsListIter it a i:=by
 obtain ⟨o,e1,e2,e3⟩:=hi
 exact ⟨he.imp fun old he=>O.kept x no _ List.mem_cons_self _ he,o,O.kept x no _ (List.mem_cons_of_mem _ (List.mem_singleton.mpr rfl)) _ e1,e2,e3⟩
structure EnumcS (e it:Addr) (l i:Nat) (σ:St):Prop where
 own:ItOwn [e,it] σ
 ne:e ≠ it
 he:∃ old,IsEnum σ.s.heap e it (i:Nat) old
 hi:σ.s.heap.IsListIter it (σ.g.ρ l) i
 hl:l < σ.g.cs.length
inductive EnumcP (e it:Addr):Src -> St -> Prop
 | mk (l i σ) (h:EnumcS e it l i σ):EnumcP e it (.enumc l i) σ
theorem It.enumc {t:Tgt} (ht:∃ xs k p,t = .tup xs k p) (e it:Addr):It C t.ast e [e,it] (EnumcP e it) where
 own _ _ h:=by cases h with | mk l i σ h=>exact h.own
 ext _ _ σ' _ h H x no:=by
  cases h with
  | mk l i σ h =>
   have q:=zm5 h.own x no h.he h.hi
   exact .mk l i σ' ⟨h.own.ext x,h.ne,q.1,(x.le.ρ l h.hl).symm ▸ q.2,Nat.lt_of_lt_of_le h.hl x.le.n⟩
 fin _ _ _ hh h H q:=by
  cases h with
  | mk l i σ h =>
   obtain ⟨xs,hx,hn⟩:=zsq q
   exact zm6 hh h.he h.hi (zer H hx) hn
 nxt _ _ _ _ _ hh h H q:=by
  cases h with
  | mk l i σ h =>
   obtain ⟨xs,x,hx,hn,rfl,rfl⟩:=zoe q
   exact zjt ht h.own H h.he h.hi h.ne (zer H hx) hn fun σ' X h1 h2 eρ ec=>.mk l (i + 1) σ' ⟨h.own.ext X,h.ne,h1,eρ ▸ h2,ec ▸ h.hl⟩
 self _ _ _ hh h:=by
  cases h with | mk l i σ h=>exact h.he.elim fun old he Q E k=>wpAny_pyIter_enum he k
theorem zsn (xs:List V):∀ k,(enumV xs k).length = xs.length:=by
 induction xs with
 | nil=>intro k; rfl
 | cons x xs ih=>intro k; exact congrArg (· + 1) (ih (k + 1))
theorem zso {xs:List V}:∀ {k i:Nat} {v:V},(enumV xs k)[i]? = some v -> ∃ x,xs[i]? = some x /\ v = .tup [.int ((k + i:Nat):Int),x]:=by
 induction xs with
 | nil=>exact fun e=>nomatch e
 | cons x xs ih =>
  intro k i v e
  cases i with
  | zero=>cases e; exact ⟨x,rfl,rfl⟩
  | succ i =>
   obtain ⟨y,h1,h2⟩:=ih (k:=k + 1) (i:=i) e
   exact ⟨y,h1,by rw [h2,Nat.add_assoc,Nat.add_comm 1 i]⟩
inductive Frz (g:Gh) (a:Addr) (xs:List V):Prop
 | mk (vs ep) (e:g.hf a = some (listO vs ep)) (r:VRels g xs vs)
theorem zjq {σ:St} (H:HRel σ.g σ.s.heap) {a:Addr} {xs:List V} (h:Frz σ.g a xs):LAt σ a xs:=by cases h with | mk vs ep q r=>exact .mk vs ep (H.fz _ _ q) r
theorem Frz.mono {g g':Gh} {a:Addr} {xs:List V} (h:Frz g a xs) (L:Le g g'):Frz g' a xs:=by cases h with | mk vs ep q r=>exact .mk vs ep (L.hf _ _ q) (vmono r L)
structure EnumS (xs:List V) (e it a:Addr) (i:Nat) (σ:St):Prop where
 own:ItOwn [e,it] σ
 ne:e ≠ it
 fz:Frz σ.g a xs
 he:∃ old,IsEnum σ.s.heap e it (i:Nat) old
 hi:σ.s.heap.IsListIter it a i
theorem zop {xs:List V} {i:Nat} (h:(enumV xs 0)[i]? = none):xs[i]? = none:=by
 rw [List.getElem?_eq_none_iff] at h ⊢
 rw [zsn] at h; exact h
theorem It.enum {t:Tgt} (ht:∃ xs k p,t = .tup xs k p) (xs:List V) (e it a:Addr):It C t.ast e [e,it] (From (enumV xs 0) (EnumS xs e it a)) where
 own _ _ h:=by cases h with | mk i σ h=>exact h.own
 ext _ _ σ' _ h H x no:=by
  cases h with
  | mk i σ h =>
   have q:=zm5 h.own x no h.he h.hi
   exact .mk i σ' ⟨h.own.ext x,h.ne,h.fz.mono x.le,q.1,q.2⟩
 fin _ _ _ hh h H q:=by
  cases h with | mk i σ h=>exact zm6 hh h.he h.hi (zjq H h.fz) (zop (zm7 q))
 nxt _ _ _ _ _ hh h H q:=by
  cases h with
  | mk i σ h =>
   obtain ⟨h2,rfl⟩:=zjg q
   obtain ⟨x,hx,rfl⟩:=zso h2
   rw [Nat.zero_add]
   exact zjt ht h.own H h.he h.hi h.ne (zjq H h.fz) hx fun σ' X h1 h2 eρ ec=>.mk (i + 1) σ' ⟨h.own.ext X,h.ne,h.fz.mono X.le,h1,h2⟩
 self _ _ _ hh h:=by
  cases h with | mk i σ h=>exact h.he.elim fun old he Q E k=>wpAny_pyIter_enum he k
section
variable {a b c d e f:Addr}
end
end Mine
end
section
namespace Mine
open PySem PySem.SeqAt
variable {C:Cx} {A:Around} {σ:St}
noncomputable abbrev KS:=Src -> List Cell -> Prop
noncomputable def ItRuns (C:Cx) (A:Around) (t:Tgt) (σ:St) (tr:(Value -> Shared -> Prop) -> (Value -> Shared -> Prop) -> Prop) (K:KS):Prop :=
 ∀ (Q:Value -> Shared -> Prop) (E:Value -> Shared -> Prop),(∀ src it os P σ',Ext σ σ' noOwn -> It C t.ast it os P -> P src σ' -> (∀ a ∈ os,σ.s.heap.get? a = none) -> K src σ'.g.cs -> Q (.ref it) σ'.s) -> tr Q E
theorem zk6 {os:List Addr} {h':Heap} {t:Nat} (H:HRel σ.g σ.s.heap) (fr:∀ a ∈ os,σ.s.heap.get? a = none) (lv:∀ a ∈ os,∃ o,h'.get? a = some o):ItOwn os (σ.up h' t σ.g) :=
 fun a ha=>⟨lv a ha,H.hf_none (fr a ha),fun l hl=>H.ne hl (fr a ha),H.nfl (fr a ha)⟩
theorem zfz {t:Tgt} {tr:(Value -> Shared -> Prop) -> (Value -> Shared -> Prop) -> Prop} {K:KS} {src:Src} {P:Src -> St -> Prop} (o:Obj) (H:HRel σ.g σ.s.heap) (hf:o.isFreed = false) (I:It C t.ast σ.s.heap.objs.size [σ.s.heap.objs.size] P) (q:K src σ.g.cs)
  (p:(σ.s.heap.push o).get? σ.s.heap.objs.size = some o -> ∀ tk,ItOwn [σ.s.heap.objs.size] (σ.up (σ.s.heap.push o) tk σ.g) -> P src (σ.up (σ.s.heap.push o) tk σ.g))
  (h:∀ (Q:Value -> Shared -> Prop) (E:Value -> Shared -> Prop),(∀ tk,Q (.ref σ.s.heap.objs.size) { σ.s with heap:=σ.s.heap.push o,toks:=tk }) -> tr Q E):ItRuns C A t σ tr K:=fun Q E k =>
 h Q E fun tk =>
  have e:=Heap.get?_push_size (o:=o) σ.s.heap hf
  have fr:∀ a ∈ [σ.s.heap.objs.size],σ.s.heap.get? a = none:=fun a ha=>mem1 ha ▸ get?_size _
  k src _ _ P (σ.up _ tk σ.g) (Ext.keeps H fun a o e=>Heap.get?_push_of_some _ e) I (p e tk (zk6 H fr fun a ha=>⟨o,mem1 ha ▸ e⟩)) fr q
theorem zh2 (c:Int) (n:Nat):∀ a,(rangeFrom c n a).length = n:=by
 induction n with
 | zero=>intro a; rfl
 | succ n ih=>intro a; exact congrArg (· + 1) (ih (a + c))
theorem zh3 (c:Int) (n:Nat):∀ {a:Int} {i:Nat} {v:V},(rangeFrom c n a)[i]? = some v -> v = .int (a + i * c):=by
 induction n with
 | zero=>exact fun e=>nomatch e
 | succ n ih =>
  intro a i v e
  cases i with
  | zero=>cases e; rw [Int.natCast_zero,Int.zero_mul,Int.add_zero]
  | succ i =>
   rw [ih (a:=a + c) (i:=i) e,Int.natCast_add,Int.natCast_one,Int.add_mul,Int.one_mul,Int.add_assoc,Int.add_comm c]
theorem ze3 (a b c:Int):0 <= Builtin.Range.rangeSize a b c:=by
 unfold Builtin.Range.rangeSize
 split
 ·split
  ·exact Int.add_nonneg (Int.ediv_nonneg (by lia) (Int.le_of_lt ‹_›)) (by decide)
  ·exact Int.le_refl _
 ·split
  ·exact Int.add_nonneg (Int.ediv_nonneg (by lia) (by lia)) (by decide)
  ·exact Int.le_refl _
noncomputable abbrev iterOf (C:Cx) (A:Around) (v:Value) (s:Shared):(Value -> Shared -> Prop) -> (Value -> Shared -> Prop) -> Prop:=fun Q E=>wpAny C.M A (pyIter v) Q E s
theorem zk2 {xs:List V} {vs:List Value} (r:VRels σ.g xs vs) (i:Nat) (v:Value) (x:V) (hv:vs.toArray[i]? = some v) (hx:xs[i]? = some x):VRel σ.g x v:=by
 obtain ⟨v',h,rv⟩:=r.get hx
 cases hv.symm.trans (zkn h)
 exact rv
theorem from0 {xs:List V} {P:Nat -> St -> Prop} (h:P 0 σ):From xs P (.items xs) σ:=.mk (xs:=xs) 0 σ h
theorem zfw {a b:Addr} {h:Heap} {o:Obj} (e:h.get? a = some o) (n:h.get? b = none):a ≠ b:=fun q=>by rw [q,n] at e; cases e
theorem src_ok {v:V} {v':Value} {src:Src} {K:KS} (t:Tgt) (e:SrcR σ.g.cs v src) (H:HRel σ.g σ.s.heap) (r:VRel σ.g v v') (q:K src σ.g.cs):ItRuns C A t σ (iterOf C A v' σ.s) K:=by
 have sz:=get?_size σ.s.heap
 cases e with
 | tup xs =>
  obtain ⟨a,vs,ep,rfl,e,r,hl⟩:=r.inv
  have W:=It.ofW (C:=C) t r.length (zt4 σ.s.heap.objs.size a (zfw (H.fz _ _ e) sz) vs.toArray)
  exact zfz { cls:=.type "tuple_iterator",data:=.fields #[.ref a,.int 0 0] } H rfl W q (fun e1 tk O=>from0 ⟨O,fun b hb=>⟨_,mem1 hb ▸ e⟩,zk2 r,Nat.zero_le _,⟨_,e1,rfl,rfl⟩,⟨_,Heap.get?_push_of_some _ (H.fz _ _ e),rfl,_,rfl⟩⟩)
   fun Q E k=>wpAny_pyIter_tuple ⟨_,H.fz _ _ e,rfl,_,rfl⟩ (k _)
 | lst xs =>
  obtain ⟨a,vs,ep,rfl,e,r,hl⟩:=r.inv
  have W:=It.ofW (C:=C) t r.length (zzi σ.s.heap.objs.size a (zfw (H.fz _ _ e) sz) vs.toArray)
  exact zfz { cls:=.type "list_iterator",data:=.fields #[.ref a,.int 0 0] } H rfl W q (fun e1 tk O=>from0 ⟨O,fun b hb=>⟨_,mem1 hb ▸ e⟩,zk2 r,Nat.zero_le _,⟨_,e1,rfl,rfl⟩,⟨_,Heap.get?_push_of_some _ (H.fz _ _ e),rfl,_,rfl⟩⟩)
   fun Q E k=>wpAny_pyIter_list ⟨_,H.fz _ _ e,rfl,_,rfl⟩ (k _)
 | @str x ha =>
  obtain ⟨u,rfl,hx⟩:=r.inv
  have hlen:(charsV x).length = x.cps.size:=List.length_map _
  have W:=It.ofW (C:=C) t hlen.symm (zt6 σ.s.heap.objs.size x u)
  exact zfz { cls:=.type "str_ascii_iterator",data:=.fields #[.str x u,.int 0 0] } H rfl W q (fun e1 tk O=>from0 ⟨O,fun b hb=>(nomatch hb),fun i v y hR hy=>by
    obtain ⟨c,tk,h1,rfl⟩:=hR
    unfold charsV at hy
    rw [List.getElem?_map,Array.getElem?_toList,h1] at hy
    cases hy
    exact .str _ _ (show 1 <= lim by decide),Nat.zero_le _,⟨_,e1,rfl,rfl⟩⟩)
   fun Q E k=>wpAny_pyIter_ascii ha (k _)
 | @strW x ha =>
  obtain ⟨u,rfl,hx⟩:=r.inv
  have hlen:(charsV x).length = x.cps.size:=List.length_map _
  have W:=It.ofW (C:=C) t hlen.symm (zzh σ.s.heap.objs.size x u)
  exact zfz { cls:=.type "str_iterator",data:=.fields #[.str x u,.int 0 0] } H rfl W q (fun e1 tk O=>from0 ⟨O,fun b hb=>(nomatch hb),fun i v y hR hy=>by
    obtain ⟨c,tk,h1,rfl⟩:=hR
    unfold charsV at hy
    rw [List.getElem?_map,Array.getElem?_toList,h1] at hy
    cases hy
    exact .str _ _ (show 1 <= lim by decide),Nat.zero_le _,⟨_,e1,rfl,rfl⟩⟩)
   fun Q E k=>wpAny_pyIter_wide ha (k _)
 | @rng a b c hc =>
  obtain ⟨r,t1,t2,t3,rfl,e⟩:=r.inv
  have hlen:=zh2 c (Builtin.Range.rangeSize a b c).toNat a
  have W:=It.ofW (C:=C) t (xs:=rangeV a b c) hlen.symm (zt5 σ.s.heap.objs.size a c (Builtin.Range.rangeSize a b c).toNat)
  exact zfz { cls:=.type "range_iterator",data:=.fields #[rawInt a,rawInt (Builtin.Range.rangeSize a b c),rawInt c] } H rfl W q (fun e1 tk O=>from0 ⟨O,fun b hb=>(nomatch hb),fun i v y hR hy=>by
    obtain ⟨tk,rfl⟩:=hR
    rw [zh3 c _ hy]
    exact .int _ _,Nat.zero_le _,by
    show IsRangeIter _ _ (a + ((0:Nat):Int) * c) (((Builtin.Range.rangeSize a b c).toNat:Int) - ((0:Nat):Int)) c
    rw [Int.toNat_of_nonneg (ze3 a b c),Int.natCast_zero,Int.zero_mul,Int.add_zero,Int.sub_zero]
    exact e1⟩)
   fun Q E k=>wpAny_pyIter_range (H.fz _ _ e) hc.1 (k _)
 | @cell l xs hx =>
  obtain ⟨rfl,hl⟩:=r.inv
  obtain ⟨vs,ep,e,r⟩:=zer H hx
  exact zfz { cls:=.type "list_iterator",data:=.fields #[.ref (σ.g.ρ l),.int 0 0] } H rfl (It.cell t _) q (fun e1 tk O=>.mk l 0 _ ⟨O,⟨_,e1,rfl,rfl⟩,hl⟩)
   fun Q E k=>wpAny_pyIter_list ⟨_,e,rfl,_,rfl⟩ (k _)
noncomputable abbrev callIter (C:Cx) (A:Around) (f:String) (vs:List Value) (s:Shared):(Value -> Shared -> Prop) -> (Value -> Shared -> Prop) -> Prop:=fun Q E=>wpAny C.M A (call (.type f) vs) (fun x s₁=>wpAny C.M A (pyIter x) Q E s₁) E s
theorem z2g {v:V} {v':Value} {src:Src} {K:KS} {t:Tgt} (ht:∃ xs k p,t = .tup xs k p) (e:EnumR σ.g.cs v src) (H:HRel σ.g σ.s.heap) (r:VRel σ.g v v') (q:K src σ.g.cs):ItRuns C A t σ (callIter C A "enumerate" [v'] σ.s) K:=by
 have fr:∀ a ∈ [σ.s.heap.objs.size + 1,σ.s.heap.objs.size],σ.s.heap.get? a = none:=fun a ha=>get?_ge ((mem2 ha).elim (fun z=>z ▸ Nat.le_succ _) fun z=>z ▸ Nat.le_refl _)
 have lv:∀ {h':Heap} {l:Addr} {i:Nat},IsEnum h' (σ.s.heap.objs.size + 1) σ.s.heap.objs.size 0 .none -> h'.IsListIter σ.s.heap.objs.size l i -> ∀ a ∈ [σ.s.heap.objs.size + 1,σ.s.heap.objs.size],∃ o,h'.get? a = some o:=fun hE hI a ha=>(mem2 ha).elim (fun z=>⟨_,z ▸ hE⟩) fun z=>z ▸ hI.imp fun _ h=>h.1
 cases e with
 | lst xs =>
  obtain ⟨a,vs,ep,rfl,e,r,hl⟩:=r.inv
  exact fun Q E k=>call_enumerate_list ⟨_,H.fz _ _ e,rfl,_,rfl⟩ fun h' hE hI hsz hk=>wpAny_pyIter_enum hE
   (k _ _ _ _ (σ.up h' σ.s.toks σ.g) (Ext.keeps H hk) (It.enum ht xs _ _ a) (from0 (P:=EnumS xs _ _ a) ⟨zk6 H fr (lv hE hI),Nat.succ_ne_self _,.mk vs ep e r,⟨_,hE⟩,hI⟩) fr q)
 | @cell l xs hx =>
  obtain ⟨rfl,hl⟩:=r.inv
  obtain ⟨vs,ep,e,r⟩:=zer H hx
  exact fun Q E k=>call_enumerate_list ⟨_,e,rfl,_,rfl⟩ fun h' hE hI hsz hk=>wpAny_pyIter_enum hE
   (k _ _ _ _ (σ.up h' σ.s.toks σ.g) (Ext.keeps H hk) (It.enumc ht _ _) (.mk l 0 _ ⟨zk6 H fr (lv hE hI),Nat.succ_ne_self _,⟨_,hE⟩,hI,hl⟩) fr q)
theorem rev_ok {xs:List V} {v':Value} {K:KS} (t:Tgt) (H:HRel σ.g σ.s.heap) (r:VRel σ.g (.lst xs) v') (q:K (.items xs.reverse) σ.g.cs):ItRuns C A t σ (callIter C A "reversed" [v'] σ.s) K:=by
 obtain ⟨a,vs,ep,rfl,e,r,hl⟩:=r.inv
 have sz:=get?_size σ.s.heap
 have W:=It.ofW (C:=C) t (xs:=xs.reverse) (r.length.trans List.length_reverse.symm) (wk_rev σ.s.heap.objs.size a (zfw (H.fz _ _ e) sz) vs.toArray)
 refine zfz (revObj a ((vs.toArray.size:Int) - 1)) H rfl W q (fun e1 tk O=>from0 ⟨O,fun b hb=>⟨_,mem1 hb ▸ e⟩,fun i v x hv hx=>?_,Nat.zero_le _,Nat.zero_le _,?_,⟨_,Heap.get?_push_of_some _ (H.fz _ _ e),rfl,_,rfl⟩⟩)
  fun Q E k=>call_reversed_list ⟨_,H.fz _ _ e,rfl,_,rfl⟩ (wpAny_pyIter_revIter ⟨_,Heap.get?_push_size _ rfl,rfl,rfl⟩ (k _))
 ·have hi:=zaa hx
  rw [List.length_reverse] at hi
  rw [List.getElem?_reverse hi,<- r.length] at hx
  exact zk2 r _ v x hv hx
 ·exact ⟨_,e1,rfl,by rw [Int.natCast_zero,Int.sub_zero]; rfl⟩
end Mine
end
section
namespace Mine
open PySem PySem.SeqAt
noncomputable def isOwnB (sc:Scope) (x:Str):Bool:=match sc.names.lookup x with
 | some .local=>true
 | some .cell=>true
 | _=>false
theorem zwd {env:Env} {x:Str} (h:isOwnB env.scope x = true):isL env x:=by
 unfold isOwnB at h
 have e:env.kindOf x = env.scope.names.lookup x:=rfl
 unfold isL
 rw [e]
 cases q:env.scope.names.lookup x with
 | none=>rw [q] at h; cases h
 | some k=>rw [q] at h; cases k <;> first | exact .inl rfl | exact .inr rfl | cases h
noncomputable def slotOk (ns:List Str) (x:Str) (i:Nat):Bool:=ns.idxOf x == i && Nat.blt i ns.length
noncomputable def tgt1 (sc:Scope) (ns:List Str) (x:Str) (i:Nat):Bool:=isOwnB sc x && slotOk ns x i
noncomputable def Tgt.ok (sc:Scope) (ns:List Str) (t:Tgt):Bool:=Tgt.rec (fun x i _=>tgt1 sc ns x i) (fun xs _ _=>xs.all fun y=>tgt1 sc ns y.1 y.2.1) t
noncomputable def binds (xs:List (Str × Nat × Pos)):List V -> Slots -> Option Slots :=
 List.rec (fun vs sl=>List.rec (some sl) (fun _ _ _=>none) vs) (fun x _ ih vs sl=>List.rec none (fun v vs _=>ih vs (sl.set x.2.1 (some v))) vs) xs
noncomputable def itemsOf (v:V):Option (List V):=V.rec (motive_1:=fun _=>Option (List V)) (motive_2:=fun _=>Unit) none (fun _=>none) (fun _=>none) (fun _=>none) (fun _=>none) (fun _=>none) (fun _=>none) (fun _=>none) (fun xs _=>some xs) (fun xs _=>some xs) (fun _ _ _=>none) (fun _ _ _=>none) (fun _ _ _=>none) () (fun _ _ _ _=>()) v
noncomputable def Tgt.bind (t:Tgt) (v:V) (sl:Slots):Option Slots:=Tgt.rec (fun _ i _=>some (sl.set i (some v))) (fun xs _ _=>Option.rec none (fun vs=>binds xs vs sl) (itemsOf v)) t
noncomputable def Tgt.has (t:Tgt) (x:Str):Prop:=Tgt.rec (fun y _ _=>x = y) (fun xs _ _=>∃ y ∈ xs,y.1 = x) t
variable {C:Cx} {Φ:Fm} {σ:St} {ns:List Str}
noncomputable def BindsOk (C:Cx) (Φ:Fm) (L:Str -> Option V) (ow:Addr -> Prop) (σ:St) (tr:Sem Unit):Prop :=
 ∀ (Q:Unit -> Shared -> Prop) (E:Value -> Shared -> Prop),(∀ σ',Ext σ σ' ow -> σ'.g.cs = σ.g.cs -> Std C Φ L σ' -> Q () σ'.s) -> wpAny C.M Φ.A tr Q E σ.s
theorem zkh {env:Env} {x:Str} {i:Nat} (h:tgt1 env.scope ns x i = true):isL env x /\ ns.idxOf x = i /\ i < ns.length:=by
 unfold tgt1 slotOk at h
 rw [Bool.and_eq_true,Bool.and_eq_true] at h
 exact ⟨zwd h.1,eq_of_beq h.2.1,Nat.blt_eq.mp h.2.2⟩
theorem store1 {sl:Slots} {x:Str} {i:Nat} {v:V} {v':Value} {ow:Addr -> Prop} (S:Std C Φ (look ns sl) σ) (h:tgt1 Φ.env.scope ns x i = true) (r:VRel σ.g v v') (o1:ow Φ.env.locals) (o2:∀ c,Φ.env.kindOf x = some .cell -> Φ.env.cells.lookup x = some c -> ow c) :
  BindsOk C Φ (look ns (sl.set i (some v))) ow σ (storeName Φ.env x v'):=fun Q E k =>
 zun S (zkh h).1 (fun y u e=>zv1 (zkh h).2.1 (zkh h).2.2 e) r o1 o2 fun σ' X S' c=>k σ' X c S'
theorem zxs {ow:Addr -> Prop} (o1:ow Φ.env.locals) (xs:List (Str × Nat × Pos)):∀ {vs:List V} {vs':List Value} {sl sl':Slots} {σ:St},(∀ y ∈ xs,∀ c,Φ.env.kindOf y.1 = some .cell -> Φ.env.cells.lookup y.1 = some c -> ow c) -> Std C Φ (look ns sl) σ -> xs.all (fun y=>tgt1 Φ.env.scope ns y.1 y.2.1) = true ->
  binds xs vs sl = some sl' -> VRels σ.g vs vs' -> BindsOk C Φ (look ns sl') ow σ (assignInOrder ((assignEach (xs.map fun y=>.Name y.1 y.2.2) Φ.env).map (·.2)) vs'):=by
 induction xs with
 | nil =>
  intro vs vs' sl sl' σ _ S _ e r Q E k
  cases vs with
  | nil=>cases r.nil_of; cases e; exact wpAny_pure (k σ (Ext.refl S.H _) rfl S)
  | cons=>cases e
 | cons y xs ih =>
  intro vs vs' sl sl' σ o2 S h e r Q E k
  rw [List.all_cons,Bool.and_eq_true] at h
  cases vs with
  | nil=>cases e
  | cons v vs =>
   obtain ⟨v',r',rfl,rv,rr⟩:=r.cons_of
   show wpAny _ _ (assignInOrder (assign (.Name y.1 y.2.2) Φ.env :: (assignEach (xs.map fun y=>.Name y.1 y.2.2) Φ.env).map (·.2)) (v' :: r')) _ _ _
   unfold assignInOrder
   refine wpAny_bind (wpAny_holding (wpAny_assign_Name (store1 S h.1 rv o1 (o2 y List.mem_cons_self) _ _ fun σ1 X1 c1 S1=>?_)))
   exact ih (fun z hz=>o2 z (List.mem_cons_of_mem _ hz)) S1 h.2 e (vmono rr X1.le) _ _ fun σ2 X2 c2 S2=>k σ2 (X1.trans X2) (c2.trans c1) S2
theorem ztj (xs:List (Str × Nat × Pos)):∀ {vs:List V} {sl sl':Slots},binds xs vs sl = some sl' -> vs.length = xs.length:=by
 induction xs with
 | nil=>intro vs sl sl' e; cases vs with | nil=>rfl | cons=>cases e
 | cons y xs ih=>intro vs sl sl' e; cases vs with | nil=>cases e | cons v vs=>exact congrArg (· + 1) (ih e)
theorem zm9 (xs:List (Str × Nat × Pos)) (env:Env):(assignEach (xs.map fun y=>.Name y.1 y.2.2) env).length = xs.length /\ (assignEach (xs.map fun y=>.Name y.1 y.2.2) env).findIdx? (·.1) = none:=by
 induction xs with
 | nil=>exact ⟨rfl,rfl⟩
 | cons y xs ih =>
  refine ⟨congrArg (· + 1) ih.1,?_⟩
  rw [List.findIdx?_eq_none_iff] at ih ⊢
  intro t ht
  exact (List.mem_cons.mp ht).elim (fun z=>by rw [z]) (ih.2 t)
theorem zi3 {v:V} {v':Value} {vs:List V} {Q:List Value -> Shared -> Prop} {E:Value -> Shared -> Prop} (hh:Φ.A.handled = none) (H:HRel σ.g σ.s.heap) (e:itemsOf v = some vs) (r:VRel σ.g v v') (k:∀ its,VRels σ.g vs its -> ∀ h',Heap.ExtBut σ.s.heap.objs.size σ.s.heap h' -> Q its { σ.s with heap:=h' }) :
  wpAny C.M Φ.A (unpackItems v' vs.length none) Q E σ.s:=by
 cases v with
 | tup xs=>cases e; obtain ⟨a,us,ep,rfl,q,r,_⟩:=r.inv; rw [show vs.length = us.toArray.size from r.length.symm]; exact wpAny_unpackItems_tuple (items:=us.toArray) hh ⟨_,H.fz _ _ q,rfl,_,rfl⟩ fun h' hx=>k us r h' hx
 | lst xs=>cases e; obtain ⟨a,us,ep,rfl,q,r,_⟩:=r.inv; rw [show vs.length = us.toArray.size from r.length.symm]; exact PySem.W.kun_itemsOf (items:=us.toArray) hh ⟨_,H.fz _ _ q,rfl,_,rfl⟩ fun h' hx=>k us r h' hx
 | _=>cases e
theorem zzu (xs:List (Str × Nat × Pos)) (k:Nat) (p:Pos):(Tgt.tup xs k p).ast = .Tuple (xs.map fun y=>.Name y.1 y.2.2) k p:=rfl
theorem zo1 (es:List Expr) (k:Nat) (p:Pos) (env:Env) (v:Value):assign (.Tuple es k p) env v = (standAt p >>= fun _=>unpack v (assignEach es env)):=rfl
theorem zet {t:Tgt} {v:V} {v':Value} {sl sl':Slots} {ow:Addr -> Prop} (o1:ow Φ.env.locals) (o2:∀ x,t.has x -> ∀ c,Φ.env.kindOf x = some .cell -> Φ.env.cells.lookup x = some c -> ow c) (S:Std C Φ (look ns sl) σ) (h:t.ok Φ.env.scope ns = true)
  (e:t.bind v sl = some sl') (r:VRel σ.g v v'):BindsOk C Φ (look ns sl') ow σ (assign t.ast Φ.env v'):=by
 cases t with
 | nm x i p=>cases e; exact fun Q E k=>wpAny_assign_Name (store1 S h r o1 (o2 x rfl) Q E k)
 | tup xs kk p =>
  intro Q E k
  have e':Option.rec none (fun vs=>binds xs vs sl) (itemsOf v) = some sl':=e
  cases q:itemsOf v with
  | none=>rw [q] at e'; cases e'
  | some vs =>
   rw [q] at e'
   have l1:=ztj xs e'
   rw [zzu,zo1]
   refine wpAny_bind (wpAny_standAt ?_)
   unfold unpack
   rw [(zm9 xs Φ.env).2,(zm9 xs Φ.env).1,<- l1]
   refine wpAny_bind (wpAny_holding ?_)
   refine zi3 (C:=C) (Φ:=Φ) (σ:=σ) S.O.hh S.H q r fun its rr h' hx=>?_
   have X:Ext σ (σ.up h' σ.s.toks σ.g) noOwn:=Ext.keeps S.H fun a o e=>hx a o (fun z=>absurd (Heap.lt_size e) (by rw [z]; exact Nat.lt_irrefl _)) e
   exact zxs o1 xs (fun y hy=>o2 y.1 ⟨y,hy,rfl⟩) (S.ext X) h e' rr _ _ fun σ2 X2 c2 S2=>k σ2 ((X.mono fun _ z=>z.elim).trans X2) c2 S2
end Mine
end
section
namespace Mine
open PySem PySem.SeqAt
noncomputable def isFree (k:NameKind):Bool:=k == .free
noncomputable def clos (env:Env) (names:List (Str × NameKind)):List (Str × Addr) -> List (Str × Addr) :=
 List.rec (fun acc=>acc) (fun p _ ih acc=>ih (if (p.2 == .free) = true then (p.1,(env.cells.lookup p.1).getD 0) :: acc else acc)) names
theorem zd4 {scope:Scope} {env:Env} (h:∀ x ∈ scope.names,x.2 = .free -> ∃ c,env.cells.lookup x.1 = some c):closureFor scope env = pure (clos env scope.names []):=by
 unfold closureFor
 generalize scope.names = names at h
 have key:∀ (acc:List (Str × Addr)),(forIn names acc fun x r=>(do
    let cs:=r
    if x.2 == .free then do
     let a <- cellOf env x.1
     pure (ForInStep.yield ((x.1,a) :: cs))
    else pure (ForInStep.yield cs):Sem (ForInStep (List (Str × Addr))))) = pure (clos env names acc):=by
  induction names with
  | nil=>intro acc; rfl
  | cons x r ih =>
   intro acc
   rw [List.forIn_cons]
   have hr:=ih fun y hy=>h y (List.mem_cons_of_mem _ hy)
   have e:clos env (x :: r) acc = clos env r (if (x.2 == .free) = true then (x.1,(env.cells.lookup x.1).getD 0) :: acc else acc):=rfl
   rw [e]
   by_cases hk:(x.2 == NameKind.free) = true
   ·obtain ⟨c,hc⟩:=h x List.mem_cons_self (eq_of_beq hk)
    have hcell:cellOf env x.1 = pure c:=by unfold cellOf; rw [hc]
    rw [if_pos hk,if_pos hk,hcell,hc]
    exact hr _
   ·rw [if_neg hk,if_neg hk]
    exact hr _
 have:=key []
 first
  | (rw [bind_pure_comp]; exact this)
  | (simpa using this)
theorem zar {α:Type} (x:Str) (a:α) (l:List (Str × α)):((x,a) :: l).lookup x = some a:=by rw [List.lookup_cons,beq_self_eq_true]
theorem zas {α:Type} {x y:Str} (a:α) (l:List (Str × α)) (h:x ≠ y):((y,a) :: l).lookup x = l.lookup x:=by rw [List.lookup_cons,beq_false_of_ne h]
theorem zf7 {env:Env} (names:List (Str × NameKind)):∀ (acc:List (Str × Addr)) (x:Str),(∀ y ∈ names,y.2 = .free -> ∃ c,env.cells.lookup y.1 = some c) ->
  (clos env names acc).lookup x = if (x,NameKind.free) ∈ names then env.cells.lookup x else acc.lookup x:=by
 induction names with
 | nil=>intro acc x h; rw [if_neg List.not_mem_nil]; rfl
 | cons p r ih =>
  intro acc x h
  have e:clos env (p :: r) acc = clos env r (if (p.2 == .free) = true then (p.1,(env.cells.lookup p.1).getD 0) :: acc else acc):=rfl
  rw [e,ih _ x fun y hy=>h y (List.mem_cons_of_mem _ hy)]
  by_cases hm:(x,NameKind.free) ∈ r
  ·rw [if_pos hm,if_pos (List.mem_cons_of_mem _ hm)]
  ·rw [if_neg hm]
   by_cases hx:(x,NameKind.free) = p
   ·subst hx
    obtain ⟨c,hc⟩:=h _ List.mem_cons_self rfl
    rw [if_pos List.mem_cons_self]
    show List.lookup x ((x,(env.cells.lookup x).getD 0) :: acc) = _
    rw [zar,show env.cells.lookup x = some c from hc]; rfl
   ·rw [if_neg fun q=>(List.mem_cons.mp q).elim hx hm]
    by_cases hk:(p.2 == NameKind.free) = true
    ·rw [if_pos hk,zas]
     exact fun q=>hx (by rw [q,<- eq_of_beq hk])
    ·rw [if_neg hk]
noncomputable abbrev dictObj0:Obj:={ cls:=.type "dict",data:=.dict #[] }
noncomputable abbrev cellObj0:Obj:={ cls:=.type "cell",data:=.cell none }
noncomputable abbrev frameObj0:Obj:={ cls:=.type "frame",data:=.dict #[] }
inductive CAt (done:List (Str × NameKind)) (cl b:List (Str × Addr)) (h:Heap) (L:Addr) (x:Str):Prop
 | new (hm:(x,NameKind.cell) ∈ done) (a) (e:b.lookup x = some a) (g:h.get? a = some cellObj0) (l:L < a)
 | old (hm:(x,NameKind.cell) ∉ done) (e:b.lookup x = cl.lookup x)
structure CInv (done:List (Str × NameKind)) (cl b:List (Str × Addr)) (o:Obj) (h h':Heap):Prop where
 k:∀ a o,h.get? a = some o -> h'.get? a = some o
 l:h'.get? h.objs.size = some o
 c:∀ x,CAt done cl b h' h.objs.size x
 inj:∀ x y a,b.lookup x = some a -> b.lookup y = some a -> x = y
 bnd:∀ x a,b.lookup x = some a -> a < h'.objs.size
section
variable {done:List (Str × NameKind)} {cl b:List (Str × Addr)} {o:Obj} {h h':Heap}
theorem CInv.cell (I:CInv done cl b o h h') (n:Str):CInv (done ++ [(n,.cell)]) cl ((n,h'.objs.size) :: b) o h (h'.push cellObj0):=by
 have hp:∀ a o,h'.get? a = some o -> (h'.push cellObj0).get? a = some o:=fun a o e=>Heap.get?_push_of_some _ e
 have hlt:=Heap.lt_size I.l
 have no:∀ x a,b.lookup x = some a -> a ≠ h'.objs.size:=fun x a e q=>absurd (I.bnd x a e) (by rw [q]; exact Nat.lt_irrefl _)
 refine ⟨fun a o e=>hp a o (I.k a o e),hp _ _ I.l,fun x=>?_,fun x y a ex ey=>?_,fun x a ex=>?_⟩
 ·by_cases hx:x = n
  ·subst hx
   exact .new (List.mem_append_right _ List.mem_cons_self) h'.objs.size (zar ..) (Heap.get?_push_size _ rfl) hlt
  ·cases I.c x with
   | new q1 a q2 q3 q4=>exact .new (List.mem_append_left _ q1) a ((zas _ _ hx).trans q2) (hp _ _ q3) q4
   | old q1 q2=>exact .old (fun q=>(List.mem_append.mp q).elim q1 fun q=>hx (by injection List.mem_singleton.mp q)) ((zas _ _ hx).trans q2)
 ·by_cases hx:x = n <;> by_cases hy:y = n
  ·rw [hx,hy]
  ·rw [hx,zar] at ex; cases ex
   rw [zas _ _ hy] at ey
   exact absurd rfl (no y _ ey)
  ·rw [hy,zar] at ey; cases ey
   rw [zas _ _ hx] at ex
   exact absurd rfl (no x _ ex)
  ·rw [zas _ _ hx] at ex; rw [zas _ _ hy] at ey
   exact I.inj x y a ex ey
 ·rw [Heap.size_push]
  by_cases hx:x = n
  ·rw [hx,zar] at ex; cases ex; exact Nat.lt_succ_self _
  ·rw [zas _ _ hx] at ex; exact Nat.lt_succ_of_lt (I.bnd x a ex)
theorem CInv.other (I:CInv done cl b o h h') (n:Str) {kd:NameKind} (hk:kd ≠ .cell):CInv (done ++ [(n,kd)]) cl b o h h' :=
 ⟨I.k,I.l,fun x=>by
  cases I.c x with
  | new q1 a q2 q3 q4=>exact .new (List.mem_append_left _ q1) a q2 q3 q4
  | old q1 q2=>exact .old (fun q=>(List.mem_append.mp q).elim q1 fun q=>hk (by injection List.mem_singleton.mp q with _ q; exact q.symm)) q2,I.inj,I.bnd⟩
theorem CInv.start {o:Obj} (hf:o.isFreed = false) (hcl:∀ x a,cl.lookup x = some a -> a < h.objs.size) (hci:∀ x y a,cl.lookup x = some a -> cl.lookup y = some a -> x = y):CInv [] cl cl o h (h.push o) :=
 ⟨fun a o e=>Heap.get?_push_of_some _ e,Heap.get?_push_size _ hf,fun x=>.old List.not_mem_nil rfl,hci,fun x a e=>by rw [Heap.size_push]; exact Nat.lt_succ_of_lt (hcl x a e)⟩
end
section
variable {M:Model} {A:Around} {E:Value -> Shared -> Prop} {s:Shared} {env:Env} {scope:Scope} {cl:List (Str × Addr)} {qual:Str} {globals:Addr}
noncomputable def CLoop (names:List (Str × NameKind)) (cl:List (Str × Addr)) (o:Obj) (s:Shared):List (Str × NameKind) -> List (Str × Addr) -> Shared -> Prop :=
 fun rest b s'=>∃ done h',names = done ++ rest /\ s' = { s with heap:=h' } /\ CInv done cl b o s.heap h'
theorem zhb {o:Obj} {Q:List (Str × Addr) -> Shared -> Prop} (I:CInv [] cl cl o s.heap (s.heap.push o)) (k:∀ b h',CInv scope.names cl b o s.heap h' -> Q b { s with heap:=h' }) :
  wpAny M A (forIn scope.names cl fun x r=>(do
    let cells:=r
    if x.2 == .cell then do
     let a <- alloc cellObj0
     pure (ForInStep.yield ((x.1,a) :: cells))
    else pure (ForInStep.yield cells):Sem (ForInStep (List (Str × Addr))))) Q E { s with heap:=s.heap.push o }:=by
 refine wpAny_forIn_list _ (CLoop scope.names cl o s) _ (fun p rest b s' hl=>?_) (fun b s' hl=>?_) scope.names cl ⟨[],_,rfl,rfl,I⟩
 ·obtain ⟨done,h',hn,rfl,I⟩:=hl
  obtain ⟨n,kd⟩:=p
  have hn':∀ kd',scope.names = done ++ (n,kd') :: rest -> scope.names = (done ++ [(n,kd')]) ++ rest:=fun kd' q=>by rw [q,List.append_assoc]; rfl
  by_cases hk:kd = .cell
  ·subst hk
   exact wpAny_bind (wpAny_alloc (wpAny_pure ⟨_,_,hn' _ hn,rfl,I.cell n⟩))
  ·show wpAny _ _ (if (kd == NameKind.cell) = true then _ else _) _ _ _
   rw [if_neg fun q=>hk (eq_of_beq q)]
   exact wpAny_pure ⟨_,_,hn' _ hn,rfl,I.other n hk⟩
 ·obtain ⟨done,h',hn,rfl,I⟩:=hl
  rw [List.append_nil] at hn
  subst hn
  exact k b h' I
theorem zxg {Q:Env -> Shared -> Prop} (hcl:∀ x a,cl.lookup x = some a -> a < s.heap.objs.size) (hci:∀ x y a,cl.lookup x = some a -> cl.lookup y = some a -> x = y)
  (k:∀ cells h',CInv scope.names cl cells dictObj0 s.heap h' -> Q { scope:=scope,locals:=s.heap.objs.size,globals:=globals,cells:=cells,qual:=qual,func:=none,code:=env.code,frame:=env.frame,builtins:=env.builtins } { s with heap:=h' }) :
  wpAny M A (newFunctionEnv scope globals cl [] qual none .none (some env)) Q E s:=by
 unfold newFunctionEnv
 refine wpAny_bind (wpAny_alloc ?_)
 refine wpAny_bind (zhb (o:=dictObj0) (CInv.start rfl hcl hci) fun b h' I=>?_)
 exact wpAny_bind (wpAny_pure (wpAny_pure (k b h' I)))
theorem fn_env {binds:List (Str × Value)} {func:Option Addr} {code:Value} {builtins:Addr} {Q:Env -> Shared -> Prop} (hcl:∀ x a,cl.lookup x = some a -> a < s.heap.objs.size) (hci:∀ x y a,cl.lookup x = some a -> cl.lookup y = some a -> x = y)
  (k:∀ cells h',CInv scope.names cl cells frameObj0 s.heap h' ->
   wpAny M A (forIn binds PUnit.unit fun x _=>do storeName { scope:=scope,locals:=s.heap.objs.size,globals:=globals,cells:=cells,qual:=qual,func:=func,code:=code,frame:=some s.heap.objs.size,builtins:=builtins } x.1 x.2; pure (ForInStep.yield PUnit.unit))
    (fun _ s₂=>Q { scope:=scope,locals:=s.heap.objs.size,globals:=globals,cells:=cells,qual:=qual,func:=func,code:=code,frame:=some s.heap.objs.size,builtins:=builtins } s₂) E { s with heap:=h' }) :
  wpAny M A (newFunctionEnv scope globals cl binds qual func code none builtins) Q E s:=by
 unfold newFunctionEnv
 refine wpAny_bind (wpAny_alloc ?_)
 refine wpAny_bind (zhb (o:=frameObj0) (CInv.start rfl hcl hci) fun b h' I=>?_)
 exact wpAny_bind (wpAny_mono (k b h' I) (fun _ _ h=>wpAny_pure h) fun _ _ h=>h)
end
inductive CE where
 | lst (elt:Expr)
 | dct (k v:Expr)
noncomputable def CE.expr (c:CE) (gens:List Comprehension) (scope:Scope) (pos:Pos):Expr:=CE.rec (fun elt=>.ListComp elt gens scope pos) (fun k v=>.DictComp k v gens scope pos) c
noncomputable def CE.emit (c:CE) (D:Addr) (env:Env):Sem Unit:=CE.rec (do let _ <- call (.builtin "list.append") [.ref D,<- eval · env])
 (fun k v=>do
  let kv <- eval k env
  let vv <- holding [kv] (eval v env)
  standAt { k.pos with endLine:=v.pos.endLine,endCol:=v.pos.endCol }
  holding [kv,vv] (dictSet D kv vv)) c
section
variable {C:Cx} {A:Around} {s:Shared} {R:Result -> Shared -> Prop}
noncomputable abbrev RE (C:Cx) (A:Around) (env:Env) (R:Result -> Shared -> Prop):Value -> Shared -> Prop:=notedBy C.M A env fun e s'=>R (.error e) s'
noncomputable abbrev CE.code (c:CE) (t iter:Expr) (ifs:List Expr) (scope:Scope) (pos:Pos) (it:Value) (D:Addr) (env:Env):Code:=.compLoop (c.expr [⟨t,iter,ifs,0⟩] scope pos) 0 it (.ref D) env
theorem zpf (c:CE) (t iter:Expr) (ifs:List Expr) (scope:Scope) (pos:Pos) (it:Value) (D:Addr) (env:Env) :
  compTurn (c.expr [⟨t,iter,ifs,0⟩] scope pos) 0 it (.ref D) env = (do
   standAt iter.pos
   match <- pyNext it with
   | none=>pure (.done .next)
   | some v =>
    letOwnedTupleGo t it v
    assign t env v
    let ok <- forIn ifs true fun c r=>if r = true then do let ok <- isTrue c env (eval c env); pure (ForInStep.yield ok) else pure (ForInStep.yield r)
    if ok then c.emit D env
    again (c.code t iter ifs scope pos it D env)):=by
 cases c with
 | lst elt=>exact compTurn_list ..
 | dct k v=>exact compTurn_dict ..
noncomputable def TurnsOk (C:Cx) (A:Around) (c:CE) (t iter:Expr) (ifs:List Expr) (scope:Scope) (pos:Pos) (it:Value) (D:Addr) (env:Env) (R:Result -> Shared -> Prop) (s:Shared):Prop :=
 codeAny C.M A (c.code t iter ifs scope pos it D env) R s
theorem zxh {c:CE} {t iter:Expr} {ifs:List Expr} {scope:Scope} {pos:Pos} {it:Value} {D:Addr} {env:Env} (h:∀ E,wpAny C.M A (pyNext it) (fun r s₁=>r = none /\ R (.ok .next) s₁) E s):TurnsOk C A c t iter ifs scope pos it D env R s:=by
 refine codeAny_of_tree ?_
 have hu:A.under (c.code t iter ifs scope pos it D env) = A:=by cases c <;> rfl
 have hd:C.M.den (c.code t iter ifs scope pos it D env) = ((compTurn (c.expr [⟨t,iter,ifs,0⟩] scope pos) 0 it (.ref D) env).onRaise (fun x=>do noteFrame x env; theTreesLotGoes x)):=by cases c <;> rfl
 rw [hu,hd,zpf]
 exact wpAny_noted (wpAny_bind (wpAny_standAt (wpAny_bind (wpAny_mono (h _) (fun r s₁ h₁=>h₁.1 ▸ wpAny_pure h₁.2) fun _ _ h'=>h'))))
theorem zs9 {c:CE} {t iter:Expr} {ifs:List Expr} {scope:Scope} {pos:Pos} {it:Value} {D:Addr} {env:Env}
  (h:wpAny C.M A (pyNext it) (fun r s₁=>∃ v,r = some v /\ wpAny C.M A (letOwnedTupleGo t it v) (fun _ s₂=>wpAny C.M A (assign t env v) (fun _ s₃=>wpAny C.M A (forIn ifs true fun c r=>if r = true then do let ok <- isTrue c env (eval c env); pure (ForInStep.yield ok) else pure (ForInStep.yield r)) (fun ok s₄ =>
     if ok = true then wpAny C.M A (c.emit D env) (fun _ s₅=>TurnsOk C A c t iter ifs scope pos it D env R s₅) (RE C A env R) s₄
     else TurnsOk C A c t iter ifs scope pos it D env R s₄) (RE C A env R) s₃) (RE C A env R) s₂) (RE C A env R) s₁) (RE C A env R) s):TurnsOk C A c t iter ifs scope pos it D env R s:=by
 refine codeAny_of_tree ?_
 have hu:A.under (c.code t iter ifs scope pos it D env) = A:=by cases c <;> rfl
 have hd:C.M.den (c.code t iter ifs scope pos it D env) = ((compTurn (c.expr [⟨t,iter,ifs,0⟩] scope pos) 0 it (.ref D) env).onRaise (fun x=>do noteFrame x env; theTreesLotGoes x)):=by cases c <;> rfl
 have hq:(c.code t iter ifs scope pos it D env).quiet = true:=by cases c <;> rfl
 rw [hu,hd,zpf]
 refine wpAny_noted (wpAny_bind (wpAny_standAt (wpAny_bind (wpAny_mono h (fun r s₁ h₁=>?_) fun _ _ h'=>h'))))
 obtain ⟨v,rfl,h₁⟩:=h₁
 refine wpAny_bind (wpAny_mono h₁ (fun _ s₂ h₂=>wpAny_bind (wpAny_mono h₂ (fun _ s₃ h₃=>wpAny_bind (wpAny_mono h₃ (fun ok s₄ h₄=>?_) fun _ _ h'=>h')) fun _ _ h'=>h')) fun _ _ h'=>h')
 cases ok with
 | false=>exact wpAny_pure ⟨hq,h₄⟩
 | true=>exact wpAny_bind (wpAny_mono h₄ (fun _ s₅ h₅=>wpAny_pure ⟨hq,h₅⟩) fun _ _ h'=>h')
theorem zot {c:CE} {t iter:Expr} {ifs:List Expr} {scope:Scope} {pos:Pos} {it D:Addr} {env:Env} (h0:TurnsOk C A c t iter ifs scope pos (.ref it) D env R s) (hs:SelfOk C A it s) :
  codeAny C.M A (.compStart (c.expr [⟨t,iter,ifs,0⟩] scope pos) 0 (.ref it) (.ref D) env) R s:=by
 cases c with
 | lst elt=>exact codeAny_compStart_list h0 (hs _ _ h0)
 | dct k v=>exact codeAny_compStart_dict h0 (hs _ _ h0)
end
end Mine
end
section
namespace Mine
open PySem PySem.SeqAt
noncomputable def OwnP (own:Addr -> Prop) (σ:St):Prop:=∀ a,own a -> (∃ o,σ.s.heap.get? a = some o) /\ σ.g.hf a = none /\ (∀ l,l < σ.g.cs.length -> σ.g.ρ l ≠ a) /\ ¬ σ.g.fl a
theorem OwnP.ext {own ow:Addr -> Prop} {σ σ':St} (O:OwnP own σ) (x:Ext σ σ' ow):OwnP own σ':=fun a ha=>by
 obtain ⟨⟨o,e⟩,h1,h2,h3⟩:=O a ha
 exact ⟨x.lives e,x.nhf e h1,x.nce e h2,x.le.fl.symm ▸ h3⟩
inductive CompR {γ:Type} (t:Tgt) (tests:Slots -> List Cell -> KB -> Prop) (emit:γ -> Slots -> List Cell -> (γ -> List Cell -> Prop) -> Prop) (sl:Slots) (K:γ -> List Cell -> Prop):γ -> Src -> List Cell -> Prop
 | done {acc src cs} (e:EndR cs src) (k:K acc cs):CompR t tests emit sl K acc src cs
 | step {acc src src' cs v sl1} (T:KB) (M:γ -> List Cell -> Prop) (e:NextR cs src v src') (b:t.bind v sl = some sl1) (ht:tests sl1 cs T) (he:∀ c,T true c -> emit acc sl1 c M)
   (hf:∀ c,T false c -> CompR t tests emit sl K acc src' c) (hm:∀ y c,M y c -> CompR t tests emit sl K y src' c):CompR t tests emit sl K acc src cs
noncomputable def AtD {γ:Type} (Gd:γ -> Gh -> Obj -> Prop) (D:Addr) (acc:γ) (σ:St):Prop:=∃ o,σ.s.heap.get? D = some o /\ Gd acc σ.g o
noncomputable def GdOk {γ:Type} (Gd:γ -> Gh -> Obj -> Prop):Prop:=∀ acc g o,Gd acc g o -> (∀ v,o.data ≠ .cell v) /\ ∀ g',Le g g' -> Gd acc g' o
structure CR where
 C:Cx
 A:Around
 env:Env
 ns:List Str
 own:Addr -> Prop
 D:Addr
 c:CE
noncomputable abbrev CR.Φ (r:CR):Fm:=⟨r.A,r.env⟩
structure CROk (r:CR) (t:Tgt):Prop where
 oD:r.own r.D
 nD:¬ ownAll r.env r.D
 o1:r.own r.env.locals
 o2:∀ x,t.has x -> ∀ c,r.env.kindOf x = some .cell -> r.env.cells.lookup x = some c -> r.own c
 ok:t.ok r.env.scope r.ns = true
variable {γ:Type} {Gd:γ -> Gh -> Obj -> Prop} {r:CR}
theorem zj2 {acc:γ} {σ σ':St} {ow:Addr -> Prop} (G:GdOk Gd) (h:AtD Gd r.D acc σ) (x:Ext σ σ' ow) (W:OwnP r.own σ) (o:r.own r.D) (n:¬ ow r.D):AtD Gd r.D acc σ' :=
 h.imp fun ob q=>⟨x.exact q.1 (fun l hl z=>(W _ o).2.2.1 l hl z.symm) n (W _ o).2.2.2,(G _ _ _ q.2).2 _ x.le⟩
structure TurnSt (r:CR) (L:Str -> Option V) (Gd:γ -> Gh -> Obj -> Prop) (acc:γ) (σ:St):Prop where
 S:Std r.C r.Φ L σ
 W:OwnP r.own σ
 at_:AtD Gd r.D acc σ
noncomputable def EmitOk (r:CR) (Gd:γ -> Gh -> Obj -> Prop) (emit:γ -> Slots -> List Cell -> (γ -> List Cell -> Prop) -> Prop):Prop :=
 ∀ acc sl σ M,emit acc sl σ.g.cs M -> TurnSt r (look r.ns sl) Gd acc σ -> ∀ (Q:Unit -> Shared -> Prop) (E:Value -> Shared -> Prop),
  (∀ acc' σ',Ext σ σ' r.own -> TurnSt r (look r.ns sl) Gd acc' σ' -> M acc' σ'.g.cs -> Q () σ'.s) -> wpAny r.C.M r.A (r.c.emit r.D r.env) Q E σ.s
noncomputable abbrev testsT (ifs:List Expr) (env:Env):Sem Bool:=forIn ifs true fun c r=>if r = true then do let ok <- isTrue c env (eval c env); pure (ForInStep.yield ok) else pure (ForInStep.yield r)
noncomputable def TestsOk (r:CR) (ifs:List Expr) (tests:Slots -> List Cell -> KB -> Prop):Prop:=∀ sl σ T,tests sl σ.g.cs T -> Std r.C r.Φ (look r.ns sl) σ -> Runs r.C r.A σ noOwn (testsT ifs r.env) BR T
theorem zuc {t:Tgt} {iter:Expr} {ifs:List Expr} {scope:Scope} {pos:Pos} {tests:Slots -> List Cell -> KB -> Prop} {emit:γ -> Slots -> List Cell -> (γ -> List Cell -> Prop) -> Prop} {sl:Slots} {K:γ -> List Cell -> Prop} {it:Addr} {os:List Addr} {P:Src -> St -> Prop}
  (I:It r.C t.ast it os P) (G:GdOk Gd) (R:CROk r t) (hT:TestsOk r ifs tests) (hE:EmitOk r Gd emit) (hw:∀ v sl1,t.bind v sl = some sl1 -> ∀ x u,look r.ns sl x = some u -> look r.ns sl1 x = some u)
  (no:∀ a ∈ os,¬ ownAll r.env a /\ ¬ r.own a) {σ₀:St} (fr:∀ a ∈ os,σ₀.s.heap.get? a = none) {RR:Result -> Shared -> Prop}
  (k:∀ acc σ,Ext σ₀ σ r.own -> TurnSt r (look r.ns sl) Gd acc σ -> K acc σ.g.cs -> RR (.ok .next) σ.s) {acc:γ} {src:Src} {cs:List Cell} (h:CompR t tests emit sl K acc src cs) :
  ∀ {σ:St},σ.g.cs = cs -> P src σ -> TurnSt r (look r.ns sl) Gd acc σ -> Ext σ₀ σ r.own -> TurnsOk r.C r.A r.c t.ast iter ifs scope pos (.ref it) r.D r.env RR σ.s:=by
 induction h with
 | @done acc src cs e q =>
  intro σ hc p S X
  subst hc
  refine zxh fun E=>I.fin _ _ _ S.S.O.hh p S.S.H e _ _ fun h' tk hk=>⟨rfl,?_⟩
  have O:=I.own _ _ p
  have Y:=X.fin (tk:=tk) O hk fr
  have hD:r.D ∉ os:=fun z=>(no _ z).2 R.oD
  refine k acc (σ.up h' tk σ.g) Y ⟨⟨S.S.F.keepH fun a o ha e=>hk a o (fun z=>(no a z).1 ha) e,Y.H,S.S.B,S.S.O⟩,fun a ha=>⟨(S.W a ha).1.imp fun o e=>hk a o (fun z=>(no a z).2 ha) e,(S.W a ha).2⟩,S.at_.imp fun o q=>⟨hk _ o hD q.1,q.2⟩⟩ q
 | @step acc src src' cs v sl1 T M e b ht he hf hm ihf ihm =>
  intro σ hc p S X
  subst hc
  refine zs9 (I.nxt _ _ _ _ _ S.S.O.hh p S.S.H e _ _ fun v' σ1 X1 c1 p1 rv=>?_)
  have S1:Std r.C r.Φ (look r.ns sl) σ1:=⟨S.S.F.ext S.S.H X1 fun a ha=>(no a ha).1,X1.H,S.S.B.le X1.le,S.S.O⟩
  have W1:=S.W.ext X1
  have D1:=zj2 G S.at_ X1 S.W R.oD fun z=>(no _ z).2 R.oD
  refine zet (ow:=fun a=>r.own a /\ ownAll r.env a) ⟨R.o1,.inl rfl⟩ (fun x hx c hk hc=>⟨R.o2 x hx c hk hc,.inr ⟨x,.inl hk,hc⟩⟩) S1 R.ok b rv _ _ fun σ2 X2 c2 S2=>?_
  have ec:σ2.g.cs = σ.g.cs:=c2.trans c1
  have W2:=W1.ext X2
  have D2:=zj2 G D1 X2 W1 R.oD fun z=>R.nD z.2
  have Y2:=(X1.mono (own':=fun a=>a ∈ os \/ r.own a) fun _ h=>.inl h).trans (X2.mono fun _ h=>.inr h.1)
  refine hT sl1 σ2 T (ec ▸ ht) S2 _ _ fun b3 ok σ3 X3 hb q3=>?_
  cases (hb:ok = b3)
  have W3:=W2.ext X3
  have D3:=zj2 G D2 X3 W2 R.oD fun z=>z
  have Y3:=Y2.trans (X3.mono fun _ z=>z.elim)
  have go:∀ {acc' σ4},Ext σ3 σ4 r.own -> TurnSt r (look r.ns sl1) Gd acc' σ4 -> (∀ {σ:St},σ.g.cs = σ4.g.cs -> P src' σ -> TurnSt r (look r.ns sl) Gd acc' σ -> Ext σ₀ σ r.own -> TurnsOk r.C r.A r.c t.ast iter ifs scope pos (.ref it) r.D r.env RR σ.s) ->
    TurnsOk r.C r.A r.c t.ast iter ifs scope pos (.ref it) r.D r.env RR σ4.s:=fun {acc' σ4} X4 S4 ih =>
   have Y4:=(X2.mono (own':=r.own) fun _ h=>h.1).trans ((X3.mono fun _ z=>z.elim).trans X4)
   ih rfl (I.ext _ _ _ _ p1 S1.H Y4 fun a ha=>(no a ha).2) ⟨S4.S.weaken (hw v sl1 b),S4.W,S4.at_⟩ ((X.trans' X1 fun a ha=>.inr (fr a ha)).trans Y4)
  cases b3 with
  | false=>exact go (Ext.refl X3.H _) ⟨S2.ext X3,W3,D3⟩ (ihf _ q3)
  | true=>exact hE acc sl1 σ3 M (he _ q3) ⟨S2.ext X3,W3,D3⟩ _ _ fun acc' σ4 X4 S4 q4=>go X4 S4 (ihm acc' _ q4)
end Mine
end
section
namespace Mine
open PySem PySem.SeqAt
noncomputable def ValOk (C:Cx) (Φ:Fm) (ns:List Str) (e:Expr) (val:Slots -> List Cell -> KV -> Prop):Prop:=∀ sl σ K,Std C Φ (look ns sl) σ -> val sl σ.g.cs K -> Runs C Φ.A σ noOwn (eval e Φ.env) VR K
noncomputable def TstOk (C:Cx) (Φ:Fm) (ns:List Str) (e:Expr) (tst:Slots -> List Cell -> KB -> Prop):Prop:=∀ sl σ K,Std C Φ (look ns sl) σ -> tst sl σ.g.cs K -> Runs C Φ.A σ noOwn (isTrue e Φ.env (eval e Φ.env)) BR K
theorem zmj {γ:Type} {Gd:γ -> Gh -> Obj -> Prop} {r:CR} {L:Str -> Option V} {σ:St} {h':Heap} {tk:Nat} {acc acc':γ} {o:Obj} (oD:r.own r.D) (nD:¬ ownAll r.env r.D) (S:TurnSt r L Gd acc σ) (hs:Heap.SameBut r.D σ.s.heap h') (e:h'.get? r.D = some o) (hg:Gd acc' σ.g o) :
  Ext σ (σ.up h' tk σ.g) r.own /\ TurnSt r L Gd acc' (σ.up h' tk σ.g):=by
 have X:Ext σ (σ.up h' tk σ.g) r.own:=⟨Le.refl _,fun _ _ e=>.inl e,fun l a b=>absurd b (Nat.not_lt.mpr a),fun b o eb nb nob=>⟨o,hs.extBut b o (fun z=>nob (z ▸ oD)) eb,rfl,fun _=>rfl⟩,fun b o eb hb=>by
  by_cases hbD:b = r.D
  ·exact ⟨_,hbD ▸ e⟩
  ·exact ⟨o,hs.extBut b o hbD eb⟩,S.S.H.keep fun a o e q=>hs.extBut a o (fun z=>by
  subst z
  rcases q with q | ⟨l,hl,q⟩ | q
  ·rw [(S.W _ oD).2.1] at q; cases q
  ·exact (S.W _ oD).2.2.1 l hl q.symm
  ·exact (S.W _ oD).2.2.2 q) e,rfl⟩
 exact ⟨X,⟨S.S.F.keepH fun a o ha e=>hs.extBut a o (fun z=>nD (z ▸ ha)) e,X.H,S.S.B,S.S.O⟩,S.W.ext X,_,e,hg⟩
noncomputable def GdL (acc:List V) (g:Gh) (o:Obj):Prop:=∃ vs n,o = listO vs n /\ VRels g acc vs
theorem zyo:GdOk GdL:=fun acc g o h=>by
 obtain ⟨vs,n,rfl,r⟩:=h
 exact ⟨nofrL vs n,fun g' L=>⟨vs,n,rfl,vmono r L⟩⟩
noncomputable def emitL (val:Slots -> List Cell -> KV -> Prop):List V -> Slots -> List Cell -> (List V -> List Cell -> Prop) -> Prop:=fun acc sl c M=>acc.length < lim /\ val sl c fun v c=>M (acc ++ [v]) c
theorem zw5 {r:CR} {elt:Expr} {val:Slots -> List Cell -> KV -> Prop} (hc:r.c = .lst elt) (oD:r.own r.D) (nD:¬ ownAll r.env r.D) (hv:ValOk r.C r.Φ r.ns elt val):EmitOk r GdL (emitL val):=by
 intro acc sl σ M h S Q E k
 rw [hc]
 refine wpAny_bind (hv sl σ _ S.S h.2 _ _ fun v v' σ1 X rv q=>?_)
 have D1:=zj2 zyo S.at_ X S.W oD fun z=>z
 have S1:TurnSt r (look r.ns sl) GdL acc σ1:=⟨S.S.ext X,S.W.ext X,D1⟩
 obtain ⟨o,eo,vs,n,rfl,rs⟩:=D1
 have hsz:vs.toArray.size <= sizeLine:=Nat.le_trans (Nat.le_of_lt (Nat.lt_of_le_of_lt (Nat.le_of_eq rs.length) h.1)) zax
 refine wpAny_bind (wpAny_list_append_plain (hsz:=hsz) ⟨n,eo⟩ fun h2 hD2 hs=>wpAny_pure ?_)
 obtain ⟨n2,e2⟩:=hD2
 obtain ⟨X2,S2⟩:=zmj (tk:=σ1.s.toks) (acc':=acc ++ [v]) oD nD S1 hs e2 ⟨vs ++ [v'],n2,by rw [List.push_toArray],rs.append (.cons rv .nil)⟩
 exact k _ _ ((X.mono fun _ z=>z.elim).trans X2) S2 q
variable {prog:Program} {w:World}
theorem zey {σ₀ σ:St} {own:Addr -> Prop} {D:Addr} {o:Obj} (X:Ext σ₀ σ own) (W:OwnP own σ) (oD:own D) (fr:σ₀.s.heap.get? D = none) (e:σ.s.heap.get? D = some o) (nc:∀ v,o.data ≠ .cell v):Ext σ₀ ⟨σ.s,σ.g.freeze D o⟩ own :=
 have n:=W D oD
 ⟨X.le.trans (Le.freeze _ o n.2.1),fun b o' q=>(zat q).elim (fun z=>.inr (z.1 ▸ fr)) (X.fresh b o'),X.cfresh,X.keep,X.ownk,X.H.freeze (fun _ _ _ e=>e) n.2.1 n.2.2.1 n.2.2.2 e nc,X.sh⟩
theorem zo2 {σ₀ σ:St} {own:Addr -> Prop} {D:Addr} {c:Cell} (X:Ext σ₀ σ own) (W:OwnP own σ) (oD:own D) (fr:σ₀.s.heap.get? D = none) (c':CellIs (σ.g.grow D c) σ.s.heap D c):Ext σ₀ ⟨σ.s,σ.g.grow D c⟩ own :=
 have n:=W D oD
 ⟨X.le.trans (Le.grow _ D c),X.fresh,fun l a b=>(zck b).elim (fun z=>(Le.grow σ.g D c).ρ l z ▸ X.cfresh l a z) fun z=>by rw [z,grow_ρ]; exact fr,X.keep,X.ownk,X.H.grow (fun _ _ e=>e) n.2.1 n.2.2.1 n.2.2.2 c',X.sh⟩
structure Given (σ₀ σ σ':St) (own:Addr -> Prop) (D:Addr) (v:V) (K:KV):Prop where
 s:σ'.s = σ.s
 X:Ext σ₀ σ' own
 r:VRel σ'.g v (.ref D)
 q:K v σ'.g.cs
 nhf:∀ a,a ≠ D -> σ.g.hf a = none -> σ'.g.hf a = none
 nce:∀ a,a ≠ D -> (∀ l,l < σ.g.cs.length -> σ.g.ρ l ≠ a) -> ∀ l,l < σ'.g.cs.length -> σ'.g.ρ l ≠ a
noncomputable def OutOk {γ:Type} (w:World) (Gd:γ -> Gh -> Obj -> Prop) (out:γ -> List Cell -> KV -> Prop):Prop:=∀ acc σ₀ σ own D K,Ext σ₀ σ own -> OwnP own σ -> own D -> σ₀.s.heap.get? D = none -> σ.g.pr = w.params -> (D == sysModules) = false -> AtD Gd D acc σ -> out acc σ.g.cs K ->
 ∃ v σ',Given σ₀ σ σ' own D v K
noncomputable def outL (c:Bool):List V -> List Cell -> KV -> Prop:=fun acc cs K=>listK c acc cs K
theorem z0v {c:Bool}:OutOk w GdL (outL c):=by
 intro acc σ₀ σ own D K X W oD fr _ _ hD q
 obtain ⟨o,e,vs,n,rfl,r⟩:=hD
 have nn:=W D oD
 obtain ⟨hl,q⟩:=q
 cases c with
 | true =>
  refine ⟨_,⟨σ.s,σ.g.grow D (.list acc)⟩,rfl,zo2 X W oD fr ⟨vs,n,e,vmono r (Le.grow ..),hl⟩,.ref' (by rw [zcl]; exact Nat.lt_succ_self _) (grow_ρ ..),q,fun a _ h=>h,fun a ha h l hl=>?_⟩
  exact (zck hl).elim (fun z=>(Le.grow σ.g D (.list acc)).ρ l z ▸ h l z) fun z=>by rw [z,grow_ρ]; exact Ne.symm ha
 | false=>exact ⟨_,⟨σ.s,σ.g.freeze D (listO vs n)⟩,rfl,zey X W oD fr e (nofrL vs n),.lst (zam ..) (vmono r (Le.freeze _ _ nn.2.1)) hl,q,fun a ha h=>(if_neg ha).trans h,fun a ha h=>h⟩
end Mine
end
section
namespace Mine
open PySem PySem.SeqAt
noncomputable def isLC (k:NameKind):Bool:=k == .local || k == .cell
noncomputable def ownNs (scope:Scope):List Str:=(scope.names.filter fun p=>isLC p.2).map (·.1)
noncomputable def compScope (sc scope:Scope):Scope :=
 { scope with names:=scope.names.map fun (n,k)=>if k == .free && sc.kind == .function && sc.names.lookup n == some .cell then (n,.cell) else (n,k) }
noncomputable def compOkB (sc scope:Scope):Bool :=
 scope.kind == .function && scope.names.all fun p=>(p.2 != .free || sc.names.lookup p.1 == some .cell || sc.names.lookup p.1 == some .free) && scope.names.lookup p.1 == some p.2
structure CompSc (sc scope:Scope):Prop where
 kind:scope.kind = .function
 uniq:∀ x k,(x,k) ∈ scope.names -> scope.names.lookup x = some k
 free:∀ x,(x,NameKind.free) ∈ scope.names -> sc.names.lookup x = some .cell \/ sc.names.lookup x = some .free
theorem ztb {sc scope:Scope} (h:compOkB sc scope = true):CompSc sc scope:=by
 unfold compOkB at h
 rw [Bool.and_eq_true] at h
 have h2:=fun x k (hx:(x,k) ∈ scope.names)=>(Bool.and_eq_true _ _).mp (List.all_eq_true.mp h.2 _ hx)
 refine ⟨eq_of_beq h.1,fun x k hx=>eq_of_beq (h2 x k hx).2,fun x hx=>?_⟩
 have:=(h2 x _ hx).1
 rw [Bool.or_eq_true,Bool.or_eq_true] at this
 rcases this with (z | z) | z
 ·cases z
 ·exact .inl (eq_of_beq z)
 ·exact .inr (eq_of_beq z)
theorem zbm {α:Type} {l:List (Str × α)} {x:Str} {k:α} (h:l.lookup x = some k):(x,k) ∈ l:=by
 induction l with
 | nil=>cases h
 | cons p r ih =>
  by_cases e:x = p.1
  ·subst e; rw [zar] at h; cases h; exact List.mem_cons_self
  ·rw [zas _ _ e] at h; exact List.mem_cons_of_mem _ (ih h)
theorem zoh {F:Str -> NameKind -> NameKind} (names:List (Str × NameKind)) (x:Str):(names.map fun p=>(p.1,F p.1 p.2)).lookup x = (names.lookup x).map (F x):=by
 induction names with
 | nil=>rfl
 | cons p r ih =>
  by_cases h:x = p.1
  ·subst h; rw [List.map_cons,zar,zar]; rfl
  ·rw [List.map_cons,zas _ _ h,zas _ _ h]; exact ih
noncomputable def reKind (sc:Scope) (x:Str) (k:NameKind):NameKind:=if (k == .free && sc.kind == .function && sc.names.lookup x == some .cell) = true then .cell else k
theorem zd3 (sc scope:Scope) (x:Str):(compScope sc scope).names.lookup x = (scope.names.lookup x).map (reKind sc x):=by
 have e1:(compScope sc scope).names = scope.names.map fun p=>(p.1,reKind sc p.1 p.2):=List.map_congr_left fun x _=>by
  unfold reKind
  dsimp only
  split <;> rfl
 rw [e1]; exact zoh ..
theorem zia {scope:Scope} {x:Str} {k:NameKind} (h:(x,k) ∈ scope.names) (hk:isLC k = true):x ∈ ownNs scope:=List.mem_map.mpr ⟨(x,k),List.mem_filter.mpr ⟨h,hk⟩,rfl⟩
theorem zcj (o ns:List Str) (pre sl:Slots) (hp:pre.length = o.length) {x:Str} {v:V} (h:look (o ++ ns) (pre ++ sl) x = some v):(x ∈ o /\ some v ∈ pre) \/ (x ∉ o /\ look ns sl x = some v):=by
 unfold look at h ⊢
 by_cases hx:x ∈ o
 ·refine .inl ⟨hx,?_⟩
  rw [List.idxOf_append,if_pos hx,List.getElem?_append_left (by rw [hp]; exact List.idxOf_lt_length_iff.mpr hx)] at h
  cases q:pre[o.idxOf x]? with
  | none=>rw [q] at h; cases h
  | some u=>rw [q] at h; exact List.mem_of_getElem? (q.trans (congrArg some (show u = some v from h)))
 ·refine .inr ⟨hx,?_⟩
  rw [List.idxOf_append,if_neg hx,List.getElem?_append_right (by rw [hp]; exact Nat.le_add_left _ _),hp,Nat.add_sub_cancel] at h
  exact h
theorem zrd (o ns:List Str) (pre pre' sl:Slots) (hp:pre.length = o.length) (hp':pre'.length = o.length) (hn:∀ v,some v ∉ pre) {x:Str} {v:V} (h:look (o ++ ns) (pre ++ sl) x = some v):look (o ++ ns) (pre' ++ sl) x = some v:=by
 rcases zcj o ns pre sl hp h with ⟨_,q⟩ | ⟨hx,q⟩
 ·exact absurd q (hn v)
 ·unfold look at q ⊢
  rw [List.idxOf_append,if_neg hx,List.getElem?_append_right (by rw [hp']; exact Nat.le_add_left _ _),hp',Nat.add_sub_cancel]
  exact q
noncomputable def Tgt.lt (t:Tgt) (n:Nat):Bool:=Tgt.rec (fun _ i _=>Nat.blt i n) (fun xs _ _=>xs.all fun y=>Nat.blt y.2.1 n) t
theorem zox (xs:List (Str × Nat × Pos)) {n:Nat}:∀ {vs:List V} {pre sl sl':Slots},xs.all (fun y=>Nat.blt y.2.1 n) = true -> pre.length = n -> binds xs vs (pre ++ sl) = some sl' -> ∃ pre',pre'.length = n /\ sl' = pre' ++ sl:=by
 induction xs with
 | nil=>intro vs pre sl sl' _ hp e; cases vs with | nil=>cases e; exact ⟨pre,hp,rfl⟩ | cons=>cases e
 | cons y xs ih =>
  intro vs pre sl sl' h hp e
  rw [List.all_cons,Bool.and_eq_true] at h
  cases vs with
  | nil=>cases e
  | cons v vs =>
   have e':binds xs vs ((pre ++ sl).set y.2.1 (some v)) = some sl':=e
   rw [List.set_append_left _ _ (by rw [hp]; exact Nat.blt_eq.mp h.1)] at e'
   exact ih h.2 (by rw [List.length_set]; exact hp) e'
theorem ztk {t:Tgt} {n:Nat} {v:V} {pre sl sl':Slots} (h:t.lt n = true) (hp:pre.length = n) (e:t.bind v (pre ++ sl) = some sl'):∃ pre',pre'.length = n /\ sl' = pre' ++ sl:=by
 cases t with
 | nm x i p =>
  cases e
  exact ⟨pre.set i (some v),by rw [List.length_set]; exact hp,List.set_append_left _ _ (by rw [hp]; exact Nat.blt_eq.mp h)⟩
 | tup xs k p =>
  have e':Option.rec none (fun vs=>binds xs vs (pre ++ sl)) (itemsOf v) = some sl':=e
  cases q:itemsOf v with
  | none=>rw [q] at e'; cases e'
  | some vs=>rw [q] at e'; exact zox xs h hp e'
noncomputable def CE.new (c:CE):Sem Value:=CE.rec (fun _=>newList []) (fun _ _=>newDict) c
noncomputable def CE.obj0 (c:CE):Obj:=CE.rec (fun _=>listO [] 0) (fun _ _=>{ cls:=.type "dict",data:=.dict #[] }) c
theorem new_ok (c:CE) {M:Model} {A:Around} {s:Shared} {Q:Value -> Shared -> Prop} {E:Value -> Shared -> Prop} (h:Q (.ref s.heap.objs.size) { s with heap:=s.heap.push c.obj0 }):wpAny M A c.new Q E s:=by
 cases c <;> exact wpAny_newObj_type h
noncomputable abbrev cenvOf (env:Env) (scope:Scope) (L:Addr) (cells:List (Str × Addr)):Env:={ scope:=compScope env.scope scope,locals:=L,globals:=env.globals,cells:=cells,qual:=env.qual,func:=none,code:=env.code,frame:=env.frame,builtins:=env.builtins }
theorem zoa (scope:Scope) (env:Env):relabel scope env = compScope env.scope scope:=rfl
section
variable {C:Cx} {Φ:Fm} {σ:St} {ns:List Str} {sl:Slots} {scope:Scope}
theorem zin (S:Std C Φ (look ns sl) σ) (ok:CompSc Φ.env.scope scope):closureFor scope Φ.env = pure (clos Φ.env scope.names []) /\ ∀ x,(clos Φ.env scope.names []).lookup x = if (x,NameKind.free) ∈ scope.names then Φ.env.cells.lookup x else none:=by
 have hf:∀ x ∈ scope.names,x.2 = .free -> ∃ c,Φ.env.cells.lookup x.1 = some c:=fun x hx hf=>by
  obtain ⟨n,kd⟩:=x
  cases (hf:kd = _)
  obtain ⟨c,w',hc,_⟩:=S.F.cell n (ok.free n hx)
  exact ⟨c,hc⟩
 exact ⟨zd4 hf,fun x=>zf7 scope.names [] x hf⟩
structure CFrame (C:Cx) (Φ:Fm) (scope:Scope) (ns:List Str) (sl:Slots) (σ:St) (cells:List (Str × Addr)) (D L:Addr) (σ':St):Prop where
 S:Std C ⟨Φ.A,cenvOf Φ.env scope L cells⟩ (look (ownNs scope ++ ns) (List.replicate (ownNs scope).length none ++ sl)) σ'
 nD:¬ ownAll (cenvOf Φ.env scope L cells) D
 own:∀ a,ownAll (cenvOf Φ.env scope L cells) a -> a = L \/ (∃ x,(x,NameKind.cell) ∈ scope.names /\ cells.lookup x = some a /\ (∃ o,σ'.s.heap.get? a = some o)) \/ ownAll Φ.env a
theorem cframe (S:Std C Φ (look ns sl) σ) (ok:CompSc Φ.env.scope scope) {o:Obj} {cells:List (Str × Addr)} {h':Heap} (I:CInv scope.names (clos Φ.env scope.names []) cells dictObj0 (σ.s.heap.push o) h') (hf:o.isFreed = false) (t:Nat) :
  CFrame C Φ scope ns sl σ cells σ.s.heap.objs.size (σ.s.heap.push o).objs.size (σ.up h' t σ.g):=by
 have hcl:=(zin S ok).2
 have k1:∀ a o',σ.s.heap.get? a = some o' -> h'.get? a = some o':=fun a o' e=>I.k a o' (Heap.get?_push_of_some _ e)
 have szC:(σ.s.heap.push o).objs.size = σ.s.heap.objs.size + 1:=Heap.size_push ..
 have nC:σ.s.heap.get? (σ.s.heap.push o).objs.size = none:=get?_ge (by rw [szC]; exact Nat.le_succ _)
 have H':HRel σ.g h':=S.H.keep fun a o e _=>k1 a o e
 have freeLk:∀ x,(x,NameKind.free) ∈ scope.names -> cells.lookup x = Φ.env.cells.lookup x:=fun x hx=>by
  cases I.c x with
  | new q=>exact absurd ((ok.uniq _ _ q).symm.trans (ok.uniq _ _ hx)) (by decide)
  | old _ q=>rw [q,hcl,if_pos hx]
 have kind:∀ x,isC (cenvOf Φ.env scope (σ.s.heap.push o).objs.size cells) x -> ((x,NameKind.cell) ∈ scope.names) \/ ((x,NameKind.free) ∈ scope.names):=fun x hx=>by
  have e:(cenvOf Φ.env scope (σ.s.heap.push o).objs.size cells).kindOf x = _:=zd3 Φ.env.scope scope x
  unfold isC at hx
  rw [e] at hx
  cases hl:scope.names.lookup x with
  | none=>rw [hl] at hx; rcases hx with hx | hx <;> cases hx
  | some kd =>
   have:=zbm hl
   rw [hl] at hx
   cases kd <;> first | exact .inl this | exact .inr this | (rcases hx with hx | hx <;> cases hx)
 have own:∀ a,ownAll (cenvOf Φ.env scope (σ.s.heap.push o).objs.size cells) a -> a = (σ.s.heap.push o).objs.size \/ (∃ x,(x,NameKind.cell) ∈ scope.names /\ cells.lookup x = some a /\ (∃ o,h'.get? a = some o)) \/ ownAll Φ.env a:=fun a ha=>by
  rcases ha with q | ⟨x,hx,hl⟩
  ·exact .inl q
  ·rcases kind x hx with h | h
   ·cases I.c x with
    | new q1 a' q2 q3 q4=>cases q2.symm.trans hl; exact .inr (.inl ⟨x,h,hl,_,q3⟩)
    | old q=>exact absurd h q
   ·exact .inr (.inr (.inr ⟨x,ok.free x h,(freeLk x h).symm.trans hl⟩))
 refine ⟨⟨⟨ok.kind,S.F.glo,S.F.blt,⟨fun _=>none,⟨_,#[],0,I.l,rfl,fun e he=>(by simp at he),fun _=>rfl⟩,fun x u hx hkx=>?_⟩,S.H.hf_none nC,fun l hl=>S.H.ne hl nC,S.H.nfl nC,fun x hx=>?_,fun x y a hx hy h1 h2=>I.inj x y a h1 h2⟩,H',S.B,S.O⟩,fun q=>?_,own⟩
 ·exfalso
  rcases zcj _ _ _ _ List.length_replicate hx with ⟨_,q⟩ | ⟨hn,_⟩
  ·exact nomatch List.eq_of_mem_replicate q
  ·have e:(scope.names.lookup x).map (reKind Φ.env.scope x) = some .local:=(zd3 Φ.env.scope scope x).symm.trans hkx
   cases hl:scope.names.lookup x with
   | none=>rw [hl] at e; cases e
   | some kd =>
    have hm:=zbm hl
    rw [hl] at e
    have e2:reKind Φ.env.scope x kd = .local:=Option.some.inj e
    unfold reKind at e2
    split at e2
    ·cases e2
    ·subst e2; exact hn (zia hm rfl)
 ·rcases kind x hx with hc | hf
  ·cases I.c x with
   | new q1 a q2 q3 q4 =>
    refine ⟨a,none,q2,⟨_,q3,rfl⟩,fun u hu=>?_⟩
    rcases zcj _ _ _ _ List.length_replicate hu with ⟨_,q⟩ | ⟨hn,_⟩
    ·exact nomatch List.eq_of_mem_replicate q
    ·exact absurd (zia hc rfl) hn
   | old q=>exact absurd hc q
  ·obtain ⟨c,w',hc,⟨o',e1,e2⟩,hr⟩:=S.F.cell x (ok.free x hf)
   refine ⟨c,w',(freeLk x hf).trans hc,⟨o',k1 _ _ e1,e2⟩,fun u hu=>?_⟩
   rcases zcj _ _ _ _ List.length_replicate hu with ⟨_,q⟩ | ⟨_,q⟩
   ·exact nomatch List.eq_of_mem_replicate q
   ·exact hr u q
 ·rcases q with q | ⟨x,hx,hl⟩
  ·have q':σ.s.heap.objs.size = (σ.s.heap.push o).objs.size:=q
   exact absurd (q'.trans szC) (Nat.ne_of_lt (Nat.lt_succ_self _))
  ·rcases kind x hx with h | h
   ·cases I.c x with
    | new q1 a q2 q3 q4 =>
     cases q2.symm.trans hl
     exact absurd (Nat.lt_trans (szC ▸ Nat.lt_succ_self _) q4) (Nat.lt_irrefl _)
    | old q=>exact absurd h q
   ·obtain ⟨o',e⟩:=S.F.alive _ (.inr ⟨x,ok.free x h,(freeLk x h).symm.trans hl⟩)
    rw [get?_size] at e; cases e
end
section
variable {C:Cx} {Φ:Fm} {σ:St} {ns:List Str} {sl:Slots} {scope:Scope}
structure CPart (C:Cx) (Φ:Fm) (ns:List Str) (scope:Scope) (t:Tgt) (ifs:List Expr) (c:CE) {γ:Type} (tests:Slots -> List Cell -> KB -> Prop) (emit:γ -> Slots -> List Cell -> (γ -> List Cell -> Prop) -> Prop) (Gd:γ -> Gh -> Obj -> Prop) (out:γ -> List Cell -> KV -> Prop) (init:γ):Prop where
 ok:compOkB Φ.env.scope scope = true
 tok:t.ok scope (ownNs scope ++ ns) = true
 tlt:t.lt (ownNs scope).length = true
 hT:∀ r:CR,r.C = C -> r.env.scope = compScope Φ.env.scope scope -> r.ns = ownNs scope ++ ns -> TestsOk r ifs tests
 hE:∀ r:CR,r.C = C -> r.env.scope = compScope Φ.env.scope scope -> r.ns = ownNs scope ++ ns -> r.c = c -> r.own r.D -> ¬ ownAll r.env r.D -> EmitOk r Gd emit
 G:GdOk Gd
 O:OutOk C.w Gd out
 i0:∀ g,Gd init g c.obj0
theorem z14 {t:Tgt} {sc:Scope} {ns:List Str} (h:t.ok sc ns = true) {x:Str} (hx:t.has x):isOwnB sc x = true:=by
 cases t with
 | nm y i p=>cases (hx:x = y); exact ((Bool.and_eq_true _ _).mp h).1
 | tup xs k p=>obtain ⟨y,hy,rfl⟩:=hx; exact ((Bool.and_eq_true _ _).mp (List.all_eq_true.mp h y hy)).1
theorem own_re {sc scope:Scope} {x:Str} (h:isOwnB scope x = true):isOwnB (compScope sc scope) x = true:=by
 unfold isOwnB at h ⊢
 rw [zd3]
 cases q:scope.names.lookup x with
 | none=>rw [q] at h; cases h
 | some k=>rw [q] at h; cases k <;> first | rfl | cases h
theorem tok_re {sc scope:Scope} {t:Tgt} {ns:List Str} (h:t.ok scope ns = true):t.ok (compScope sc scope) ns = true:=by
 have one:∀ x i,tgt1 scope ns x i = true -> tgt1 (compScope sc scope) ns x i = true:=fun x i h=>(Bool.and_eq_true _ _).mpr ⟨own_re ((Bool.and_eq_true _ _).mp h).1,((Bool.and_eq_true _ _).mp h).2⟩
 cases t with
 | nm x i p=>exact one x i h
 | tup xs k p=>exact List.all_eq_true.mpr fun y hy=>one _ _ (List.all_eq_true.mp h y hy)
theorem zvc {sc scope:Scope} (ok:CompSc sc scope) {x:Str} (h:isOwnB scope x = true) (hk:(compScope sc scope).names.lookup x = some .cell):(x,NameKind.cell) ∈ scope.names:=by
 unfold isOwnB at h
 rw [zd3] at hk
 cases q:scope.names.lookup x with
 | none=>rw [q] at h; cases h
 | some k =>
  rw [q] at h hk
  cases k with
  | cell=>exact zbm q
  | «local»=>exact nomatch (show NameKind.local = NameKind.cell from Option.some.inj hk)
  | _=>cases h
noncomputable abbrev iterEx (C:Cx) (A:Around) (e:Expr) (env:Env) (s:Shared):(Value -> Shared -> Prop) -> (Value -> Shared -> Prop) -> Prop:=fun Q E=>wpAny C.M A (eval e env) (fun x s₁=>wpAny C.M A (pyIter x) Q E s₁) E s
noncomputable def CompK (C:Cx) (A:Around) (σ:St) (K:KV) (E:Value -> Shared -> Prop) (use:Option (Value -> Sem Unit)) (Q:Value -> Shared -> Prop):Prop :=
 ∀ v a σ' L m,Ext σ σ' noOwn -> VRel σ'.g v a -> K v σ'.g.cs -> σ'.s.heap.Ns L m -> σ'.g.hf L = none -> (∀ l,l < σ'.g.cs.length -> σ'.g.ρ l ≠ L) -> σ.s.heap.get? L = none -> compPost C.M A E use Q a L (.ok .next) σ'.s
theorem sys_ne (S:Std C Φ (look ns sl) σ) (lo:∃ o,C.base cStatics = some o) {D:Addr} (h:σ.s.heap.objs.size <= D):(D == sysModules) = false:=by
 obtain ⟨o,e⟩:=lo
 have h1:cStatics < σ.s.heap.objs.size:=Heap.lt_size (S.H.fz _ _ (S.B.hf _ _ e))
 exact beq_false_of_ne (Nat.ne_of_gt (Nat.lt_trans (by decide) (Nat.lt_of_lt_of_le h1 h)))
theorem zjv (lo:∃ o,C.base cStatics = some o) (S:Std C Φ (look ns sl) σ) {t:Tgt} {iter:Expr} {ifs:List Expr} {c:CE} {γ:Type} {tests:Slots -> List Cell -> KB -> Prop} {emit:γ -> Slots -> List Cell -> (γ -> List Cell -> Prop) -> Prop} {Gd:γ -> Gh -> Obj -> Prop} {out:γ -> List Cell -> KV -> Prop} {init:γ} {pos fp:Pos} {K:KV}
  (P:CPart C Φ ns scope t ifs c tests emit Gd out init) (hfold:∀ x,foldedSetIterable iter Φ.env x = pure x)
  (hi:ItRuns C Φ.A t σ (iterEx C Φ.A iter Φ.env σ.s) fun src cs=>CompR t tests emit (List.replicate (ownNs scope).length none ++ sl) (fun acc cs=>out acc cs K) init src cs)
  {use:Option (Value -> Sem Unit)} {Q:Value -> Shared -> Prop} {E:Value -> Shared -> Prop} (k:CompK C Φ.A σ K E use Q) :
  wpAny C.M Φ.A (comprehension (c.expr [⟨t.ast,iter,ifs,0⟩] scope pos) scope Φ.env fp c.new false (eval iter Φ.env) use) Q E σ.s:=by
 have ok:=ztb P.ok
 refine wpAny_comprehension_free (g:=⟨t.ast,iter,ifs,0⟩) (gs:=[]) (by cases c <;> rfl) hfold (zin S ok).1 ok.kind (fun x hx hl=>by have:=ok.uniq x.1 x.2 hx; rw [hl] at this; exact this) ?_
 refine hi _ _ fun src it os Pt σ2 X2 I p fr q=>?_
 have S2:=S.ext X2
 refine new_ok c (zxg (s:={ σ2.s with heap:=σ2.s.heap.push c.obj0 }) (fun x a h=>?_) (fun x y a hx hy=>?_) fun cells h4 CI=>?_)
 ·rw [(zin S ok).2] at h
  split at h
  ·rename_i hm
   obtain ⟨o,e⟩:=S2.F.alive a (.inr ⟨x,ok.free x hm,h⟩)
   exact Heap.lt_size (Heap.get?_push_of_some _ e)
  ·cases h
 ·rw [(zin S ok).2] at hx hy
  split at hx
  ·rename_i h1
   split at hy
   ·rename_i h2; exact S.F.capart x y a (ok.free x h1) (ok.free y h2) hx hy
   ·cases hy
  ·cases hx
 rw [zoa]
 have CF:=cframe S2 ok CI (by cases c <;> rfl) σ2.s.toks
 have k24:∀ a o,σ2.s.heap.get? a = some o -> h4.get? a = some o:=fun a o e=>CI.k a o (Heap.get?_push_of_some _ e)
 have szL:(σ2.s.heap.push c.obj0).objs.size = σ2.s.heap.objs.size + 1:=Heap.size_push ..
 let D:=σ2.s.heap.objs.size
 let L:=(σ2.s.heap.push c.obj0).objs.size
 let own:Addr -> Prop:=fun a=>a = D \/ a = L \/ ∃ x,(x,NameKind.cell) ∈ scope.names /\ cells.lookup x = some a
 have own2:∀ a,own a -> (∃ o,h4.get? a = some o) /\ σ2.s.heap.get? a = none:=fun a ha=>by
  rcases ha with rfl | rfl | ⟨x,hx,hl⟩
  ·exact ⟨⟨_,CI.k _ _ (Heap.get?_push_size _ (by cases c <;> rfl))⟩,get?_size _⟩
  ·exact ⟨⟨_,CI.l⟩,get?_ge (Nat.le_trans (Nat.le_succ _) (Nat.le_of_eq szL.symm))⟩
  ·cases CI.c x with
   | new q1 a' q2 q3 q4=>cases q2.symm.trans hl; exact ⟨⟨_,q3⟩,get?_ge (Nat.le_of_lt (Nat.lt_trans (szL ▸ Nat.lt_succ_self _) q4))⟩
   | old q=>exact absurd hx q
 have own0:∀ a,own a -> σ.s.heap.get? a = none:=fun a ha=>X2.dead (own2 a ha).2
 let r:CR:=⟨C,Φ.A,cenvOf Φ.env scope L cells,ownNs scope ++ ns,own,D,c⟩
 have oD:own D:=.inl rfl
 have R:CROk r t:=⟨oD,CF.nD,.inr (.inl rfl),fun x hx c' hk hc=>.inr (.inr ⟨x,zvc ok (z14 P.tok hx) hk,hc⟩),tok_re P.tok⟩
 have W:OwnP own (σ2.up h4 σ2.s.toks σ2.g):=fun a ha=>⟨(own2 a ha).1,S2.H.hf_none (own2 a ha).2,fun l hl=>S2.H.ne hl (own2 a ha).2,S2.H.nfl (own2 a ha).2⟩
 have x24:Ext σ2 (σ2.up h4 σ2.s.toks σ2.g) noOwn:=Ext.keeps S2.H k24
 have O4:=(I.own _ _ p).ext x24
 have no:∀ a ∈ os,¬ ownAll r.env a /\ ¬ own a:=fun a ha=>by
  obtain ⟨⟨o,e⟩,_⟩:=I.own _ _ p a ha
  have n2:¬ own a:=fun z=>(by rw [(own2 a z).2] at e; cases e)
  refine ⟨fun z=>?_,n2⟩
  rcases CF.own a z with z | ⟨x,hx,hl,_⟩ | z
  ·exact n2 (.inr (.inl z))
  ·exact n2 (.inr (.inr ⟨x,hx,hl⟩))
  ·obtain ⟨o',e'⟩:=S.F.alive a z
   rw [fr a ha] at e'; cases e'
 have X4:Ext σ (σ2.up h4 σ2.s.toks σ2.g) own:=(X2.trans x24).mono fun _ z=>z.elim
 have T0:TurnSt r (look r.ns (List.replicate (ownNs scope).length none ++ sl)) Gd init (σ2.up h4 σ2.s.toks σ2.g):=⟨CF.S,W,c.obj0,CI.k _ _ (Heap.get?_push_size _ (by cases c <;> rfl)),P.i0 _⟩
 have loop:TurnsOk C Φ.A c t.ast iter ifs scope pos (.ref it) D r.env (compPost C.M Φ.A E use Q (.ref D) L) (σ2.up h4 σ2.s.toks σ2.g).s:=by
  refine zuc (r:=r) I P.G R (P.hT r rfl rfl rfl) (P.hE r rfl rfl rfl rfl oD CF.nD) (fun v sl1 b x u e=>?_) no fr (fun acc σ' X S' q'=>?_) q rfl (I.ext _ _ _ _ p S2.H x24 fun a _ z=>z) T0 X4
  ·obtain ⟨pre',hp',rfl⟩:=ztk P.tlt List.length_replicate b
   exact zrd (ownNs scope) ns (List.replicate (ownNs scope).length none) pre' sl List.length_replicate hp' (fun v z=>nomatch List.eq_of_mem_replicate z) e
  ·obtain ⟨v,σ'',gv⟩:=P.O acc σ σ' own D K X S'.W oD (own0 D oD) S'.S.B.pr (sys_ne S2 lo (Nat.le_refl _)) S'.at_ q'
   obtain ⟨m,hn,_⟩:=S'.S.F.ns
   have hLD:L ≠ D:=fun z=>absurd (szL.symm.trans z) (Nat.succ_ne_self _)
   have oL:own L:=.inr (.inl rfl)
   have:=k v (.ref D) σ'' L m (gv.X.drop_own own0) gv.r gv.q (gv.s ▸ hn) (gv.nhf L hLD (S'.W L oL).2.1) (gv.nce L hLD (S'.W L oL).2.2.1) (own0 L oL)
   rw [gv.s] at this
   exact this
 exact zot loop ((I.self _ _ _ S.O.hh (I.ext _ _ _ _ p S2.H x24 fun a _ z=>z)))
end
section
variable {C:Cx} {Φ:Fm} {σ σ':St} {ns:List Str} {sl:Slots} {scope:Scope}
theorem zyb {own:Addr -> Prop} {L:Addr} {m:Str -> Option Value} {h':Heap} (X:Ext σ σ' own) (hn:σ'.s.heap.Ns L m) (n1:σ'.g.hf L = none) (n2:∀ l,l < σ'.g.cs.length -> σ'.g.ρ l ≠ L) (fr:σ.s.heap.get? L = none) (H:HRel σ.g σ.s.heap) (hs:Heap.SameBut L σ'.s.heap h'):Ext σ (σ'.up h' σ'.s.toks σ'.g) own:=by
 refine X.fin (os:=[L]) (fun a ha=>?_) (fun b o hb e=>hs.extBut b o (fun z=>hb (z ▸ List.mem_cons_self)) e) fun a ha=>mem1 ha ▸ fr
 cases mem1 ha
 obtain ⟨o,_,_,e,_⟩:=hn
 exact ⟨⟨o,e⟩,n1,n2,X.le.fl.symm ▸ H.nfl fr⟩
theorem z2n (c:CE) (gens:List Comprehension) (scope:Scope) (pos:Pos) (env:Env):eval (c.expr gens scope pos) env = comprehension (c.expr gens scope pos) scope env (firstIterPos gens pos) c.new (firstAsync gens) (firstIter gens env):=by
 cases c with
 | lst elt=>exact eval_ListComp ..
 | dct k v=>exact arm_eval_DictComp ..
structure CIn (C:Cx) (Φ:Fm) (ns:List Str) (scope:Scope) (t:Tgt) (iter:Expr) (ifs:List Expr) (c:CE) {γ:Type} (tests:Slots -> List Cell -> KB -> Prop) (emit:γ -> Slots -> List Cell -> (γ -> List Cell -> Prop) -> Prop) (Gd:γ -> Gh -> Obj -> Prop) (out:γ -> List Cell -> KV -> Prop) (init:γ) (src:Slots -> List Cell -> KS -> Prop):Prop where
 P:CPart C Φ ns scope t ifs c tests emit Gd out init
 lo:∃ o,C.base cStatics = some o
 fold:∀ x,foldedSetIterable iter Φ.env x = pure x
 hi:∀ sl σ K,Std C Φ (look ns sl) σ -> src sl σ.g.cs K -> ItRuns C Φ.A t σ (iterEx C Φ.A iter Φ.env σ.s) K
variable {t:Tgt} {iter:Expr} {ifs:List Expr} {c:CE} {γ:Type} {tests:Slots -> List Cell -> KB -> Prop} {emit:γ -> Slots -> List Cell -> (γ -> List Cell -> Prop) -> Prop} {Gd:γ -> Gh -> Obj -> Prop} {out:γ -> List Cell -> KV -> Prop} {init:γ} {src:Slots -> List Cell -> KS -> Prop}
noncomputable def compV (scope:Scope) (t:Tgt) {γ:Type} (tests:Slots -> List Cell -> KB -> Prop) (emit:γ -> Slots -> List Cell -> (γ -> List Cell -> Prop) -> Prop) (out:γ -> List Cell -> KV -> Prop) (init:γ) (src:Slots -> List Cell -> KS -> Prop):Slots -> List Cell -> KV -> Prop :=
 fun sl cs K=>src sl cs fun s cs=>CompR t tests emit (List.replicate (ownNs scope).length none ++ sl) (fun acc cs=>out acc cs K) init s cs
theorem zta (I:CIn C Φ ns scope t iter ifs c tests emit Gd out init src) (pos:Pos):ValOk C Φ ns (c.expr [⟨t.ast,iter,ifs,0⟩] scope pos) (compV scope t tests emit out init src):=by
 intro sl σ K S q Q E k
 rw [z2n]
 exact zjv I.lo S I.P I.fold (I.hi _ _ _ S q) fun v a σ' L m X r q hn n1 n2 fr=>⟨m,hn,fun h' hs=>k v a _ (zyb X hn n1 n2 fr S.H hs) r q⟩
theorem znc (I:CIn C Φ ns scope t iter ifs c tests emit Gd out init src) (pos:Pos) {K:KV} (S:Std C Φ (look ns sl) σ) (q:compV scope t tests emit out init src sl σ.g.cs K) {use:Value -> Sem Unit} {L':V -> Str -> Option V}
  (hu:∀ v a σ',Ext σ σ' noOwn -> VRel σ'.g v a -> K v σ'.g.cs -> BindsOk C Φ (L' v) (ownOf Φ.env) σ' (use a)) {Q:Value -> Shared -> Prop} {E:Value -> Shared -> Prop}
  (k:∀ v σ',Ext σ σ' (ownOf Φ.env) -> K v σ'.g.cs -> Std C Φ (L' v) σ' -> Q .none σ'.s) :
  wpAny C.M Φ.A (comprehension (c.expr [⟨t.ast,iter,ifs,0⟩] scope pos) scope Φ.env (firstIterPos [⟨t.ast,iter,ifs,0⟩] pos) c.new false (eval iter Φ.env) (some use)) Q E σ.s:=by
 refine zjv I.lo S I.P I.fold (I.hi _ _ _ S q) fun v a σ1 L m X r q hn n1 n2 fr=>?_
 have nO:¬ ownAll Φ.env L:=fun z=>by
  obtain ⟨o,e⟩:=S.F.alive L z
  rw [fr] at e; cases e
 refine hu v a σ1 X r q _ _ fun σ2 X2 c2 S2=>?_
 have hn2:=X2.ns hn n2 fun z=>nO (zjc _ z)
 obtain ⟨o,_,_,e,_⟩:=hn
 refine ⟨m,hn2,fun h' hs=>?_⟩
 have Y:=zyb ((X.mono fun _ z=>z.elim).trans X2) hn2 (X2.nhf e n1) (X2.nce e n2) fr S.H hs
 exact k v (σ2.up h' σ2.s.toks σ2.g) Y (c2 ▸ q) ⟨S2.F.keepH fun b o hb e=>hs.extBut b o (fun z=>nO (z ▸ hb)) e,Y.H,S2.B,S2.O⟩
end
structure ED where
 ast:Expr
 opt:Option Expr
 wf:Scope -> List Str -> Bool
 val:Slots -> List Cell -> KV -> Prop
 tst:Slots -> List Cell -> KB -> Prop
 src:Tgt -> Slots -> List Cell -> KS -> Prop
noncomputable def ED.dfl (ast:Expr) (wf:Scope -> List Str -> Bool) (val:Slots -> List Cell -> KV -> Prop):ED :=
 ⟨ast,some ast,wf,val,fun sl cs K=>val sl cs fun v cs=>truthK cs v K,fun _ sl cs K=>val sl cs fun v cs=>∃ s,SrcR cs v s /\ K s cs⟩
structure Plain (a:Expr):Prop where
 fold:∀ env x,foldedSetIterable a env x = pure x
 star:∀ es env,starEach (a :: es) env = (false,eval a env) :: starEach es env
 marks:∀ op,behindInMarks op a = false
 base:∀ attr env w,attributeBase a attr env w = w
structure EOk (C:Cx) (Φ:Fm) (ns:List Str) (e:ED):Prop where
 val:ValOk C Φ ns e.ast e.val
 tst:TstOk C Φ ns e.ast e.tst
 src:∀ t sl σ K,Std C Φ (look ns sl) σ -> e.src t sl σ.g.cs K -> ItRuns C Φ.A t σ (iterEx C Φ.A e.ast Φ.env σ.s) K
 pl:Plain e.ast
 opt:e.opt = some e.ast \/ (e.opt = none /\ e.val = fun _ cs K=>K .none cs)
noncomputable def EGood (C:Cx) (e:ED):Prop:=∀ Φ ns,e.wf Φ.env.scope ns = true -> EOk C Φ ns e
noncomputable def DefOk (a:Expr):Prop:=∀ env,isTrue a env (eval a env) = (do let v <- eval a env; standAt a.pos; holding [v] (truthy v))
section
variable {C:Cx} {Φ:Fm} {ns:List Str} {σ:St}
theorem zx4 {a:Expr} {val:Slots -> List Cell -> KV -> Prop} (D:DefOk a) (h:ValOk C Φ ns a val):TstOk C Φ ns a fun sl cs K=>val sl cs fun v cs=>truthK cs v K:=fun sl σ K S q Q E k =>
 wpAny_isTrue_value (h sl σ _ S q _ _ fun v a σ' X r q=>zhi X.H r q fun b tk q=>k b b (σ'.up σ'.s.heap tk σ'.g) (X.trans (Ext.tok X.H)) rfl q) (D _)
theorem zx9 {a:Expr} {val:Slots -> List Cell -> KV -> Prop} (h:ValOk C Φ ns a val) (t:Tgt) (sl:Slots) (σ:St) (K:KS) (S:Std C Φ (look ns sl) σ) (q:val sl σ.g.cs fun v cs=>∃ s,SrcR cs v s /\ K s cs):ItRuns C Φ.A t σ (iterEx C Φ.A a Φ.env σ.s) K:=fun Q E k =>
 h sl σ _ S q _ _ fun v a σ' X r q=>by
  obtain ⟨s,e,q⟩:=q
  exact src_ok t e X.H r q _ _ fun s it os P σ2 X2 I p fr q=>k s it os P σ2 (X.trans X2) I p (fun a ha=>X.dead (fr a ha)) q
theorem EOk.dfl {a:Expr} {wf:Scope -> List Str -> Bool} {val:Slots -> List Cell -> KV -> Prop} (pl:Plain a) (D:DefOk a) (h:ValOk C Φ ns a val):EOk C Φ ns (ED.dfl a wf val) :=
 ⟨h,zx4 D h,zx9 h,pl,.inl rfl⟩
theorem EOk.tdfl {a:Expr} {wf:Scope -> List Str -> Bool} {val:Slots -> List Cell -> KV -> Prop} {tst:Slots -> List Cell -> KB -> Prop} (pl:Plain a) (h:ValOk C Φ ns a val) (ht:TstOk C Φ ns a tst):EOk C Φ ns { ED.dfl a wf val with tst:=tst } :=
 ⟨h,ht,zx9 h,pl,.inl rfl⟩
theorem notB {b:Bool} (h:(!b) = true):b = false:=by cases b with | false=>rfl | true=>cases h
noncomputable def constV (c:Const):V:=Const.rec (motive:=fun _=>V) .none (fun b=>.bool b) (fun i=>.int i) (fun _=>.none) (fun _ _=>.none) (fun x=>.str x) (fun _=>.none) .none c
noncomputable def constB (c:Const):Bool:=Const.rec (motive:=fun _=>Bool) true (fun b=>true) (fun i=>true) (fun _=>false) (fun _ _=>false) (fun x=>Nat.ble x.length lim) (fun _=>false) false c
noncomputable def ED.con (c:Const) (k:Nat) (p:Pos):ED:=.dfl (.Constant c k p) (fun _ _=>constB c) fun _ cs K=>K (constV c) cs
theorem zfc (c:Const) (k:Nat) (p:Pos):EGood C (.con c k p):=fun Φ ns w=>.dfl ⟨fun _ _=>rfl,fun _ _=>rfl,fun _=>rfl,fun _ _ _=>rfl⟩ (fun _=>rfl) fun sl σ K S q=>by
 cases c with
 | none=>exact Runs.still S.H (fun Q E k=>wpAny_Constant_none (k _)) (fun _=>.none) q
 | bool=>exact Runs.still S.H (fun Q E k=>wpAny_Constant_bool (k _)) (fun _=>.bool _) q
 | int=>exact Runs.still S.H (fun Q E k=>wpAny_Constant_int (k _)) (fun _=>.int _ _) q
 | str x=>exact Runs.still S.H (fun Q E k=>wpAny_Constant_str (k _)) (fun _=>.str _ _ (Nat.ble_eq.mp w)) q
 | _=>cases w
noncomputable def ED.absent:ED:={ ED.con .none 0 default with opt:=none }
theorem zl1:EGood C .absent:=fun Φ ns w =>
 have h:=zfc (C:=C) .none 0 default Φ ns rfl
 ⟨h.val,h.tst,h.src,h.pl,.inr ⟨rfl,rfl⟩⟩
noncomputable def kindB (sc:Scope) (x:Str):Bool:=Option.rec false (fun k=>NameKind.rec true true (!(x == ("__classdict__" : Str))) false false k) (sc.names.lookup x)
noncomputable def atS (sl:Slots) (i:Nat) (k:V -> Prop):Prop:=Option.rec False k (sl[i]?).join
noncomputable def ED.loc (x:Str) (i:Nat) (p:Pos):ED:=.dfl (.Name x p) (fun sc ns=>(kindB sc x && !(x == ("__debug__" : Str))) && slotOk ns x i) fun sl cs K=>atS sl i fun v=>K v cs
theorem zwa {env:Env} {x:Str} (h:kindB env.scope x = true):isL env x \/ (env.kindOf x = some .free /\ (x == ("__classdict__" : Str)) = false):=by
 unfold kindB at h
 have e:env.kindOf x = env.scope.names.lookup x:=rfl
 unfold isL
 rw [e]
 cases q:env.scope.names.lookup x with
 | none=>rw [q] at h; cases h
 | some k =>
  rw [q] at h
  cases k with
  | «local»=>exact .inl (.inl rfl)
  | cell=>exact .inl (.inr rfl)
  | free=>exact .inr ⟨rfl,notB h⟩
  | _=>cases h
theorem zaw (x:Str) (i:Nat) (p:Pos):EGood C (.loc x i p):=fun Φ ns w=>.dfl ⟨fun _ _=>rfl,fun _ _=>rfl,fun _=>rfl,fun _ _ _=>rfl⟩ (fun _=>rfl) fun sl σ K S q Q E k=>by
 have w':=(Bool.and_eq_true _ _).mp w
 have w1:=(Bool.and_eq_true _ _).mp w'.1
 refine wpAny_Name ?_ (notB w1.2)
 have hi:ns.idxOf x = i:=eq_of_beq ((Bool.and_eq_true _ _).mp w'.2).1
 have q':Option.rec (motive:=fun _=>Prop) False (fun v=>K v σ.g.cs) (sl[i]?).join:=q
 have e:look ns sl x = (sl[i]?).join:=hi ▸ rfl
 cases h:(sl[i]?).join with
 | none=>rw [h] at q'; exact q'.elim
 | some v=>rw [h] at q' e; exact z1l S (zwa w1.1) e q' Q E k
noncomputable def GlobAt (C:Cx) (x:Str) (v:V):Prop:=∀ (Φ:Fm) (σ:St) (K:KV),Φ.env.globals = mainGlobals -> Φ.env.builtins = builtinsNs -> Φ.env.scope.kind = .function -> Φ.env.kindOf x = some .globalImplicit -> HRel σ.g σ.s.heap -> Base C σ.g -> K v σ.g.cs -> Runs C Φ.A σ noOwn (loadName Φ.env x) VR K
noncomputable def globB (sc:Scope) (x:Str):Bool:=Option.rec false (fun k=>NameKind.rec false false false false true k) (sc.names.lookup x)
noncomputable def ED.glob (P:Prm) (x:Str) (i:Nat) (p:Pos):ED:=.dfl (.Name x p) (fun sc _=>(globB sc x && !(x == ("__debug__" : Str))) && Option.rec false (fun q=>q.1 == x) P.globs[i]?) fun _ cs K=>Option.rec False (fun q=>K q.2 cs) P.globs[i]?
theorem zc5 {P:Prm} (G:∀ x v,(x,v) ∈ P.globs -> GlobAt C x v) (x:Str) (i:Nat) (p:Pos):EGood C (.glob P x i p):=fun Φ ns w=>.dfl ⟨fun _ _=>rfl,fun _ _=>rfl,fun _=>rfl,fun _ _ _=>rfl⟩ (fun _=>rfl) fun sl σ K S q Q E k=>by
 have w':=(Bool.and_eq_true _ _).mp w
 have w1:=(Bool.and_eq_true _ _).mp w'.1
 refine wpAny_Name ?_ (notB w1.2)
 have q':Option.rec (motive:=fun _=>Prop) False (fun q=>K q.2 σ.g.cs) P.globs[i]?:=q
 have w2:Option.rec (motive:=fun _=>Bool) false (fun q=>q.1 == x) P.globs[i]? = true:=w'.2
 have hk:Φ.env.kindOf x = some .globalImplicit:=by
  have w3:Option.rec (motive:=fun _=>Bool) false (fun k=>NameKind.rec false false false false true k) (Φ.env.scope.names.lookup x) = true:=w1.1
  show Φ.env.scope.names.lookup x = _
  cases z:Φ.env.scope.names.lookup x with
  | none=>rw [z] at w3; cases w3
  | some k=>rw [z] at w3; cases k <;> first | rfl | cases w3
 cases h:P.globs[i]? with
 | none=>rw [h] at q'; exact q'.elim
 | some y =>
  rw [h] at q' w2
  have hx:y.1 = x:=eq_of_beq w2
  subst hx
  exact G y.1 y.2 (List.mem_of_getElem? h) Φ σ K S.F.glo S.F.blt S.F.kind hk S.H S.B q' Q E k
noncomputable def ED.bin (c:Bool) (l:ED) (op:Operator) (r:ED) (p:Pos):ED:=.dfl (.BinOp l.ast op r.ast p) (fun sc ns=>l.wf sc ns && r.wf sc ns) fun sl cs K=>l.val sl cs fun a cs=>r.val sl cs fun b cs=>BinR c cs K op a b
theorem both {C:Cx} {Φ:Fm} {ns:List Str} {l r:ED} (hl:EGood C l) (hr:EGood C r) (w:(l.wf Φ.env.scope ns && r.wf Φ.env.scope ns) = true):EOk C Φ ns l /\ EOk C Φ ns r:=⟨hl _ _ ((Bool.and_eq_true _ _).mp w).1,hr _ _ ((Bool.and_eq_true _ _).mp w).2⟩
theorem ze6 {l r:ED} (O:EOk C Φ ns l /\ EOk C Φ ns r) {sl:Slots} (S:Std C Φ (look ns sl) σ) {T:V -> V -> List Cell -> Prop} (q:l.val sl σ.g.cs fun a cs=>r.val sl cs fun b cs=>T a b cs) {Q:Value -> Value -> Shared -> Prop} {E:Value -> Shared -> Prop}
  (k:∀ a b a' b' σ',Ext σ σ' noOwn -> Std C Φ (look ns sl) σ' -> VRel σ'.g a a' -> VRel σ'.g b b' -> T a b σ'.g.cs -> Q a' b' σ'.s):wpAny C.M Φ.A (eval l.ast Φ.env) (fun a s=>wpAny C.M Φ.A (eval r.ast Φ.env) (fun b s=>Q a b s) E s) E σ.s :=
 O.1.val sl σ _ S q _ _ fun a a' σ1 X1 ra q1=>O.2.val sl σ1 _ (S.ext X1) q1 _ _ fun b b' σ2 X2 rb q2=>k a b a' b' σ2 (X1.trans X2) ((S.ext X1).ext X2) (ra.mono X2.le) rb q2
theorem zxt (c:Bool) {l r:ED} (op:Operator) (p:Pos) (hl:EGood C l) (hr:EGood C r):EGood C (.bin c l op r p):=fun Φ ns w=>.dfl ⟨fun _ _=>rfl,fun _ _=>rfl,fun _=>rfl,fun _ _ _=>rfl⟩ (fun _=>rfl) fun sl σ K S q Q E k =>
 wpAny_BinOp (ze6 (both hl hr w) S q fun a b a' b' σ' X S' ra rb e=>zyw e S'.H ra rb Q E fun v x σ'' Y r q=>k v x σ'' (X.trans Y) r q)
noncomputable def ED.un (op:UnaryOp) (e:ED) (p:Pos):ED:=.dfl (.UnaryOp op e.ast p) (fun sc ns=>!(op == .Not) && e.wf sc ns) fun sl cs K=>e.val sl cs fun a cs=>UnR cs K op a
theorem zzn (op:UnaryOp) {e:ED} (p:Pos) (h:EGood C e):EGood C (.un op e p):=fun Φ ns w=>by
 have w':=(Bool.and_eq_true _ _).mp w
 refine .dfl ⟨fun _ _=>rfl,fun _ _=>rfl,fun _=>rfl,fun _ _ _=>rfl⟩ (fun _=>?_) fun sl σ K S q Q E k=>wpAny_UnaryOp ((h Φ ns w'.2).val sl σ _ S q _ _ fun a a' σ1 X1 ra q1=>un_ok q1 X1.H ra Q E fun v x σ'' Y r q=>k v x σ'' (X1.trans Y) r q)
 cases op with
 | Not=>cases w'.1
 | _=>rfl
end
section
variable {C:Cx} {Φ:Fm} {ns:List Str} {σ:St}
noncomputable def EAll (C:Cx) (es:List ED):Prop:=∀ e ∈ es,EGood C e
noncomputable def wfs (es:List ED) (sc:Scope) (ns:List Str):Bool:=es.all fun e=>e.wf sc ns
theorem EAll.ok {es:List ED} (h:EAll C es) (w:wfs es Φ.env.scope ns = true):∀ e ∈ es,EOk C Φ ns e:=fun e he=>h e he Φ ns (List.all_eq_true.mp w e he)
noncomputable def ED.not (e:ED) (p:Pos):ED:={ ED.dfl (.UnaryOp .Not e.ast p) e.wf (fun sl cs K=>e.val sl cs fun v cs=>truthK cs v fun b cs=>K (.bool !b) cs) with tst:=fun sl cs K=>e.tst sl cs fun b cs=>K (!b) cs }
theorem zvi {e:ED} (p:Pos) (h:EGood C e):EGood C (.not e p):=fun Φ ns w=>.tdfl ⟨fun _ _=>rfl,fun _ _=>rfl,fun _=>rfl,fun _ _ _=>rfl⟩
 (fun sl σ K S q Q E k=>wpAny_UnaryOp ((h Φ ns w).val sl σ _ S q _ _ fun a a' σ1 X1 ra q1=>not_value (zhi X1.H ra q1 fun b tk q=>k _ _ (σ1.up σ1.s.heap tk σ1.g) (X1.trans (Ext.tok X1.H)) (.bool _) q)))
 (fun sl σ K S q Q E k=>wpAny_isTrue_Not ((h Φ ns w).tst sl σ _ S q _ _ fun b b' σ1 X1 rb q1=>k _ _ σ1 X1 (congrArg (! ·) rb) q1))
noncomputable def boolT (op:BoolOp) (es:List ED):Slots -> List Cell -> KB -> Prop :=
 List.rec (fun _ cs K=>BoolOp.rec (motive:=fun _=>Prop) (K true cs) (K false cs) op) (fun e _ ih sl cs K=>e.tst sl cs fun b cs=>BoolOp.rec (motive:=fun _=>Prop) (Bool.rec (K false cs) (ih sl cs K) b) (Bool.rec (ih sl cs K) (K true cs) b) op) es
theorem zxq (op:BoolOp) (es:List ED):∀ {σ:St} (sl:Slots) (K:KB),(∀ e ∈ es,EOk C Φ ns e) -> Std C Φ (look ns sl) σ -> boolT op es sl σ.g.cs K -> Runs C Φ.A σ noOwn (allTrue op (es.map ED.ast) Φ.env) BR K:=by
 induction es with
 | nil =>
  intro σ sl K _ S q Q E k
  cases op with
  | And=>exact wpAny_pure (k _ _ σ (Ext.refl S.H _) rfl q)
  | Or=>exact wpAny_pure (k _ _ σ (Ext.refl S.H _) rfl q)
 | cons e es ih =>
  intro σ sl K O S q Q E k
  have O':=fun x hx=>O x (List.mem_cons_of_mem _ hx)
  have go:∀ σ1,Ext σ σ1 noOwn -> boolT op es sl σ1.g.cs K -> wpAny C.M Φ.A (allTrue op (es.map ED.ast) Φ.env) Q E σ1.s:=fun σ1 X1 q1=>ih sl K O' (S.ext X1) q1 Q E fun b b' σ2 X2 r q2=>k b b' σ2 (X1.trans X2) r q2
  cases op with
  | And=>exact wpAny_allTrue_And_cons ((O e List.mem_cons_self).tst sl σ _ S q _ _ fun b b' σ1 X1 rb q1=>by
    cases (rb:b' = b)
    cases b with
    | false=>exact k _ _ σ1 X1 rfl q1
    | true=>exact go σ1 X1 q1)
  | Or=>exact wpAny_allTrue_Or_cons ((O e List.mem_cons_self).tst sl σ _ S q _ _ fun b b' σ1 X1 rb q1=>by
    cases (rb:b' = b)
    cases b with
    | false=>exact go σ1 X1 q1
    | true=>exact k _ _ σ1 X1 rfl q1)
noncomputable def boolV (op:BoolOp) (es:List ED):Slots -> List Cell -> KV -> Prop :=
 List.rec (motive:=fun _=>Slots -> List Cell -> KV -> Prop) (fun _ _ _=>False) (fun e rest ih sl cs K=>List.rec (motive:=fun _=>Prop) (e.val sl cs K) (fun _ _ _=>e.val sl cs fun v cs=>truthK cs v fun b cs=>BoolOp.rec (motive:=fun _=>Prop) (Bool.rec (K v cs) (ih sl cs K) b) (Bool.rec (ih sl cs K) (K v cs) b) op) rest) es
theorem zxp (p:Pos) (op:BoolOp) (es:List ED):∀ {σ:St} (sl:Slots) (K:KV),(∀ e ∈ es,EOk C Φ ns e) -> Std C Φ (look ns sl) σ -> boolV op es sl σ.g.cs K -> Runs C Φ.A σ noOwn (boolOp p op (evalEach (es.map ED.ast) Φ.env)) VR K:=by
 induction es with
 | nil=>exact fun sl K _ S q=>q.elim
 | cons e es ih =>
  intro σ sl K O S q
  have O1:=O e List.mem_cons_self
  have O':=fun x hx=>O x (List.mem_cons_of_mem _ hx)
  cases es with
  | nil=>exact O1.val sl σ K S q
  | cons e2 es =>
   intro Q E k
   show wpAny _ _ (do let v <- eval e.ast Φ.env; standAt p; let t <- holding [v] (truthy v); match op,t with | .And,false | .Or,true=>pure v | _,_=>boolOp p op (evalEach ((e2 :: es).map ED.ast) Φ.env)) _ _ _
   refine wpAny_bind (O1.val sl σ _ S q _ _ fun v v' σ1 X1 rv q1=>wpAny_bind (wpAny_standAt (wpAny_bind (wpAny_holding (zhi X1.H rv q1 fun b tk q2=>?_)))))
   have X2:Ext σ (σ1.up σ1.s.heap tk σ1.g) noOwn:=X1.trans (Ext.tok X1.H)
   have go:boolV op (e2 :: es) sl σ1.g.cs K -> wpAny C.M Φ.A (boolOp p op (evalEach ((e2 :: es).map ED.ast) Φ.env)) Q E { σ1.s with toks:=tk }:=fun q3=>ih sl K O' (S.ext X2) q3 Q E fun w w' σ3 X3 r3 q4=>k w w' σ3 (X2.trans X3) r3 q4
   cases op <;> cases b
   ·exact wpAny_pure (k v v' (σ1.up σ1.s.heap tk σ1.g) X2 rv q2)
   ·exact go q2
   ·exact go q2
   ·exact wpAny_pure (k v v' (σ1.up σ1.s.heap tk σ1.g) X2 rv q2)
noncomputable def ED.bools (op:BoolOp) (es:List ED) (p:Pos):ED:={ ED.dfl (.BoolOp op (es.map ED.ast) p) (wfs es) (boolV op es) with tst:=boolT op es }
theorem zov (op:BoolOp) {es:List ED} (p:Pos) (h:EAll C es):EGood C (.bools op es p):=fun Φ ns w=>.tdfl ⟨fun _ _=>rfl,fun _ _=>rfl,fun _=>rfl,fun _ _ _=>rfl⟩ (fun sl σ K S q=>zxp p op es sl K (h.ok w) S q)
 (fun sl σ K S q Q E k=>wpAny_isTrue_BoolOp (zxq op es sl K (h.ok w) S q Q E k))
noncomputable def ED.ifx (t a b:ED) (p:Pos):ED:={ ED.dfl (.IfExp t.ast a.ast b.ast p) (fun sc ns=>t.wf sc ns && (a.wf sc ns && b.wf sc ns)) (fun sl cs K=>t.tst sl cs fun c cs=>Bool.rec (b.val sl cs K) (a.val sl cs K) c) with tst:=fun sl cs K=>t.tst sl cs fun c cs=>Bool.rec (b.tst sl cs K) (a.tst sl cs K) c }
theorem zwl {t a b:ED} (p:Pos) (ht:EGood C t) (ha:EGood C a) (hb:EGood C b):EGood C (.ifx t a b p):=fun Φ ns w=>by
 have w1:=(Bool.and_eq_true _ _).mp w
 obtain ⟨Oa,Ob⟩:=both ha hb w1.2
 have Ot:=ht Φ ns w1.1
 refine .tdfl ⟨fun _ _=>rfl,fun _ _=>rfl,fun _=>rfl,fun _ _ _=>rfl⟩ (fun sl σ K S q Q E k=>wpAny_IfExp (Ot.tst sl σ _ S q _ _ fun c c' σ1 X1 rc q1=>?_)) (fun sl σ K S q Q E k=>PyProof.Rows.isTrue_IfExp (Ot.tst sl σ _ S q _ _ fun c c' σ1 X1 rc q1=>?_))
 ·cases (rc:c' = c)
  cases c with
  | true=>exact Oa.val sl σ1 _ (S.ext X1) q1 _ _ fun v a σ2 X2 r q2=>k v a σ2 (X1.trans X2) r q2
  | false=>exact Ob.val sl σ1 _ (S.ext X1) q1 _ _ fun v a σ2 X2 r q2=>k v a σ2 (X1.trans X2) r q2
 ·cases (rc:c' = c)
  cases c with
  | true=>exact Oa.tst sl σ1 _ (S.ext X1) q1 _ _ fun v a σ2 X2 r q2=>k v a σ2 (X1.trans X2) r q2
  | false=>exact Ob.tst sl σ1 _ (S.ext X1) q1 _ _ fun v a σ2 X2 r q2=>k v a σ2 (X1.trans X2) r q2
noncomputable def ED.cmp (l:ED) (op:CmpOp) (r:ED) (p:Pos):ED:={ ED.dfl (.Compare l.ast [op] [r.ast] p) (fun sc ns=>l.wf sc ns && r.wf sc ns) (fun sl cs K=>l.val sl cs fun a cs=>r.val sl cs fun b cs=>CmpR cs (fun b cs=>K (.bool b) cs) op a b) with
 tst:=fun sl cs K=>l.val sl cs fun a cs=>r.val sl cs fun b cs=>CmpR cs K op a b }
theorem zxj {l r:ED} (op:CmpOp) (p:Pos) (hl:EGood C l) (hr:EGood C r):EGood C (.cmp l op r p):=fun Φ ns w=>by
 have O:=both hl hr w
 refine .tdfl ⟨fun _ _=>rfl,fun _ _=>rfl,fun _=>rfl,fun _ _ _=>rfl⟩ (fun sl σ K S q Q E k=>wpAny_Compare1 (ze6 O S q fun a b a' b' σ' X S' ra rb e=>zyu e S'.H S'.B.pr ra rb S'.O fun r tk q=>k _ _ (σ'.up σ'.s.heap tk σ'.g) (X.trans (Ext.tok X.H)) (.bool _) q) (O.2.pl.marks op))
  (fun sl σ K S q Q E k=>wpAny_isTrue_Compare1 (ze6 O S q fun a b a' b' σ' X S' ra rb e=>zyu e S'.H S'.B.pr ra rb S'.O fun r tk q=>wpAny_truthy_bool (k _ _ (σ'.up σ'.s.heap _ σ'.g) (X.trans (Ext.tok X.H)) rfl q)) (O.2.pl.marks op))
noncomputable def vals (es:List ED):Slots -> List Cell -> (List V -> List Cell -> Prop) -> Prop:=List.rec (fun _ cs K=>K [] cs) (fun e _ ih sl cs K=>e.val sl cs fun v cs=>ih sl cs fun vs cs=>K (v :: vs) cs) es
theorem zbe {M:Model} {A:Around} {s:Shared} {x:Sem Value} {rest:List (Bool × Sem Value)} {Q:List Value -> Shared -> Prop} {E:Value -> Shared -> Prop} (h:wpAny M A x (fun a s₁=>wpAny M A (spliced rest) (fun b s₂=>Q (a :: b) s₂) E s₁) E s):wpAny M A (spliced ((false,x) :: rest)) Q E s :=
 wpAny_bind (wpAny_mono h (fun a s₁ h₁=>wpAny_bind (wpAny_pure (wpAny_bind (wpAny_holding (wpAny_mono h₁ (fun b s₂ h₂=>wpAny_pure h₂) fun _ _ x=>x))))) fun _ _ x=>x)
theorem zhh (pos:Pos) (es:List ED):∀ {σ:St} (sl:Slots) (K:List V -> List Cell -> Prop),(∀ e ∈ es,EOk C Φ ns e) -> Std C Φ (look ns sl) σ -> vals es sl σ.g.cs K -> Runs C Φ.A σ noOwn (spliced (backTo pos (starEach (es.map ED.ast) Φ.env))) LR K:=by
 induction es with
 | nil=>exact fun sl K _ S q Q E k=>Calls.spliced_nil (k [] [] _ (Ext.refl S.H _) .nil q)
 | cons e es ih =>
  intro σ sl K O S q Q E k
  have O1:=O e List.mem_cons_self
  rw [List.map_cons,O1.pl.star]
  exact zbe (O1.val sl σ _ S q _ _ fun v v' σ1 X1 r1 q1=>ih sl _ (fun x hx=>O x (List.mem_cons_of_mem _ hx)) (S.ext X1) q1 _ _ fun vs vs' σ2 X2 r2 q2=>k _ _ σ2 (X1.trans X2) (.cons (r1.mono X2.le) r2) q2)
theorem zau (pos:Pos) {es:List ED} (O:∀ e ∈ es,EOk C Φ ns e):(∀ t ∈ backTo pos (starEach (es.map ED.ast) Φ.env),t.1 = false) /\ (starEach (es.map ED.ast) Φ.env).length = es.length:=by
 induction es with
 | nil=>exact ⟨fun t ht=>(nomatch ht),rfl⟩
 | cons e es ih =>
  rw [List.map_cons,(O e List.mem_cons_self).pl.star]
  obtain ⟨h1,h2⟩:=ih fun x hx=>O x (List.mem_cons_of_mem _ hx)
  refine ⟨fun t ht=>(List.mem_cons.mp ht).elim (fun z=>?_) (h1 t),congrArg (· + 1) h2⟩
  rw [z]
noncomputable def ED.list (c:Bool) (es:List ED) (p:Pos):ED:=.dfl (.List (es.map ED.ast) p) (wfs es) fun sl cs K=>vals es sl cs fun vs cs=>listK c vs cs K
theorem zrf (c:Bool) {es:List ED} (p:Pos) (h:EAll C es):EGood C (.list c es p):=fun Φ ns w=>.dfl ⟨fun _ _=>rfl,fun _ _=>rfl,fun _=>rfl,fun _ _ _=>rfl⟩ (fun _=>rfl) fun sl σ K S q Q E k =>
 wpAny_List (zhh p es sl _ (h.ok w) S q _ _ fun vs vs' σ1 X1 r q1=>by
  obtain ⟨v,σ2,X2,e2,r2,q2⟩:=zms (c:=c) (ep:=0) X1.H r (fun a o e=>Heap.get?_push_of_some _ e) (get?_size _) (Heap.get?_push_size _ rfl) q1 σ1.s.toks
  refine ⟨by rw [All2.length r]; exact Nat.le_trans q1.1 zax,?_⟩
  have:=k v _ σ2 (X1.trans X2) r2 q2
  rw [e2] at this
  exact this)
noncomputable def ED.tup (es:List ED) (n:Nat) (p:Pos):ED:=.dfl (.Tuple (es.map ED.ast) n p) (wfs es) fun sl cs K=>vals es sl cs fun vs cs=>vs.length <= lim /\ K (.tup vs) cs
theorem zuf {es:List ED} (n:Nat) (p:Pos) (h:EAll C es):EGood C (.tup es n p):=fun Φ ns w=>.dfl ⟨fun _ _=>rfl,fun _ _=>rfl,fun _=>rfl,fun _ _ _=>rfl⟩ (fun _=>rfl) fun sl σ K S q Q E k =>
 wpAny_Tuple (zhh p es sl _ (h.ok w) S q _ _ fun vs vs' σ1 X1 r q1=>⟨by rw [All2.length r]; exact Nat.le_trans q1.1 zax,
  k _ _ (σ1.up _ σ1.s.toks _) (X1.trans (zf3 (o:=tupO vs' 0) X1.H (fun _ e=>(nomatch e)) rfl _)) (.tup (zam ..) (vmono r (Le.freeze _ _ (X1.H.hf_none (get?_size _)))) q1.1) q1.2⟩)
end
section
variable {C:Cx} {Φ:Fm} {ns:List Str} {σ:St}
noncomputable abbrev KwN:=List (Str × Pos)
noncomputable def kwAst (kn:KwN):List ED -> List Keyword:=List.rec (fun _=>[]) (fun n _ ih es=>List.rec [] (fun e es _=>⟨some n.1,e.ast,n.2⟩ :: ih es) es) kn
noncomputable def kwZip (kn:KwN):List V -> Kws:=List.rec (fun _=>[]) (fun n _ ih vs=>List.rec [] (fun v vs _=>(n.1,v) :: ih vs) vs) kn
structure KwAt (pos:Pos) (kn:KwN) (es:List ED) (env:Env):Prop where
 some:(backToKw pos (keywordEach (kwAst kn es) env)).all (·.1.isSome) = true
 nms:(backToKw pos (keywordEach (kwAst kn es) env)).filterMap (·.1) = kn.map (·.1)
 len:(kwAst kn es).length = kn.length
theorem kw_at (pos:Pos) (env:Env) (kn:KwN):∀ (es:List ED),kn.length = es.length -> KwAt pos kn es env:=by
 induction kn with
 | nil=>exact fun es _=>⟨rfl,rfl,rfl⟩
 | cons n kn ih =>
  intro es h
  cases es with
  | nil=>cases h
  | cons e es =>
   have I:=ih es (Nat.succ.inj h)
   exact ⟨I.some,congrArg (n.1 :: ·) I.nms,congrArg (· + 1) I.len⟩
theorem zrh (pos:Pos) (kn:KwN):∀ (es:List ED) {σ:St} (sl:Slots) (K:List V -> List Cell -> Prop),kn.length = es.length -> (∀ e ∈ es,EOk C Φ ns e) -> Std C Φ (look ns sl) σ -> vals es sl σ.g.cs K -> Runs C Φ.A σ noOwn (evalAll ((backToKw pos (keywordEach (kwAst kn es) Φ.env)).map (·.2))) LR K:=by
 induction kn with
 | nil =>
  intro es σ sl K h O S q
  cases es with
  | nil=>exact fun Q E k=>wpAny_pure (k [] [] _ (Ext.refl S.H _) .nil q)
  | cons=>cases h
 | cons n kn ih =>
  intro es σ sl K h O S q
  cases es with
  | nil=>cases h
  | cons e es =>
   exact fun Q E k=>wpAny_evalAll_cons (wpAny_bind ((O e List.mem_cons_self).val sl σ _ S q _ _ fun v v' σ1 X1 r1 q1=>wpAny_bind (wpAny_standAt (wpAny_pure
    (ih es sl _ (Nat.succ.inj h) (fun x hx=>O x (List.mem_cons_of_mem _ hx)) (S.ext X1) q1 _ _ fun vs vs' σ2 X2 r2 q2=>k _ _ σ2 (X1.trans X2) (.cons (r1.mono X2.le) r2) q2)))))
theorem zym {g:Gh} (kn:KwN):∀ {vs:List V} {vs':List Value},VRels g vs vs' -> KRel g (kwZip kn vs) ((kn.map (·.1)).zip vs'):=by
 induction kn with
 | nil=>exact fun _=>.nil
 | cons n kn ih =>
  intro vs vs' r
  cases r with
  | nil=>exact .nil
  | cons h r=>exact .cons ⟨rfl,h⟩ (ih r)
structure AR (g:Gh) (p:List V × Kws) (a:Args):Prop where
 pos:VRels g p.1 a.pos
 kw:KRel g p.2 a.kw
theorem zcu {f:Value} (pos:Pos) {es kv:List ED} (kn:KwN) (hk:kn.length = kv.length) (O:∀ e ∈ es,EOk C Φ ns e) (Ok:∀ e ∈ kv,EOk C Φ ns e) {sl:Slots} (S:Std C Φ (look ns sl) σ) {T:List V -> List V -> List Cell -> Prop}
  (q:vals es sl σ.g.cs fun vs cs=>vals kv sl cs fun us cs=>T vs us cs) {Q:Args -> Shared -> Prop} {E:Value -> Shared -> Prop} (k:∀ vs us a σ',Ext σ σ' noOwn -> AR σ'.g (vs,kwZip kn us) a -> T vs us σ'.g.cs -> Q a σ'.s) :
  wpAny C.M Φ.A (evalArgs f true (backTo pos (starEach (es.map ED.ast) Φ.env)) (backToKw pos (keywordEach (kwAst kn kv) Φ.env))) Q E σ.s:=by
 have W:=kw_at pos Φ.env kn kv hk
 have hs:=zhh pos es sl _ O S q (fun vs' s₁=>wpAny C.M Φ.A (evalAll ((backToKw pos (keywordEach (kwAst kn kv) Φ.env)).map (·.2))) (fun ks' s₂=>Q ⟨vs',((backToKw pos (keywordEach (kwAst kn kv) Φ.env)).filterMap (·.1)).zip ks'⟩ s₂) E s₁) E fun vs a σ1 X1 r1 q1=>by
  refine zrh pos kn kv sl _ hk Ok (S.ext X1) q1 _ _ fun us b σ2 X2 r2 q2=>?_
  rw [W.nms]
  exact k vs us _ σ2 (X1.trans X2) ⟨vmono r1 X2.le,zym kn r2⟩ q2
 cases es with
 | nil =>
  refine evalArgs_kw_nil W.some (zrh pos kn kv sl _ hk Ok S q _ _ fun us b σ2 X2 r2 q2=>?_)
  rw [W.nms]
  exact k [] us _ σ2 X2 ⟨.nil,zym kn r2⟩ q2
 | cons e es =>
  rw [List.map_cons,(O e List.mem_cons_self).pl.star] at hs ⊢
  exact evalArgs_kw W.some hs
theorem za0 {M:Model} {A:Around} {s:Shared} {E:Value -> Shared -> Prop} {pos:Pos} {f:Value} {first:List Value} {args:List (Bool × Sem Value)} {keywords:List (Option Str × Sem Value)} {Q:Value -> Shared -> Prop}
  (hplain:∀ t ∈ args,t.1 = false) (hkw:keywords.all (·.1.isSome) = true)
  (h:wpAny M A (evalArgs f true args keywords) (fun x s₁=>(∀ (E:Value -> Shared -> Prop) (Q:Keeper -> Shared -> Prop),(∀ k,Q k s₁) -> wpAny M A (keeperOf f) Q E s₁) /\ wpAny M A (call f (first ++ x.pos) x.kw) Q E s₁) E s) :
  wpAny M A (callWith pos f first args keywords) Q E s:=by
 have h1:args.any (·.1) = false:=List.any_eq_false.mpr fun t ht=>by rw [hplain t ht]; exact Bool.false_ne_true
 have h2:keywords.any (·.1.isNone) = false:=List.any_eq_false.mpr fun t ht=>by
  have:=List.all_eq_true.mp hkw t ht
  cases q:t.1 with
  | none=>rw [q] at this; cases this
  | some x=>exact Bool.false_ne_true
 unfold callWith
 refine wpAny_bind (wpAny_holding (wpAny_mono h (fun x s₁ h₁=>wpAny_bind (wpAny_standAt ?_)) fun _ _ x=>x))
 have tail:∀ {t:Sem Value},wpAny M A t Q E s₁ -> wpAny M A (t >>= fun r=>holding [r] point >>= fun _=>pure r) Q E s₁ :=
  fun ht=>wpAny_bind (wpAny_mono ht (fun r s₂ hr=>wpAny_bind (wpAny_holding (wpAny_point (wpAny_pure hr)))) fun _ _ x=>x)
 rw [h1,h2,Bool.or_false]
 refine wpAny_bind (m:=keeperOf f) (h₁.1 _ _ fun k=>?_)
 cases k with
 | frame =>
  dsimp only
  split
  ·exact tail h₁.2
  ·exact tail (by unfold callMarked; exact Calls.wpAny_keep h₁.2)
 | boundFrame =>
  dsimp only
  split
  ·exact tail h₁.2
  ·exact tail (by unfold callMarked; exact Calls.wpAny_keep h₁.2)
 | machine=>exact tail h₁.2
 | caller=>exact tail (zdv h₁.2)
noncomputable def ED.name (P:Prm) (g:Bool) (x:Str) (i:Nat) (p:Pos):ED:=Bool.rec (ED.loc x i p) (ED.glob P x i p) g
theorem zq7 {P:Prm} (G:∀ x v,(x,v) ∈ P.globs -> GlobAt C x v) (g:Bool) (x:Str) (i:Nat) (p:Pos):EGood C (.name P g x i p):=by
 cases g with
 | false=>exact zaw x i p
 | true=>exact zc5 G x i p
theorem zvq {P:Prm} (g:Bool) (x:Str) (i:Nat) (p:Pos):(ED.name P g x i p).ast = .Name x p:=by cases g <;> rfl
noncomputable def ED.call (P:Prm) (g:Bool) (x:Str) (i:Nat) (fp:Pos) (es:List ED) (p:Pos):ED:=.dfl (.Call (.Name x fp) (es.map ED.ast) [] p) (fun sc ns=>(ED.name P g x i fp).wf sc ns && (!(x == ("super" : Str)) && wfs es sc ns)) fun sl cs K=>(ED.name P g x i fp).val sl cs fun fv cs=>vals es sl cs fun vs cs=>CallR P cs K fv vs []
theorem zjx {x:Str} (h:(x == ("super" : Str)) = false) (fp:Pos) (args:List Expr) (p:Pos) (attr:Str) (env:Env) (w:Sem Value):attributeBase (.Call (.Name x fp) args [] p) attr env w = w:=by
 cases args with
 | cons=>rfl
 | nil =>
  show (if (!(x == ("super" : Str)) || _ || _ || _) = true then w else _) = w
  rw [h]; rfl
theorem ztf {P:Prm} (G:∀ x v,(x,v) ∈ P.globs -> GlobAt C x v) (Fn:FnsOk C P) (g:Bool) (x:Str) (i:Nat) (fp:Pos) {es:List ED} (p:Pos) (h:EAll C es):EGood C (.call P g x i fp es p):=fun Φ ns w=>by
 have w2:=(Bool.and_eq_true _ _).mp w
 have w3:=(Bool.and_eq_true _ _).mp w2.2
 have O:=h.ok w3.2
 refine .dfl ⟨fun _ _=>rfl,fun _ _=>rfl,fun _=>rfl,zjx (notB w3.1) _ _ _⟩ (fun _=>rfl) fun sl σ K S q Q E k=>?_
 have hf:=(zq7 G g x i fp Φ ns w2.1).val sl σ _ S q
 rw [zvq] at hf
 refine wpAny_bind (hf _ _ fun fv f' σ1 X1 rf q1=>za0 (zau p O).1 rfl (zcu p (es:=es) (kv:=[]) [] rfl O (fun _ z=>nomatch z) (S.ext X1) (T:=fun vs _ cs=>CallR P cs K fv vs []) q1 fun vs us a σ2 X2 ra q2=>?_))
 have S2:=(S.ext X1).ext X2
 obtain ⟨kp,run⟩:=zlq Fn q2 S2.O S2.H S2.B (rf.mono X2.le) ra.pos ra.kw
 exact ⟨kp,run Q E fun v x σ3 X3 r q=>k v x σ3 ((X1.trans X2).trans X3) r q⟩
end
section
variable {C:Cx} {Φ:Fm} {ns:List Str} {σ:St} {P:Prm}
noncomputable def GetsM (C:Cx) (A:Around) (s:Shared) (o':Value) (name:Str) (f:Value):Prop:=∀ (pl:Sem Bool) (Q:Value × List Value -> Shared -> Prop) (E:Value -> Shared -> Prop),(∀ tk,Q (f,[o']) { s with toks:=tk }) -> wpAny C.M A (getMethod o' name pl) Q E s
noncomputable def MethsOk (C:Cx) (P:Prm):Prop:=∀ {A:Around} {σ₁:St} {m:Meth} {o:V} {o':Value},AOk A C.d -> HasM P σ₁.g.cs m o -> HRel σ₁.g σ₁.s.heap -> Base C σ₁.g -> VRel σ₁.g o o' ->
 ∃ f,GetsM C A σ₁.s o' m.name f /\ ∀ {σ:St} {args:List V} {args':List Value} {K:KV},Le σ₁.g σ.g -> HRel σ.g σ.s.heap -> Base C σ.g -> VRels σ.g args args' -> MethR P σ.g.cs K m o args -> CallsOk C A σ K f (o' :: args') []
noncomputable def CMethsOk (C:Cx) (P:Prm):Prop:=∀ {A:Around} {σ:St} {name:Str} {f:Addr} {o:V} {o':Value},AOk A C.d -> P.meths.lookup name = some f -> ClsR σ.g.cs o P.cls -> HRel σ.g σ.s.heap -> Base C σ.g -> VRel σ.g o o' -> GetsM C A σ.s o' name (.ref f)
noncomputable def AttrsOk (C:Cx) (P:Prm):Prop:=∀ {A:Around} {σ:St} {o r:V} {o':Value},AOk A C.d -> AttrR P σ.g.cs o r -> HRel σ.g σ.s.heap -> Base C σ.g -> VRel σ.g o o' ->
 ∀ (Q:Value -> Shared -> Prop) (E:Value -> Shared -> Prop),(∀ r' tk,VRel σ.g r r' -> Q r' { σ.s with toks:=tk }) -> wpAny C.M A (getAttr o' headersName true) Q E σ.s
structure Facts (C:Cx) (P:Prm):Prop where
 lo:∃ o,C.base cStatics = some o
 glob:∀ x v,(x,v) ∈ P.globs -> GlobAt C x v
 fns:FnsOk C P
 meth:MethsOk C P
 cmeth:CMethsOk C P
 attr:AttrsOk C P
noncomputable def mformB (apos pos:Pos) (n k:Nat):Bool:=apos.endLine == pos.line && Nat.blt (n + k) 20
theorem zg1 {M:Model} {A:Around} {env:Env} {s:Shared} {o:Expr} {name:Str} {apos pos:Pos} {es:List Expr} {kws:List Keyword} {n k:Nat} {Q:Value -> Shared -> Prop} {E:Value -> Shared -> Prop} (hb:∀ w,attributeBase o name env w = w) (hn:es.length = n) (hp:∀ t ∈ backTo pos (starEach es env),t.1 = false)
  (hk:kws.length = k) (hks:(backToKw pos (keywordEach kws env)).all (·.1.isSome) = true) (hf:mformB apos pos n k = true)
  (h:wpAny M A (eval o env) (fun ov' s1=>∃ f,(∀ (pl:Sem Bool) (Q:Value × List Value -> Shared -> Prop) (E:Value -> Shared -> Prop),(∀ tk,Q (f,[ov']) { s1 with toks:=tk }) -> wpAny M A (getMethod ov' name pl) Q E s1) /\ ∀ tk,wpAny M A (evalArgs f true (backTo pos (starEach es env)) (backToKw pos (keywordEach kws env)))
   (fun a s₂=>(∀ (E:Value -> Shared -> Prop) (Q:Keeper -> Shared -> Prop),(∀ k,Q k s₂) -> wpAny M A (keeperOf f) Q E s₂) /\ wpAny M A (call f (ov' :: a.pos) a.kw) Q E s₂) E { s1 with toks:=tk }) E s) :
  wpAny M A (eval (.Call (.Attribute o name apos) es kws pos) env) Q E s:=by
 have hf':=(Bool.and_eq_true _ _).mp hf
 have hl:=Nat.blt_eq.mp hf'.2
 rw [arm_eval_Call,hb]
 refine wpAny_bind (wpAny_mono h (fun ov' s1 h1=>wpAny_bind (wpAny_standAt ?_)) fun _ _ x=>x)
 obtain ⟨f,gm,run⟩:=h1
 have hform:methodCallForm (es.length + kws.length) (backTo pos (starEach es env)) (backToKw pos (keywordEach kws env)) = true:=by
  unfold methodCallForm
  rw [hks,hn,hk,Bool.and_true,Bool.and_eq_true]
  refine ⟨List.all_eq_true.mpr fun t ht=>by rw [hp t ht]; rfl,decide_eq_true (Nat.lt_of_lt_of_le (Nat.add_lt_add_of_lt_of_le (d:=1) hl ?_) (by decide))⟩
  split
  ·exact Nat.zero_le _
  ·exact Nat.le_refl _
 have hpos:methodCallPos true o env apos pos = pure pos:=by unfold methodCallPos; rw [hf'.1]; rfl
 unfold methodCall
 rw [hform]
 refine wpAny_bind (wpAny_holding ?_)
 refine gm _ _ _ fun tk=>?_
 refine wpAny_bind (wpAny_of_eq hpos ?_)
 exact za0 hp hks (run tk)
theorem zb8 {o:ED} {name:Str} {apos pos:Pos} {es:List Expr} {kv:List ED} {kn:KwN} {n:Nat} (Oo:EOk C Φ ns o) (hn:es.length = n) (hp:∀ t ∈ backTo pos (starEach es Φ.env),t.1 = false) (hk:kn.length = kv.length) (hf:mformB apos pos n kn.length = true) {sl:Slots} (S:Std C Φ (look ns sl) σ)
  {Q:Value -> Shared -> Prop} {E:Value -> Shared -> Prop} {H:V -> List Cell -> Prop} (q:o.val sl σ.g.cs H)
  (hm:∀ ov ov' σ1,Ext σ σ1 noOwn -> Std C Φ (look ns sl) σ1 -> VRel σ1.g ov ov' -> H ov σ1.g.cs -> ∃ f,GetsM C Φ.A σ1.s ov' name f /\ ∀ tk,wpAny C.M Φ.A (evalArgs f true (backTo pos (starEach es Φ.env)) (backToKw pos (keywordEach (kwAst kn kv) Φ.env)))
   (fun a s₂=>(∀ (E:Value -> Shared -> Prop) (Q:Keeper -> Shared -> Prop),(∀ k,Q k s₂) -> wpAny C.M Φ.A (keeperOf f) Q E s₂) /\ wpAny C.M Φ.A (call f (ov' :: a.pos) a.kw) Q E s₂) E { σ1.s with toks:=tk }) :
  wpAny C.M Φ.A (eval (.Call (.Attribute o.ast name apos) es (kwAst kn kv) pos) Φ.env) Q E σ.s :=
 have W:=kw_at pos Φ.env kn kv hk
 zg1 (fun _=>Oo.pl.base _ _ _) hn hp W.len W.some hf (Oo.val sl σ _ S q _ _ fun ov ov' σ1 X1 r1 q1=>hm ov ov' σ1 X1 (S.ext X1) r1 q1)
theorem zmt {o:ED} {name:Str} {apos pos:Pos} {es kv:List ED} {kn:KwN} (Oo:EOk C Φ ns o) (O:∀ e ∈ es,EOk C Φ ns e) (Ok:∀ e ∈ kv,EOk C Φ ns e) (hk:kn.length = kv.length) (hf:mformB apos pos es.length kn.length = true) {sl:Slots} (S:Std C Φ (look ns sl) σ)
  {K:KV} {H:V -> List Cell -> Prop} {T:V -> List V -> List V -> List Cell -> Prop} (q:o.val sl σ.g.cs fun ov cs=>H ov cs /\ vals es sl cs fun vs cs=>vals kv sl cs fun us cs=>T ov vs us cs)
  (hm:∀ ov ov' σ1,Std C Φ (look ns sl) σ1 -> VRel σ1.g ov ov' -> H ov σ1.g.cs -> ∃ f,GetsM C Φ.A σ1.s ov' name f /\ ∀ σ2 vs us a,Ext σ1 σ2 noOwn -> Std C Φ (look ns sl) σ2 -> AR σ2.g (vs,kwZip kn us) a -> T ov vs us σ2.g.cs -> CallsOk C Φ.A σ2 K f (ov' :: a.pos) a.kw) :
  Runs C Φ.A σ noOwn (eval (.Call (.Attribute o.ast name apos) (es.map ED.ast) (kwAst kn kv) pos) Φ.env) VR K:=fun Q E k=>by
 refine zb8 Oo (List.length_map _) (zau pos O).1 hk hf S q fun ov ov' σ1 X1 S1 r1 q1=>?_
 obtain ⟨f,gm,run⟩:=hm ov ov' σ1 S1 r1 q1.1
 refine ⟨f,gm,fun tk=>?_⟩
 have X0:Ext σ1 (σ1.up σ1.s.heap tk σ1.g) noOwn:=Ext.tok X1.H
 refine zcu (σ:=σ1.up σ1.s.heap tk σ1.g) pos kn hk O Ok (S1.ext X0) (T:=T ov) q1.2 fun vs us a σ2 X2 ra q2=>?_
 obtain ⟨kp,run⟩:=run σ2 vs us a (X0.trans X2) ((S1.ext X0).ext X2) ra q2
 exact ⟨kp,run Q E fun v x σ3 X3 r q=>k v x σ3 ((X1.trans (X0.trans X2)).trans X3) r q⟩
noncomputable def ED.mcall (P:Prm) (o:ED) (m:Meth) (apos:Pos) (es:List ED) (p:Pos):ED:=.dfl (.Call (.Attribute o.ast m.name apos) (es.map ED.ast) [] p) (fun sc ns=>mformB apos p es.length 0 && (o.wf sc ns && wfs es sc ns)) fun sl cs K=>o.val sl cs fun ov cs=>HasM P cs m ov /\ vals es sl cs fun vs cs=>MethR P cs K m ov vs
theorem zog (F:Facts C P) {o:ED} (m:Meth) (apos:Pos) {es:List ED} (p:Pos) (ho:EGood C o) (h:EAll C es):EGood C (.mcall P o m apos es p):=fun Φ ns w=>.dfl ⟨fun _ _=>rfl,fun _ _=>rfl,fun _=>rfl,fun _ _ _=>rfl⟩ (fun _=>rfl) fun sl σ K S q=>by
 have w1:=(Bool.and_eq_true _ _).mp w
 have w2:=(Bool.and_eq_true _ _).mp w1.2
 refine zmt (kv:=[]) (kn:=[]) (H:=fun ov cs=>HasM P cs m ov) (T:=fun ov vs _ cs=>MethR P cs K m ov vs) (ho Φ ns w2.1) (h.ok w2.2) (fun _ z=>nomatch z) rfl w1.1 S q fun ov ov' σ1 S1 r1 hm=>?_
 obtain ⟨f,g,run⟩:=F.meth S1.O hm S1.H S1.B r1
 refine ⟨f,g,fun σ2 vs us a X2 S2 ra q2=>?_⟩
 have:=run X2.le S2.H S2.B ra.pos q2
 rw [show a.kw = [] from ra.kw.nil_of]
 exact this
noncomputable def ED.cmcall (P:Prm) (o:ED) (name:Str) (f:Addr) (apos:Pos) (es:List ED) (kn:KwN) (kv:List ED) (p:Pos):ED:=.dfl (.Call (.Attribute o.ast name apos) (es.map ED.ast) (kwAst kn kv) p)
 (fun sc ns=>(mformB apos p es.length kn.length && (P.meths.lookup name == some f && kn.length == kv.length)) && (o.wf sc ns && (wfs es sc ns && wfs kv sc ns)))
 fun sl cs K=>o.val sl cs fun ov cs=>ClsR cs ov P.cls /\ vals es sl cs fun vs cs=>vals kv sl cs fun us cs=>CallR P cs K (.adr f) (ov :: vs) (kwZip kn us)
theorem zf6 (F:Facts C P) {o:ED} (name:Str) (f:Addr) (apos:Pos) {es:List ED} (kn:KwN) {kv:List ED} (p:Pos) (ho:EGood C o) (h:EAll C es) (hk:EAll C kv):EGood C (.cmcall P o name f apos es kn kv p):=fun Φ ns w=>.dfl ⟨fun _ _=>rfl,fun _ _=>rfl,fun _=>rfl,fun _ _ _=>by cases es <;> cases kn <;> cases kv <;> rfl⟩ (fun _=>rfl) fun sl σ K S q=>by
 have w0:=(Bool.and_eq_true _ _).mp w
 have w1:=(Bool.and_eq_true _ _).mp w0.1
 have w2:=(Bool.and_eq_true _ _).mp w1.2
 have w3:=(Bool.and_eq_true _ _).mp w0.2
 have w4:=(Bool.and_eq_true _ _).mp w3.2
 refine zmt (H:=fun ov cs=>ClsR cs ov P.cls) (T:=fun ov vs us cs=>CallR P cs K (.adr f) (ov :: vs) (kwZip kn us)) (ho Φ ns w3.1) (h.ok w4.1) (hk.ok w4.2) (eq_of_beq w2.2) w1.1 S q fun ov ov' σ1 S1 r1 hm=>⟨.ref f,F.cmeth S1.O (eq_of_beq w2.1) hm S1.H S1.B r1,fun σ2 vs us a X2 S2 ra q2=>?_⟩
 exact zlq F.fns q2 S2.O S2.H S2.B (.adr f) (.cons (r1.mono X2.le) ra.pos) ra.kw
noncomputable def ED.attr (P:Prm) (o:ED) (p:Pos):ED:=.dfl (.Attribute o.ast headersName p) o.wf fun sl cs K=>o.val sl cs fun ov cs=>∃ r,AttrR P cs ov r /\ K r cs
theorem zj1 (F:Facts C P) {o:ED} (p:Pos) (ho:EGood C o):EGood C (.attr P o p):=fun Φ ns w=>.dfl ⟨fun _ _=>rfl,fun _ _=>rfl,fun _=>rfl,fun _ _ _=>rfl⟩ (fun _=>rfl) fun sl σ K S q Q E k=>by
 have he:eval (.Attribute o.ast headersName p) Φ.env = (do
  let ov <- attributeBase o.ast headersName Φ.env (eval o.ast Φ.env)
  standAt p.atName
  let r <- holding [ov] (getAttr ov headersName true)
  letTemporaryGo o.ast ov r
  pure r):=rfl
 have O:=ho Φ ns w
 rw [he,O.pl.base]
 refine wpAny_bind (O.val sl σ _ S q _ _ fun ov ov' σ1 X1 r1 q1=>wpAny_bind (wpAny_standAt (wpAny_bind (wpAny_holding ?_))))
 obtain ⟨r,ha,q1⟩:=q1
 have S1:=S.ext X1
 exact F.attr S1.O ha S1.H S1.B r1 _ _ fun r' tk rr=>wpAny_bind (wpAny_letTemporaryGo (wpAny_pure (k r r' (σ1.up σ1.s.heap tk σ1.g) (X1.trans (Ext.tok X1.H)) rr q1)))
noncomputable def ED.item (o i:ED) (p:Pos):ED:=.dfl (.Subscript o.ast i.ast p) (fun sc ns=>o.wf sc ns && i.wf sc ns) fun sl cs K=>o.val sl cs fun ov cs=>i.val sl cs fun iv cs=>∃ v,ItemR cs ov iv v /\ K v cs
theorem zrj {o i:ED} (p:Pos) (ho:EGood C o) (hi:EGood C i):EGood C (.item o i p):=fun Φ ns w=>.dfl ⟨fun _ _=>rfl,fun _ _=>rfl,fun _=>rfl,fun _ _ _=>rfl⟩ (fun _=>rfl) fun sl σ K S q Q E k =>
 zeu (ze6 (both ho hi w) S q fun a b a' b' σ' X S' ra rb e=>by
  obtain ⟨v,e,q⟩:=e
  obtain ⟨T,id,h1,h2,h3⟩:=z1r (C:=C) (A:=Φ.A) e S'.H S'.B.pr ra rb
  exact ⟨T,id,h1,h2,h3 _ _ fun v' tk r=>k v v' (σ'.up σ'.s.heap tk σ'.g) (X.trans (Ext.tok X.H)) r q⟩)
theorem zk5 {e:ED} (O:EOk C Φ ns e) (sl:Slots) (σ:St) (K:KV) (S:Std C Φ (look ns sl) σ) (q:e.val sl σ.g.cs K):Runs C Φ.A σ noOwn (evalPart e.opt Φ.env) VR K:=by
 rcases O.opt with h | ⟨h,hv⟩
 ·rw [h]; exact fun Q E k=>wpAny_evalPart_some (O.val sl σ K S q Q E k)
 ·rw [h]
  rw [hv] at q
  exact fun Q E k=>wpAny_evalPart_none (k _ _ _ (Ext.refl S.H _) .none q)
noncomputable def ED.slice (c:Bool) (o l h s:ED) (sp p:Pos):ED:=.dfl (.Subscript o.ast (.Slice l.opt h.opt s.opt sp) p) (fun sc ns=>(o.wf sc ns && l.wf sc ns) && (h.wf sc ns && s.wf sc ns))
 fun sl cs K=>o.val sl cs fun ov cs=>l.val sl cs fun lv cs=>h.val sl cs fun hv cs=>s.val sl cs fun sv cs=>∃ l' h' s',OptR lv l' /\ OptR hv h' /\ OptR sv s' /\ SliceR c cs K ov l' h' s'
theorem znw (c:Bool) {o l h s:ED} (sp p:Pos) (ho:EGood C o) (hl:EGood C l) (hh:EGood C h) (hs:EGood C s):EGood C (.slice c o l h s sp p):=fun Φ ns w=>.dfl ⟨fun _ _=>rfl,fun _ _=>rfl,fun _=>rfl,fun _ _ _=>rfl⟩ (fun _=>rfl) fun sl σ K S q Q E k=>by
 have w1:=(Bool.and_eq_true _ _).mp w
 obtain ⟨O1,O2⟩:=both ho hl w1.1
 obtain ⟨O3,O4⟩:=both hh hs w1.2
 refine zeu (O1.val sl σ _ S q _ _ fun ov o' σ1 X1 r1 q1=>wpAny_Slice (zk5 O2 sl σ1 _ (S.ext X1) q1 _ _ fun lv l' σ2 X2 r2 q2=>?_))
 have S2:=(S.ext X1).ext X2
 refine zk5 O3 sl σ2 _ S2 q2 _ _ fun hv h' σ3 X3 r3 q3=>zk5 O4 sl σ3 _ (S2.ext X3) q3 _ _ fun sv s' σ4 X4 r4 q4=>?_
 obtain ⟨li,hi,si,e1,e2,e3,q4⟩:=q4
 exact zus q4 X4.H (r1.mono (X2.trans (X3.trans X4)).le) e1 e2 e3 (r2.mono (X3.trans X4).le) (r3.mono X4.le) r4 fun v a σ5 X5 r5 q5=>k v a σ5 ((X1.trans (X2.trans (X3.trans X4))).trans X5) r5 q5
end
section
variable {C:Cx} {Φ:Fm} {ns:List Str} {σ:St} {P:Prm}
inductive ItF where
 | enum | rev
noncomputable def ItF.tn:ItF -> String:=ItF.rec "enumerate" "reversed"
inductive ItfR (cs:List Cell) (K:KS):ItF -> Tgt -> List V -> Prop
 | enum {xs k p v s} (e:EnumR cs v s) (q:K s cs):ItfR cs K .enum (.tup xs k p) [v]
 | rev {t a} (q:K (.items a.reverse) cs):ItfR cs K .rev t [.lst a]
noncomputable def ED.itf (P:Prm) (f:ItF) (x:Str) (i:Nat) (fp:Pos) (es:List ED) (p:Pos):ED:={ ED.dfl (.Call (.Name x fp) (es.map ED.ast) [] p) (fun sc ns=>(ED.glob P x i fp).wf sc ns && (!(x == ("super" : Str)) && wfs es sc ns)) (fun _ _ _=>False) with
 src:=fun t sl cs K=>(ED.glob P x i fp).val sl cs fun fv cs=>fv = .typ f.tn /\ vals es sl cs fun vs cs=>ItfR cs K f t vs }
theorem itf_ok {A:Around} {K:KS} {f:ItF} {t:Tgt} {vs:List V} {vs':List Value} (H:HRel σ.g σ.s.heap) (r:VRels σ.g vs vs') (e:ItfR σ.g.cs K f t vs):ItRuns C A t σ (callIter C A f.tn vs' σ.s) K:=by
 cases e with
 | enum e q=>obtain ⟨v',rfl,rv⟩:=r.one; exact z2g ⟨_,_,_,rfl⟩ e H rv q
 | rev q=>obtain ⟨v',rfl,rv⟩:=r.one; exact rev_ok t H rv q
theorem zwc (F:Facts C P) (f:ItF) (x:Str) (i:Nat) (fp:Pos) {es:List ED} (p:Pos) (h:EAll C es):EGood C (.itf P f x i fp es p):=fun Φ ns w=>by
 have w2:=(Bool.and_eq_true _ _).mp w
 have w3:=(Bool.and_eq_true _ _).mp w2.2
 have O:=h.ok w3.2
 have hv:ValOk C Φ ns (.Call (.Name x fp) (es.map ED.ast) [] p) fun _ _ _=>False:=fun _ _ _ _ q=>q.elim
 refine ⟨hv,zx4 (fun _=>rfl) hv,fun t sl σ K S q Q E k=>?_,⟨fun _ _=>rfl,fun _ _=>rfl,fun _=>rfl,zjx (notB w3.1) _ _ _⟩,.inl rfl⟩
 have q0:(ED.glob P x i fp).val sl σ.g.cs fun fv cs=>fv = .typ f.tn /\ vals es sl cs fun vs cs=>ItfR cs K f t vs:=q
 have hg:=(zc5 F.glob x i fp Φ ns w2.1).val sl σ _ S q0
 refine wpAny_bind (hg _ _ fun fv f' σ1 X1 rf q1=>?_)
 obtain ⟨rfl,q1⟩:=q1
 cases rf.inv
 refine za0 (zau p O).1 rfl (zcu p (es:=es) (kv:=[]) [] rfl O (fun _ z=>nomatch z) (S.ext X1) (T:=fun vs _ cs=>ItfR cs K f t vs) q1 fun vs us a σ2 X2 ra q2=>⟨zfy (C:=C) (σ:=σ2) f.tn,?_⟩)
 rw [show a.kw = [] from ra.kw.nil_of]
 exact itf_ok X2.H ra.pos q2 Q E fun s it os P σ3 X3 I p fr q=>k s it os P σ3 ((X1.trans X2).trans X3) I p (fun a ha=>(X1.trans X2).dead (fr a ha)) q
theorem znr (es:List Expr) (env:Env):(forIn es false fun c r=>(if r = true then do let ok <- isTrue c env (eval c env); pure (ForInStep.yield ok) else pure (ForInStep.yield r):Sem (ForInStep Bool))) = pure false:=by
 induction es with
 | nil=>rfl
 | cons e es ih=>rw [List.forIn_cons]; exact ih
theorem zul (r:CR) (es:List ED):(∀ e ∈ es,EOk r.C r.Φ r.ns e) -> TestsOk r (es.map ED.ast) (boolT .And es):=by
 induction es with
 | nil=>exact fun _ sl σ T q S Q E k=>wpAny_pure (k true true σ (Ext.refl S.H _) rfl q)
 | cons e es ih =>
  intro O sl σ T q S Q E k
  show wpAny _ _ (forIn (e.ast :: es.map ED.ast) true _) _ _ _
  rw [List.forIn_cons]
  refine wpAny_bind (wpAny_bind ((O e List.mem_cons_self).tst sl σ _ S q _ _ fun b b' σ1 X1 rb q1=>wpAny_pure ?_))
  cases (rb:b' = b)
  cases b with
  | false =>
   show wpAny _ _ (forIn (es.map ED.ast) false _) _ _ _
   rw [znr]
   exact wpAny_pure (k _ _ σ1 X1 rfl q1)
  | true=>exact ih (fun x hx=>O x (List.mem_cons_of_mem _ hx)) sl σ1 T q1 (S.ext X1) Q E fun b b' σ2 X2 r q2=>k b b' σ2 (X1.trans X2) r q2
noncomputable def compB (t:Tgt) (iter:ED) (ifs:List ED) (scope:Scope) (sc:Scope) (ns:List Str):Bool:=(compOkB sc scope && (t.ok scope (ownNs scope ++ ns) && t.lt (ownNs scope).length)) && (iter.wf sc ns && wfs ifs (compScope sc scope) (ownNs scope ++ ns))
structure CB (t:Tgt) (iter:ED) (ifs:List ED) (scope:Scope) (sc:Scope) (ns:List Str):Prop where
 ok:compOkB sc scope = true
 tok:t.ok scope (ownNs scope ++ ns) = true
 tlt:t.lt (ownNs scope).length = true
 it:iter.wf sc ns = true
 tst:wfs ifs (compScope sc scope) (ownNs scope ++ ns) = true
theorem zim {t:Tgt} {iter:ED} {ifs:List ED} {scope sc:Scope} (h:compB t iter ifs scope sc ns = true):CB t iter ifs scope sc ns :=
 have h1:=(Bool.and_eq_true _ _).mp h
 have h2:=(Bool.and_eq_true _ _).mp h1.1
 have h3:=(Bool.and_eq_true _ _).mp h2.2
 have h4:=(Bool.and_eq_true _ _).mp h1.2
 ⟨h2.1,h3.1,h3.2,h4.1,h4.2⟩
theorem ztd (F:Facts C P) {t:Tgt} {iter:ED} {ifs:List ED} {scope:Scope} (hi:EGood C iter) (hf:EAll C ifs) (B:CB t iter ifs scope Φ.env.scope ns) {c:CE} {γ:Type} {emit:γ -> Slots -> List Cell -> (γ -> List Cell -> Prop) -> Prop} {Gd:γ -> Gh -> Obj -> Prop} {out:γ -> List Cell -> KV -> Prop} {init:γ}
  (hE:∀ r:CR,r.C = C -> r.env.scope = compScope Φ.env.scope scope -> r.ns = ownNs scope ++ ns -> r.c = c -> r.own r.D -> ¬ ownAll r.env r.D -> EmitOk r Gd emit) (G:GdOk Gd) (O:OutOk C.w Gd out) (i0:∀ g,Gd init g c.obj0) :
  CIn C Φ ns scope t iter.ast (ifs.map ED.ast) c (boolT .And ifs) emit Gd out init (iter.src t) where
 P:=⟨B.ok,B.tok,B.tlt,fun r h1 h2 h3=>zul r ifs fun e he=>h1 ▸ hf e he r.Φ r.ns (by rw [h2,h3]; exact List.all_eq_true.mp B.tst e he),hE,G,O,i0⟩
 lo:=F.lo
 fold:=fun x=>(hi Φ ns B.it).pl.fold _ _
 hi:=(hi Φ ns B.it).src t
noncomputable def ED.lcomp (c:Bool) (elt:ED) (t:Tgt) (iter:ED) (ifs:List ED) (scope:Scope) (p:Pos):ED:=.dfl (.ListComp elt.ast [⟨t.ast,iter.ast,ifs.map ED.ast,0⟩] scope p) (fun sc ns=>compB t iter ifs scope sc ns && elt.wf (compScope sc scope) (ownNs scope ++ ns))
 (compV scope t (boolT .And ifs) (emitL elt.val) (outL c) [] (iter.src t))
theorem zjk (F:Facts C P) {c:Bool} {elt:ED} {t:Tgt} {iter:ED} {ifs:List ED} {scope:Scope} (he:EGood C elt) (hi:EGood C iter) (hf:EAll C ifs) (w:(compB t iter ifs scope Φ.env.scope ns && elt.wf (compScope Φ.env.scope scope) (ownNs scope ++ ns)) = true) :
  CIn C Φ ns scope t iter.ast (ifs.map ED.ast) (.lst elt.ast) (boolT .And ifs) (emitL elt.val) GdL (outL c) [] (iter.src t) :=
 have w':=(Bool.and_eq_true _ _).mp w
 ztd F hi hf (zim w'.1) (fun r h1 h2 h3 hc oD nD=>zw5 hc oD nD (h1 ▸ (he r.Φ r.ns (by rw [h2,h3]; exact w'.2)).val)) zyo z0v fun g=>⟨[],0,rfl,.nil⟩
theorem zoi (F:Facts C P) (c:Bool) {elt:ED} (t:Tgt) {iter:ED} {ifs:List ED} (scope:Scope) (p:Pos) (he:EGood C elt) (hi:EGood C iter) (hf:EAll C ifs):EGood C (.lcomp c elt t iter ifs scope p):=fun Φ ns w=>.dfl ⟨fun _ _=>rfl,fun _ _=>rfl,fun _=>rfl,fun _ _ _=>rfl⟩ (fun _=>rfl)
 (zta (zjk F (c:=c) he hi hf w) p)
end
end Mine
end
section
namespace Mine
open PySem PySem.SeqAt
noncomputable abbrev KvI:=List (Int × V)
noncomputable abbrev KRelI (g:Gh):=All2 (fun (p:Int × V) (q:Int × Value)=>p.1 = q.1 /\ VRel g p.2 q.2)
theorem kmonoI {g g':Gh} {xs:KvI} {ys:List (Int × Value)} (r:KRelI g xs ys) (L:Le g g'):KRelI g' xs ys:=r.imp fun _ _ h=>⟨h.1,h.2.mono L⟩
noncomputable def hasI (kvs:KvI) (k:Int):Bool:=kvs.any fun kv=>kv.1 = k
theorem zu9 {g:Gh} {k:Int} {v:V} {v':Value} (h:VRel g v v') {kvs:KvI} {kvs':List (Int × Value)} (hn:hasI kvs k = false) (r:KRelI g kvs kvs'):KRelI g (kvs ++ [(k,v)]) (stored kvs' k v'):=by
 unfold stored
 have keys:(kvs'.any fun kv=>kv.1 = k) = hasI kvs k:=by
  unfold hasI
  clear hn
  induction r with
  | nil=>rfl
  | cons h q ih=>rw [List.any_cons,List.any_cons,ih,h.1]
 rw [keys,hn,if_neg (by decide)]
 exact r.append (.cons ⟨rfl,h⟩ .nil)
noncomputable def GdI (prog:Program) (w:World) (acc:KvI) (g:Gh) (o:Obj):Prop :=
 ∃ es n kvs',o = ⟨.type "dict",none,.dict es n,#[]⟩ /\ KeysOf (intKind prog w) es /\ Pairs (intKind prog w) es.toList kvs' /\ (kvs'.map (·.1)).Nodup /\ KRelI g acc kvs'
variable {prog:Program} {w:World}
theorem zm0:GdOk (GdI prog w):=fun acc g o h=>by
 obtain ⟨es,n,kvs',rfl,h1,h2,h3,r⟩:=h
 exact ⟨fun v e=>(nomatch e),fun g' L=>⟨es,n,kvs',rfl,h1,h2,h3,kmonoI r L⟩⟩
theorem gdI_of {g:Gh} {h:Heap} {D:Addr} {kvs:KvI} {kvs':List (Int × Value)} (hd:h.DictOf (intKind prog w) D kvs') (r:KRelI g kvs kvs'):∃ o,h.get? D = some o /\ GdI prog w kvs g o:=by
 obtain ⟨o,es,ep,e,⟨x1,x2,x3⟩,hdat,hk,hp,hn⟩:=hd
 refine ⟨o,e,es,ep,kvs',?_,hk,hp,hn,r⟩
 obtain ⟨c,d,dt,sl⟩:=o
 cases x1; cases x2; cases x3; cases hdat
 rfl
theorem of_gdI {g:Gh} {h:Heap} {D:Addr} {kvs:KvI} {o:Obj} (e:h.get? D = some o) (x:GdI prog w kvs g o):∃ kvs',h.DictOf (intKind prog w) D kvs' /\ KRelI g kvs kvs':=by
 obtain ⟨es,n,kvs',rfl,hk,hp,hn,r⟩:=x
 exact ⟨kvs',⟨_,es,n,e,⟨rfl,rfl,rfl⟩,rfl,hk,hp,hn⟩,r⟩
noncomputable def intK (v:V) (k:Int -> Prop):Prop:=V.rec (motive_1:=fun _=>Prop) (motive_2:=fun _=>Unit) False (fun _=>False) (fun i=>k i) (fun _=>False) (fun _=>False) (fun _=>False) (fun _=>False) (fun _=>False) (fun _ _=>False) (fun _ _=>False) (fun _ _ _=>False) (fun _ _ _=>False) (fun _ _ _=>False) () (fun _ _ _ _=>()) v
theorem z1u {v:V} {k:Int -> Prop} (h:intK v k):∃ x,v = .int x /\ k x:=by
 cases v with
 | int x=>exact ⟨x,rfl,h⟩
 | _=>exact h.elim
noncomputable def emitI (kv vv:Slots -> List Cell -> KV -> Prop):KvI -> Slots -> List Cell -> (KvI -> List Cell -> Prop) -> Prop:=fun acc sl c M=>kv sl c fun k c=>intK k fun x=>vv sl c fun v c=>(acc.length < lim /\ hasI acc x = false) /\ M (acc ++ [(x,v)]) c
theorem zm8 {r:CR} {kx vx:Expr} {kv vv:Slots -> List Cell -> KV -> Prop} (hc:r.c = .dct kx vx) (oD:r.own r.D) (nD:¬ ownAll r.env r.D) (hk:ValOk r.C r.Φ r.ns kx kv) (hv:ValOk r.C r.Φ r.ns vx vv):EmitOk r (GdI r.C.prog r.C.w) (emitI kv vv):=by
 intro acc sl σ M h S Q E k
 rw [hc]
 refine wpAny_bind (hk sl σ _ S.S h _ _ fun k1 k' σ1 X1 rk q=>?_)
 obtain ⟨x,rfl,q⟩:=z1u q
 refine wpAny_bind (wpAny_holding (hv sl σ1 _ (S.S.ext X1) q _ _ fun v v' σ2 X2 rv q2=>?_))
 have X:=X1.trans X2
 have D1:=zj2 zm0 S.at_ X S.W oD fun z=>z
 have S1:TurnSt r (look r.ns sl) (GdI r.C.prog r.C.w) acc σ2:=⟨S.S.ext X,S.W.ext X,D1⟩
 obtain ⟨o,eo,hg⟩:=D1
 obtain ⟨kvs',hd,pr⟩:=of_gdI eo hg
 obtain ⟨u,rfl⟩:=rk.inv
 refine wpAny_bind (wpAny_standAt (wpAny_holding ?_))
 refine wpAny_dictSet_pairs (knd:=intKind r.C.prog r.C.w) (k:=x) (beq_self_eq_true x:(x == x) = true) hd (fun h3 hd3 hs=>?_) (by rw [pr.length]; exact Nat.le_trans (Nat.le_of_lt q2.1.1) (by decide))
 obtain ⟨o3,e3,g3⟩:=gdI_of hd3 (zu9 rv q2.1.2 pr)
 obtain ⟨X2,S2⟩:=zmj (tk:=_) (acc':=acc ++ [(x,v)]) oD nD S1 hs e3 g3
 exact k _ _ ((X.mono fun _ z=>z.elim).trans X2) S2 q2.2
theorem zoj {g:Gh} {kvs:KvI} {kvs':List (Int × Value)} (r:KRelI g kvs kvs'):∀ {es:List DictEntry},(∀ e ∈ es,∃ k,(intKind prog w).is k e.key = true /\ e.hash = (intKind prog w).hash k) -> Pairs (intKind prog w) es kvs' ->
  All2 IntKey (kvs.map (·.1)) es /\ VRels g (kvs.map (·.2)) (es.map (·.val)):=by
 induction r with
 | nil=>intro es hk hp'; cases hp'; exact ⟨.nil,.nil⟩
 | @cons p p' r r' h q ih =>
  intro es hk hp'
  cases hp' with
  | @cons e _ es _ h1 h2 hp'' =>
   obtain ⟨k2,e1,e2⟩:=hk _ List.mem_cons_self
   cases (intKind prog w).inj _ _ _ e1 h1
   obtain ⟨t,ht⟩:=Value.isInt_shape h1
   obtain ⟨i1,i2⟩:=ih (fun e he=>hk e (List.mem_cons_of_mem _ he)) hp''
   refine ⟨.cons ⟨⟨t,?_⟩,?_⟩ i1,.cons ?_ i2⟩
   ·show e.key = .int p.1 t
    rw [ht,h.1]
   ·show e.hash = hashInt p.1
    rw [e2,h.1]; rfl
   ·show VRel g p.2 e.val
    rw [h2]; exact h.2
noncomputable def dctiOf (l:KvI):V:=.dcti (l.map (·.1)) (l.map (·.2))
noncomputable def outI:KvI -> List Cell -> KV -> Prop:=fun acc cs K=>K (dctiOf acc) cs
theorem zoq {σ:St} {D:Addr} {acc:KvI} {o:Obj} (n:σ.g.hf D = none) (hs:(D == sysModules) = false) (hg:GdI prog w acc σ.g o):VRel (σ.g.freeze D o) (dctiOf acc) (.ref D):=by
 obtain ⟨es,m,kvs',rfl,hk,hp',hn,r⟩:=hg
 have L:=Le.freeze σ.g ⟨.type "dict",none,.dict es m,#[]⟩ n
 obtain ⟨h1,h2⟩:=zoj r (es:=es.toList) (fun e he=>hk e (Array.mem_toList_iff.mp he)) hp'
 exact .dcti (es:=es.toList) (zam ..) h1 (vmono h2 L) hs
theorem zqv:OutOk w (GdI prog w) outI:=by
 intro acc σ₀ σ own D K X W oD fr hp hs hD q
 obtain ⟨o,e,hg⟩:=hD
 have nn:=W D oD
 exact ⟨_,⟨σ.s,σ.g.freeze D o⟩,rfl,zey X W oD fr e (zm0 _ _ _ hg).1,zoq nn.2.1 hs hg,q,fun a ha h=>(if_neg ha).trans h,fun a ha h=>h⟩
section
variable {C:Cx} {P:Prm}
noncomputable def ED.dcompI (kx vx:ED) (t:Tgt) (iter:ED) (ifs:List ED) (scope:Scope) (p:Pos):ED:=.dfl (.DictComp kx.ast vx.ast [⟨t.ast,iter.ast,ifs.map ED.ast,0⟩] scope p) (fun sc ns=>compB t iter ifs scope sc ns && (kx.wf (compScope sc scope) (ownNs scope ++ ns) && vx.wf (compScope sc scope) (ownNs scope ++ ns)))
 (compV scope t (boolT .And ifs) (emitI kx.val vx.val) outI [] (iter.src t))
theorem zlo (F:Facts C P) {kx vx:ED} (t:Tgt) {iter:ED} {ifs:List ED} (scope:Scope) (p:Pos) (hk:EGood C kx) (hv:EGood C vx) (hi:EGood C iter) (hf:EAll C ifs):EGood C (.dcompI kx vx t iter ifs scope p):=fun Φ ns w=>by
 have w':=(Bool.and_eq_true _ _).mp w
 have w2:=(Bool.and_eq_true _ _).mp w'.2
 refine .dfl ⟨fun _ _=>rfl,fun _ _=>rfl,fun _=>rfl,fun _ _ _=>rfl⟩ (fun _=>rfl) (zta (c:=.dct kx.ast vx.ast) (Gd:=GdI C.prog C.w) (ztd F hi hf (zim w'.1) (fun r h1 h2 h3 hc oD nD=>?_) zm0 zqv fun g=>?_) p)
 ·subst h1
  exact zm8 hc oD nD (hk r.Φ r.ns (by rw [h2,h3]; exact w2.1)).val (hv r.Φ r.ns (by rw [h2,h3]; exact w2.2)).val
 ·exact ⟨#[],0,[],rfl,fun e he=>(by simp at he),.nil,List.nodup_nil,.nil⟩
end
end Mine
end
section
namespace Mine
open PySem PySem.SeqAt
set_option genCtorIdx false in
inductive IE where
 | con (c:Const) (k:Nat) (p:Pos)
 | absent
 | nm (x:Str) (i:Nat) (p:Pos)
 | gl (x:Str) (i:Nat) (p:Pos)
 | bin (c:Bool) (l:IE) (op:Operator) (r:IE) (p:Pos)
 | un (op:UnaryOp) (e:IE) (p:Pos)
 | not (e:IE) (p:Pos)
 | bools (op:BoolOp) (es:List IE) (p:Pos)
 | ifx (t a b:IE) (p:Pos)
 | cmp (l:IE) (op:CmpOp) (r:IE) (p:Pos)
 | list (c:Bool) (es:List IE) (p:Pos)
 | tup (es:List IE) (n:Nat) (p:Pos)
 | call (g:Bool) (x:Str) (i:Nat) (fp:Pos) (es:List IE) (p:Pos)
 | mcall (o:IE) (m:Meth) (apos:Pos) (es:List IE) (p:Pos)
 | cmcall (o:IE) (name:Str) (f:Addr) (apos:Pos) (es:List IE) (kn:KwN) (kv:List IE) (p:Pos)
 | attr (o:IE) (p:Pos)
 | item (o i:IE) (p:Pos)
 | slice (c:Bool) (o l h s:IE) (sp p:Pos)
 | itf (f:ItF) (x:Str) (i:Nat) (fp:Pos) (es:List IE) (p:Pos)
 | lcomp (c:Bool) (elt:IE) (t:Tgt) (iter:IE) (ifs:List IE) (scope:Scope) (p:Pos)
 | dcompI (kx vx:IE) (t:Tgt) (iter:IE) (ifs:List IE) (scope:Scope) (p:Pos)
noncomputable def IE.sem (P:Prm):IE -> ED:=fun e=>IE.rec (motive_1:=fun _=>ED) (motive_2:=fun _=>List ED)
 ED.con ED.absent ED.loc (ED.glob P) (fun c _ op _ p l r=>ED.bin c l op r p) (fun op _ p e=>ED.un op e p) (fun _ p e=>ED.not e p) (fun op _ p es=>ED.bools op es p)
 (fun _ _ _ p t a b=>ED.ifx t a b p) (fun _ op _ p l r=>ED.cmp l op r p) (fun c _ p es=>ED.list c es p) (fun _ n p es=>ED.tup es n p) (fun g x i fp _ p es=>ED.call P g x i fp es p)
 (fun _ m apos _ p o es=>ED.mcall P o m apos es p) (fun _ name f apos _ kn _ p o es kv=>ED.cmcall P o name f apos es kn kv p) (fun _ p o=>ED.attr P o p) (fun _ _ p o i=>ED.item o i p)
 (fun c _ _ _ _ sp p o l h s=>ED.slice c o l h s sp p) (fun f x i fp _ p es=>ED.itf P f x i fp es p) (fun c _ t _ _ scope p elt iter ifs=>ED.lcomp c elt t iter ifs scope p)
 (fun _ _ t _ _ scope p kx vx iter ifs=>ED.dcompI kx vx t iter ifs scope p) [] (fun _ _ e es=>e :: es) e
noncomputable def IE.sems (P:Prm):List IE -> List ED:=fun e=>IE.rec_1 (motive_1:=fun _=>ED) (motive_2:=fun _=>List ED)
 ED.con ED.absent ED.loc (ED.glob P) (fun c _ op _ p l r=>ED.bin c l op r p) (fun op _ p e=>ED.un op e p) (fun _ p e=>ED.not e p) (fun op _ p es=>ED.bools op es p)
 (fun _ _ _ p t a b=>ED.ifx t a b p) (fun _ op _ p l r=>ED.cmp l op r p) (fun c _ p es=>ED.list c es p) (fun _ n p es=>ED.tup es n p) (fun g x i fp _ p es=>ED.call P g x i fp es p)
 (fun _ m apos _ p o es=>ED.mcall P o m apos es p) (fun _ name f apos _ kn _ p o es kv=>ED.cmcall P o name f apos es kn kv p) (fun _ p o=>ED.attr P o p) (fun _ _ p o i=>ED.item o i p)
 (fun c _ _ _ _ sp p o l h s=>ED.slice c o l h s sp p) (fun f x i fp _ p es=>ED.itf P f x i fp es p) (fun c _ t _ _ scope p elt iter ifs=>ED.lcomp c elt t iter ifs scope p)
 (fun _ _ t _ _ scope p kx vx iter ifs=>ED.dcompI kx vx t iter ifs scope p) [] (fun _ _ e es=>e :: es) e
theorem all_nil {C:Cx}:EAll C []:=fun _ h=>nomatch h
theorem all_cons {C:Cx} {e:ED} {es:List ED} (h:EGood C e) (hs:EAll C es):EAll C (e :: es):=fun x hx=>(List.mem_cons.mp hx).elim (fun z=>z ▸ h) (hs x)
theorem IE.good {C:Cx} {P:Prm} (F:Facts C P) (e:IE):EGood C (e.sem P) :=
 IE.rec (motive_1:=fun e=>EGood C (e.sem P)) (motive_2:=fun es=>EAll C (IE.sems P es))
  zfc zl1 zaw (zc5 F.glob) (fun c _ op _ p l r=>zxt c op p l r) (fun op _ p e=>zzn op p e) (fun _ p e=>zvi p e) (fun op _ p es=>zov op p es)
  (fun _ _ _ p t a b=>zwl p t a b) (fun _ op _ p l r=>zxj op p l r) (fun c _ p es=>zrf c p es) (fun _ n p es=>zuf n p es) (fun g x i fp _ p es=>ztf F.glob F.fns g x i fp p es)
  (fun _ m apos _ p o es=>zog F m apos p o es) (fun _ name f apos _ kn _ p o es kv=>zf6 F name f apos kn p o es kv) (fun _ p o=>zj1 F p o) (fun _ _ p o i=>zrj p o i)
  (fun c _ _ _ _ sp p o l h s=>znw c sp p o l h s) (fun f x i fp _ p es=>zwc F f x i fp p es) (fun c _ t _ _ scope p elt iter ifs=>zoi F c t scope p elt iter ifs)
  (fun _ _ t _ _ scope p kx vx iter ifs=>zlo F t scope p kx vx iter ifs) all_nil (fun _ _ e es=>all_cons e es) e
theorem IE.all_good {C:Cx} {P:Prm} (F:Facts C P) (es:List IE):EAll C (IE.sems P es):=by
 induction es with
 | nil=>exact all_nil
 | cons e es ih=>exact all_cons (e.good F) ih
inductive Fl where
 | next | brk | cont
 | ret (v:V)
inductive FlRel (g:Gh):Fl -> Flow -> Prop
 | next:FlRel g .next .next
 | brk:FlRel g .brk .brk
 | cont:FlRel g .cont .cont
 | ret {v v'} (r:VRel g v v'):FlRel g (.ret v) (.ret v')
noncomputable abbrev KF:=Fl -> Slots -> List Cell -> Prop
structure SD where
 ast:Stmt
 wf:Scope -> List Str -> Bool
 den:Slots -> List Cell -> KF -> Prop
noncomputable def XRuns (C:Cx) (Φ:Fm) (ns:List Str) (σ:St) (t:Sem Flow) (K:KF):Prop:=∀ (Q:Flow -> Shared -> Prop) (E:Value -> Shared -> Prop),(∀ fl sl f σ',Ext σ σ' (ownOf Φ.env) -> FlRel σ'.g fl f -> Std C Φ (look ns sl) σ' -> K fl sl σ'.g.cs -> Q f σ'.s) -> wpAny C.M Φ.A t Q E σ.s
noncomputable def SOk (C:Cx) (Φ:Fm) (ns:List Str) (d:SD):Prop:=∀ sl σ K,Std C Φ (look ns sl) σ -> d.den sl σ.g.cs K -> XRuns C Φ ns σ (exec d.ast Φ.env) K
noncomputable def SGood (C:Cx) (d:SD):Prop:=∀ Φ ns,C.fm Φ.A Φ.env -> d.wf Φ.env.scope ns = true -> SOk C Φ ns d
noncomputable def SAll (C:Cx) (ds:List SD):Prop:=∀ d ∈ ds,SGood C d
noncomputable def bwf (ds:List SD) (sc:Scope) (ns:List Str):Bool:=ds.all fun d=>d.wf sc ns
noncomputable def bden (ds:List SD):Slots -> List Cell -> KF -> Prop:=List.rec (fun sl cs K=>K .next sl cs) (fun d _ ih sl cs K=>d.den sl cs fun fl sl cs=>Fl.rec (ih sl cs K) (K .brk sl cs) (K .cont sl cs) (fun v=>K (.ret v) sl cs) fl) ds
section
variable {C:Cx} {Φ:Fm} {ns:List Str} {σ σ':St} {P:Prm}
theorem toOwn (x:Ext σ σ' noOwn):Ext σ σ' (ownOf Φ.env):=x.mono fun _ h=>h.elim
theorem zby (ds:List SD):(∀ d ∈ ds,SOk C Φ ns d) -> ∀ sl σ K,Std C Φ (look ns sl) σ -> bden ds sl σ.g.cs K -> XRuns C Φ ns σ (execs (ds.map SD.ast) Φ.env) K:=by
 induction ds with
 | nil=>exact fun _ sl σ K S q Q E k=>wpAny_execs_nil (k .next sl .next σ (Ext.refl S.H _) .next S q)
 | cons d ds ih =>
  intro O sl σ K S q Q E k
  refine wpAny_execs_cons (O d List.mem_cons_self sl σ _ S q _ _ fun fl sl1 f σ1 X1 r1 S1 q1=>?_)
  cases r1 with
  | next=>exact ih (fun x hx=>O x (List.mem_cons_of_mem _ hx)) sl1 σ1 K S1 q1 Q E fun fl sl2 f σ2 X2 r2 S2 q2=>k fl sl2 f σ2 (X1.trans X2) r2 S2 q2
  | brk=>exact k .brk sl1 .brk σ1 X1 .brk S1 q1
  | cont=>exact k .cont sl1 .cont σ1 X1 .cont S1 q1
  | ret r=>exact k (.ret _) sl1 (.ret _) σ1 X1 (.ret r) S1 q1
theorem SAll.ok {ds:List SD} (h:SAll C ds) (fm:C.fm Φ.A Φ.env) (w:bwf ds Φ.env.scope ns = true):∀ d ∈ ds,SOk C Φ ns d:=fun d hd=>h d hd Φ ns fm (List.all_eq_true.mp w d hd)
noncomputable def SD.raw (s:Stmt):SD:=⟨s,fun _ _=>true,fun _ _ _=>False⟩
theorem zu8 (s:Stmt):SGood C (.raw s):=fun Φ ns fm w sl σ K S q=>q.elim
noncomputable def SD.ret (e:ED) (p:Pos):SD:=⟨.Return (some e.ast) p,e.wf,fun sl cs K=>e.val sl cs fun v cs=>K (.ret v) sl cs⟩
theorem zu6 {e:ED} (p:Pos) (h:EGood C e):SGood C (.ret e p):=fun Φ ns fm w sl σ K S q Q E k =>
 wpAny_Return_some ((h Φ ns w).val sl σ _ S q _ _ fun v a σ1 X1 r q1=>k (.ret v) sl _ σ1 (toOwn X1) (.ret r) (S.ext X1) q1)
noncomputable def SD.retN (p:Pos):SD:=⟨.Return none p,fun _ _=>true,fun sl cs K=>K (.ret .none) sl cs⟩
theorem zqp (p:Pos):SGood C (.retN p):=fun Φ ns fm w sl σ K S q Q E k=>wpAny_Return_none (k (.ret .none) sl _ σ (Ext.refl S.H _) (.ret .none) S q)
noncomputable def SD.ite (t:ED) (a b:List SD) (p:Pos):SD:=⟨.If t.ast (a.map SD.ast) (b.map SD.ast) p,fun sc ns=>t.wf sc ns && (bwf a sc ns && bwf b sc ns),fun sl cs K=>t.tst sl cs fun c cs=>Bool.rec (bden b sl cs K) (bden a sl cs K) c⟩
theorem zid {t:ED} {a b:List SD} (p:Pos) (ht:EGood C t) (ha:SAll C a) (hb:SAll C b):SGood C (.ite t a b p):=fun Φ ns fm w sl σ K S q Q E k=>by
 have w1:=(Bool.and_eq_true _ _).mp w
 have w2:=(Bool.and_eq_true _ _).mp w1.2
 refine wpAny_If ((ht Φ ns w1.1).tst sl σ _ S q _ _ fun c c' σ1 X1 rc q1=>?_)
 have go:∀ ds,(∀ d ∈ ds,SOk C Φ ns d) -> bden ds sl σ1.g.cs K -> wpAny C.M Φ.A (execs (ds.map SD.ast) Φ.env) Q E σ1.s:=fun ds O q=>zby ds O sl σ1 K (S.ext X1) q Q E fun fl sl2 f σ2 X2 r2 S2 q2=>k fl sl2 f σ2 ((toOwn X1).trans X2) r2 S2 q2
 cases (rc:c' = c)
 cases c with
 | true=>exact go a (ha.ok fm w2.1) q1
 | false=>exact go b (hb.ok fm w2.2) q1
structure Sole (a:Expr):Prop where
 sw:∀ o n env,swapsWith a o n env = pure false
 st:∀ (t:Tgt) env,swappedStores [t.ast] a env = pure none
noncomputable def IE.isC (e:IE):Bool:=IE.casesOn (motive_1:=fun _=>Bool) e (fun _ _ _=>false) false (fun _ _ _=>false) (fun _ _ _=>false) (fun _ _ _ _ _=>false) (fun _ _ _=>false) (fun _ _=>false) (fun _ _ _=>false) (fun _ _ _ _=>false) (fun _ _ _ _=>false) (fun _ _ _=>false)
 (fun _ _ _=>true) (fun _ _ _ _ _ _=>false) (fun _ _ _ _ _=>false) (fun _ _ _ _ _ _ _ _=>false) (fun _ _=>false) (fun _ _ _=>false) (fun _ _ _ _ _ _ _=>false) (fun _ _ _ _ _ _=>false) (fun _ _ _ _ _ _ _=>true) (fun _ _ _ _ _ _ _=>true)
theorem IE.sole (e:IE) (h:e.isC = false):Sole (e.sem P).ast:=by
 cases e <;> first | exact absurd (show true = false from h) (fun z=>Bool.noConfusion z) | exact ⟨fun _ _ _=>rfl,fun t _=>by cases t <;> rfl⟩
noncomputable def SD.expr (P:Prm) (e:IE) (p:Pos):SD:=⟨.Expr (e.sem P).ast p,fun sc ns=>!e.isC && (e.sem P).wf sc ns,fun sl cs K=>(e.sem P).val sl cs fun _ cs=>K .next sl cs⟩
theorem zsl (F:Facts C P) (e:IE) (p:Pos):SGood C (.expr P e p):=fun Φ ns fm w sl σ K S q Q E k=>by
 have w1:=(Bool.and_eq_true _ _).mp w
 refine wpAny_Expr_any ((e.good F Φ ns w1.2).val sl σ _ S q _ _ fun v a σ1 X1 r q1=>k .next sl _ σ1 (toOwn X1) .next (S.ext X1) q1) ?_ ((e.sole (notB w1.1)).sw none p.line Φ.env)
 unfold interactive; rw [S.F.kind]; rfl
noncomputable def bindK (t:Tgt) (v:V) (sl:Slots) (k:Slots -> Prop):Prop:=Option.rec False k (t.bind v sl)
theorem zir {t:Tgt} {v:V} {sl:Slots} {k:Slots -> Prop} (h:bindK t v sl k):∃ sl',t.bind v sl = some sl' /\ k sl':=by
 unfold bindK at h
 cases q:t.bind v sl with
 | none=>rw [q] at h; exact h.elim
 | some sl'=>rw [q] at h; exact ⟨sl',rfl,h⟩
theorem own2 (t:Tgt) (x:Str) (_:t.has x) (c:Addr) (hk:Φ.env.kindOf x = some .cell) (hc:Φ.env.cells.lookup x = some c):ownOf Φ.env c:=.inr ⟨x,hk,hc⟩
theorem zdi (t:Tgt) (env:Env) (v:Value):assignAll v ((assignEach [t.ast] env).map (·.2)) = assign t.ast env v:=by cases t <;> rfl
noncomputable def SD.asg (P:Prm) (t:Tgt) (e:IE) (p:Pos):SD:=⟨.Assign [t.ast] (e.sem P).ast p,fun sc ns=>!e.isC && (t.ok sc ns && (e.sem P).wf sc ns),fun sl cs K=>(e.sem P).val sl cs fun v cs=>bindK t v sl fun sl=>K .next sl cs⟩
theorem zd0 {t:Tgt} {e:ED} {p:Pos} (O:EOk C Φ ns e) (ht:t.ok Φ.env.scope ns = true) (h1:swapsWith e.ast (some t.ast) p.line Φ.env = pure false) (h2:swappedStores [t.ast] e.ast Φ.env = pure none) {sl:Slots} {K:KF} (S:Std C Φ (look ns sl) σ)
  (q:e.val sl σ.g.cs fun v cs=>bindK t v sl fun sl=>K .next sl cs):XRuns C Φ ns σ (exec (.Assign [t.ast] e.ast p) Φ.env) K:=fun Q E k=>by
 refine wpAny_Assign_stores (O.val sl σ _ S q _ _ fun v a σ1 X1 r q1=>?_) h1 h2
 obtain ⟨sl',e1,q1⟩:=zir q1
 rw [zdi]
 exact zet (.inl rfl) (own2 t) (S.ext X1) ht e1 r _ _ fun σ2 X2 c2 S2=>k .next sl' _ σ2 ((toOwn X1).trans X2) .next S2 (c2 ▸ q1)
theorem zxw (F:Facts C P) (t:Tgt) (e:IE) (p:Pos):SGood C (.asg P t e p):=fun Φ ns fm w sl σ K S q=>by
 have w1:=(Bool.and_eq_true _ _).mp w
 have w2:=(Bool.and_eq_true _ _).mp w1.2
 have h:=e.sole (P:=P) (notB w1.1)
 exact zd0 (e.good F Φ ns w2.2) w2.1 (h.sw _ _ _) (h.st _ _) S q
noncomputable def SD.asgC (P:Prm) (t:Tgt) (c:Bool) (elt:IE) (t2:Tgt) (iter:IE) (ifs:List IE) (scope:Scope) (cp p:Pos):SD :=
 ⟨.Assign [t.ast] ((IE.lcomp c elt t2 iter ifs scope cp).sem P).ast p,fun sc ns=>t.ok sc ns && ((IE.lcomp c elt t2 iter ifs scope cp).sem P).wf sc ns,fun sl cs K=>((IE.lcomp c elt t2 iter ifs scope cp).sem P).val sl cs fun v cs=>bindK t v sl fun sl=>K .next sl cs⟩
theorem ztr (F:Facts C P) (t:Tgt) (c:Bool) (elt:IE) (t2:Tgt) (iter:IE) (ifs:List IE) (scope:Scope) (cp p:Pos):SGood C (.asgC P t c elt t2 iter ifs scope cp p):=fun Φ ns fm w sl σ K S q=>by
 have w1:=(Bool.and_eq_true _ _).mp w
 have O:=(IE.lcomp c elt t2 iter ifs scope cp).good F Φ ns w1.2
 have I:=zjk F (c:=c) (t:=t2) (elt.good F) (iter.good F) (IE.all_good F ifs) w1.2
 have st:swappedStores [t.ast] ((IE.lcomp c elt t2 iter ifs scope cp).sem P).ast Φ.env = pure none:=by cases t <;> rfl
 have key:swapsWith ((IE.lcomp c elt t2 iter ifs scope cp).sem P).ast (some t.ast) p.line Φ.env = pure false \/ swapsWith ((IE.lcomp c elt t2 iter ifs scope cp).sem P).ast (some t.ast) p.line Φ.env = pure true:=by
  cases t with
  | tup=>exact .inl rfl
  | nm x i tp =>
   obtain ⟨b,hb⟩:∃ b,swapsWith ((IE.lcomp c elt t2 iter ifs scope cp).sem P).ast (some (Tgt.nm x i tp).ast) p.line Φ.env = pure b:=⟨_,rfl⟩
   rw [hb]
   cases b
   ·exact .inl rfl
   ·exact .inr rfl
 rcases key with h | h
 ·exact zd0 O w1.1 h st S q
 ·intro Q E k
  show wpAny _ _ (exec (.Assign [t.ast] ((IE.lcomp c elt t2 iter ifs scope cp).sem P).ast p) Φ.env) _ _ _
  rw [exec_Assign_arm]
  refine wpAny_bind (wpAny_standAt ?_)
  rw [show swapsWithSole [t.ast] ((IE.lcomp c elt t2 iter ifs scope cp).sem P).ast p.line Φ.env = pure true from h]
  refine wpAny_bind (wpAny_pure ?_)
  rw [if_pos rfl]
  refine wpAny_bind (wpAny_bind (znc I cp (L':=fun v=>look ns ((t.bind v sl).getD sl)) S q (fun v a σ1 X1 r q1=>?_) fun v σ1 X1 q1 S1=>wpAny_pure (wpAny_pure ?_)))
  ·obtain ⟨sl',e1,_⟩:=zir q1
   rw [e1,zdi]
   exact zet (.inl rfl) (own2 t) (S.ext X1) w1.1 e1 r
  ·obtain ⟨sl',e1,q1⟩:=zir q1
   rw [e1] at S1
   exact k .next sl' _ σ1 X1 .next S1 q1
end
noncomputable def Fl.goes (f:Fl):Bool:=Fl.rec true false true (fun _=>false) f
noncomputable def Fl.after (f:Fl):Fl:=Fl.rec .next .next .next .ret f
inductive ForR (t:Tgt) (body:Slots -> List Cell -> KF -> Prop) (K:KF):Src -> Slots -> List Cell -> Prop
 | done {src sl cs} (e:EndR cs src) (k:K .next sl cs):ForR t body K src sl cs
 | step {src src' sl cs v sl1} (M:KF) (e:NextR cs src v src') (b:t.bind v sl = some sl1) (h:body sl1 cs M) (hn:∀ fl sl' cs',fl.goes = true -> M fl sl' cs' -> ForR t body K src' sl' cs')
   (hx:∀ fl sl' cs',fl.goes = false -> M fl sl' cs' -> K fl.after sl' cs'):ForR t body K src sl cs
noncomputable def ResOk (Q:Flow -> Shared -> Prop) (E:Value -> Shared -> Prop) (C:Cx) (Φ:Fm):Result -> Shared -> Prop:=fun r s'=>match r with | .ok f=>Q f s' | .error e=>cameBackBy C.M Φ.A Φ.env E e s'
section
variable {C:Cx} {Φ:Fm} {ns:List Str} {σ:St} {P:Prm}
section
variable {A:Around} {s:Shared} {RR:Result -> Shared -> Prop} {env:Env} {target:Expr} {it:Value} {body:List Stmt}
theorem zsa (h:∀ E,wpAny C.M A (pyNext it) (fun r s₁=>r = none /\ RR (.ok .next) s₁) E s):codeAny C.M A (.forLoop target it body [] env) RR s:=by
 refine codeAny_of_tree ?_
 show wpAny _ A ((forTurn target it body [] env).onRaise (fun x=>do noteFrame x env; theTreesLotGoes x)) _ _ s
 refine wpAny_noted ?_
 unfold forTurn
 refine wpAny_bind (wpAny_standAt (wpAny_bind (wpAny_onRaise (wpAny_mono (h _) (fun r s₁ h₁=>?_) fun _ _ h'=>wpAny_standAt h'))))
 rw [h₁.1]
 exact wpAny_pure ⟨rfl,codeAny_block (wpAny_execs_nil h₁.2)⟩
theorem zwy (h:wpAny C.M A (pyNext it) (fun r s₁=>∃ v,r = some v /\ wpAny C.M A (letOwnedTupleGo target it v) (fun _ s₂=>wpAny C.M A (assign target env v) (fun _ s₃=>wpAny C.M A (execs body env) (fun f s₄ =>
   Flow.rec (codeAny C.M A (.forLoop target it body [] env) RR s₄) (RR (.ok .next) s₄) (codeAny C.M A (.forLoop target it body [] env) RR s₄) (fun v=>RR (.ok (.ret v)) s₄) f) (RE C A env RR) s₃) (RE C A env RR) s₂) (RE C A env RR) s₁) (RE C A env RR) s):codeAny C.M A (.forLoop target it body [] env) RR s:=by
 refine codeAny_of_tree ?_
 show wpAny _ A ((forTurn target it body [] env).onRaise (fun x=>do noteFrame x env; theTreesLotGoes x)) _ _ s
 refine wpAny_noted ?_
 unfold forTurn
 refine wpAny_bind (wpAny_standAt (wpAny_bind (wpAny_onRaise (wpAny_mono h (fun r s₁ h₁=>?_) fun _ _ h'=>wpAny_standAt h'))))
 obtain ⟨v,rfl,h₁⟩:=h₁
 refine wpAny_bind (wpAny_mono h₁ (fun _ s₂ h₂=>wpAny_bind (wpAny_mono h₂ (fun _ s₃ h₃=>wpAny_bind (wpAny_mono h₃ (fun f s₄ h₄=>?_) fun _ _ h'=>h')) fun _ _ h'=>h')) fun _ _ h'=>h')
 cases f with
 | next=>exact wpAny_pure ⟨rfl,h₄⟩
 | cont=>exact wpAny_pure ⟨rfl,h₄⟩
 | brk=>exact wpAny_pure h₄
 | ret v=>exact wpAny_pure h₄
end
theorem for_ok {t:Tgt} {ds:List SD} {it:Addr} {os:List Addr} {R:Src -> St -> Prop} (I:It C t.ast it os R) (ht:t.ok Φ.env.scope ns = true) (O:∀ d ∈ ds,SOk C Φ ns d) (no:∀ a ∈ os,¬ ownAll Φ.env a) {σ₀:St} (fr:∀ a ∈ os,σ₀.s.heap.get? a = none)
  {K:KF} {Q:Flow -> Shared -> Prop} {E:Value -> Shared -> Prop} (k:∀ fl sl f σ',Ext σ₀ σ' (ownOf Φ.env) -> FlRel σ'.g fl f -> Std C Φ (look ns sl) σ' -> K fl sl σ'.g.cs -> Q f σ'.s) {src:Src} {sl:Slots} {cs:List Cell} (h:ForR t (bden ds) K src sl cs) :
  ∀ {σ:St},σ.g.cs = cs -> R src σ -> Std C Φ (look ns sl) σ -> Ext σ₀ σ (ownOf Φ.env) -> codeAny C.M Φ.A (.forLoop t.ast (.ref it) (ds.map SD.ast) [] Φ.env) (ResOk Q E C Φ) σ.s:=by
 induction h with
 | @done src sl cs e q =>
  intro σ hc p S X
  subst hc
  refine zsa fun E'=>I.fin _ _ _ S.O.hh p S.H e _ _ fun h' tk hk=>⟨rfl,?_⟩
  have Y:=X.fin (tk:=tk) (I.own _ _ p) hk fr
  exact k .next sl .next (σ.up h' tk σ.g) Y .next ⟨S.F.keepH fun a o ha e=>hk a o (fun z=>no a z ha) e,Y.H,S.B,S.O⟩ q
 | @step src src' sl cs v sl1 M e b h hn hx ih =>
  intro σ hc p S X
  subst hc
  refine zwy (I.nxt _ _ _ _ _ S.O.hh p S.H e _ _ fun v' σ1 X1 c1 p1 rv=>?_)
  have S1:Std C Φ (look ns sl) σ1:=⟨S.F.ext S.H X1 no,X1.H,S.B.le X1.le,S.O⟩
  refine zet (.inl rfl) (own2 t) S1 ht b rv _ _ fun σ2 X2 c2 S2=>?_
  refine zby ds O sl1 σ2 M S2 (by rw [c2,c1]; exact h) _ _ fun fl sl2 f σ3 X3 r3 S3 q3=>?_
  have Y3:=X2.trans X3
  have Z:=(X.trans' X1 fun a ha=>.inr (fr a ha)).trans Y3
  have go:fl.goes = true -> codeAny C.M Φ.A (.forLoop t.ast (.ref it) (ds.map SD.ast) [] Φ.env) (ResOk Q E C Φ) σ3.s:=fun hg=>ih fl sl2 _ hg q3 rfl (I.ext _ _ _ _ p1 S1.H Y3 fun a ha z=>no a ha (zjc _ z)) S3 Z
  cases r3 with
  | next=>exact go rfl
  | cont=>exact go rfl
  | brk=>exact k .next sl2 .next σ3 Z .next S3 (hx .brk sl2 _ rfl q3)
  | ret r=>exact k (.ret _) sl2 (.ret _) σ3 Z (.ret r) S3 (hx (.ret _) sl2 _ rfl q3)
noncomputable def SD.for_ (t:Tgt) (it:ED) (body:List SD) (p:Pos):SD:=⟨.For t.ast it.ast (body.map SD.ast) [] p,fun sc ns=>t.ok sc ns && (it.wf sc ns && bwf body sc ns),fun sl cs K=>it.src t sl cs fun src cs=>ForR t (bden body) K src sl cs⟩
theorem zm1 (t:Tgt) {it:ED} {body:List SD} (p:Pos) (hi:EGood C it) (hb:SAll C body):SGood C (.for_ t it body p):=fun Φ ns fm w sl σ K S q Q E k=>by
 have w1:=(Bool.and_eq_true _ _).mp w
 have w2:=(Bool.and_eq_true _ _).mp w1.2
 have O:=hi Φ ns w2.1
 refine wpAny_For (O.src t sl σ _ S q _ _ fun src it os R σ1 X1 I p1 fr q1=>?_) (O.pl.fold _)
 have no:∀ a ∈ os,¬ ownAll Φ.env a:=fun a ha z=>by
  obtain ⟨o,e⟩:=S.F.alive a z
  rw [fr a ha] at e; cases e
 exact for_ok I w1.1 (hb.ok fm w2.2) no fr k q1 rfl p1 (S.ext X1) (toOwn X1)
end
section
variable {C:Cx} {A:Around} {σ:St} {P:Prm} {R:Result -> Shared -> Prop}
theorem zw1 {n:Nat} (h:n <= lim):Builtin.Str.tooLong n = false:=decide_eq_false (Nat.not_lt.mpr (Nat.le_trans h zax))
theorem zel {l:Nat} {xs ys:List V} {h':Heap} {vs:List Value} {n:Nat} {K:KV} {Q:Value -> Shared -> Prop} (H:HRel σ.g σ.s.heap) (hx:σ.g.cs[l]? = some (.list xs)) (hs:Heap.ExtBut (σ.g.ρ l) σ.s.heap h') (e:h'.get? (σ.g.ρ l) = some (listO vs n)) (r:VRels σ.g ys vs) (hl:ys.length <= lim)
  (q:K .none (σ.g.cs.set l (.list ys))) (k:∀ v a σ',Ext σ σ' noOwn -> VRel σ'.g v a -> K v σ'.g.cs -> Q a σ'.s) (t:Nat):Q .none { σ.s with heap:=h',toks:=t } :=
 k .none .none (σ.up h' t (σ.g.upd l (.list ys))) (Ext.upd H (zaa hx) hs ⟨vs,n,e,vmono r (Le.upd ..),hl⟩) .none q
theorem zj3 {l:Nat} {xs:List V} {v:V} {v':Value} {K:KV} (H:HRel σ.g σ.s.heap) (hx:σ.g.cs[l]? = some (.list xs)) (hl:xs.length < lim) (rv:VRel σ.g v v') (q:K .none (σ.g.cs.set l (.list (xs ++ [v])))) :
  Runs C A σ noOwn (call (.builtin "list.append") [.ref (σ.g.ρ l),v']) VR K:=fun Q E k=>by
 obtain ⟨vs,ep,e,r,_⟩:=H.ce l _ hx
 refine wpAny_list_append_plain (l:=σ.g.ρ l) (items:=vs.toArray) (hsz:=Nat.le_trans (Nat.le_of_lt (Nat.lt_of_le_of_lt (Nat.le_of_eq r.length) hl)) zax) ⟨ep,e⟩ fun h' hp hs=>?_
 obtain ⟨n,e'⟩:=hp
 exact zel H hx hs.extBut (vs:=vs ++ [v']) (n:=n) (by rw [e',List.push_toArray]) (r.append (.cons rv .nil)) (by rw [List.length_append]; exact hl) q k σ.s.toks
theorem zn9 {l:Nat} {xs:List V} {K:KV} (H:HRel σ.g σ.s.heap) (hx:σ.g.cs[l]? = some (.list xs)) (q:K .none (σ.g.cs.set l (.list xs.reverse))):Runs C A σ noOwn (call (.builtin "list.reverse") [.ref (σ.g.ρ l)]) VR K:=fun Q E k=>by
 obtain ⟨vs,n,e,r,hl⟩:=H.ce l _ hx
 refine call_meets F.slot_list_reverse ⟨_,e,rfl⟩ F.entry_list_reverse (F.args_list_reverse_1 _) (AutoSeq1.list_reverse_list_0 (σ.g.ρ l) vs.toArray n (Nat.le_trans (Nat.le_of_eq r.length) (Nat.le_trans hl zax))) ⟨e,?_⟩
 exact zel H hx (Heap.SameBut.update ..).extBut (vs:=vs.reverse) (n:=n) ((Heap.get?_update_self _ e rfl).trans (by simp [Obj.mapSeq])) r.reverse (by rw [List.length_reverse]; exact hl) q k σ.s.toks
theorem zoo {l:Nat} {zs ys:List V} {o:V} {o':Value} {K:KV} (hx:σ.g.cs[l]? = some (.list zs)) (H:HRel σ.g σ.s.heap) (ho:SeqR σ.g.cs o false ys) (ro:VRel σ.g o o') (hl:zs.length + ys.length <= lim) (q:K .none (σ.g.cs.set l (.list (zs ++ ys)))) :
  Runs C A σ noOwn (call (.builtin "list.extend") [.ref (σ.g.ρ l),o']) VR K:=fun Q E k=>by
 obtain ⟨vs,ep,e,r,_⟩:=H.ce l _ hx
 cases zav H ho ro with
 | mk a us ep2 e2 r2 _ =>
  have hl0:(zs ++ ys).length <= lim:=by rw [List.length_append]; exact hl
  have hsz:vs.length + us.length <= sizeLine:=by rw [r.length,r2.length]; exact Nat.le_trans hl zax
  have key:wpAny C.M A.in1 (Builtin.List.listExtendWith (.ref (σ.g.ρ l)) (.ref a) .none) (fun fin s'=>match fin with | .done f=>wants Q E (.ok f) s' | .again c'=>c'.quiet = true /\ codeAny C.M A c' (wants Q E) s') (fun e s'=>wants Q E (.error e) s') σ.s:=by
   unfold Builtin.List.listExtendWith
   refine wpAny_bind (wpAny_typeOf ⟨_,e2,rfl⟩ ?_)
   have h1:(Builtin.List.listSameRef (.ref (σ.g.ρ l)) (.ref a) || Value.type "list" == Value.type "list" || Value.type "list" == Value.type "tuple") = true:=by simp
   rw [show (Bool.rec "list" "tuple" false:String) = "list" from rfl,h1,if_pos rfl]
   refine wpAny_bind ?_
   unfold Builtin.List.listItems
   refine wpAny_bind (wpAny_seqItems e2 rfl (wpAny_pure ?_))
   refine wpAny_bind ?_
   refine wpAny_bind (wpAny_seqItems e rfl (wpAny_pure ?_))
   have hlong:Builtin.List.listTooLong (vs.toArray.size + us.toArray.size) = false:=by unfold Builtin.List.listTooLong; exact decide_eq_false (Nat.not_lt.mpr (by simpa using hsz))
   rw [hlong,Bool.and_false,if_neg (by decide)]
   show wpAny _ A.in1 (updateSeq (σ.g.ρ l) (· ++ us.toArray) >>= fun _=>ret .none) _ _ σ.s
   refine wpAny_bind (wpAny_updateSeq e rfl ?_ (hz:=Nat.le_trans (Nat.le_add_right _ _) hsz) (_hz':=by rw [Array.size_append]; exact Nat.le_succ_of_le (by simpa using hsz)))
   obtain ⟨n,hn⟩:∃ n,Obj.mapSeq (· ++ us.toArray) (listO vs ep) = listO (vs ++ us) n:=⟨_,congrArg (fun x=>(⟨.type "list",none,.seq x _,#[]⟩:Obj)) (List.append_toArray vs us)⟩
   exact wpAny_pure (zel H hx (Heap.SameBut.update ..).extBut (vs:=vs ++ us) (n:=n) ((Heap.get?_update_self _ e rfl).trans (congrArg some hn)) (r.append r2) hl0 q k σ.s.toks)
  exact wpAny_call (codeAny_call_builtin F.slot_list_extend.plain F.entry_list_extend (F.slot_list_extend.check _ _ _ _ _ _ _ _ ⟨_,e,rfl⟩ (F.args_list_extend_2 _ _) key))
theorem zwj {o a:V} {xs:List V} {o' a':Value} {f:Nat -> Bool} {j:Nat} {K:KV} (H:HRel σ.g σ.s.heap) (un:A.units + 9 < cLine) (ho:SeqR σ.g.cs o false xs) (ro:VRel σ.g o o') (ra:VRel σ.g a a') (h:Fnd σ.g.cs xs a f) (hj:j < xs.length) (hit:f j = true) (hno:∀ m,m < j -> f m = false) (q:K (.int j) σ.g.cs) :
  Runs C A σ noOwn (call (.builtin "list.index") [o',a']) VR K:=fun Q E k=>by
 cases zav H ho ro with
 | mk l vs ep e r hl =>
  obtain ⟨g,I⟩:=in_at (A:=A) (s:=σ.s) H h r ra un
  have hj2:j < vs.length:=by rw [r.length]; exact hj
  have at_:∀ m (hm:m < vs.toArray.size),g vs.toArray[m] = f m:=fun m hm=>I.val m _ (by rw [List.getElem?_eq_getElem (by simpa using hm)]; simp)
  have hs:(j:Int) < 2 ^ 63 - 1:=Int.lt_of_lt_of_le (Int.ofNat_lt.mpr (Nat.lt_of_lt_of_le hj hl)) (by decide)
  exact call_meets F.slot_list_index ⟨_,e,rfl⟩ F.entry_list_index (F.args_list_index_2 _ _) (SeqAt.list_indexAt l vs.toArray ep none #[] a' g j (by simpa using hj2) hs (by rw [at_]; exact hit) fun m hm hlt=>by rw [at_]; exact hno m hlt)
   ⟨e,I.at_,k _ _ (σ.up σ.s.heap _ σ.g) (Ext.tok H) (.int _ _) q⟩
theorem zxf {o a:V} {xs:List V} {o' a':Value} {f:Nat -> Bool} {K:KV} (H:HRel σ.g σ.s.heap) (un:A.units + 9 < cLine) (ho:SeqR σ.g.cs o false xs) (ro:VRel σ.g o o') (ra:VRel σ.g a a') (h:Fnd σ.g.cs xs a f) (q:K (.int ((List.range xs.length).countP f:Nat)) σ.g.cs) :
  Runs C A σ noOwn (call (.builtin "list.count") [o',a']) VR K:=fun Q E k=>by
 cases zav H ho ro with
 | mk l vs ep e r hl =>
  obtain ⟨g,I⟩:=in_at (A:=A) (s:=σ.s) H h r ra un
  have hc:vs.toArray.toList.countP g = (List.range xs.length).countP f:=by
   rw [<- r.length]
   have:vs.map g = (List.range vs.length).map f:=by
    refine List.ext_getElem (by simp) fun i h1 h2=>?_
    rw [List.getElem_map,List.getElem_map,List.getElem_range]
    have h3:i < vs.length:=by simpa using h1
    exact I.val i _ (List.getElem?_eq_getElem h3)
   have e1:=congrArg (List.countP id) this
   rw [List.countP_map,List.countP_map] at e1
   exact e1
  refine call_meets F.slot_list_count ⟨_,e,rfl⟩ F.entry_list_count (F.args_list_count_2 _ _) (SeqAt.list_countAt l vs.toArray ep none #[] a' g) ⟨e,I.at_,?_⟩
  rw [hc]
  exact k _ _ (σ.up σ.s.heap _ σ.g) (Ext.tok H) (.int _ _) q
theorem zwb {o:V} {sep x:Str} {t:Tok} {o':Value} {K:KV} (H:HRel σ.g σ.s.heap) (hs:sep.length <= lim) (ho:SeqR σ.g.cs o false [.str x]) (ro:VRel σ.g o o') (q:K (.str x) σ.g.cs):Runs C A σ noOwn (call (.builtin "str.join") [.str sep t,o']) VR K:=fun Q E k=>by
 cases zav H ho ro with
 | mk l vs ep e r hl =>
  obtain ⟨v,rfl,rv⟩:=r.one
  obtain ⟨u,rfl,hx⟩:=rv.inv
  refine call_meets F.slot_str_join (typeIs_str _ _ _) F.entry_str_join (F.args_str_join_2 _ _) (meets_str_join_list sep t l [(x,u)] ?_) ⟨⟨_,e,rfl,_,rfl⟩,k _ _ σ (Ext.refl H _) (.str _ _ hx) q⟩
  refine decide_eq_false (Nat.not_lt.mpr ?_)
  show 0 + x.length + sep.length <= sizeLine
  rw [Nat.zero_add]
  exact Nat.le_trans (Nat.add_le_add hx hs) (by decide)
end
theorem za2:Slot "re.Pattern" "search" "re.Pattern.search" :=
 .of (owner := "re.Pattern") (n := "search") (by rw [typeLookup_type,builtinLookup_eq_fast]; kernel_rfl) (by decide +kernel) (by decide +kernel) (by decide +kernel)
  (by first | exact .inl (by decide +kernel) | exact .inr (by decide +kernel)) (by rw [isSubtype_type]; kernel_rfl)
theorem zcy:typeOf (.builtin "re.Pattern.search") = pure (.type "method_descriptor"):=by show builtinType _ = _; rw [builtinType_eq_fast]; kernel_rfl
theorem zcw:entryFor table "re.Pattern.search" = some Builtin.«re.Pattern.search»:=entryFor_of_tree (by kernel_rfl)
theorem zc7 (a b:Value):argsOk "re.Pattern.search" ⟨[a,b],[]⟩:=by unfold argsOk; kernel_rfl
theorem zdm:PlainAttrs "re.Pattern" :=
 ⟨⟨"object.__getattribute__",by rw [typeLookup_type,builtinLookup_eq_fast]; kernel_rfl,by decide +kernel⟩,by rw [typeLookup_type,builtinLookup_eq_fast]; kernel_rfl⟩
namespace SreX
open PySem.Sre
noncomputable def fresh' (code text:Array Nat) (groups pos lim:Nat) (mustAdvance:Bool):M :=
 { code,text,lim,start:=pos,pc:=(header code).2,pos,handed:=pos,marks:=Array.replicate (2 * groups) none,mustAdvance,seen:=if (header code).2 == 0 then {} else ({}:Seen).add 14 }
theorem zjr (code text:Array Nat) (groups pos lim:Nat) (ma:Bool):forSearch code text groups pos lim ma =
  (if pos > lim || lim - pos < (header code).1 then (fresh' code text groups pos lim ma).say false
  else { fresh' code text groups pos lim ma with lastStart:=if (header code).1 > 1 && !((header code).2 != 0 && code.getD 2 0 &&& 5 != 0) then max pos (lim - ((header code).1 - 1)) else lim }.attemptFrom pos true):=rfl
structure SetIs (code:Array Nat) (bad:Nat -> Bool):Prop where
 set:∀ c seen,∃ seen',inSet code c code.size 5 true seen = .ok (bad c,seen')
 info:ops[code.getD 0 0]? = some .INFO
 four:code.getD 2 0 = 4
theorem zd8 {code:Array Nat} {bad:Nat -> Bool} (S:SetIs code bad) (m:M) (hm:m.code = code) (hb:∀ i,i < m.lim -> bad (m.text.getD i 0) = false):∀ (fuel s:Nat) (seen:Seen),∃ seen',M.admitted m fuel s seen = .ok (none,seen')
 | 0,s,seen=>⟨seen,rfl⟩
 | fuel + 1,s,seen=>by
  unfold M.admitted
  by_cases h:s >= m.lim
  ·rw [if_pos h]; exact ⟨seen,rfl⟩
  ·rw [if_neg h]
   obtain ⟨seen',e⟩:=S.set (m.text.getD s 0) seen
   rw [hm,e,hb s (Nat.not_le.mp ‹_›)]
   exact zd8 S m hm hb fuel (s + 1) seen'
theorem search_say {code text:Array Nat} {bad:Nat -> Bool} {groups:Nat} (S:SetIs code bad) (hb:∀ i,i < text.size -> bad (text.getD i 0) = false) :
  (forSearch code text groups 0 text.size false).answer = some false /\ (forSearch code text groups 0 text.size false).frames = [] /\ (forSearch code text groups 0 text.size false).outcome = none:=by
 rw [zjr]
 split
 ·exact ⟨rfl,rfl,rfl⟩
 ·unfold M.attemptFrom
  have h1:∀ m:M,m.code = code -> m.hasFirstSet = true:=fun m hm=>by
   unfold M.hasFirstSet
   rw [hm,S.info,S.four]; rfl
  have h2:=fun (m:M) (a:m.code = code) (b:m.lim = text.size) (c:m.text = text)=>zd8 S m a (fun i hi=>by rw [c]; exact hb i (Nat.lt_of_lt_of_eq ‹_› ‹_›))
  rw [h1 _ rfl]
  simp only [Bool.not_true,Bool.false_eq_true,if_false]
  obtain ⟨seen',e⟩:=h2 { fresh' code text groups 0 text.size false with lastStart:=if (header code).1 > 1 && !((header code).2 != 0 && code.getD 2 0 &&& 5 != 0) then max 0 (text.size - ((header code).1 - 1)) else text.size } rfl rfl rfl (text.size + 1 - 0) 0 (fresh' code text groups 0 text.size false).seen
  have e':=e
  simp only [fresh'] at e' ⊢
  rw [e']
  exact ⟨rfl,rfl,rfl⟩
theorem run_failed {m:M} (h1:m.answer = some false) (h2:m.frames = []) (h3:m.outcome = none):m.runFor 4 = { m with outcome:=some .failed }:=by
 have hs:m.step = { m with outcome:=some .failed }:=by
  unfold M.step
  rw [h1,h2,h3]
  rfl
 unfold M.runFor
 rw [h3,hs]
 rfl
end SreX
theorem zg7 (n:Nat) (m:Sre.M) (h:(m.runFor 4).outcome.isSome = true):Builtin.Re.reDrive (n + 1) m = pure (m.runFor 4):=by
 unfold Builtin.Re.reDrive
 show (if (m.runFor 4).outcome.isSome = true then pure (m.runFor 4) else _) = _
 rw [if_pos h]
theorem zca {M:Model} {A:Around} {E:Value -> Shared -> Prop} {s:Shared} {Q:PUnit -> Shared -> Prop} (p:Nat -> Bool) (f:Nat -> String) (h:Q PUnit.unit s):∀ (l:List Nat),
  wpAny M A (forIn l PUnit.unit fun i (_:PUnit)=>(if p i = true then (do rule (f i); pure (ForInStep.yield PUnit.unit)) else pure (ForInStep.yield PUnit.unit):Sem (ForInStep PUnit))) Q E s
 | []=>wpAny_pure h
 | i :: r=>by
  rw [List.forIn_cons]
  refine wpAny_bind ?_
  cases hp:p i with
  | true =>
   rw [if_pos rfl]
   exact wpAny_bind (wpAny_rule (wpAny_pure (zca p f h r)))
  | false =>
   rw [if_neg (by decide)]
   exact wpAny_pure (zca p f h r)
noncomputable def nameCode:Array Nat:=#[14,10,4,1,1,22,0,31,16,127,0,13,7,22,0,31,16,127,0,1]
noncomputable def valCode:Array Nat:=#[14,14,4,1,1,9,4294966783,0,0,2147483648,0,0,0,0,0,13,11,9,4294966783,0,0,2147483648,0,0,0,0,0,1]
noncomputable def nameBad (c:Nat):Bool:=decide (c <= 31) || c == 127
noncomputable def valBad (c:Nat):Bool:=decide (c < 256) && (valCode.getD (6 + c / 32) 0).testBit (c % 32)
theorem zvp:SreX.SetIs nameCode nameBad where
 set:=fun c seen=>by
  have e:nameCode.size = 17 + 3:=rfl
  rw [e]
  show ∃ seen',(if (decide (0 <= c) && decide (c <= 31)) = true then _ else _) = _
  by_cases h:c <= 31
  ·rw [if_pos (by simpa using h)]
   exact ⟨_,by rw [show nameBad c = true by simp [nameBad,h]]⟩
  ·rw [if_neg (by simpa using h)]
   show ∃ seen',(if (c == 127) = true then _ else _) = _
   by_cases h2:c = 127
   ·rw [if_pos (by simpa using h2)]
    exact ⟨_,by rw [show nameBad c = true by simp [nameBad,h2]]⟩
   ·rw [if_neg (by simpa using h2)]
    exact ⟨_,by rw [show nameBad c = false by simp [nameBad,h,h2]]; rfl⟩
 info:=rfl
 four:=rfl
theorem zzl:SreX.SetIs valCode valBad where
 set:=fun c seen=>by
  have e:valCode.size = 26 + 2:=rfl
  rw [e]
  show ∃ seen',(if (decide (c < 256) && (valCode.getD (5 + (1 + c / 32)) 0).testBit (c % 32)) = true then _ else _) = _
  have e2:5 + (1 + c / 32) = 6 + c / 32:=(Nat.add_assoc _ _ _).symm
  rw [e2]
  by_cases h:(decide (c < 256) && (valCode.getD (6 + c / 32) 0).testBit (c % 32)) = true
  ·rw [if_pos h]; exact ⟨_,by rw [show valBad c = true from h]⟩
  ·rw [if_neg h]
   exact ⟨_,by rw [show valBad c = false from by simpa [valBad] using h]; rfl⟩
 info:=rfl
 four:=rfl
structure PatAt (base:Addr -> Option Obj) (a:Addr) (code:Array Nat):Prop where
 at_:∃ b o1 o2 o3 o4 o5 its n,base a = some ⟨.type "re.Pattern",none,.fields #[o1,o2,.int 0 o3,o4,o5,.ref b,.int 0 n],#[]⟩ /\ base b = some ⟨.type "tuple",none,.seq its 0,#[]⟩ /\ (its.map Builtin.Re.reRawOf).map (·.toNat) = code
section
variable {C:Cx} {A:Around} {σ:St} {P:Prm}
theorem zji (id f:String) (x:Value):Builtin.Re.reNamed id f ["string", "pos", "endpos"] 1 [x] [] = pure [some x,none,none]:=by rfl
theorem zqh {a:Addr} {code:Array Nat} {bad:Nat -> Bool} {K:KV} (Pa:PatAt C.base a code) (Sb:SreX.SetIs code bad) (H:HRel σ.g σ.s.heap) (B:Base C σ.g) {x:Str} {t:Tok} (hx:x.length <= lim) (hb:x.cps.toList.any bad = false) (q:K .none σ.g.cs) :
  Runs C A σ noOwn (call (.builtin "re.Pattern.search") [.ref a,.str x t]) VR K:=fun Q E k=>by
 obtain ⟨b,o1,o2,o3,o4,o5,its,n,e1,e2,e3⟩:=Pa.at_
 have h1:=H.fz _ _ (B.hf _ _ e1)
 have h2:=H.fz _ _ (B.hf _ _ e2)
 refine wpAny_call_entry za2 ⟨_,h1,rfl⟩ zcw ?_ (zc7 _ _)
 have hbad:∀ i,i < x.cps.size -> bad (x.cps.getD i 0) = false:=fun i hi=>by
  rw [show x.cps.getD i 0 = x.cps[i] by simp [Array.getD,hi]]
  exact eq_false_of_ne_true (List.any_eq_false.mp hb x.cps[i] (by simp))
 unfold Builtin.«re.Pattern.search»
 refine wpAny_bind ?_
 unfold Builtin.Re.reTarget
 dsimp only
 rw [zji]
 refine wpAny_bind (wpAny_pure ?_)
 dsimp only
 refine wpAny_bind (wpAny_pure (wpAny_bind (wpAny_pure ?_)))
 refine wpAny_bind (wpAny_fieldsOf h1 rfl ?_)
 refine wpAny_bind ?_
 show wpAny _ _ (pure (x.cps,0)) _ _ _
 refine wpAny_pure ?_
 dsimp only
 show wpAny _ _ (Builtin.Re.reNoCollectionInside _ 0 >>= _) _ _ _
 refine wpAny_bind (m:=Builtin.Re.reNoCollectionInside _ 0) (wpAny_pure ?_)
 refine wpAny_bind ?_
 show wpAny _ _ (Builtin.Re.reRawItems (.ref b)) _ _ _
 unfold Builtin.Re.reRawItems
 refine wpAny_bind (wpAny_seqItems h2 rfl (wpAny_pure (wpAny_pure ?_)))
 simp only [Option.getD_some]
 rw [e3]
 have l0:min (0:Int).toNat x.cps.size = 0:=Nat.zero_min _
 have l1:min ((2:Int) ^ 63 - 1).toNat x.cps.size = x.cps.size:=Nat.min_eq_right (Nat.le_trans hx (by decide +kernel))
 generalize Builtin.Re.reRawNat _ = gr
 rw [l0,l1]
 obtain ⟨m1,m2,m3⟩:=SreX.search_say (groups:=gr) Sb hbad
 unfold Builtin.Re.reAnswer
 refine wpAny_bind ?_
 unfold Builtin.Re.reRunToEnd
 refine wpAny_bind ?_
 obtain ⟨n64,h64⟩:∃ n,(2:Nat) ^ 64 = n + 1:=⟨2 ^ 64 - 1,(Nat.sub_add_cancel (Nat.pow_pos (by decide))).symm⟩
 rw [h64,zg7 n64 _ (by rw [SreX.run_failed m1 m2 m3]; rfl),SreX.run_failed m1 m2 m3]
 refine wpAny_pure ?_
 refine wpAny_bind (zca _ _ ?_ _)
 dsimp only
 refine wpAny_pure ?_
 dsimp only
 exact wpAny_pure ⟨_,rfl,k .none .none (σ.up σ.s.heap σ.s.toks σ.g) (Ext.tok H) .none q⟩
end
section
variable {C:Cx} {P:Prm}
noncomputable def PatsOk (C:Cx) (P:Prm):Prop:=∀ a bad,P.pats.lookup a = some bad -> ∃ code,PatAt C.base a code /\ SreX.SetIs code bad
theorem zc2 {A:Around} {σ:St} {l:Nat} {xs:List V} {name:Str} {id:String} (H:HRel σ.g σ.s.heap) (hx:σ.g.cs[l]? = some (.list xs)) (Sl:Slot "list" name id) (ty:typeOf (.builtin id) = pure (.type "method_descriptor")):GetsM C A σ.s (.ref (σ.g.ρ l)) name (.builtin id):=fun pl Q E k=>by
 obtain ⟨vs,ep,q,_⟩:=H.ce l _ hx
 exact getMethod_builtin (T := "list") ⟨_,q,rfl⟩ F.plainAttrs_list Sl ty (fun a ha=>by cases ha; exact ⟨_,q,rfl⟩) (k _)
theorem zft {g₁ g:Gh} {l:Nat} {o':Value} (L:Le g₁ g) (r:VRel g₁ (.ref l) o'):o' = .ref (g.ρ l):=by
 obtain ⟨rfl,h⟩:=r.inv
 rw [L.ρ l h]
theorem z2h {A:Around} {σ:St} {ks:List Str} {vs:List V} {x:Str} {d:V} {o' x' v':Value} {K:KV} (H:HRel σ.g σ.s.heap) (hp:σ.g.pr = C.w.params) (ro:VRel σ.g (.dct ks vs) o') (rx:VRel σ.g (.str x) x') (rv:VRel σ.g d v') (q:K ((dctGet x ks vs).getD d) σ.g.cs) :
  Runs C A σ noOwn (call (.builtin "dict.get") [o',x',v']) VR K:=fun Q E k=>by
 cases znb (prog:=C.prog) H hp ro with
 | mk a f hm hs hf =>
  obtain ⟨t,rfl,hx⟩:=rx.inv
  have hfx:=hf x
  have key:(strKind C.prog C.w).is x (.str x t) = true:=(beq_self_eq_true x:(x == x) = true)
  refine call_meetsIn F.slot_dict_get hm.typeIs F.entry_dict_get (F.args_dict_get_3 _ _ _) (meets_dict_get_default (strKind C.prog C.w) a key hs v') ⟨f,hm,?_⟩
  show Q ((f x).getD v') _
  have fin:∀ r r' tk,VRel σ.g r r' -> K r σ.g.cs -> Q r' { σ.s with toks:=tk }:=fun r r' tk h q=>k r r' (σ.up σ.s.heap tk σ.g) (Ext.tok H) h q
  cases hd:dctGet x ks vs with
  | none=>rw [hd] at hfx q; rw [show f x = none from hfx]; exact fin _ _ _ rv q
  | some u=>rw [hd] at hfx q; obtain ⟨u',e,ru⟩:=hfx; rw [e]; exact fin _ _ _ ru q
theorem zs4 {A:Around} {σ:St} {ks:List Str} {vs:List V} {o':Value} (H:HRel σ.g σ.s.heap) (hp:σ.g.pr = C.w.params) (ro:VRel σ.g (.dct ks vs) o'):GetsM C A σ.s o' Meth.get.name (.builtin "dict.get"):=fun pl Q E k=>by
 cases znb (prog:=C.prog) H hp ro with
 | mk a f hm hs hf=>exact getMethod_builtin (T := "dict") hm.typeIs F.plainAttrs_dict F.slot_dict_get F.type_dict_get hm.noDict (k _)
theorem zon {A:Around} {s:Shared} {x:Str} {t:Tok}:GetsM C A s (.str x t) Meth.lower.name (.builtin "str.lower"):=fun pl Q E k=>(by have q:=k s.toks; with_reducible exact GM.lower q:wpAny C.M A (getMethod (.str x t) (Str.ofString "lower") pl) Q E s)
theorem zr2 {A:Around} {s:Shared} {x:Int} {t:Tok}:GetsM C A s (.int x t) Meth.bits.name (.builtin "int.bit_length"):=fun pl Q E k=>(by have q:=k s.toks; with_reducible exact PyProof.Rows.getMethod_int_bit_length q:wpAny C.M A (getMethod (.int x t) (Str.ofString "bit_length") pl) Q E s)
noncomputable def MInv (P:Prm) (cs:List Cell) (K:KV) (m:Meth) (o:V) (args:List V):Prop :=
 Meth.rec (∃ l xs v,o = .ref l /\ args = [v] /\ cs[l]? = some (.list xs) /\ xs.length < lim /\ K .none (cs.set l (.list (xs ++ [v]))))
  (∃ l xs b ys,o = .ref l /\ args = [b] /\ cs[l]? = some (.list xs) /\ SeqR cs b false ys /\ xs.length + ys.length <= lim /\ K .none (cs.set l (.list (xs ++ ys))))
  (∃ l xs,o = .ref l /\ args = [] /\ cs[l]? = some (.list xs) /\ K .none (cs.set l (.list xs.reverse)))
  (∃ x,o = .str x /\ args = [] /\ (Txt.lower x).length <= lim /\ K (.str (Txt.lower x)) cs) 
  (∃ ks vs x d,o = .dct ks vs /\ args = [.str x,d] /\ K ((dctGet x ks vs).getD d) cs) (∃ i,o = .int i /\ args = [] /\ K (.int (Builtin.Int.intBits i:Nat)) cs)
  (∃ a bad x,o = .adr a /\ args = [.str x] /\ P.pats.lookup a = some bad /\ x.cps.toList.any bad = false /\ K .none cs)
  (∃ (xs:List V) (a:V) (f:Nat -> Bool) (j:Nat),args = [a] /\ SeqR cs o false xs /\ Fnd cs xs a f /\ j < xs.length /\ f j = true /\ (∀ m,m < j -> f m = false) /\ K (.int (j:Nat)) cs)
  (∃ (xs:List V) (a:V) (f:Nat -> Bool),args = [a] /\ SeqR cs o false xs /\ Fnd cs xs a f /\ K (.int ((List.range xs.length).countP f:Nat)) cs)
  (∃ sep b x,o = .str sep /\ args = [b] /\ SeqR cs b false [.str x] /\ K (.str x) cs) m
theorem MethR.inv {cs:List Cell} {K:KV} {m:Meth} {o:V} {args:List V} (h:MethR P cs K m o args):MInv P cs K m o args:=by
 cases h with
 | append h hl k=>exact ⟨_,_,_,rfl,rfl,h,hl,k⟩
 | extendL h ho hl k=>exact ⟨_,_,_,_,rfl,rfl,h,ho,hl,k⟩
 | index f j ho h hj hit hno k=>exact ⟨_,_,f,j,rfl,ho,h,hj,hit,hno,k⟩
 | count f ho h k=>exact ⟨_,_,f,rfl,ho,h,k⟩
 | join1 ho k=>exact ⟨_,_,_,rfl,rfl,ho,k⟩
 | reverse h k=>exact ⟨_,_,rfl,rfl,h,k⟩
 | lower h k=>exact ⟨_,rfl,rfl,h,k⟩
 | get k=>exact ⟨_,_,_,_,rfl,rfl,k⟩
 | bits k=>exact ⟨_,rfl,rfl,k⟩
 | search h hb k=>exact ⟨_,_,_,rfl,rfl,h,hb,k⟩
noncomputable def MOk (C:Cx) (A:Around) (P:Prm) (σ₁:St) (m:Meth) (o:V) (o':Value):Prop:=∃ f,GetsM C A σ₁.s o' m.name f /\ ∀ {σ:St} {args:List V} {args':List Value} {K:KV},Le σ₁.g σ.g -> HRel σ.g σ.s.heap -> Base C σ.g -> VRels σ.g args args' -> MethR P σ.g.cs K m o args -> CallsOk C A σ K f (o' :: args') []
section
variable {A:Around} {σ₁:St} {o':Value}
theorem zvz {l:Nat} {xs:List V} (H₁:HRel σ₁.g σ₁.s.heap) (ro:VRel σ₁.g (.ref l) o') (hx:σ₁.g.cs[l]? = some (.list xs)):MOk C A P σ₁ .append (.ref l) o':=by
 cases ro.inv.1
 refine ⟨_,zc2 H₁ hx F.slot_list_append F.type_list_append,fun L H B ra q=>?_⟩
 obtain ⟨_,_,v,e,rfl,hx,hl,q⟩:=q.inv
 cases e
 rw [zft L ro]
 obtain ⟨v',rfl,rv⟩:=ra.one
 exact ⟨zae _,zj3 H hx hl rv q⟩
theorem zvy {l:Nat} {xs:List V} (H₁:HRel σ₁.g σ₁.s.heap) (ro:VRel σ₁.g (.ref l) o') (hx:σ₁.g.cs[l]? = some (.list xs)):MOk C A P σ₁ .extend (.ref l) o':=by
 cases ro.inv.1
 refine ⟨_,zc2 H₁ hx F.slot_list_extend F.type_list_extend,fun L H B ra q=>?_⟩
 rw [zft L ro]
 obtain ⟨_,_,b,ys,e,rfl,hx,hb,hl,q⟩:=q.inv
 cases e
 obtain ⟨v',rfl,rv⟩:=ra.one
 exact ⟨zae _,zoo hx H hb rv hl q⟩
theorem zrc {l:Nat} {xs:List V} (H₁:HRel σ₁.g σ₁.s.heap) (ro:VRel σ₁.g (.ref l) o') (hx:σ₁.g.cs[l]? = some (.list xs)):MOk C A P σ₁ .reverse (.ref l) o':=by
 cases ro.inv.1
 refine ⟨_,zc2 H₁ hx F.slot_list_reverse F.type_list_reverse,fun L H B ra q=>?_⟩
 obtain ⟨_,_,e,rfl,hx,q⟩:=q.inv
 cases e
 rw [zft L ro]
 cases ra.nil_of
 exact ⟨zae _,zn9 H hx q⟩
theorem z1f {x:Str} (ro:VRel σ₁.g (.str x) o'):MOk C A P σ₁ .lower (.str x) o':=by
 obtain ⟨t,rfl,hx⟩:=ro.inv
 refine ⟨_,zon,fun L H B ra q=>?_⟩
 obtain ⟨_,e,rfl,h,q⟩:=q.inv
 cases e
 cases ra.nil_of
 exact ⟨zae _,Runs.still (a:=.str (Txt.lower x) _) H (fun Q E k=>SC.lower (zw1 h) (k _)) (fun _=>VRel.str _ _ h) q⟩
theorem m_get {ks:List Str} {vs:List V} (H₁:HRel σ₁.g σ₁.s.heap) (B₁:Base C σ₁.g) (ro:VRel σ₁.g (.dct ks vs) o'):MOk C A P σ₁ .get (.dct ks vs) o':=by
 refine ⟨_,zs4 H₁ B₁.pr ro,fun L H B ra q=>?_⟩
 obtain ⟨_,_,x,d,e,rfl,q⟩:=q.inv
 cases e
 obtain ⟨x',v',rfl,rx,rv⟩:=ra.two
 exact ⟨zae _,z2h H B.pr (ro.mono L) rx rv q⟩
theorem m_bits {i:Int} (ro:VRel σ₁.g (.int i) o'):MOk C A P σ₁ .bits (.int i) o':=by
 obtain ⟨t,rfl⟩:=ro.inv
 refine ⟨_,zr2,fun L H B ra q=>?_⟩
 obtain ⟨_,e,rfl,q⟩:=q.inv
 cases e
 cases ra.nil_of
 exact ⟨zae _,Runs.still H (fun Q E k=>PyProof.Rows.call_int_bit_length (k _)) (fun _=>.int _ _) q⟩
theorem zvx (Pa:PatsOk C P) {a:Addr} {bad:Nat -> Bool} (H₁:HRel σ₁.g σ₁.s.heap) (B₁:Base C σ₁.g) (ro:VRel σ₁.g (.adr a) o') (hp:P.pats.lookup a = some bad):MOk C A P σ₁ .search (.adr a) o':=by
 cases ro.inv
 obtain ⟨code,Pt,Sb⟩:=Pa _ _ hp
 obtain ⟨b,o1,o2,o3,o4,o5,its,n,e1,e2,e3⟩:=Pt.at_
 have h1:=H₁.fz _ _ (B₁.hf _ _ e1)
 refine ⟨.builtin "re.Pattern.search",fun pl Q E k=>getMethod_builtin (T := "re.Pattern") ⟨_,h1,rfl⟩ zdm za2 zcy (fun a ha=>by cases ha; exact ⟨_,h1,rfl⟩) (k _),fun L H B ra q=>?_⟩
 obtain ⟨_,_,x,e,rfl,hp2,hb,q⟩:=q.inv
 cases e
 cases hp.symm.trans hp2
 obtain ⟨v',rfl,rv⟩:=ra.one
 obtain ⟨t,rfl,hx⟩:=rv.inv
 exact ⟨zae _,zqh Pt Sb H B hx hb q⟩
theorem zmd {o:V} {xs:List V} {name:Str} {id:String} (H:HRel σ₁.g σ₁.s.heap) (ho:SeqR σ₁.g.cs o false xs) (ro:VRel σ₁.g o o') (Sl:Slot "list" name id) (ty:typeOf (.builtin id) = pure (.type "method_descriptor")):GetsM C A σ₁.s o' name (.builtin id):=fun pl Q E k=>by
 cases zav H ho ro with
 | mk l vs ep e r hl=>exact getMethod_builtin (T := "list") ⟨_,e,rfl⟩ F.plainAttrs_list Sl ty (fun a ha=>by cases ha; exact ⟨_,e,rfl⟩) (k _)
theorem z1g {o:V} {xs:List V} (un:A.units + 9 < cLine) (H₁:HRel σ₁.g σ₁.s.heap) (ro:VRel σ₁.g o o') (ho:SeqR σ₁.g.cs o false xs):MOk C A P σ₁ .index o o':=by
 refine ⟨_,zmd H₁ ho ro F.slot_list_index F.type_list_index,fun L H B ra q=>?_⟩
 obtain ⟨_,a,f,j,rfl,ho,h,hj,hit,hno,q⟩:=q.inv
 obtain ⟨v',rfl,rv⟩:=ra.one
 exact ⟨zae _,zwj H un ho (ro.mono L) rv h hj hit hno q⟩
theorem z1h {o:V} {xs:List V} (un:A.units + 9 < cLine) (H₁:HRel σ₁.g σ₁.s.heap) (ro:VRel σ₁.g o o') (ho:SeqR σ₁.g.cs o false xs):MOk C A P σ₁ .count o o':=by
 refine ⟨_,zmd H₁ ho ro F.slot_list_count F.type_list_count,fun L H B ra q=>?_⟩
 obtain ⟨_,a,f,rfl,ho,h,q⟩:=q.inv
 obtain ⟨v',rfl,rv⟩:=ra.one
 exact ⟨zae _,zxf H un ho (ro.mono L) rv h q⟩
theorem zr1 {s:Shared} {x:Str} {t:Tok}:GetsM C A s (.str x t) Meth.join.name (.builtin "str.join"):=fun pl Q E k=>(by have q:=k s.toks; with_reducible exact GM.join q:wpAny C.M A (getMethod (.str x t) (Str.ofString "join") pl) Q E s)
theorem m_join {x:Str} (ro:VRel σ₁.g (.str x) o'):MOk C A P σ₁ .join (.str x) o':=by
 obtain ⟨t,rfl,hx⟩:=ro.inv
 refine ⟨_,zr1,fun L H B ra q=>?_⟩
 obtain ⟨_,b,y,e,rfl,ho,q⟩:=q.inv
 cases e
 obtain ⟨v',rfl,rv⟩:=ra.one
 exact ⟨zae _,zwb H hx ho rv q⟩
end
theorem AOk.un9 {A:Around} {d:Nat} (O:AOk A d):A.units + 9 < cLine:=Nat.lt_of_le_of_lt (by rw [Nat.add_assoc]; exact Nat.add_le_add_left (Nat.le_trans (by decide) (Nat.le_add_left 200 _)) _) O.un
theorem zvv (Pa:PatsOk C P):MethsOk C P:=by
 intro A σ₁ m o o' O h H₁ B₁
 show VRel σ₁.g o o' -> MOk C A P σ₁ m o o'
 cases h with
 | append hx=>exact fun ro=>zvz H₁ ro hx
 | extend hx=>exact fun ro=>zvy H₁ ro hx
 | reverse hx=>exact fun ro=>zrc H₁ ro hx
 | lower x=>exact z1f
 | get ks vs=>exact m_get H₁ B₁
 | bits i=>exact m_bits
 | search hp=>exact fun ro=>zvx Pa H₁ B₁ ro hp
 | index h=>exact fun ro=>z1g O.un9 H₁ ro h
 | count h=>exact fun ro=>z1h O.un9 H₁ ro h
 | join x=>exact m_join
end
end Mine
end
section
namespace Mine
open PySem PySem.SeqAt PySem.W
structure ClsFacts (K:Frag) (P:Prm):Prop where
 noSeq:noSeq K P.cls = true
 hga:findIn K (.ref P.cls) "__getattribute__" = some (some (.builtin "object.__getattribute__"))
 hk:findIn K (.ref P.cls) "__getattr__" = some none
 meth:∀ p ∈ P.meths,findIn K (.ref P.cls) p.1 = some (some (.ref p.2)) /\ typeIn K (.ref p.2) = some (.type "function") /\ p.1 ≠ headersName
 hd:∃ cd,clsIn K P.cls = some cd /\ cd.hasDict = true
 hn:findIn K (.ref P.cls) headersName = some none
 hs:findIn K (.ref P.cls) "__setattr__" = some (some (.builtin "object.__setattr__"))
 hp:plainOver K P.cls = true
 ht:takerIn K P.cls headersName = some none
 hh:(clsIn K P.cls).any (·.hasDict) = true
structure Within (C:Cx) (K:Frag):Prop where
 sub:∀ a o,K.lookup a = some o -> C.base a = some o
section
variable {C:Cx} {A:Around} {σ:St} {P:Prm} {K:Frag}
theorem inK (W:Within C K) (H:HRel σ.g σ.s.heap) (B:Base C σ.g):K.In σ.s.heap:=fun a o e=>H.fz a o (B.hf a o (W.sub a o e))
inductive OwnAt (h:Heap) (c:Addr):Value -> Prop
 | mk (x ox es ep sl) (I:InstAt h x ox c (some ⟨.type "dict",none,.dict es ep,sl⟩)) (q:∀ e ∈ es,∃ t,e.key = .str headersName t):OwnAt h c (.ref x)
theorem zrk {o:V} {o':Value} {c:Addr} (hc:ClsR σ.g.cs o c) (H:HRel σ.g σ.s.heap) (r:VRel σ.g o o'):OwnAt σ.s.heap c o':=by
 cases hc with
 | @mk l _ d v hx hd =>
  obtain ⟨rfl,_⟩:=r.inv
  obtain ⟨_,h2⟩:=H.ce _ _ hx
  have h3:=H.ce _ _ hd
  cases v with
  | none =>
   obtain ⟨sl,ep,e⟩:=h3
   exact .mk _ _ _ _ _ ⟨h2,rfl,rfl,e⟩ fun e he=>(by simp at he)
  | some v =>
   obtain ⟨hh,tk,v',ep,sl,e,_⟩:=h3
   exact .mk _ _ _ _ _ ⟨h2,rfl,rfl,e⟩ fun e he=>⟨tk,by simp at he; rw [he]⟩
theorem shadow {es:Array DictEntry} {ep:Nat} {sl:Array (Option Value)} {name:Str} (h:∀ e ∈ es,∃ t,e.key = .str headersName t) (hn:name ≠ headersName):shadowIn (some ⟨.type "dict",none,.dict es ep,sl⟩) name = some false:=by
 have h1:es.toList.find? (·.key.isStr name) = none:=List.find?_eq_none.mpr fun e he=>by
  obtain ⟨t,q⟩:=h e (Array.mem_toList_iff.mp he)
  rw [q]
  exact fun z=>hn (eq_of_beq z).symm
 have h2:es.toList.any (·.refKey) = false:=List.any_eq_false.mpr fun e he=>by
  obtain ⟨t,q⟩:=h e (Array.mem_toList_iff.mp he)
  rw [DictEntry.refKey,q]; exact Bool.false_ne_true
 unfold shadowIn lookIn
 dsimp only
 rw [h1,h2]
 rfl
theorem zra {P:Prm} {name:Str} {f:Addr} (F:ClsFacts K P) (h:P.meths.lookup name = some f):findIn K (.ref P.cls) name = some (some (.ref f)) /\ typeIn K (.ref f) = some (.type "function") /\ name ≠ headersName:=F.meth (name,f) (zbm h)
theorem ztc (W:Within C K) (F:ClsFacts K P):CMethsOk C P:=by
 intro A σ name f o o' O hm hc H B r pl Q E k
 obtain ⟨h1,h2,h3⟩:=zra F hm
 cases zrk hc H r with
 | mk x ox es ep sl I q=>exact method_fn (inK W H B) I F.hga F.hk h1 h2 (shadow q h3) (k σ.s.toks)
theorem zto {c:Addr} {cd:ClassData} {hh:Int} {tk:Tok} {v':Value} {ep:Nat} {sl:Array (Option Value)} (h1:clsIn K c = some cd) (h2:cd.hasDict = true) (hn:findIn K (.ref c) headersName = some none) :
  findObj K c (some ⟨.type "dict",none,.dict #[⟨hh,.str headersName tk,v'⟩] ep,sl⟩) headersName = some (.value v'):=by
 have hl:lookIn headersName ⟨.type "dict",none,.dict #[⟨hh,.str headersName tk,v'⟩] ep,sl⟩ = some (some v'):=by
  unfold lookIn
  have:(⟨hh,.str headersName tk,v'⟩:DictEntry).key.isStr headersName = true:=(beq_self_eq_true headersName:(headersName == headersName) = true)
  simp [this]
 unfold findObj
 rw [h1,hn]
 unfold PySem.W.ownOf
 simp [h2,hl]
theorem zje {g:Gh} {v:V} {v':Value} (r:VRel g v v') (h:notBi v):handedIn v' = true:=by
 cases v with
 | bi=>exact h.elim
 | none=>cases r.inv; rfl
 | bool=>cases r.inv; rfl
 | int=>obtain ⟨_,rfl⟩:=r.inv; rfl
 | str=>obtain ⟨_,rfl,_⟩:=r.inv; rfl
 | typ=>cases r.inv; rfl
 | adr=>cases r.inv; rfl
 | ref=>obtain ⟨rfl,_⟩:=r.inv; rfl
 | tup=>obtain ⟨_,_,_,rfl,_⟩:=r.inv; rfl
 | lst=>obtain ⟨_,_,_,rfl,_⟩:=r.inv; rfl
 | rng=>obtain ⟨_,_,_,_,rfl,_⟩:=r.inv; rfl
 | dct=>obtain ⟨_,_,_,rfl,_⟩:=r.inv; rfl
 | dcti=>obtain ⟨_,_,_,rfl,_⟩:=r.inv; rfl
theorem zxv (W:Within C K) (F:ClsFacts K P):AttrsOk C P:=by
 intro A σ o r o' O e H B ro Q E k
 cases e with
 | mk hx hd hb =>
  obtain ⟨rfl,_⟩:=ro.inv
  obtain ⟨_,h2⟩:=H.ce _ _ hx
  obtain ⟨hh,tk,v',ep,sl,e3,rv⟩:=H.ce _ _ hd
  obtain ⟨cd,c1,c2⟩:=F.hd
  exact get_value (inK W H B) ⟨h2,rfl,rfl,e3⟩ F.hga (zto c1 c2 F.hn) (zje rv hb) (k v' _ rv)
inductive SetR (P:Prm) (cs:List Cell) (K:List Cell -> Prop):V -> V -> V -> Prop
 | list {l xs i v} (h:cs[l]? = some (.list xs)) (hi:0 <= i /\ i < (xs.length:Int)) (k:K (cs.set l (.list (xs.set i.toNat v)))):SetR P cs K (.ref l) (.int i) v
 | own {o i v f} (h:ClsR cs o P.cls) (hf:P.meths.lookup (Str.ofString "__setitem__") = some f) (k:CallR P cs (fun _ c=>K c) (.adr f) [o,i,v] []):SetR P cs K o i v
inductive SAtR (P:Prm) (cs:List Cell) (K:List Cell -> Prop):V -> V -> Prop
 | mk {l d v} (h:cs[l]? = some (.inst P.cls d)) (hd:cs[d]? = some (.attr none)) (k:K (cs.set d (.attr (some v)))):SAtR P cs K (.ref l) v
noncomputable def URuns (C:Cx) (A:Around) (σ:St) (t:Sem Unit) (K:List Cell -> Prop):Prop:=∀ (Q:Unit -> Shared -> Prop) (E:Value -> Shared -> Prop),(∀ σ',Ext σ σ' noOwn -> K σ'.g.cs -> Q () σ'.s) -> wpAny C.M A t Q E σ.s
theorem zhp {s:Shared} {l:Addr} {items:Array Value} {n:Nat} {k:Int} {t:Tok} {v:Value} {Q:Unit -> Shared -> Prop} {E:Value -> Shared -> Prop} (ho:s.heap.get? l = some ⟨.type "list",none,.seq items n,#[]⟩)
  (h0:0 <= k) (hfit:k < 2 ^ 63) (hn:k < items.size) (hQ:∀ h' n',h'.get? l = some ⟨.type "list",none,.seq (items.setIfInBounds k.toNat v) n',#[]⟩ -> Heap.SameBut l s.heap h' -> Q () { s with heap:=h' }) :
  wpAny C.M A (setItem (.ref l) (.int k t) v) Q E s:=by
 have hl:s.heap.IsList l items:=⟨_,ho,rfl,_,rfl⟩
 have hd:(⟨.type "list",none,.seq items n,#[]⟩:Obj).data = .seq items n:=rfl
 unfold setItem
 try with_reducible refine wpAny_holding ?_
 first | refine wpAny_bind (wpAny_pure ?_) | skip
 refine wpAny_bind (wpAny_sequenceKey hl.typeIs (by decide) ?_)
 refine wpAny_bind (wpAny_callSpecial?_slot (name:=Str.ofString "__setitem__") hl.typeIs slot_list_setitem (wpAny_call_entry slot_list_setitem hl.typeIs entry_list_setitem ?_ (args_list_setitem _ _ _)))
 show wpAny _ _ (Builtin.List.listSubscript? (.int k t) >>= _) _ _ s
 refine wpAny_bind (wpAny_listSubscript_int (fitsIndex_of h0 hfit) ?_)
 clear hfit
 obtain ⟨j,rfl⟩:=Int.eq_ofNat_of_zero_le h0
 have hj:j < items.size:=Int.ofNat_lt.mp hn
 have hx':items[j]? = some items[j]:=Array.getElem?_eq_getElem hj
 show wpAny _ _ ((seqItemAt l j >>= fun r=>pure (r.map (j,·))) >>= _) _ _ s
 refine wpAny_bind (wpAny_bind (wpAny_seqItemAt ho hd (wpAny_pure ?_)))
 rw [hx']
 show wpAny _ _ (setSeqItemAt l j v >>= _) _ _ s
 have hfin:∃ n',(s.heap.update l (Obj.mapSeq (·.setIfInBounds j v))).get? l = some ⟨.type "list",none,.seq (items.setIfInBounds j v) n',#[]⟩:=⟨_,Heap.get?_update_self _ ho rfl⟩
 obtain ⟨n',hfin⟩:=hfin
 refine wpAny_bind (wpAny_setSeqItemAt ho hd ?_)
 first
  | exact wpAny_bind (wpAny_pure (wpAny_pure ⟨.none,rfl,wpAny_pure (hQ _ n' hfin (Heap.SameBut.update ..))⟩))
  | exact wpAny_pure ⟨.none,rfl,wpAny_pure (hQ _ n' hfin (Heap.SameBut.update ..))⟩
theorem set_ok (W:Within C K) (F:ClsFacts K P) (Fn:FnsOk C P) {ov iv v:V} {ov' iv' v':Value} {KK:List Cell -> Prop} (e:SetR P σ.g.cs KK ov iv v) (O:AOk A C.d) (H:HRel σ.g σ.s.heap) (B:Base C σ.g) (ro:VRel σ.g ov ov') (ri:VRel σ.g iv iv') (rv:VRel σ.g v v'):URuns C A σ (setItem ov' iv' v') KK:=by
 intro Q E k
 cases e with
 | @list l xs i _ hx hi q =>
  obtain ⟨rfl,hl⟩:=ro.inv
  obtain ⟨t,rfl⟩:=ri.inv
  obtain ⟨vs,ep,e,r,hle⟩:=H.ce _ _ hx
  refine zhp (items:=vs.toArray) e hi.1 (Int.lt_trans hi.2 (Int.lt_of_le_of_lt (Int.ofNat_le.mpr hle) (by decide))) (by rw [List.size_toArray,r.length]; exact hi.2) fun h' n' e' hs=>?_
  exact k (σ.up h' σ.s.toks (σ.g.upd l (.list (xs.set i.toNat v)))) (Ext.upd H hl hs.extBut ⟨_,n',by rw [e',List.setIfInBounds_toArray],vmono (r.set rv _) (Le.upd ..),by rw [List.length_set]; exact hle⟩) q
 | own hc hf q =>
  obtain ⟨h1,h2,h3⟩:=zra F hf
  have X:=inK W H B
  cases zrk hc H ro with
  | mk x ox es ep sl I he =>
   unfold setItem sequenceKey
   refine wpAny_holding (wpAny_bind (wpAny_bind (I.type.here ?_)))
   refine wpAny_bind ((anyM_none X F.noSeq).here ?_)
   rw [if_pos (show (!false) = true from rfl)]
   refine wpAny_pure (wpAny_bind (special_fn X I h1 h2 ?_))
   exact (zlq Fn q O H B (.adr _) (.cons ro (.cons ri (.cons rv .nil))) .nil).2 _ _ fun a b σ' x r q=>wpAny_pure (k σ' x q)
end
section
variable {C:Cx} {A:Around} {σ:St} {P:Prm} {K:Frag}
theorem zlz (W:Within C K) (F:ClsFacts K P) {ov v:V} {ov' v':Value} {KK:List Cell -> Prop} (e:SAtR P σ.g.cs KK ov v) (H:HRel σ.g σ.s.heap) (B:Base C σ.g) (ro:VRel σ.g ov ov') (rv:VRel σ.g v v'):URuns C A σ (setAttr ov' headersName v') KK:=by
 intro Q E k
 cases e with
 | @mk l dd _ hx hd q =>
  obtain ⟨rfl,hl⟩:=ro.inv
  obtain ⟨hdn,hxo⟩:=H.ce _ _ hx
  obtain ⟨sl,ep,hdo⟩:=H.ce _ _ hd
  have X:=inK W H B
  have I:InstAt σ.s.heap (σ.g.ρ l) ⟨.ref P.cls,some (σ.g.ρ dd),.plain,#[]⟩ P.cls (some ⟨.type "dict",none,.dict #[] ep,sl⟩):=⟨hxo,rfl,rfl,hdo⟩
  refine set_plain X I F.hs ?_
  refine osa_open (s:={ σ.s with toks:=σ.s.toks + 1 }) X I F.hp F.ht fun b=>?_
  obtain ⟨cd,hcc,hd'⟩:=any_some F.hh
  refine wpAny_bind (wpAny_pure (wpAny_bind (wpAny_bind (wpAny_loadPart hxo (wpAny_bind (Looks.here (s:={ σ.s with toks:=σ.s.toks + 1 }) (looks_clsIn X hcc) ?_))))))
  rw [hd']
  refine wpAny_pure (a:=some (σ.g.ρ dd)) (wpAny_bind (wpAny_pure (wpAny_bind ?_)))
  unfold nsSet
  refine wpAny_bind (wpAny_bind (wpAny_askSetting (wpAny_pure (wpAny_bind (wpAny_mkText (wpAny_bind (wpAny_loadPart hdo ?_)))))))
  dsimp only
  have c0:(!(#[]:Array DictEntry).any (·.key.isStr headersName) && (#[]:Array DictEntry).any (·.refKey)) = false:=by simp
  rw [aRefKeyMayBeTheName_at,c0]
  let od:Obj:=⟨.type "dict",none,.dict #[⟨PyData.keyHash C.w.params headersName,.str headersName (σ.s.toks + 1),v'⟩] (ep + 1),sl⟩
  have hput:Obj.putName headersName (PyData.keyHash C.w.params headersName) (.str headersName (σ.s.toks + 1)) v' ⟨.type "dict",none,.dict #[] ep,sl⟩ = od:=by
   rw [Obj.putName_eq]; simp [Obj.putNameByArray,od]
  have hnew:(σ.s.heap.update (σ.g.ρ dd) (Obj.putName headersName (PyData.keyHash C.w.params headersName) (.str headersName (σ.s.toks + 1)) v')).get? (σ.g.ρ dd) = some od:=by
   refine (Heap.get?_update_self _ hdo ?_).trans (congrArg some hput)
   rw [hput]; rfl
  refine wpAny_updatePart hdo ?_
  refine wpAny_bind (wpAny_lookBehind hnew (pastItsLine_dict (by rw [sizeLine_eq]; simp)) ?_)
  exact wpAny_pure (k (σ.up _ _ (σ.g.upd dd (.attr (some v)))) (Ext.upd H hdn (Heap.SameBut.update ..).extBut ⟨_,_,v',_,_,hnew,rv.mono (Le.upd ..)⟩) q)
end
structure Facts2 (C:Cx) (P:Prm) (K:Frag):Prop where
 F:Facts C P
 W:Within C K
 cf:ClsFacts K P
section
variable {C:Cx} {Φ:Fm} {ns:List Str} {σ:St} {P:Prm} {K:Frag}
noncomputable def SD.setI (P:Prm) (o i e:IE) (sp p:Pos):SD:=⟨.Assign [.Subscript (o.sem P).ast (i.sem P).ast sp] (e.sem P).ast p,fun sc ns=>((o.sem P).wf sc ns && (i.sem P).wf sc ns) && (e.sem P).wf sc ns,
 fun sl cs K=>(e.sem P).val sl cs fun v cs=>(o.sem P).val sl cs fun ov cs=>(i.sem P).val sl cs fun iv cs=>SetR P cs (fun cs=>K .next sl cs) ov iv v⟩
theorem zum (e:IE) (a b:Expr) (sp:Pos) (n:Nat) (env:Env):swapsWith (e.sem P).ast (some (.Subscript a b sp)) n env = pure false:=by cases e <;> rfl
theorem zqc (F:Facts2 C P K) (o i e:IE) (sp p:Pos):SGood C (.setI P o i e sp p):=fun Φ ns fm w sl σ K S q Q E k=>by
 have w1:=(Bool.and_eq_true _ _).mp w
 have O2:=both (o.good F.F) (i.good F.F) w1.1
 refine wpAny_Assign_stores ((e.good F.F Φ ns w1.2).val sl σ _ S q _ _ fun v v' σ1 X1 r1 q1=>?_) (zum e (o.sem P).ast (i.sem P).ast sp p.line Φ.env) rfl
 show wpAny _ _ (assign (.Subscript (o.sem P).ast (i.sem P).ast sp) Φ.env v') _ _ _
 rw [assign_Subscript]
 refine wpAny_bind (wpAny_holding (O2.1.val sl σ1 _ (S.ext X1) q1 _ _ fun ov ov' σ2 X2 r2 q2=>wpAny_bind (wpAny_holding (O2.2.val sl σ2 _ ((S.ext X1).ext X2) q2 _ _ fun iv iv' σ3 X3 r3 q3=>?_))))
 have X:=X1.trans (X2.trans X3)
 refine wpAny_bind (wpAny_standAt (wpAny_bind (wpAny_holding ?_)))
 exact set_ok F.W F.cf F.F.fns q3 S.O X3.H (S.B.le X.le) (r2.mono X3.le) r3 (r1.mono (X2.trans X3).le) _ _ fun σ4 X4 q4=>zdu (k .next sl _ σ4 (toOwn (X.trans X4)) .next (S.ext (X.trans X4)) q4)
noncomputable def SD.setA (P:Prm) (o e:IE) (ap p:Pos):SD:=⟨.Assign [.Attribute (o.sem P).ast headersName ap] (e.sem P).ast p,fun sc ns=>(o.sem P).wf sc ns && (e.sem P).wf sc ns,
 fun sl cs K=>(e.sem P).val sl cs fun v cs=>(o.sem P).val sl cs fun ov cs=>SAtR P cs (fun cs=>K .next sl cs) ov v⟩
theorem zpz (e:IE) (a:Expr) (nm:Str) (sp:Pos) (n:Nat) (env:Env):swapsWith (e.sem P).ast (some (.Attribute a nm sp)) n env = pure false:=by cases e <;> rfl
theorem zqd (F:Facts2 C P K) (o e:IE) (ap p:Pos):SGood C (.setA P o e ap p):=fun Φ ns fm w sl σ K S q Q E k=>by
 have w1:=(Bool.and_eq_true _ _).mp w
 refine wpAny_Assign_stores ((e.good F.F Φ ns w1.2).val sl σ _ S q _ _ fun v v' σ1 X1 r1 q1=>?_) (zpz e (o.sem P).ast headersName ap p.line Φ.env) rfl
 show wpAny _ _ (do
    let ov <- holding [v'] (eval (o.sem P).ast Φ.env)
    standAt ap.atName
    holding [v',ov] (setAttr ov headersName v')
    release [v',ov] []) _ _ _
 refine wpAny_bind (wpAny_holding ((o.good F.F Φ ns w1.1).val sl σ1 _ (S.ext X1) q1 _ _ fun ov ov' σ2 X2 r2 q2=>?_))
 have X:=X1.trans X2
 refine wpAny_bind (wpAny_standAt (wpAny_bind (wpAny_holding ?_)))
 exact zlz F.W F.cf q2 X2.H (S.B.le X.le) r2 (r1.mono X2.le) _ _ fun σ3 X3 q3=>zdu (k .next sl _ σ3 (toOwn (X.trans X3)) .next (S.ext (X.trans X3)) q3)
end
inductive WhileR (test:Slots -> List Cell -> KB -> Prop) (body:Slots -> List Cell -> KF -> Prop) (K:KF):Slots -> List Cell -> Prop
 | mk {sl cs} (T:KB) (M:KF) (ht:test sl cs T) (hf:∀ cs',T false cs' -> K .next sl cs') (hb:∀ cs',T true cs' -> body sl cs' M)
   (hn:∀ fl sl' cs',fl.goes = true -> M fl sl' cs' -> WhileR test body K sl' cs') (hx:∀ fl sl' cs',fl.goes = false -> M fl sl' cs' -> K fl.after sl' cs'):WhileR test body K sl cs
section
variable {C:Cx} {Φ:Fm} {ns:List Str} {σ:St} {P:Prm}
theorem zno {A:Around} {s:Shared} {RR:Result -> Shared -> Prop} {env:Env} {test:Expr} {body:List Stmt}
  (h:wpAny C.M A (isTrue test env (eval test env)) (fun b s₂=>Bool.rec (RR (.ok .next) s₂) (wpAny C.M A (execs body env) (fun f s₄ =>
   Flow.rec (codeAny C.M A (.whileLoop test body [] env) RR s₄) (RR (.ok .next) s₄) (codeAny C.M A (.whileLoop test body [] env) RR s₄) (fun v=>RR (.ok (.ret v)) s₄) f) (RE C A env RR) s₂) b) (RE C A env RR) s):codeAny C.M A (.whileLoop test body [] env) RR s:=by
 refine codeAny_of_tree ?_
 show wpAny _ A ((whileTurn test body [] env).onRaise (fun x=>do noteFrame x env; theTreesLotGoes x)) _ _ s
 refine wpAny_noted ?_
 unfold whileTurn
 refine wpAny_bind (wpAny_mono h (fun b s₂ h₂=>?_) fun _ _ h'=>h')
 cases b with
 | true =>
  rw [if_pos rfl]
  refine wpAny_bind (wpAny_mono h₂ (fun f s₄ h₄=>?_) fun _ _ h'=>h')
  cases f with
  | next=>exact wpAny_pure ⟨rfl,h₄⟩
  | cont=>exact wpAny_pure ⟨rfl,h₄⟩
  | brk=>exact wpAny_pure h₄
  | ret v=>exact wpAny_pure h₄
 | false =>
  rw [if_neg (by decide)]
  exact wpAny_bind (wpAny_execs_nil (wpAny_pure h₂))
theorem zt7 {t:ED} {ds:List SD} (Ot:EOk C Φ ns t) (O:∀ d ∈ ds,SOk C Φ ns d) {σ₀:St} {K:KF} {Q:Flow -> Shared -> Prop} {E:Value -> Shared -> Prop}
  (k:∀ fl sl f σ',Ext σ₀ σ' (ownOf Φ.env) -> FlRel σ'.g fl f -> Std C Φ (look ns sl) σ' -> K fl sl σ'.g.cs -> Q f σ'.s) {sl:Slots} {cs:List Cell} (h:WhileR t.tst (bden ds) K sl cs) :
  ∀ {σ:St},σ.g.cs = cs -> Std C Φ (look ns sl) σ -> Ext σ₀ σ (ownOf Φ.env) -> codeAny C.M Φ.A (.whileLoop t.ast (ds.map SD.ast) [] Φ.env) (ResOk Q E C Φ) σ.s:=by
 induction h with
 | @mk sl cs T M ht hf hb hn hx ih =>
  intro σ hc S X
  subst hc
  refine zno (Ot.tst sl σ _ S ht _ _ fun b b' σ1 X1 rb q1=>?_)
  have S1:=S.ext X1
  have Y1:=X.trans (toOwn X1)
  cases (rb:b' = b)
  cases b with
  | false=>exact k .next sl .next σ1 Y1 .next S1 (hf _ q1)
  | true =>
   refine zby ds O sl σ1 M S1 (hb _ q1) _ _ fun fl sl2 f σ3 X3 r3 S3 q3=>?_
   have Z:=Y1.trans X3
   cases r3 with
   | next=>exact ih .next sl2 _ rfl q3 rfl S3 Z
   | cont=>exact ih .cont sl2 _ rfl q3 rfl S3 Z
   | brk=>exact k .next sl2 .next σ3 Z .next S3 (hx .brk sl2 _ rfl q3)
   | ret r=>exact k (.ret _) sl2 (.ret _) σ3 Z (.ret r) S3 (hx (.ret _) sl2 _ rfl q3)
noncomputable def SD.while_ (t:ED) (body:List SD) (p:Pos):SD:=⟨.While t.ast (body.map SD.ast) [] p,fun sc ns=>t.wf sc ns && bwf body sc ns,fun sl cs K=>WhileR t.tst (bden body) K sl cs⟩
theorem znp {t:ED} {body:List SD} (p:Pos) (ht:EGood C t) (hb:SAll C body):SGood C (.while_ t body p):=fun Φ ns fm w sl σ K S q Q E k=>by
 have w1:=(Bool.and_eq_true _ _).mp w
 exact wpAny_While (zt7 (ht Φ ns w1.1) (hb.ok fm w1.2) k q rfl S (Ext.refl S.H _))
noncomputable def starB (e:Expr):Bool:=match e with
 | .Starred ..=>true
 | _=>false
noncomputable def swapB (sc:Scope) (x:Str) (xp:Pos) (y:Str) (yp:Pos) (a b:Expr):Bool :=
 (sc.names.lookup x == some .local && sc.names.lookup y == some .local) && ((yp.line == xp.line && !(x == y)) && ((!starB a && !starB b) && (!(foldedForSure 8 a && foldedForSure 8 b) && !(constantsAlone 8 a && constantsAlone 8 b))))
theorem zuq (l:List Expr) (h:∀ c ∈ l,starB c = false):(l.any fun | .Starred ..=>true | _=>false) = false:=by
 rw [List.any_eq_false]
 intro c hc
 have:=h c hc
 cases c <;> first | exact fun q=>Bool.noConfusion q | exact Bool.noConfusion this
theorem zzx {env:Env} (hk:env.scope.kind = .function) {x y:Str} {xp yp:Pos} {a b:Expr} {k n:Nat} {p q:Pos} (h:swapB env.scope x xp y yp a b = true):swappedStores [.Tuple [.Name x xp,.Name y yp] k p] (.Tuple [a,b] n q) env = pure (some [x,y]):=by
 unfold swapB at h
 simp only [Bool.and_eq_true,beq_iff_eq,Bool.not_eq_true',Bool.and_eq_false_iff] at h
 obtain ⟨⟨h1,h2⟩,⟨h3,h4⟩,⟨h5,h6⟩,h7,h8⟩:=h
 have hb:env.blockKind = .function:=by unfold Env.blockKind; rw [hk]; rfl
 have hx:env.kindOf x = some .local:=h1
 have hy:env.kindOf y = some .local:=h2
 have s1:=zuq [a,b] fun c hc=>by rcases List.mem_cons.mp hc with rfl | hc; exact h5; cases List.mem_singleton.mp hc; exact h6
 have s2:([x,y].eraseDups).length = 2:=by
  have:¬ y = x:=fun e=>by rw [e,beq_self_eq_true] at h4; cases h4
  simp [List.eraseDups_cons,this]
 have s3:[a,b].all (foldedForSure 8) = false:=by
  rw [List.all_cons,List.all_cons,List.all_nil,Bool.and_true,Bool.and_eq_false_iff]; exact h7
 have s4:[a,b].all (constantsAlone 8) = false:=by
  rw [List.all_cons,List.all_cons,List.all_nil,Bool.and_true,Bool.and_eq_false_iff]; exact h8
 have s5:[Expr.Name x xp,Expr.Name y yp].filterMap (fun | .Name id pos=>if env.kindOf id == some .local && pos.line == xp.line then some id else none | _=>none) = [x,y]:=by
  have e1:(if (env.kindOf x == some NameKind.local && xp.line == xp.line) = true then some x else none) = some x:=by rw [hx]; simp
  have e2:(if (env.kindOf y == some NameKind.local && yp.line == xp.line) = true then some y else none) = some y:=by rw [hy,h3]; simp
  rw [List.filterMap_cons,List.filterMap_cons,List.filterMap_nil]
  simp only [e1,e2]
 unfold swappedStores
 dsimp only
 rw [hb]
 refine (if_neg fun e=>Bool.noConfusion (show false = true from e)).trans ?_
 refine (if_neg fun e=>Bool.noConfusion (show false = true from s1.symm.trans e)).trans ?_
 generalize hN:List.filterMap _ [Expr.Name x xp,Expr.Name y yp] = N
 have hN':N = [x,y]:=hN.symm.trans s5
 subst hN'
 refine (if_neg fun e=>?_).trans ?_
 ·rw [s2] at e; exact Bool.noConfusion (show false = true from e)
 refine (if_neg fun e=>Bool.noConfusion (s3.symm.trans e)).trans ?_
 exact if_neg fun e=>Bool.noConfusion (s4.symm.trans e)
noncomputable def two2 (k:V -> V -> List Cell -> Prop):List V -> List Cell -> Prop:=fun vs cs=>List.rec (motive:=fun _=>Prop) False (fun a t _=>List.rec (motive:=fun _=>Prop) False (fun b u _=>List.rec (motive:=fun _=>Prop) (k a b cs) (fun _ _ _=>False) u) t) vs
theorem zzp {k:V -> V -> List Cell -> Prop} {vs:List V} {cs:List Cell} (h:two2 k vs cs):∃ a b,vs = [a,b] /\ k a b cs:=by
 match vs,h with
 | [],h=>exact h.elim
 | [a],h=>exact h.elim
 | [a,b],h=>exact ⟨a,b,rfl,h⟩
 | a :: b :: c :: t,h=>exact h.elim
noncomputable def SD.swap (x:Str) (i:Nat) (xp:Pos) (y:Str) (j:Nat) (yp:Pos) (a b:ED) (k n:Nat) (tp vp p:Pos):SD :=
 ⟨.Assign [.Tuple [.Name x xp,.Name y yp] k tp] (.Tuple [a.ast,b.ast] n vp) p,fun sc ns=>(tgt1 sc ns x i && tgt1 sc ns y j) && (swapB sc x xp y yp a.ast b.ast && (a.wf sc ns && b.wf sc ns)),
  fun sl cs K=>a.val sl cs fun va cs=>b.val sl cs fun vb cs=>K .next ((sl.set j (some vb)).set i (some va)) cs⟩
theorem zpv {a b:ED} (ha:EGood C a) (hb:EGood C b) (x:Str) (i:Nat) (xp:Pos) (y:Str) (j:Nat) (yp:Pos) (k n:Nat) (tp vp p:Pos):SGood C (.swap x i xp y j yp a b k n tp vp p):=fun Φ ns fm w sl σ K S q Q E kk=>by
 have w1:=(Bool.and_eq_true _ _).mp w
 have w2:=(Bool.and_eq_true _ _).mp w1.1
 have w3:=(Bool.and_eq_true _ _).mp w1.2
 have O2:=both ha hb w3.2
 have Oe:∀ e ∈ [a,b],EOk C Φ ns e:=fun e he=>by
  rcases List.mem_cons.mp he with rfl | he
  ·exact O2.1
  ·cases List.mem_singleton.mp he; exact O2.2
 show wpAny _ _ (exec (.Assign [.Tuple [.Name x xp,.Name y yp] k tp] (.Tuple ([a,b].map ED.ast) n vp) p) Φ.env) _ _ _
 rw [exec_Assign_arm]
 refine wpAny_bind (wpAny_standAt ?_)
 rw [show swapsWithSole [.Tuple [.Name x xp,.Name y yp] k tp] (.Tuple ([a,b].map ED.ast) n vp) p.line Φ.env = pure false from rfl]
 refine wpAny_bind (wpAny_pure ?_)
 rw [if_neg (by decide)]
 have q0:vals [a,b] sl σ.g.cs (two2 fun va vb cs=>K .next ((sl.set j (some vb)).set i (some va)) cs):=q
 refine wpAny_bind (wpAny_Tuple (zhh vp [a,b] sl _ Oe S q0 _ _ fun vs vs' σ1 X1 r q1=>?_))
 obtain ⟨va,vb,rfl,q1⟩:=zzp q1
 obtain ⟨va',vb',rfl,ra,rb⟩:=r.two
 refine ⟨show 2 <= sizeLine by decide,?_⟩
 let σ2:St:=σ1.up (σ1.s.heap.push (tupO [va',vb'] 0)) σ1.s.toks (σ1.g.freeze σ1.s.heap.objs.size (tupO [va',vb'] 0))
 have X2:Ext σ1 σ2 noOwn:=zf3 (o:=tupO [va',vb'] 0) X1.H (fun _ e=>(nomatch e)) rfl σ1.s.toks
 have rt:VRel σ2.g (.tup [va,vb]) (.ref σ1.s.heap.objs.size):=.tup (zam ..) (vmono (.cons ra (.cons rb .nil)) (Le.freeze _ _ (X1.H.hf_none (get?_size _)))) (show 2 <= lim by decide)
 rw [show (Expr.Tuple (List.map ED.ast [a,b]) n vp) = .Tuple [a.ast,b.ast] n vp from rfl,zzx S.F.kind w3.1]
 refine wpAny_bind (wpAny_pure ?_)
 show wpAny _ _ (assignStores Φ.env _ (some [x,y]) _) _ _ _
 have S2:Std C Φ (look ns sl) σ2:=(S.ext X1).ext X2
 unfold assignStores
 refine wpAny_bind (wpAny_rule (wpAny_bind ?_))
 refine zi3 (C:=C) (Φ:=Φ) (σ:=σ2) (vs:=[va,vb]) S2.O.hh S2.H rfl rt fun its rr h' hx=>?_
 obtain ⟨va2,vb2,rfl,ra2,rb2⟩:=rr.two
 have X3:Ext σ2 (σ2.up h' σ2.s.toks σ2.g) noOwn:=Ext.keeps S2.H fun a o e=>hx a o (fun z=>absurd (Heap.lt_size e) (by rw [z]; exact Nat.lt_irrefl _)) e
 have S3:=S2.ext X3
 refine wpAny_bind ?_
 show wpAny _ _ (assignInOrder [bindName Φ.env y,bindName Φ.env x] [vb2,va2]) _ _ _
 unfold assignInOrder
 refine wpAny_bind (wpAny_holding (wpAny_bindName (store1 (ow:=ownOf Φ.env) S3 w2.2 (rb2.mono X3.le) (.inl rfl) (fun c hk hc=>.inr ⟨y,hk,hc⟩) _ _ fun σ4 X4 c4 S4=>?_)))
 unfold assignInOrder
 refine wpAny_bind (wpAny_holding (wpAny_bindName (store1 (ow:=ownOf Φ.env) S4 w2.1 ((ra2.mono X3.le).mono X4.le) (.inl rfl) (fun c hk hc=>.inr ⟨x,hk,hc⟩) _ _ fun σ5 X5 c5 S5=>?_)))
 unfold assignInOrder
 refine wpAny_pure (wpAny_pure (kk .next _ _ σ5 ?_ .next S5 ?_))
 ·exact (toOwn ((X1.trans X2).trans X3)).trans (X4.trans X5)
 ·rw [c5,c4]; exact q1
noncomputable def chainS (v:V) (xs:List (Str × Nat × Pos)):Slots -> Slots:=List.rec (fun sl=>sl) (fun y _ ih sl=>ih (sl.set y.2.1 (some v))) xs
theorem zxk {v:V} {v':Value} (xs:List (Str × Nat × Pos)):∀ {sl:Slots} {σ:St},Std C Φ (look ns sl) σ -> xs.all (fun y=>tgt1 Φ.env.scope ns y.1 y.2.1) = true -> VRel σ.g v v' ->
  BindsOk C Φ (look ns (chainS v xs sl)) (ownOf Φ.env) σ (assignAll v' ((assignEach (xs.map fun y=>.Name y.1 y.2.2) Φ.env).map (·.2))):=by
 induction xs with
 | nil=>exact fun S _ r Q E k=>wpAny_pure (k _ (Ext.refl S.H _) rfl S)
 | cons y xs ih =>
  intro sl σ S h r Q E k
  rw [List.all_cons,Bool.and_eq_true] at h
  have one:=store1 (ow:=ownOf Φ.env) S h.1 r (.inl rfl) fun c hk hc=>.inr ⟨y.1,hk,hc⟩
  cases xs with
  | nil=>exact wpAny_assign_Name (one _ _ k)
  | cons z xs =>
   show wpAny _ _ (holding [v'] (assign (.Name y.1 y.2.2) Φ.env v') >>= fun _=>assignAll v' ((assignEach ((z :: xs).map fun y=>.Name y.1 y.2.2) Φ.env).map (·.2))) _ _ _
   refine wpAny_bind (wpAny_holding (wpAny_assign_Name (one _ _ fun σ1 X1 c1 S1=>?_)))
   exact ih S1 h.2 (r.mono X1.le) _ _ fun σ2 X2 c2 S2=>k σ2 (X1.trans X2) (c2.trans c1) S2
noncomputable def SD.chain (xs:List (Str × Nat × Pos)) (e:ED) (p:Pos):SD :=
 ⟨.Assign (xs.map fun y=>.Name y.1 y.2.2) e.ast p,fun sc ns=>Nat.blt 1 xs.length && (xs.all (fun y=>tgt1 sc ns y.1 y.2.1) && e.wf sc ns),fun sl cs K=>e.val sl cs fun v cs=>K .next (chainS v xs sl) cs⟩
theorem zou (xs:List (Str × Nat × Pos)) {e:ED} (he:EGood C e) (p:Pos):SGood C (.chain xs e p):=fun Φ ns fm w sl σ K S q Q E k=>by
 have w1:=(Bool.and_eq_true _ _).mp w
 have w2:=(Bool.and_eq_true _ _).mp w1.2
 have s1:swapsWithSole (xs.map fun y=>.Name y.1 y.2.2) e.ast p.line Φ.env = pure false /\ swappedStores (xs.map fun y=>.Name y.1 y.2.2) e.ast Φ.env = pure none:=by
  match xs,w1.1 with
  | [],h=>exact nomatch h
  | [_],h=>exact nomatch h
  | _ :: _ :: _,_=>exact ⟨rfl,rfl⟩
 refine wpAny_Assign_stores ((he Φ ns w2.2).val sl σ _ S q _ _ fun v a σ1 X1 r q1=>?_) s1.1 s1.2
 exact zxk xs (S.ext X1) w2.1 r _ _ fun σ2 X2 c2 S2=>k .next _ _ σ2 ((toOwn X1).trans X2) .next S2 (c2 ▸ q1)
noncomputable def SD.asgI (P:Prm) (x:Str) (i:Nat) (xp:Pos) (kx vx:IE) (t2:Tgt) (iter:IE) (ifs:List IE) (scope:Scope) (cp p:Pos):SD :=
 ⟨.Assign [.Name x xp] ((IE.dcompI kx vx t2 iter ifs scope cp).sem P).ast p,fun sc ns=>tgt1 sc ns x i && ((IE.dcompI kx vx t2 iter ifs scope cp).sem P).wf sc ns,fun sl cs K=>((IE.dcompI kx vx t2 iter ifs scope cp).sem P).val sl cs fun v cs=>K .next (sl.set i (some v)) cs⟩
theorem zor (F:Facts C P) {kx vx:ED} {t:Tgt} {iter:ED} {ifs:List ED} {scope:Scope} (hk:EGood C kx) (hv:EGood C vx) (hi:EGood C iter) (hf:EAll C ifs)
  (w:(compB t iter ifs scope Φ.env.scope ns && (kx.wf (compScope Φ.env.scope scope) (ownNs scope ++ ns) && vx.wf (compScope Φ.env.scope scope) (ownNs scope ++ ns))) = true) :
  CIn C Φ ns scope t iter.ast (ifs.map ED.ast) (.dct kx.ast vx.ast) (boolT .And ifs) (emitI kx.val vx.val) (GdI C.prog C.w) outI [] (iter.src t):=by
 have w':=(Bool.and_eq_true _ _).mp w
 have w2:=(Bool.and_eq_true _ _).mp w'.2
 refine ztd F hi hf (zim w'.1) (fun r h1 h2 h3 hc oD nD=>?_) zm0 zqv fun g=>⟨#[],0,[],rfl,fun e he=>(by simp at he),.nil,List.nodup_nil,.nil⟩
 subst h1
 exact zm8 hc oD nD (hk r.Φ r.ns (by rw [h2,h3]; exact w2.1)).val (hv r.Φ r.ns (by rw [h2,h3]; exact w2.2)).val
theorem ztq (F:Facts C P) (x:Str) (i:Nat) (xp:Pos) (kx vx:IE) (t2:Tgt) (iter:IE) (ifs:List IE) (scope:Scope) (cp p:Pos):SGood C (.asgI P x i xp kx vx t2 iter ifs scope cp p):=fun Φ ns fm w sl σ K S q=>by
 have w1:=(Bool.and_eq_true _ _).mp w
 have O:=(IE.dcompI kx vx t2 iter ifs scope cp).good F Φ ns w1.2
 have I:=zor F (t:=t2) (kx.good F) (vx.good F) (iter.good F) (IE.all_good F ifs) w1.2
 have st:swappedStores [(Tgt.nm x i xp).ast] ((IE.dcompI kx vx t2 iter ifs scope cp).sem P).ast Φ.env = pure none:=rfl
 obtain ⟨b,hb⟩:∃ b,swapsWith ((IE.dcompI kx vx t2 iter ifs scope cp).sem P).ast (some (Tgt.nm x i xp).ast) p.line Φ.env = pure b:=⟨_,rfl⟩
 cases b with
 | false=>exact zd0 (t:=.nm x i xp) O w1.1 hb st S q
 | true =>
  intro Q E k
  show wpAny _ _ (exec (.Assign [(Tgt.nm x i xp).ast] ((IE.dcompI kx vx t2 iter ifs scope cp).sem P).ast p) Φ.env) _ _ _
  rw [exec_Assign_arm]
  refine wpAny_bind (wpAny_standAt ?_)
  rw [show swapsWithSole [(Tgt.nm x i xp).ast] ((IE.dcompI kx vx t2 iter ifs scope cp).sem P).ast p.line Φ.env = pure true from hb]
  refine wpAny_bind (wpAny_pure ?_)
  rw [if_pos rfl]
  refine wpAny_bind (wpAny_bind (znc I cp (L':=fun v=>look ns (sl.set i (some v))) S q (fun v a σ1 X1 r q1=>?_) fun v σ1 X1 q1 S1=>wpAny_pure (wpAny_pure (k .next _ _ σ1 X1 .next S1 q1))))
  rw [zdi]
  exact zet (t:=.nm x i xp) (.inl rfl) (own2 _) (S.ext X1) w1.1 rfl r
noncomputable def nswB (sc:Scope) (t:Tgt):Bool:=Tgt.rec (fun _ _ _=>true) (fun xs _ _=>!(xs.length == 2 || xs.length == 3) || xs.any fun y=>!(sc.names.lookup y.1 == some .local)) t
theorem nsw_at {env:Env} {t:Tgt} {es:List Expr} {n:Nat} {p:Pos} (h:nswB env.scope t = true):swappedStores [t.ast] (.Tuple es n p) env = pure none:=by
 cases t with
 | nm x i q=>rfl
 | tup xs k q =>
  have h':(!(xs.length == 2 || xs.length == 3) || xs.any fun y=>!(env.scope.names.lookup y.1 == some .local)) = true:=h
  show swappedStores [.Tuple (xs.map fun y=>.Name y.1 y.2.2) k q] (.Tuple es n p) env = pure none
  unfold swappedStores
  dsimp only
  by_cases c1:(!((xs.map fun y=>Expr.Name y.1 y.2.2).length == 2 || (xs.map fun y=>Expr.Name y.1 y.2.2).length == 3) || es.length != (xs.map fun y=>Expr.Name y.1 y.2.2).length || env.blockKind != .function) = true
  ·exact if_pos c1
  ·refine (if_neg c1).trans ?_
   by_cases c2:(es.any fun | .Starred ..=>true | _=>false) = true
   ·exact if_pos c2
   ·refine (if_neg c2).trans (if_pos ?_)
    rw [Bool.or_eq_true] at h'
    rcases h' with h' | h'
    ·exfalso; apply c1
     rw [List.length_map,h']; rfl
    ·obtain ⟨y,hy,hk⟩:=List.any_eq_true.mp h'
     rw [Bool.or_eq_true]
     refine .inl (bne_iff_ne.mpr (Nat.ne_of_lt (List.length_filterMap_lt_length_iff_exists.mpr ⟨_,List.mem_map_of_mem hy,?_⟩)))
     have hk':(env.kindOf y.1 == some NameKind.local) = false:=by rw [Bool.not_eq_true'] at hk; exact hk
     show (if (env.kindOf y.1 == some NameKind.local && _) = true then some y.1 else none) = none
     rw [hk',Bool.false_and,if_neg Bool.false_ne_true]
noncomputable def SD.asgT (P:Prm) (t:Tgt) (es:List IE) (n:Nat) (vp p:Pos):SD:=⟨.Assign [t.ast] ((IE.tup es n vp).sem P).ast p,fun sc ns=>nswB sc t && (t.ok sc ns && ((IE.tup es n vp).sem P).wf sc ns),fun sl cs K=>((IE.tup es n vp).sem P).val sl cs fun v cs=>bindK t v sl fun sl=>K .next sl cs⟩
theorem ztp {P:Prm} (F:Facts C P) (t:Tgt) (es:List IE) (n:Nat) (vp p:Pos):SGood C (.asgT P t es n vp p):=fun Φ ns fm w sl σ K S q=>by
 have w1:=(Bool.and_eq_true _ _).mp w
 have w2:=(Bool.and_eq_true _ _).mp w1.2
 exact zd0 ((IE.tup es n vp).good F Φ ns w2.2) w2.1 rfl (nsw_at w1.1) S q
end
set_option genCtorIdx false in
inductive IS where
 | raw (s:Stmt)
 | ret (e:IE) (p:Pos)
 | retN (p:Pos)
 | ite (t:IE) (a b:List IS) (p:Pos)
 | expr (e:IE) (p:Pos)
 | asg (t:Tgt) (e:IE) (p:Pos)
 | asgC (t:Tgt) (c:Bool) (elt:IE) (t2:Tgt) (iter:IE) (ifs:List IE) (scope:Scope) (cp p:Pos)
 | for_ (t:Tgt) (it:IE) (body:List IS) (p:Pos)
 | setI (o i e:IE) (sp p:Pos)
 | setA (o e:IE) (ap p:Pos)
 | while_ (t:IE) (body:List IS) (p:Pos)
 | swap (x:Str) (i:Nat) (xp:Pos) (y:Str) (j:Nat) (yp:Pos) (a b:IE) (k n:Nat) (tp vp p:Pos)
 | chain (xs:List (Str × Nat × Pos)) (e:IE) (p:Pos)
 | asgI (x:Str) (i:Nat) (xp:Pos) (kx vx:IE) (t2:Tgt) (iter:IE) (ifs:List IE) (scope:Scope) (cp p:Pos)
 | asgT (t:Tgt) (es:List IE) (n:Nat) (vp p:Pos)
noncomputable def IS.sem (P:Prm):IS -> SD:=fun e=>IS.rec (motive_1:=fun _=>SD) (motive_2:=fun _=>List SD)
 SD.raw (fun e p=>SD.ret (e.sem P) p) SD.retN (fun t _ _ p a b=>SD.ite (t.sem P) a b p) (SD.expr P) (SD.asg P) (SD.asgC P) (fun t it _ p body=>SD.for_ t (it.sem P) body p) (SD.setI P) (SD.setA P) (fun t _ p body=>SD.while_ (t.sem P) body p) (fun x i xp y j yp a b=>SD.swap x i xp y j yp (a.sem P) (b.sem P)) (fun xs e p=>SD.chain xs (e.sem P) p) (SD.asgI P) (SD.asgT P) [] (fun _ _ d ds=>d :: ds) e
noncomputable def IS.sems (P:Prm):List IS -> List SD:=fun e=>IS.rec_1 (motive_1:=fun _=>SD) (motive_2:=fun _=>List SD)
 SD.raw (fun e p=>SD.ret (e.sem P) p) SD.retN (fun t _ _ p a b=>SD.ite (t.sem P) a b p) (SD.expr P) (SD.asg P) (SD.asgC P) (fun t it _ p body=>SD.for_ t (it.sem P) body p) (SD.setI P) (SD.setA P) (fun t _ p body=>SD.while_ (t.sem P) body p) (fun x i xp y j yp a b=>SD.swap x i xp y j yp (a.sem P) (b.sem P)) (fun xs e p=>SD.chain xs (e.sem P) p) (SD.asgI P) (SD.asgT P) [] (fun _ _ d ds=>d :: ds) e
theorem zqi {C:Cx} {d:SD} {ds:List SD} (h:SGood C d) (hs:SAll C ds):SAll C (d :: ds):=fun x hx=>(List.mem_cons.mp hx).elim (fun z=>z ▸ h) (hs x)
theorem IS.all_good {C:Cx} {P:Prm} {K:Frag} (F:Facts2 C P K) (ss:List IS):SAll C (IS.sems P ss) :=
 IS.rec_1 (motive_1:=fun s=>SGood C (s.sem P)) (motive_2:=fun ss=>SAll C (IS.sems P ss))
  zu8 (fun e p=>zu6 p (e.good F.F)) zqp (fun t _ _ p a b=>zid p (t.good F.F) a b) (zsl F.F) (zxw F.F) (ztr F.F) (fun t it _ p body=>zm1 t p (it.good F.F) body)
  (zqc F) (zqd F) (fun t _ p body=>znp p (t.good F.F) body) (fun x i xp y j yp a b k n tp vp p=>zpv (a.good F.F) (b.good F.F) x i xp y j yp k n tp vp p) (fun xs e p=>zou xs (e.good F.F) p) (ztq F.F) (ztp F.F) (fun _ h=>nomatch h) (fun _ _ d ds=>zqi d ds) ss
noncomputable abbrev den (P:Prm) (ss:List IS):Slots -> List Cell -> KF -> Prop:=bden (IS.sems P ss)
theorem z2u {C:Cx} {P:Prm} {K:Frag} {Φ:Fm} {ns:List Str} (F:Facts2 C P K) {ss:List IS} {body:List Stmt} (hb:(IS.sems P ss).map SD.ast = body) (fm:C.fm Φ.A Φ.env) (w:bwf (IS.sems P ss) Φ.env.scope ns = true) {sl:Slots} {σ:St} {T:KF} (S:Std C Φ (look ns sl) σ) (q:den P ss sl σ.g.cs T):XRuns C Φ ns σ (execs body Φ.env) T :=
 hb ▸ zby _ ((IS.all_good F ss).ok fm w) sl σ T S q
noncomputable def retOf (f:Fl):V:=Fl.rec .none .none .none (fun v=>v) f
structure FnAt0 (C:Cx) (f:Addr) (sc:Scope) (body:List Stmt) (fd:FuncData):Prop where
 ho:∃ o,C.base f = some o /\ o.data = .func fd
 scope:fd.scope = sc
 body:fd.body = .stmts body
 glo:fd.globals = mainGlobals
 blt:fd.builtins = builtinsNs
 co:sc.isCoroutine = false
 gen:sc.isGenerator = false
 kind:sc.kind = .function
 code:∃ c oc vs t,fd.code = .ref c /\ C.base c = some oc /\ oc.data = .fields vs /\ vs[1]? = some (.str fd.qualname t)
structure FnAt (C:Cx) (f:Addr) (sc:Scope) (body:List Stmt) (fd:FuncData):Prop extends FnAt0 C f sc body fd where
 clo:fd.closure = []
 nofree:∀ x,(x,NameKind.free) ∉ sc.names
structure CloOk (σ:St) (sc:Scope) (clo:List (Str × Addr)) (ns:List Str) (sl:Slots):Prop where
 free:∀ x,(x,NameKind.free) ∈ sc.names -> ∃ c w,clo.lookup x = some c /\ σ.s.heap.IsCell c w /\ ∀ v,look ns sl x = some v -> ∃ v',w = some v' /\ VRel σ.g v v'
 live:∀ x a,clo.lookup x = some a -> ∃ w,σ.s.heap.IsCell a w
 inj:∀ x y a,clo.lookup x = some a -> clo.lookup y = some a -> x = y
 sep:∀ x,(x,NameKind.free) ∈ sc.names -> (x,NameKind.cell) ∉ sc.names
noncomputable def Lim0 (C:Cx):Prop:=∃ o es ep mc,C.base cStatics = some o /\ o.data = .dict es ep /\ (∀ h:Heap,h.get? cStatics = some o -> h.Ns cStatics mc) /\ mc "sys.recursionlimit" = none
structure LimAt (C:Cx):Prop where
 fm:∀ A env,C.fm A env
 l:Lim0 C
noncomputable abbrev Cx.up (C:Cx):Cx:={ C with d:=C.d + 1 }
noncomputable def bindP (ps:List (Str × Nat)):List V -> Slots -> Slots:=List.rec (fun _ sl=>sl) (fun p _ ih vs sl=>List.rec sl (fun v vs _=>ih vs (sl.set p.2 (some v))) vs) ps
section
variable {C:Cx} {A:Around} {Φ:Fm} {ns:List Str} {σ:St} {P:Prm} {K:KV} {sc:Scope}
theorem Lim0.at (L:Lim0 C) (H:HRel σ.g σ.s.heap) (B:Base C σ.g):σ.s.heap.NoLimit:=by
 obtain ⟨o,es,ep,mc,h1,h2,h3,h4⟩:=L
 exact ⟨mc,h3 _ (H.fz _ _ (B.hf _ _ h1)),h4⟩
theorem CloOk.nil (hf:∀ x,(x,NameKind.free) ∉ sc.names):CloOk σ sc [] [] []:=⟨fun x hx=>absurd hx (hf x),fun x a e=>(by cases e),fun x y a e=>(by cases e),fun x hx=>absurd hx (hf x)⟩
theorem zqt (ps:List (Str × Nat)):∀ {vs:List V} {bs':List (Str × Value)} {sl:Slots} {σ:St} {E:Value -> Shared -> Prop},ps.length = vs.length -> Std C Φ (look ns sl) σ -> ps.all (fun p=>tgt1 Φ.env.scope ns p.1 p.2) = true -> KRel σ.g ((ps.map (·.1)).zip vs) bs' -> ∀ {Q:PUnit -> Shared -> Prop},
  (∀ σ',Ext σ σ' (ownOf Φ.env) -> σ'.g.cs = σ.g.cs -> Std C Φ (look ns (bindP ps vs sl)) σ' -> Q PUnit.unit σ'.s) -> wpAny C.M Φ.A (forIn bs' PUnit.unit fun x _=>do storeName Φ.env x.1 x.2; pure (ForInStep.yield PUnit.unit)) Q E σ.s:=by
 induction ps with
 | nil =>
  intro vs bs' sl σ E _ S _ r Q k
  cases r.nil_of
  exact wpAny_pure (k σ (Ext.refl S.H _) rfl S)
 | cons p ps ih =>
  intro vs bs' sl σ E hl S w r Q k
  cases vs with
  | nil=>cases hl
  | cons v vs =>
   obtain ⟨b,bs',rfl,⟨hn,rv⟩,rr⟩:=r.cons_of
   have w':=(Bool.and_eq_true _ _).mp w
   rw [List.forIn_cons]
   rw [<- show p.1 = b.1 from hn]
   refine wpAny_bind (wpAny_bind (store1 S w'.1 rv (ow:=ownOf Φ.env) (.inl rfl) (fun c hk hc=>.inr ⟨p.1,hk,hc⟩) _ _ fun σ1 X1 c1 S1=>wpAny_pure ?_))
   exact ih (Nat.succ.inj hl) S1 w'.2 (kmono rr X1.le) fun σ2 X2 c2 S2=>k σ2 (X1.trans X2) (c2.trans c1) S2
noncomputable def BindOk (C:Cx) (fd:FuncData) (args:List V) (kws:Kws) (ps:List (Str × Nat)) (vs:List V):Prop :=
 ∀ {σ:St} {args':List Value} {kws':List (Str × Value)},HRel σ.g σ.s.heap -> Base C σ.g -> VRels σ.g args args' -> KRel σ.g kws kws' -> ∃ bs',KRel σ.g ((ps.map (·.1)).zip vs) bs' /\ ∀ (M:Model) (A:Around) (E:Value -> Shared -> Prop) (Q:List (Str × Value) -> Shared -> Prop),Q bs' σ.s -> wpAny M A (bindArgs fd ⟨args',kws'⟩) Q E σ.s
structure NewF (C:Cx) (σ:St) (sc:Scope) (ns:List Str) (sl:Slots) (fenv:Env) (h2:Heap):Prop where
 F:FRel σ.g fenv (look (ownNs sc ++ ns) (List.replicate (ownNs sc).length none ++ sl)) h2
 k12:∀ a o,σ.s.heap.get? a = some o -> h2.get? a = some o
 own0:∀ a,ownOf fenv a -> σ.s.heap.get? a = none
noncomputable abbrev fenvOf (fd:FuncData) (f L:Addr) (cells:List (Str × Addr)):Env:={ scope:=fd.scope,locals:=L,globals:=fd.globals,cells:=cells,qual:=fd.qualname ++ ".<locals>.",func:=some f,code:=fd.code,frame:=some L,builtins:=fd.builtins }
theorem z08 {fd:FuncData} {f:Addr} {sl:Slots} {cells:List (Str × Addr)} {h2:Heap} (hs:fd.scope = sc) (hk:sc.kind = .function) (hg:fd.globals = mainGlobals) (hbl:fd.builtins = builtinsNs) (H:HRel σ.g σ.s.heap) (hc:CloOk σ sc fd.closure ns sl) (CI:CInv sc.names fd.closure cells frameObj0 σ.s.heap h2) :
  NewF C σ sc ns sl (fenvOf fd f σ.s.heap.objs.size cells) h2:=by
 have nL:σ.s.heap.get? σ.s.heap.objs.size = none:=get?_size _
 have e1:(fenvOf fd f σ.s.heap.objs.size cells).scope = sc:=hs
 have kind:∀ x k,(fenvOf fd f σ.s.heap.objs.size cells).kindOf x = some k -> (x,k) ∈ sc.names:=fun x k h=>zbm (show sc.names.lookup x = some k from e1 ▸ h)
 refine ⟨⟨(show fd.scope.kind = .function by rw [hs]; exact hk),hg,hbl,⟨fun _=>none,⟨_,#[],0,CI.l,rfl,fun e he=>(by simp at he),fun _=>rfl⟩,fun x u hx hkx=>?_⟩,H.hf_none nL,fun l hl=>H.ne hl nL,H.nfl nL,fun x hx=>?_,fun x y a hx hy h1 h2=>CI.inj x y a h1 h2⟩,CI.k,fun a ha=>?_⟩
 ·exfalso
  rcases zcj _ _ _ _ List.length_replicate hx with ⟨_,q⟩ | ⟨hn,_⟩
  ·exact nomatch List.eq_of_mem_replicate q
  ·exact hn (zia (kind x _ hkx) rfl)
 ·cases CI.c x with
  | new hm a q1 q2 q3 =>
   refine ⟨a,none,q1,⟨_,q2,rfl⟩,fun u hu=>?_⟩
   rcases zcj _ _ _ _ List.length_replicate hu with ⟨_,q⟩ | ⟨hn,_⟩
   ·exact nomatch List.eq_of_mem_replicate q
   ·exact absurd (zia hm rfl) hn
  | old hm q1 =>
   have hx':(x,NameKind.free) ∈ sc.names:=hx.elim (fun h=>absurd (kind x _ h) hm) (kind x _)
   obtain ⟨c1,w1,e1,⟨o1,ie,id⟩,rv⟩:=hc.free x hx'
   refine ⟨c1,w1,q1.trans e1,⟨o1,CI.k _ _ ie,id⟩,fun u hu=>?_⟩
   rcases zcj _ _ _ _ List.length_replicate hu with ⟨_,q⟩ | ⟨_,q⟩
   ·exact nomatch List.eq_of_mem_replicate q
   ·exact rv u q
 ·rcases ha with rfl | ⟨x,hx,hl⟩
  ·exact nL
  ·cases CI.c x with
   | new hm a' q1 q2 q3=>cases q1.symm.trans hl; exact get?_ge (Nat.le_of_lt q3)
   | old hm q1=>exact absurd (kind x _ hx) hm
structure InFn (C:Cx) (A:Around) (σ:St) (fd:FuncData) (Φ:Fm) (σ3:St):Prop where
 hA:Φ.A = A.deeper Φ.env
 code:Φ.env.code = fd.code
 qual:Φ.env.qual = fd.qualname ++ (".<locals>." : Str)
 fr:Φ.env.frame = some Φ.env.locals
 X:Ext σ σ3 (ownOf Φ.env)
 cs:σ3.g.cs = σ.g.cs
 own0:∀ a,ownOf Φ.env a -> σ.s.heap.get? a = none
theorem zii (L:Lim0 C) {f:Addr} {body:List Stmt} {fd:FuncData} (Fa:FnAt0 C f sc body fd) (O:AOk A (C.d + 1)) (H:HRel σ.g σ.s.heap) (B:Base C σ.g) {ps:List (Str × Nat)} {vs:List V} (hps:ps.length = vs.length)
  {args':List Value} {kws':List (Str × Value)} {sl:Slots} (hb:∀ (Q:List (Str × Value) -> Shared -> Prop) (E:Value -> Shared -> Prop),(∀ bs' σ',Ext σ σ' noOwn -> σ'.g.cs = σ.g.cs -> KRel σ'.g ((ps.map (·.1)).zip vs) bs' -> CloOk σ' sc fd.closure ns sl -> Q bs' σ'.s) -> wpAny C.M A.in1 (bindArgs fd ⟨args',kws'⟩) Q E σ.s)
  (hw:ps.all (fun p=>tgt1 sc (ownNs sc ++ ns) p.1 p.2) = true) {R:Result -> Shared -> Prop}
  (hbody:∀ (Φ:Fm) (σ3:St),Φ.env.scope = sc -> InFn C A σ fd Φ σ3 -> Std C Φ (look (ownNs sc ++ ns) (bindP ps vs (List.replicate (ownNs sc).length none ++ sl))) σ3 ->
   wpAny C.M Φ.A (execs body Φ.env) (fun f s'=>R (.ok (.ret (match f with | .ret v=>v | _=>.none))) s') (fun e s'=>wpAny C.M Φ.A (leaving Φ.env e) (fun _ s''=>R (.error e) s'') (fun e' s''=>R (.error e') s'') s') σ3.s):codeAny C.M A (.call (.ref f) ⟨args',kws'⟩) R σ.s:=by
 obtain ⟨o,ho,hd⟩:=Fa.ho
 obtain ⟨c,oc,vc,tc,c1,c2,c3,c4⟩:=Fa.code
 refine codeAny_call_function (by have:=O.dep; exact zc9 ‹_›) (H.fz _ _ (B.hf _ _ ho)) hd (by rw [Fa.scope]; exact Fa.co) (by rw [Fa.scope]; exact Fa.gen) Fa.body ⟨c,oc,vc,tc,c1,H.fz _ _ (B.hf _ _ c2),c3,c4⟩ (hb _ _ fun bs' σ0 X0 ec hr hc=>?_)
 refine fn_env (fun x a h=>by obtain ⟨w',o',e,_⟩:=hc.live x a h; exact Heap.lt_size e) hc.inj fun cells h2 CI=>?_
 have N:=z08 (C:=C) (f:=f) Fa.scope Fa.kind Fa.glo Fa.blt X0.H hc (Fa.scope ▸ CI)
 have X2:Ext σ0 (σ0.up h2 σ0.s.toks σ0.g) noOwn:=Ext.keeps X0.H N.k12
 have O2:AOk (A.deeper (fenvOf fd f σ0.s.heap.objs.size cells)) C.d:=⟨O.hh,by have:=O.dep; show A.depth + 1 + C.d < _; exact zda ‹_›,by have:=O.un; show A.units + 3 + 100 * C.d + 200 < _; lia⟩
 have Oi:AOk A.in1 C.d:=⟨O.hh,by have:=O.dep; show A.depth + C.d < _; exact znh ‹_›,by have:=O.un; show A.units + 1 + 100 * C.d + 200 < _; lia⟩
 refine zqt (Φ:=⟨A.in1,fenvOf fd f σ0.s.heap.objs.size cells⟩) (σ:=σ0.up h2 σ0.s.toks σ0.g) ps hps ⟨N.F,X2.H,B.le X0.le,Oi⟩ (by rw [show (fenvOf fd f σ0.s.heap.objs.size cells).scope = sc from Fa.scope]; exact hw) hr fun σ3 X3 e3 S3=>?_
 refine ⟨L.at S3.H S3.B,codeAny_func ?_⟩
 have X13:=((X0.trans X2).mono (own':=ownOf (fenvOf fd f σ0.s.heap.objs.size cells)) fun _ z=>z.elim).trans X3
 exact hbody ⟨A.deeper (fenvOf fd f σ0.s.heap.objs.size cells),fenvOf fd f σ0.s.heap.objs.size cells⟩ σ3 Fa.scope ⟨rfl,rfl,rfl,rfl,X13,e3.trans ec,fun a ha=>X0.dead (N.own0 a ha)⟩ ⟨S3.F,S3.H,S3.B,O2⟩
theorem zbl (L:Lim0 C) {f:Addr} {body:List Stmt} {fd:FuncData} (Fa:FnAt0 C f sc body fd) (O:AOk A (C.d + 1)) (H:HRel σ.g σ.s.heap) (B:Base C σ.g) {ps:List (Str × Nat)} {vs:List V} (hps:ps.length = vs.length)
  {args':List Value} {kws' bs':List (Str × Value)} (hb:∀ (M:Model) (A:Around) (E:Value -> Shared -> Prop) (Q:List (Str × Value) -> Shared -> Prop),Q bs' σ.s -> wpAny M A (bindArgs fd ⟨args',kws'⟩) Q E σ.s) (hr:KRel σ.g ((ps.map (·.1)).zip vs) bs')
  {sl:Slots} (hc:CloOk σ sc fd.closure ns sl) (hw:ps.all (fun p=>tgt1 sc (ownNs sc ++ ns) p.1 p.2) = true)
  (hbody:∀ (Φ:Fm) (σ3:St),Φ.env.scope = sc -> InFn C A σ fd Φ σ3 -> Std C Φ (look (ownNs sc ++ ns) (bindP ps vs (List.replicate (ownNs sc).length none ++ sl))) σ3 ->
   XRuns C Φ (ownNs sc ++ ns) σ3 (execs body Φ.env) fun fl _ cs=>K (retOf fl) cs):CRuns C A σ (.ref f) args' kws' K:=fun R k=>by
 refine zii L Fa O H B hps (fun Q E k=>hb _ _ E Q (k bs' σ (Ext.refl H _) rfl hr hc)) hw fun Φ σ3 hsc I S3=>hbody Φ σ3 hsc I S3 _ _ fun fl sl' fv σ4 X4 r4 S4 q4=>?_
 have X14:=(I.X.trans X4).drop_own I.own0
 cases r4 with
 | ret rr=>exact k _ _ σ4 X14 rr q4
 | next=>exact k .none .none σ4 X14 .none q4
 | brk=>exact k .none .none σ4 X14 .none q4
 | cont=>exact k .none .none σ4 X14 .none q4
theorem zc3 {s:Shared} {f:Addr} {o:Obj} {fd:FuncData} (h1:s.heap.get? f = some o) (h2:o.data = .func fd):KeepOk C A s (.ref f):=by
 intro E Q k
 obtain ⟨c,d,dt,sl⟩:=o
 cases (h2:dt = _)
 obtain ⟨kp,_,hl⟩:=PySem.W.keeps_F (M:=C.M) s.heap (q:=f) ⟨c,d,fd,sl,h1⟩
 exact hl.here (k _)
theorem fn_ok {KK:Frag} (F:Facts2 C P KK) (L:LimAt C) {f:Addr} {body:List Stmt} {fd:FuncData} (Fa:FnAt C f sc body fd) {ss:List IS} (hs:(IS.sems P ss).map SD.ast = body) (hw:bwf (IS.sems P ss) sc (ownNs sc ++ []) = true) {ps:List (Str × Nat)} (hp:ps.all (fun p=>tgt1 sc (ownNs sc ++ []) p.1 p.2) = true) {sp:Spec}
  (h:∀ args kws cs K,sp args kws cs K -> ∃ vs,ps.length = vs.length /\ BindOk C fd args kws ps vs /\ den P ss (bindP ps vs (List.replicate (ownNs sc).length none ++ [])) cs fun fl _ cs=>K (retOf fl) cs):FnOk C.up f sp:=by
 intro A σ args kws args' kws' K O H B ra rk q
 have B':Base C σ.g:=⟨B.pr,B.hf,B.fl⟩
 obtain ⟨vs,hl,hb,q⟩:=h args kws _ K q
 obtain ⟨bs',hr,hbb⟩:=hb H B' ra rk
 obtain ⟨o,ho,hd⟩:=Fa.ho
 refine ⟨zc3 (C:=C.up) (H.fz _ _ (B'.hf _ _ ho)) hd,?_⟩
 exact zbl L.l Fa.toFnAt0 O H B' hl hbb hr (by rw [Fa.clo]; exact .nil Fa.nofree) hp fun Φ σ3 hsc I S3=>z2u F hs (L.fm _ _) (hsc ▸ hw) S3 (I.cs ▸ q)
end
end Mine
end
section
namespace Mine
open PySem PySem.SeqAt PySem.W PySem.Calls
noncomputable abbrev Tab:=List (Addr × Spec)
noncomputable def noSpec:Spec:=fun _ _ _ _=>False
noncomputable def mkFn (T:Tab) (a:Addr):Spec:=List.rec noSpec (fun p _ ih=>cond (a == p.1) p.2 ih) T
structure Law where
 globs:List (Str × V)
 cls:Addr
 meths:List (Str × Addr)
 pats:List (Addr × (Nat -> Bool))
noncomputable abbrev Law.prm (l:Law) (T:Tab):Prm:=⟨l.globs,mkFn T,l.cls,l.meths,l.pats⟩
section
variable {C:Cx} {P:Prm} {K:Frag} {l:Law} {T:Tab}
theorem FnOk.less {a:Addr} {f:Spec} (h:FnOk C a f):FnOk C.up a f:=fun O H B ra rk q=>h (O.less (Nat.le_succ _)) H ⟨B.pr,B.hf,B.fl⟩ ra rk q
theorem zbt:FnsOk C (l.prm []):=fun a _ _ _ _ _ _ _ _ _ _ _ _ q=>q.elim
theorem zcm (F:FnsOk C (l.prm T)) (T':Tab) (h:∀ p ∈ T',FnOk C.up p.1 p.2):FnsOk C.up (l.prm (T' ++ T)):=by
 induction T' with
 | nil=>exact fun b=>FnOk.less (F b)
 | cons p T' ih =>
  intro b
  show FnOk C.up b (cond (b == p.1) p.2 (mkFn (T' ++ T) b))
  cases hb:b == p.1 with
  | true=>cases (eq_of_beq hb:b = p.1); exact h p List.mem_cons_self
  | false=>exact ih (fun q hq=>h q (List.mem_cons_of_mem _ hq)) b
structure W0 (C:Cx) (K:Frag):Prop where
 inK:Within C K
 blt:∃ o mb,C.base builtinsNs = some o /\ (∀ h:Heap,h.get? builtinsNs = some o -> h.Ns builtinsNs mb) /\ ∀ x:Str,x ≠ "__name__" -> mb x = bootBuiltins x
 glo:∃ o mg,C.base mainGlobals = some o /\ (∀ h:Heap,h.get? mainGlobals = some o -> h.Ns mainGlobals mg) /\ ∀ x v,nsIn K mainGlobals x = some v -> mg x = v
 lim:Lim0 C
 lo:∃ o,C.base cStatics = some o
 bmain:∃ bm ob,nsIn K mainGlobals "__builtins__" = some (some (.ref bm)) /\ bm ≠ builtinsNs /\ C.base bm = some ob /\ ob.cls = .type "module" /\ ob.dict = some builtinsNs /\ ob.data = .plain
noncomputable def GlobFact (w:World) (K:Frag) (x:Str) (v:V):Prop :=
 (∃ v',nsIn K mainGlobals x = some (some v') /\ ∀ g:Gh,g.pr = w.params -> (∀ a o,K.lookup a = some o -> g.hf a = some o) -> VRel g v v') \/
 (nsIn K mainGlobals x = some none /\ x ≠ "__name__" /\ ∃ v',bootBuiltins x = some v' /\ ∀ g:Gh,VRel g v v')
theorem zf1 (W:W0 C K) {x:Str} {v:V} (h:GlobFact C.w K x v) {A:Around} {env:Env} {σ:St} (hgl:env.globals = mainGlobals) (hbl:env.builtins = builtinsNs) (hk:env.scope.kind = .function) (hx:env.kindOf x = some .globalImplicit) (H:HRel σ.g σ.s.heap) (B:Base C σ.g)
  {Q:Value -> Shared -> Prop} {E:Value -> Shared -> Prop} (q:∀ v',VRel σ.g v v' -> Q v' σ.s):wpAny C.M A (loadName env x) Q E σ.s:=by
 obtain ⟨og,mg,g1,g2,g3⟩:=W.glo
 have hns:σ.s.heap.Ns env.globals mg:=by rw [hgl]; exact g2 _ (H.fz _ _ (B.hf _ _ g1))
 rw [PyProof.Rows.loadName_read hk hx]
 rcases h with ⟨v',n1,n2⟩ | ⟨n1,n2,v',n3,n4⟩
 ·exact loadGlobal_global hns (g3 _ _ n1) (q v' (n2 σ.g B.pr fun a o e=>B.hf _ _ (W.inK.sub a o e)))
 ·obtain ⟨ob,mb,b1,b2,b3⟩:=W.blt
  have hnb:σ.s.heap.Ns env.builtins mb:=by rw [hbl]; exact b2 _ (H.fz _ _ (B.hf _ _ b1))
  exact loadGlobal_builtin hns (g3 _ _ n1) hnb ((b3 x n2).trans n3) (q v' (n4 σ.g))
theorem z18 (W:W0 C K) {x:Str} {v:V} (h:GlobFact C.w K x v):GlobAt C x v :=
 fun _ σ _ hgl hbl hk hx H B q _ _ k=>zf1 W h hgl hbl hk hx H B fun v' r=>k v v' σ (Ext.refl H _) r q
structure LawOk (C:Cx) (K:Frag) (l:Law):Prop where
 W:W0 C K
 globs:∀ p ∈ l.globs,GlobFact C.w K p.1 p.2
 cf:ClsFacts K (l.prm [])
 pats:PatsOk C (l.prm [])
theorem zdf (O:LawOk C K l) (Fn:FnsOk C (l.prm T)):Facts2 C (l.prm T) K :=
 have cf:ClsFacts K (l.prm T):=⟨O.cf.noSeq,O.cf.hga,O.cf.hk,O.cf.meth,O.cf.hd,O.cf.hn,O.cf.hs,O.cf.hp,O.cf.ht,O.cf.hh⟩
 ⟨⟨O.W.lo,fun x v h=>z18 O.W (O.globs _ h),Fn,zvv (P:=l.prm T) (fun a bad h=>O.pats a bad h),ztc O.W.inK cf,zxv O.W.inK cf⟩,O.W.inK,cf⟩
noncomputable def makeSpec (P:Prm) (init:Addr):Spec:=fun args kws cs K=>P.fn init (.ref (cs.length + 1) :: args) kws (cs ++ [.attr none,.inst P.cls cs.length]) fun v cs'=>v = .none /\ K (.ref (cs.length + 1)) cs'
theorem z1e (W:W0 C K) (Fn:FnsOk C P) {init:Addr} (hm:makesIn K P.cls = true) (hi:findIn K (.ref P.cls) "__init__" = some (some (.ref init))) (hf:typeIn K (.ref init) = some (.type "function"))
  (hk:∀ S:Setting,(peek K S (keeperOf (.ref P.cls))).isSome = true):FnOk C.up P.cls (makeSpec P init):=by
 intro A σ args kws args' kws' KK O H B ra rk e
 have B':Base C σ.g:=⟨B.pr,B.hf,B.fl⟩
 have X:=inK W.inK H B'
 refine ⟨fun E Q k=>?_,fun R k=>?_⟩
 ·obtain ⟨kp,hkp⟩:=Option.isSome_iff_exists.mp (hk ⟨C.prog,C.w.params⟩)
  exact (Looks.of_peek (M:=C.M) X hkp).here (k kp)
 ·have nd:σ.s.heap.get? σ.s.heap.objs.size = none:=get?_size _
  let h1:=σ.s.heap.push emptyDict
  let d:=σ.s.heap.objs.size
  have ed:h1.get? d = some emptyDict:=Heap.get?_push_size _ rfl
  let σ1:St:=σ.up h1 σ.s.toks (σ.g.grow d (.attr none))
  have X1:Ext σ σ1 noOwn:=Ext.grow H (fun a o e=>Heap.get?_push_of_some _ e) nd ⟨#[],0,ed⟩
  have nx:h1.get? h1.objs.size = none:=get?_size _
  let x:=h1.objs.size
  let σ2:St:=σ1.up (h1.push (PySem.W.instObj P.cls d)) σ.s.toks (σ1.g.grow x (.inst P.cls σ.g.cs.length))
  have l1:σ1.g.cs.length = σ.g.cs.length + 1:=zcl ..
  have hd:σ2.g.ρ σ.g.cs.length = d:=((Le.grow σ1.g x _).ρ _ (l1 ▸ Nat.lt_succ_self _)).trans (grow_ρ ..)
  have X2:Ext σ1 σ2 noOwn:=Ext.grow X1.H (fun a o e=>Heap.get?_push_of_some _ e) nx ⟨by rw [zcl,l1]; exact Nat.lt_succ_of_lt (Nat.lt_succ_self _),by
   rw [show ((σ1.g.grow x (.inst P.cls σ.g.cs.length)).ρ σ.g.cs.length) = d from hd]
   exact Heap.get?_push_size _ rfl⟩
  have hx:σ2.g.ρ (σ.g.cs.length + 1) = x:=by rw [<- l1]; exact grow_ρ ..
  have rself:VRel σ2.g (.ref (σ.g.cs.length + 1)) (.ref x):=.ref' (by rw [show σ2.g.cs.length = _ from zcl ..,l1]; exact Nat.lt_succ_self _) hx
  have ec:σ2.g.cs = σ.g.cs ++ [.attr none,.inst P.cls σ.g.cs.length]:=List.append_assoc ..
  have O':AOk (A.under (.builtin "type.__call__" ⟨.ref P.cls :: args',kws'⟩)) C.d:=⟨O.hh,by have:A.depth + (C.d + 1) < recursionLimit:=O.dep; show A.depth + 1 + C.d < _; exact zda ‹_›,by have:A.units + 100 * (C.d + 1) + 200 < cLine:=O.un; show A.units + 1 + 100 * C.d + 200 < _; lia⟩
  have X12:=X1.trans X2
  have run:=(Fn init (σ:=σ2) O' X2.H (B'.le X12.le) (.cons rself (vmono ra X12.le)) (kmono rk X12.le) (by rw [ec]; exact e)).2
  have hxs:x = σ.s.heap.objs.size + 1:=Heap.size_push ..
  refine make_core (makes_of X hm) (looks_findIn X hi) (fun self=>bind_fn X self hf) (.inl rfl) ?_
  rw [<- hxs]
  refine run _ fun v a σ3 X3 rv q=>?_
  obtain ⟨rfl,q⟩:=q
  cases rv.inv
  exact ⟨rfl,k _ (.ref x) σ3 (X12.trans X3) (rself.mono X3.le) q⟩
end
noncomputable def view:Stmt -> List (List Stmt) × Scope
 | .FunctionDef _ _ b _ _ _ sc _ _ _=>([b],sc)
 | .ClassDef _ _ _ b _ _ _ _ _ _ _=>([b],default)
 | .If _ a b _=>([a,b],default)
 | .For _ _ a _ _=>([a],default)
 | _=>([],default)
noncomputable def kid (k:Nat) (s:Stmt):List Stmt:=(view s).1.getD k []
noncomputable def bodyOf (s:Stmt):List Stmt:=kid 0 s
noncomputable def scopeOf (s:Stmt):Scope:=(view s).2
noncomputable def stAt (p:Program) (k:Nat):Stmt:=p.main.body.getD k default
noncomputable def methAt (p:Program) (k j:Nat):Stmt:=(kid 0 (stAt p k)).getD j default
noncomputable def thenOf (s:Stmt):List Stmt:=kid 0 s
noncomputable def loopOf (s:Stmt):List Stmt:=kid 0 s
noncomputable abbrev S (x:String):Str:=Str.ofString x
noncomputable def fnD (d:Data):Option FuncData:=match d with
 | .func fd=>some fd
 | _=>none
noncomputable def flD (d:Data):Option (Array Value):=match d with
 | .fields vs=>some vs
 | _=>none
noncomputable def txV (v:Value):Option Str:=match v with
 | .str q _=>some q
 | _=>none
theorem fnD_at {d:Data} {fd:FuncData} (h:fnD d = some fd):d = .func fd:=by
 unfold fnD at h
 split at h
 ·cases h; rfl
 ·cases h
theorem flD_at {d:Data} {vs:Array Value} (h:flD d = some vs):d = .fields vs:=by
 unfold flD at h
 split at h
 ·cases h; rfl
 ·cases h
theorem txV_at {v:Value} {q:Str} (h:txV v = some q):∃ t,v = .str q t:=by
 unfold txV at h
 split at h
 ·cases h; exact ⟨_,rfl⟩
 ·cases h
noncomputable def fdO (K:Frag) (a:Addr):Option FuncData:=(K.lookup a).bind fun o=>fnD o.data
noncomputable def cqO (K:Frag) (c:Addr):Option Str:=((K.lookup c).bind fun o=>flD o.data).bind fun vs=>(vs[1]?:Option Value).bind txV
theorem zm3 {K:Frag} {a:Addr} {fd:FuncData} (h:fdO K a = some fd):∃ o,K.lookup a = some o /\ o.data = .func fd:=by
 obtain ⟨o,h1,h2⟩:=Option.bind_eq_some_iff.mp h
 exact ⟨o,h1,fnD_at h2⟩
theorem zai {α β:Type} {o:Option α} {f:α -> β} {a:α} {b:β} (h:o = some a) (e:o.map f = some b):f a = b:=by
 rw [h] at e
 exact Option.some.inj e
structure FnK (K:Frag) (a:Addr) (F:Stmt):Prop where
 e:(fdO K a).map (fun fd=>((fd.scope,fd.body),(fd.globals,fd.builtins),(fd.closure,fd.code))) = some ((scopeOf F,.stmts (bodyOf F)),(mainGlobals,builtinsNs),([],.ref (a - 1)))
 c:cqO K (a - 1) = (fdO K a).map (·.qualname)
section
variable {K:Frag} {a:Addr} {F:Stmt} (h:FnK K a F)
include h
theorem FnK.i:(fdO K a).isSome = true:=by
 have q:=congrArg Option.isSome h.e
 rw [Option.isSome_map] at q
 exact q
theorem FnK.pick {β:Type} (f:((Scope × FuncBody) × (Addr × Addr) × (List (Str × Addr) × Value)) -> β):(fdO K a).map (fun fd=>f ((fd.scope,fd.body),(fd.globals,fd.builtins),(fd.closure,fd.code))) = some (f ((scopeOf F,.stmts (bodyOf F)),(mainGlobals,builtinsNs),([],.ref (a - 1)))):=by
 have q:=congrArg (Option.map f) h.e
 rw [Option.map_map] at q
 exact q
theorem FnK.s:(fdO K a).map (·.scope) = some (scopeOf F):=h.pick fun p=>p.1.1
theorem FnK.b:(fdO K a).map (·.body) = some (.stmts (bodyOf F)):=h.pick fun p=>p.1.2
theorem FnK.g:(fdO K a).map (·.globals) = some mainGlobals:=h.pick fun p=>p.2.1.1
theorem FnK.u:(fdO K a).map (·.builtins) = some builtinsNs:=h.pick fun p=>p.2.1.2
theorem FnK.k:(fdO K a).map (·.closure) = some []:=h.pick fun p=>p.2.2.1
theorem zjw {fd:FuncData} (hf:fdO K a = some fd):∃ c oc vs t,fd.code = .ref c /\ K.lookup c = some oc /\ oc.data = .fields vs /\ (vs[1]?:Option Value) = some (.str fd.qualname t):=by
 have q:=h.c
 rw [hf] at q
 obtain ⟨vs,h1,h2⟩:=Option.bind_eq_some_iff.mp q
 obtain ⟨oc,h3,h4⟩:=Option.bind_eq_some_iff.mp h1
 obtain ⟨v,h5,h6⟩:=Option.bind_eq_some_iff.mp h2
 obtain ⟨t,rfl⟩:=txV_at h6
 exact ⟨_,oc,vs,t,zai hf (h.pick fun p=>p.2.2.2),h3,flD_at h4,h5⟩
end
noncomputable def nfree (sc:Scope):Bool:=sc.names.all fun p=>!isFree p.2
structure Tx (P:Prm) (F:Stmt) (ss:List IS) (ps:List (Str × Nat)):Prop where
 ast:(IS.sems P ss).map SD.ast = bodyOf F
 wf:bwf (IS.sems P ss) (scopeOf F) (ownNs (scopeOf F) ++ []) = true
 par:ps.all (fun p=>tgt1 (scopeOf F) (ownNs (scopeOf F) ++ []) p.1 p.2) = true
 kind:(scopeOf F).kind = .function
 co:(scopeOf F).isCoroutine = false
 gen:(scopeOf F).isGenerator = false
 nf:nfree (scopeOf F) = true
section
variable {C:Cx} {P:Prm} {K:Frag} {a:Addr} {F:Stmt} {ss:List IS} {ps:List (Str × Nat)} {fd:FuncData}
theorem zsg (W:Within C K) (Fk:FnK K a F) (T:Tx P F ss ps) (h:fdO K a = some fd):FnAt C a (scopeOf F) (bodyOf F) fd:=by
 obtain ⟨o,e1,e2⟩:=zm3 h
 obtain ⟨c,oc,vs,t,q1,q2,q3,q4⟩:=zjw Fk h
 refine ⟨⟨⟨o,W.sub _ _ e1,e2⟩,zai h Fk.s,zai h Fk.b,zai h Fk.g,zai h Fk.u,T.co,T.gen,T.kind,c,oc,vs,t,q1,W.sub _ _ q2,q3,q4⟩,zai h Fk.k,fun x hx=>?_⟩
 have:=List.all_eq_true.mp T.nf _ hx
 cases this
noncomputable def Binds (K:Frag) (a:Addr) (ps:List (Str × Nat)) (args:List V) (kws:Kws) (vs:List V):Prop:=∀ {C:Cx} {fd:FuncData},Within C K -> fdO K a = some fd -> BindOk C fd args kws ps vs
theorem fn_of {sp:Spec} (F2:Facts2 C P K) (L:LimAt C) (Fk:FnK K a F) (T:Tx P F ss ps)
  (h:∀ args kws cs K',sp args kws cs K' -> ∃ vs,ps.length = vs.length /\ Binds K a ps args kws vs /\ den P ss (bindP ps vs (List.replicate (ownNs (scopeOf F)).length none ++ [])) cs fun fl _ cs=>K' (retOf fl) cs):FnOk C.up a sp:=by
 obtain ⟨fd,hf⟩:=Option.isSome_iff_exists.mp Fk.i
 refine fn_ok F2 L (zsg F2.W Fk T hf) T.ast T.wf T.par fun args kws cs K' q=>?_
 obtain ⟨vs,h1,h2,h3⟩:=h args kws cs K' q
 exact ⟨vs,h1,h2 F2.W hf,h3⟩
theorem binds1 {n:Str} {i:Nat} {x:V} (h:∀ v:Value,(fdO K a).map (fun fd=>bindArgs fd ⟨[v],[]⟩) = some (pure [(n,v)])):Binds K a [(n,i)] [x] [] [x]:=by
 intro C fd W hf σ args' kws' H B ra rk
 cases rk.nil_of
 obtain ⟨v,rfl,r⟩:=ra.one
 exact ⟨_,.cons ⟨rfl,r⟩ .nil,fun M A E Q k=>by rw [zai hf (h v)]; exact wpAny_pure k⟩
theorem binds2 {n m:Str} {i j:Nat} {x y:V} (h:∀ v u:Value,(fdO K a).map (fun fd=>bindArgs fd ⟨[v,u],[]⟩) = some (pure [(n,v),(m,u)])):Binds K a [(n,i),(m,j)] [x,y] [] [x,y]:=by
 intro C fd W hf σ args' kws' H B ra rk
 cases rk.nil_of
 obtain ⟨v,u,rfl,r,r2⟩:=ra.two
 exact ⟨_,.cons ⟨rfl,r⟩ (.cons ⟨rfl,r2⟩ .nil),fun M A E Q k=>by rw [zai hf (h v u)]; exact wpAny_pure k⟩
theorem binds3 {n m l:Str} {i j k:Nat} {x y z:V} (h:∀ v u t:Value,(fdO K a).map (fun fd=>bindArgs fd ⟨[v,u,t],[]⟩) = some (pure [(n,v),(m,u),(l,t)])):Binds K a [(n,i),(m,j),(l,k)] [x,y,z] [] [x,y,z]:=by
 intro C fd W hf σ args' kws' H B ra rk
 cases rk.nil_of
 obtain ⟨v,u,t,rfl,r,r2,r3⟩:=ra.three
 exact ⟨_,.cons ⟨rfl,r⟩ (.cons ⟨rfl,r2⟩ (.cons ⟨rfl,r3⟩ .nil)),fun M A E Q k=>by rw [zai hf (h v u t)]; exact wpAny_pure k⟩
theorem bindsK {n m l:Str} {i j k:Nat} {x y z:V} (h:∀ v u t:Value,(fdO K a).map (fun fd=>bindArgs fd ⟨[v,u],[(l,t)]⟩) = some (pure [(n,v),(m,u),(l,t)])):Binds K a [(n,i),(m,j),(l,k)] [x,y] [(l,z)] [x,y,z]:=by
 intro C fd W hf σ args' kws' H B ra rk
 obtain ⟨⟨l',t⟩,rfl,hl,r3⟩:=rk.one
 cases (hl:l = l')
 obtain ⟨v,u,rfl,r,r2⟩:=ra.two
 exact ⟨_,.cons ⟨rfl,r⟩ (.cons ⟨rfl,r2⟩ (.cons ⟨rfl,r3⟩ .nil)),fun M A E Q k=>by rw [zai hf (h v u t)]; exact wpAny_pure k⟩
theorem bindsP2 {n m:Str} {i j:Nat} {x y:V} (h:∀ (v u:Value) (S:Setting),(fdO K a).map (fun fd=>peek K S (bindArgs fd ⟨[v,u],[]⟩)) = some (some [(n,v),(m,u)])):Binds K a [(n,i),(m,j)] [x,y] [] [x,y]:=by
 intro C fd W hf σ args' kws' H B ra rk
 cases rk.nil_of
 obtain ⟨v,u,rfl,r,r2⟩:=ra.two
 exact ⟨_,.cons ⟨rfl,r⟩ (.cons ⟨rfl,r2⟩ .nil),fun M A E Q k=>kp_binds (inK W H B) (fun S=>zai (f:=fun fd=>peek K S (bindArgs fd ⟨[v,u],[]⟩)) hf (h v u S)) M A E Q k⟩
theorem bindsD2 {n m:Str} {i j:Nat} {x:V} (h:∀ (v:Value) (S:Setting),(fdO K a).map (fun fd=>peek K S (bindArgs fd ⟨[v],[]⟩)) = some (some [(n,v),(m,.none)])):Binds K a [(n,i),(m,j)] [x] [] [x,.none]:=by
 intro C fd W hf σ args' kws' H B ra rk
 cases rk.nil_of
 obtain ⟨v,rfl,r⟩:=ra.one
 exact ⟨_,.cons ⟨rfl,r⟩ (.cons ⟨rfl,.none⟩ .nil),fun M A E Q k=>kp_binds (inK W H B) (fun S=>zai (f:=fun fd=>peek K S (bindArgs fd ⟨[v],[]⟩)) hf (h v S)) M A E Q k⟩
theorem bindsD3 {n m l:Str} {i j k:Nat} {x y:V} (h:∀ (v u:Value) (S:Setting),(fdO K a).map (fun fd=>peek K S (bindArgs fd ⟨[v,u],[]⟩)) = some (some [(n,v),(m,u),(l,.none)])):Binds K a [(n,i),(m,j),(l,k)] [x,y] [] [x,y,.none]:=by
 intro C fd W hf σ args' kws' H B ra rk
 cases rk.nil_of
 obtain ⟨v,u,rfl,r,r2⟩:=ra.two
 exact ⟨_,.cons ⟨rfl,r⟩ (.cons ⟨rfl,r2⟩ (.cons ⟨rfl,.none⟩ .nil)),fun M A E Q k=>kp_binds (inK W H B) (fun S=>zai (f:=fun fd=>peek K S (bindArgs fd ⟨[v,u],[]⟩)) hf (h v u S)) M A E Q k⟩
end
noncomputable def Sp {α:Type} (enc:α -> List V) (kn:List Str) (kv:α -> List V) (R:α -> List Cell -> KV -> Prop):Spec:=fun args kws cs K=>∃ x,args = enc x /\ kws = kn.zip (kv x) /\ R x cs K
noncomputable def noKw {α:Type}:α -> List V:=fun _=>[]
noncomputable def den0 (P:Prm) (ss:List IS) (sl:Slots) (cs:List Cell) (K:KV):Prop:=bden (IS.sems P ss) sl cs fun fl _ cs=>K (retOf fl) cs
noncomputable abbrev Bd1 (K:Frag) (a:Addr) (n:Str):Prop:=∀ v:Value,(fdO K a).map (fun fd=>bindArgs fd ⟨[v],[]⟩) = some (pure [(n,v)])
noncomputable abbrev Bd2 (K:Frag) (a:Addr) (n m:Str):Prop:=∀ v u:Value,(fdO K a).map (fun fd=>bindArgs fd ⟨[v,u],[]⟩) = some (pure [(n,v),(m,u)])
noncomputable abbrev Bd3 (K:Frag) (a:Addr) (n m l:Str):Prop:=∀ v u t:Value,(fdO K a).map (fun fd=>bindArgs fd ⟨[v,u,t],[]⟩) = some (pure [(n,v),(m,u),(l,t)])
noncomputable abbrev BdK (K:Frag) (a:Addr) (n m l:Str):Prop:=∀ v u t:Value,(fdO K a).map (fun fd=>bindArgs fd ⟨[v,u],[(l,t)]⟩) = some (pure [(n,v),(m,u),(l,t)])
noncomputable abbrev BdP2 (K:Frag) (a:Addr) (n m:Str):Prop:=∀ (v u:Value) (S:Setting),(fdO K a).map (fun fd=>peek K S (bindArgs fd ⟨[v,u],[]⟩)) = some (some [(n,v),(m,u)])
noncomputable abbrev BdD2 (K:Frag) (a:Addr) (n m:Str):Prop:=∀ (v:Value) (S:Setting),(fdO K a).map (fun fd=>peek K S (bindArgs fd ⟨[v],[]⟩)) = some (some [(n,v),(m,.none)])
noncomputable abbrev BdD3 (K:Frag) (a:Addr) (n m l:Str):Prop:=∀ (v u:Value) (S:Setting),(fdO K a).map (fun fd=>peek K S (bindArgs fd ⟨[v,u],[]⟩)) = some (some [(n,v),(m,u),(l,.none)])
section
variable {C:Cx} {P:Prm} {K:Frag} {a:Addr} {F:Stmt} {ss:List IS} {α:Type} {R:α -> List Cell -> KV -> Prop} {sl:α -> Slots}
theorem fn_sp {ps:List (Str × Nat)} {enc:α -> List V} {kn:List Str} {kv:α -> List V} (vs:α -> List V) (F2:Facts2 C P K) (L:LimAt C) (Fk:FnK K a F) (T:Tx P F ss ps) (hl:∀ x,ps.length = (vs x).length) (B:∀ x,Binds K a ps (enc x) (kn.zip (kv x)) (vs x)) (hs:∀ x,bindP ps (vs x) (List.replicate (ownNs (scopeOf F)).length none ++ []) = sl x) (h:∀ x cs K',R x cs K' -> den0 P ss (sl x) cs K'):FnOk C.up a (Sp enc kn kv R) :=
 fn_of F2 L Fk T fun args kws cs K' q=>by
  obtain ⟨x,rfl,rfl,q⟩:=q
  exact ⟨vs x,hl x,B x,by rw [hs]; exact h x cs K' q⟩
section
variable {n m l:Str} {i j k:Nat} {e1 e2 e3:α -> V} (F2:Facts2 C P K) (L:LimAt C) (Fk:FnK K a F)
include F2 L Fk
theorem fn1 (T:Tx P F ss [(n,i)]) (B:Bd1 K a n) (hs:∀ x,bindP [(n,i)] [e1 x] (List.replicate (ownNs (scopeOf F)).length none ++ []) = sl x) (h:∀ x cs K',R x cs K' -> den0 P ss (sl x) cs K'):FnOk C.up a (Sp (fun x=>[e1 x]) [] noKw R):=fn_sp (fun x=>[e1 x]) F2 L Fk T (fun _=>rfl) (fun _=>binds1 B) hs h
theorem fn2 (T:Tx P F ss [(n,i),(m,j)]) (B:Bd2 K a n m) (hs:∀ x,bindP [(n,i),(m,j)] [e1 x,e2 x] (List.replicate (ownNs (scopeOf F)).length none ++ []) = sl x) (h:∀ x cs K',R x cs K' -> den0 P ss (sl x) cs K'):FnOk C.up a (Sp (fun x=>[e1 x,e2 x]) [] noKw R):=fn_sp (fun x=>[e1 x,e2 x]) F2 L Fk T (fun _=>rfl) (fun _=>binds2 B) hs h
theorem fn3 (T:Tx P F ss [(n,i),(m,j),(l,k)]) (B:Bd3 K a n m l) (hs:∀ x,bindP [(n,i),(m,j),(l,k)] [e1 x,e2 x,e3 x] (List.replicate (ownNs (scopeOf F)).length none ++ []) = sl x) (h:∀ x cs K',R x cs K' -> den0 P ss (sl x) cs K'):FnOk C.up a (Sp (fun x=>[e1 x,e2 x,e3 x]) [] noKw R):=fn_sp (fun x=>[e1 x,e2 x,e3 x]) F2 L Fk T (fun _=>rfl) (fun _=>binds3 B) hs h
theorem fnK (T:Tx P F ss [(n,i),(m,j),(l,k)]) (B:BdK K a n m l) (hs:∀ x,bindP [(n,i),(m,j),(l,k)] [e1 x,e2 x,e3 x] (List.replicate (ownNs (scopeOf F)).length none ++ []) = sl x) (h:∀ x cs K',R x cs K' -> den0 P ss (sl x) cs K'):FnOk C.up a (Sp (fun x=>[e1 x,e2 x]) [l] (fun x=>[e3 x]) R):=fn_sp (fun x=>[e1 x,e2 x,e3 x]) F2 L Fk T (fun _=>rfl) (fun _=>bindsK B) hs h
theorem fnP2 (T:Tx P F ss [(n,i),(m,j)]) (B:BdP2 K a n m) (hs:∀ x,bindP [(n,i),(m,j)] [e1 x,e2 x] (List.replicate (ownNs (scopeOf F)).length none ++ []) = sl x) (h:∀ x cs K',R x cs K' -> den0 P ss (sl x) cs K'):FnOk C.up a (Sp (fun x=>[e1 x,e2 x]) [] noKw R):=fn_sp (fun x=>[e1 x,e2 x]) F2 L Fk T (fun _=>rfl) (fun _=>bindsP2 B) hs h
theorem fnD2 (T:Tx P F ss [(n,i),(m,j)]) (B:BdD2 K a n m) (hs:∀ x,bindP [(n,i),(m,j)] [e1 x,.none] (List.replicate (ownNs (scopeOf F)).length none ++ []) = sl x) (h:∀ x cs K',R x cs K' -> den0 P ss (sl x) cs K'):FnOk C.up a (Sp (fun x=>[e1 x]) [] noKw R):=fn_sp (fun x=>[e1 x,.none]) F2 L Fk T (fun _=>rfl) (fun _=>bindsD2 B) hs h
theorem fnD3 (T:Tx P F ss [(n,i),(m,j),(l,k)]) (B:BdD3 K a n m l) (hs:∀ x,bindP [(n,i),(m,j),(l,k)] [e1 x,e2 x,.none] (List.replicate (ownNs (scopeOf F)).length none ++ []) = sl x) (h:∀ x cs K',R x cs K' -> den0 P ss (sl x) cs K'):FnOk C.up a (Sp (fun x=>[e1 x,e2 x]) [] noKw R):=fn_sp (fun x=>[e1 x,e2 x,.none]) F2 L Fk T (fun _=>rfl) (fun _=>bindsD3 B) hs h
end
end
section
variable {cs:List Cell} {n:Nat} {K:KB} {P:Prm} {KK:KV}
theorem EqR.strT {x y:Str} (h:x = y):EqR cs n (.str x) (.str y) true:=decide_eq_true h ▸ EqR.str n x y
theorem EqR.strF {x y:Str} (h:x ≠ y):EqR cs n (.str x) (.str y) false:=decide_eq_false h ▸ EqR.str n x y
theorem EqR.intT {x y:Int} (h:x = y):EqR cs n (.int x) (.int y) true:=decide_eq_true h ▸ EqR.int n x y
theorem EqR.intF {x y:Int} (h:x ≠ y):EqR cs n (.int x) (.int y) false:=decide_eq_false h ▸ EqR.int n x y
theorem zxy (l:List Nat):l.all (fun _=>true) = true:=List.all_eq_true.mpr fun _ _=>rfl
theorem EqR.two {k:Bool} {u v a b c d:V} {r0 r1 r:Bool} (hu:SeqR cs u k [a,b]) (hv:SeqR cs v k [c,d]) (h0:EqR cs n a c r0) (h1:EqR cs n b d r1) (e:(r0 && r1) = r):EqR cs (n + 1) u v r:=by
 have h:=EqR.seq (fun j=>Nat.rec r0 (fun _ _=>r1) j) hu hv (fun j x y hx hy=>by
  cases j with
  | zero=>cases hx; cases hy; exact h0
  | succ j =>
   cases j with
   | zero=>cases hx; cases hy; exact h1
   | succ j=>cases hx)
 have q:((r0 && (r1 && true)) && true) = r:=by rw [Bool.and_true,Bool.and_true]; exact e
 exact q ▸ h
theorem EqR.allT {k:Bool} {u v:V} {xs ys:List V} (hu:SeqR cs u k xs) (hv:SeqR cs v k ys) (h:All2 (fun x y=>EqR cs n x y true) xs ys):EqR cs (n + 1) u v true:=by
 have q:=EqR.seq (fun _=>true) hu hv fun j x y hx hy=>by
  obtain ⟨z,hz,r⟩:=h.get hx
  cases hz.symm.trans hy
  exact r
 rw [zxy,h.length,beq_self_eq_true] at q
 exact q
theorem zie {g:Gh} {i j:Int} {y:Value} (r:VRel g (.int i) y) (s:VRel g (.int j) y):i = j:=by
 obtain ⟨t,rfl⟩:=r.inv
 obtain ⟨_,q⟩:=s.inv
 cases q; rfl
theorem zjs {α:Type} [DecidableEq α] (enc:α -> V) {p:α} (he:∀ q,EqR cs 8 (enc q) (enc p) (decide (q = p))) (hi:∀ (g:Gh) q z y,VRel g (enc q) y -> VRel g (enc z) y -> q = z) (l:List α):Fnd cs (l.map enc) (enc p) fun j=>decide (l[j]? = some p):=by
 have get:∀ (j:Nat) x,(l.map enc)[j]? = some x -> ∃ q,l[j]? = some q /\ enc q = x:=fun j x h=>by
  rw [List.getElem?_map] at h
  exact Option.map_eq_some_iff.mp h
 refine ⟨fun j x h=>?_,fun g j k x z y h1 h2 r s=>?_⟩
 ·obtain ⟨q,e,rfl⟩:=get j x h
  rw [e,show decide (some q = some p) = decide (q = p) from decide_eq_decide.mpr ⟨Option.some.inj,congrArg some⟩]
  exact he q
 ·obtain ⟨q,e,rfl⟩:=get j x h1
  obtain ⟨q2,e2,rfl⟩:=get k z h2
  rw [e,e2,hi g q q2 y r s]
theorem z2c (l:List Int) (p:Int):Fnd cs (l.map .int) (.int p) fun j=>decide (l[j]? = some p):=zjs .int (fun q=>.int _ _ _) (fun _ _ _ _=>zie) l
theorem zsd (l:List Str) (p:Str):Fnd cs (l.map .str) (.str p) fun j=>decide (l[j]? = some p):=zjs .str (fun q=>.str _ _ _) (fun g q z y r s=>by
 obtain ⟨t,rfl,_⟩:=r.inv
 obtain ⟨_,e,_⟩:=s.inv
 cases e; rfl) l
theorem CmpR.inI {b:Bool} {o:V} {l:List Int} {p:Int} {r:Bool} (ho:SeqR cs o b (l.map .int)) (e:decide (p ∈ l) = r) (q:K r cs):CmpR cs K .In (.int p) o:=by
 refine .inL _ ho (z2c l p) ?_
 have h:(List.range (l.map V.int).length).any (fun j=>decide (l[j]? = some p)) = r:=by
  rw [<- e,Bool.eq_iff_iff,List.any_eq_true,decide_eq_true_iff,List.length_map]
  exact ⟨fun ⟨j,_,h⟩=>List.mem_of_getElem? (of_decide_eq_true h),fun h=>by
   obtain ⟨j,hj,e⟩:=List.getElem_of_mem h
   exact ⟨j,List.mem_range.mpr hj,decide_eq_true (by rw [List.getElem?_eq_getElem hj,e])⟩⟩
 rw [h]
 exact q
theorem zv0 {g:Gh} {xs zs:List V} {y:Value} (r:VRel g (.lst xs) y) (s:VRel g (.lst zs) y):∃ vs,VRels g xs vs /\ VRels g zs vs:=by
 obtain ⟨a,vs,ep,rfl,h,q,_⟩:=r.inv
 obtain ⟨b,us,ep2,e,h2,q2,_⟩:=s.inv
 cases e
 cases Option.some.inj (h.symm.trans h2)
 exact ⟨_,q,q2⟩
theorem zue {g:Gh} {xs zs:List V} {y:Value} (r:VRel g (.tup xs) y) (s:VRel g (.tup zs) y):∃ vs,VRels g xs vs /\ VRels g zs vs:=by
 obtain ⟨a,vs,ep,rfl,h,q,_⟩:=r.inv
 obtain ⟨b,us,ep2,e,h2,q2,_⟩:=s.inv
 cases e
 cases Option.some.inj (h.symm.trans h2)
 exact ⟨_,q,q2⟩
theorem CmpR.ltT {i j:Int} (h:i < j) (k:K true cs):CmpR cs K .Lt (.int i) (.int j):=.lt ((decide_eq_true h).symm ▸ k)
theorem CmpR.ltF {i j:Int} (h:¬ i < j) (k:K false cs):CmpR cs K .Lt (.int i) (.int j):=.lt ((decide_eq_false h).symm ▸ k)
theorem CmpR.geT {i j:Int} (h:j <= i) (k:K true cs):CmpR cs K .GtE (.int i) (.int j):=.ge ((decide_eq_true h).symm ▸ k)
theorem CmpR.geF {i j:Int} (h:¬ j <= i) (k:K false cs):CmpR cs K .GtE (.int i) (.int j):=.ge ((decide_eq_false h).symm ▸ k)
theorem zac {α:Type} {a:Addr} {enc:α -> List V} {kn:List Str} {kv:α -> List V} {R:α -> List Cell -> KV -> Prop} (h:P.fn a = Sp enc kn kv R) (x:α) (q:R x cs KK):CallR P cs KK (.adr a) (enc x) (kn.zip (kv x)):=.fn (by rw [h]; exact ⟨x,rfl,rfl,q⟩)
end
section
variable {t:Tgt} {body:Slots -> List Cell -> KF -> Prop} {K:KF} {src src':Src} {sl sl1:Slots} {cs:List Cell} {v:V}
theorem ForR.go (e:NextR cs src v src') (b:t.bind v sl = some sl1) (h:body sl1 cs fun fl sl' cs'=>Fl.rec (ForR t body K src' sl' cs') (K .next sl' cs') (ForR t body K src' sl' cs') (fun v=>K (.ret v) sl' cs') fl):ForR t body K src sl cs :=
 .step _ e b h (fun fl sl' cs' hg hm=>by cases fl <;> first | exact hm | cases hg) (fun fl sl' cs' hg hm=>by cases fl <;> first | exact hm | cases hg)
theorem CompR.go {γ:Type} {tests:Slots -> List Cell -> KB -> Prop} {emit:γ -> Slots -> List Cell -> (γ -> List Cell -> Prop) -> Prop} {K:γ -> List Cell -> Prop} {acc:γ} (e:NextR cs src v src') (b:t.bind v sl = some sl1)
  (h:tests sl1 cs fun b c=>Bool.rec (CompR t tests emit sl K acc src' c) (emit acc sl1 c fun y c=>CompR t tests emit sl K y src' c) b):CompR t tests emit sl K acc src cs :=
 .step (fun b c=>Bool.rec (CompR t tests emit sl K acc src' c) (emit acc sl1 c fun y c=>CompR t tests emit sl K y src' c) b) (fun y c=>CompR t tests emit sl K y src' c) e b h (fun c q=>q) (fun c q=>q) (fun y c q=>q)
end
end Mine
end
section
namespace Mine
open PySem
section
variable {c:Bool} {cs cs':List Cell} {K:KV} {P:Prm}
theorem BinR.addS' {x y z:Str} (e:x ++ y = z) (h:z.length <= lim) (k:K (.str z) cs):BinR c cs K .Add (.str x) (.str y):=by
 subst e
 exact .addS (by rw [show (x ++ y).length = (x.cps ++ y.cps).size from rfl,Array.size_append] at h; exact h) k
theorem BinR.mulS' {x z:Str} {j:Int} (e:Txt.mul x j = z) (h:x.length * j.toNat <= lim) (hj:small62 j) (k:K (.str z) cs):BinR c cs K .Mult (.str x) (.int j):=by subst e; exact .mulS h hj k
theorem BinR.addI' {i j z:Int} (e:i + j = z) (k:K (.int z) cs):BinR c cs K .Add (.int i) (.int j):=by subst e; exact .addI k
theorem BinR.subI' {i j z:Int} (e:i - j = z) (k:K (.int z) cs):BinR c cs K .Sub (.int i) (.int j):=by subst e; exact .subI k
theorem BinR.mulI' {i j z:Int} (h:mulOk i j = true) (e:i * j = z) (k:K (.int z) cs):BinR c cs K .Mult (.int i) (.int j):=by subst e; exact .mulI h k
theorem BinR.modI' {i j z:Int} (h:j ≠ 0) (e:i.fmod j = z) (k:K (.int z) cs):BinR c cs K .Mod (.int i) (.int j):=by subst e; exact .modI h k
theorem BinR.fdivI' {i j z:Int} (h:j ≠ 0 /\ j.natAbs < bigN) (e:i.fdiv j = z) (k:K (.int z) cs):BinR c cs K .FloorDiv (.int i) (.int j):=by subst e; exact .fdivI h k
theorem MethR.append' {l:Nat} {xs:List V} {v:V} (h:cs[l]? = some (.list xs)) (hl:xs.length < lim) (e:cs.set l (.list (xs ++ [v])) = cs') (k:K .none cs'):MethR P cs K .append (.ref l) [v]:=by subst e; exact .append h hl k
theorem SetR.list' {KK:List Cell -> Prop} {l:Nat} {xs:List V} {i:Int} {v:V} (h:cs[l]? = some (.list xs)) (hi:0 <= i /\ i < (xs.length:Int)) (e:cs.set l (.list (xs.set i.toNat v)) = cs') (k:KK cs'):SetR P cs KK (.ref l) (.int i) v:=by subst e; exact .list h hi k
end
noncomputable def mkS (l:List Nat):Str:=⟨l.toArray⟩
theorem zdq (a b:List Nat):mkS a ++ mkS b = mkS (a ++ b):=congrArg Str.mk (List.append_toArray a b)
theorem zc1 (a:List Nat):(mkS a).length = a.length:=rfl
theorem zq9 (a:List Nat):(mkS a).cps.toList = a:=rfl
noncomputable def chV (l:List Nat):List V:=l.map fun c=>.str (mkS [c])
theorem z1b {a b:List Nat} (h:mkS a = mkS b):a = b:=congrArg (fun s:Str=>s.cps.toList) h
theorem zaz (s:String):Str.ofString s = mkS (s.toList.map Char.toNat):=by rw [Str.ofString_eq_toList]; rfl
theorem zsc (c n:Nat):∀ a:List Nat,(List.replicate n (#[c]:Array Nat)).foldl (· ++ ·) a.toArray = (a ++ List.replicate n c).toArray:=by
 induction n with
 | zero=>intro a; rw [List.replicate_zero,List.replicate_zero,List.append_nil]; rfl
 | succ n ih =>
  intro a
  rw [List.replicate_succ,List.foldl_cons,List.replicate_succ,show a ++ c :: List.replicate n c = (a ++ [c]) ++ List.replicate n c by rw [List.append_assoc]; rfl,<- ih,<- List.append_toArray]
theorem z1a (c:Nat) (j:Int):Txt.mul (mkS [c]) j = mkS (List.replicate j.toNat c):=by
 unfold Txt.mul
 by_cases h:j < 1
 ·rw [if_pos h,Int.toNat_of_nonpos (Int.le_of_lt_add_one h)]; rfl
 ·rw [if_neg h]
  by_cases h1:j = 1
  ·subst h1; rfl
  ·rw [if_neg (by simp [h1,zc1])]
   have:=zsc c j.toNat []
   rw [List.nil_append] at this
   exact congrArg Str.mk this
theorem zur {n:Nat} (h:n <= 1000000):Builtin.Range.small 0 n 1 = true /\ (1:Int) ≠ 0:=by
 have hs:Builtin.Range.rangeSize 0 n 1 = n:=by
  unfold Builtin.Range.rangeSize
  by_cases h0:n = 0
  ·subst h0; rfl
  ·rw [if_pos (by decide),if_pos (by lia)]; lia
 have hf:∀ x:Int,0 <= x -> x <= 1000000 -> Builtin.Range.rangeFitsLong x = true:=fun x h0 h1=>by
  unfold Builtin.Range.rangeFitsLong
  simp
  lia
 refine ⟨?_,by decide⟩
 unfold Builtin.Range.small
 rw [hs,hf 0 (by decide) (by decide),hf n (Int.natCast_nonneg _) (Int.ofNat_le.mpr ‹_›),hf 1 (by decide) (by decide),if_pos (by decide),hf (n + (1 - 1)) (Int.natCast_nonneg _) (Int.ofNat_le.mpr ‹_›)]
 simp
noncomputable def upTo (j m:Nat):List V:=rangeFrom 1 m (j:Int)
theorem zqo {n:Nat} (h:n <= 1000000):SrcR cs (.rng 0 n 1) (.items (upTo 0 n)):=by
 have hs:Builtin.Range.rangeSize 0 n 1 = n:=by
  unfold Builtin.Range.rangeSize
  by_cases h0:n = 0
  ·subst h0; rfl
  ·rw [if_pos (by decide),if_pos (by lia)]; lia
 have:=SrcR.rng (cs:=cs) (zur h)
 unfold rangeV at this
 rw [hs] at this
 exact this
theorem zqq {α:Type} (xs:List α) (a:Nat) (n:Nat):∀ b:Nat,a + n = b -> b <= xs.length -> ((List.range n).map fun k:Nat=>((a:Int) + 1 * (k:Int)).toNat).filterMap (xs[·]?) = (xs.take b).drop a:=by
 induction n with
 | zero=>intro b h hb; cases (h:a = b); exact (List.drop_of_length_le (List.length_take_le _ _)).symm
 | succ n ih =>
  intro b h hb
  subst h
  have hl:a + n < xs.length:=hb
  rw [List.range_succ,List.map_append,List.filterMap_append,ih (a + n) rfl (Nat.le_of_lt hl),List.map_cons,List.map_nil,show ((a:Int) + 1 * (n:Int)).toNat = a + n by rw [Int.one_mul]; rfl,List.filterMap_cons,List.filterMap_nil,List.getElem?_eq_getElem hl,
   show a + (n + 1) = a + n + 1 from rfl,List.take_add_one,List.getElem?_eq_getElem hl,List.drop_append_of_le_length (by rw [List.length_take,Nat.min_eq_left (Nat.le_of_lt hl)]; exact Nat.le_add_right _ _)]
  rfl
theorem zcd (a b:Nat):sliceRange (a:Int) (b:Int) 1 = (List.range (b - a)).map fun k:Nat=>((a:Int) + 1 * (k:Int)).toNat:=by
 unfold sliceRange
 dsimp only
 congr 2
 by_cases h:a < b
 ·rw [if_pos (by decide),if_pos (Int.ofNat_lt.mpr ‹_›)]; lia
 ·rw [if_pos (by decide),if_neg (by lia)]; lia
theorem zdp {α:Type} (xs:List α) (a b:Nat) (h:a <= b) (hb:b <= xs.length):(sliceRange (a:Int) (b:Int) 1).filterMap (xs[·]?) = (xs.take b).drop a:=by
 rw [zcd]
 exact zqq xs a (b - a) b (Nat.add_sub_cancel' h) hb
theorem clipN (p n:Nat):max (0:Int) (min (if (p:Int) < 0 then (p:Int) + (n:Int) else p) (n:Int)) = ((min p n:Nat):Int):=by
 rw [if_neg (Int.not_lt.mpr (Int.natCast_nonneg p))]
 rcases Nat.le_total p n with h | h
 ·rw [Nat.min_eq_left h,Int.min_eq_left (Int.ofNat_le.mpr h)]; exact Int.max_eq_right (Int.natCast_nonneg _)
 ·rw [Nat.min_eq_right h,Int.min_eq_right (Int.ofNat_le.mpr h)]; exact Int.max_eq_right (Int.natCast_nonneg _)
theorem zp3 {α:Type} (xs:List α) (q:Nat):sliceL xs none (some (q:Int)) none = xs.take q:=by
 refine Eq.trans (b:=(sliceRange ((0:Nat):Int) (max 0 (min (if (q:Int) < 0 then (q:Int) + (xs.length:Int) else q) (xs.length:Int))) 1).filterMap (xs[·]?)) rfl ?_
 rw [clipN,zdp xs 0 _ (Nat.zero_le _) (Nat.min_le_right _ _),List.drop_zero,<- List.take_eq_take_min]
theorem zp0 (X:List Nat) (p n:Nat) (hp:p < X.length):Txt.slice (mkS X) (some (p:Int)) (some ((p + n:Nat):Int)) = mkS ((X.drop p).take n):=by
 have e:Builtin.Str.strSliceIndices (some (p:Int)) (some ((p + n:Nat):Int)) 1 (mkS X).length = sliceRange (p:Int) ((min (p + n) X.length:Nat):Int) 1:=by
  refine Eq.trans (b:=sliceRange (max 0 (min (if (p:Int) < 0 then (p:Int) + (X.length:Int) else p) (X.length:Int))) (max 0 (min (if ((p + n:Nat):Int) < 0 then ((p + n:Nat):Int) + (X.length:Int) else ((p + n:Nat):Int)) (X.length:Int))) 1) rfl ?_
  rw [clipN,clipN,Nat.min_eq_left (Nat.le_of_lt hp)]
 unfold Txt.slice
 rw [e]
 by_cases hc:(min (p + n) X.length - p) = X.length
 ·have h0:p = 0:=Nat.eq_zero_of_not_pos fun hq=>Nat.lt_irrefl _ (hc ▸ Nat.lt_of_lt_of_le (Nat.sub_lt (Nat.lt_min.mpr ⟨Nat.lt_of_lt_of_le hq (Nat.le_add_right _ _),Nat.lt_trans hq hp⟩) hq) (Nat.min_le_right _ _))
  subst h0
  rw [Nat.zero_add,Nat.sub_zero] at hc
  rw [zcd,List.length_map,List.length_range,Nat.zero_add,hc,List.drop_zero,List.take_of_length_le (hc ▸ Nat.min_le_left _ _)]
  exact if_pos (show (X.length - 0 == X.length) = true from beq_self_eq_true _)
 ·rw [if_neg (fun z=>hc (by rw [zcd,List.length_map,List.length_range] at z; exact beq_iff_eq.mp z))]
  refine congrArg mkS (Eq.trans (b:=(sliceRange (p:Int) ((min (p + n) X.length:Nat):Int) 1).filterMap (X[·]?)) (congrArg (fun f=>List.filterMap f _) (funext fun i=>List.getElem?_toArray)) ?_)
  rw [zdp X p _ (Nat.le_min.mpr ⟨Nat.le_add_right _ _,Nat.le_of_lt hp⟩) (Nat.min_le_right _ _),<- List.take_eq_take_min,List.drop_take,Nat.add_sub_cancel_left]
section
variable {c:Bool} {cs:List Cell} {K:KV}
theorem SliceR.str' {x z:Str} {l h:Option Int} (e:Txt.slice x l h = z) (k:K (.str z) cs):SliceR c cs K (.str x) l h none:=by subst e; exact .str k
theorem SliceR.lst' {o:V} {xs ys:List V} {l h s:Option Int} (ho:SeqR cs o false xs) (hs:s ≠ some 0) (e:sliceL xs l h s = ys) (k:listK c ys cs K):SliceR c cs K o l h s:=by subst e; exact .lst ho hs k
theorem CmpR.inD' {K:KB} {x:Str} {ks:List Str} {vs:List V} {b:Bool} (e:(dctGet x ks vs).isSome = b) (k:K b cs):CmpR cs K .In (.str x) (.dct ks vs):=by subst e; exact .inD k
end
end Mine
end
section
namespace Mine
open PySem PySem.SeqAt PySem.W PySem.Calls
section
variable {C:Cx} {Φ:Fm} {σ:St} {ns:List Str} {sl:Slots} {K:Frag}
theorem znq {h':Heap} {l:Nat} {c:Cell} {a:Addr} {o:Obj} {t:Nat} (H:HRel σ.g σ.s.heap) (hc:σ.g.cs[l]? = some c) (k:Heap.ExtBut (σ.g.ρ l) σ.s.heap h') (e:σ.s.heap.get? a = none) (e':h'.get? a = some o) (nc:∀ v,o.data ≠ .cell v) (c':CellIs (σ.g.freeze a o) h' (σ.g.ρ l) c) :
  Ext σ (σ.up h' t (σ.g.freeze a o)) noOwn:=by
 have hl:=zaa hc
 have L:=Le.freeze σ.g o (H.hf_none e)
 refine ⟨L,fun b o' q=>(zat q).elim (fun z=>.inr (z.1 ▸ e)) .inl,fun l' a b=>absurd b (Nat.not_lt.mpr a),fun b o' q n _=>⟨o',k _ _ (n l hl) q,rfl,fun _=>rfl⟩,fun b o' q z=>z.elim,⟨fun b o' q=>?_,fun l' c1 q=>?_,fun l' hl'=>(if_neg (H.ne hl' e)).trans (H.ap l' hl'),H.inj,fun b o' q=>(zat q).elim (fun z=>z.2 ▸ nc) (H.nofr b o'),fun b z=>?_⟩,rfl⟩
 ·rcases zat q with ⟨rfl,rfl⟩ | q
  ·exact e'
  ·exact k _ _ (fun z=>by subst z; rw [H.ap l hl] at q; cases q) (H.fz b o' q)
 ·by_cases z:l = l'
  ·subst z; cases hc.symm.trans q; exact c'
  ·exact (H.ce l' c1 q).mono L fun o' y=>k _ _ (fun w=>z (H.inj l l' hl (zaa q) w.symm)) y
 ·obtain ⟨⟨o1,es,ep,q,d⟩,r1,r2⟩:=H.lv b z
  have ne:¬ b = a:=fun y=>H.nfl e (y ▸ z)
  exact ⟨⟨o1,es,ep,k _ _ (fun y=>r1 l hl y.symm) q,d⟩,r1,(if_neg ne).trans r2⟩
structure TabFact (C:Cx) (c Pt:Addr):Prop where
 at_:∃ o vs file tf flags tg inF text tt,C.base c = some o /\ o.cls = .type "code" /\ o.data = .fields vs /\ vs[11]? = some (.ref Pt) /\ vs.getD 11 .none = .ref Pt /\ vs.getD 18 .none = .str file tf /\
  vs.getD 7 .none = .int flags tg /\ vs.getD 9 .none = .bool inF /\ vs.getD 10 .none = .int text tt /\ c ≠ Pt
theorem TabFact.hd {c Pt:Addr} (T:TabFact C c Pt) (H:HRel σ.g σ.s.heap) (B:Base C σ.g):CodeHd σ.s.heap c Pt:=by
 obtain ⟨o,vs,file,tf,flags,tg,inF,text,tt,e,r⟩:=T.at_
 exact ⟨o,vs,file,tf,flags,tg,inF,text,tt,H.fz _ _ (B.hf _ _ e),r⟩
noncomputable abbrev Cx.more (C:Cx) (b:Addr -> Option Obj):Cx:={ C with base:=b }
structure DefAt (C:Cx) (Φ:Fm) (σ σ':St) (scope:Scope) (body:List Stmt) (name:Str) (params:Arguments) (f:Addr) (fd:FuncData) (base':Addr -> Option Obj):Prop where
 more:∀ a o,C.base a = some o -> base' a = some o
 B:Base (C.more base') σ'.g
 lim:Lim0 (C.more base')
 Fa:FnAt0 (C.more base') f scope body fd
 clo:fd.closure = clos Φ.env scope.names []
 fd_:∃ c' doc pm ctv,fd = fnX name (Φ.env.qual ++ name) params body scope (clos Φ.env scope.names []) .none .none doc pm none (.ref c') ctv
theorem def_ok (W:W0 C K) (S:Std C Φ (look ns sl) σ) {name:Str} {params:Arguments} {body:List Stmt} {scope:Scope} {pos:Pos} {c Pt:Addr} {lt i:Nat}
  (hd0:params.defaults = []) (hk0:params.kw_defaults = []) (ha:annTrees params none Φ.env = []) (hcode:Φ.env.code = .ref c) (Tb:TabFact C c Pt) (hct:σ.g.cs[lt]? = some (.tab Pt pos (Φ.env.qual ++ name)))
  (hfree:∀ x ∈ scope.names,x.2 = .free -> ∃ c,Φ.env.cells.lookup x.1 = some c) (hgP:mainGlobals ≠ Pt) (hkn:Φ.env.kindOf name = some .cell) (htg:tgt1 Φ.env.scope ns name i = true) (h1:scope.isCoroutine = false) (h2:scope.isGenerator = false) (h3:scope.kind = .function)
  {Q:Flow -> Shared -> Prop} {E:Value -> Shared -> Prop}
  (k:∀ f fd base' σ',Ext σ σ' (ownOf Φ.env) -> σ'.g.cs = σ.g.cs -> Std C Φ (look ns (sl.set i (some (.adr f)))) σ' -> DefAt C Φ σ σ' scope body name params f fd base' -> Q .next σ'.s) :
  wpAny C.M Φ.A (exec (.FunctionDef name params body [] none [] scope none name pos) Φ.env) Q E σ.s:=by
 have hq:qualnameIn Φ.env name name = Φ.env.qual ++ name:=by
  unfold qualnameIn
  rw [hkn]; rfl
 have hlt:=zaa hct
 have hP:σ.g.ρ lt = Pt:=(S.H.ce _ _ hct).1
 obtain ⟨og,mg,g1,g2,g3⟩:=W.glo
 obtain ⟨bm,ob,b1,b2,b3,b4,b5,b6⟩:=W.bmain
 have hgl:=S.H.fz _ _ (S.B.hf _ _ g1)
 have hns:=g2 _ hgl
 have hbm:=S.H.fz _ _ (S.B.hf _ _ b3)
 have hbmG:bm ≠ mainGlobals:=fun q=>by
  obtain ⟨o,es,ep,e,hd,_⟩:=hns
  rw [q,e] at hbm; cases hbm; rw [hd] at b6; cases b6
 have hapP:σ.g.hf Pt = none:=by rw [<- hP]; exact S.H.ap lt hlt
 have hbmP:bm ≠ Pt:=fun q=>by
  have:=S.B.hf _ _ b3
  rw [q,hapP] at this; cases this
 have hbat:σ.s.heap.BuiltinsAt mg Pt:=⟨bm,ob,g3 _ _ b1,b2,hbmG,hbmP,hbm,b4,b5,b6⟩
 have hcl:=zd4 (scope:=scope) (env:=Φ.env) hfree
 have hCd:=Tb.hd S.H S.B
 obtain ⟨_,ps,p1,p2,p3⟩:=S.H.ce _ _ hct
 rw [hP] at p1
 -- what follows once the function stands
 have fin:∀ (c':Addr) (oc:Obj) (vs:Array Value) (t:Tok) (doc ctv:Value) (σ':St),Ext σ σ' noOwn -> σ'.g.cs = σ.g.cs -> σ'.g.hf c' = some oc -> oc.data = .fields vs -> vs[1]? = some (.str (Φ.env.qual ++ name) t) -> σ.s.heap.objs.size <= σ'.s.heap.objs.size ->
   wpAny C.M Φ.A (storeName Φ.env name (.ref σ'.s.heap.objs.size)) (fun _ s''=>Q .next s'') E { σ'.s with heap:=σ'.s.heap.push { cls:=.type "function",data:=.func (fnX name (Φ.env.qual ++ name) params body scope (clos Φ.env scope.names []) .none .none doc ((mg "__name__").getD .none) none (.ref c') ctv) } }:=by
  intro c' oc vs t doc ctv σ' X ecs hc hv1 hv2 hsz
  let fd:=fnX name (Φ.env.qual ++ name) params body scope (clos Φ.env scope.names []) .none .none doc ((mg "__name__").getD .none) none (.ref c') ctv
  let fo:Obj:={ cls:=.type "function",data:=.func fd }
  let f:=σ'.s.heap.objs.size
  have nf:σ'.s.heap.get? f = none:=get?_size _
  let σ2:=σ'.up (σ'.s.heap.push fo) σ'.s.toks (σ'.g.freeze f fo)
  have X2:Ext σ' σ2 noOwn:=zf3 (o:=fo) X.H (fun v e=>nomatch e) rfl _
  have S2:Std C Φ (look ns sl) σ2:=S.ext (X.trans X2)
  refine store1 (σ:=σ2) S2 htg (.adr f) (ow:=ownOf Φ.env) (.inl rfl) (fun c hk hc=>.inr ⟨name,hk,hc⟩) _ _ fun σ4 X4 c4 S4=>?_
  have hfc:c' ≠ f:=fun q=>by
   have:=X.H.fz _ _ hc
   rw [q,nf] at this; cases this
  have hcf:σ4.g.hf c' = some oc:=X4.le.hf _ _ ((if_neg hfc).trans hc)
  have hff:σ4.g.hf f = some fo:=X4.le.hf _ _ (zam ..)
  let base':Addr -> Option Obj:=fun a=>if a = f then some fo else if a = c' then some oc else C.base a
  have bf:base' f = some fo:=if_pos rfl
  have bc:base' c' = some oc:=(if_neg hfc).trans (if_pos rfl)
  have more:∀ a o,C.base a = some o -> base' a = some o:=fun a o e=>by
   have e2:=S4.B.hf _ _ e
   by_cases q1:a = f
   ·subst q1; exact bf.trans (hff.symm.trans e2)
   ·by_cases q2:a = c'
    ·subst q2; exact bc.trans (hcf.symm.trans e2)
    ·exact (if_neg q1).trans ((if_neg q2).trans e)
  have B':Base (C.more base') σ4.g:=⟨S4.B.pr,fun a o e=>by
   by_cases q1:a = f
   ·subst q1; exact hff.trans (bf.symm.trans e)
   ·by_cases q2:a = c'
    ·subst q2; exact hcf.trans (bc.symm.trans e)
    ·exact S4.B.hf _ _ ((if_neg q2).symm.trans ((if_neg q1).symm.trans e)),S4.B.fl⟩
  obtain ⟨o,es,ep,mc,a1,a2,a3,a4⟩:=W.lim
  exact k f fd base' σ4 (((X.trans X2).mono fun _ z=>z.elim).trans X4) (c4.trans ecs) S4 ⟨more,B',⟨o,es,ep,mc,more _ _ a1,a2,a3,a4⟩,⟨⟨fo,bf,rfl⟩,rfl,rfl,rfl,rfl,h1,h2,h3,⟨c',oc,vs,t,rfl,bc,hv1,hv2⟩⟩,rfl,_,_,_,_,rfl⟩
 refine nestDef_K hd0 hk0 ha ?_
 rw [hq]
 rcases p3 with p3 | ⟨c',oc,vs,t,p3,p4,p5,p6⟩
 ·refine makeFunction_K (mg:=mg) hcl S.F.glo hns hcode hCd p1 p2 p3 hgP hbat fun c' ctv doc h' tk hx hge hlt2 hrec htb=>?_
  obtain ⟨c2,oc,vs,t,e2,hoc,hd,hv⟩:=hrec
  cases e2
  have nc':σ.s.heap.get? c' = none:=get?_ge hge
  have X':Ext σ (σ.up h' tk (σ.g.freeze c' oc)) noOwn:=by
   refine znq S.H hct (by rw [hP]; exact hx) nc' hoc (by rw [hd]; exact fun _ e=>nomatch e) ⟨hP,_,by rw [hP]; exact htb,?_,.inr ⟨c',oc,vs,t,?_,zam ..,hd,hv⟩⟩
   ·rw [Array.toList_append]; exact TriplesOk_snoc _ _ _ _ p2
   ·rw [Array.toList_append]; exact codeAmong_snoc _ p2 p3
  exact fin c' oc vs t doc ctv (σ.up h' tk (σ.g.freeze c' oc)) X' rfl (zam ..) hd hv (Nat.le_of_lt (Nat.lt_of_le_of_lt hge hlt2))
 ·refine makeFunction_hit (mg:=mg) hcl S.F.glo hns hcode hCd p1 p2 p3 hbat fun ctv doc h' tk hk hsz=>?_
  exact fin c' oc vs t doc ctv (σ.up h' tk σ.g) (Ext.keeps S.H hk) rfl p4 p5 p6 hsz
end
end Mine
end
section
namespace Mine
open PySem PySem.SeqAt
structure Shr (g g2 g3:Gh):Prop where
 n:g.cs.length <= g3.cs.length
 ρ:g3.ρ = g2.ρ
 hf:∀ a o,g2.hf a = some o -> g3.hf a = some o
 pr:g3.pr = g2.pr
theorem VRel.shrink {g g2 g3:Gh} (L:Shr g g2 g3) {v:V} {w0:Value} (r0:VRel g v w0):∀ {w:Value},VRel g2 v w -> VRel g3 v w :=
 VRel.rec (motive_1:=fun v w0 _=>∀ {w:Value},VRel g2 v w -> VRel g3 v w) (motive_2:=fun xs ws0 _=>∀ {ws:List Value},VRels g2 xs ws -> VRels g3 xs ws)
  (fun r=>by cases r.inv; exact .none) (fun b _ r=>by cases r.inv; exact .bool b) (fun i _ _ r=>by obtain ⟨t,rfl⟩:=r.inv; exact .int i t) (fun x _ _ _ r=>by obtain ⟨t,rfl,h⟩:=r.inv; exact .str x t h)
  (fun i _ r=>by cases r.inv; exact .bi i) (fun i _ r=>by cases r.inv; exact .typ i) (fun a _ r=>by cases r.inv; exact .adr a) (fun l h _ r=>by obtain ⟨rfl,_⟩:=r.inv; rw [<- L.ρ]; exact .ref l (Nat.lt_of_lt_of_le h L.n))
  (fun _ _ _ ih _ r=>by obtain ⟨a,vs,ep,rfl,h,r,hl⟩:=r.inv; exact .tup (L.hf _ _ h) (ih r) hl) (fun _ _ _ ih _ r=>by obtain ⟨a,vs,ep,rfl,h,r,hl⟩:=r.inv; exact .lst (L.hf _ _ h) (ih r) hl)
  (fun _ _ r=>by obtain ⟨_,_,_,_,rfl,h⟩:=r.inv; exact .rng (L.hf _ _ h)) (fun _ _ _ _ ih _ r=>by obtain ⟨a,es,ep,rfl,h,k,r,hs⟩:=r.inv; exact .dct (L.hf _ _ h) (L.pr.symm ▸ k) (ih r) hs) (fun _ _ _ _ ih _ r=>by obtain ⟨a,es,ep,rfl,h,k,r,hs⟩:=r.inv; exact .dcti (L.hf _ _ h) k (ih r) hs)
  (fun r=>by cases r.nil_of; exact .nil) (fun _ _ ih ihs _ r=>by obtain ⟨y,r',rfl,h,r⟩:=r.cons_of; exact .cons (ih h) (ihs r)) r0
theorem vshrink {g g2 g3:Gh} (L:Shr g g2 g3) {vs:List V} {ws0:List Value} (r0:VRels g vs ws0):∀ {ws:List Value},VRels g2 vs ws -> VRels g3 vs ws:=by
 induction r0 with
 | nil=>intro ws r; cases r.nil_of; exact .nil
 | cons h _ ih=>intro ws r; obtain ⟨y,r',rfl,h2,r⟩:=r.cons_of; exact .cons (h.shrink L h2) (ih r)
theorem CellIs.shrink {g g2 g3:Gh} (L:Shr g g2 g3) {h0 h:Heap} {a b:Addr} {c:Cell} (q0:CellIs g h0 a c) (q:CellIs g2 h b c):CellIs g3 h b c:=by
 cases c with
 | list xs=>obtain ⟨_,_,_,r,_⟩:=q0; obtain ⟨vs,ep,q,r2,z⟩:=q; exact ⟨vs,ep,q,vshrink L r r2,z⟩
 | inst c d=>exact ⟨Nat.lt_of_lt_of_le q0.1 L.n,by rw [L.ρ]; exact q.2⟩
 | attr v =>
  cases v with
  | none=>exact q
  | some v=>obtain ⟨_,_,_,_,_,_,r⟩:=q0; obtain ⟨hh,tk,v',ep,sl,q,r2⟩:=q; exact ⟨hh,tk,v',ep,sl,q,r.shrink L r2⟩
 | tab pt pos qual =>
  obtain ⟨pe,ps,q,tr,r⟩:=q
  refine ⟨pe,ps,q,tr,r.imp id fun r=>?_⟩
  obtain ⟨c,oc,vs,t,p1,p2,p3⟩:=r
  exact ⟨c,oc,vs,t,p1,L.hf _ _ p2,p3⟩
section
variable {σ σ2:St} {xs:List Cell}
theorem zg6 (H0:HRel σ.g σ.s.heap) (X:Ext σ σ2 noOwn) (e:σ2.g.cs = σ.g.cs ++ xs):Ext σ ⟨σ2.s,{ σ2.g with cs:=σ.g.cs }⟩ noOwn:=by
 have hlt:∀ {l},l < σ.g.cs.length -> l < σ2.g.cs.length:=fun h=>by rw [e,List.length_append]; exact Nat.lt_of_lt_of_le h (Nat.le_add_right _ _)
 have Sh:Shr σ.g σ2.g { σ2.g with cs:=σ.g.cs }:=⟨Nat.le_refl _,rfl,fun _ _ q=>q,rfl⟩
 exact ⟨⟨Nat.le_refl _,X.le.ρ,X.le.hf,X.le.pr,X.le.fl⟩,X.fresh,fun l a b=>absurd b (Nat.not_lt.mpr a),X.keep,X.ownk,
  ⟨X.H.fz,fun l c q=>(H0.ce l c q).shrink Sh (X.H.ce l c (by rw [e,List.getElem?_append_left (zaa q)]; exact q)),fun l hl=>X.H.ap l (hlt hl),fun l l' a b q=>X.H.inj l l' (hlt a) (hlt b) q,X.H.nofr,fun a z=>⟨(X.H.lv a z).1,fun l hl=>(X.H.lv a z).2.1 l (hlt hl),(X.H.lv a z).2.2⟩⟩,X.sh⟩
theorem zlm {zs:List V} (H0:HRel σ.g σ.s.heap) (X:Ext σ σ2 noOwn) (e:σ2.g.cs = σ.g.cs ++ [.list zs]) (hp:∀ {g2 g3:Gh} {ws:List Value},VRels g2 zs ws -> VRels g3 zs ws) :
  ∃ σ3,Ext σ σ3 noOwn /\ σ3.s = σ2.s /\ σ3.g.cs = σ.g.cs /\ VRel σ3.g (.lst zs) (.ref (σ2.g.ρ σ.g.cs.length)):=by
 have hn:σ2.g.cs[σ.g.cs.length]? = some (.list zs):=by rw [e,List.getElem?_append_right (Nat.le_refl _),Nat.sub_self]; rfl
 obtain ⟨vs,ep,e1,r,hlim⟩:=X.H.ce _ _ hn
 have hl2:=zaa hn
 have hlt:∀ {l},l < σ.g.cs.length -> l < σ2.g.cs.length:=fun h=>Nat.lt_trans h hl2
 have hap:=X.H.ap _ hl2
 have fr:σ.s.heap.get? (σ2.g.ρ σ.g.cs.length) = none:=X.cfresh _ (Nat.le_refl _) hl2
 have neD:∀ l,l < σ.g.cs.length -> σ2.g.ρ l ≠ σ2.g.ρ σ.g.cs.length:=fun l hl q=>absurd (X.H.inj l _ (hlt hl) hl2 q) (Nat.ne_of_lt hl)
 let g3:Gh:={ (σ2.g.freeze (σ2.g.ρ σ.g.cs.length) (listO vs ep)) with cs:=σ.g.cs }
 have up:=(Le.freeze σ2.g (listO vs ep) hap).hf
 have Sh:Shr σ.g σ2.g g3:=⟨Nat.le_refl _,rfl,up,rfl⟩
 refine ⟨⟨σ2.s,g3⟩,⟨⟨Nat.le_refl _,X.le.ρ,fun a o q=>up _ _ (X.le.hf a o q),X.le.pr,X.le.fl⟩,fun a o q=>(zat q).elim (fun z=>.inr (z.1 ▸ fr)) (X.fresh a o),fun l a b=>absurd b (Nat.not_lt.mpr a),X.keep,X.ownk,
  ⟨fun b o q=>(zat q).elim (fun z=>z.1 ▸ z.2 ▸ e1) (X.H.fz b o),fun l c q=>(H0.ce l c q).shrink Sh (X.H.ce l c (by rw [e,List.getElem?_append_left (zaa q)]; exact q)),fun l hl=>(if_neg (neD l hl)).trans (X.H.ap l (hlt hl)),fun l l' a b q=>X.H.inj l l' (hlt a) (hlt b) q,
   fun b o q=>(zat q).elim (fun z=>z.2 ▸ nofrL vs ep) (X.H.nofr b o),fun a z=>⟨(X.H.lv a z).1,fun l hl=>(X.H.lv a z).2.1 l (hlt hl),(if_neg fun q=>(X.H.lv a z).2.1 _ hl2 q.symm).trans (X.H.lv a z).2.2⟩⟩,X.sh⟩,rfl,rfl,?_⟩
 exact .lst (zam ..) (hp r) hlim
end
noncomputable def plainD (v:V):Prop:=∀ {g g':Gh} {w:Value},VRel g v w -> VRel g' v w
theorem zqs (i:Int):plainD (.int i):=fun r=>by obtain ⟨t,rfl⟩:=r.inv; exact .int _ _
theorem zgw (ns:List Int):∀ {g g':Gh} {ws:List Value},VRels g (ns.map .int) ws -> VRels g' (ns.map .int) ws:=by
 induction ns with
 | nil=>intro g g' ws r; cases r.nil_of; exact .nil
 | cons i ns ih=>intro g g' ws r; obtain ⟨w,ws',rfl,h,r⟩:=r.cons_of; exact .cons (zqs i h) (ih r)
section
variable {C:Cx} {A:Around} {σ:St} {f:Value} {args':List Value} {kws':List (Str × Value)} {K:KV}
theorem CRuns.dropP {i j:Int} (h:CRuns C A σ f args' kws' fun v c=>v = .tup [.int i,.int j] /\ (∃ xs,c = σ.g.cs ++ xs) /\ K (.tup [.int i,.int j]) σ.g.cs) (H:HRel σ.g σ.s.heap):CRuns C A σ f args' kws' K:=fun R k =>
 h R fun v a σ2 X r q=>by
  obtain ⟨rfl,⟨xs,e⟩,q⟩:=q
  obtain ⟨b,vs,ep,rfl,h,r,hl⟩:=r.inv
  exact k (.tup [.int i,.int j]) _ ⟨σ2.s,{ σ2.g with cs:=σ.g.cs }⟩ (zg6 H X e) (.tup (show Gh.hf { σ2.g with cs:=σ.g.cs } b = _ from h) (zgw [i,j] r) hl) q
theorem CRuns.dropL {ns:List Int} (h:CRuns C A σ f args' kws' fun v c=>v = .ref σ.g.cs.length /\ c = σ.g.cs ++ [.list (ns.map .int)] /\ K (.lst (ns.map .int)) σ.g.cs) (H:HRel σ.g σ.s.heap):CRuns C A σ f args' kws' K:=fun R k =>
 h R fun v a σ2 X r q=>by
  obtain ⟨rfl,e,q⟩:=q
  obtain ⟨rfl,_⟩:=r.inv
  obtain ⟨σ3,X3,e3,ec,r3⟩:=zlm H X e (zgw ns)
  have:=k _ _ σ3 X3 r3 (ec ▸ q)
  rwa [e3] at this
end
end Mine
end
section
namespace Mine
open PySem PySem.SeqAt PySem.W PySem.Calls
section
variable {C:Cx} {Φ:Fm} {σ:St} {ns:List Str} {K:KV}
theorem CloOk.ext {σ':St} {sc:Scope} {clo:List (Str × Addr)} {fs:List Str} {fl:Slots} {own:Addr -> Prop} (Q:CloOk σ sc clo fs fl) (H:HRel σ.g σ.s.heap) (x:Ext σ σ' own) (no:∀ y c,clo.lookup y = some c -> ¬ own c):CloOk σ' sc clo fs fl where
 free y hy:=by
  obtain ⟨c,w,e,ic,r⟩:=Q.free y hy
  exact ⟨c,w,e,x.isCell ic (IsCell_ne_ρ H ic) (no y c e),fun v hv=>(r v hv).imp fun _ h=>⟨h.1,h.2.mono x.le⟩⟩
 live y a e:=(Q.live y a e).imp fun _ ic=>x.isCell ic (IsCell_ne_ρ H ic) (no y a e)
 inj:=Q.inj
 sep:=Q.sep
theorem zyv {L:Str -> Option V} {scope:Scope} {fs:List Str} {fl:Slots} (S:Std C Φ L σ) (hf:∀ x,(x,NameKind.free) ∈ scope.names -> Φ.env.kindOf x = some .cell \/ Φ.env.kindOf x = some .free) (hl:∀ x v,look fs fl x = some v -> L x = some v) (hs:∀ x,(x,NameKind.free) ∈ scope.names -> (x,NameKind.cell) ∉ scope.names) :
  CloOk σ scope (clos Φ.env scope.names []) fs fl:=by
 have hfree:∀ y ∈ scope.names,y.2 = .free -> ∃ c,Φ.env.cells.lookup y.1 = some c:=fun y hy hk=>by
  obtain ⟨n,k⟩:=y
  cases (hk:k = _)
  obtain ⟨c,_,e,_⟩:=S.F.cell n (hf n hy)
  exact ⟨c,e⟩
 have lk:∀ x,(clos Φ.env scope.names []).lookup x = if (x,NameKind.free) ∈ scope.names then Φ.env.cells.lookup x else none:=fun x=>zf7 scope.names [] x hfree
 have lk2:∀ x a,(clos Φ.env scope.names []).lookup x = some a -> (x,NameKind.free) ∈ scope.names /\ Φ.env.cells.lookup x = some a:=fun x a e=>by
  rw [lk] at e
  by_cases q:(x,NameKind.free) ∈ scope.names
  ·rw [if_pos q] at e; exact ⟨q,e⟩
  ·rw [if_neg q] at e; cases e
 refine ⟨fun x hx=>?_,fun x a e=>?_,fun x y a hx hy=>S.F.capart x y a (hf x (lk2 x a hx).1) (hf y (lk2 y a hy).1) (lk2 x a hx).2 (lk2 y a hy).2,hs⟩
 ·obtain ⟨c,w',e,ic,r⟩:=S.F.cell x (hf x hx)
  exact ⟨c,w',by rw [lk,if_pos hx]; exact e,ic,fun v hv=>r v (hl x v hv)⟩
 ·obtain ⟨hx,e⟩:=lk2 x a e
  obtain ⟨c,w',e2,ic,_⟩:=S.F.cell x (hf x hx)
  cases e.symm.trans e2
  exact ⟨w',ic⟩
theorem zha {L:Str -> Option V} {sc:Scope} {clo:List (Str × Addr)} {fs:List Str} {fl:Slots} (S:Std C Φ L σ) (Q:CloOk σ sc clo fs fl) (hk:(Φ.env.scope.names.all fun p=>!(p.2 == .cell)) = true) (y:Str) (c:Addr) (e:clo.lookup y = some c):¬ ownOf Φ.env c:=by
 obtain ⟨w',ic⟩:=Q.live y c e
 rintro (q | ⟨x,hx,_⟩)
 ·obtain ⟨m,hn,_⟩:=S.F.ns
  exact zbg ic hn q
 ·have:=List.all_eq_true.mp hk _ (zbm hx)
  cases this
theorem zde {x:Str} {i:Nat} {fp p:Pos} {es:List ED} {f:Addr} (w:(ED.loc x i fp).wf Φ.env.scope ns = true) (O:∀ e ∈ es,EOk C Φ ns e) {sl:Slots} (S:Std C Φ (look ns sl) σ) {T:List V -> List Cell -> Prop} (hx:atS sl i (· = .adr f)) (q:vals es sl σ.g.cs T)
  (hc:∀ vs a σ',Ext σ σ' noOwn -> VRels σ'.g vs a -> T vs σ'.g.cs -> CallsOk C Φ.A σ' K (.ref f) a []):Runs C Φ.A σ noOwn (eval (.Call (.Name x fp) (es.map ED.ast) [] p) Φ.env) VR K:=fun Q E k=>by
 have q0:(ED.loc x i fp).val sl σ.g.cs fun fv cs=>fv = .adr f /\ vals es sl cs T:=by
  show Option.rec (motive:=fun _=>Prop) False (fun v=>v = .adr f /\ vals es sl σ.g.cs T) (sl[i]?).join
  have hx':Option.rec (motive:=fun _=>Prop) False (· = V.adr f) (sl[i]?).join:=hx
  cases h:(sl[i]?).join with
  | none=>rw [h] at hx'; exact hx'.elim
  | some v=>rw [h] at hx'; exact ⟨hx',q⟩
 refine wpAny_bind ((zaw x i fp Φ ns w).val sl σ _ S q0 _ _ fun fv f' σ1 X1 rf q1=>?_)
 obtain ⟨rfl,q1⟩:=q1
 cases rf.inv
 refine za0 (zau p O).1 rfl (zcu p (es:=es) (kv:=[]) [] rfl O (fun _ z=>nomatch z) (S.ext X1) (T:=fun vs _ cs=>T vs cs) q1 fun vs us a σ2 X2 ra q2=>?_)
 obtain ⟨kp,run⟩:=hc vs a.pos σ2 (X1.trans X2) ra.pos q2
 refine ⟨kp,?_⟩
 rw [show a.kw = [] from ra.kw.nil_of]
 exact run Q E fun v x σ3 X3 r q=>k v x σ3 ((X1.trans X2).trans X3) r q
theorem zbb (ds:List SD) {rest:List Stmt} {K1 K2:KF}:(∀ d ∈ ds,SOk C Φ ns d) -> ∀ sl σ,Std C Φ (look ns sl) σ -> bden ds sl σ.g.cs K1 -> (∀ fl sl cs,K1 fl sl cs -> fl ≠ .next -> K2 fl sl cs) -> (∀ sl' σ',Ext σ σ' (ownOf Φ.env) -> Std C Φ (look ns sl') σ' -> K1 .next sl' σ'.g.cs -> XRuns C Φ ns σ' (execs rest Φ.env) K2) ->
  XRuns C Φ ns σ (execs (ds.map SD.ast ++ rest) Φ.env) K2:=by
 induction ds with
 | nil=>exact fun _ sl σ S q _ h Q E k=>h sl σ (Ext.refl S.H _) S q Q E k
 | cons d ds ih =>
  intro O sl σ S q hx h Q E k
  refine wpAny_execs_cons (O d List.mem_cons_self sl σ _ S q _ _ fun fl sl1 f σ1 X1 r1 S1 q1=>?_)
  cases r1 with
  | next=>exact ih (fun x hx=>O x (List.mem_cons_of_mem _ hx)) sl1 σ1 S1 q1 hx (fun sl' σ' X' S' q'=>h sl' σ' (X1.trans X') S' q') Q E fun fl sl2 f σ2 X2 r2 S2 q2=>k fl sl2 f σ2 (X1.trans X2) r2 S2 q2
  | brk=>exact k .brk sl1 .brk σ1 X1 .brk S1 (hx _ _ _ q1 fun e=>nomatch e)
  | cont=>exact k .cont sl1 .cont σ1 X1 .cont S1 (hx _ _ _ q1 fun e=>nomatch e)
  | ret r=>exact k (.ret _) sl1 (.ret _) σ1 X1 (.ret r) S1 (hx _ _ _ q1 fun e=>nomatch e)
theorem zf4 {e:Expr} {p:Pos} {rest:List Stmt} {sl:Slots} {K1:KV} {K2:KF} (S:Std C Φ (look ns sl) σ) (hs:swapsWith e none p.line Φ.env = pure false) (he:Runs C Φ.A σ noOwn (eval e Φ.env) VR K1) (h:∀ v σ',Ext σ σ' noOwn -> Std C Φ (look ns sl) σ' -> K1 v σ'.g.cs -> XRuns C Φ ns σ' (execs rest Φ.env) K2) :
  XRuns C Φ ns σ (execs (.Expr e p :: rest) Φ.env) K2:=fun Q E k=>by
 refine wpAny_execs_cons (wpAny_Expr_any (he _ _ fun v a σ1 X1 r q=>?_) ?_ hs)
 ·exact h v σ1 X1 (S.ext X1) q Q E fun fl sl2 f σ2 X2 r2 S2 q2=>k fl sl2 f σ2 ((toOwn X1).trans X2) r2 S2 q2
 ·unfold interactive; rw [S.F.kind]; rfl
theorem zsp {sl:Slots} {K2:KF} (S:Std C Φ (look ns sl) σ) (q:K2 .next sl σ.g.cs):XRuns C Φ ns σ (execs [] Φ.env) K2:=fun Q E k=>wpAny_execs_nil (k .next sl .next σ (Ext.refl S.H _) .next S q)
end
end Mine
end
section
namespace Mine
open PySem PySem.SeqAt PySem.W
noncomputable abbrev Gh.wfl (g:Gh) (f:Addr -> Prop):Gh:={ g with fl:=f }
theorem VRel.wfl {g:Gh} (f:Addr -> Prop) {v:V} {w:Value} (r:VRel g v w):VRel (g.wfl f) v w :=
 VRel.rec (g:=g) (motive_1:=fun v w _=>VRel (g.wfl f) v w) (motive_2:=fun xs ws _=>All2 (VRel (g.wfl f)) xs ws)
  .none .bool .int .str .bi .typ .adr (fun l h=>.ref l h)
  (fun h _ hl r=>.tup h r hl) (fun h _ hl r=>.lst h r hl) (fun h=>.rng h)
  (fun h k _ hs r=>.dct h k r hs) (fun h k _ hs r=>.dcti h k r hs) .nil (fun _ _ h r=>.cons h r) r
theorem CellIs.wfl {g:Gh} (f:Addr -> Prop) {h:Heap} {a:Addr} {c:Cell} (q:CellIs g h a c):CellIs (g.wfl f) h a c:=by
 cases c with
 | list xs=>obtain ⟨vs,ep,q,r,z⟩:=q; exact ⟨vs,ep,q,r.imp fun _ _=>VRel.wfl f,z⟩
 | inst c d=>exact q
 | attr v =>
  cases v with
  | none=>exact q
  | some v=>obtain ⟨hh,tk,v',ep,sl,q,r⟩:=q; exact ⟨hh,tk,v',ep,sl,q,r.wfl f⟩
 | tab pt pos qual=>exact q
theorem HRel.wfl {g:Gh} {h:Heap} (H:HRel g h) {f:Addr -> Prop} (lv:∀ a,f a -> (∃ o es ep,h.get? a = some o /\ o.data = .dict es ep) /\ (∀ l,l < g.cs.length -> g.ρ l ≠ a) /\ g.hf a = none):HRel (g.wfl f) h :=
 ⟨H.fz,fun l c e=>(H.ce l c e).wfl f,H.ap,H.inj,H.nofr,lv⟩
noncomputable abbrev St.wfl (σ:St) (f:Addr -> Prop):St:=⟨σ.s,σ.g.wfl f⟩
structure Bs (σ σ':St) (b:Heap):Prop where
 k1:∀ a o,σ.s.heap.get? a = some o -> (∀ l,l < σ.g.cs.length -> a ≠ σ.g.ρ l) -> ¬ σ.g.fl a -> b.get? a = some o
 k2:∀ a o,σ'.g.hf a = some o -> b.get? a = some o
 k3:∀ l o,l < σ'.g.cs.length -> σ'.s.heap.get? (σ'.g.ρ l) = some o -> b.get? (σ'.g.ρ l) = some o
section
variable {σ σ':St} {b:Heap}
theorem Bs.step (X:Ext σ σ' noOwn) (B:Bs σ σ' b) {h':Heap} (st:b.StaysIn h') (up:σ'.s.heap.UpToSlots h') (tk:Nat):Ext σ (σ'.up h' tk σ'.g) noOwn /\ Bs σ (σ'.up h' tk σ'.g) b:=by
 have cell:∀ l o,l < σ'.g.cs.length -> σ'.s.heap.get? (σ'.g.ρ l) = some o -> h'.get? (σ'.g.ρ l) = some o:=fun l o hl e=>st _ _ (B.k3 l o hl e)
 have lv':∀ a,σ'.g.fl a -> ∀ o,σ'.s.heap.get? a = some o -> ∃ o',h'.get? a = some o' /\ o'.data = o.data:=fun a z o e=>by
  obtain ⟨⟨o1,es,ep,e1,d1⟩,_⟩:=X.H.lv a z
  cases e.symm.trans e1
  obtain ⟨sl,e2⟩:=up a o e fun vs q=>by rw [d1] at q; cases q
  exact ⟨_,e2,rfl⟩
 refine ⟨⟨X.le,X.fresh,X.cfresh,fun a o e n q=>?_,fun a o e q=>q.elim,⟨fun a o e=>st _ _ (B.k2 a o e),fun l c e=>?_,X.H.ap,X.H.inj,X.H.nofr,fun a z=>?_⟩,?_⟩,B.k1,B.k2,fun l o hl e=>?_⟩
 ·by_cases f:σ.g.fl a
  ·obtain ⟨o1,e1,d1,_⟩:=X.keep a o e n q
   obtain ⟨o2,e2,d2⟩:=lv' a (X.le.fl.symm ▸ f) o1 e1
   exact ⟨o2,e2,d2.trans d1,fun z=>absurd f z⟩
  ·exact ⟨o,st _ _ (B.k1 a o e n f),rfl,fun _=>rfl⟩
 ·exact (X.H.ce l c e).mono (Le.refl _) fun o q=>cell l o (zaa e) q
 ·obtain ⟨⟨o1,es,ep,e1,d1⟩,r⟩:=X.H.lv a z
  obtain ⟨o2,e2,d2⟩:=lv' a z o1 e1
  exact ⟨⟨o2,es,ep,e2,d2.trans d1⟩,r⟩
 ·have:=X.sh; show ({ σ'.s with heap:=h',toks:=tk }:Shared) = _; rw [this]
 ·obtain ⟨o1,e1,_⟩:=X.H.alive hl
  cases (cell l o1 hl e1).symm.trans e
  exact B.k3 l o hl e1
end
noncomputable abbrev veT:Value:=.type "ValueError"
noncomputable def frs (l:List Env):List Addr:=l.filterMap (·.frame)
noncomputable def Frs (g:Gh) (l:List Env):Prop:=∀ env ∈ l,env.scope.kind = .function /\ ∃ L,env.frame = some L /\ g.fl L
structure Fly (σ σ':St) (l:List Env) (msg:Str) (e:Addr):Prop where
 X:Ext σ σ' noOwn
 ex:∃ (b:Heap) (t:Addr) (tt:Tok),Heap.FlyingW b l e veT (.ref t) σ'.s.heap /\ σ'.s.heap.TupAt t [.str msg tt] /\ b.get? t = none /\ Bs σ σ' b
noncomputable def ERuns (C:Cx) (A:Around) (σ:St) (f:Value) (args':List Value) (kws':List (Str × Value)) (l:List Env) (msg:Str):Prop :=
 ∀ R:Result -> Shared -> Prop,(∀ e σ',Fly σ σ' l msg e -> (∃ xs,σ'.g.cs = σ.g.cs ++ xs) -> R (.error (.ref e)) σ'.s) -> codeAny C.M A (.call f ⟨args',kws'⟩) R σ.s
theorem zr9 {l:List Env} {a:Addr} (h:a ∈ frs l):∃ env ∈ l,env.frame = some a:=List.mem_filterMap.mp h
theorem frs_fl {g:Gh} {l:List Env} (F:Frs g l) {a:Addr} (h:a ∈ frs l):g.fl a:=by
 obtain ⟨env,he,hf⟩:=zr9 h
 obtain ⟨_,L,h1,h2⟩:=F env he
 cases hf.symm.trans h1
 exact h2
theorem zjp {h b:Heap} {l:List Env}:(∀ env ∈ l,env.scope.kind = .function /\ ∃ L,env.frame = some L /\ b.get? L = none /\ ∃ o es ep,h.get? L = some o /\ o.data = .dict es ep) -> h.FunFrames b l:=by
 induction l with
 | nil=>exact fun _=>trivial
 | cons env l ih =>
  intro H
  obtain ⟨hk,L,hf,hn,o,es,ep,ho,hd⟩:=H env List.mem_cons_self
  exact ⟨by rw [hk]; decide,⟨L,o,hf,hn,ho,fun vs q=>by rw [hd] at q; cases q⟩,ih fun e he=>H e (List.mem_cons_of_mem _ he)⟩
section
variable {C:Cx} {A:Around} {Φ:Fm} {σ σ5 σ':St} {l:List Env} {msg:Str} {e:Addr} {E:Value -> Shared -> Prop}
theorem zq1 {h:Heap} {a:Addr} {m:Str -> Option Value} (hn:h.Ns a m):∃ o es ep,h.get? a = some o /\ o.data = .dict es ep:=by
 obtain ⟨o,es,ep,e,d,_⟩:=hn; exact ⟨o,es,ep,e,d⟩
theorem zwz {L:Str -> Option V} {M:Model} (hA:Φ.A.frames = some (Φ.env :: l)) (fr:Φ.env.frame = some Φ.env.locals) (F:Frs σ.g l) (X:Ext σ σ5 noOwn) (dead:σ.s.heap.get? Φ.env.locals = none) (S:FRel σ5.g Φ.env L σ5.s.heap) {h6:Heap} {tk:Nat} {tt:Tok}
  (hx:Heap.MadeExc σ5.s.heap h6 e "ValueError" [.str msg tt]) {Q:Unit -> Shared -> Prop} (k:∀ h',Fly σ (σ5.up h' tk σ5.g) l msg e -> Q () { σ5.s with heap:=h',toks:=tk }):wpAny M Φ.A (leaving Φ.env (.ref e)) Q E { σ5.s with heap:=h6,toks:=tk }:=by
 let H:=frs (Φ.env :: l)
 let b:=hideAll σ5.s.heap H
 have mem:∀ a,a ∈ H -> a = Φ.env.locals \/ σ5.g.fl a:=fun a ha=>by
  obtain ⟨env,he,hf⟩:=zr9 ha
  rcases List.mem_cons.mp he with rfl | he
  ·exact .inl (Option.some.inj (hf.symm.trans fr))
  ·exact .inr (X.le.fl.symm ▸ frs_fl F (List.mem_filterMap.mpr ⟨env,he,hf⟩))
 obtain ⟨m,hn,_⟩:=S.ns
 have FF:σ5.s.heap.FunFrames b (Φ.env :: l):=zjp fun env he=>by
  rcases List.mem_cons.mp he with rfl | he'
  ·exact ⟨S.kind,_,fr,hideAll_none _ (List.mem_filterMap.mpr ⟨_,he,fr⟩),zq1 hn⟩
  ·obtain ⟨hk,L,hf,hl⟩:=F env he'
   exact ⟨hk,L,hf,hideAll_none _ (List.mem_filterMap.mpr ⟨_,he,hf⟩),(X.H.lv L (X.le.fl.symm ▸ hl)).1⟩
 have Bb:Bs σ σ5 b:=by
  refine ⟨fun a o ea n f=>hideAll_get _ (X.exact ea n (fun z=>z) f) fun ha=>?_,fun a o ea=>hideAll_get _ (X.H.fz _ _ ea) fun ha=>?_,fun l o hl ea=>hideAll_get _ ea fun ha=>?_⟩
  ·rcases mem a ha with rfl | z
   ·rw [dead] at ea; cases ea
   ·exact f (X.le.fl ▸ z)
  ·rcases mem a ha with rfl | z
   ·rw [S.lfree] at ea; cases ea
   ·rw [(X.H.lv a z).2.2] at ea; cases ea
  ·rcases mem _ ha with z | z
   ·exact S.lcell l hl z
   ·exact (X.H.lv _ z).2.1 l hl rfl
 have hx':Heap.MadeExcOf σ5.s.heap h6 e veT [.str msg tt]:=⟨hx.keeps,hx.new,hx.there⟩
 refine wpAny_leaves_madeW (s:={ σ5.s with heap:=h6,toks:=tk }) (h:=σ5.s.heap) (base:=b) hA fr (fun a o q=>of_hideAll _ q) FF hx' fun h' t x1 x2 x3 x4=>?_
 obtain ⟨Y,B'⟩:=Bb.step X x1.1 ((Heap.UpToSlots.of_keeps hx.keeps).trans x4) tk
 exact k h' ⟨Y,b,t,tt,x1,x2,x3,B'⟩
theorem fly_on {M:Model} {env:Env} {L:Addr} (hA:A.frames = some (env :: l)) (fr:env.frame = some L) (F:Fly σ σ' (env :: l) msg e) {Q:Unit -> Shared -> Prop} (k:∀ h',Fly σ (σ'.up h' σ'.s.toks σ'.g) l msg e -> Q () { σ'.s with heap:=h' }) :
  wpAny M A (leaving env (.ref e)) Q E σ'.s:=by
 obtain ⟨b,t,tt,f1,f2,f3,Bb⟩:=F.ex
 refine wpAny_leaves_onW hA fr f1 fun h' x1 x2=>?_
 obtain ⟨Y,B'⟩:=Bb.step F.X x1.1 x2 σ'.s.toks
 exact k h' ⟨Y,b,t,tt,x1,f2.of_slots x2,f3,B'⟩
noncomputable def plus (f:Addr -> Prop) (L:Addr):Addr -> Prop:=fun a=>a = L \/ f a
theorem zfb {L:Str -> Option V} {env:Env} (H:HRel σ.g σ.s.heap) (S:FRel σ.g env L σ.s.heap):HRel (σ.g.wfl (plus σ.g.fl env.locals)) σ.s.heap:=H.wfl fun a z=>by
 rcases z with rfl | z
 ·obtain ⟨m,hn,_⟩:=S.ns
  exact ⟨zq1 hn,S.lcell,S.lfree⟩
 ·exact H.lv a z
theorem zdz {L:Addr} (X:Ext (σ.wfl (plus σ.g.fl L)) σ' noOwn) (H:HRel σ.g σ.s.heap):Ext σ (σ'.wfl σ.g.fl) (fun a=>a = L):=by
 have e:σ'.g.fl = plus σ.g.fl L:=X.le.fl
 refine ⟨⟨X.le.n,X.le.ρ,X.le.hf,X.le.pr,rfl⟩,X.fresh,X.cfresh,fun a o ea n q=>?_,fun a o ea q=>X.lives ea,X.H.wfl fun a z=>X.H.lv a (by rw [e]; exact .inr z),X.sh⟩
 obtain ⟨o',e',d',f'⟩:=X.keep a o ea n fun z=>z
 exact ⟨o',e',d',fun z=>f' fun w=>w.elim q z⟩
theorem z2e {σ0:St} {L:Addr} (X0:Ext σ0 σ noOwn) (dead:σ0.s.heap.get? L = none) (F:Fly (σ.wfl (plus σ.g.fl L)) σ' l msg e):Fly σ0 (σ'.wfl σ.g.fl) l msg e:=by
 obtain ⟨b,t,tt,f1,f2,f3,Bb⟩:=F.ex
 have X1:Ext σ0 (σ'.wfl σ.g.fl) noOwn:=X0.trans' (zdz F.X X0.H) fun a z=>.inr (z ▸ dead)
 refine ⟨X1,b,t,tt,f1,f2,f3,fun a o ea n f=>?_,Bb.k2,Bb.k3⟩
 refine Bb.k1 a o (X0.exact ea n (fun z=>z) f) (fun i hi z=>X0.nce ea (fun j hj w=>n j hj w.symm) i hi z.symm) fun z=>?_
 rcases z with rfl | z
 ·rw [dead] at ea; cases ea
 ·exact f (X0.le.fl ▸ z)
end
end Mine
end
section
namespace Mine
open PySem PySem.SeqAt
noncomputable def isMat (m:Sre.M):Bool:=match m.outcome with | some .matched=>true | _=>false
noncomputable def hitM (c:Nat):Sre.M:=(Sre.forSearch nameCode #[c] 0 0 1 false).runFor 4
theorem z11:∀ c:Fin 32,isMat (hitM c.val) = true:=by decide +kernel
theorem z12:isMat (hitM 127) = true:=by decide +kernel
theorem z13 {c:Nat} (h:nameBad c = true):(hitM c).outcome = some .matched:=by
 have k:isMat (hitM c) = true:=by
  unfold nameBad at h
  rcases (Bool.or_eq_true _ _).mp h with h | h
  ·exact z11 ⟨c,Nat.lt_succ_of_le (of_decide_eq_true h)⟩
  ·exact eq_of_beq h ▸ z12
 unfold isMat at k
 generalize (hitM c).outcome = o at k ⊢
 cases o with
 | none=>cases k
 | some o=>cases o with
  | matched=>rfl
  | failed=>cases k
  | stuck w=>cases k
noncomputable def IsMat (h:Heap) (a:Addr):Prop:=∃ vs,h.get? a = some ⟨.type "re.Match",none,.fields vs,#[]⟩
section
variable {C:Cx} {A:Around} {σ:St}
theorem zny {a:Addr} {c:Nat} (Pa:PatAt C.base a nameCode) (H:HRel σ.g σ.s.heap) (B:Base C σ.g) {t:Tok} (hb:nameBad c = true) {Q:Value -> Shared -> Prop} {E:Value -> Shared -> Prop} (k:∀ m σ',Ext σ σ' noOwn -> σ'.g = σ.g -> IsMat σ'.s.heap m -> Q (.ref m) σ'.s) :
  wpAny C.M A (call (.builtin "re.Pattern.search") [.ref a,.str ⟨#[c]⟩ t]) Q E σ.s:=by
 obtain ⟨b,o1,o2,o3,o4,o5,its,n,e1,e2,e3⟩:=Pa.at_
 have h1:=H.fz _ _ (B.hf _ _ e1)
 have h2:=H.fz _ _ (B.hf _ _ e2)
 refine wpAny_call_entry za2 ⟨_,h1,rfl⟩ zcw ?_ (zc7 _ _)
 unfold Builtin.«re.Pattern.search»
 refine wpAny_bind ?_
 unfold Builtin.Re.reTarget
 dsimp only
 rw [zji]
 refine wpAny_bind (wpAny_pure ?_)
 dsimp only
 refine wpAny_bind (wpAny_pure (wpAny_bind (wpAny_pure ?_)))
 refine wpAny_bind (wpAny_fieldsOf h1 rfl ?_)
 refine wpAny_bind ?_
 show wpAny _ _ (pure (#[c],0)) _ _ _
 refine wpAny_pure ?_
 dsimp only
 show wpAny _ _ (Builtin.Re.reNoCollectionInside _ 0 >>= _) _ _ _
 refine wpAny_bind (m:=Builtin.Re.reNoCollectionInside _ 0) (wpAny_pure ?_)
 refine wpAny_bind ?_
 show wpAny _ _ (Builtin.Re.reRawItems (.ref b)) _ _ _
 unfold Builtin.Re.reRawItems
 refine wpAny_bind (wpAny_seqItems h2 rfl (wpAny_pure (wpAny_pure ?_)))
 simp only [Option.getD_some]
 rw [e3]
 have l0:min (0:Int).toNat (#[c]:Array Nat).size = 0:=Nat.zero_min _
 have l1:min ((2:Int) ^ 63 - 1).toNat (#[c]:Array Nat).size = 1:=Nat.min_eq_right (show 1 <= ((2:Int) ^ 63 - 1).toNat by decide +kernel)
 rw [l0,l1]
 show wpAny _ _ (Builtin.Re.reAnswer ⟨.ref a,.str ⟨#[c]⟩ t,nameCode,#[c],0,0,0,1⟩ (Sre.forSearch nameCode #[c] 0 0 1 false)) _ _ _
 unfold Builtin.Re.reAnswer
 refine wpAny_bind ?_
 unfold Builtin.Re.reRunToEnd
 refine wpAny_bind ?_
 obtain ⟨n64,h64⟩:∃ n,(2:Nat) ^ 64 = n + 1:=⟨2 ^ 64 - 1,(Nat.sub_add_cancel (Nat.pow_pos (by decide))).symm⟩
 have hm:=z13 hb
 rw [h64,zg7 n64 _ (by show (hitM c).outcome.isSome = true; rw [hm]; rfl)]
 refine wpAny_pure ?_
 refine wpAny_bind (zca _ _ ?_ _)
 show wpAny _ _ (match (hitM c).outcome with | some .matched=>pure (some (hitM c)) | some .failed=>pure none | some (.stuck why)=>unsupported s!"_sre:{why}" | none=>unsupported "internal:sre:no-outcome") _ _ _
 rw [hm]
 refine wpAny_pure ?_
 dsimp only
 refine wpAny_bind ?_
 show wpAny _ _ (newTuple [_,_] >>= fun x=>newFields "re.Match" [_,_,_,_,_,x]) _ _ _
 refine wpAny_bind (wpAny_newTuple ?_)
 unfold newFields
 refine wpAny_newObj_type ?_
 refine wpAny_pure ⟨_,rfl,?_⟩
 exact k _ (σ.up _ _ σ.g) (Ext.keeps H fun a o e=>Heap.get?_push_of_some _ (Heap.get?_push_of_some _ e)) rfl ⟨_,Heap.get?_push_size _ rfl⟩
end
theorem zgz:typeLookup (.type "re.Match") "__bool__" = pure none:=by rw [typeLookup_type,builtinLookup_eq_fast]; kernel_rfl
theorem zjf:typeLookup (.type "re.Match") "__len__" = pure none:=by rw [typeLookup_type,builtinLookup_eq_fast]; kernel_rfl
theorem zph {M:Model} {A:Around} {s:Shared} {a:Addr} {Q:Bool -> Shared -> Prop} {E:Value -> Shared -> Prop} (h:IsMat s.heap a) (k:Q true s):wpAny M A (truthy (.ref a)) Q E s:=by
 obtain ⟨vs,e⟩:=h
 have hT:s.TypeIs (.ref a) "re.Match":=⟨_,e,rfl⟩
 unfold truthy
 first
  | refine wpAny_bind (wpAny_callSpecial?_none (name:=Str.ofString "__bool__") hT zgz ?_)
  | refine wpAny_bind (wpAny_pure (wpAny_bind (wpAny_callSpecial?_none (name:=Str.ofString "__bool__") hT zgz ?_)))
 first
  | refine wpAny_bind (wpAny_specialOf (name:=Str.ofString "__len__") hT zjf ?_)
  | refine wpAny_bind (wpAny_pure (wpAny_bind (wpAny_specialOf (name:=Str.ofString "__len__") hT zjf ?_)))
 exact wpAny_pure k
end Mine
end
section
namespace Mine
open PySem PySem.SeqAt PySem.W
section
variable {C:Cx} {Φ:Fm} {ns:List Str} {σ:St} {Q:Flow -> Shared -> Prop} {E:Value -> Shared -> Prop} {msg:Str}
theorem ERuns.runs {A:Around} {f:Value} {a:List Value} {k:List (Str × Value)} {l:List Env} (h:ERuns C A σ f a k l msg) {Q:Value -> Shared -> Prop} (q:∀ e σ',Fly σ σ' l msg e -> (∃ xs,σ'.g.cs = σ.g.cs ++ xs) -> E (.ref e) σ'.s):wpAny C.M A (call f a k) Q E σ.s:=wpAny_call (h _ q)
theorem zqr {n e:ED} {x:Str} {np cpos pos:Pos} (hn:n.ast = .Name x np) (On:EOk C Φ ns n) (Oe:EOk C Φ ns e) {sl:Slots} (S:Std C Φ (look ns sl) σ) {T:List Cell -> Prop} (q:n.val sl σ.g.cs fun v cs=>v = .typ "ValueError" /\ vals [e] sl cs fun vs cs=>vs = [.str msg] /\ T cs)
  (k:∀ σ5 h6 x tt,Ext σ σ5 noOwn -> Std C Φ (look ns sl) σ5 -> T σ5.g.cs -> Heap.MadeExc σ5.s.heap h6 x "ValueError" [.str msg tt] -> E (.ref x) { σ5.s with heap:=h6 }) :
  wpAny C.M Φ.A (exec (.Raise (some (.Call (.Name x np) [e.ast] [] cpos)) none pos) Φ.env) Q E σ.s:=by
 have O:∀ d ∈ [e],EOk C Φ ns d:=fun d hd=>List.mem_singleton.mp hd ▸ Oe
 have pl:=(zau cpos O).1
 refine wpAny_Raise_call PySem.F.excCall_ValueError PySem.F.excRaise_ValueError S.O.hh (List.any_eq_false.mpr fun t ht=>by rw [pl t ht]; exact Bool.false_ne_true) (hn ▸ On.val sl σ _ S q _ _ fun v v' σ1 X1 r1 q1=>?_)
 obtain ⟨rfl,q1⟩:=q1
 cases r1.inv
 refine ⟨rfl,?_⟩
 refine zcu (kv:=[]) cpos [] rfl O (fun _ z=>nomatch z) (S.ext X1) (T:=fun vs _ cs=>vs = [.str msg] /\ T cs) q1 fun vs us a σ2 X2 ra q2=>?_
 obtain ⟨rfl,q2⟩:=q2
 obtain ⟨w,hw,rw_⟩:=ra.pos.one
 obtain ⟨tt,rfl,_⟩:=rw_.inv
 refine ⟨ra.kw.nil_of,by rw [hw]; exact (by decide:1 <= sizeLine),fun h' x hm=>?_⟩
 rw [hw] at hm
 exact k σ2 h' x tt (X1.trans X2) ((S.ext X1).ext X2) q2 hm
theorem zjz (ds:List SD) {rest:List Stmt} {K1:KF}:(∀ d ∈ ds,SOk C Φ ns d) -> (∀ fl sl cs,K1 fl sl cs -> fl = .next) -> ∀ sl σ,Std C Φ (look ns sl) σ -> bden ds sl σ.g.cs K1 -> (∀ sl' σ',Ext σ σ' (ownOf Φ.env) -> Std C Φ (look ns sl') σ' -> K1 .next sl' σ'.g.cs -> wpAny C.M Φ.A (execs rest Φ.env) Q E σ'.s) ->
  wpAny C.M Φ.A (execs (ds.map SD.ast ++ rest) Φ.env) Q E σ.s:=by
 induction ds with
 | nil=>exact fun _ _ sl σ S q h=>h sl σ (Ext.refl S.H _) S q
 | cons d ds ih =>
  intro O hx sl σ S q h
  refine wpAny_execs_cons (O d List.mem_cons_self sl σ _ S q _ _ fun fl sl1 f σ1 X1 r1 S1 q1=>?_)
  cases r1 with
  | next=>exact ih (fun x hx=>O x (List.mem_cons_of_mem _ hx)) hx sl1 σ1 S1 q1 fun sl' σ' X' S' q'=>h sl' σ' (X1.trans X') S' q'
  | brk=>cases hx _ _ _ q1
  | cont=>cases hx _ _ _ q1
  | ret r=>cases hx _ _ _ q1
theorem if_raw {t:ED} {a b:List Stmt} {p:Pos} {sl:Slots} {T:List Cell -> Prop} (O:EOk C Φ ns t) (S:Std C Φ (look ns sl) σ) (q:t.tst sl σ.g.cs fun c cs=>c = true /\ T cs) (h:∀ σ',Ext σ σ' noOwn -> Std C Φ (look ns sl) σ' -> T σ'.g.cs -> wpAny C.M Φ.A (execs a Φ.env) Q E σ'.s) :
  wpAny C.M Φ.A (exec (.If t.ast a b p) Φ.env) Q E σ.s:=by
 refine wpAny_If (O.tst sl σ _ S q _ _ fun c c' σ1 X1 rc q1=>?_)
 cases (rc:c' = c)
 obtain ⟨rfl,q1⟩:=q1
 exact h σ1 X1 (S.ext X1) q1
end
section
variable {C:Cx} {A:Around} {σ:St} {sc:Scope} {ns:List Str} {K:KV}
theorem z2d (L:Lim0 C) {f:Addr} {body:List Stmt} {fd:FuncData} (Fa:FnAt0 C f sc body fd) (O:AOk A (C.d + 1)) (H:HRel σ.g σ.s.heap) (B:Base C σ.g) {ps:List (Str × Nat)} {vs:List V} (hps:ps.length = vs.length)
  {args':List Value} {kws':List (Str × Value)} {sl:Slots} (hb:∀ (Q:List (Str × Value) -> Shared -> Prop) (E:Value -> Shared -> Prop),(∀ bs' σ',Ext σ σ' noOwn -> σ'.g.cs = σ.g.cs -> KRel σ'.g ((ps.map (·.1)).zip vs) bs' -> CloOk σ' sc fd.closure ns sl -> Q bs' σ'.s) -> wpAny C.M A.in1 (bindArgs fd ⟨args',kws'⟩) Q E σ.s)
  (hw:ps.all (fun p=>tgt1 sc (ownNs sc ++ ns) p.1 p.2) = true)
  (hbody:∀ (Φ:Fm) (σ3:St),Φ.env.scope = sc -> InFn C A σ fd Φ σ3 -> Std C Φ (look (ownNs sc ++ ns) (bindP ps vs (List.replicate (ownNs sc).length none ++ sl))) σ3 ->
   XRuns C Φ (ownNs sc ++ ns) σ3 (execs body Φ.env) fun fl _ cs=>K (retOf fl) cs):CRuns C A σ (.ref f) args' kws' K:=fun R k=>by
 refine zii L Fa O H B hps hb hw fun Φ σ3 hsc I S3=>hbody Φ σ3 hsc I S3 _ _ fun fl sl' fv σ4 X4 r4 S4 q4=>?_
 have X14:=(I.X.trans X4).drop_own I.own0
 cases r4 with
 | ret rr=>exact k _ _ σ4 X14 rr q4
 | next=>exact k .none .none σ4 X14 .none q4
 | brk=>exact k .none .none σ4 X14 .none q4
 | cont=>exact k .none .none σ4 X14 .none q4
theorem zzv (B:Base C σ.g) (H:HRel σ.g σ.s.heap) (lo:∃ o,C.base cStatics = some o) {D:Addr} (h:σ.s.heap.objs.size <= D):(D == sysModules) = false:=by
 obtain ⟨o,e⟩:=lo
 have h1:cStatics < σ.s.heap.objs.size:=Heap.lt_size (H.fz _ _ (B.hf _ _ e))
 exact beq_false_of_ne (Nat.ne_of_gt (Nat.lt_trans (by decide) (Nat.lt_of_lt_of_le h1 h)))
noncomputable abbrev BdW (K:Frag) (a:Addr) (n m l p:Str):Prop:=∀ v u t:Value,(fdO K a).map (fun fd=>bindArgs fd ⟨[v,u,t],[]⟩) = some (Sem.alloc { cls:=.type "dict",data:=.dict #[] } fun d=>.pure [(n,v),(m,u),(l,t),(p,.ref d)])
theorem bindsW {n m l p:Str} {a:Addr} {KK:Frag} {fd:FuncData} (hf:fdO KK a = some fd) (Bd:BdW KK a n m l p) (H:HRel σ.g σ.s.heap) (B:Base C σ.g) (lo:∃ o,C.base cStatics = some o) {x y z:V} {x' y' z':Value} (rx:VRel σ.g x x') (ry:VRel σ.g y y') (rz:VRel σ.g z z') {Q:List (Str × Value) -> Shared -> Prop} {E:Value -> Shared -> Prop}
  (k:∀ bs' σ',Ext σ σ' noOwn -> σ'.g.cs = σ.g.cs -> KRel σ'.g [(n,x),(m,y),(l,z),(p,.dct [] [])] bs' -> Q bs' σ'.s):wpAny C.M A (bindArgs fd ⟨[x',y',z'],[]⟩) Q E σ.s:=by
 rw [zai hf (Bd x' y' z')]
 have X:Ext σ (σ.up (σ.s.heap.push (dictO [] 0)) σ.s.toks (σ.g.freeze σ.s.heap.objs.size (dictO [] 0))) noOwn:=Ext.freeze H (fun a o e=>Heap.get?_push_of_some _ e) (get?_size _) (Heap.get?_push_size _ rfl) fun _ e=>nomatch e
 show wpAny C.M A (alloc { cls:=.type "dict",data:=.dict #[] } >>= fun d=>pure [(n,x'),(m,y'),(l,z'),(p,Value.ref d)]) Q E σ.s
 refine wpAny_bind (wpAny_alloc (wpAny_pure ?_))
 exact k _ _ X rfl (.cons ⟨rfl,rx.mono X.le⟩ (.cons ⟨rfl,ry.mono X.le⟩ (.cons ⟨rfl,rz.mono X.le⟩ (.cons ⟨rfl,.dct (zam ..) .nil .nil (zzv B H lo (Nat.le_refl _))⟩ .nil))))
end
section
variable {C:Cx} {Φ:Fm} {ns:List Str} {σ:St}
theorem zg2 {t:Tgt} {x:Str} {i:Nat} {xp ap cp p:Pos} {body:List Stmt} {sl:Slots} {K2:KF} (w:(ED.loc x i xp).wf Φ.env.scope ns = true) (hf:mformB ap cp 0 0 = true) (S:Std C Φ (look ns sl) σ) (q:(ED.loc x i xp).val sl σ.g.cs fun v cs=>v = .dct [] [] /\ cs = σ.g.cs) (k:K2 .next sl σ.g.cs) :
  XRuns C Φ ns σ (exec (.For t.ast (.Call (.Attribute (.Name x xp) ("items" : Str) ap) [] [] cp) body [] p) Φ.env) K2:=fun Q E kk=>by
 refine wpAny_For (zb8 (o:=ED.loc x i xp) (es:=[]) (kv:=[]) (kn:=[]) (n:=0) (H:=fun v cs=>v = .dct [] [] /\ cs = σ.g.cs) (zaw _ _ _ Φ _ w) rfl (fun _ z=>nomatch z) rfl hf S q fun ov ov' σ1 X1 S1 r1 h1=>?_) (fun _=>rfl)
 obtain ⟨rfl,c1⟩:=h1
 obtain ⟨a,es,ep,rfl,e1,hk,_,hs⟩:=r1.inv
 cases hk.nil_of
 have f1:=S1.H.fz _ _ e1
 have hm:σ1.s.heap.DictAt (strKind C.prog C.w) a [] ep:=⟨_,_,f1,⟨rfl,rfl,rfl⟩,rfl,fun e he=>(nomatch he),.nil,List.nodup_nil⟩
 have tI:σ1.s.TypeIs (.ref a) "dict":=⟨_,f1,rfl⟩
 refine ⟨.builtin "dict.items",fun pl Q E k=>getMethod_builtin (T := "dict") tI F.plainAttrs_dict F.slot_dict_items F.type_dict_items (fun b hb=>by cases hb; exact ⟨_,f1,rfl⟩) (k _),fun tk=>?_⟩
 refine evalArgs_kw_nil rfl (wpAny_pure ?_)
 refine ⟨fun E Q k=>wpAny_pure (k _),?_⟩
 refine call_meetsIn F.slot_dict_items ⟨_,f1,rfl⟩ F.entry_dict_items (F.args_dict_items_1 _) (meets_dict_items (strKind C.prog C.w) a hs) ⟨⟨_,hm.dictOf⟩,?_⟩
 let h2:=σ1.s.heap.push { cls:=.type "dict_items",data:=.fields #[.ref a] }
 have k2:∀ b o,σ1.s.heap.get? b = some o -> h2.get? b = some o:=fun b o e=>Heap.get?_push_of_some _ e
 have hm2:h2.DictAt (strKind C.prog C.w) a [] ep:=⟨_,_,k2 _ _ f1,⟨rfl,rfl,rfl⟩,rfl,fun e he=>(nomatch he),.nil,List.nodup_nil⟩
 have hv:h2.IsItemsView σ1.s.heap.objs.size a:=⟨_,Heap.get?_push_size _ rfl,rfl,rfl⟩
 refine wpAny_pyIter_items (knd:=strKind C.prog C.w) hv hm2 ?_
 let it:Addr:=h2.objs.size
 let h3:=h2.push { cls:=.type "dict_itemiterator",data:=.fields #[.none,.bool false,.ref a,.int 0 0,.int (([]:List (Str × Value)).length:Nat) 0,.int ep 0,.none,.none] }
 have k3:∀ b o,σ1.s.heap.get? b = some o -> h3.get? b = some o:=fun b o e=>Heap.get?_push_of_some _ (k2 b o e)
 refine zsa fun E'=>wpAny_pyNext_items_end (knd:=strKind C.prog C.w) (kvs:=[]) (i:=0) S1.O.hh (Heap.get?_push_size h2 rfl) ⟨_,_,k3 _ _ f1,⟨rfl,rfl,rfl⟩,rfl,fun e he=>(nomatch he),.nil,List.nodup_nil⟩ rfl fun h' hx=>⟨rfl,?_⟩
 have X2:Ext σ1 (σ1.up h' tk σ1.g) noOwn:=Ext.keeps S1.H fun b o e=>hx b o (fun z=>absurd (Heap.lt_size (k2 b o e)) (by rw [z]; exact Nat.lt_irrefl _)) (k3 b o e)
 have S2:=S1.ext X2
 exact kk .next sl .next _ (toOwn (X1.trans X2)) .next S2 (show K2 .next sl σ1.g.cs from c1 ▸ k)
end
noncomputable def stayV (v:V):Prop:=∀ {g:Gh} (cs:List Cell) {w:Value},VRel g v w -> VRel { g with cs:=cs } v w
theorem zl9 (x:Str):stayV (.str x):=fun cs w r=>by obtain ⟨t,rfl,h⟩:=r.inv; exact .str _ _ h
theorem zi7 {xs:List V} (h:∀ x ∈ xs,stayV x) {g:Gh} (cs:List Cell):∀ {ws:List Value},VRels g xs ws -> VRels { g with cs:=cs } xs ws:=by
 induction xs with
 | nil=>intro ws r; cases r.nil_of; exact .nil
 | cons x xs ih=>intro ws r; obtain ⟨w,ws',rfl,h1,r⟩:=r.cons_of; exact .cons (h x List.mem_cons_self cs h1) (ih (fun y hy=>h y (List.mem_cons_of_mem _ hy)) r)
theorem zup {xs:List V} (h:∀ x ∈ xs,stayV x):stayV (.tup xs):=fun {g} cs {w} r=>by
 obtain ⟨a,vs,ep,rfl,e,r,hl⟩:=r.inv
 exact .tup (show Gh.hf { g with cs:=cs } a = _ from e) (zi7 h cs r) hl
section
variable {σ σ2:St} {xs c0:List Cell}
theorem zs1 (H0:HRel σ.g σ.s.heap) (X:Ext σ σ2 noOwn) (e:σ2.g.cs = c0 ++ xs) (hl:c0.length = σ.g.cs.length) (st:∀ (l:Nat) (c:Cell),c0[l]? = some c -> σ.g.cs[l]? = some c \/ ∃ ys,c = Cell.list ys /\ ∀ y ∈ ys,stayV y):Ext σ ⟨σ2.s,{ σ2.g with cs:=c0 }⟩ noOwn:=by
 have hlt:∀ {l},l < c0.length -> l < σ2.g.cs.length:=fun h=>by rw [e,List.length_append]; exact Nat.lt_of_lt_of_le h (Nat.le_add_right _ _)
 have Sh:Shr σ.g σ2.g { σ2.g with cs:=c0 }:=⟨Nat.le_of_eq hl.symm,rfl,fun _ _ q=>q,rfl⟩
 exact ⟨⟨Nat.le_of_eq hl.symm,X.le.ρ,X.le.hf,X.le.pr,X.le.fl⟩,X.fresh,fun l a b=>absurd (hl ▸ b:l < σ.g.cs.length) (Nat.not_lt.mpr a),X.keep,X.ownk,
  ⟨X.H.fz,fun l c q=>by
   have q2:=X.H.ce l c (by rw [e,List.getElem?_append_left (zaa q)]; exact q)
   rcases st l c (show c0[l]? = some c from q) with h | ⟨ys,rfl,h⟩
   ·exact (H0.ce l c h).shrink Sh q2
   ·obtain ⟨vs,ep,a,r,z⟩:=q2
    exact ⟨vs,ep,a,zi7 h c0 r,z⟩,fun l hl=>X.H.ap l (hlt hl),fun l l' a b q=>X.H.inj l l' (hlt a) (hlt b) q,X.H.nofr,fun a z=>⟨(X.H.lv a z).1,fun l hl=>(X.H.lv a z).2.1 l (hlt hl),(X.H.lv a z).2.2⟩⟩,X.sh⟩
variable {C:Cx} {A:Around} {f:Value} {args':List Value} {kws':List (Str × Value)} {K:KV}
theorem CRuns.dropC (hl:c0.length = σ.g.cs.length) (st:∀ (l:Nat) (c:Cell),c0[l]? = some c -> σ.g.cs[l]? = some c \/ ∃ ys,c = Cell.list ys /\ ∀ y ∈ ys,stayV y) (h:CRuns C A σ f args' kws' fun v c=>v = .none /\ (∃ xs,c = c0 ++ xs) /\ K .none c0) (H:HRel σ.g σ.s.heap):CRuns C A σ f args' kws' K:=fun R k =>
 h R fun v a σ2 X r q=>by
  obtain ⟨rfl,⟨xs,e⟩,q⟩:=q
  cases r.inv
  exact k _ _ ⟨σ2.s,{ σ2.g with cs:=c0 }⟩ (zs1 H X e hl st) .none q
theorem Fly.drop {l:List Env} {msg:Str} {x:Addr} (F:Fly σ σ2 l msg x) (e:σ2.g.cs = σ.g.cs ++ xs) (H:HRel σ.g σ.s.heap):Fly σ ⟨σ2.s,{ σ2.g with cs:=σ.g.cs }⟩ l msg x:=by
 obtain ⟨b,t,tt,f1,f2,f3,B⟩:=F.ex
 exact ⟨zg6 H F.X e,b,t,tt,f1,f2,f3,B.k1,B.k2,fun l o hl q=>B.k3 l o (by rw [e,List.length_append]; exact Nat.lt_of_lt_of_le hl (Nat.le_add_right _ _)) q⟩
end
theorem LawOk.other {C:Cx} {K:Frag} {l:Law} (O:LawOk C K l) (f:Addr -> Prop) (d:Nat):LawOk { C with fl:=f,d:=d,fm:=fun _ _=>True } K l :=
 ⟨⟨⟨O.W.inK.sub⟩,O.W.blt,O.W.glo,O.W.lim,O.W.lo,O.W.bmain⟩,O.globs,O.cf,fun a bad h=>by
  obtain ⟨code,⟨q⟩,s⟩:=O.pats a bad h
  exact ⟨code,⟨q⟩,s⟩⟩
section
variable {σ σ4:St} {L:Str -> Option V} {env:Env}
theorem FRel.after (F:FRel σ.g env L σ.s.heap) (H:HRel σ.g σ.s.heap) (X:Ext (σ.wfl (plus σ.g.fl env.locals)) σ4 noOwn):FRel (σ4.wfl σ.g.fl).g env L σ4.s.heap :=
 have Y:=zdz X H
 {
  kind:=F.kind,glo:=F.glo,blt:=F.blt
  ns:=by
   obtain ⟨m,⟨o,es,ep,e,d,sk⟩,r⟩:=F.ns
   obtain ⟨o',e',d',_⟩:=X.keep _ o e (fun l hl z=>F.lcell l hl z.symm) (fun z=>z)
   exact ⟨m,⟨o',es,ep,e',d'.trans d,sk⟩,fun y v a b=>(r y v a b).imp fun _ h=>⟨h.1,h.2.mono Y.le⟩⟩
  lfree:=by obtain ⟨o,e⟩:=F.alive _ (.inl rfl); exact Y.nhf e F.lfree
  lcell:=by obtain ⟨o,e⟩:=F.alive _ (.inl rfl); exact Y.nce e F.lcell
  nfl:=F.nfl
  cell:=fun y hy=>by
   obtain ⟨m,hn,_⟩:=F.ns
   obtain ⟨c,w,e,ic,r⟩:=F.cell y hy
   exact ⟨c,w,e,Y.isCell ic (IsCell_ne_ρ H ic) (zbg ic hn),fun v q=>(r v q).imp fun _ h=>⟨h.1,h.2.mono Y.le⟩⟩
  capart:=F.capart }
structure Puts (σ:St) (env:Env) (L:Str -> Option V) (x:Str) (m:Str -> Option Value):Prop where
 ns:σ.s.heap.Ns env.locals m
 at_:∀ y v,L y = some v -> env.kindOf y = some .local -> ∃ v',m y = some v' /\ VRel σ.g v v'
 put:∀ h' t vv,h'.Ns env.locals (fun y=>if y = x then vv else m y) -> Heap.SameBut env.locals σ.s.heap h' -> Ext σ (σ.up h' t σ.g) (fun a=>a = env.locals) /\ FRel σ.g env L h'
theorem zmi {x:Str} (F:FRel σ.g env L σ.s.heap) (H:HRel σ.g σ.s.heap) (lx:L x = none):∃ m,Puts σ env L x m:=by
 obtain ⟨m,hn,hr⟩:=F.ns
 refine ⟨m,hn,hr,fun h' t vv hn' hs=>?_⟩
 have X:Ext σ (σ.up h' t σ.g) (fun a=>a = env.locals):=⟨Le.refl _,fun _ _ e=>.inl e,fun l a b=>absurd b (Nat.not_lt.mpr a),fun b o eb nb nob=>⟨o,hs.extBut b o nob eb,rfl,fun _=>rfl⟩,fun b o eb hb=>by
   subst hb; obtain ⟨o',_,_,e,_⟩:=hn'; exact ⟨o',e⟩,H.keep fun b o eb q=>hs.extBut b o (fun z=>by
   subst z
   rcases q with q | ⟨l,hl,q⟩ | q
   ·rw [F.lfree] at q; cases q
   ·exact F.lcell l hl q.symm
   ·exact F.nfl q) eb,rfl⟩
 refine ⟨X,F.kind,F.glo,F.blt,⟨_,hn',fun y u q hy=>(hr y u q hy).imp fun _ z=>⟨(if_neg fun e=>by rw [e,lx] at q; cases q).trans z.1,z.2⟩⟩,F.lfree,F.lcell,F.nfl,fun y hy=>?_,F.capart⟩
 obtain ⟨c,w',a,b,r2⟩:=F.cell y hy
 obtain ⟨o,e1,e2⟩:=b
 exact ⟨c,w',a,⟨o,hs.extBut _ _ (fun z=>zbg ⟨o,e1,e2⟩ hn z) e1,e2⟩,r2⟩
end
theorem zok:isSubtype (.type ((Manifest.find? "ValueError").elim "type" fun x=>x.metatype)) (.type "tuple") = pure false:=by rw [isSubtype_type]; kernel_rfl
theorem z1s:isSubtype (.type "ValueError") (.type "ValueError") = pure true:=by rw [isSubtype_type]; kernel_rfl
section
variable {C:Cx} {Φ:Fm} {ns:List Str} {σ:St} {K:Frag} {sl:Slots} {msg:Str} {outer:List Env}
structure TryN (env:Env) (wn fn:Str):Prop where
 kV:env.kindOf "ValueError" = some .globalImplicit
 kS:env.kindOf "str" = some .globalImplicit
 kw:env.kindOf wn = some .local
 kf:env.kindOf fn = some .local
 dw:(wn == ("__debug__" : Str)) = false
 df:(fn == ("__debug__" : Str)) = false
theorem zt3 (W:W0 C K) (gS:GlobFact C.w K "str" (.typ "str")) {σ3:St} {A':Around} {E1 E2:Value -> Shared -> Prop} {R:Flow -> Shared -> Prop} {wp ap sp fp c2 cp e2:Pos} {wn fn:Str} {l:Nat} {ws:List V} {e t:Addr} {tt:Tok} (hu:A'.units + 2 < cLine)
  (F3:FRel σ3.g Φ.env (look ns sl) σ3.s.heap) (H3:HRel σ3.g σ3.s.heap) (B3:Base C σ3.g) (hs2:swapsWith (.Call (.Attribute (.Name wn wp) ("append" : Str) ap) [.Call (.Name ("str" : Str) sp) [.Name fn fp] [] c2] [] cp) none e2.line Φ.env = pure false) (hm:mformB ap cp 1 0 = true) (T:TryN Φ.env wn fn)
  (lw:look ns sl wn = some (.ref l)) (lf:look ns sl fn = none) (hl:σ3.g.cs[l]? = some (.list ws)) (hlim:ws.length < lim) (hmsg:msg.length <= lim)
  (xe:∀ h4:Heap,(∀ a o,σ3.s.heap.get? a = some o -> (∀ es ep,o.data ≠ .dict es ep) -> h4.get? a = some o) -> h4.ExcAt e "ValueError" (.ref t) /\ h4.TupAt t [.str msg tt])
  (k:∀ σ5,Ext σ3 σ5 (ownOf Φ.env) -> FRel σ5.g Φ.env (look ns sl) σ5.s.heap -> HRel σ5.g σ5.s.heap -> σ5.g.cs = σ3.g.cs.set l (.list (ws ++ [.str msg])) -> R .next σ5.s) :
  wpAny C.M A' (storeName Φ.env fn (.ref e)) (fun _ s₃=>wpAny C.M A' (execs [.Expr (.Call (.Attribute (.Name wn wp) ("append" : Str) ap) [.Call (.Name ("str" : Str) sp) [.Name fn fp] [] c2] [] cp) e2] Φ.env) R E2 s₃) E1 σ3.s:=by
 have hi:interactive Φ.env = false:=by unfold interactive; rw [F3.kind]; rfl
 have hpl:(Φ.env.scope.kind == .class || (Φ.env.scope.kind == .module && Φ.env.locals != Φ.env.globals)) = false:=by rw [F3.kind]; rfl
 obtain ⟨m3,P3⟩:=zmi F3 H3 lf
 refine wpAny_storeName_local T.kf P3.ns (fun h4 n4 s4=>?_) hpl
 obtain ⟨X4,F4⟩:=P3.put h4 (σ3.s.toks + 1) (some (.ref e)) n4 s4
 obtain ⟨wv,w1,w2⟩:=P3.at_ wn _ lw T.kw
 cases w2.inv.1
 have nwf:wn ≠ fn:=fun z=>by rw [z,lf] at lw; cases lw
 obtain ⟨oL,esL,epL,eL,dL,_⟩:=P3.ns
 obtain ⟨xe,xt⟩:=xe h4 fun a o ea nd=>s4.extBut a o (fun z=>by subst z; cases eL.symm.trans ea; exact nd _ _ dL) ea
 refine wpAny_execs_cons (wpAny_Expr_any (zg1 (fun _=>rfl) rfl (fun t ht=>by cases List.mem_singleton.mp ht; rfl) rfl rfl hm (wpAny_Name (wpAny_loadName_local F4.kind T.kw n4 ((if_neg nwf).trans w1) ⟨_,zc2 X4.H hl F.slot_list_append F.type_list_append,fun tk=>?_⟩) T.dw)) hi hs2)
 refine evalArgs_kw rfl (zbe (wpAny_Call_ofName (wpAny_Name (zf1 (σ:=σ3.up h4 tk σ3.g) W gS F3.glo F3.blt F3.kind T.kS X4.H B3 fun v' r=>?_) (by decide +kernel))))
 cases r.inv
 refine za0 (fun t ht=>by cases List.mem_singleton.mp ht; rfl) rfl (evalArgs_kw rfl (zbe (wpAny_Name (wpAny_loadName_local F4.kind T.kf n4 (if_pos rfl) ?_) T.df)))
 refine Calls.spliced_nil (wpAny_pure ⟨fun E Q k=>wpAny_pure (k _),?_⟩)
 refine P.str_of_exc_one PySem.F.excStr_ValueError ?_ xe xt ?_
 ·exact hu
 refine Calls.spliced_nil (wpAny_pure ⟨fun E Q k=>wpAny_pure (k _),?_⟩)
 refine zj3 (C:=C) (σ:=σ3.up h4 tk σ3.g) (K:=fun v cs=>cs = σ3.g.cs.set l (.list (ws ++ [.str msg]))) X4.H hl hlim (.str msg tt hmsg) rfl _ _ fun v a σ5 X5' r5 q5=>?_
 have X5:=(Ext.tok (own:=noOwn) (t:=tk) X4.H).trans X5'
 refine wpAny_execs_nil (k σ5 ((X4.mono fun _ z=>.inl z).trans (toOwn (Φ:=Φ) X5)) (F4.ext X4.H X5 fun _ z=>z.elim) X5.H q5)
theorem zpg (W:W0 C K) (gV:GlobFact C.w K "ValueError" (.typ "ValueError")) (gS:GlobFact C.w K "str" (.typ "str")) (S:Std C Φ (look ns sl) σ) (hA:Φ.A.frames = some (Φ.env :: outer)) (fr:Φ.env.frame = some Φ.env.locals) {ex:Expr} {ep tp wp ap sp fp c2 cp e2 hp p:Pos} {wn fn:Str} {l:Nat} {ws:List V} {K2:KF}
  (hs:swapsWith ex none ep.line Φ.env = pure false) (hs2:swapsWith (.Call (.Attribute (.Name wn wp) ("append" : Str) ap) [.Call (.Name ("str" : Str) sp) [.Name fn fp] [] c2] [] cp) none e2.line Φ.env = pure false) (hm:mformB ap cp 1 0 = true) (T:TryN Φ.env wn fn)
  (hx:∀ (Q:Value -> Shared -> Prop) (E:Value -> Shared -> Prop),(∀ e σ7 σ',Ext σ σ7 noOwn -> Std C Φ (look ns sl) σ7 -> σ7.g.cs = σ.g.cs -> Fly (σ7.wfl (plus σ7.g.fl Φ.env.locals)) σ' (Φ.env :: outer) msg e -> (∃ xs,σ'.g.cs = σ.g.cs ++ xs) -> E (.ref e) σ'.s) -> wpAny C.M Φ.A (eval ex Φ.env) Q E σ.s)
  (lw:look ns sl wn = some (.ref l)) (lf:look ns sl fn = none) (hl:σ.g.cs[l]? = some (.list ws)) (hlim:ws.length < lim) (hmsg:msg.length <= lim) (k:K2 .next sl (σ.g.cs.set l (.list (ws ++ [.str msg])))) :
  XRuns C Φ ns σ (exec (.Try [.Expr ex ep] [.ExceptHandler (some (.Name ("ValueError" : Str) tp)) (some fn) [.Expr (.Call (.Attribute (.Name wn wp) ("append" : Str) ap) [.Call (.Name ("str" : Str) sp) [.Name fn fp] [] c2] [] cp) e2] hp] [] [] p) Φ.env) K2:=fun Q E kk=>by
 have hi:interactive Φ.env = false:=by unfold interactive; rw [S.F.kind]; rfl
 have hpl:(Φ.env.scope.kind == .class || (Φ.env.scope.kind == .module && Φ.env.locals != Φ.env.globals)) = false:=by rw [S.F.kind]; rfl
 refine wpAny_Try_except (wpAny_execs_cons (wpAny_Expr_any (hx _ _ fun e σ7 σ' X7 S7 c7 Fl hc=>?_) hi hs))
 obtain ⟨xs,hc⟩:=hc
 have H7:=zfb S7.H S7.F
 have Fd:=Fl.drop (xs:=xs) (by rw [hc,<- c7]) H7
 obtain ⟨b,t,tt,f1,f2,f3,Bb⟩:=Fd.ex
 refine wpAny_looks_onW hA fr f1 fun h1 d1 u1=>wpAny_landsW d1 fun h2 f12 u2=>?_
 obtain ⟨Y1,B1⟩:=Bb.step Fd.X d1.1 u1 σ'.s.toks
 obtain ⟨Y2,B2⟩:=B1.step Y1 f12.1 u2 σ'.s.toks
 have Z2:=zdz Y2 S7.H
 obtain ⟨oe,he,hce⟩:=f12.there
 refine wpAny_handleBy_builtin_as (X := "ValueError") (T := "ValueError") (b:=true) PySem.F.excRaise_ValueError.isExc zok z1s (wpAny_Name (zf1 W gV S7.F.glo S7.F.blt S7.F.kind T.kV Z2.H (S7.B.le Z2.le) fun v' r=>?_) (by decide +kernel))
 cases r.inv
 refine ⟨rfl,⟨oe,he,hce⟩,?_⟩
 rw [if_pos rfl]
 refine PyProof.Rows.lands_againW f12 fun h3 f13 u3=>?_
 obtain ⟨Y3,B3⟩:=B2.step Y2 f13.1 u3 σ'.s.toks
 have X3:=zdz Y3 S7.H
 have F3:=S7.F.after S7.H Y3
 refine zt3 (σ3:=_) (e:=e) (t:=t) (tt:=tt) W gS (by show Φ.A.units + 2 < _; have:=S.O.un; lia) F3 X3.H (S7.B.le X3.le) hs2 hm T lw lf (by show σ7.g.cs[l]? = _; rw [c7]; exact hl) hlim hmsg (fun h4 neL=>⟨?_,?_⟩) fun σ5 X5 F5 H5 q5=>?_
 ·obtain ⟨_,_,_,oe,vs,_,_,_,h,⟨hc,h0⟩,hd,_⟩:=f13
  exact ⟨oe,vs,neL _ _ h (fun es ep q=>by rw [hd] at q; cases q),hc,hd,h0⟩
 ·obtain ⟨o,n,h,hc,hd⟩:=((f2.of_slots u1).of_slots u2).of_slots u3
  exact ⟨o,n,neL _ _ h (fun es ep q=>by rw [hd] at q; cases q),hc,hd⟩
 obtain ⟨m5,P5⟩:=zmi F5 H5 lf
 refine wpAny_nameGoes_keeps T.kf P5.ns hpl fun h6 vv n6 s6=>?_
 obtain ⟨X6,F6⟩:=P5.put h6 (σ5.s.toks + 1) vv n6 s6
 have own:∀ {σa σb:St},Ext σa σb (fun a=>a = Φ.env.locals) -> Ext σa σb (ownOf Φ.env):=fun X=>X.mono fun _ z=>.inl z
 have XX:=(toOwn (Φ:=Φ) X7).trans ((own X3).trans (X5.trans (own X6)))
 exact kk .next sl .next _ XX .next ⟨F6,X6.H,S.B.le XX.le,S.O⟩ (by rw [show σ5.g.cs = σ.g.cs.set l (.list (ws ++ [.str msg])) from q5.trans (congrArg (fun z=>z.set l (.list (ws ++ [.str msg]))) c7)]; exact k)
end
end Mine
end
section
namespace Mine
open PySem PySem.SeqAt PySem.W PySem.Calls
noncomputable abbrev pw1:=PySem.Challenge.pw_rs0231_01
noncomputable def exactL:List (String × Nat):=[("!",54),("!=",28),("%",24),("%=",40),("&",19),("&=",41),("(",7),(")",8),("*",16),("**",35),("**=",46),("*=",38),("+",14),("+=",36),(",",12),("-",15),("-=",37),("->",51),(".",23),("...",52),("/",17),("//",47),("//=",48),("/=",39),(":",11),(":=",53),(";",13),("<",20),("<<",33),("<<=",44),("<=",29),("=",22),("==",27),(">",21),(">=",30),(">>",34),(">>=",45),("@",49),("@=",50),("[",9),("]",10),("^",32),("^=",43),("{",25),("|",18),("|=",42),("}",26),("~",31)]
noncomputable def exactK:List Str:=exactL.map fun p=>S p.1
noncomputable def exactV:List V:=exactL.map fun p=>.int (p.2:Nat)
noncomputable def law1:Law where
 globs:=[(S "len",.bi "len"),(S "chr",.bi "chr"),(S "ord",.bi "ord"),(S "max",.bi "max"),(S "divmod",.bi "divmod"),(S "range",.typ "range"),(S "enumerate",.typ "enumerate"),(S "zip",.typ "zip"),(S "reversed",.typ "reversed"),(S "str",.typ "str"),(S "int",.typ "int"),(S "type",.typ "type"),(S "list",.typ "list"),(S "min",.bi "min"),(S "any",.bi "any"),(S "all",.bi "all"),(S "ValueError",.typ "ValueError"),(S "_name_disallowed_re",.adr 107),(S "_value_disallowed_re",.adr 112),(S "Headers",.adr 241),(S "_div2n1n",.adr 38),(S "_int2digits",.adr 52),(S "_digits2int",.adr 59),(S "_divmod_pos",.adr 66),(S "int_divmod",.adr 73),(S "ISTERMINAL",.adr 83),(S "ISNONTERMINAL",.adr 90),(S "ISEOF",.adr 97),(S "_law_written",.adr 250),(S "_law_gathered",.adr 255),(S "_law_carries",.adr 260),(S "_law_sign",.adr 267),(S "_law_led",.adr 272),(S "_law_sets",.adr 279),(S "NT_OFFSET",.int 256),(S "ENDMARKER",.int 0),(S "_DIV_LIMIT",.int 4000),(S "EXACT_TOKEN_TYPES",.dct exactK exactV)]
 cls:=241
 meths:=[(S "__init__",135),(S "_convert_string_type",142),(S "get_all",180),(S "get",188),(S "items",205),(S "setdefault",231),(S "add_header",238)]
 pats:=[(107,nameBad),(112,valBad)]
noncomputable def F_init:Stmt:=methAt pw1 69 0
noncomputable def z0o:IS:=(.asg (.nm (S "headers") 1 (pp 151 8 15)) (.ifx (.cmp (.nm (S "headers") 1 (pp 151 29 36)) .IsNot (.con .none 0 (pp 151 44 48)) (pp 151 29 48)) (.nm (S "headers") 1 (pp 151 18 25)) (.list true [] (pp 151 54 56)) (pp 151 18 56)) (pp 151 8 56))
noncomputable def z3e:List IS:=[(.raw ((thenOf ((bodyOf F_init).getD 1 default)).getD 0 default))]
noncomputable def z28:List IS:=[]
noncomputable def z0j:IS:=(.ite (.cmp (.call true (S "type") 11 (pp 152 11 15) [(.nm (S "headers") 1 (pp 152 16 23))] (pp 152 11 24)) .IsNot (.gl (S "list") 12 (pp 152 32 36)) (pp 152 11 36)) z3e z28 ⟨152,8,153,74⟩)
noncomputable def z0e:IS:=(.setA (.nm (S "self") 0 (pp 154 8 12)) (.nm (S "headers") 1 (pp 154 24 31)) (pp 154 8 21) (pp 154 8 31))
noncomputable def zpo:Tgt:=(.tup [((S "k"),2,(pp 156 16 17)),((S "v"),3,(pp 156 19 20))] 0 (pp 156 16 20))
noncomputable def ztm:List IS:=[(.expr (.cmcall (.nm (S "self") 0 (pp 157 16 20)) (S "_convert_string_type") 142 (pp 157 16 41) [(.nm (S "k") 2 (pp 157 42 43))] [((S "name"),(pp 157 45 54))] [(.con (.bool true) 0 (pp 157 50 54))] (pp 157 16 55)) (pp 157 16 55)),(.expr (.cmcall (.nm (S "self") 0 (pp 158 16 20)) (S "_convert_string_type") 142 (pp 158 16 41) [(.nm (S "v") 3 (pp 158 42 43))] [((S "name"),(pp 158 45 55))] [(.con (.bool false) 0 (pp 158 50 55))] (pp 158 16 56)) (pp 158 16 56))]
noncomputable def z2x:List IS:=[(.for_ zpo (.nm (S "headers") 1 (pp 156 24 31)) ztm ⟨156,12,158,56⟩)]
noncomputable def z2w:List IS:=[]
noncomputable def zz9:IS:=(.ite (.con (.bool true) 0 (pp 155 11 20)) z2x z2w ⟨155,8,158,56⟩)
noncomputable def I_init:List IS:=[z0o,z0j,z0e,zz9]
noncomputable def F_conv:Stmt:=methAt pw1 69 1
noncomputable def z3h:List IS:=[(.raw ((thenOf ((thenOf ((bodyOf F_conv).getD 0 default)).getD 1 default)).getD 0 default))]
noncomputable def z3f:List IS:=[]
noncomputable def z29:List IS:=[(.asg (.nm (S "regex") 3 (pp 162 12 17)) (.ifx (.nm (S "name") 2 (pp 162 43 47)) (.gl (S "_name_disallowed_re") 17 (pp 162 20 39)) (.gl (S "_value_disallowed_re") 18 (pp 162 53 73)) (pp 162 20 73)) (pp 162 12 73)),(.ite (.mcall (.nm (S "regex") 3 (pp 163 15 20)) .search (pp 163 15 27) [(.nm (S "value") 1 (pp 163 28 33))] (pp 163 15 34)) z3h z3f ⟨163,12,164,77⟩),(.ret (.nm (S "value") 1 (pp 165 19 24)) (pp 165 12 24))]
noncomputable def z24:List IS:=[]
noncomputable def z0f:IS:=(.ite (.cmp (.call true (S "type") 11 (pp 161 11 15) [(.nm (S "value") 1 (pp 161 16 21))] (pp 161 11 22)) .Is (.gl (S "str") 9 (pp 161 26 29)) (pp 161 11 29)) z29 z24 ⟨161,8,165,24⟩)
noncomputable def z0c:IS:=(.raw ((bodyOf F_conv).getD 1 default))
noncomputable def I_conv:List IS:=[z0f,z0c]
noncomputable def F_getall:Stmt:=methAt pw1 69 7
noncomputable def zqn:IS:=(.asg (.nm (S "name") 1 (pp 186 8 12)) (.cmcall (.nm (S "self") 0 (pp 186 15 19)) (S "_convert_string_type") 142 (pp 186 15 40) [(.mcall (.nm (S "name") 1 (pp 186 41 45)) .lower (pp 186 41 51) [] (pp 186 41 53))] [((S "name"),(pp 186 55 64))] [(.con (.bool true) 0 (pp 186 60 64))] (pp 186 15 65)) (pp 186 8 65))
noncomputable def zju:IE:=(.item (.nm (S "kv") 1 (pp 187 16 18)) (.con (.int (1)) 0 (pp 187 19 20)) (pp 187 16 21))
noncomputable def zi6:Tgt:=(.nm (S "kv") 1 (pp 187 26 28))
noncomputable def zjo:List IE:=[(.cmp (.mcall (.item (.nm (S "kv") 1 (pp 187 49 51)) (.con (.int (0)) 0 (pp 187 52 53)) (pp 187 49 54)) .lower (pp 187 49 60) [] (pp 187 49 62)) .Eq (.nm (S "name") 3 (pp 187 66 70)) (pp 187 49 70))]
noncomputable def zqk:Scope:=⟨.function,[((S ".0"),.local),((S "kv"),.local),((S "name"),.free)],false,false,[]⟩
noncomputable def zqj:IS:=(.ret (.lcomp false zju zi6 (.attr (.nm (S "self") 0 (pp 187 32 36)) (pp 187 32 45)) zjo zqk (pp 187 15 71)) (pp 187 8 71))
noncomputable def zx1:List IS:=[zqn,zqj]
noncomputable def F_get:Stmt:=methAt pw1 69 8
noncomputable def s0_get:IS:=(.asg (.nm (S "name") 1 (pp 190 8 12)) (.cmcall (.nm (S "self") 0 (pp 190 15 19)) (S "_convert_string_type") 142 (pp 190 15 40) [(.mcall (.nm (S "name") 1 (pp 190 41 45)) .lower (pp 190 41 51) [] (pp 190 41 53))] [((S "name"),(pp 190 55 64))] [(.con (.bool true) 0 (pp 190 60 64))] (pp 190 15 65)) (pp 190 8 65))
noncomputable def zx7:Tgt:=(.tup [((S "k"),3,(pp 191 12 13)),((S "v"),4,(pp 191 15 16))] 0 (pp 191 12 16))
noncomputable def b2_get:List IS:=[(.ret (.nm (S "v") 4 (pp 193 23 24)) (pp 193 16 24))]
noncomputable def b3_get:List IS:=[]
noncomputable def zyy:List IS:=[(.ite (.cmp (.mcall (.nm (S "k") 3 (pp 192 15 16)) .lower (pp 192 15 22) [] (pp 192 15 24)) .Eq (.nm (S "name") 1 (pp 192 28 32)) (pp 192 15 32)) b2_get b3_get ⟨192,12,193,24⟩)]
noncomputable def s5_get:IS:=(.for_ zx7 (.attr (.nm (S "self") 0 (pp 191 20 24)) (pp 191 20 33)) zyy ⟨191,8,193,24⟩)
noncomputable def s6_get:IS:=(.ret (.nm (S "default") 2 (pp 194 15 22)) (pp 194 8 22))
noncomputable def I_get:List IS:=[s0_get,s5_get,s6_get]
noncomputable def F_items:Stmt:=methAt pw1 69 11
noncomputable def zu4:IS:=(.ret (.slice false (.attr (.nm (S "self") 0 (pp 203 15 19)) (pp 203 15 28)) .absent .absent .absent (pp 203 29 30) (pp 203 15 31)) (pp 203 8 31))
noncomputable def z4d:List IS:=[zu4]
noncomputable def F_setd:Stmt:=methAt pw1 69 15
noncomputable def z0n:IS:=(.asg (.nm (S "result") 3 (pp 215 8 14)) (.cmcall (.nm (S "self") 0 (pp 215 17 21)) (S "get") 188 (pp 215 17 25) [(.nm (S "name") 1 (pp 215 26 30))] [] [] (pp 215 17 31)) (pp 215 8 31))
noncomputable def z3d:List IS:=[(.expr (.mcall (.attr (.nm (S "self") 0 (pp 217 12 16)) (pp 217 12 25)) .append (pp 217 12 32) [(.tup [(.cmcall (.nm (S "self") 0 (pp 217 34 38)) (S "_convert_string_type") 142 (pp 217 34 59) [(.nm (S "name") 1 (pp 217 60 64))] [((S "name"),(pp 217 66 75))] [(.con (.bool true) 0 (pp 217 71 75))] (pp 217 34 76)),(.cmcall (.nm (S "self") 0 (pp 217 78 82)) (S "_convert_string_type") 142 (pp 217 78 103) [(.nm (S "value") 2 (pp 217 104 109))] [((S "name"),(pp 217 111 121))] [(.con (.bool false) 0 (pp 217 116 121))] (pp 217 78 122))] 0 (pp 217 33 123))] (pp 217 12 124)) (pp 217 12 124)),(.ret (.nm (S "value") 2 (pp 218 19 24)) (pp 218 12 24))]
noncomputable def z27:List IS:=[(.ret (.nm (S "result") 3 (pp 220 19 25)) (pp 220 12 25))]
noncomputable def z0i:IS:=(.ite (.cmp (.nm (S "result") 3 (pp 216 11 17)) .Is (.con .none 0 (pp 216 21 25)) (pp 216 11 25)) z3d z27 ⟨216,8,220,25⟩)
noncomputable def I_setd:List IS:=[z0n,z0i]
noncomputable def F_addh:Stmt:=methAt pw1 69 16
noncomputable def zfs:IS:=(.asg (.nm (S "parts") 4 (pp 223 8 13)) (.list true [] (pp 223 16 18)) (pp 223 8 18))
noncomputable def z3g:List IS:=[(.asg (.nm (S "_value") 2 (pp 225 12 18)) (.cmcall (.nm (S "self") 0 (pp 225 21 25)) (S "_convert_string_type") 142 (pp 225 21 46) [(.nm (S "_value") 2 (pp 225 47 53))] [((S "name"),(pp 225 55 65))] [(.con (.bool false) 0 (pp 225 60 65))] (pp 225 21 66)) (pp 225 12 66)),(.expr (.mcall (.nm (S "parts") 4 (pp 226 12 17)) .append (pp 226 12 24) [(.nm (S "_value") 2 (pp 226 25 31))] (pp 226 12 32)) (pp 226 12 32))]
noncomputable def z3a:List IS:=[]
noncomputable def zfm:IS:=(.ite (.cmp (.nm (S "_value") 2 (pp 224 11 17)) .IsNot (.con .none 0 (pp 224 25 29)) (pp 224 11 29)) z3g z3a ⟨224,8,226,32⟩)
noncomputable def zhs:IS:=(.expr (.mcall (.attr (.nm (S "self") 0 (pp 234 8 12)) (pp 234 8 21)) .append (pp 234 8 28) [(.tup [(.cmcall (.nm (S "self") 0 (pp 234 30 34)) (S "_convert_string_type") 142 (pp 234 30 55) [(.nm (S "_name") 1 (pp 234 56 61))] [((S "name"),(pp 234 63 72))] [(.con (.bool true) 0 (pp 234 68 72))] (pp 234 30 73)),(.mcall (.con (.str (S "; ")) 0 (pp 234 75 79)) .join (pp 234 75 84) [(.nm (S "parts") 4 (pp 234 85 90))] (pp 234 75 91))] 0 (pp 234 29 92))] (pp 234 8 93)) (pp 234 8 93))
noncomputable def F_div2n1n:Stmt:=stAt pw1 3
noncomputable def zo0:List IS:=[(.ret (.call true (S "divmod") 4 (pp 6 15 21) [(.nm (S "a") 0 (pp 6 22 23)),(.nm (S "b") 1 (pp 6 25 26))] (pp 6 15 27)) (pp 6 8 27))]
noncomputable def zoz:List IS:=[]
noncomputable def zn8:IS:=(.ite (.cmp (.bin false (.mcall (.nm (S "a") 0 (pp 5 7 8)) .bits (pp 5 7 19) [] (pp 5 7 21)) .Sub (.nm (S "n") 2 (pp 5 24 25)) (pp 5 7 25)) .LtE (.gl (S "_DIV_LIMIT") 36 (pp 5 29 39)) (pp 5 7 39)) zo0 zoz ⟨5,4,6,27⟩)
noncomputable def zn7:IS:=(.raw ((bodyOf F_div2n1n).getD 1 default))
noncomputable def zn6:IS:=(.raw ((bodyOf F_div2n1n).getD 2 default))
noncomputable def zn4:IS:=(.raw ((bodyOf F_div2n1n).getD 3 default))
noncomputable def zn3:IS:=(.raw ((bodyOf F_div2n1n).getD 4 default))
noncomputable def zn1:IS:=(.swap (S "b1") 6 (pp 14 4 6) (S "b2") 7 (pp 14 8 10) (.bin false (.nm (S "b") 1 (pp 14 14 15)) .RShift (.nm (S "half_n") 4 (pp 14 19 25)) (pp 14 14 25)) (.bin false (.nm (S "b") 1 (pp 14 27 28)) .BitAnd (.nm (S "mask") 5 (pp 14 31 35)) (pp 14 27 35)) 0 0 (pp 14 4 10) (pp 14 13 36) (pp 14 4 36))
noncomputable def zn0:IS:=(.raw ((bodyOf F_div2n1n).getD 6 default))
noncomputable def znz:IS:=(.raw ((bodyOf F_div2n1n).getD 7 default))
noncomputable def zkz:IS:=(.raw ((bodyOf F_div2n1n).getD 8 default))
noncomputable def zkx:IS:=(.raw ((bodyOf F_div2n1n).getD 9 default))
noncomputable def zt0:List IS:=[zn8,zn7,zn6,zn4,zn3,zn1,zn0,znz,zkz,zkx]
noncomputable def F_int2digits:Stmt:=stAt pw1 5
noncomputable def zbi:IS:=(.asg (.nm (S "a_digits") 2 (pp 31 4 12)) (.bin true (.list false [(.con (.int (0)) 0 (pp 31 16 17))] (pp 31 15 18)) .Mult (.bin false (.bin false (.bin false (.mcall (.nm (S "a") 0 (pp 31 23 24)) .bits (pp 31 23 35) [] (pp 31 23 37)) .Add (.nm (S "n") 1 (pp 31 40 41)) (pp 31 23 41)) .Sub (.con (.int (1)) 0 (pp 31 44 45)) (pp 31 23 45)) .FloorDiv (.nm (S "n") 1 (pp 31 50 51)) (pp 31 22 51)) (pp 31 15 52)) (pp 31 4 52))
noncomputable def za6:List IE:=[(.nm (S "a") 0 (pp 44 14 15)),(.con (.int (0)) 0 (pp 44 17 18)),(.call true (S "len") 0 (pp 44 20 23) [(.nm (S "a_digits") 2 (pp 44 24 32))] (pp 44 20 33))]
noncomputable def ziw:List IS:=[(.expr (.call false (S "inner") 3 (pp 44 8 13) za6 (pp 44 8 34)) (pp 44 8 34))]
noncomputable def ziv:List IS:=[]
noncomputable def zci:IS:=(.ite (.nm (S "a") 0 (pp 43 7 8)) ziw ziv ⟨43,4,44,34⟩)
noncomputable def zch:IS:=(.ret (.nm (S "a_digits") 2 (pp 45 11 19)) (pp 45 4 19))
noncomputable def F_digits2int:Stmt:=stAt pw1 6
noncomputable def za7:List IE:=[(.con (.int (0)) 0 (pp 54 17 18)),(.call true (S "len") 0 (pp 54 20 23) [(.nm (S "digits") 0 (pp 54 24 30))] (pp 54 20 31))]
noncomputable def F_divmod_pos:Stmt:=stAt pw1 7
noncomputable def zh0:IS:=(.asg (.nm (S "n") 2 (pp 56 4 5)) (.mcall (.nm (S "b") 1 (pp 56 8 9)) .bits (pp 56 8 20) [] (pp 56 8 22)) (pp 56 4 22))
noncomputable def zhz:IS:=(.asg (.nm (S "a_digits") 3 (pp 57 4 12)) (.call true (S "_int2digits") 21 (pp 57 15 26) [(.nm (S "a") 0 (pp 57 27 28)),(.nm (S "n") 2 (pp 57 30 31))] (pp 57 15 32)) (pp 57 4 32))
noncomputable def zhw:IS:=(.asg (.nm (S "r") 4 (pp 58 4 5)) (.con (.int (0)) 0 (pp 58 8 9)) (pp 58 4 9))
noncomputable def zht:IS:=(.asg (.nm (S "q_digits") 5 (pp 59 4 12)) (.list true [] (pp 59 15 17)) (pp 59 4 17))
noncomputable def zdw:Tgt:=(.nm (S "a_digit") 6 (pp 60 8 15))
noncomputable def zd7:List IS:=[(.asg (.tup [((S "q_digit"),7,(pp 61 8 15)),((S "r"),4,(pp 61 17 18))] 0 (pp 61 8 18)) (.call true (S "_div2n1n") 20 (pp 61 21 29) [(.bin false (.bin false (.nm (S "r") 4 (pp 61 31 32)) .LShift (.nm (S "n") 2 (pp 61 36 37)) (pp 61 31 37)) .Add (.nm (S "a_digit") 6 (pp 61 41 48)) (pp 61 30 48)),(.nm (S "b") 1 (pp 61 50 51)),(.nm (S "n") 2 (pp 61 53 54))] (pp 61 21 55)) (pp 61 8 55)),(.expr (.mcall (.nm (S "q_digits") 5 (pp 62 8 16)) .append (pp 62 8 23) [(.nm (S "q_digit") 7 (pp 62 24 31))] (pp 62 8 32)) (pp 62 8 32))]
noncomputable def zhr:IS:=(.for_ zdw (.itf .rev (S "reversed") 8 (pp 60 19 27) [(.nm (S "a_digits") 3 (pp 60 28 36))] (pp 60 19 37)) zd7 ⟨60,4,62,32⟩)
noncomputable def zcg:IS:=(.expr (.mcall (.nm (S "q_digits") 5 (pp 63 4 12)) .reverse (pp 63 4 20) [] (pp 63 4 22)) (pp 63 4 22))
noncomputable def zcf:IS:=(.asg (.nm (S "q") 8 (pp 64 4 5)) (.call true (S "_digits2int") 22 (pp 64 8 19) [(.nm (S "q_digits") 5 (pp 64 20 28)),(.nm (S "n") 2 (pp 64 30 31))] (pp 64 8 32)) (pp 64 4 32))
noncomputable def zce:IS:=(.ret (.tup [(.nm (S "q") 8 (pp 65 12 13)),(.nm (S "r") 4 (pp 65 15 16))] 0 (pp 65 11 17)) (pp 65 4 17))
noncomputable def zka:List IS:=[zh0,zhz,zhw,zht,zhr,zcg,zcf,zce]
noncomputable def F_int_divmod:Stmt:=stAt pw1 8
noncomputable def zix:List IS:=[(.raw ((thenOf ((bodyOf F_int_divmod).getD 0 default)).getD 0 default))]
noncomputable def zct:List IS:=[(.asg (.tup [((S "q"),2,(pp 70 8 9)),((S "r"),3,(pp 70 11 12))] 0 (pp 70 8 12)) (.call true (S "int_divmod") 24 (pp 70 15 25) [(.un .USub (.nm (S "a") 0 (pp 70 27 28)) (pp 70 26 28)),(.un .USub (.nm (S "b") 1 (pp 70 31 32)) (pp 70 30 32))] (pp 70 15 33)) (pp 70 8 33)),(.ret (.tup [(.nm (S "q") 2 (pp 71 16 17)),(.un .USub (.nm (S "r") 3 (pp 71 20 21)) (pp 71 19 21))] 0 (pp 71 15 22)) (pp 71 8 22))]
noncomputable def zcs:List IS:=[(.asg (.tup [((S "q"),2,(pp 73 8 9)),((S "r"),3,(pp 73 11 12))] 0 (pp 73 8 12)) (.call true (S "int_divmod") 24 (pp 73 15 25) [(.un .Invert (.nm (S "a") 0 (pp 73 27 28)) (pp 73 26 28)),(.nm (S "b") 1 (pp 73 30 31))] (pp 73 15 32)) (pp 73 8 32)),(.ret (.tup [(.un .Invert (.nm (S "q") 2 (pp 74 17 18)) (pp 74 16 18)),(.bin false (.nm (S "b") 1 (pp 74 20 21)) .Add (.un .Invert (.nm (S "r") 3 (pp 74 25 26)) (pp 74 24 26)) (pp 74 20 26))] 0 (pp 74 15 27)) (pp 74 8 27))]
noncomputable def zcr:List IS:=[(.ret (.call true (S "_divmod_pos") 23 (pp 76 15 26) [(.nm (S "a") 0 (pp 76 27 28)),(.nm (S "b") 1 (pp 76 30 31))] (pp 76 15 32)) (pp 76 8 32))]
noncomputable def zcq:List IS:=[(.ite (.cmp (.nm (S "a") 0 (pp 72 9 10)) .Lt (.con (.int (0)) 0 (pp 72 13 14)) (pp 72 9 14)) zcs zcr ⟨72,4,76,32⟩)]
noncomputable def ziu:List IS:=[(.ite (.cmp (.nm (S "b") 1 (pp 69 9 10)) .Lt (.con (.int (0)) 0 (pp 69 13 14)) (pp 69 9 14)) zct zcq ⟨69,4,76,32⟩)]
noncomputable def zhq:IS:=(.ite (.cmp (.nm (S "b") 1 (pp 67 7 8)) .Eq (.con (.int (0)) 0 (pp 67 12 13)) (pp 67 7 13)) zix ziu ⟨67,4,76,32⟩)
noncomputable def zez:List IS:=[zhq]
noncomputable def F_ISTERMINAL:Stmt:=stAt pw1 61
noncomputable def zh1:IS:=(.ret (.cmp (.nm (S "x") 0 (pp 130 11 12)) .Lt (.gl (S "NT_OFFSET") 34 (pp 130 15 24)) (pp 130 11 24)) (pp 130 4 24))
noncomputable def zkb:List IS:=[zh1]
noncomputable def F_ISNONTERMINAL:Stmt:=stAt pw1 62
noncomputable def ze2:IS:=(.ret (.cmp (.nm (S "x") 0 (pp 132 11 12)) .GtE (.gl (S "NT_OFFSET") 34 (pp 132 16 25)) (pp 132 11 25)) (pp 132 4 25))
noncomputable def zgh:List IS:=[ze2]
noncomputable def F_ISEOF:Stmt:=stAt pw1 63
noncomputable def zu5:IS:=(.ret (.cmp (.nm (S "x") 0 (pp 134 11 12)) .Eq (.gl (S "ENDMARKER") 35 (pp 134 16 25)) (pp 134 11 25)) (pp 134 4 25))
noncomputable def z4e:List IS:=[zu5]
noncomputable def F_law_written:Stmt:=stAt pw1 71
noncomputable def zgo:IS:=(.swap (S "text") 1 (pp 237 4 8) (S "pairs") 2 (pp 237 10 15) (.con (.str (S "")) 0 (pp 237 19 21)) (.list true [] (pp 237 23 25)) 0 0 (pp 237 4 15) (pp 237 18 26) (pp 237 4 26))
noncomputable def zap:Tgt:=(.nm (S "place") 3 (pp 238 8 13))
noncomputable def zgr:List IS:=[(.asg (.nm (S "text") 1 (pp 242 12 16)) (.bin false (.nm (S "text") 1 (pp 242 19 23)) .Add (.item (.list false [(.con (.str (S "<")) 0 (pp 242 27 30)),(.con (.str (S ">")) 0 (pp 242 32 35)),(.con (.str (S "<=")) 0 (pp 242 37 41)),(.con (.str (S ">=")) 0 (pp 242 43 47)),(.con (.str (S "==")) 0 (pp 242 49 53)),(.con (.str (S "!=")) 0 (pp 242 55 59))] (pp 242 26 60)) (.bin false (.item (.nm (S "cells") 0 (pp 242 61 66)) (.con (.int (5)) 0 (pp 242 67 68)) (pp 242 61 69)) .Mod (.con (.int (6)) 0 (pp 242 72 73)) (pp 242 61 73)) (pp 242 26 74)) (pp 242 19 74)) (pp 242 12 74))]
noncomputable def zgq:List IS:=[]
noncomputable def zb7:IE:=(.tup [(.nm (S "name") 1 (pp 245 23 27)),(.nm (S "sign") 9 (pp 245 29 33))] 0 (pp 245 22 34))
noncomputable def zbz:Tgt:=(.nm (S "name") 1 (pp 245 39 43))
noncomputable def zb5:List IE:=[(.bools .And [(.cmp (.call true (S "ord") 2 (pp 245 56 59) [(.nm (S "name") 1 (pp 245 60 64))] (pp 245 56 65)) .GtE (.con (.int (32)) 0 (pp 245 69 71)) (pp 245 56 71)),(.cmp (.call true (S "ord") 2 (pp 245 76 79) [(.nm (S "name") 1 (pp 245 80 84))] (pp 245 76 85)) .NotEq (.con (.int (127)) 0 (pp 245 89 92)) (pp 245 76 92))] (pp 245 56 92))]
noncomputable def zgk:Scope:=⟨.function,[((S ".0"),.local),((S "name"),.local),((S "ord"),.globalImplicit),((S "sign"),.free)],false,false,[]⟩
noncomputable def zad:List IS:=[(.swap (S "minus") 4 (pp 239 8 13) (S "filler") 5 (pp 239 15 21) (.bin false (.bin false (.item (.nm (S "cells") 0 (pp 239 25 30)) (.nm (S "place") 3 (pp 239 31 36)) (pp 239 25 37)) .FloorDiv (.con (.int (5)) 0 (pp 239 41 42)) (pp 239 25 42)) .Mod (.con (.int (2)) 0 (pp 239 45 46)) (pp 239 25 46)) (.call true (S "chr") 1 (pp 239 48 51) [(.bin false (.bin false (.item (.nm (S "cells") 0 (pp 239 52 57)) (.nm (S "place") 3 (pp 239 58 63)) (pp 239 52 64)) .FloorDiv (.con (.int (10)) 0 (pp 239 68 70)) (pp 239 52 70)) .Mod (.con (.int (160)) 0 (pp 239 73 76)) (pp 239 52 76))] (pp 239 48 77)) 0 0 (pp 239 8 21) (pp 239 24 78) (pp 239 8 78)),(.asg (.nm (S "names") 6 (pp 240 8 13)) (.bin false (.item (.con (.str (S "xXyY1")) 0 (pp 240 16 23)) (.bin false (.item (.nm (S "cells") 0 (pp 240 24 29)) (.nm (S "place") 3 (pp 240 30 35)) (pp 240 24 36)) .Mod (.con (.int (5)) 0 (pp 240 39 40)) (pp 240 24 40)) (pp 240 16 41)) .Add (.ifx (.cmp (.nm (S "filler") 5 (pp 240 51 57)) .In (.con (.str (S "()[]:,;+-*/|&<>=.%{}~^@!xXyY1")) 0 (pp 240 61 92)) (pp 240 51 92)) (.con (.str (S "")) 0 (pp 240 45 47)) (.nm (S "filler") 5 (pp 240 98 104)) (pp 240 45 104)) (pp 240 16 105)) (pp 240 8 105)),(.ite (.cmp (.nm (S "place") 3 (pp 241 11 16)) .Eq (.con (.int (2)) 0 (pp 241 20 21)) (pp 241 11 21)) zgr zgq ⟨241,8,242,74⟩),(.asg (.nm (S "text") 1 (pp 243 8 12)) (.bin false (.bin false (.nm (S "text") 1 (pp 243 15 19)) .Add (.item (.con (.str (S "+-")) 0 (pp 243 22 26)) (.nm (S "minus") 4 (pp 243 27 32)) (pp 243 22 33)) (pp 243 15 33)) .Add (.nm (S "names") 6 (pp 243 36 41)) (pp 243 15 41)) (pp 243 8 41)),(.asg (.nm (S "sign") 7 (pp 244 8 12)) (.item (.con (.str (S "+-")) 0 (pp 244 15 19)) (.bin false (.bin false (.nm (S "minus") 4 (pp 244 21 26)) .Add (.call true (S "min") 13 (pp 244 29 32) [(.bin false (.nm (S "place") 3 (pp 244 33 38)) .FloorDiv (.con (.int (2)) 0 (pp 244 42 43)) (pp 244 33 43)),(.con (.int (1)) 0 (pp 244 45 46))] (pp 244 29 47)) (pp 244 21 47)) .Mod (.con (.int (2)) 0 (pp 244 51 52)) (pp 244 20 52)) (pp 244 15 53)) (pp 244 8 53)),(.expr (.mcall (.nm (S "pairs") 2 (pp 245 8 13)) .extend (pp 245 8 20) [(.lcomp false zb7 zbz (.nm (S "names") 6 (pp 245 47 52)) zb5 zgk (pp 245 21 93))] (pp 245 8 94)) (pp 245 8 94))]
noncomputable def zgj:IS:=(.for_ zap (.call true (S "range") 5 (pp 238 17 22) [(.con (.int (5)) 0 (pp 238 23 24))] (pp 238 17 25)) zad ⟨238,4,245,94⟩)
noncomputable def zfq:IS:=(.ret (.tup [(.nm (S "text") 1 (pp 246 12 16)),(.nm (S "pairs") 2 (pp 246 18 23))] 0 (pp 246 11 24)) (pp 246 4 24))
noncomputable def zi0:List IS:=[zgo,zgj,zfq]
noncomputable def F_law_gathered:Stmt:=stAt pw1 72
noncomputable def zfr:IS:=(.swap (S "table") 1 (pp 248 4 9) (S "words") 2 (pp 248 11 16) (.call true (S "Headers") 19 (pp 248 20 27) [] (pp 248 20 29)) (.list true [] (pp 248 31 33)) 0 0 (pp 248 4 16) (pp 248 19 34) (pp 248 4 34))
noncomputable def zfo:IS:=(.chain [((S "minus"),3,(pp 249 4 9)),((S "side"),4,(pp 249 12 16)),((S "kind"),5,(pp 249 19 23)),((S "behind"),6,(pp 249 26 32))] (.con (.int (0)) 0 (pp 249 35 36)) (pp 249 4 36))
noncomputable def zcz:Tgt:=(.nm (S "place") 7 (pp 250 8 13))
noncomputable def za5:IE:=(.nm (S "size") 1 (pp 252 40 44))
noncomputable def za1:Tgt:=(.nm (S "size") 1 (pp 252 49 53))
noncomputable def za4:List IE:=[(.cmp (.slice false (.nm (S "text") 2 (pp 252 67 71)) (.nm (S "place") 9 (pp 252 72 77)) (.bin false (.nm (S "place") 9 (pp 252 78 83)) .Add (.nm (S "size") 1 (pp 252 86 90)) (pp 252 78 90)) .absent (pp 252 72 90) (pp 252 67 91)) .In (.gl (S "EXACT_TOKEN_TYPES") 37 (pp 252 95 112)) (pp 252 67 112))]
noncomputable def zfh:Scope:=⟨.function,[((S ".0"),.local),((S "size"),.local),((S "EXACT_TOKEN_TYPES"),.globalImplicit),((S "place"),.free),((S "text"),.free)],false,false,[]⟩
noncomputable def zgd:List IS:=[(.raw ((thenOf ((thenOf ((loopOf ((bodyOf F_law_gathered).getD 2 default)).getD 0 default)).getD 2 default)).getD 0 default))]
noncomputable def zgc:List IS:=[(.asg (.nm (S "minus") 3 (pp 260 16 21)) (.bin false (.nm (S "symbol") 8 (pp 260 24 30)) .Sub (.con (.int (14)) 0 (pp 260 33 35)) (pp 260 24 35)) (pp 260 16 35))]
noncomputable def zgb:List IS:=[(.swap (S "kind") 5 (pp 262 16 20) (S "side") 4 (pp 262 22 26) (.nm (S "symbol") 8 (pp 262 30 36)) (.con (.int (1)) 0 (pp 262 38 39)) 0 0 (pp 262 16 26) (pp 262 29 40) (pp 262 16 40))]
noncomputable def zcx:List IS:=[(.ite (.cmp (.nm (S "symbol") 8 (pp 259 17 23)) .In (.tup [(.con (.int (14)) 0 (pp 259 28 30)),(.con (.int (15)) 0 (pp 259 32 34))] 0 (pp 259 27 35)) (pp 259 17 35)) zgc zgb ⟨259,12,262,40⟩)]
noncomputable def ze5:List IS:=[(.asg (.nm (S "behind") 6 (pp 252 12 18)) (.bin false (.nm (S "place") 7 (pp 252 21 26)) .Add (.call true (S "max") 3 (pp 252 29 32) [(.bin false (.list false [(.con (.int (1)) 0 (pp 252 34 35))] (pp 252 33 36)) .Add (.lcomp false za5 za1 (.tup [(.con (.int (2)) 0 (pp 252 58 59)),(.con (.int (3)) 0 (pp 252 61 62))] 0 (pp 252 57 63)) za4 zfh (pp 252 39 113)) (pp 252 33 113))] (pp 252 29 114)) (pp 252 21 114)) (pp 252 12 114)),(.asg (.nm (S "symbol") 8 (pp 253 12 18)) (.mcall (.gl (S "EXACT_TOKEN_TYPES") 37 (pp 253 21 38)) .get (pp 253 21 42) [(.slice false (.nm (S "text") 0 (pp 253 43 47)) (.nm (S "place") 7 (pp 253 48 53)) (.nm (S "behind") 6 (pp 253 54 60)) .absent (pp 253 48 60) (pp 253 43 61)),(.bin false (.gl (S "NT_OFFSET") 34 (pp 253 63 72)) .Add (.call true (S "ord") 2 (pp 253 75 78) [(.item (.nm (S "text") 0 (pp 253 79 83)) (.nm (S "place") 7 (pp 253 84 89)) (pp 253 79 90))] (pp 253 75 91)) (pp 253 63 91))] (pp 253 21 92)) (pp 253 12 92)),(.ite (.cmp (.call true (S "ISNONTERMINAL") 26 (pp 254 15 28) [(.nm (S "symbol") 8 (pp 254 29 35))] (pp 254 15 36)) .Is (.con (.bool true) 0 (pp 254 40 44)) (pp 254 15 44)) zgd zcx ⟨254,12,262,40⟩)]
noncomputable def zcv:IS:=(.ret (.tup [(.nm (S "table") 1 (pp 263 12 17)),(.nm (S "kind") 5 (pp 263 19 23)),(.nm (S "words") 2 (pp 263 25 30))] 0 (pp 263 11 31)) (pp 263 4 31))
noncomputable def F_law_carries:Stmt:=stAt pw1 73
noncomputable def zb4:IE:=(.nm (S "total") 1 (pp 265 14 19))
noncomputable def zbc:IE:=(.call true (S "int_divmod") 24 (pp 265 21 31) [(.bin false (.nm (S "way") 5 (pp 265 32 35)) .Mult (.nm (S "total") 1 (pp 265 38 43)) (pp 265 32 43)),(.bin false (.nm (S "way") 5 (pp 265 45 48)) .Mult (.con (.int (2)) 0 (pp 265 51 52)) (pp 265 45 52))] (pp 265 21 53))
noncomputable def zb0:Tgt:=(.nm (S "total") 1 (pp 265 58 63))
noncomputable def zb6:List IE:=[]
noncomputable def zgn:Scope:=⟨.function,[((S ".0"),.local),((S "total"),.local),((S "int_divmod"),.globalImplicit),((S "way"),.free)],false,false,[]⟩
noncomputable def zgm:IS:=(.asgI (S "halves") 5 (pp 265 4 10) zb4 zbc zb0 (.call true (S "range") 5 (pp 265 67 72) [(.un .USub (.con (.int (10)) 0 (pp 265 74 76)) (pp 265 73 76)),(.con (.int (11)) 0 (pp 265 78 80))] (pp 265 67 81)) zb6 zgn (pp 265 13 82) (pp 265 4 82))
noncomputable def zgl:IS:=(.asgT (.tup [((S "kept"),6,(pp 266 4 8)),((S "due"),7,(pp 266 10 13)),((S "found"),8,(pp 266 15 20)),((S "rows"),9,(pp 266 22 26))] 0 (pp 266 4 26)) [(.list true [] (pp 266 30 32)),(.list true [(.tup [(.bin true (.con (.str (S "c")) 0 (pp 266 36 39)) .Add (.call true (S "str") 9 (pp 266 42 45) [(.nm (S "start") 0 (pp 266 46 51))] (pp 266 42 52)) (pp 266 36 52)),(.con (.str (S "0")) 0 (pp 266 54 57))] 0 (pp 266 35 58))] (pp 266 34 59)),(.list true [(.tup [(.nm (S "start") 0 (pp 266 63 68)),(.con (.int (0)) 0 (pp 266 70 71))] 0 (pp 266 62 72))] (pp 266 61 73)),(.list true [] (pp 266 75 77))] 0 (pp 266 29 78) (pp 266 4 78))
noncomputable def zdl:IS:=(.asg (.nm (S "states") 10 (pp 267 4 10)) (.call true (S "Headers") 19 (pp 267 13 20) [(.nm (S "kept") 6 (pp 267 21 25))] (pp 267 13 26)) (pp 267 4 26))
noncomputable def zb3:IS:=(.asg (.nm (S "fine") 11 (pp 268 4 8)) (.cmp (.cmcall (.nm (S "states") 10 (pp 268 11 17)) (S "setdefault") 231 (pp 268 11 28) [(.bin false (.con (.str (S "c")) 0 (pp 268 29 32)) .Add (.call true (S "str") 9 (pp 268 35 38) [(.nm (S "start") 0 (pp 268 39 44))] (pp 268 35 45)) (pp 268 29 45)),(.con (.str (S "0")) 0 (pp 268 47 50))] [] [] (pp 268 11 51)) .Eq (.con (.str (S "0")) 0 (pp 268 55 58)) (pp 268 11 58)) (pp 268 4 58))
noncomputable def zdk:Tgt:=(.nm (S "total") 4 (pp 272 12 17))
noncomputable def zbv:IE:=(.bin false (.bin false (.nm (S "letter") 1 (pp 275 28 34)) .Add (.call true (S "str") 9 (pp 275 37 40) [(.nm (S "half") 16 (pp 275 41 45))] (pp 275 37 46)) (pp 275 28 46)) .Add (.bin false (.con (.str (S "+")) 0 (pp 275 49 52)) .Mult (.item (.nm (S "pair") 18 (pp 275 55 59)) (.con (.int (1)) 0 (pp 275 60 61)) (pp 275 55 62)) (pp 275 49 62)) (pp 275 28 62))
noncomputable def zc0:Tgt:=(.nm (S "letter") 1 (pp 275 67 73))
noncomputable def zc4:List IE:=[]
noncomputable def zfp:Scope:=⟨.function,[((S ".0"),.local),((S "letter"),.local),((S "str"),.globalImplicit),((S "half"),.free),((S "pair"),.free)],false,false,[]⟩
noncomputable def zgf:List IS:=[(.expr (.mcall (.nm (S "due") 7 (pp 278 16 19)) .extend (pp 278 16 26) [(.list false [(.tup [(.nm (S "name") 17 (pp 278 29 33)),(.call true (S "str") 9 (pp 278 35 38) [(.call true (S "len") 0 (pp 278 39 42) [(.nm (S "found") 8 (pp 278 43 48))] (pp 278 39 49))] (pp 278 35 50))] 0 (pp 278 28 51)),(.tup [(.nm (S "double") 18 (pp 278 54 60)),(.con (.str (S "0")) 0 (pp 278 62 65))] 0 (pp 278 53 66))] (pp 278 27 67))] (pp 278 16 68)) (pp 278 16 68)),(.expr (.cmcall (.nm (S "states") 10 (pp 279 16 22)) (S "add_header") 238 (pp 279 16 33) [(.nm (S "double") 18 (pp 279 34 40)),(.con (.str (S "0")) 0 (pp 279 42 45))] [] [] (pp 279 16 46)) (pp 279 16 46)),(.expr (.mcall (.nm (S "found") 8 (pp 280 16 21)) .append (pp 280 16 28) [(.nm (S "pair") 16 (pp 280 29 33))] (pp 280 16 34)) (pp 280 16 34))]
noncomputable def zge:List IS:=[]
noncomputable def zah:List IS:=[(.asg (.tup [((S "half"),14,(pp 273 12 16)),((S "rest"),15,(pp 273 18 22))] 0 (pp 273 12 22)) (.item (.nm (S "halves") 5 (pp 273 25 31)) (.nm (S "total") 4 (pp 273 32 37)) (pp 273 25 38)) (pp 273 12 38)),(.asgT (.nm (S "pair") 16 (pp 274 12 16)) [(.nm (S "half") 14 (pp 274 20 24)),(.call true (S "max") 3 (pp 274 26 29) [(.nm (S "mark") 13 (pp 274 30 34)),(.bin false (.nm (S "way") 3 (pp 274 36 39)) .Mult (.nm (S "rest") 15 (pp 274 42 46)) (pp 274 36 46))] (pp 274 26 47))] 0 (pp 274 19 48) (pp 274 12 48)),(.asgC (.tup [((S "name"),17,(pp 275 12 16)),((S "double"),18,(pp 275 18 24))] 0 (pp 275 12 24)) false zbv zc0 (.item (.list false [(.con (.str (S "cC")) 0 (pp 275 78 82)),(.con (.str (S "Cc")) 0 (pp 275 84 88))] (pp 275 77 89)) (.bin false (.call true (S "len") 0 (pp 275 90 93) [(.item (.nm (S "rows") 9 (pp 275 94 98)) (.un .USub (.con (.int (1)) 0 (pp 275 100 101)) (pp 275 99 101)) (pp 275 94 102))] (pp 275 90 103)) .Mod (.con (.int (2)) 0 (pp 275 106 107)) (pp 275 90 107)) (pp 275 77 108)) zc4 zfp (pp 275 27 109) (pp 275 12 109)),(.asg (.nm (S "told") 19 (pp 276 12 16)) (.cmcall (.nm (S "states") 10 (pp 276 19 25)) (S "setdefault") 231 (pp 276 19 36) [(.nm (S "name") 17 (pp 276 37 41)),(.call true (S "str") 9 (pp 276 43 46) [(.call true (S "len") 0 (pp 276 47 50) [(.nm (S "found") 8 (pp 276 51 56))] (pp 276 47 57))] (pp 276 43 58))] [] [] (pp 276 19 59)) (pp 276 12 59)),(.ite (.cmp (.nm (S "pair") 16 (pp 277 15 19)) .NotIn (.nm (S "found") 8 (pp 277 27 32)) (pp 277 15 32)) zgf zge ⟨277,12,280,34⟩),(.expr (.mcall (.item (.nm (S "rows") 9 (pp 281 12 16)) (.un .USub (.con (.int (1)) 0 (pp 281 18 19)) (pp 281 17 19)) (pp 281 12 20)) .append (pp 281 12 27) [(.mcall (.nm (S "found") 8 (pp 281 28 33)) .index (pp 281 28 39) [(.nm (S "pair") 16 (pp 281 40 44))] (pp 281 28 45))] (pp 281 12 46)) (pp 281 12 46)),(.asg (.nm (S "fine") 11 (pp 282 12 16)) (.bools .And [(.nm (S "fine") 11 (pp 282 19 23)),(.cmp (.nm (S "told") 19 (pp 282 28 32)) .Eq (.call true (S "str") 9 (pp 282 36 39) [(.item (.item (.nm (S "rows") 9 (pp 282 40 44)) (.un .USub (.con (.int (1)) 0 (pp 282 46 47)) (pp 282 45 47)) (pp 282 40 48)) (.un .USub (.con (.int (1)) 0 (pp 282 50 51)) (pp 282 49 51)) (pp 282 40 52))] (pp 282 36 53)) (pp 282 28 53))] (pp 282 19 53)) (pp 282 12 53))]
noncomputable def zc6:List IS:=[(.asg (.tup [((S "carry"),12,(pp 270 8 13)),((S "mark"),13,(pp 270 15 19))] 0 (pp 270 8 19)) (.item (.nm (S "found") 8 (pp 270 22 27)) (.call true (S "len") 0 (pp 270 28 31) [(.nm (S "rows") 9 (pp 270 32 36))] (pp 270 28 37)) (pp 270 22 38)) (pp 270 8 38)),(.expr (.mcall (.nm (S "rows") 9 (pp 271 8 12)) .append (pp 271 8 19) [(.list true [] (pp 271 20 22))] (pp 271 8 23)) (pp 271 8 23)),(.for_ zdk (.tup [(.nm (S "carry") 12 (pp 272 22 27)),(.bin false (.nm (S "carry") 12 (pp 272 29 34)) .Add (.nm (S "second") 2 (pp 272 37 43)) (pp 272 29 43)),(.bin false (.nm (S "carry") 12 (pp 272 45 50)) .Add (.nm (S "first") 1 (pp 272 53 58)) (pp 272 45 58)),(.bin false (.bin false (.nm (S "carry") 12 (pp 272 60 65)) .Add (.nm (S "first") 1 (pp 272 68 73)) (pp 272 60 73)) .Add (.nm (S "second") 2 (pp 272 76 82)) (pp 272 60 82))] 0 (pp 272 21 83)) zah ⟨272,8,282,53⟩)]
noncomputable def zbq:IS:=(.while_ (.cmp (.call true (S "len") 0 (pp 269 10 13) [(.nm (S "rows") 9 (pp 269 14 18))] (pp 269 10 19)) .Lt (.call true (S "len") 0 (pp 269 22 25) [(.nm (S "found") 8 (pp 269 26 31))] (pp 269 22 32)) (pp 269 10 32)) zc6 ⟨269,4,282,53⟩)
noncomputable def zbp:IS:=(.ret (.tup [(.bools .And [(.nm (S "fine") 11 (pp 283 12 16)),(.cmp (.nm (S "kept") 6 (pp 283 21 25)) .Eq (.nm (S "due") 7 (pp 283 29 32)) (pp 283 21 32))] (pp 283 12 32)),(.nm (S "found") 8 (pp 283 34 39)),(.nm (S "rows") 9 (pp 283 41 45))] 0 (pp 283 11 46)) (pp 283 4 46))
noncomputable def zd9:List IS:=[zgm,zgl,zdl,zb3,zbq,zbp]
noncomputable def F_law_sign:Stmt:=stAt pw1 74
noncomputable def zk0:IS:=(.swap (S "below") 2 (pp 285 4 9) (S "none") 3 (pp 285 11 15) (.call true (S "ISTERMINAL") 25 (pp 285 19 29) [(.bin false (.gl (S "NT_OFFSET") 34 (pp 285 30 39)) .Add (.nm (S "carry") 0 (pp 285 42 47)) (pp 285 30 47))] (pp 285 19 48)) (.call true (S "ISEOF") 27 (pp 285 50 55) [(.nm (S "carry") 0 (pp 285 56 61))] (pp 285 50 62)) 0 0 (pp 285 4 15) (pp 285 18 63) (pp 285 4 63))
noncomputable def zly:List IS:=[(.ret (.nm (S "mark") 1 (pp 287 15 19)) (pp 287 8 19))]
noncomputable def zlx:List IS:=[]
noncomputable def zkr:IS:=(.ite (.bools .And [(.cmp (.nm (S "below") 2 (pp 286 7 12)) .Is (.con (.bool false) 0 (pp 286 16 21)) (pp 286 7 21)),(.cmp (.nm (S "none") 3 (pp 286 26 30)) .Is (.con (.bool true) 0 (pp 286 34 38)) (pp 286 26 38))] (pp 286 7 38)) zly zlx ⟨286,4,287,19⟩)
noncomputable def zkq:IS:=(.ret (.ifx (.bools .And [(.cmp (.nm (S "below") 2 (pp 288 17 22)) .Is (.con (.bool true) 0 (pp 288 26 30)) (pp 288 17 30)),(.cmp (.nm (S "none") 3 (pp 288 35 39)) .Is (.con (.bool false) 0 (pp 288 43 48)) (pp 288 35 48))] (pp 288 17 48)) (.un .USub (.con (.int (1)) 0 (pp 288 12 13)) (pp 288 11 13)) (.con (.int (1)) 0 (pp 288 54 55)) (pp 288 11 55)) (pp 288 4 55))
noncomputable def zo7:List IS:=[zk0,zkr,zkq]
noncomputable def F_law_led:Stmt:=stAt pw1 75
noncomputable def zgv:Tgt:=(.nm (S "turn") 2 (pp 290 8 12))
noncomputable def zeq:IE:=(.bools .Or [(.item (.nm (S "marked") 4 (pp 291 18 24)) (.nm (S "k") 1 (pp 291 25 26)) (pp 291 18 27)),(.item (.nm (S "marked") 4 (pp 291 31 37)) (.item (.nm (S "row") 2 (pp 291 38 41)) (.con (.int (0)) 0 (pp 291 42 43)) (pp 291 38 44)) (pp 291 31 45)),(.item (.nm (S "marked") 4 (pp 291 49 55)) (.item (.nm (S "row") 2 (pp 291 56 59)) (.con (.int (1)) 0 (pp 291 60 61)) (pp 291 56 62)) (pp 291 49 63))] (pp 291 18 63))
noncomputable def zgu:Tgt:=(.tup [((S "k"),1,(pp 291 68 69)),((S "row"),2,(pp 291 71 74))] 0 (pp 291 68 74))
noncomputable def zg3:List IE:=[]
noncomputable def zn5:Scope:=⟨.function,[((S ".0"),.local),((S "k"),.local),((S "row"),.local),((S "marked"),.free)],false,false,[]⟩
noncomputable def zhe:List IS:=[(.asgC (.nm (S "marked") 1 (pp 291 8 14)) false zeq zgu (.itf .enum (S "enumerate") 6 (pp 291 78 87) [(.nm (S "rows") 0 (pp 291 88 92))] (pp 291 78 93)) zg3 zn5 (pp 291 17 94) (pp 291 8 94))]
noncomputable def zn2:IS:=(.for_ zgv (.nm (S "rows") 0 (pp 290 16 20)) zhe ⟨290,4,291,94⟩)
noncomputable def zep:IE:=(.call true (S "int") 10 (pp 292 24 27) [(.nm (S "one") 1 (pp 292 28 31))] (pp 292 24 32))
noncomputable def zec:Tgt:=(.nm (S "one") 1 (pp 292 37 40))
noncomputable def zem:List IE:=[]
noncomputable def zky:Scope:=⟨.function,[((S ".0"),.local),((S "one"),.local),((S "int"),.globalImplicit)],false,false,[]⟩
noncomputable def zkw:IS:=(.ret (.call true (S "_digits2int") 22 (pp 292 11 22) [(.lcomp false zep zec (.nm (S "marked") 1 (pp 292 44 50)) zem zky (pp 292 23 51)),(.con (.int (1)) 0 (pp 292 53 54))] (pp 292 11 55)) (pp 292 4 55))
noncomputable def ztz:List IS:=[zn2,zkw]
noncomputable def F_law_sets:Stmt:=stAt pw1 76
noncomputable def zk1:IS:=(.swap (S "sets") 1 (pp 294 4 8) (S "ways") 2 (pp 294 10 14) (.list true [(.con (.int (1)) 0 (pp 294 19 20))] (pp 294 18 21)) (.list true [] (pp 294 23 25)) 0 0 (pp 294 4 14) (pp 294 17 26) (pp 294 4 26))
noncomputable def zkk:Tgt:=(.nm (S "figure") 3 (pp 297 12 18))
noncomputable def zcc:Tgt:=(.tup [((S "k"),5,(pp 299 16 17)),((S "row"),6,(pp 299 19 22))] 0 (pp 299 16 22))
noncomputable def zlw:List IS:=[(.asg (.nm (S "there") 4 (pp 301 20 25)) (.bin false (.bin false (.nm (S "there") 4 (pp 301 28 33)) .BitOr (.bin false (.con (.int (1)) 0 (pp 301 36 37)) .LShift (.item (.nm (S "row") 6 (pp 301 41 44)) (.nm (S "figure") 3 (pp 301 45 51)) (pp 301 41 52)) (pp 301 36 52)) (pp 301 28 52)) .BitOr (.bin false (.con (.int (1)) 0 (pp 301 55 56)) .LShift (.item (.nm (S "row") 6 (pp 301 60 63)) (.bin false (.nm (S "figure") 3 (pp 301 64 70)) .Add (.con (.int (1)) 0 (pp 301 73 74)) (pp 301 64 74)) (pp 301 60 75)) (pp 301 55 75)) (pp 301 28 75)) (pp 301 20 75))]
noncomputable def zlv:List IS:=[]
noncomputable def zcp:List IS:=[(.ite (.cmp (.bin false (.bin false (.item (.nm (S "sets") 1 (pp 300 19 23)) (.bin false (.call true (S "len") 0 (pp 300 24 27) [(.nm (S "ways") 2 (pp 300 28 32))] (pp 300 24 33)) .Sub (.con (.int (1)) 0 (pp 300 36 37)) (pp 300 24 37)) (pp 300 19 38)) .RShift (.nm (S "k") 5 (pp 300 42 43)) (pp 300 19 43)) .BitAnd (.con (.int (1)) 0 (pp 300 46 47)) (pp 300 19 47)) .Eq (.con (.int (1)) 0 (pp 300 51 52)) (pp 300 19 52)) zlw zlv ⟨300,16,301,75⟩)]
noncomputable def zlu:List IS:=[(.expr (.mcall (.nm (S "sets") 1 (pp 303 16 20)) .append (pp 303 16 27) [(.nm (S "there") 4 (pp 303 28 33))] (pp 303 16 34)) (pp 303 16 34))]
noncomputable def zlt:List IS:=[]
noncomputable def zco:List IS:=[(.asg (.nm (S "there") 4 (pp 298 12 17)) (.con (.int (0)) 0 (pp 298 20 21)) (pp 298 12 21)),(.for_ zcc (.itf .enum (S "enumerate") 6 (pp 299 26 35) [(.nm (S "rows") 0 (pp 299 36 40))] (pp 299 26 41)) zcp ⟨299,12,301,75⟩),(.ite (.cmp (.nm (S "there") 4 (pp 302 15 20)) .NotIn (.nm (S "sets") 1 (pp 302 28 32)) (pp 302 15 32)) zlu zlt ⟨302,12,303,34⟩),(.expr (.mcall (.item (.nm (S "ways") 2 (pp 304 12 16)) (.un .USub (.con (.int (1)) 0 (pp 304 18 19)) (pp 304 17 19)) (pp 304 12 20)) .append (pp 304 12 27) [(.mcall (.nm (S "sets") 1 (pp 304 28 32)) .index (pp 304 28 38) [(.nm (S "there") 4 (pp 304 39 44))] (pp 304 28 45))] (pp 304 12 46)) (pp 304 12 46))]
noncomputable def zga:List IS:=[(.expr (.mcall (.nm (S "ways") 2 (pp 296 8 12)) .append (pp 296 8 19) [(.list true [] (pp 296 20 22))] (pp 296 8 23)) (pp 296 8 23)),(.for_ zkk (.tup [(.con (.int (0)) 0 (pp 297 23 24)),(.con (.int (2)) 0 (pp 297 26 27))] 0 (pp 297 22 28)) zco ⟨297,8,304,46⟩)]
noncomputable def zex:IS:=(.while_ (.cmp (.call true (S "len") 0 (pp 295 10 13) [(.nm (S "ways") 2 (pp 295 14 18))] (pp 295 10 19)) .Lt (.call true (S "len") 0 (pp 295 22 25) [(.nm (S "sets") 1 (pp 295 26 30))] (pp 295 22 31)) (pp 295 10 31)) zga ⟨295,4,304,46⟩)
noncomputable def zew:IS:=(.ret (.tup [(.nm (S "sets") 1 (pp 305 12 16)),(.nm (S "ways") 2 (pp 305 18 22))] 0 (pp 305 11 23)) (pp 305 4 23))
noncomputable def zo8:List IS:=[zk1,zex,zew]
noncomputable def F_law:Stmt:=stAt pw1 77
noncomputable def zyg:IS:=(.asg (.nm (S "cells") 1 (pp 307 4 9)) (.list true [(.con (.int (90)) 0 (pp 307 13 15)),(.con (.int (358)) 0 (pp 307 17 20)),(.con (.int (436)) 0 (pp 307 22 25)),(.con (.int (1272)) 0 (pp 307 27 31)),(.con (.int (323)) 0 (pp 307 33 36)),(.con (.int (10)) 0 (pp 307 38 40)),(.con (.int (1017)) 0 (pp 307 42 46)),(.con (.int (678)) 0 (pp 307 48 51))] (pp 307 12 52)) (pp 307 4 52))
noncomputable def zx6:Tgt:=(.tup [((S "place"),2,(pp 308 8 13)),((S "number"),3,(pp 308 15 21))] 0 (pp 308 8 21))
noncomputable def zyz:List IS:=[(.setI (.nm (S "cells") 1 (pp 309 8 13)) (.bin false (.nm (S "place") 2 (pp 309 14 19)) .Mod (.con (.int (8)) 0 (pp 309 22 23)) (pp 309 14 23)) (.bin false (.item (.nm (S "cells") 1 (pp 309 27 32)) (.bin false (.nm (S "place") 2 (pp 309 33 38)) .Mod (.con (.int (8)) 0 (pp 309 41 42)) (pp 309 33 42)) (pp 309 27 43)) .Add (.nm (S "number") 3 (pp 309 46 52)) (pp 309 27 52)) (pp 309 8 24) (pp 309 8 52))]
noncomputable def zyf:IS:=(.for_ zx6 (.itf .enum (S "enumerate") 6 (pp 308 25 34) [(.slice false (.nm (S "script") 0 (pp 308 35 41)) .absent (.con (.int (60)) 0 (pp 308 43 45)) .absent (pp 308 42 45) (pp 308 35 46))] (pp 308 25 47)) zyz ⟨308,4,309,52⟩)
noncomputable def zye:IS:=(.asg (.tup [((S "text"),4,(pp 310 4 8)),((S "pairs"),5,(pp 310 10 15))] 0 (pp 310 4 15)) (.call true (S "_law_written") 28 (pp 310 18 30) [(.nm (S "cells") 1 (pp 310 31 36))] (pp 310 18 37)) (pp 310 4 37))
noncomputable def zsu:IE:=(.nm (S "sign") 2 (pp 312 14 18))
noncomputable def zpl:Tgt:=(.tup [((S "letter"),1,(pp 312 23 29)),((S "sign"),2,(pp 312 31 35))] 0 (pp 312 23 35))
noncomputable def zrn:List IE:=[(.cmp (.nm (S "letter") 1 (pp 312 48 54)) .In (.nm (S "alike") 4 (pp 312 58 63)) (pp 312 48 63))]
noncomputable def s9_law:Scope:=⟨.function,[((S ".0"),.local),((S "letter"),.local),((S "sign"),.local),((S "alike"),.free)],false,false,[]⟩
noncomputable def zik:IE:=(.lcomp false zsu zpl (.nm (S "pairs") 7 (pp 312 39 44)) zrn s9_law (pp 312 13 64))
noncomputable def zhk:Tgt:=(.nm (S "alike") 1 (pp 312 69 74))
noncomputable def zig:List IE:=[]
noncomputable def zql:Scope:=⟨.function,[((S ".0"),.local),((S "alike"),.cell),((S "pairs"),.free)],false,false,[]⟩
noncomputable def zkv:IS:=(.asgC (.nm (S "signs") 9 (pp 312 4 9)) false zik zhk (.tup [(.con (.str (S "xX")) 0 (pp 312 79 83)),(.con (.str (S "yY")) 0 (pp 312 85 89)),(.con (.str (S "1")) 0 (pp 312 91 94))] 0 (pp 312 78 95)) zig zql (pp 312 12 96) (pp 312 4 96))
noncomputable def zll:IE:=(.bin false (.mcall (.nm (S "row") 1 (pp 313 28 31)) .count (pp 313 28 37) [(.con (.str (S "+")) 0 (pp 313 38 41))] (pp 313 28 42)) .Sub (.mcall (.nm (S "row") 1 (pp 313 45 48)) .count (pp 313 45 54) [(.con (.str (S "-")) 0 (pp 313 55 58))] (pp 313 45 59)) (pp 313 28 59))
noncomputable def zpu:Tgt:=(.nm (S "row") 1 (pp 313 64 67))
noncomputable def zrv:List IE:=[]
noncomputable def z0m:Scope:=⟨.function,[((S ".0"),.local),((S "row"),.local)],false,false,[]⟩
noncomputable def zku:IS:=(.asgC (.tup [((S "first"),10,(pp 313 4 9)),((S "second"),11,(pp 313 11 17)),((S "start"),12,(pp 313 19 24))] 0 (pp 313 4 24)) false zll zpu (.nm (S "signs") 9 (pp 313 71 76)) zrv z0m (pp 313 27 77) (pp 313 4 77))
noncomputable def zkt:IS:=(.asg (.nm (S "way") 13 (pp 314 4 7)) (.bin false (.con (.int (1)) 0 (pp 314 10 11)) .Sub (.bin false (.bin false (.bin false (.item (.nm (S "cells") 1 (pp 314 14 19)) (.con (.int (5)) 0 (pp 314 20 21)) (pp 314 14 22)) .FloorDiv (.con (.int (6)) 0 (pp 314 26 27)) (pp 314 14 27)) .Mod (.con (.int (2)) 0 (pp 314 30 31)) (pp 314 14 31)) .Mult (.con (.int (2)) 0 (pp 314 34 35)) (pp 314 14 35)) (pp 314 10 35)) (pp 314 4 35))
noncomputable def zks:IS:=(.asg (.tup [((S "fine"),14,(pp 315 4 8)),((S "found"),15,(pp 315 10 15)),((S "rows"),16,(pp 315 17 21))] 0 (pp 315 4 21)) (.call true (S "_law_carries") 30 (pp 315 24 36) [(.nm (S "start") 12 (pp 315 37 42)),(.nm (S "first") 10 (pp 315 44 49)),(.nm (S "second") 11 (pp 315 51 57)),(.nm (S "way") 13 (pp 315 59 62))] (pp 315 24 63)) (pp 315 4 63))
noncomputable def zlk:IE:=(.con (.str (S "Control characters not allowed in headers")) 0 (pp 316 11 54))
noncomputable def zkj:Tgt:=(.nm (S "sign") 1 (pp 316 59 63))
noncomputable def zld:List IE:=[(.bools .Or [(.cmp (.call true (S "ord") 2 (pp 316 75 78) [(.nm (S "sign") 1 (pp 316 79 83))] (pp 316 75 84)) .Lt (.con (.int (32)) 0 (pp 316 87 89)) (pp 316 75 89)),(.cmp (.call true (S "ord") 2 (pp 316 93 96) [(.nm (S "sign") 1 (pp 316 97 101))] (pp 316 93 102)) .Eq (.con (.int (127)) 0 (pp 316 106 109)) (pp 316 93 109))] (pp 316 75 109))]
noncomputable def z0l:Scope:=⟨.function,[((S ".0"),.local),((S "sign"),.local),((S "ord"),.globalImplicit)],false,false,[]⟩
noncomputable def zhy:IS:=(.asgC (.nm (S "due") 17 (pp 316 4 7)) false zlk zkj (.nm (S "text") 4 (pp 316 67 71)) zld z0l (pp 316 10 110) (pp 316 4 110))
noncomputable def z3c:List IS:=[(.ret (.con (.bool false) 0 (pp 318 15 20)) (pp 318 8 20))]
noncomputable def z3b:List IS:=[]
noncomputable def zhx:IS:=(.ite (.bools .Or [(.cmp (.list false [(.cmcall (.nm (S "table") 6 (pp 317 8 13)) (S "items") 205 (pp 317 8 19) [] [] [] (pp 317 8 21)),(.nm (S "words") 8 (pp 317 23 28)),(.nm (S "kind") 7 (pp 317 30 34))] (pp 317 7 35)) .NotEq (.list false [(.nm (S "pairs") 5 (pp 317 40 45)),(.nm (S "due") 17 (pp 317 47 50)),(.item (.list false [(.con (.int (20)) 0 (pp 317 53 55)),(.con (.int (21)) 0 (pp 317 57 59)),(.con (.int (29)) 0 (pp 317 61 63)),(.con (.int (30)) 0 (pp 317 65 67)),(.con (.int (27)) 0 (pp 317 69 71)),(.con (.int (28)) 0 (pp 317 73 75))] (pp 317 52 76)) (.bin false (.item (.nm (S "cells") 1 (pp 317 77 82)) (.con (.int (5)) 0 (pp 317 83 84)) (pp 317 77 85)) .Mod (.con (.int (6)) 0 (pp 317 88 89)) (pp 317 77 89)) (pp 317 52 90))] (pp 317 39 91)) (pp 317 7 91)),(.not (.nm (S "fine") 14 (pp 317 99 103)) (pp 317 95 103))] (pp 317 7 103)) z3c z3b ⟨317,4,318,20⟩)
noncomputable def z26:List IS:=[(.ret (.con (.bool false) 0 (pp 320 15 20)) (pp 320 8 20))]
noncomputable def z25:List IS:=[]
noncomputable def zhv:IS:=(.ite (.cmp (.list false [(.cmcall (.nm (S "table") 6 (pp 319 8 13)) (S "get_all") 180 (pp 319 8 21) [(.con (.str (S "X")) 0 (pp 319 22 25))] [] [] (pp 319 8 26)),(.cmcall (.nm (S "table") 6 (pp 319 28 33)) (S "get_all") 180 (pp 319 28 41) [(.con (.str (S "y")) 0 (pp 319 42 45))] [] [] (pp 319 28 46)),(.cmcall (.nm (S "table") 6 (pp 319 48 53)) (S "get_all") 180 (pp 319 48 61) [(.con (.str (S "1")) 0 (pp 319 62 65))] [] [] (pp 319 48 66))] (pp 319 7 67)) .NotEq (.nm (S "signs") 9 (pp 319 71 76)) (pp 319 7 76)) z26 z25 ⟨319,4,320,20⟩)
noncomputable def zhu:IS:=(.asg (.nm (S "taken") 18 (pp 321 4 9)) (.item (.list false [(.list false [(.un .USub (.con (.int (1)) 0 (pp 321 15 16)) (pp 321 14 16))] (pp 321 13 17)),(.list false [(.con (.int (1)) 0 (pp 321 20 21))] (pp 321 19 22)),(.list false [(.un .USub (.con (.int (1)) 0 (pp 321 26 27)) (pp 321 25 27)),(.con (.int (0)) 0 (pp 321 29 30))] (pp 321 24 31)),(.list false [(.con (.int (0)) 0 (pp 321 34 35)),(.con (.int (1)) 0 (pp 321 37 38))] (pp 321 33 39)),(.list false [(.con (.int (0)) 0 (pp 321 42 43))] (pp 321 41 44)),(.list false [(.un .USub (.con (.int (1)) 0 (pp 321 48 49)) (pp 321 47 49)),(.con (.int (1)) 0 (pp 321 51 52))] (pp 321 46 53))] (pp 321 12 54)) (.bin false (.item (.nm (S "cells") 1 (pp 321 55 60)) (.con (.int (5)) 0 (pp 321 61 62)) (pp 321 55 63)) .Mod (.con (.int (6)) 0 (pp 321 66 67)) (pp 321 55 67)) (pp 321 12 68)) (pp 321 4 68))
noncomputable def zsy:IE:=(.cmp (.call true (S "_law_sign") 31 (pp 322 13 22) [(.nm (S "half") 1 (pp 322 23 27)),(.nm (S "mark") 2 (pp 322 29 33))] (pp 322 13 34)) .In (.nm (S "taken") 21 (pp 322 38 43)) (pp 322 13 43))
noncomputable def zpt:Tgt:=(.tup [((S "half"),1,(pp 322 48 52)),((S "mark"),2,(pp 322 54 58))] 0 (pp 322 48 58))
noncomputable def zrs:List IE:=[]
noncomputable def z0k:Scope:=⟨.function,[((S ".0"),.local),((S "half"),.local),((S "mark"),.local),((S "_law_sign"),.globalImplicit),((S "taken"),.free)],false,false,[]⟩
noncomputable def zfn:IS:=(.asgC (.nm (S "takes") 20 (pp 322 4 9)) false zsy zpt (.nm (S "found") 15 (pp 322 62 67)) zrs z0k (pp 322 12 68) (pp 322 4 68))
noncomputable def zsx:IE:=(.not (.nm (S "one") 1 (pp 323 60 63)) (pp 323 56 63))
noncomputable def zps:Tgt:=(.nm (S "one") 1 (pp 323 68 71))
noncomputable def zrr:List IE:=[]
noncomputable def z0h:Scope:=⟨.function,[((S ".0"),.local),((S "one"),.local)],false,false,[]⟩
noncomputable def zfl:IS:=(.asgT (.tup [((S "good"),21,(pp 323 4 8)),((S "bad"),22,(pp 323 10 13))] 0 (pp 323 4 13)) [(.call true (S "_law_led") 32 (pp 323 17 25) [(.nm (S "rows") 16 (pp 323 26 30)),(.nm (S "takes") 20 (pp 323 32 37))] (pp 323 17 38)),(.call true (S "_law_led") 32 (pp 323 40 48) [(.nm (S "rows") 16 (pp 323 49 53)),(.lcomp false zsx zps (.nm (S "takes") 20 (pp 323 75 80)) zrr z0h (pp 323 55 81))] (pp 323 40 82))] 0 (pp 323 16 83) (pp 323 4 83))
noncomputable def zfk:IS:=(.asg (.tup [((S "sets"),23,(pp 324 4 8)),((S "ways"),24,(pp 324 10 14))] 0 (pp 324 4 14)) (.call true (S "_law_sets") 33 (pp 324 17 26) [(.nm (S "rows") 16 (pp 324 27 31))] (pp 324 17 32)) (pp 324 4 32))
noncomputable def zlj:IE:=(.list false [(.cmp (.bin false (.nm (S "one") 1 (pp 325 13 16)) .BitAnd (.nm (S "good") 23 (pp 325 19 23)) (pp 325 13 23)) .NotEq (.con (.int (0)) 0 (pp 325 27 28)) (pp 325 13 28)),(.cmp (.bin false (.nm (S "one") 1 (pp 325 30 33)) .BitAnd (.nm (S "bad") 24 (pp 325 36 39)) (pp 325 30 39)) .Eq (.con (.int (0)) 0 (pp 325 43 44)) (pp 325 30 44))] (pp 325 12 45))
noncomputable def zki:Tgt:=(.nm (S "one") 1 (pp 325 50 53))
noncomputable def zlc:List IE:=[]
noncomputable def z0g:Scope:=⟨.function,[((S ".0"),.local),((S "one"),.local),((S "bad"),.free),((S "good"),.free)],false,false,[]⟩
noncomputable def zfj:IS:=(.asgC (.nm (S "told") 25 (pp 325 4 8)) false zlj zki (.nm (S "sets") 23 (pp 325 57 61)) zlc z0g (pp 325 11 62) (pp 325 4 62))
noncomputable def zfi:IS:=(.asg (.nm (S "dues") 26 (pp 326 4 8)) (.list true [] (pp 326 11 13)) (pp 326 4 13))
noncomputable def zhj:Tgt:=(.nm (S "number") 3 (pp 327 8 14))
noncomputable def zpr:Tgt:=(.nm (S "figure") 27 (pp 329 12 18))
noncomputable def ztn:List IS:=[(.asg (.nm (S "place") 2 (pp 330 12 17)) (.item (.item (.nm (S "ways") 24 (pp 330 20 24)) (.nm (S "place") 2 (pp 330 25 30)) (pp 330 20 31)) (.nm (S "figure") 27 (pp 330 32 38)) (pp 330 20 39)) (pp 330 12 39))]
noncomputable def zsw:IE:=(.cmp (.bin false (.cmp (.nm (S "value") 1 (pp 334 18 23)) .Gt (.con (.int (0)) 0 (pp 334 26 27)) (pp 334 18 27)) .Sub (.cmp (.nm (S "value") 1 (pp 334 32 37)) .Lt (.con (.int (0)) 0 (pp 334 40 41)) (pp 334 32 41)) (pp 334 17 42)) .In (.nm (S "taken") 20 (pp 334 46 51)) (pp 334 17 51))
noncomputable def zpq:Tgt:=(.nm (S "value") 1 (pp 334 56 61))
noncomputable def zrq:List IE:=[]
noncomputable def z0d:Scope:=⟨.function,[((S ".0"),.local),((S "value"),.local),((S "taken"),.free)],false,false,[]⟩
noncomputable def zsv:IE:=(.nm (S "part") 1 (pp 336 64 68))
noncomputable def zpp:Tgt:=(.nm (S "part") 1 (pp 336 73 77))
noncomputable def zrp:List IE:=[(.cmp (.call true (S "type") 11 (pp 336 91 95) [(.nm (S "part") 1 (pp 336 96 100))] (pp 336 91 101)) .IsNot (.gl (S "int") 10 (pp 336 109 112)) (pp 336 91 112))]
noncomputable def z0b:Scope:=⟨.function,[((S ".0"),.local),((S "part"),.local),((S "type"),.globalImplicit),((S "int"),.globalImplicit)],false,false,[]⟩
noncomputable def z23:List IS:=[(.ret (.con (.bool false) 0 (pp 337 19 24)) (pp 337 12 24))]
noncomputable def z22:List IS:=[]
noncomputable def z21:List IS:=[(.ret (.con (.bool false) 0 (pp 339 19 24)) (pp 339 12 24))]
noncomputable def z20:List IS:=[]
noncomputable def zit:List IS:=[(.asg (.nm (S "place") 2 (pp 328 8 13)) (.con (.int (0)) 0 (pp 328 16 17)) (pp 328 8 17)),(.for_ zpr (.call true (S "_int2digits") 21 (pp 329 22 33) [(.nm (S "number") 3 (pp 329 34 40)),(.con (.int (1)) 0 (pp 329 42 43))] (pp 329 22 44)) ztn ⟨329,8,330,39⟩),(.asg (.nm (S "held") 28 (pp 331 8 12)) (.bin false (.bin false (.nm (S "first") 10 (pp 331 15 20)) .Mult (.nm (S "number") 3 (pp 331 23 29)) (pp 331 15 29)) .Add (.nm (S "start") 12 (pp 331 32 37)) (pp 331 15 37)) (pp 331 8 37)),(.swap (S "whole") 29 (pp 332 8 13) (S "answer") 30 (pp 332 15 21) (.bin false (.un .USub (.nm (S "held") 28 (pp 332 26 30)) (pp 332 25 30)) .FloorDiv (.bools .Or [(.nm (S "second") 11 (pp 332 35 41)),(.con (.int (1)) 0 (pp 332 45 46))] (pp 332 35 46)) (pp 332 25 47)) (.call true (S "int_divmod") 24 (pp 332 49 59) [(.un .USub (.nm (S "held") 28 (pp 332 61 65)) (pp 332 60 65)),(.bools .Or [(.nm (S "second") 11 (pp 332 67 73)),(.con (.int (1)) 0 (pp 332 77 78))] (pp 332 67 78))] (pp 332 49 79)) 0 0 (pp 332 8 21) (pp 332 24 80) (pp 332 8 80)),(.asg (.nm (S "values") 31 (pp 333 8 14)) (.list false [(.nm (S "held") 28 (pp 333 18 22)),(.bin false (.nm (S "held") 28 (pp 333 24 28)) .Add (.bin false (.nm (S "second") 11 (pp 333 31 37)) .Mult (.call true (S "max") 3 (pp 333 40 43) [(.con (.int (0)) 0 (pp 333 44 45)),(.nm (S "whole") 29 (pp 333 47 52))] (pp 333 40 53)) (pp 333 31 53)) (pp 333 24 53)),(.bin false (.nm (S "held") 28 (pp 333 55 59)) .Add (.bin false (.nm (S "second") 11 (pp 333 62 68)) .Mult (.bin false (.con (.int (10)) 0 (pp 333 71 73)) .Pow (.con (.int (6)) 0 (pp 333 77 78)) (pp 333 71 78)) (pp 333 62 78)) (pp 333 55 78))] (pp 333 17 79)) (pp 333 8 79)),(.asgC (.nm (S "truth") 33 (pp 334 8 13)) false zsw zpq (.nm (S "values") 31 (pp 334 65 71)) zrq z0d (pp 334 16 72) (pp 334 8 72)),(.expr (.mcall (.nm (S "dues") 26 (pp 335 8 12)) .append (pp 335 8 19) [(.list false [(.call true (S "any") 14 (pp 335 21 24) [(.nm (S "truth") 33 (pp 335 25 30))] (pp 335 21 31)),(.call true (S "all") 15 (pp 335 33 36) [(.nm (S "truth") 33 (pp 335 37 42))] (pp 335 33 43))] (pp 335 20 44))] (pp 335 8 45)) (pp 335 8 45)),(.ite (.bools .Or [(.cmp (.nm (S "answer") 30 (pp 336 11 17)) .NotEq (.tup [(.nm (S "whole") 29 (pp 336 22 27)),(.bin false (.un .USub (.nm (S "held") 28 (pp 336 30 34)) (pp 336 29 34)) .Sub (.bin false (.nm (S "whole") 29 (pp 336 37 42)) .Mult (.bools .Or [(.nm (S "second") 11 (pp 336 46 52)),(.con (.int (1)) 0 (pp 336 56 57))] (pp 336 46 57)) (pp 336 37 58)) (pp 336 29 58))] 0 (pp 336 21 59)) (pp 336 11 59)),(.cmp (.lcomp false zsv zpp (.nm (S "answer") 30 (pp 336 81 87)) zrp z0b (pp 336 63 113)) .NotEq (.list false [] (pp 336 117 119)) (pp 336 63 119))] (pp 336 11 119)) z23 z22 ⟨336,8,337,24⟩),(.ite (.cmp (.item (.nm (S "told") 25 (pp 338 11 15)) (.nm (S "place") 2 (pp 338 16 21)) (pp 338 11 22)) .NotEq (.item (.nm (S "dues") 26 (pp 338 26 30)) (.un .USub (.con (.int (1)) 0 (pp 338 32 33)) (pp 338 31 33)) (pp 338 26 34)) (pp 338 11 34)) z21 z20 ⟨338,8,339,24⟩)]
noncomputable def zek:IS:=(.for_ zhj (.bin false (.call true (S "list") 12 (pp 327 18 22) [(.call true (S "range") 5 (pp 327 23 28) [(.con (.int (8)) 0 (pp 327 29 30))] (pp 327 23 31))] (pp 327 18 32)) .Add (.list false [(.bin false (.item (.nm (S "cells") 1 (pp 327 36 41)) (.con (.int (6)) 0 (pp 327 42 43)) (pp 327 36 44)) .Mod (.con (.int (65536)) 0 (pp 327 47 52)) (pp 327 36 52))] (pp 327 35 53)) (pp 327 18 53)) zit ⟨327,4,339,24⟩)
noncomputable def zej:IS:=(.asg (.nm (S "state") 34 (pp 340 4 9)) (.con (.int (0)) 0 (pp 340 12 13)) (pp 340 4 13))
noncomputable def zpn:Tgt:=(.nm (S "place") 2 (pp 341 8 13))
noncomputable def ztl:List IS:=[(.asg (.nm (S "state") 34 (pp 342 8 13)) (.item (.item (.nm (S "rows") 16 (pp 342 16 20)) (.nm (S "state") 34 (pp 342 21 26)) (pp 342 16 27)) (.bin false (.bin false (.con (.int (2)) 0 (pp 342 28 29)) .Mult (.bin false (.bin false (.item (.nm (S "cells") 1 (pp 342 33 38)) (.con (.int (6)) 0 (pp 342 39 40)) (pp 342 33 41)) .RShift (.nm (S "place") 2 (pp 342 45 50)) (pp 342 33 50)) .BitAnd (.con (.int (1)) 0 (pp 342 53 54)) (pp 342 33 54)) (pp 342 28 55)) .Add (.bin false (.bin false (.item (.nm (S "cells") 1 (pp 342 59 64)) (.con (.int (7)) 0 (pp 342 65 66)) (pp 342 59 67)) .RShift (.nm (S "place") 2 (pp 342 71 76)) (pp 342 59 76)) .BitAnd (.con (.int (1)) 0 (pp 342 79 80)) (pp 342 59 80)) (pp 342 28 81)) (pp 342 16 82)) (pp 342 8 82))]
noncomputable def zei:IS:=(.for_ zpn (.call true (S "range") 5 (pp 341 17 22) [(.con (.int (16)) 0 (pp 341 23 25))] (pp 341 17 26)) ztl ⟨341,4,342,82⟩)
noncomputable def zeh:IS:=(.asg (.nm (S "value") 32 (pp 343 4 9)) (.bin false (.bin false (.bin false (.nm (S "first") 10 (pp 343 12 17)) .Mult (.bin false (.item (.nm (S "cells") 1 (pp 343 21 26)) (.con (.int (6)) 0 (pp 343 27 28)) (pp 343 21 29)) .Mod (.con (.int (65536)) 0 (pp 343 32 37)) (pp 343 21 37)) (pp 343 12 38)) .Add (.bin false (.nm (S "second") 11 (pp 343 41 47)) .Mult (.bin false (.item (.nm (S "cells") 1 (pp 343 51 56)) (.con (.int (7)) 0 (pp 343 57 58)) (pp 343 51 59)) .Mod (.con (.int (65536)) 0 (pp 343 62 67)) (pp 343 51 67)) (pp 343 41 68)) (pp 343 12 68)) .Add (.nm (S "start") 12 (pp 343 71 76)) (pp 343 12 76)) (pp 343 4 76))
noncomputable def zeg:IS:=(.asg (.tup [((S "half"),19,(pp 344 4 8)),((S "rest"),35,(pp 344 10 14))] 0 (pp 344 4 14)) (.call true (S "int_divmod") 24 (pp 344 17 27) [(.bin false (.nm (S "way") 13 (pp 344 28 31)) .Mult (.nm (S "value") 32 (pp 344 34 39)) (pp 344 28 39)),(.bin false (.nm (S "way") 13 (pp 344 41 44)) .Mult (.con (.int (65536)) 0 (pp 344 47 52)) (pp 344 41 52))] (pp 344 17 53)) (pp 344 4 53))
noncomputable def z2z:List IS:=[(.ret (.con (.bool false) 0 (pp 346 15 20)) (pp 346 8 20))]
noncomputable def z2y:List IS:=[]
noncomputable def zef:IS:=(.ite (.bools .Or [(.cmp (.item (.nm (S "found") 15 (pp 345 7 12)) (.nm (S "state") 34 (pp 345 13 18)) (pp 345 7 19)) .NotEq (.tup [(.nm (S "half") 19 (pp 345 24 28)),(.call true (S "min") 13 (pp 345 30 33) [(.bin false (.nm (S "way") 13 (pp 345 34 37)) .Mult (.nm (S "rest") 35 (pp 345 40 44)) (pp 345 34 44)),(.con (.int (1)) 0 (pp 345 46 47))] (pp 345 30 48))] 0 (pp 345 23 49)) (pp 345 7 49)),(.cmp (.call true (S "_law_sign") 31 (pp 345 53 62) [(.nm (S "half") 19 (pp 345 63 67)),(.item (.item (.nm (S "found") 15 (pp 345 69 74)) (.nm (S "state") 34 (pp 345 75 80)) (pp 345 69 81)) (.con (.int (1)) 0 (pp 345 82 83)) (pp 345 69 84))] (pp 345 53 85)) .NotEq (.bin false (.cmp (.nm (S "value") 32 (pp 345 90 95)) .Gt (.con (.int (0)) 0 (pp 345 98 99)) (pp 345 90 99)) .Sub (.cmp (.nm (S "value") 32 (pp 345 104 109)) .Lt (.con (.int (0)) 0 (pp 345 112 113)) (pp 345 104 113)) (pp 345 89 114)) (pp 345 53 114))] (pp 345 7 114)) z2z z2y ⟨345,4,346,20⟩)
noncomputable def zst:IE:=(.nm (S "pair") 1 (pp 347 12 16))
noncomputable def zpm:Tgt:=(.nm (S "pair") 1 (pp 347 21 25))
noncomputable def zro:List IE:=[(.cmp (.nm (S "pair") 1 (pp 347 37 41)) .NotIn (.nm (S "dues") 28 (pp 347 49 53)) (pp 347 37 53))]
noncomputable def z0a:Scope:=⟨.function,[((S ".0"),.local),((S "pair"),.local),((S "dues"),.free)],false,false,[]⟩
noncomputable def zee:IS:=(.ret (.cmp (.lcomp false zst zpm (.nm (S "told") 25 (pp 347 29 33)) zro z0a (pp 347 11 54)) .Eq (.list false [] (pp 347 58 60)) (pp 347 11 60)) (pp 347 4 60))
noncomputable def F_i2d:Stmt:=(bodyOf F_int2digits).getD 1 default
noncomputable def b0_i2d:List IS:=[(.setI (.nm (S "a_digits") 7 (pp 35 12 20)) (.nm (S "L") 1 (pp 35 21 22)) (.nm (S "x") 0 (pp 35 26 27)) (pp 35 12 23) (pp 35 12 27)),(.retN (pp 36 12 18))]
noncomputable def b1_i2d:List IS:=[]
noncomputable def s2_i2d:IS:=(.ite (.cmp (.bin false (.nm (S "L") 1 (pp 34 11 12)) .Add (.con (.int (1)) 0 (pp 34 15 16)) (pp 34 11 16)) .Eq (.nm (S "R") 2 (pp 34 20 21)) (pp 34 11 21)) b0_i2d b1_i2d ⟨34,8,36,18⟩)
noncomputable def s3_i2d:IS:=(.asg (.nm (S "mid") 3 (pp 37 8 11)) (.bin false (.bin false (.nm (S "L") 1 (pp 37 14 15)) .Add (.nm (S "R") 2 (pp 37 18 19)) (pp 37 14 19)) .RShift (.con (.int (1)) 0 (pp 37 23 24)) (pp 37 14 24)) (pp 37 8 24))
noncomputable def s4_i2d:IS:=(.asg (.nm (S "shift") 4 (pp 38 8 13)) (.bin false (.bin false (.nm (S "mid") 3 (pp 38 17 20)) .Sub (.nm (S "L") 1 (pp 38 23 24)) (pp 38 17 24)) .Mult (.nm (S "n") 9 (pp 38 28 29)) (pp 38 16 29)) (pp 38 8 29))
noncomputable def s5_i2d:IS:=(.asg (.nm (S "upper") 5 (pp 39 8 13)) (.bin false (.nm (S "x") 0 (pp 39 16 17)) .RShift (.nm (S "shift") 4 (pp 39 21 26)) (pp 39 16 26)) (pp 39 8 26))
noncomputable def s6_i2d:IS:=(.asg (.nm (S "lower") 6 (pp 40 8 13)) (.bin false (.nm (S "x") 0 (pp 40 16 17)) .BitXor (.bin false (.nm (S "upper") 5 (pp 40 20 25)) .LShift (.nm (S "shift") 4 (pp 40 29 34)) (pp 40 20 34)) (pp 40 16 34)) (pp 40 8 34))
noncomputable def znj:List IE:=[(.nm (S "lower") 6 (pp 41 14 19)),(.nm (S "L") 1 (pp 41 21 22)),(.nm (S "mid") 3 (pp 41 24 27))]
noncomputable def zyc:IS:=(.expr (.call false (S "inner") 8 (pp 41 8 13) znj (pp 41 8 28)) (pp 41 8 28))
noncomputable def zni:List IE:=[(.nm (S "upper") 5 (pp 42 14 19)),(.nm (S "mid") 3 (pp 42 21 24)),(.nm (S "R") 2 (pp 42 26 27))]
noncomputable def zqm:IS:=(.expr (.call false (S "inner") 8 (pp 42 8 13) zni (pp 42 8 28)) (pp 42 8 28))
noncomputable def F_d2i:Stmt:=(bodyOf F_digits2int).getD 0 default
noncomputable def b0_d2i:List IS:=[(.ret (.item (.nm (S "digits") 4 (pp 50 19 25)) (.nm (S "L") 0 (pp 50 26 27)) (pp 50 19 28)) (pp 50 12 28))]
noncomputable def b1_d2i:List IS:=[]
noncomputable def s2_d2i:IS:=(.ite (.cmp (.bin false (.nm (S "L") 0 (pp 49 11 12)) .Add (.con (.int (1)) 0 (pp 49 15 16)) (pp 49 11 16)) .Eq (.nm (S "R") 1 (pp 49 20 21)) (pp 49 11 21)) b0_d2i b1_d2i ⟨49,8,50,28⟩)
noncomputable def s3_d2i:IS:=(.asg (.nm (S "mid") 2 (pp 51 8 11)) (.bin false (.bin false (.nm (S "L") 0 (pp 51 14 15)) .Add (.nm (S "R") 1 (pp 51 18 19)) (pp 51 14 19)) .RShift (.con (.int (1)) 0 (pp 51 23 24)) (pp 51 14 24)) (pp 51 8 24))
noncomputable def s4_d2i:IS:=(.asg (.nm (S "shift") 3 (pp 52 8 13)) (.bin false (.bin false (.nm (S "mid") 2 (pp 52 17 20)) .Sub (.nm (S "L") 0 (pp 52 23 24)) (pp 52 17 24)) .Mult (.nm (S "n") 6 (pp 52 28 29)) (pp 52 16 29)) (pp 52 8 29))
noncomputable def znl:List IE:=[(.nm (S "mid") 2 (pp 53 22 25)),(.nm (S "R") 1 (pp 53 27 28))]
noncomputable def znk:List IE:=[(.nm (S "L") 0 (pp 53 48 49)),(.nm (S "mid") 2 (pp 53 51 54))]
noncomputable def zyd:IS:=(.ret (.bin false (.bin false (.call false (S "inner") 5 (pp 53 16 21) znl (pp 53 16 29)) .LShift (.nm (S "shift") 3 (pp 53 33 38)) (pp 53 16 38)) .Add (.call false (S "inner") 5 (pp 53 42 47) znk (pp 53 42 55)) (pp 53 15 55)) (pp 53 8 55))
theorem zy8 (T:Tab):Tx (law1.prm T) F_init I_init [(S "self",0),(S "headers",1)]:=by constructor <;> kernel_rfl
theorem znm (T:Tab):Tx (law1.prm T) F_conv I_conv [(S "self",0),(S "value",1),(S "name",2)]:=by constructor <;> kernel_rfl
theorem zx0 (T:Tab):Tx (law1.prm T) F_getall zx1 [(S "self",0),(S "name",1)]:=by constructor <;> kernel_rfl
theorem T_get (T:Tab):Tx (law1.prm T) F_get I_get [(S "self",0),(S "name",1),(S "default",2)]:=by constructor <;> kernel_rfl
theorem z38 (T:Tab):Tx (law1.prm T) F_items z4d [(S "self",0)]:=by constructor <;> kernel_rfl
theorem T_setd (T:Tab):Tx (law1.prm T) F_setd I_setd [(S "self",0),(S "name",1),(S "value",2)]:=by constructor <;> kernel_rfl
theorem ztx (T:Tab):Tx (law1.prm T) F_div2n1n zt0 [(S "a",0),(S "b",1),(S "n",2)]:=by constructor <;> kernel_rfl
theorem zj7 (T:Tab):Tx (law1.prm T) F_divmod_pos zka [(S "a",0),(S "b",1)]:=by constructor <;> kernel_rfl
theorem zdb (T:Tab):Tx (law1.prm T) F_int_divmod zez [(S "a",0),(S "b",1)]:=by constructor <;> kernel_rfl
theorem zj8 (T:Tab):Tx (law1.prm T) F_ISTERMINAL zkb [(S "x",0)]:=by constructor <;> kernel_rfl
theorem zgg (T:Tab):Tx (law1.prm T) F_ISNONTERMINAL zgh [(S "x",0)]:=by constructor <;> kernel_rfl
theorem z39 (T:Tab):Tx (law1.prm T) F_ISEOF z4e [(S "x",0)]:=by constructor <;> kernel_rfl
theorem ziy (T:Tab):Tx (law1.prm T) F_law_written zi0 [(S "cells",0)]:=by constructor <;> kernel_rfl
theorem ziz (T:Tab):Tx (law1.prm T) F_law_carries zd9 [(S "start",0),(S "first",1),(S "second",2),(S "way",3)]:=by constructor <;> kernel_rfl
theorem zo4 (T:Tab):Tx (law1.prm T) F_law_sign zo7 [(S "carry",0),(S "mark",1)]:=by constructor <;> kernel_rfl
theorem ztw (T:Tab):Tx (law1.prm T) F_law_led ztz [(S "rows",0),(S "marked",1)]:=by constructor <;> kernel_rfl
theorem zo5 (T:Tab):Tx (law1.prm T) F_law_sets zo8 [(S "rows",0)]:=by constructor <;> kernel_rfl
noncomputable def tokS (f:Int -> Bool):Spec:=Sp (fun i=>[.int i]) [] noKw fun i cs K=>K (.bool (f i)) cs
structure CvA where
 self:V
 x:Str
 b:Bool
noncomputable def convS:Spec:=Sp (fun p:CvA=>[p.self,.str p.x]) [S "name"] (fun p=>[.bool p.b]) fun p cs K=>p.x.cps.toList.any (cond p.b nameBad valBad) = false /\ K (.str p.x) cs
noncomputable def P0:Prm:=law1.prm []
section
variable {C:Cx} {K:Frag} (F2:Facts2 C P0 K) (L:LimAt C)
include F2 L
theorem zvf (Fk:FnK K 97 F_ISEOF) (B:Bd1 K 97 (S "x")):FnOk C.up 97 (tokS fun i=>decide (i = 0)) :=
 fn1 (sl:=fun i=>[some (.int i)]) F2 L Fk (z39 []) B (fun _=>rfl) fun i cs K' q=>CmpR.eq (.int _ _ _) q
theorem zh9 (Fk:FnK K 83 F_ISTERMINAL) (B:Bd1 K 83 (S "x")):FnOk C.up 83 (tokS fun i=>decide (i < 256)) :=
 fn1 (sl:=fun i=>[some (.int i)]) F2 L Fk (zj8 []) B (fun _=>rfl) fun i cs K' q=>CmpR.lt q
theorem ze4 (Fk:FnK K 90 F_ISNONTERMINAL) (B:Bd1 K 90 (S "x")):FnOk C.up 90 (tokS fun i=>decide (256 <= i)) :=
 fn1 (sl:=fun i=>[some (.int i)]) F2 L Fk (zgg []) B (fun _=>rfl) fun i cs K' q=>CmpR.ge q
theorem z03 (Fk:FnK K 142 F_conv) (B:BdK K 142 (S "self") (S "value") (S "name")):FnOk C.up 142 convS :=
 fnK (sl:=fun p:CvA=>[some p.self,some (.str p.x),some (.bool p.b),none]) F2 L Fk (znm []) B (fun _=>rfl) fun p cs K' q=>by
  refine CallR.type (.str _) (CmpR.is (.typ _ _) ?_)
  obtain ⟨self,x,b⟩:=p
  cases b with
  | true=>exact ⟨.search rfl,.search rfl q.1 q.2⟩
  | false=>exact ⟨.search rfl,.search rfl q.1 q.2⟩
end
noncomputable def T1:Tab:=[(142,convS),(83,tokS fun i=>decide (i < 256)),(90,tokS fun i=>decide (256 <= i)),(97,tokS fun i=>decide (i = 0))]
noncomputable def P1:Prm:=law1.prm T1
theorem zeo:P1.fn 142 = convS:=rfl
noncomputable abbrev Hs:=List (Str × Str)
noncomputable def pairV (p:Str × Str):V:=.tup [.str p.1,.str p.2]
noncomputable def pairsV (hs:Hs):List V:=hs.map pairV
structure Tb (cs:List Cell) (l k:Nat) (hs:Hs):Prop where
 ex:∃ d,cs[l]? = some (.inst 241 d) /\ cs[d]? = some (.attr (some (.ref k)))
 ls:cs[k]? = some (.list (pairsV hs))
theorem Tb.cls {cs:List Cell} {l k:Nat} {hs:Hs} (h:Tb cs l k hs):ClsR cs (.ref l) 241:=by obtain ⟨d,h1,h2⟩:=h.ex; exact .mk h1 h2
theorem Tb.at {T:Tab} {cs:List Cell} {l k:Nat} {hs:Hs} (h:Tb cs l k hs):AttrR (law1.prm T) cs (.ref l) (.ref k):=by obtain ⟨d,h1,h2⟩:=h.ex; exact .mk h1 h2 trivial
noncomputable def getV (hs:Hs) (low:Str) (d:V):V:=List.rec d (fun p _ ih=>if Txt.lower p.1 = low then .str p.2 else ih) hs
noncomputable def lowB (x:Str):Prop:=(Txt.lower x).length <= lim
noncomputable def nameOk (x:Str):Prop:=x.cps.toList.any nameBad = false
noncomputable def valOk (x:Str):Prop:=x.cps.toList.any valBad = false
structure GtA where
 l:Nat
 x:Str
 k:Nat
 hs:Hs
structure GtOk (a:GtA) (cs:List Cell):Prop where
 tb:Tb cs a.l a.k a.hs
 lx:lowB a.x
 nx:nameOk (Txt.lower a.x)
 lk:∀ p ∈ a.hs,lowB p.1
noncomputable def getS:Spec:=Sp (fun a:GtA=>[.ref a.l,.str a.x]) [] noKw fun a cs K=>GtOk a cs /\ K (getV a.hs (Txt.lower a.x) .none) cs
theorem zdd {hs:Hs} {i:Nat} {p:Str × Str} {r:Hs} (h:hs.drop i = p :: r):(pairsV hs)[i]? = some (pairV p):=by
 have:(hs.drop i)[0]? = some p:=by rw [h]; rfl
 rw [List.getElem?_drop] at this
 rw [pairsV,List.getElem?_map,show hs[i]? = some p from this]; rfl
theorem zd1 {hs:Hs} {i:Nat} (h:hs.drop i = []):(pairsV hs)[i]? = none:=by rw [pairsV,List.getElem?_map,List.getElem?_eq_none_iff.mpr (List.drop_eq_nil_iff.mp h)]; rfl
theorem zb9 {α:Type} {hs:List α} {i:Nat} {p:α} {r:List α} (h:hs.drop i = p :: r):hs.drop (i + 1) = r:=by rw [<- List.drop_drop,h]; rfl
theorem za9 {α:Type} {hs:List α} {i:Nat} {p:α} {r:List α} (h:hs.drop i = p :: r):p ∈ hs:=List.mem_of_mem_drop (h ▸ List.mem_cons_self)
noncomputable def GetL (K:KF) (k i:Nat) (sl:Slots) (cs:List Cell):Prop:=ForR zx7 (bden (IS.sems P1 zyy)) K (.cell k i) sl cs
theorem zr3 {K:KF} {k i:Nat} {cs:List Cell} {xs:List V} {p:Str × Str} {low:Str} {s d a b:Option V} (h:cs[k]? = some (.list xs)) (hx:xs[i]? = some (pairV p)) (lp:lowB p.1) (he:Txt.lower p.1 = low) (q:K (.ret (.str p.2)) [s,some (.str low),d,some (.str p.1),some (.str p.2)] cs):GetL K k i [s,some (.str low),d,a,b] cs :=
 .go (.cell h hx) rfl ⟨.lower _,.lower lp (.eq (.strT he) q)⟩
theorem zr4 {K:KF} {k i:Nat} {cs:List Cell} {xs:List V} {p:Str × Str} {low:Str} {s d a b:Option V} (h:cs[k]? = some (.list xs)) (hx:xs[i]? = some (pairV p)) (lp:lowB p.1) (he:Txt.lower p.1 ≠ low) (q:GetL K k (i + 1) [s,some (.str low),d,some (.str p.1),some (.str p.2)] cs):GetL K k i [s,some (.str low),d,a,b] cs :=
 .go (.cell h hx) rfl ⟨.lower _,.lower lp (.eq (.strF he) q)⟩
theorem zwu {K:KF} {k:Nat} {cs:List Cell} {hs:Hs} {low:Str} {s:Option V} {d:V} {Z:KV} (h:cs[k]? = some (.list (pairsV hs))) (lk:∀ p ∈ hs,lowB p.1) (hr:∀ v sl,Z v cs -> K (.ret v) sl cs) (hn:∀ a b,Z d cs -> K .next [s,some (.str low),some d,a,b] cs) (r:Hs):∀ (i:Nat) (a b:Option V),hs.drop i = r -> Z (getV r low d) cs -> GetL K k i [s,some (.str low),some d,a,b] cs:=by
 induction r with
 | nil=>exact fun i a b e q=>.done (.cell h (zd1 e)) (hn a b q)
 | cons p r ih =>
  intro i a b e q
  by_cases he:Txt.lower p.1 = low
  ·exact zr3 h (zdd e) (lk p (za9 e)) he (hr _ _ (by rw [show getV (p :: r) low d = .str p.2 from if_pos he] at q; exact q))
  ·exact zr4 h (zdd e) (lk p (za9 e)) he (ih _ _ _ (zb9 e) (by rw [show getV (p :: r) low d = getV r low d from if_neg he] at q; exact q))
section
variable {C:Cx} {K:Frag} (F2:Facts2 C P1 K) (L:LimAt C)
include F2 L
theorem ok_get (Fk:FnK K 188 F_get) (B:BdD3 K 188 (S "self") (S "name") (S "default")):FnOk C.up 188 getS :=
 fnD3 (sl:=fun a:GtA=>[some (.ref a.l),some (.str a.x),some .none,none,none]) F2 L Fk (T_get T1) B (fun _=>rfl) fun a cs K' q =>
  ⟨q.1.tb.cls,.lower a.x,.lower q.1.lx (zac zeo ⟨.ref a.l,Txt.lower a.x,true⟩ ⟨q.1.nx,_,q.1.tb.at,_,.cell q.1.tb.ls,zwu (Z:=K') q.1.tb.ls q.1.lk (fun _ _ q=>q) (fun _ _ q=>q) a.hs 0 _ _ rfl q.2⟩)⟩
end
theorem zbs {α:Type} (xs:List α) (i:Nat):idxV xs (i:Int) = xs[i]?:=by unfold idxV; rw [if_pos (Int.natCast_nonneg _)]; rfl
theorem zc8 {α:Type} (cs:List α) (a b:α):(cs ++ [a]).set cs.length b = cs ++ [b]:=by rw [List.set_append_right _ _ (Nat.le_refl _),Nat.sub_self]; rfl
theorem mul_l {a b:Int} (h:a.natAbs < 9223372036854775808):mulOk a b = true:=by unfold mulOk; rw [decide_eq_true h]; rfl
structure InA where
 l:Nat
 d:Nat
 k:Nat
 hs:Hs
structure InOk (a:InA) (cs:List Cell):Prop where
 hl:cs[a.l]? = some (.inst 241 a.d)
 hd:cs[a.d]? = some (.attr none)
 hk:cs[a.k]? = some (.list (pairsV a.hs))
 ok:∀ p ∈ a.hs,nameOk p.1 /\ valOk p.2
noncomputable def initS:Spec:=Sp (fun a:InA=>[.ref a.l,.ref a.k]) [] noKw fun a cs K=>InOk a cs /\ K .none (cs.set a.d (.attr (some (.ref a.k))))
noncomputable def init0S:Spec:=Sp (fun a:Nat × Nat=>[.ref a.1]) [] noKw fun a cs K=>cs[a.1]? = some (.inst 241 a.2) /\ cs[a.2]? = some (.attr none) /\ K .none ((cs ++ [Cell.list []]).set a.2 (.attr (some (.ref cs.length))))
noncomputable def orS (s t:Spec):Spec:=fun args kws cs K=>s args kws cs K \/ t args kws cs K
theorem ok_or {C:Cx} {a:Addr} {s t:Spec} (h:FnOk C a s) (h2:FnOk C a t):FnOk C a (orS s t):=fun O H B ra rk q=>q.elim (h O H B ra rk) (h2 O H B ra rk)
theorem zk9 {cs:List Cell} {i j:Nat} {a b:Cell} (h:cs[i]? = some a) (h':cs[j]? = some b) (n:a ≠ b):i ≠ j:=fun e=>n (by rw [e] at h; exact Option.some.inj (h.symm.trans h'))
theorem InOk.tb {a:InA} {cs:List Cell} (h:InOk a cs):Tb (cs.set a.d (.attr (some (.ref a.k)))) a.l a.k a.hs:=by
 refine ⟨⟨a.d,?_,List.getElem?_set_self (zaa h.hd)⟩,?_⟩
 ·rw [List.getElem?_set_ne (zk9 h.hd h.hl fun e=>nomatch e)]; exact h.hl
 ·rw [List.getElem?_set_ne (zk9 h.hd h.hk fun e=>nomatch e)]; exact h.hk
noncomputable def IniL (K:KF) (k i:Nat) (sl:Slots) (cs:List Cell):Prop:=ForR zpo (bden (IS.sems P1 ztm)) K (.cell k i) sl cs
theorem zwh {K:KF} {l k i:Nat} {cs:List Cell} {hs:Hs} {p:Str × Str} {h a b:Option V} (tb:Tb cs l k hs) (hx:(pairsV hs)[i]? = some (pairV p)) (n:nameOk p.1) (v:valOk p.2) (q:IniL K k (i + 1) [some (.ref l),h,some (.str p.1),some (.str p.2)] cs):IniL K k i [some (.ref l),h,a,b] cs :=
 .go (.cell tb.ls hx) rfl ⟨tb.cls,zac zeo ⟨.ref l,p.1,true⟩ ⟨n,tb.cls,zac zeo ⟨.ref l,p.2,false⟩ ⟨v,q⟩⟩⟩
theorem zwi {K:KF} {l k:Nat} {cs:List Cell} {hs:Hs} {h:Option V} (tb:Tb cs l k hs) (ok:∀ p ∈ hs,nameOk p.1 /\ valOk p.2) (q:∀ a b,K .next [some (.ref l),h,a,b] cs) (r:Hs):∀ (i:Nat) (a b:Option V),hs.drop i = r -> IniL K k i [some (.ref l),h,a,b] cs:=by
 induction r with
 | nil=>exact fun i a b e=>.done (.cell tb.ls (zd1 e)) (q a b)
 | cons p r ih=>exact fun i a b e=>zwh tb (zdd e) (ok p (za9 e)).1 (ok p (za9 e)).2 (ih _ _ _ (zb9 e))
section
variable {C:Cx} {K:Frag} (F2:Facts2 C P1 K) (L:LimAt C)
include F2 L
theorem z02 (Fk:FnK K 135 F_init) (B:BdP2 K 135 (S "self") (S "headers")):FnOk C.up 135 initS :=
 fnP2 (sl:=fun a:InA=>[some (.ref a.l),some (.ref a.k),none,none]) F2 L Fk (zy8 T1) B (fun _=>rfl) fun a cs K' q =>
  .isNot (.ref _) (.type (.seq (.ref q.1.hk)) (.isNot (.typ _ _) (.mk q.1.hl q.1.hd ⟨_,.cell q.1.tb.ls,zwi q.1.tb q.1.ok (fun _ _=>q.2) a.hs 0 _ _ rfl⟩)))
theorem zve (Fk:FnK K 135 F_init) (B:BdD2 K 135 (S "self") (S "headers")):FnOk C.up 135 init0S :=
 fnD2 (sl:=fun a:Nat × Nat=>[some (.ref a.1),some .none,none,none]) F2 L Fk (zy8 T1) B (fun _=>rfl) fun a cs K' q =>
  have h:(cs ++ [Cell.list []])[cs.length]? = some (.list []):=by rw [List.getElem?_append_right (Nat.le_refl _),Nat.sub_self]; rfl
  have hl:(cs ++ [Cell.list []])[a.1]? = some (.inst 241 a.2):=by rw [List.getElem?_append_left (zaa q.1)]; exact q.1
  have hd:(cs ++ [Cell.list []])[a.2]? = some (.attr none):=by rw [List.getElem?_append_left (zaa q.2.1)]; exact q.2.1
  have h2:((cs ++ [Cell.list []]).set a.2 (.attr (some (.ref cs.length))))[cs.length]? = some (.list []):=by rw [List.getElem?_set_ne (zk9 hd h fun e=>nomatch e)]; exact h
  .isNot .none ⟨by decide,.type (.seq (.ref h)) (.isNot (.typ _ _) (.mk hl hd ⟨_,.cell h2,.done (.cell h2 rfl) q.2.2⟩))⟩
end
structure TlA where
 l:Nat
 k:Nat
 hs:Hs
noncomputable def itemsS:Spec:=Sp (fun a:TlA=>[.ref a.l]) [] noKw fun a cs K=>Tb cs a.l a.k a.hs /\ a.hs.length <= lim /\ K (.lst (pairsV a.hs)) cs
noncomputable def allV (hs:Hs) (low:Str):List V:=(hs.filter fun p=>decide (Txt.lower p.1 = low)).map fun p=>.str p.2
noncomputable def getAllS:Spec:=Sp (fun a:GtA=>[.ref a.l,.str a.x]) [] noKw fun a cs K=>(GtOk a cs /\ a.hs.length <= lim) /\ K (.lst (allV a.hs (Txt.lower a.x))) cs
noncomputable def GalL (K:List V -> List Cell -> Prop) (s:Option V) (low:Str) (acc:List V) (k i:Nat) (cs:List Cell):Prop:=CompR zi6 (boolT .And (IE.sems P1 zjo)) (emitL (zju.sem P1).val) [none,none,s,some (.str low)] K acc (.cell k i) cs
section
variable {K:List V -> List Cell -> Prop} {s:Option V} {low:Str} {acc:List V} {k i:Nat} {cs:List Cell} {xs:List V} {p:Str × Str}
theorem zr8 (h:cs[k]? = some (.list xs)) (hx:xs[i]? = some (pairV p)) (lp:lowB p.1) (he:Txt.lower p.1 ≠ low) (q:GalL K s low acc k (i + 1) cs):GalL K s low acc k i cs :=
 .go (.cell h hx) rfl ⟨_,.seq (.tup _) rfl,.lower _,.lower lp (.eq (.strF he) q)⟩
theorem zr7 (h:cs[k]? = some (.list xs)) (hx:xs[i]? = some (pairV p)) (lp:lowB p.1) (he:Txt.lower p.1 = low) (hl:acc.length < lim) (q:GalL K s low (acc ++ [.str p.2]) k (i + 1) cs):GalL K s low acc k i cs :=
 .go (.cell h hx) rfl ⟨_,.seq (.tup _) rfl,.lower _,.lower lp (.eq (.strT he) ⟨hl,_,.seq (.tup _) rfl,q⟩)⟩
end
theorem zwx {K:List V -> List Cell -> Prop} {s:Option V} {low:Str} {k:Nat} {cs:List Cell} {hs:Hs} (h:cs[k]? = some (.list (pairsV hs))) (lk:∀ p ∈ hs,lowB p.1) (r:Hs):∀ (i:Nat) (acc:List V),hs.drop i = r -> acc.length + r.length <= lim -> K (acc ++ allV r low) cs -> GalL K s low acc k i cs:=by
 induction r with
 | nil=>exact fun i acc e _ q=>.done (.cell h (zd1 e)) (by rw [<- List.append_nil acc]; exact q)
 | cons p r ih =>
  intro i acc e hl q
  rw [List.length_cons] at hl
  by_cases he:Txt.lower p.1 = low
  ·refine zr7 h (zdd e) (lk p (za9 e)) he (Nat.lt_of_lt_of_le (Nat.lt_add_of_pos_right (Nat.succ_pos _)) hl) (ih _ _ (zb9 e) (by rw [List.length_append,Nat.add_assoc,Nat.add_comm [_].length]; exact hl) ?_)
   rw [show allV (p :: r) low = .str p.2 :: allV r low from by unfold allV; rw [List.filter_cons_of_pos (by rw [decide_eq_true he])]; rfl] at q
   rw [List.append_assoc]
   exact q
  ·refine zr8 h (zdd e) (lk p (za9 e)) he (ih _ _ (zb9 e) (Nat.le_of_succ_le hl) ?_)
   rw [show allV (p :: r) low = allV r low from by unfold allV; rw [List.filter_cons_of_neg (by rw [decide_eq_false he]; decide)]] at q
   exact q
theorem zxz (hs:Hs) (low:Str):(allV hs low).length <= hs.length:=by rw [allV,List.length_map]; exact List.length_filter_le _ _
theorem zp2 (xs:List V):sliceL xs none none none = xs:=by
 unfold sliceL sliceBounds
 dsimp only [Option.getD]
 have h1:((1:Int) > 0) = True:=by simp
 simp only [h1,if_true]
 have:=zdp xs 0 xs.length (Nat.zero_le _) (Nat.le_refl _)
 simpa using this
section
variable {C:Cx} {K:Frag} (F2:Facts2 C P1 K) (L:LimAt C)
include F2 L
theorem zml (Fk:FnK K 205 F_items) (B:Bd1 K 205 (S "self")):FnOk C.up 205 itemsS :=
 fn1 (sl:=fun a:TlA=>[some (.ref a.l)]) F2 L Fk (z38 T1) B (fun _=>rfl) fun a cs K' q =>
  ⟨_,q.1.at,none,none,none,.none,.none,.none,.lst (.ref q.1.ls) (by decide) (by rw [zp2]; exact ⟨by rw [pairsV,List.length_map]; exact q.2.1,q.2.2⟩)⟩
theorem zjd (Fk:FnK K 180 F_getall) (B:Bd2 K 180 (S "self") (S "name")):FnOk C.up 180 getAllS :=
 fn2 (sl:=fun a:GtA=>[some (.ref a.l),some (.str a.x)]) F2 L Fk (zx0 T1) B (fun _=>rfl) fun a cs K' q =>
  ⟨q.1.1.tb.cls,.lower a.x,.lower q.1.1.lx (zac zeo ⟨.ref a.l,Txt.lower a.x,true⟩ ⟨q.1.1.nx,_,q.1.1.tb.at,_,.cell q.1.1.tb.ls,zwx q.1.1.tb.ls q.1.1.lk a.hs 0 [] rfl (by rw [List.length_nil,Nat.zero_add]; exact q.1.2)
   ⟨Nat.le_trans (zxz _ _) q.1.2,q.2⟩⟩)⟩
end
noncomputable def T2:Tab:=[(188,getS),(135,orS initS init0S),(205,itemsS),(180,getAllS)] ++ T1
noncomputable def P2:Prm:=law1.prm T2
theorem zsk:P2.fn 142 = convS:=rfl
theorem f2_get:P2.fn 188 = getS:=rfl
theorem zsj:P2.fn 135 = orS initS init0S:=rfl
noncomputable def fV (hs:Hs) (low:Str):Option Str:=List.rec none (fun p _ ih=>if Txt.lower p.1 = low then some p.2 else ih) hs
theorem getV_f (hs:Hs) (low:Str):getV hs low .none = Option.rec V.none V.str (fV hs low):=by
 induction hs with
 | nil=>rfl
 | cons p r ih =>
  by_cases he:Txt.lower p.1 = low
  ·rw [show getV (p :: r) low .none = .str p.2 from if_pos he,show fV (p :: r) low = some p.2 from if_pos he]
  ·rw [show getV (p :: r) low .none = getV r low .none from if_neg he,show fV (p :: r) low = fV r low from if_neg he]; exact ih
structure SdA where
 l:Nat
 x:Str
 v:Str
 k:Nat
 hs:Hs
structure SdOk (a:SdA) (cs:List Cell):Prop where
 gt:GtOk ⟨a.l,a.x,a.k,a.hs⟩ cs
 nx:nameOk a.x
 vv:valOk a.v
 ll:a.hs.length < lim
noncomputable def setdS:Spec:=Sp (fun a:SdA=>[.ref a.l,.str a.x,.str a.v]) [] noKw fun a cs K=>SdOk a cs /\ Option.rec (K (.str a.v) (cs.set a.k (.list (pairsV (a.hs ++ [(a.x,a.v)]))))) (fun w=>K (.str w) cs) (fV a.hs (Txt.lower a.x))
section
variable {C:Cx} {K:Frag} (F2:Facts2 C P2 K) (L:LimAt C)
include F2 L
theorem z00 (Fk:FnK K 231 F_setd) (B:Bd3 K 231 (S "self") (S "name") (S "value")):FnOk C.up 231 setdS :=
 fn3 (sl:=fun a:SdA=>[some (.ref a.l),some (.str a.x),some (.str a.v),none]) F2 L Fk (T_setd T2) B (fun _=>rfl) fun a cs K' q=>by
  refine ⟨q.1.gt.tb.cls,zac f2_get ⟨a.l,a.x,a.k,a.hs⟩ ⟨q.1.gt,?_⟩⟩
  have q2:=q.2
  have t:=q.1.gt.tb
  rw [getV_f]
  cases h:fV a.hs (Txt.lower a.x) with
  | none =>
   rw [h] at q2
   exact .is .none ⟨_,t.at,.append t.ls,t.cls,zac zsk ⟨.ref a.l,a.x,true⟩ ⟨q.1.nx,t.cls,zac zsk ⟨.ref a.l,a.v,false⟩ ⟨q.1.vv,(by decide:2 <= lim),
    .append t.ls (by rw [pairsV,List.length_map]; exact q.1.ll) (by have q3:=q2; dsimp only at q3; rw [pairsV,List.map_append] at q3; exact q3)⟩⟩⟩
  | some w =>
   rw [h] at q2
   exact .is (.str _) q2
end
structure MkA where
 k:Nat
 hs:Hs
noncomputable def mkHS:Spec:=Sp (fun a:MkA=>[.ref a.k]) [] noKw fun a cs K=>cs[a.k]? = some (.list (pairsV a.hs)) /\ (∀ p ∈ a.hs,nameOk p.1 /\ valOk p.2) /\ K (.ref (cs.length + 1)) (cs ++ [.attr (some (.ref a.k)),.inst 241 cs.length])
noncomputable def mk0S:Spec:=Sp (fun _:Unit=>[]) [] noKw fun _ cs K=>K (.ref (cs.length + 1)) (cs ++ [.attr (some (.ref (cs.length + 2))),.inst 241 cs.length,.list []])
theorem zvu {α:Type} (cs:List α) (a b c:α):(cs ++ [a,b]).set cs.length c = cs ++ [c,b]:=by rw [List.set_append_right _ _ (Nat.le_refl _),Nat.sub_self]; rfl
theorem mk_at {α:Type} (cs:List α) (a b:α):(cs ++ [a,b])[cs.length]? = some a /\ (cs ++ [a,b])[cs.length + 1]? = some b:=by
 constructor
 ·rw [List.getElem?_append_right (Nat.le_refl _),Nat.sub_self]; rfl
 ·rw [List.getElem?_append_right (Nat.le_add_right _ 1),Nat.add_sub_cancel_left]; rfl
theorem z01 {C:Cx} (h:FnOk C 241 (makeSpec P2 135)):FnOk C 241 (orS mkHS mk0S):=by
 refine ok_or ?_ ?_
 ·intro A σ args kws args' kws' K O H B ra rk q
  refine h O H B ra rk ?_
  obtain ⟨a,rfl,rfl,hk,ok,q⟩:=q
  show P2.fn 135 _ _ _ _
  rw [zsj]
  refine .inl ⟨⟨σ.g.cs.length + 1,σ.g.cs.length,a.k,a.hs⟩,rfl,rfl,⟨(mk_at ..).2,(mk_at ..).1,?_,ok⟩,rfl,?_⟩
  ·show (σ.g.cs ++ _)[a.k]? = _
   rw [List.getElem?_append_left (zaa hk)]; exact hk
  ·show K _ ((σ.g.cs ++ _).set σ.g.cs.length _)
   rw [zvu]; exact q
 ·intro A σ args kws args' kws' K O H B ra rk q
  refine h O H B ra rk ?_
  obtain ⟨_,rfl,rfl,q⟩:=q
  show P2.fn 135 _ _ _ _
  rw [zsj]
  refine .inr ⟨(σ.g.cs.length + 1,σ.g.cs.length),rfl,rfl,(mk_at ..).2,(mk_at ..).1,rfl,?_⟩
  have e:((σ.g.cs ++ [Cell.attr none,.inst P2.cls σ.g.cs.length]) ++ [Cell.list []]).set σ.g.cs.length (.attr (some (.ref (σ.g.cs ++ [Cell.attr none,.inst P2.cls σ.g.cs.length]).length))) = σ.g.cs ++ [.attr (some (.ref (σ.g.cs.length + 2))),.inst 241 σ.g.cs.length,.list []]:=by
   rw [List.append_assoc,List.set_append_right _ _ (Nat.le_refl _),Nat.sub_self,List.length_append]; rfl
  show K _ (((σ.g.cs ++ _) ++ _).set σ.g.cs.length _)
  rw [e]; exact q
end Mine
end
section
namespace Mine
open PySem
noncomputable def digs (n:Nat):Nat -> Nat -> List Nat
 | 0,_=>[]
 | 1,x=>[x]
 | k + 2,x=>x % 2 ^ n :: digs n (k + 1) (x / 2 ^ n)
theorem zba (n:Nat):∀ (k x:Nat),(digs n k x).length = k
 | 0,_=>rfl
 | 1,_=>rfl
 | k + 2,x=>by simp [digs,zba n (k + 1)]
theorem zg8 (n:Nat):∀ (a b x:Nat),1 <= a -> 1 <= b -> digs n (a + b) x = digs n a (x % 2 ^ (n * a)) ++ digs n b (x / 2 ^ (n * a))
 | 0,b,x,h,_=>by lia
 | 1,b,x,_,hb=>by
  obtain ⟨b',rfl⟩:∃ b',b = b' + 1:=⟨b - 1,by lia⟩
  rw [show 1 + (b' + 1) = b' + 2 by exact Nat.add_comm _ _]
  simp [digs]
 | a + 2,b,x,_,hb=>by
  rw [show a + 2 + b = (a + b) + 2 by lia]
  have ih:=zg8 n (a + 1) b (x / 2 ^ n) (Nat.succ_pos _) hb
  rw [show a + 1 + b = a + b + 1 by lia] at ih
  have e1:n * (a + 2) = n + n * (a + 1):=by rw [show a + 2 = (a + 1) + 1 by lia,Nat.mul_succ]; exact Nat.add_comm _ _
  have p1:2 ^ (n * (a + 2)) = 2 ^ n * 2 ^ (n * (a + 1)):=by rw [e1,Nat.pow_add]
  show x % 2 ^ n :: digs n (a + b + 1) (x / 2 ^ n) = (x % 2 ^ (n * (a + 2))) % 2 ^ n :: digs n (a + 1) ((x % 2 ^ (n * (a + 2))) / 2 ^ n) ++ digs n b (x / 2 ^ (n * (a + 2)))
  rw [ih,p1,Nat.mod_mul_right_mod,Nat.mod_mul_right_div_self,Nat.div_div_eq_div_mul]
  rfl
theorem z0w (x s:Nat):x ||| (x / 2 ^ s * 2 ^ s) = x:=by
 apply Nat.eq_of_testBit_eq
 intro i
 rw [Nat.testBit_or,Nat.testBit_mul_two_pow]
 by_cases h:s <= i
 ·simp only [h,decide_true,Bool.true_and,Nat.testBit_div_two_pow]
  rw [show i - s + s = i by exact Nat.sub_add_cancel ‹_›]
  simp
 ·simp [h]
theorem zxx (x s:Nat):x &&& (x / 2 ^ s * 2 ^ s) = x / 2 ^ s * 2 ^ s:=by
 apply Nat.eq_of_testBit_eq
 intro i
 rw [Nat.testBit_and,Nat.testBit_mul_two_pow]
 by_cases h:s <= i
 ·simp only [h,decide_true,Bool.true_and,Nat.testBit_div_two_pow]
  rw [show i - s + s = i by exact Nat.sub_add_cancel ‹_›]
  simp
 ·simp [h]
theorem zow (x:Nat):¬ (0 <= Builtin.bitNot (x:Int)):=by unfold Builtin.bitNot; lia
theorem ziq (x:Int):Builtin.bitNot (Builtin.bitNot x) = x:=by unfold Builtin.bitNot; lia
theorem zes (x y:Nat):Builtin.bitAnd (x:Int) (y:Int) = ((x &&& y:Nat):Int):=by
 unfold Builtin.bitAnd
 simp
theorem zj0 (x y:Nat):Builtin.bitOr (x:Int) (y:Int) = ((x ||| y:Nat):Int):=by
 unfold Builtin.bitOr Builtin.bitAnd
 simp only [zow,decide_false,ziq,Int.toNat_natCast]
theorem zt1 (x s:Nat):Builtin.bitXor (x:Int) ((x / 2 ^ s * 2 ^ s:Nat):Int) = ((x % 2 ^ s:Nat):Int):=by
 unfold Builtin.bitXor
 rw [zj0,zes,z0w,zxx]
 have:=Nat.div_add_mod x (2 ^ s)
 rw [Nat.mul_comm] at this
 omega
theorem zko (x:Nat) (s:Nat):Int.fdiv (x:Int) (2 ^ s) = ((x / 2 ^ s:Nat):Int):=by
 rw [Int.fdiv_eq_ediv_of_nonneg _ (by exact Int.le_of_lt (Int.pow_pos (by decide)))]
 push_cast
 rfl
noncomputable def splice {α:Type} (ds:List α) (i:Nat) (seg:List α):List α:=ds.take i ++ seg ++ ds.drop (i + seg.length)
theorem zhl {α:Type} {ds seg:List α} {i:Nat} (h:i + seg.length <= ds.length):(splice ds i seg).length = ds.length:=by
 unfold splice
 rw [List.length_append,List.length_append,List.length_take,List.length_drop,Nat.min_eq_left (Nat.le_trans (Nat.le_add_right _ _) h),Nat.add_sub_cancel' h]
theorem znv {α:Type} {ds:List α} {i:Nat} {v:α} (h:i < ds.length):ds.set i v = splice ds i [v]:=by
 unfold splice
 rw [List.set_eq_take_append_cons_drop,if_pos h]
 simp
theorem znu {α:Type} {ds s1 s2:List α} {i:Nat} (h:i + s1.length + s2.length <= ds.length):splice (splice ds i s1) (i + s1.length) s2 = splice ds i (s1 ++ s2):=by
 unfold splice
 have l1:(ds.take i ++ s1).length = i + s1.length:=by rw [List.length_append,List.length_take,Nat.min_eq_left (Nat.le_trans (Nat.le_trans (Nat.le_add_right i s1.length) (Nat.le_add_right _ s2.length)) h)]
 rw [List.take_append_of_le_length (Nat.le_of_eq l1.symm),List.take_of_length_le (Nat.le_of_eq l1),List.drop_append,l1]
 have e:List.drop (i + s1.length + s2.length) (List.take i ds ++ s1) = []:=List.drop_of_length_le (by rw [l1]; exact Nat.le_add_right _ _)
 rw [e,List.drop_drop]
 simp only [List.nil_append,List.length_append,List.append_assoc]
 congr 3
 congr 1
 lia
theorem zkm {α:Type} {ds seg:List α} (h:seg.length = ds.length):splice ds 0 seg = seg:=by
 unfold splice
 simp [h]
noncomputable def val (n:Nat):List Nat -> Nat
 | []=>0
 | d :: r=>d + 2 ^ n * val n r
theorem zdc (n:Nat):∀ a b:List Nat,val n (a ++ b) = val n a + 2 ^ (n * a.length) * val n b
 | [],b=>by simp [val]
 | d :: r,b=>by
  have e1:val n (d :: r ++ b) = d + 2 ^ n * val n (r ++ b):=rfl
  have e2:val n (d :: r) = d + 2 ^ n * val n r:=rfl
  rw [e1,e2,zdc n r b,List.length_cons,Nat.mul_succ,Nat.pow_add,Nat.mul_add,Nat.add_assoc,Nat.mul_comm (2 ^ (n * r.length)) (2 ^ n),Nat.mul_assoc]
theorem zt8 (n:Nat) (ds:List Nat) (k:Nat):val n (ds.take k) <= val n ds:=by
 have:=zdc n (ds.take k) (ds.drop k)
 rw [List.take_append_drop] at this
 lia
theorem zua (n:Nat) (ds:List Nat) (k:Nat):val n (ds.drop k) <= val n ds:=by
 have:=zdc n (ds.take k) (ds.drop k)
 rw [List.take_append_drop] at this
 have h1:val n (ds.drop k) <= 2 ^ (n * (ds.take k).length) * val n (ds.drop k):=Nat.le_mul_of_pos_left _ (Nat.pow_pos (by decide))
 lia
noncomputable def seg {α:Type} (ds:List α) (lo hi:Nat):List α:=(ds.drop lo).take (hi - lo)
theorem zzm (n:Nat) (ds:List Nat) (lo hi:Nat):val n (seg ds lo hi) <= val n ds:=Nat.le_trans (zt8 ..) (zua ..)
theorem zqg {α:Type} (ds:List α) {lo mid hi:Nat} (h1:lo <= mid) (h2:mid <= hi):seg ds lo hi = seg ds lo mid ++ seg ds mid hi:=by
 unfold seg
 obtain ⟨a,rfl⟩:=Nat.exists_eq_add_of_le h1
 obtain ⟨b,rfl⟩:=Nat.exists_eq_add_of_le h2
 rw [Nat.add_sub_cancel_left,Nat.add_sub_cancel_left,Nat.add_assoc,Nat.add_sub_cancel_left,List.take_add,List.drop_drop]
theorem znx {α:Type} (ds:List α) {lo hi:Nat} (h2:hi <= ds.length):(seg ds lo hi).length = hi - lo:=by
 unfold seg
 rw [List.length_take,List.length_drop,Nat.min_eq_left (Nat.sub_le_sub_right h2 lo)]
theorem zz4 {α:Type} (ds:List α) {lo:Nat} {d:α} (h:ds[lo]? = some d):seg ds lo (lo + 1) = [d]:=by
 unfold seg
 obtain ⟨hl,e⟩:=List.getElem?_eq_some_iff.mp h
 rw [List.drop_eq_getElem_cons hl,show lo + 1 - lo = 1 by lia,e]; rfl
theorem zu1 {α:Type} (ds:List α):seg ds 0 ds.length = ds:=by unfold seg; simp
theorem zl4 (n:Nat):∀ (k a:Nat),1 <= k -> val n (digs n k a) = a
 | 0,a,h=>by lia
 | 1,a,_=>by simp [digs,val]
 | k + 2,a,_=>by
  have ih:=zl4 n (k + 1) (a / 2 ^ n) (Nat.succ_pos _)
  show a % 2 ^ n + 2 ^ n * val n (digs n (k + 1) (a / 2 ^ n)) = a
  rw [ih]
  exact Nat.mod_add_div a (2 ^ n)
theorem zln (n:Nat):∀ (k a:Nat),a < 2 ^ (n * k) -> ∀ d ∈ digs n k a,d < 2 ^ n
 | 0,a,h,d,hd=>by cases hd
 | 1,a,h,d,hd=>by
  simp [digs] at hd
  subst hd
  simpa using h
 | k + 2,a,h,d,hd=>by
  have hd':d = a % 2 ^ n \/ d ∈ digs n (k + 1) (a / 2 ^ n):=by simpa [digs] using hd
  rcases hd' with rfl | hd'
  ·exact Nat.mod_lt _ (Nat.pow_pos (by decide))
  ·refine zln n (k + 1) _ ?_ d hd'
   refine Nat.div_lt_of_lt_mul ?_
   rw [<- Nat.pow_add]
   rw [show n + n * (k + 1) = n * (k + 2) by rw [Nat.mul_succ n (k + 1)]; exact Nat.add_comm _ _]
   exact h
theorem zw7 (S b m d:Nat) (hb:0 < b):((S % b) * m + d) / b + m * (S / b) = (d + m * S) / b:=by
 have e:d + m * S = ((S % b) * m + d) + b * (m * (S / b)):=by
  have:=Nat.div_add_mod S b
  calc d + m * S = d + m * (b * (S / b) + S % b):=by rw [this]
   _ = _:=by rw [Nat.mul_add,Nat.mul_comm m (S % b),Nat.mul_left_comm m b]; lia
 rw [e,Nat.add_mul_div_left _ _ hb]
theorem zvt (S b m d:Nat):((S % b) * m + d) % b = (d + m * S) % b:=by
 have e:d + m * S = ((S % b) * m + d) + b * (m * (S / b)):=by
  have:=Nat.div_add_mod S b
  calc d + m * S = d + m * (b * (S / b) + S % b):=by rw [this]
   _ = _:=by rw [Nat.mul_add,Nat.mul_comm m (S % b),Nat.mul_left_comm m b]; lia
 rw [e,Nat.add_mul_mod_self_left]
theorem zio (b:Nat) (h:1 <= b):1 <= Builtin.Int.intBits (b:Int) /\ b < 2 ^ Builtin.Int.intBits (b:Int):=by
 have e:Builtin.Int.intBits (b:Int) = b.log2 + 1:=by
  unfold Builtin.Int.intBits
  rw [if_neg (by simp; exact Nat.ne_of_gt ‹_›),Int.natAbs_natCast]
 rw [e]
 exact ⟨by exact Nat.succ_pos _,Nat.lt_log2_self⟩
theorem ztg (b k:Nat) (h:b < 2 ^ k):Builtin.Int.intBits (b:Int) <= k:=by
 unfold Builtin.Int.intBits
 split
 ·exact Nat.zero_le _
 ·rename_i h0
  rw [Int.natAbs_natCast]
  have h1:b ≠ 0:=fun q=>h0 (by rw [q]; rfl)
  have:=(Nat.log2_lt h1).mpr h
  exact Nat.succ_le_of_lt ‹_›
theorem zg9 (a n:Nat) (hn:1 <= n):a < 2 ^ (n * ((Builtin.Int.intBits (a:Int) + n - 1) / n)):=by
 have h1:Builtin.Int.intBits (a:Int) <= n * ((Builtin.Int.intBits (a:Int) + n - 1) / n):=by
  have:=Nat.div_add_mod (Builtin.Int.intBits (a:Int) + n - 1) n
  have:=Nat.mod_lt (Builtin.Int.intBits (a:Int) + n - 1) (show n > 0 by exact Nat.succ_le_of_lt ‹_›)
  lia
 by_cases ha:a = 0
 ·subst ha; exact Nat.pow_pos (by decide)
 ·exact Nat.lt_of_lt_of_le (zio a (Nat.pos_of_ne_zero ‹_›)).2 (Nat.pow_le_pow_right (by decide) h1)
theorem z2m (a n:Nat) (hn:1 <= n) (ha:a ≠ 0):1 <= (Builtin.Int.intBits (a:Int) + n - 1) / n:=by
 have:=(zio a (Nat.pos_of_ne_zero ‹_›)).1
 exact (Nat.le_div_iff_mul_le (Nat.succ_le_of_lt ‹_›)).mpr (by lia)
theorem zxi (n:Nat) (hn:1 <= n):(Builtin.Int.intBits ((0:Nat):Int) + n - 1) / n = 0:=by
 have:Builtin.Int.intBits ((0:Nat):Int) = 0:=rfl
 rw [this]; exact Nat.div_eq_of_lt (by omega)
theorem zpd (n a:Nat) (hn:1 <= n):val n (digs n ((Builtin.Int.intBits (a:Int) + n - 1) / n) a) = a:=by
 by_cases ha:a = 0
 ·subst ha; rw [zxi n hn]; rfl
 ·exact zl4 n _ a (z2m a n hn ha)
theorem fl4 (a b:Int) (hb:0 < b):-((-a - 1).fdiv b) - 1 = a.fdiv b /\ b + (-((-a - 1).fmod b) - 1) = a.fmod b:=by
 rw [Int.fdiv_eq_ediv_of_nonneg _ (Int.le_of_lt ‹_›),Int.fdiv_eq_ediv_of_nonneg _ (Int.le_of_lt ‹_›),Int.fmod_eq_emod_of_nonneg _ (Int.le_of_lt ‹_›),Int.fmod_eq_emod_of_nonneg _ (Int.le_of_lt ‹_›)]
 have h1:=Int.mul_ediv_add_emod (-a - 1) b
 have h2:=Int.emod_nonneg (-a - 1) (show b ≠ 0 by exact Int.ne_of_gt ‹_›)
 have h3:=Int.emod_lt_of_pos (-a - 1) hb
 have:=(Int.ediv_emod_unique hb (a:=a) (r:=b + (-((-a - 1) % b) - 1)) (q:=-((-a - 1) / b) - 1)).mpr ⟨by grind,by lia,by lia⟩
 exact ⟨this.1.symm,this.2.symm⟩
theorem fl5 (a b:Int) (hb:b < 0):(-a).fdiv (-b) = a.fdiv b /\ -((-a).fmod (-b)) = a.fmod b:=by
 have e1:(-a).fdiv (-b) = a.fdiv b:=by
  exact Int.neg_fdiv_neg ..
 refine ⟨e1,?_⟩
 rw [Int.fmod_def,Int.fmod_def,e1]
 grind
end Mine
end
section
namespace Mine
open PySem PySem.SeqAt PySem.W PySem.Calls
noncomputable abbrev Cx.at (C:Cx) (d:Nat):Cx:={ C with d:=d }
noncomputable def zbf:List Str:=[S "a_digits",S "inner",S "n"]
noncomputable abbrev zal:Scope:=scopeOf F_i2d
noncomputable def ze0:List IS:=[s2_i2d,s3_i2d,s4_i2d,s5_i2d,s6_i2d]
theorem zzb:(IS.sems P0 ze0).map SD.ast ++ [(zyc.sem P0).ast,(zqm.sem P0).ast] = bodyOf F_i2d:=by kernel_rfl
theorem zy6:bwf (IS.sems P0 ze0) zal (ownNs zal ++ zbf) = true:=by kernel_rfl
theorem W2_i2d:wfs (IE.sems P0 znj) zal (ownNs zal ++ zbf) = true:=by kernel_rfl
theorem W3_i2d:wfs (IE.sems P0 zni) zal (ownNs zal ++ zbf) = true:=by kernel_rfl
theorem W4_i2d (p:Pos):(ED.loc (S "inner") 8 p).wf zal (ownNs zal ++ zbf) = true:=by kernel_rfl
theorem zy4:[(S "x",0),(S "L",1),(S "R",2)].all (fun p=>tgt1 zal (ownNs zal ++ zbf) p.1 p.2) = true:=by kernel_rfl
theorem W6_i2d:(zal.names.all fun p=>!(p.2 == .cell)) = true:=by kernel_rfl
theorem zy2:List.replicate (ownNs zal).length (none:Option V) = [none,none,none,none,none,none,none]:=by kernel_rfl
noncomputable abbrev zi8 (x l r m s u w:Option V) (la n:Nat) (f:Addr):Slots:=[x,l,r,m,s,u,w,some (.ref la),some (.adr f),some (.int n)]
theorem zq6 (a b:Nat):Int.fdiv (((a + b:Nat)):Int) (2 ^ (1:Int).toNat) = (((a + b) / 2:Nat):Int):=zko (a + b) 1
section
variable {cs:List Cell} {ds:List V} {la n x lo hi:Nat} {f:Addr} {K:KF}
theorem zwq (h:cs[la]? = some (.list ds)) (hl:lo < ds.length) (hh:lo + 1 = hi) {m s u w:Option V} (q:∀ sl,K (.ret .none) sl (cs.set la (.list (ds.set lo (.int x))))) :
  bden (IS.sems P0 ze0) (zi8 (some (.int x)) (some (.int lo)) (some (.int hi)) m s u w la n f) cs K :=
 .addI (.eq (.intT (congrArg Int.ofNat hh)) (.list h ⟨Int.natCast_nonneg _,Int.ofNat_lt.mpr hl⟩ (q _)))
theorem z1z {mid sh:Nat} (h1:lo + 1 ≠ hi) (hm:(lo + hi) / 2 = mid) (hlo:lo <= mid) (hsh:(mid - lo) * n = sh) (h4:sh <= 4000) (hx:x < 2 ^ 240) (hmm:mid - lo < 2 ^ 63) {m s u w:Option V}
  (q:K .next (zi8 (some (.int x)) (some (.int lo)) (some (.int hi)) (some (.int mid)) (some (.int sh)) (some (.int (x / 2 ^ sh:Nat))) (some (.int (x % 2 ^ sh:Nat))) la n f) cs) :
  bden (IS.sems P0 ze0) (zi8 (some (.int x)) (some (.int lo)) (some (.int hi)) m s u w la n f) cs K:=by
 subst hm
 refine .addI (.eq (.intF fun e=>h1 (Int.ofNat.inj e)) (.addI (.shrI (by decide) ?_)))
 rw [show Int.fdiv ((lo:Int) + (hi:Int)) (2 ^ (1:Int).toNat) = (((lo + hi) / 2:Nat):Int) from zq6 lo hi]
 refine .subI' (z:=(((lo + hi) / 2 - lo:Nat):Int)) (Int.ofNat_sub hlo).symm (.mulI' (z:=(sh:Int)) (mul_l (by rw [Int.natAbs_natCast]; exact hmm)) (by rw [<- Int.natCast_mul,hsh]) (.shrI (Int.natCast_nonneg _) ?_))
 rw [show Int.fdiv (x:Int) (2 ^ (sh:Int).toNat) = ((x / 2 ^ sh:Nat):Int) by rw [Int.toNat_natCast]; exact zko x sh]
 refine .shlI ⟨Int.natCast_nonneg _,Int.ofNat_le.mpr h4,?_⟩ (.xorI ?_)
 ·rw [Int.natAbs_natCast,show bigN = 2 ^ 240 by decide +kernel]
  exact Nat.lt_of_le_of_lt (Nat.div_le_self _ _) hx
 ·rw [show Builtin.bitXor (x:Int) (((x / 2 ^ sh:Nat):Int) * 2 ^ (sh:Int).toNat) = ((x % 2 ^ sh:Nat):Int) by rw [Int.toNat_natCast,<- zt1]; rw [Int.natCast_mul,Int.natCast_pow]; rfl]
  exact q
end
noncomputable def natV (l:List Nat):List V:=l.map fun k=>.int (k:Nat)
structure InF (C:Cx) (K:Frag) (f:Addr) (sc:Scope) (body:List Stmt) (fd:FuncData):Prop where
 F2:∀ d,Facts2 (C.at d) P0 K
 L:∀ d,LimAt (C.at d)
 Fa:∀ d,FnAt0 (C.at d) f sc body fd
theorem InF.keep {C:Cx} {K:Frag} {f:Addr} {sc:Scope} {body:List Stmt} {fd:FuncData} (I:InF C K f sc body fd) {A:Around} {σ:St} (H:HRel σ.g σ.s.heap) (B:Base C σ.g):KeepOk C A σ.s (.ref f):=by
 obtain ⟨o,ho,hd⟩:=(I.Fa 0).ho
 exact zc3 (C:=C) (H.fz _ _ (B.hf _ _ ho)) hd
structure I2A (σ:St) (la n x lo hi:Nat) (ds:List V) (args':List Value):Prop where
 h:σ.g.cs[la]? = some (.list ds)
 hh:hi <= ds.length
 hl:lo < hi
 hx:x < 2 ^ 240
 hn:n * (hi - lo) <= 4000
 h63:hi - lo < 2 ^ 63
 ra:VRels σ.g [.int x,.int lo,.int hi] args'
theorem zhf {C:Cx} {Φ:Fm} {ns:List Str} {P:Prm} (F:Facts C P) (es:List IE) (w:wfs (IE.sems P es) Φ.env.scope ns = true):∀ e ∈ IE.sems P es,EOk C Φ ns e:=(IE.all_good F es).ok w
theorem zw9 {n a b x:Nat} {ds:List V} {lo:Nat} (ha:1 <= a) (hb:1 <= b) (h:lo + a + b <= ds.length):splice (splice ds lo (natV (digs n a (x % 2 ^ (n * a))))) (lo + a) (natV (digs n b (x / 2 ^ (n * a)))) = splice ds lo (natV (digs n (a + b) x)):=by
 have l1:(natV (digs n a (x % 2 ^ (n * a)))).length = a:=by rw [natV,List.length_map,zba]
 have l2:(natV (digs n b (x / 2 ^ (n * a)))).length = b:=by rw [natV,List.length_map,zba]
 have:=znu (ds:=ds) (s1:=natV (digs n a (x % 2 ^ (n * a)))) (s2:=natV (digs n b (x / 2 ^ (n * a)))) (i:=lo) (by rw [l1,l2]; exact h)
 rw [l1] at this
 rw [this,zg8 n a b x ha hb,natV,natV,natV,List.map_append]
structure MidOk (lo hi e:Nat) (mid:Nat):Prop where
 l:lo < mid
 r:mid < hi
 ea:mid - lo <= 2 ^ e
 eb:hi - mid <= 2 ^ e
 sa:mid - lo <= hi - lo
 sb:hi - mid <= hi - lo
 ad:mid - lo + (hi - mid) = hi - lo
 am:lo + (mid - lo) = mid
theorem zyk {lo hi e:Nat} (h:lo < hi) (h1:lo + 1 ≠ hi) (hm:hi - lo <= 2 ^ (e + 1)):MidOk lo hi e ((lo + hi) / 2):=by
 obtain ⟨n,rfl⟩:=Nat.exists_eq_add_of_le (Nat.lt_of_le_of_ne (Nat.succ_le_of_lt h) h1)
 rw [Nat.pow_succ] at hm
 have e0:lo + 1 + 1 + n = lo + (n + 2):=by rw [Nat.add_assoc,Nat.add_assoc,<- Nat.add_assoc 1 1 n,Nat.add_comm n]
 rw [show lo.succ + 1 + n = lo + (n + 2) from e0] at hm ⊢
 rw [Nat.add_sub_cancel_left] at hm
 have em:(lo + (lo + (n + 2))) / 2 = lo + (n / 2 + 1):=by
  rw [show lo + (lo + (n + 2)) = n + 2 * (lo + 1) by clear hm h1 h e0; lia,Nat.add_mul_div_left _ _ (by decide),Nat.add_comm lo 1,<- Nat.add_assoc,Nat.add_comm]
 have hb:n + 2 - (n / 2 + 1) <= 2 ^ e:=by clear e0 em h h1; generalize 2 ^ e = p at hm; lia
 have ha:n / 2 + 1 <= 2 ^ e:=by clear e0 em h h1 hb; generalize 2 ^ e = p at hm; lia
 have hl:n / 2 + 1 < n + 2:=Nat.add_lt_add_of_le_of_lt (Nat.div_le_self n 2) (by decide)
 have ea:lo + (n / 2 + 1) - lo = n / 2 + 1:=Nat.add_sub_cancel_left ..
 have eb:lo + (n + 2) - (lo + (n / 2 + 1)) = n + 2 - (n / 2 + 1):=Nat.add_sub_add_left ..
 have et:lo + (n + 2) - lo = n + 2:=Nat.add_sub_cancel_left ..
 rw [em]
 exact ⟨Nat.lt_add_of_pos_right (Nat.succ_pos _),Nat.add_lt_add_left hl lo,by rw [ea]; exact ha,by rw [eb]; exact hb,by rw [ea,et]; exact Nat.le_of_lt hl,by rw [eb,et]; exact Nat.sub_le _ _,by rw [ea,eb,et]; exact Nat.add_sub_cancel' (Nat.le_of_lt hl),by rw [ea]⟩
theorem zg0 {n a k:Nat} (h:a <= k) (hn:n * k <= 4000):n * a <= 4000:=Nat.le_trans (Nat.mul_le_mul_left n h) hn
section
variable {C:Cx} {K:Frag} {f:Addr} {fd:FuncData} {la n:Nat}
theorem I2A.low {σ σ':St} {x lo hi mid e:Nat} {ds:List V} {args' a:List Value} (T:I2A σ la n x lo hi ds args') (M:MidOk lo hi e mid) (c:σ'.g.cs = σ.g.cs) (ra:VRels σ'.g [.int (x % 2 ^ (n * (mid - lo)):Nat),.int lo,.int mid] a):I2A σ' la n (x % 2 ^ (n * (mid - lo))) lo mid ds a :=
 ⟨c ▸ T.h,Nat.le_trans (Nat.le_of_lt M.r) T.hh,M.l,Nat.lt_of_le_of_lt (Nat.mod_le _ _) T.hx,zg0 M.sa T.hn,Nat.lt_of_le_of_lt M.sa T.h63,ra⟩
theorem I2A.high {σ σ':St} {x lo hi mid e:Nat} {ds ds1:List V} {args' a:List Value} (T:I2A σ la n x lo hi ds args') (M:MidOk lo hi e mid) (hl:ds1.length = ds.length) (c:σ'.g.cs = σ.g.cs.set la (.list ds1)) (ra:VRels σ'.g [.int (x / 2 ^ (n * (mid - lo)):Nat),.int mid,.int hi] a):I2A σ' la n (x / 2 ^ (n * (mid - lo))) mid hi ds1 a :=
 ⟨by rw [c]; exact List.getElem?_set_self ((List.getElem?_eq_some_iff.mp T.h).1),hl ▸ T.hh,M.r,Nat.lt_of_le_of_lt (Nat.div_le_self _ _) T.hx,zg0 M.sb T.hn,Nat.lt_of_le_of_lt M.sb T.h63,ra⟩
theorem zpe {x lo hi mid e:Nat} {ds:List V} {cs:List Cell} (M:MidOk lo hi e mid) (hh:hi <= ds.length):(cs.set la (.list (splice ds lo (natV (digs n (mid - lo) (x % 2 ^ (n * (mid - lo)))))))).set la (.list (splice (splice ds lo (natV (digs n (mid - lo) (x % 2 ^ (n * (mid - lo)))))) mid (natV (digs n (hi - mid) (x / 2 ^ (n * (mid - lo))))))) = cs.set la (.list (splice ds lo (natV (digs n (hi - lo) x)))):=by
 have h:=zw9 (n:=n) (a:=mid - lo) (b:=hi - mid) (x:=x) (ds:=ds) (lo:=lo) (Nat.sub_pos_of_lt M.l) (Nat.sub_pos_of_lt M.r) (by rw [Nat.add_assoc,M.ad]; have:=M.l; have:=M.r; lia)
 rw [M.am,M.ad] at h
 rw [List.set_set,h]
theorem zz5 {x lo hi mid e:Nat} {ds:List V} (M:MidOk lo hi e mid) (hh:hi <= ds.length):(splice ds lo (natV (digs n (mid - lo) (x % 2 ^ (n * (mid - lo)))))).length = ds.length:=by
 refine zhl ?_
 rw [natV,List.length_map,zba,M.am]
 exact Nat.le_trans (Nat.le_of_lt M.r) hh
theorem W4' {sc:Scope} (h:sc = zal) (p:Pos):(ED.loc (S "inner") 8 p).wf sc (ownNs zal ++ zbf) = true:=by rw [h]; exact W4_i2d p
theorem zdg {A:Around} {σ:St} {d:Nat} {g:Value} {a:List Value} {KK:KV} (k:KeepOk C A σ.s g) (h:CRuns C A σ g a [] KK):CallsOk (C.at d) A σ KK g a []:=⟨k,h.runs⟩
theorem T2_i2d:[(zyc.sem P0).ast,(zqm.sem P0).ast] = [.Expr (.Call (.Name (S "inner") (pp 41 8 13)) ((IE.sems P0 znj).map ED.ast) [] (pp 41 8 28)) (pp 41 8 28),.Expr (.Call (.Name (S "inner") (pp 42 8 13)) ((IE.sems P0 zni).map ED.ast) [] (pp 42 8 28)) (pp 42 8 28)]:=by kernel_rfl
theorem zrt {σ σ3:St} {d:Nat} {Φ:Fm} {ds:List V} {x lo hi:Nat} {args':List Value} {KK:KV} (I:InF C K f zal (bodyOf F_i2d) fd) (T:I2A σ la n x lo hi ds args') (hh:lo + 1 = hi) (hsc:Φ.env.scope = zal) {m s u w:Option V}
  (S3:Std (C.at d) Φ (look (ownNs zal ++ zbf) (zi8 (some (.int x)) (some (.int lo)) (some (.int hi)) m s u w la n f)) σ3) (e3:σ3.g.cs = σ.g.cs) (q:KK .none (σ.g.cs.set la (.list (splice ds lo (natV (digs n (hi - lo) x)))))) :
  XRuns (C.at d) Φ (ownNs zal ++ zbf) σ3 (execs (bodyOf F_i2d) Φ.env) fun fl _ cs=>KK (retOf fl) cs:=by
 rw [<- zzb]
 refine zbb (K1:=fun fl _ cs=>fl = .ret .none /\ cs = σ.g.cs.set la (.list (ds.set lo (.int x)))) (IS.sems P0 ze0) ((IS.all_good (I.F2 d) ze0).ok ((I.L _).fm _ _) (hsc ▸ zy6)) _ σ3 S3 (zwq (hi:=hi) (e3 ▸ T.h) (Nat.lt_of_lt_of_le T.hl T.hh) hh fun _=>⟨rfl,e3 ▸ rfl⟩) (fun fl sl cs hk _=>?_) fun sl' σ' X' S' hk=>nomatch hk.1
 rw [hk.1,hk.2]
 subst hh
 rw [Nat.add_sub_cancel_left] at q
 rw [znv (Nat.lt_of_lt_of_le T.hl T.hh)]
 exact q
theorem i2d_in (I:InF C K f zal (bodyOf F_i2d) fd) (hb:∀ x l r:Value,bindArgs fd ⟨[x,l,r],[]⟩ = pure [(S "x",x),(S "L",l),(S "R",r)]) (e:Nat) :
  ∀ {A:Around} {σ:St} {ds:List V} {x lo hi:Nat} {args':List Value} {KK:KV},AOk A (e + 1) -> HRel σ.g σ.s.heap -> Base C σ.g -> CloOk σ zal fd.closure zbf [some (.ref la),some (.adr f),some (.int n)] -> I2A σ la n x lo hi ds args' -> hi - lo <= 2 ^ e ->
   KK .none (σ.g.cs.set la (.list (splice ds lo (natV (digs n (hi - lo) x))))) -> CRuns C A σ (.ref f) args' [] KK:=by
 induction e with
 | zero =>
  intro A σ ds x lo hi args' KK O H B Q T hm q
  obtain ⟨x',l',r',rfl,rx,rl,rr⟩:=T.ra.three
  have hh:lo + 1 = hi:=by have:=T.hl; lia
  refine zbl (C:=C.at 0) (ns:=zbf) (ps:=[(S "x",0),(S "L",1),(S "R",2)]) (vs:=[.int x,.int lo,.int hi]) (I.L 0).l (I.Fa 0) O H ⟨B.pr,B.hf,B.fl⟩ rfl (fun M A E Q h=>by rw [hb]; exact wpAny_pure h) (.cons ⟨rfl,rx⟩ (.cons ⟨rfl,rl⟩ (.cons ⟨rfl,rr⟩ .nil))) Q zy4 fun Φ σ3 hsc I3 S3=>?_
  have e3:=I3.cs
  have hcode:=I3.code
  have hqual:=I3.qual
  have X3:=I3.X.drop_own I3.own0
  rw [zy2] at S3
  exact zrt (d:=0) I T hh hsc S3 e3 q
 | succ e ih =>
  intro A σ ds x lo hi args' KK O H B Q T hm q
  obtain ⟨x',l',r',rfl,rx,rl,rr⟩:=T.ra.three
  refine zbl (C:=C.at (e + 1)) (ns:=zbf) (ps:=[(S "x",0),(S "L",1),(S "R",2)]) (vs:=[.int x,.int lo,.int hi]) (I.L _).l (I.Fa _) O H ⟨B.pr,B.hf,B.fl⟩ rfl (fun M A E Q h=>by rw [hb]; exact wpAny_pure h) (.cons ⟨rfl,rx⟩ (.cons ⟨rfl,rl⟩ (.cons ⟨rfl,rr⟩ .nil))) Q zy4 fun Φ σ3 hsc I3 S3=>?_
  have e3:=I3.cs
  have hcode:=I3.code
  have hqual:=I3.qual
  have X3:=I3.X.drop_own I3.own0
  rw [zy2] at S3
  by_cases h1:lo + 1 = hi
  ·exact zrt I T h1 hsc S3 e3 q
  have M:=zyk T.hl h1 hm
  rw [<- zzb,T2_i2d]
  refine zbb (K1:=fun fl sl cs=>fl = .next /\ sl = zi8 (some (.int x)) (some (.int lo)) (some (.int hi)) (some (.int ((lo + hi) / 2:Nat))) (some (.int (n * ((lo + hi) / 2 - lo):Nat))) (some (.int (x / 2 ^ (n * ((lo + hi) / 2 - lo)):Nat))) (some (.int (x % 2 ^ (n * ((lo + hi) / 2 - lo)):Nat))) la n f /\ cs = σ.g.cs) (IS.sems P0 ze0) ((IS.all_good (I.F2 _) ze0).ok ((I.L _).fm _ _) (hsc ▸ zy6)) _ σ3 S3
   (z1z h1 rfl (Nat.le_of_lt M.l) (Nat.mul_comm _ _) (zg0 M.sa T.hn) T.hx (Nat.lt_of_le_of_lt M.sa T.h63) ⟨rfl,rfl,e3⟩) (fun fl sl cs hk ne=>(ne hk.1).elim) fun sl4 σ4 X4 S4 hk=>?_
  obtain ⟨_,rfl,c4⟩:=hk
  have no:=zha S3 (Q.ext H X3 fun _ _ _ z=>z) (hsc ▸ W6_i2d)
  have X34:=(toOwn (Φ:=Φ) X3).trans X4
  generalize (lo + hi) / 2 = mid at *
  refine zf4 (K1:=fun _ cs=>cs = σ.g.cs.set la (.list (splice ds lo (natV (digs n (mid - lo) (x % 2 ^ (n * (mid - lo)))))))) S4 rfl (zde (W4' hsc _) (zhf (I.F2 (e + 1)).F znj (hsc ▸ W2_i2d)) S4 (T:=fun vs cs=>vs = [.int (x % 2 ^ (n * (mid - lo)):Nat),.int lo,.int mid] /\ cs = σ.g.cs) rfl ⟨rfl,c4⟩ fun vs a σ5 X5 ra ht=>?_) fun v σ6 X6 S6 k6=>?_
  ·obtain ⟨rfl,c5⟩:=ht
   have X:=X34.trans (toOwn X5)
   exact zdg (I.keep X5.H ⟨(S4.ext X5).B.pr,(S4.ext X5).B.hf,(S4.ext X5).B.fl⟩) (ih (S4.ext X5).O X5.H ⟨(S4.ext X5).B.pr,(S4.ext X5).B.hf,(S4.ext X5).B.fl⟩ (Q.ext H X no) (T.low M c5 ra) M.ea (by rw [c5]))
  ·refine zf4 (K1:=fun _ cs=>cs = σ.g.cs.set la (.list (splice ds lo (natV (digs n (hi - lo) x))))) S6 rfl (zde (W4' hsc _) (zhf (I.F2 (e + 1)).F zni (hsc ▸ W3_i2d)) S6 (T:=fun vs cs=>vs = [.int (x / 2 ^ (n * (mid - lo)):Nat),.int mid,.int hi] /\ cs = σ6.g.cs) rfl ⟨rfl,rfl⟩ fun vs a σ7 X7 ra ht=>?_) fun v σ8 X8 S8 k8=>zsp S8 (by rw [k8]; exact q)
   obtain ⟨rfl,c7⟩:=ht
   have X:=(X34.trans (toOwn X6)).trans (toOwn X7)
   exact zdg (I.keep X7.H ⟨(S6.ext X7).B.pr,(S6.ext X7).B.hf,(S6.ext X7).B.fl⟩) (ih (S6.ext X7).O X7.H ⟨(S6.ext X7).B.pr,(S6.ext X7).B.hf,(S6.ext X7).B.fl⟩ (Q.ext H X no) (T.high M (zz5 M T.hh) (c7.trans k6) ra) M.eb (by rw [c7.trans k6,zpe M T.hh]))
end
section
variable {C:Cx} {Φ:Fm} {σ:St} {ns:List Str}
theorem zfg {s:Stmt} {rest:List Stmt} {K1 K2:KF} (h1:XRuns C Φ ns σ (exec s Φ.env) K1) (hx:∀ fl sl cs,K1 fl sl cs -> fl ≠ .next -> K2 fl sl cs) (h:∀ sl' σ',Ext σ σ' (ownOf Φ.env) -> Std C Φ (look ns sl') σ' -> K1 .next sl' σ'.g.cs -> XRuns C Φ ns σ' (execs rest Φ.env) K2) :
  XRuns C Φ ns σ (execs (s :: rest) Φ.env) K2:=fun Q E k=>by
 refine wpAny_execs_cons (h1 _ _ fun fl sl1 f σ1 X1 r1 S1 q1=>?_)
 cases r1 with
 | next=>exact h sl1 σ1 X1 S1 q1 Q E fun fl sl2 f σ2 X2 r2 S2 q2=>k fl sl2 f σ2 (X1.trans X2) r2 S2 q2
 | brk=>exact k .brk sl1 .brk σ1 X1 .brk S1 (hx _ _ _ q1 fun e=>nomatch e)
 | cont=>exact k .cont sl1 .cont σ1 X1 .cont S1 (hx _ _ _ q1 fun e=>nomatch e)
 | ret r=>exact k (.ret _) sl1 (.ret _) σ1 X1 (.ret r) S1 (hx _ _ _ q1 fun e=>nomatch e)
theorem z1w {t:ED} {a b:List Stmt} {p:Pos} {sl:Slots} {T:Bool -> List Cell -> Prop} {K2:KF} (O:EOk C Φ ns t) (S:Std C Φ (look ns sl) σ) (q:t.tst sl σ.g.cs T) (h:∀ c σ',Ext σ σ' noOwn -> Std C Φ (look ns sl) σ' -> T c σ'.g.cs -> XRuns C Φ ns σ' (execs (cond c a b) Φ.env) K2) :
  XRuns C Φ ns σ (exec (.If t.ast a b p) Φ.env) K2:=fun Q E k=>by
 refine wpAny_If (O.tst sl σ _ S q _ _ fun c c' σ1 X1 rc q1=>?_)
 cases (rc:c' = c)
 have:=h c σ1 X1 (S.ext X1) q1 Q E fun fl sl2 f σ2 X2 r2 S2 q2=>k fl sl2 f σ2 ((toOwn X1).trans X2) r2 S2 q2
 cases c <;> exact this
end
theorem W0.more {C:Cx} {K:Frag} (W:W0 C K) {b:Addr -> Option Obj} (m:∀ a o,C.base a = some o -> b a = some o) (d:Nat):W0 { C with base:=b,d:=d } K where
 inK:=⟨fun a o e=>m _ _ (W.inK.sub a o e)⟩
 blt:=by obtain ⟨o,mb,e,r⟩:=W.blt; exact ⟨o,mb,m _ _ e,r⟩
 glo:=by obtain ⟨o,mb,e,r⟩:=W.glo; exact ⟨o,mb,m _ _ e,r⟩
 lim:=by obtain ⟨o,es,ep,mc,e,r⟩:=W.lim; exact ⟨o,es,ep,mc,m _ _ e,r⟩
 lo:=by obtain ⟨o,e⟩:=W.lo; exact ⟨o,m _ _ e⟩
 bmain:=by obtain ⟨bm,ob,e1,e2,e3,r⟩:=W.bmain; exact ⟨bm,ob,e1,e2,m _ _ e3,r⟩
noncomputable abbrev zaf:Scope:=scopeOf F_int2digits
theorem TO_i2d:(IS.sems P0 [zbi]).map SD.ast ++ (F_i2d :: ((IS.sems P0 [zci]).map SD.ast ++ (IS.sems P0 [zch]).map SD.ast)) = bodyOf F_int2digits:=by kernel_rfl
theorem z34:bwf (IS.sems P0 [zbi]) zaf (ownNs zaf ++ []) = true:=by kernel_rfl
theorem z32:bwf (IS.sems P0 [zch]) zaf (ownNs zaf ++ []) = true:=by kernel_rfl
theorem z30:wfs (IE.sems P0 za6) zaf (ownNs zaf ++ []) = true:=by kernel_rfl
theorem z3y (p:Pos):(ED.loc (S "inner") 3 p).wf zaf (ownNs zaf ++ []) = true:=by kernel_rfl
theorem z3w:[(S "a",0),(S "n",1)].all (fun p=>tgt1 zaf (ownNs zaf ++ []) p.1 p.2) = true:=by kernel_rfl
theorem z3u:tgt1 zaf (ownNs zaf ++ []) (S "inner") 3 = true:=by kernel_rfl
theorem z3s:List.replicate (ownNs zaf).length (none:Option V) = [none,none,none,none]:=by kernel_rfl
theorem z3q:(zal.names.all fun p=>!(isFree p.2) || ((zaf.names.lookup p.1 == some .cell) && !(zal.names.contains (p.1,.cell)))) = true:=by kernel_rfl
noncomputable def parOf:Stmt -> Arguments
 | .FunctionDef _ a _ _ _ _ _ _ _ _=>a
 | _=>default
noncomputable def posOf:Stmt -> Pos
 | .FunctionDef _ _ _ _ _ _ _ _ _ p=>p
 | _=>default
theorem TD_i2d:F_i2d = .FunctionDef (S "inner") (parOf F_i2d) (bodyOf F_i2d) [] none [] zal none (S "inner") (posOf F_i2d):=by kernel_rfl
theorem zy9:(parOf F_i2d).defaults = [] /\ (parOf F_i2d).kw_defaults = []:=⟨by kernel_rfl,by kernel_rfl⟩
section
variable {C:Cx} {Φ:Fm} {σ:St} {ns:List Str} {sl:Slots} {K:Frag}
theorem XRuns.less {b:Addr -> Option Obj} {t:Sem Flow} {KK:KF} (m:∀ a o,C.base a = some o -> b a = some o) (h:XRuns (C.more b) Φ ns σ t KK):XRuns C Φ ns σ t KK:=fun Q E k =>
 h Q E fun fl sl f σ' X r S q=>k fl sl f σ' X r ⟨S.F,S.H,⟨S.B.pr,fun a o e=>S.B.hf a o (m a o e),S.B.fl⟩,S.O⟩ q
theorem zna (W:W0 C K) (S:Std C Φ (look ns sl) σ) {name:Str} {params:Arguments} {body:List Stmt} {scope:Scope} {pos:Pos} {c Pt:Addr} {lt i:Nat} {rest:List Stmt} {K2:KF}
  (hd0:params.defaults = []) (hk0:params.kw_defaults = []) (ha:annTrees params none Φ.env = []) (hcode:Φ.env.code = .ref c) (Tb:TabFact C c Pt) (hct:σ.g.cs[lt]? = some (.tab Pt pos (Φ.env.qual ++ name)))
  (hfree:∀ x ∈ scope.names,x.2 = .free -> ∃ c,Φ.env.cells.lookup x.1 = some c) (hgP:mainGlobals ≠ Pt) (hkn:Φ.env.kindOf name = some .cell) (htg:tgt1 Φ.env.scope ns name i = true) (h1:scope.isCoroutine = false) (h2:scope.isGenerator = false) (h3:scope.kind = .function)
  (h:∀ f fd base' σ',Ext σ σ' (ownOf Φ.env) -> σ'.g.cs = σ.g.cs -> Std (C.more base') Φ (look ns (sl.set i (some (.adr f)))) σ' -> DefAt C Φ σ σ' scope body name params f fd base' -> XRuns (C.more base') Φ ns σ' (execs rest Φ.env) K2) :
  XRuns C Φ ns σ (execs (.FunctionDef name params body [] none [] scope none name pos :: rest) Φ.env) K2:=fun Q E k=>by
 refine wpAny_execs_cons (def_ok W S hd0 hk0 ha hcode Tb hct hfree hgP hkn htg h1 h2 h3 fun f fd base' σ5 X5 e5 S5 D=>?_)
 exact (h f fd base' σ5 X5 e5 ⟨S5.F,S5.H,D.B,S5.O⟩ D).less D.more Q E fun fl sl2 f σ2 X2 r2 S2 q2=>k fl sl2 f σ2 (X5.trans X2) r2 S2 q2
end
theorem LawOk.more {C:Cx} {K:Frag} {l:Law} (O:LawOk C K l) {b:Addr -> Option Obj} (m:∀ a o,C.base a = some o -> b a = some o) (d:Nat):LawOk { C with base:=b,d:=d } K l :=
 ⟨O.W.more m d,O.globs,O.cf,fun a bad h=>by
  obtain ⟨code,⟨c,o1,o2,o3,o4,o5,its,n,e1,e2,e3⟩,s⟩:=O.pats a bad h
  exact ⟨code,⟨c,o1,o2,o3,o4,o5,its,n,m _ _ e1,m _ _ e2,e3⟩,s⟩⟩
theorem zol (a k:Nat) (h:a < 2 ^ k):Builtin.Int.intBits (a:Int) <= k:=by
 unfold Builtin.Int.intBits
 split
 ·exact Nat.zero_le _
 ·rename_i h0
  rw [Int.natAbs_natCast]
  have h1:a ≠ 0:=fun q=>h0 (by rw [q]; rfl)
  have:=(Nat.log2_lt h1).mpr h
  exact Nat.succ_le_of_lt ‹_›
theorem zsh (k:Nat):(List.replicate k [V.int 0]).flatten = List.replicate k (V.int 0):=by
 induction k with
 | zero=>rfl
 | succ k ih=>rw [List.replicate_succ,List.replicate_succ,List.flatten_cons,ih]; rfl
noncomputable def cntOf (a n:Nat):Nat:=(Builtin.Int.intBits (a:Int) + n - 1) / n
structure CntOk (a n c:Nat):Prop where
 n1:1 <= n
 c1:c <= 240
 cn:n * c <= 480
 e1:((Builtin.Int.intBits (a:Int):Int) + (n:Int) - 1) = ((Builtin.Int.intBits (a:Int) + n - 1:Nat):Int)
 pos:a ≠ 0 -> 1 <= c
 zero:a = 0 -> c = 0
theorem zyt {a n:Nat} (ha:a < 2 ^ 240) (h1:1 <= n) (h2:n <= 240):CntOk a n (cntOf a n):=by
 have hb:=zol a 240 ha
 unfold cntOf
 refine ⟨h1,?_,?_,by lia,fun h0=>?_,fun h0=>?_⟩
 ·refine Nat.le_trans (Nat.div_le_div_right (c:=n) (b:=240 + n - 1) (by lia)) ?_
  have:(240 + n - 1) / n < 241:=(Nat.div_lt_iff_lt_mul (Nat.succ_le_of_lt ‹_›)).mpr (by lia)
  exact Nat.le_of_lt_succ ‹_›
 ·have:=Nat.mul_div_le (Builtin.Int.intBits (a:Int) + n - 1) n
  lia
 ·have hb1:1 <= Builtin.Int.intBits (a:Int):=by
   unfold Builtin.Int.intBits
   rw [if_neg (by simp; lia)]
   exact Nat.succ_pos _
  exact (Nat.le_div_iff_mul_le (Nat.succ_le_of_lt ‹_›)).mpr (by lia)
 ·subst h0
  exact Nat.div_eq_of_lt (by have:Builtin.Int.intBits ((0:Nat):Int) = 0:=rfl; lia)
theorem BinR.mulL' {c:Bool} {cs:List Cell} {K:KV} {xs zs:List V} {j:Int} (e:(List.replicate j.toNat xs).flatten = zs) (h:xs.length * j.toNat <= lim) (hj:small62 j) (k:listK c zs cs K):BinR c cs K .Mult (.lst xs) (.int j):=by subst e; exact .mulL h hj k
theorem zru {a n:Nat} {cs:List Cell} {K:KF} (M:CntOk a n (cntOf a n)) (hb:(n:Int).natAbs < bigN) (q:K .next [some (.int a),some (.int n),some (.ref cs.length),none] (cs ++ [.list (List.replicate (cntOf a n) (.int 0))])) :
  bden (IS.sems P0 [zbi]) [some (.int a),some (.int n),none,none] cs K :=
 ⟨(by decide:1 <= lim),⟨.bits _,.bits (.addI (.subI' M.e1 (.fdivI' (z:=(cntOf a n:Nat)) ⟨fun e=>by have:=M.n1; lia,hb⟩ (by rw [Int.fdiv_eq_ediv_of_nonneg _ (Int.natCast_nonneg n)]; rfl) (.mulL' (zs:=List.replicate (cntOf a n) (.int 0)) (by rw [Int.toNat_natCast]; exact zsh _) (by rw [Int.toNat_natCast]; have:=M.c1; show 1 * _ <= 8388608; lia) ⟨by lia,by have:=M.c1; lia⟩ ⟨by rw [List.length_replicate]; have:=M.c1; show _ <= 8388608; exact Nat.le_trans ‹_› (by decide),q⟩))))⟩⟩
theorem TI_i2d:(IS.sems P0 [zci]).map SD.ast = [.If ((IE.nm (S "a") 0 (pp 43 7 8)).sem P0).ast [.Expr (.Call (.Name (S "inner") (pp 44 8 13)) ((IE.sems P0 za6).map ED.ast) [] (pp 44 8 34)) (pp 44 8 34)] [] ⟨43,4,44,34⟩]:=by kernel_rfl
theorem WI_i2d:((IE.nm (S "a") 0 (pp 43 7 8)).sem P0).wf zaf (ownNs zaf ++ []) = true:=by kernel_rfl
theorem WO4' {sc:Scope} (h:sc = zaf) (p:Pos):(ED.loc (S "inner") 3 p).wf sc (ownNs zaf ++ []) = true:=by rw [h]; exact z3y p
noncomputable abbrev zdn (a n la:Nat) (f:Addr):Slots:=[some (.int a),some (.int n),some (.ref la),some (.adr f)]
theorem zdj (cs:List Cell) (c:Cell):(cs ++ [c])[cs.length]? = some c:=by rw [List.getElem?_append_right (Nat.le_refl _),Nat.sub_self]; rfl
theorem zwr {a n:Nat} {f:Addr} {cs c1:List Cell} {k:Nat} (e:c1 = cs ++ [.list (List.replicate k (.int 0))]):vals (IE.sems P0 za6) (zdn a n cs.length f) c1 fun vs c=>vs = [.int a,.int (0:Nat),.int k] /\ c = c1:=by
 subst e
 refine .lenL (.ref (zdj _ _)) ⟨?_,rfl⟩
 rw [List.length_replicate]; rfl
section
variable {C:Cx} {Φ:Fm} {σ:St} {K:Frag} {f:Addr} {fd:FuncData} {a n:Nat} {cs:List Cell} {KK:KV}
theorem I2A.first {σ':St} {a':List Value} (M:CntOk a n (cntOf a n)) (h0:a ≠ 0) (ha:a < 2 ^ 240) (c:σ'.g.cs = cs ++ [.list (List.replicate (cntOf a n) (.int 0))]) (ra:VRels σ'.g [.int a,.int (0:Nat),.int (cntOf a n)] a'):I2A σ' cs.length n a 0 (cntOf a n) (List.replicate (cntOf a n) (.int 0)) a' :=
 ⟨by rw [c]; exact zdj _ _,by rw [List.length_replicate]; exact Nat.le_refl _,M.pos h0,ha,by have:=M.cn; rw [Nat.sub_zero]; exact Nat.le_trans ‹_› (by decide),by have:=M.c1; exact Nat.lt_of_le_of_lt ‹_› (by decide),ra⟩
theorem z10 (M:CntOk a n (cntOf a n)):(cs ++ [Cell.list (List.replicate (cntOf a n) (.int 0))]).set cs.length (.list (splice (List.replicate (cntOf a n) (.int 0)) 0 (natV (digs n (cntOf a n - 0) a)))) = cs ++ [.list (natV (digs n (cntOf a n) a))]:=by
 rw [Nat.sub_zero,zkm (by rw [List.length_replicate,natV,List.length_map,zba]),List.set_append_right _ _ (Nat.le_refl _),Nat.sub_self]
 rfl
theorem zwo (I:InF C K f zal (bodyOf F_i2d) fd) (hb:∀ x l r:Value,bindArgs fd ⟨[x,l,r],[]⟩ = pure [(S "x",x),(S "L",l),(S "R",r)]) (hsc:Φ.env.scope = zaf) (Q:CloOk σ zal fd.closure zbf [some (.ref cs.length),some (.adr f),some (.int n)])
  (Sd:Std (C.at 9) Φ (look (ownNs zaf ++ []) (zdn a n cs.length f)) σ) (M:CntOk a n (cntOf a n)) (ha:a < 2 ^ 240) (e:σ.g.cs = cs ++ [.list (List.replicate (cntOf a n) (.int 0))]) (q:KK (.ref cs.length) (cs ++ [.list (natV (digs n (cntOf a n) a))])) :
  XRuns (C.at 9) Φ (ownNs zaf ++ []) σ (execs ((IS.sems P0 [zci]).map SD.ast ++ (IS.sems P0 [zch]).map SD.ast) Φ.env) fun fl _ cs=>KK (retOf fl) cs:=by
 rw [TI_i2d]
 refine zfg (K1:=fun fl sl c=>fl = .next /\ sl = zdn a n cs.length f /\ c = cs ++ [.list (natV (digs n (cntOf a n) a))]) (z1w (T:=fun b c=>b = decide ((a:Int) ≠ 0) /\ c = σ.g.cs) ((IE.nm (S "a") 0 (pp 43 7 8)).good (I.F2 9).F Φ _ (hsc ▸ WI_i2d)) Sd ⟨rfl,rfl⟩ fun c σ1 X1 S1 ht=>?_) (fun fl sl c hk ne=>(ne hk.1).elim) fun sl' σ' X' S' hk=>?_
 ·obtain ⟨hc,e1⟩:=ht
  by_cases h0:a = 0
  ·have:c = false:=hc.trans (by subst h0; rfl)
   subst this
   refine zsp S1 ⟨rfl,rfl,?_⟩
   rw [e1,e,M.zero h0]; rfl
  ·have:c = true:=hc.trans (decide_eq_true fun z=>h0 (Int.ofNat.inj z))
   subst this
   refine zf4 (K1:=fun _ c=>c = cs ++ [.list (natV (digs n (cntOf a n) a))]) S1 rfl (zde (WO4' hsc _) (zhf (I.F2 9).F za6 (hsc ▸ z30)) S1 rfl (zwr (e1.trans e)) fun vs a' σ2 X2 ra ht=>?_) fun v σ3 X3 S3 k3=>zsp S3 ⟨rfl,rfl,k3⟩
   obtain ⟨rfl,c2⟩:=ht
   have S2:=S1.ext X2
   refine zdg (I.keep S2.H ⟨S2.B.pr,S2.B.hf,S2.B.fl⟩) (i2d_in I hb 8 S2.O S2.H ⟨S2.B.pr,S2.B.hf,S2.B.fl⟩ (Q.ext Sd.H (X1.trans X2) fun _ _ _ z=>z) (I2A.first M h0 ha (c2.trans (e1.trans e)) ra) (by have:=M.c1; exact Nat.le_trans ‹_› (by decide)) ?_)
   rw [c2.trans (e1.trans e),z10 M]
 ·obtain ⟨_,rfl,e'⟩:=hk
  exact zby _ ((IS.all_good (I.F2 9) _).ok ((I.L _).fm _ _) (hsc ▸ z32)) _ _ _ S' (e' ▸ q)
end
theorem zen {C:Cx} {K:Frag} {a:Addr} {F:Stmt} {fd:FuncData} (W:Within C K) (Fk:FnK K a F) (h:fdO K a = some fd) (co:(scopeOf F).isCoroutine = false) (gen:(scopeOf F).isGenerator = false) (kind:(scopeOf F).kind = .function):FnAt0 C a (scopeOf F) (bodyOf F) fd:=by
 obtain ⟨o,e1,e2⟩:=zm3 h
 obtain ⟨c,oc,vs,t,q1,q2,q3,q4⟩:=zjw Fk h
 exact ⟨⟨o,W.sub _ _ e1,e2⟩,zai h Fk.s,zai h Fk.b,zai h Fk.g,zai h Fk.u,co,gen,kind,c,oc,vs,t,q1,W.sub _ _ q2,q3,q4⟩
theorem CRuns.at_ {C:Cx} {A:Around} {σ:St} {f:Value} {a:List Value} {k:List (Str × Value)} {KK:KV} {d e:Nat} (h:CRuns (C.at d) A σ f a k KK):CRuns (C.at e) A σ f a k KK:=fun R q=>h R q
theorem zre {ns:List Str} {sl:Slots} {x:Str} {v:V} (hl:sl.length <= ns.length) (h:look ns sl x = some v):x ∈ ns:=by
 refine Classical.byContradiction fun q=>?_
 unfold look at h
 rw [List.idxOf_eq_length q,List.getElem?_eq_none hl] at h
 cases h
theorem TA_i2d (env:Env):annTrees (parOf F_i2d) none env = []:=by kernel_rfl
theorem TB_i2d (q:Str) (clo:List (Str × Addr)) (doc pm c ctv x l r:Value):bindArgs (fnX (S "inner") q (parOf F_i2d) (bodyOf F_i2d) zal clo .none .none doc pm none c ctv) ⟨[x,l,r],[]⟩ = pure [(S "x",x),(S "L",l),(S "R",r)]:=by kernel_rfl
theorem zwp {a n la:Nat} {f:Addr} (x:Str) (v:V) (h:look zbf [some (.ref la),some (.adr f),some (.int n)] x = some v):look (ownNs zaf ++ []) (zdn a n la f) x = some v:=by
 have hx:=zre (ns:=zbf) (sl:=[some (.ref la),some (.adr f),some (.int n)]) (Nat.le_refl 3) h
 have e1:look zbf [some (.ref la),some (.adr f),some (.int n)] (S "a_digits") = look (ownNs zaf ++ []) (zdn a n la f) (S "a_digits"):=by kernel_rfl
 have e2:look zbf [some (.ref la),some (.adr f),some (.int n)] (S "inner") = look (ownNs zaf ++ []) (zdn a n la f) (S "inner"):=by kernel_rfl
 have e3:look zbf [some (.ref la),some (.adr f),some (.int n)] (S "n") = look (ownNs zaf ++ []) (zdn a n la f) (S "n"):=by kernel_rfl
 rcases List.mem_cons.mp hx with rfl | hx
 ·exact e1 ▸ h
 rcases List.mem_cons.mp hx with rfl | hx
 ·exact e2 ▸ h
 cases List.mem_singleton.mp hx
 exact e3 ▸ h
theorem zif {x:Str} (hx:(x,NameKind.free) ∈ zal.names):zaf.names.lookup x = some .cell /\ (x,NameKind.cell) ∉ zal.names:=by
 have:=List.all_eq_true.mp z3q _ hx
 simp only [show isFree NameKind.free = true from rfl,Bool.not_true,Bool.false_or,Bool.and_eq_true,beq_iff_eq,Bool.not_eq_true',List.contains_eq_mem,decide_eq_false_iff_not] at this
 exact this
theorem z3o:nfree zaf = true:=by kernel_rfl
theorem no_i2d (x:Str):(x,NameKind.free) ∉ zaf.names:=fun hx=>by
 have:=List.all_eq_true.mp z3o _ hx
 cases this
noncomputable def qI2D:Str:=(S "_int2digits" ++ (".<locals>." : Str)) ++ S "inner"
structure DgOk (lt:Nat) (a n:Nat) (cs:List Cell):Prop where
 t:cs[lt]? = some (.tab 47 (posOf F_i2d) qI2D)
 ha:a < 2 ^ 240
 n1:1 <= n
 n2:n <= 240
noncomputable def digS (lt:Nat):Spec:=Sp (fun a:Nat × Nat=>[.int a.1,.int a.2]) [] noKw fun a cs K=>DgOk lt a.1 a.2 cs /\ K (.lst (natV (digs a.2 (cntOf a.1 a.2) a.1))) cs
theorem zvo (l:List Nat):natV l = (l.map fun k=>((k:Nat):Int)).map .int:=by rw [natV,List.map_map]; rfl
theorem zh6 {C:Cx} {K:Frag} (O:LawOk C K law1) (hfm:∀ A env,C.fm A env) (Fk:FnK K 52 F_int2digits) (Bd:Bd2 K 52 (S "a") (S "n")) (hq:(fdO K 52).map (·.qualname) = some (S "_int2digits")) (hc:(fdO K 52).map (·.code) = some (.ref 51)) (Tb:TabFact C 51 47) (lt:Nat):FnOk (C.at 10) 52 (digS lt):=by
 intro A σ args kws args' kws' K' Oa H B ra rk q
 obtain ⟨⟨a,n⟩,rfl,rfl,(T:DgOk lt a n σ.g.cs),(q:K' (.lst (natV (digs n (cntOf a n) a))) σ.g.cs)⟩:=q
 obtain ⟨fd,hf⟩:=Option.isSome_iff_exists.mp Fk.i
 have Fa:∀ d,FnAt0 (C.at d) 52 zaf (bodyOf F_int2digits) fd:=fun d=>zen ⟨O.W.inK.sub⟩ Fk hf rfl rfl rfl
 have M:=zyt T.ha T.n1 T.n2
 have Oo:∀ d,LawOk (C.at d) K law1:=fun d=>O.more (fun _ _ e=>e) d
 obtain ⟨o,ho,hd⟩:=(Fa 9).ho
 refine ⟨zc3 (C:=C.at 10) (H.fz _ _ (B.hf _ _ ho)) hd,?_⟩
 cases rk.nil_of
 obtain ⟨v,u,rfl,r1,r2⟩:=ra.two
 refine CRuns.dropL (ns:=(digs n (cntOf a n) a).map fun k=>((k:Nat):Int)) ?_ H
 rw [<- zvo]
 refine CRuns.at_ (d:=9) ?_
 refine zbl (C:=C.at 9) (ns:=[]) (sl:=[]) (ps:=[(S "a",0),(S "n",1)]) (vs:=[.int a,.int n]) O.W.lim (Fa 9) Oa H ⟨B.pr,B.hf,B.fl⟩ rfl (fun M A E Q h=>by rw [zai hf (Bd v u)]; exact wpAny_pure h) (.cons ⟨rfl,r1⟩ (.cons ⟨rfl,r2⟩ .nil)) (by rw [zai hf Fk.k]; exact .nil no_i2d) z3w fun Φ σ3 hsc I3 S3=>?_
 have e3:=I3.cs
 have hcode:=I3.code
 have hqual:=I3.qual
 have X3:=I3.X.drop_own I3.own0
 rw [z3s] at S3
 rw [<- TO_i2d,TD_i2d]
 refine zbb (K1:=fun fl sl c=>fl = .next /\ sl = [some (.int a),some (.int n),some (.ref σ.g.cs.length),none] /\ c = σ.g.cs ++ [.list (List.replicate (cntOf a n) (.int 0))]) (IS.sems P0 [zbi]) ((IS.all_good (zdf (Oo 9) zbt) _).ok (hfm _ _) (hsc ▸ z34)) _ σ3 S3
  (zru M (by rw [Int.natAbs_natCast,show bigN = 2 ^ 240 by decide +kernel]; exact Nat.lt_of_le_of_lt T.n2 (by decide +kernel)) ⟨rfl,by rw [e3],by rw [e3]⟩) (fun fl sl c hk ne=>(ne hk.1).elim) fun sl4 σ4 X4 S4 hk=>?_
 obtain ⟨_,rfl,c4⟩:=hk
 refine zna (Oo 9).W S4 zy9.1 zy9.2 (TA_i2d _) (hcode.trans (zai hf hc)) ⟨Tb.at_⟩ (lt:=lt) (i:=3) ?_ (fun x hx hxk=>?_) (by decide) (by show Φ.env.scope.names.lookup _ = _; rw [hsc]; kernel_rfl) (hsc ▸ z3u) rfl rfl rfl fun f fd' base' σ5 X5 e5 S5 D=>?_
 ·rw [c4,List.getElem?_append_left (List.getElem?_eq_some_iff.mp T.t).1,T.t,hqual,zai hf hq]; rfl
 ·obtain ⟨y,k⟩:=x
  cases (hxk:k = _)
  obtain ⟨c,_,e,_⟩:=S4.F.cell y (.inl (by show Φ.env.scope.names.lookup _ = _; rw [hsc]; exact (zif hx).1))
  exact ⟨c,e⟩
 obtain ⟨c',doc,pm,ctv,hfd⟩:=D.fd_
 have Lm:=D.lim
 have Fi:=D.Fa
 refine zwo (C:=(C.at 9).more base') (K:=K) (f:=f) (fd:=fd') (cs:=σ.g.cs) (KK:=fun v c=>v = .ref σ.g.cs.length /\ c = σ.g.cs ++ [Cell.list (natV (digs n (cntOf a n) a))] /\ K' (.lst (natV (digs n (cntOf a n) a))) σ.g.cs) ⟨fun d=>zdf (O.more D.more d) zbt,fun d=>⟨hfm,D.lim⟩,fun d=>⟨Fi.ho,Fi.scope,Fi.body,Fi.glo,Fi.blt,Fi.co,Fi.gen,Fi.kind,Fi.code⟩⟩ (fun x l r=>by rw [hfd]; exact TB_i2d ..) hsc ?_ S5 M T.ha (e5.trans c4) ⟨rfl,rfl,q⟩
 rw [D.clo]
 exact zyv S5 (fun x hx=>.inl (by show Φ.env.scope.names.lookup _ = _; rw [hsc]; exact (zif hx).1)) zwp fun x hx=>(zif hx).2
section
variable {C:Cx} {Φ:Fm} {σ:St} {ns:List Str}
theorem znd {l r:Expr} {op:Operator} {p:Pos} {K1 K2 K:KV} (h1:Runs C Φ.A σ noOwn (eval l Φ.env) VR K1) (h2:∀ v σ',Ext σ σ' noOwn -> K1 v σ'.g.cs -> Runs C Φ.A σ' noOwn (eval r Φ.env) VR K2) (h:∀ v u cs,(∃ cs',K1 v cs') -> K2 u cs -> BinR false cs K op v u):Runs C Φ.A σ noOwn (eval (.BinOp l op r p) Φ.env) VR K:=fun Q E k =>
 wpAny_BinOp (h1 _ _ fun a a' σ1 X1 r1 q1=>h2 a σ1 X1 q1 _ _ fun b b' σ2 X2 r2 q2=>zyw (h a b σ2.g.cs ⟨_,q1⟩ q2) X2.H (r1.mono X2.le) r2 Q E fun v x σ3 X3 r q=>k v x σ3 ((X1.trans X2).trans X3) r q)
theorem zmh {e:Expr} {p:Pos} {rest:List Stmt} {sl:Slots} {K1:KV} {K2:KF} (S:Std C Φ (look ns sl) σ) (he:Runs C Φ.A σ noOwn (eval e Φ.env) VR K1) (h:∀ v cs,K1 v cs -> K2 (.ret v) sl cs):XRuns C Φ ns σ (execs (.Return (some e) p :: rest) Φ.env) K2:=fun Q E k =>
 wpAny_execs_cons (wpAny_Return_some (he _ _ fun v a σ1 X1 r q1=>k (.ret v) sl _ σ1 (toOwn X1) (.ret r) (S.ext X1) (h v _ q1)))
end
noncomputable def za8:List Str:=[S "digits",S "inner",S "n"]
noncomputable abbrev zak:Scope:=scopeOf F_d2i
noncomputable def ze1:List IS:=[s2_d2i,s3_d2i,s4_d2i]
theorem zzc:(IS.sems P0 ze1).map SD.ast ++ [(zyd.sem P0).ast] = bodyOf F_d2i:=by kernel_rfl
theorem T2_d2i:[(zyd.sem P0).ast] = [.Return (some (.BinOp (.BinOp (.Call (.Name (S "inner") (pp 53 16 21)) ((IE.sems P0 znl).map ED.ast) [] (pp 53 16 29)) .LShift ((IE.nm (S "shift") 3 (pp 53 33 38)).sem P0).ast (pp 53 16 38)) .Add (.Call (.Name (S "inner") (pp 53 42 47)) ((IE.sems P0 znk).map ED.ast) [] (pp 53 42 55)) (pp 53 15 55))) (pp 53 8 55)]:=by kernel_rfl
theorem zy7:bwf (IS.sems P0 ze1) zak (ownNs zak ++ za8) = true:=by kernel_rfl
theorem W2_d2i:wfs (IE.sems P0 znl) zak (ownNs zak ++ za8) = true:=by kernel_rfl
theorem W3_d2i:wfs (IE.sems P0 znk) zak (ownNs zak ++ za8) = true:=by kernel_rfl
theorem W4_d2i (p:Pos):(ED.loc (S "inner") 5 p).wf zak (ownNs zak ++ za8) = true:=by kernel_rfl
theorem zy5:[(S "L",0),(S "R",1)].all (fun p=>tgt1 zak (ownNs zak ++ za8) p.1 p.2) = true:=by kernel_rfl
theorem W6_d2i:(zak.names.all fun p=>!(p.2 == .cell)) = true:=by kernel_rfl
theorem zy3:List.replicate (ownNs zak).length (none:Option V) = [none,none,none,none]:=by kernel_rfl
theorem W8_d2i:((IE.nm (S "shift") 3 (pp 53 33 38)).sem P0).wf zak (ownNs zak ++ za8) = true:=by kernel_rfl
noncomputable abbrev zi9 (l r m s:Option V) (dv:V) (n:Nat) (f:Addr):Slots:=[l,r,m,s,some dv,some (.adr f),some (.int n)]
section
variable {cs:List Cell} {ds:List Nat} {dv:V} {n lo hi:Nat} {f:Addr} {K:KF}
theorem zwm {ds:List Nat} {lo d:Nat} (h:ds[lo]? = some d):idxV (natV ds) (lo:Int) = some (.int d):=by
 rw [zbs,natV,List.getElem?_map,h]; rfl
theorem zxd {d:Nat} (D:SeqR cs dv false (natV ds)) (hd:ds[lo]? = some d) (hh:lo + 1 = hi) {m s:Option V} (q:∀ sl,K (.ret (.int d)) sl cs) :
  bden (IS.sems P0 ze1) (zi9 (some (.int lo)) (some (.int hi)) m s dv n f) cs K :=
 .addI (.eq (.intT (congrArg Int.ofNat hh)) ⟨_,.seq D (zwm hd),q _⟩)
theorem z2j {mid sh:Nat} (h1:lo + 1 ≠ hi) (hm:(lo + hi) / 2 = mid) (hlo:lo <= mid) (hsh:(mid - lo) * n = sh) (hmm:mid - lo < 2 ^ 63) {m s:Option V}
  (q:K .next (zi9 (some (.int lo)) (some (.int hi)) (some (.int mid)) (some (.int sh)) dv n f) cs) :
  bden (IS.sems P0 ze1) (zi9 (some (.int lo)) (some (.int hi)) m s dv n f) cs K:=by
 subst hm
 refine .addI (.eq (.intF fun e=>h1 (Int.ofNat.inj e)) (.addI (.shrI (by decide) ?_)))
 rw [show Int.fdiv ((lo:Int) + (hi:Int)) (2 ^ (1:Int).toNat) = (((lo + hi) / 2:Nat):Int) from zq6 lo hi]
 exact .subI' (z:=(((lo + hi) / 2 - lo:Nat):Int)) (Int.ofNat_sub hlo).symm (.mulI' (z:=(sh:Int)) (mul_l (by rw [Int.natAbs_natCast]; exact hmm)) (by rw [<- Int.natCast_mul,hsh]) q)
end
theorem W4d' {sc:Scope} (h:sc = zak) (p:Pos):(ED.loc (S "inner") 5 p).wf sc (ownNs zak ++ za8) = true:=by rw [h]; exact W4_d2i p
structure D2A (σ:St) (dv:V) (n:Nat) (ds:List Nat) (lo hi:Nat) (args':List Value):Prop where
 D:SeqR σ.g.cs dv false (natV ds)
 hh:hi <= ds.length
 hl:lo < hi
 hn:n * (hi - lo) <= 4000
 h63:hi - lo < 2 ^ 63
 ra:VRels σ.g [.int lo,.int hi] args'
section
variable {C:Cx} {K:Frag} {f:Addr} {fd:FuncData} {dv:V} {n:Nat} {ds:List Nat} {lo hi mid e:Nat}
theorem D2A.high {σ σ':St} {args' a:List Value} (T:D2A σ dv n ds lo hi args') (M:MidOk lo hi e mid) (c:σ'.g.cs = σ.g.cs) (ra:VRels σ'.g [.int mid,.int hi] a):D2A σ' dv n ds mid hi a :=
 ⟨c ▸ T.D,T.hh,M.r,zg0 M.sb T.hn,Nat.lt_of_le_of_lt M.sb T.h63,ra⟩
theorem D2A.low {σ σ':St} {args' a:List Value} (T:D2A σ dv n ds lo hi args') (M:MidOk lo hi e mid) (c:σ'.g.cs = σ.g.cs) (ra:VRels σ'.g [.int lo,.int mid] a):D2A σ' dv n ds lo mid a :=
 ⟨c ▸ T.D,Nat.le_trans (Nat.le_of_lt M.r) T.hh,M.l,zg0 M.sa T.hn,Nat.lt_of_le_of_lt M.sa T.h63,ra⟩
theorem zzk (M:MidOk lo hi e mid) (hh:hi <= ds.length):((val n (seg ds mid hi):Nat):Int) * 2 ^ (((n * (mid - lo):Nat):Int)).toNat + ((val n (seg ds lo mid):Nat):Int) = ((val n (seg ds lo hi):Nat):Int):=by
 rw [zqg ds (Nat.le_of_lt M.l) (Nat.le_of_lt M.r),zdc,znx ds (Nat.le_trans (Nat.le_of_lt M.r) hh),Nat.mul_comm (2 ^ _),Nat.add_comm (val n (seg ds lo mid)),Int.toNat_natCast]
 push_cast
 rfl
theorem zs6 {σ σ3:St} {d:Nat} {Φ:Fm} {args':List Value} {KK:KV} (I:InF C K f zak (bodyOf F_d2i) fd) (T:D2A σ dv n ds lo hi args') (hh:lo + 1 = hi) (hsc:Φ.env.scope = zak) {m s:Option V}
  (S3:Std (C.at d) Φ (look (ownNs zak ++ za8) (zi9 (some (.int lo)) (some (.int hi)) m s dv n f)) σ3) (e3:σ3.g.cs = σ.g.cs) (q:KK (.int (val n (seg ds lo hi):Nat)) σ.g.cs) :
  XRuns (C.at d) Φ (ownNs zak ++ za8) σ3 (execs (bodyOf F_d2i) Φ.env) fun fl _ cs=>KK (retOf fl) cs:=by
 rw [<- zzc]
 obtain ⟨x,hx⟩:∃ x,ds[lo]? = some x:=⟨_,List.getElem?_eq_getElem (Nat.lt_of_lt_of_le T.hl T.hh)⟩
 refine zbb (K1:=fun fl _ cs=>fl = .ret (.int x) /\ cs = σ.g.cs) (IS.sems P0 ze1) ((IS.all_good (I.F2 d) ze1).ok ((I.L _).fm _ _) (hsc ▸ zy7)) _ σ3 S3 (zxd (hi:=hi) (e3 ▸ T.D) hx hh fun _=>⟨rfl,e3⟩) (fun fl sl cs hk _=>?_) fun sl' σ' X' S' hk=>nomatch hk.1
 rw [hk.1,hk.2]
 subst hh
 rw [zz4 ds hx] at q
 have e:val n [x] = x:=by show x + 2 ^ n * 0 = x; lia
 rw [e] at q
 exact q
theorem d2i_in (I:InF C K f zak (bodyOf F_d2i) fd) (hb:∀ l r:Value,bindArgs fd ⟨[l,r],[]⟩ = pure [(S "L",l),(S "R",r)]) (hv:val n ds < 2 ^ 240) (e:Nat) :
  ∀ {A:Around} {σ:St} {lo hi:Nat} {args':List Value} {KK:KV},AOk A (e + 1) -> HRel σ.g σ.s.heap -> Base C σ.g -> CloOk σ zak fd.closure za8 [some dv,some (.adr f),some (.int n)] -> D2A σ dv n ds lo hi args' -> hi - lo <= 2 ^ e ->
   KK (.int (val n (seg ds lo hi):Nat)) σ.g.cs -> CRuns C A σ (.ref f) args' [] KK:=by
 induction e with
 | zero =>
  intro A σ lo hi args' KK O H B Q T hm q
  obtain ⟨l',r',rfl,rl,rr⟩:=T.ra.two
  have hh:lo + 1 = hi:=by have:=T.hl; lia
  refine zbl (C:=C.at 0) (ns:=za8) (ps:=[(S "L",0),(S "R",1)]) (vs:=[.int lo,.int hi]) (I.L 0).l (I.Fa 0) O H ⟨B.pr,B.hf,B.fl⟩ rfl (fun M A E Q h=>by rw [hb]; exact wpAny_pure h) (.cons ⟨rfl,rl⟩ (.cons ⟨rfl,rr⟩ .nil)) Q zy5 fun Φ σ3 hsc I3 S3=>?_
  have e3:=I3.cs
  have hcode:=I3.code
  have hqual:=I3.qual
  have X3:=I3.X.drop_own I3.own0
  rw [zy3] at S3
  exact zs6 (d:=0) I T hh hsc S3 e3 q
 | succ e ih =>
  intro A σ lo hi args' KK O H B Q T hm q
  obtain ⟨l',r',rfl,rl,rr⟩:=T.ra.two
  refine zbl (C:=C.at (e + 1)) (ns:=za8) (ps:=[(S "L",0),(S "R",1)]) (vs:=[.int lo,.int hi]) (I.L _).l (I.Fa _) O H ⟨B.pr,B.hf,B.fl⟩ rfl (fun M A E Q h=>by rw [hb]; exact wpAny_pure h) (.cons ⟨rfl,rl⟩ (.cons ⟨rfl,rr⟩ .nil)) Q zy5 fun Φ σ3 hsc I3 S3=>?_
  have e3:=I3.cs
  have hcode:=I3.code
  have hqual:=I3.qual
  have X3:=I3.X.drop_own I3.own0
  rw [zy3] at S3
  by_cases h1:lo + 1 = hi
  ·exact zs6 I T h1 hsc S3 e3 q
  have M:=zyk T.hl h1 hm
  rw [<- zzc,T2_d2i]
  refine zbb (K1:=fun fl sl cs=>fl = .next /\ sl = zi9 (some (.int lo)) (some (.int hi)) (some (.int ((lo + hi) / 2:Nat))) (some (.int (n * ((lo + hi) / 2 - lo):Nat))) dv n f /\ cs = σ.g.cs) (IS.sems P0 ze1) ((IS.all_good (I.F2 _) ze1).ok ((I.L _).fm _ _) (hsc ▸ zy7)) _ σ3 S3
   (z2j h1 rfl (Nat.le_of_lt M.l) (Nat.mul_comm _ _) (Nat.lt_of_le_of_lt M.sa T.h63) ⟨rfl,rfl,e3⟩) (fun fl sl cs hk ne=>(ne hk.1).elim) fun sl4 σ4 X4 S4 hk=>?_
  obtain ⟨_,rfl,c4⟩:=hk
  have no:=zha S3 (Q.ext H X3 fun _ _ _ z=>z) (hsc ▸ W6_d2i)
  have X34:=(toOwn (Φ:=Φ) X3).trans X4
  generalize (lo + hi) / 2 = mid at *
  refine zmh (K1:=fun v c=>v = .int (val n (seg ds lo hi):Nat) /\ c = σ.g.cs) S4 (znd (K1:=fun v c=>v = .int (((val n (seg ds mid hi):Nat):Int) * 2 ^ (((n * (mid - lo):Nat):Int)).toNat) /\ c = σ.g.cs) (K2:=fun v c=>v = .int (val n (seg ds lo mid):Nat) /\ c = σ.g.cs)
   (znd (K1:=fun v c=>v = .int (val n (seg ds mid hi):Nat) /\ c = σ.g.cs) (K2:=fun v c=>v = .int (n * (mid - lo):Nat) /\ c = σ.g.cs) (zde (W4d' hsc _) (zhf (I.F2 (e + 1)).F znl (hsc ▸ W2_d2i)) S4 (T:=fun vs c=>vs = [.int mid,.int hi] /\ c = σ.g.cs) rfl ⟨rfl,c4⟩ fun vs a σ5 X5 ra ht=>?_)
    (fun v σ5 X5 h5=>((IE.nm (S "shift") 3 (pp 53 33 38)).good (I.F2 (e + 1)).F Φ _ (hsc ▸ W8_d2i)).val _ _ _ (S4.ext X5) ⟨rfl,h5.2⟩) fun v u c hv' hu=>?_)
   (fun v σ6 X6 h6=>zde (W4d' hsc _) (zhf (I.F2 (e + 1)).F znk (hsc ▸ W3_d2i)) (S4.ext X6) (T:=fun vs c=>vs = [.int lo,.int mid] /\ c = σ.g.cs) rfl ⟨rfl,h6.2⟩ fun vs a σ7 X7 ra ht=>?_) fun v u c hv' hu=>?_) fun v c h=>by rw [h.1,h.2]; exact q
  ·obtain ⟨rfl,c5⟩:=ht
   have S5:=S4.ext X5
   exact zdg (I.keep S5.H ⟨S5.B.pr,S5.B.hf,S5.B.fl⟩) (ih S5.O S5.H ⟨S5.B.pr,S5.B.hf,S5.B.fl⟩ (Q.ext H (X34.trans (toOwn X5)) no) (T.high M c5 ra) M.eb ⟨rfl,c5⟩)
  ·obtain ⟨_,rfl,_⟩:=hv'
   obtain ⟨rfl,rfl⟩:=hu
   refine .shlI ⟨Int.natCast_nonneg _,Int.ofNat_le.mpr (zg0 M.sa T.hn),?_⟩ ⟨rfl,rfl⟩
   rw [Int.natAbs_natCast,show bigN = 2 ^ 240 by decide +kernel]
   exact Nat.lt_of_le_of_lt (zzm n ds mid hi) hv
  ·obtain ⟨rfl,c7⟩:=ht
   have S7:=(S4.ext X6).ext X7
   exact zdg (I.keep S7.H ⟨S7.B.pr,S7.B.hf,S7.B.fl⟩) (ih S7.O S7.H ⟨S7.B.pr,S7.B.hf,S7.B.fl⟩ (Q.ext H ((X34.trans (toOwn X6)).trans (toOwn X7)) no) (T.low M c7 ra) M.ea ⟨rfl,c7⟩)
  ·obtain ⟨_,rfl,_⟩:=hv'
   obtain ⟨rfl,rfl⟩:=hu
   exact .addI' (zzk M T.hh) ⟨rfl,rfl⟩
end
theorem zwk {C:Cx} {Φ:Fm} {σ:St} {ns:List Str} {t:ED} {a b:Expr} {p:Pos} {sl:Slots} {T:Bool -> List Cell -> Prop} {K:KV} (O:EOk C Φ ns t) (S:Std C Φ (look ns sl) σ) (q:t.tst sl σ.g.cs T) (h:∀ c σ',Ext σ σ' noOwn -> Std C Φ (look ns sl) σ' -> T c σ'.g.cs -> Runs C Φ.A σ' noOwn (eval (cond c a b) Φ.env) VR K) :
  Runs C Φ.A σ noOwn (eval (.IfExp t.ast a b p) Φ.env) VR K:=fun Q E k=>wpAny_IfExp (O.tst sl σ _ S q _ _ fun c c' σ1 X1 rc q1=>by
 cases (rc:c' = c)
 have:=h c σ1 X1 (S.ext X1) q1 Q E fun v a σ2 X2 r q=>k v a σ2 (X1.trans X2) r q
 cases c <;> exact this)
theorem zqe {cs:List Cell} {v:V} {xs:List V} {K:KB} (D:SeqR cs v false xs) (k:K (!xs.isEmpty) cs):truthK cs v K:=by
 cases D with
 | lst=>exact k
 | ref h=>exact ⟨_,h,k⟩
noncomputable abbrev zag:Scope:=scopeOf F_digits2int
theorem TO_d2i:[F_d2i,.Return (some (.IfExp ((IE.nm (S "digits") 0 (pp 54 36 42)).sem P0).ast (.Call (.Name (S "inner") (pp 54 11 16)) ((IE.sems P0 za7).map ED.ast) [] (pp 54 11 32)) ((IE.con (.int 0) 0 (pp 54 48 49)).sem P0).ast (pp 54 11 49))) (pp 54 4 49)] = bodyOf F_digits2int:=by kernel_rfl
theorem z35:((IE.nm (S "digits") 0 (pp 54 36 42)).sem P0).wf zag (ownNs zag ++ []) = true:=by kernel_rfl
theorem z33:((IE.con (.int 0) 0 (pp 54 48 49)).sem P0).wf zag (ownNs zag ++ []) = true:=by kernel_rfl
theorem z31:wfs (IE.sems P0 za7) zag (ownNs zag ++ []) = true:=by kernel_rfl
theorem z3z (p:Pos):(ED.loc (S "inner") 2 p).wf zag (ownNs zag ++ []) = true:=by kernel_rfl
theorem WO4d' {sc:Scope} (h:sc = zag) (p:Pos):(ED.loc (S "inner") 2 p).wf sc (ownNs zag ++ []) = true:=by rw [h]; exact z3z p
theorem z3x:[(S "digits",0),(S "n",1)].all (fun p=>tgt1 zag (ownNs zag ++ []) p.1 p.2) = true:=by kernel_rfl
theorem z3v:tgt1 zag (ownNs zag ++ []) (S "inner") 2 = true:=by kernel_rfl
theorem z3t:List.replicate (ownNs zag).length (none:Option V) = [none,none,none]:=by kernel_rfl
theorem z3r:(zak.names.all fun p=>!(isFree p.2) || ((zag.names.lookup p.1 == some .cell) && !(zak.names.contains (p.1,.cell)))) = true:=by kernel_rfl
theorem z3p:nfree zag = true:=by kernel_rfl
theorem no_d2i (x:Str):(x,NameKind.free) ∉ zag.names:=fun hx=>by
 have:=List.all_eq_true.mp z3p _ hx
 cases this
theorem TD_d2i:F_d2i = .FunctionDef (S "inner") (parOf F_d2i) (bodyOf F_d2i) [] none [] zak none (S "inner") (posOf F_d2i):=by kernel_rfl
theorem zza:(parOf F_d2i).defaults = [] /\ (parOf F_d2i).kw_defaults = []:=⟨by kernel_rfl,by kernel_rfl⟩
theorem TA_d2i (env:Env):annTrees (parOf F_d2i) none env = []:=by kernel_rfl
theorem TB_d2i (q:Str) (clo:List (Str × Addr)) (doc pm c ctv l r:Value):bindArgs (fnX (S "inner") q (parOf F_d2i) (bodyOf F_d2i) zak clo .none .none doc pm none c ctv) ⟨[l,r],[]⟩ = pure [(S "L",l),(S "R",r)]:=by kernel_rfl
theorem zil {x:Str} (hx:(x,NameKind.free) ∈ zak.names):zag.names.lookup x = some .cell /\ (x,NameKind.cell) ∉ zak.names:=by
 have:=List.all_eq_true.mp z3r _ hx
 simp only [show isFree NameKind.free = true from rfl,Bool.not_true,Bool.false_or,Bool.and_eq_true,beq_iff_eq,Bool.not_eq_true',List.contains_eq_mem,decide_eq_false_iff_not] at this
 exact this
noncomputable abbrev zed (dv:V) (n:Nat) (f:Addr):Slots:=[some dv,some (.int n),some (.adr f)]
theorem zxc {dv:V} {n:Nat} {f:Addr} (x:Str) (v:V) (h:look za8 [some dv,some (.adr f),some (.int n)] x = some v):look (ownNs zag ++ []) (zed dv n f) x = some v:=by
 have hx:=zre (ns:=za8) (sl:=[some dv,some (.adr f),some (.int n)]) (Nat.le_refl 3) h
 have e1:look za8 [some dv,some (.adr f),some (.int n)] (S "digits") = look (ownNs zag ++ []) (zed dv n f) (S "digits"):=by kernel_rfl
 have e2:look za8 [some dv,some (.adr f),some (.int n)] (S "inner") = look (ownNs zag ++ []) (zed dv n f) (S "inner"):=by kernel_rfl
 have e3:look za8 [some dv,some (.adr f),some (.int n)] (S "n") = look (ownNs zag ++ []) (zed dv n f) (S "n"):=by kernel_rfl
 rcases List.mem_cons.mp hx with rfl | hx
 ·exact e1 ▸ h
 rcases List.mem_cons.mp hx with rfl | hx
 ·exact e2 ▸ h
 cases List.mem_singleton.mp hx
 exact e3 ▸ h
noncomputable def qD2I:Str:=(S "_digits2int" ++ (".<locals>." : Str)) ++ S "inner"
structure DtA where
 dv:V
 ds:List Nat
 n:Nat
structure DtOk (lt:Nat) (a:DtA) (cs:List Cell):Prop where
 t:cs[lt]? = some (.tab 54 (posOf F_d2i) qD2I)
 D:SeqR cs a.dv false (natV a.ds)
 hl:a.ds.length <= 240
 hn:a.n * a.ds.length <= 4000
 hv:val a.n a.ds < 2 ^ 240
noncomputable def datS (lt:Nat):Spec:=Sp (fun a:DtA=>[a.dv,.int a.n]) [] noKw fun a cs K=>DtOk lt a cs /\ K (.int (val a.n a.ds:Nat)) cs
theorem zxe {dv:V} {ds:List Nat} {n:Nat} {f:Addr} {cs:List Cell} (D:SeqR cs dv false (natV ds)):vals (IE.sems P0 za7) (zed dv n f) cs fun vs c=>vs = [.int (0:Nat),.int ds.length] /\ c = cs:=by
 refine .lenL D ⟨?_,rfl⟩
 rw [natV,List.length_map]; rfl
section
variable {C:Cx} {Φ:Fm} {σ:St} {K:Frag} {f:Addr} {fd:FuncData} {dv:V} {ds:List Nat} {n lt:Nat} {KK:KV}
theorem zxb {p:Pos} (I:InF C K f zak (bodyOf F_d2i) fd) (hb:∀ l r:Value,bindArgs fd ⟨[l,r],[]⟩ = pure [(S "L",l),(S "R",r)]) (hsc:Φ.env.scope = zag) (Q:CloOk σ zak fd.closure za8 [some dv,some (.adr f),some (.int n)])
  (Sd:Std (C.at 9) Φ (look (ownNs zag ++ []) (zed dv n f)) σ) (T:DtOk lt ⟨dv,ds,n⟩ σ.g.cs) (q:KK (.int (val n ds:Nat)) σ.g.cs) :
  XRuns (C.at 9) Φ (ownNs zag ++ []) σ (execs [.Return (some (.IfExp ((IE.nm (S "digits") 0 (pp 54 36 42)).sem P0).ast (.Call (.Name (S "inner") (pp 54 11 16)) ((IE.sems P0 za7).map ED.ast) [] (pp 54 11 32)) ((IE.con (.int 0) 0 (pp 54 48 49)).sem P0).ast (pp 54 11 49))) p] Φ.env) fun fl _ cs=>KK (retOf fl) cs:=by
 refine zmh (K1:=fun v c=>v = .int (val n ds:Nat) /\ c = σ.g.cs) Sd (zwk (T:=fun b c=>b = (!(natV ds).isEmpty) /\ c = σ.g.cs) ((IE.nm (S "digits") 0 (pp 54 36 42)).good (I.F2 9).F Φ _ (hsc ▸ z35)) Sd (show truthK σ.g.cs dv (fun b c=>b = (!(natV ds).isEmpty) /\ c = σ.g.cs) from zqe T.D ⟨rfl,rfl⟩) fun c σ1 X1 S1 ht=>?_) fun v c h=>by rw [h.1,h.2]; exact q
 obtain ⟨hc,e1⟩:=ht
 cases ds with
 | nil =>
  cases hc
  exact ((IE.con (.int 0) 0 (pp 54 48 49)).good (I.F2 9).F Φ _ (hsc ▸ z33)).val _ _ _ S1 ⟨rfl,e1⟩
 | cons d r =>
  cases hc
  refine zde (WO4d' hsc _) (zhf (I.F2 9).F za7 (hsc ▸ z31)) S1 rfl (zxe (e1 ▸ T.D)) fun vs a' σ2 X2 ra ht=>?_
  obtain ⟨rfl,c2⟩:=ht
  have S2:=S1.ext X2
  have e2:=c2.trans e1
  have hl:=T.hl
  exact zdg (I.keep S2.H ⟨S2.B.pr,S2.B.hf,S2.B.fl⟩) (d2i_in I hb T.hv 8 S2.O S2.H ⟨S2.B.pr,S2.B.hf,S2.B.fl⟩ (Q.ext Sd.H (X1.trans X2) fun _ _ _ z=>z) ⟨e2 ▸ T.D,Nat.le_refl _,Nat.succ_pos _,by rw [Nat.sub_zero]; exact T.hn,Nat.lt_of_le_of_lt (Nat.le_trans (Nat.sub_le _ _) hl) (by decide),ra⟩ (Nat.le_trans (Nat.le_trans (Nat.sub_le _ _) hl) (by decide)) ⟨by rw [zu1],e2⟩)
end
theorem zh8 {C:Cx} {K:Frag} (O:LawOk C K law1) (hfm:∀ A env,C.fm A env) (Fk:FnK K 59 F_digits2int) (Bd:Bd2 K 59 (S "digits") (S "n")) (hq:(fdO K 59).map (·.qualname) = some (S "_digits2int")) (hc:(fdO K 59).map (·.code) = some (.ref 58)) (Tb:TabFact C 58 54) (lt:Nat):FnOk (C.at 10) 59 (datS lt):=by
 intro A σ args kws args' kws' K' Oa H B ra rk q
 obtain ⟨⟨dv,ds,n⟩,rfl,rfl,T,(q:K' (.int (val n ds:Nat)) σ.g.cs)⟩:=q
 obtain ⟨fd,hf⟩:=Option.isSome_iff_exists.mp Fk.i
 have Fa:∀ d,FnAt0 (C.at d) 59 zag (bodyOf F_digits2int) fd:=fun d=>zen ⟨O.W.inK.sub⟩ Fk hf rfl rfl rfl
 have Oo:∀ d,LawOk (C.at d) K law1:=fun d=>O.more (fun _ _ e=>e) d
 obtain ⟨o,ho,hd⟩:=(Fa 9).ho
 refine ⟨zc3 (C:=C.at 10) (H.fz _ _ (B.hf _ _ ho)) hd,?_⟩
 cases rk.nil_of
 obtain ⟨v,u,rfl,r1,r2⟩:=ra.two
 refine CRuns.at_ (d:=9) ?_
 refine zbl (C:=C.at 9) (ns:=[]) (sl:=[]) (ps:=[(S "digits",0),(S "n",1)]) (vs:=[dv,.int n]) O.W.lim (Fa 9) Oa H ⟨B.pr,B.hf,B.fl⟩ rfl (fun M A E Q h=>by rw [zai hf (Bd v u)]; exact wpAny_pure h) (.cons ⟨rfl,r1⟩ (.cons ⟨rfl,r2⟩ .nil)) (by rw [zai hf Fk.k]; exact .nil no_d2i) z3x fun Φ σ3 hsc I3 S3=>?_
 have e3:=I3.cs
 have hcode:=I3.code
 have hqual:=I3.qual
 have X3:=I3.X.drop_own I3.own0
 rw [z3t] at S3
 rw [<- TO_d2i,TD_d2i]
 refine zna (Oo 9).W S3 zza.1 zza.2 (TA_d2i _) (hcode.trans (zai hf hc)) ⟨Tb.at_⟩ (lt:=lt) (i:=2) ?_ (fun x hx hxk=>?_) (by decide) (by show Φ.env.scope.names.lookup _ = _; rw [hsc]; kernel_rfl) (hsc ▸ z3v) rfl rfl rfl fun f fd' base' σ5 X5 e5 S5 D=>?_
 ·rw [e3,T.t,hqual,zai hf hq]; rfl
 ·obtain ⟨y,k⟩:=x
  cases (hxk:k = _)
  obtain ⟨c,_,e,_⟩:=S3.F.cell y (.inl (by show Φ.env.scope.names.lookup _ = _; rw [hsc]; exact (zil hx).1))
  exact ⟨c,e⟩
 obtain ⟨c',doc,pm,ctv,hfd⟩:=D.fd_
 have Fi:=D.Fa
 have ec:=e5.trans e3
 refine zxb (C:=(C.at 9).more base') (K:=K) (f:=f) (fd:=fd') (lt:=lt) (KK:=K') ⟨fun d=>zdf (O.more D.more d) zbt,fun d=>⟨hfm,D.lim⟩,fun d=>⟨Fi.ho,Fi.scope,Fi.body,Fi.glo,Fi.blt,Fi.co,Fi.gen,Fi.kind,Fi.code⟩⟩ (fun l r=>by rw [hfd]; exact TB_d2i ..) hsc ?_ S5 (ec ▸ T) (ec ▸ q)
 rw [D.clo]
 exact zyv S5 (fun x hx=>.inl (by show Φ.env.scope.names.lookup _ = _; rw [hsc]; exact (zil hx).1)) zxc fun x hx=>(zil hx).2
structure D2nOk (a b n:Int):Prop where
 lim:(Builtin.Int.intBits a:Int) - n <= 4000
 b0:b ≠ 0
 bb:b.natAbs < bigN
noncomputable def d2nS:Spec:=Sp (fun a:Int × Int × Int=>[.int a.1,.int a.2.1,.int a.2.2]) [] noKw fun a cs K=>D2nOk a.1 a.2.1 a.2.2 /\ K (.tup [.int (a.1.fdiv a.2.1),.int (a.1.fmod a.2.1)]) cs
section
variable {C:Cx} {K:Frag} (F2:Facts2 C P0 K) (L:LimAt C)
include F2 L
theorem zoc (Fk:FnK K 38 F_div2n1n) (B:Bd3 K 38 (S "a") (S "b") (S "n")):FnOk C.up 38 d2nS :=
 fn3 (sl:=fun a:Int × Int × Int=>[some (.int a.1),some (.int a.2.1),some (.int a.2.2),none,none,none,none,none,none,none,none]) F2 L Fk (ztx []) B (fun _=>rfl) fun a cs K' q =>
  ⟨.bits _,.bits (.subI (.le (by rw [show decide ((Builtin.Int.intBits a.1:Int) - a.2.2 <= 4000) = true from decide_eq_true q.1.lim]; exact .divmod ⟨q.1.b0,q.1.bb⟩ q.2)))⟩
end
noncomputable def T4:Tab:=[(38,d2nS),(52,digS 0),(59,datS 1)]
noncomputable def P4:Prm:=law1.prm T4
theorem f4_d2n:P4.fn 38 = d2nS:=rfl
theorem f4_dig:P4.fn 52 = digS 0:=rfl
theorem zyr:P4.fn 59 = datS 1:=rfl
structure PdOk (a b:Nat) (cs:List Cell):Prop where
 t1:cs[0]? = some (.tab 47 (posOf F_i2d) qI2D)
 t2:cs[1]? = some (.tab 54 (posOf F_d2i) qD2I)
 hb:1 <= b
 ha:a < 2 ^ 240
 hb2:b < 2 ^ 240
noncomputable def pdS:Spec:=Sp (fun a:Nat × Nat=>[.int a.1,.int a.2]) [] noKw fun a cs K=>PdOk a.1 a.2 cs /\ K (.tup [.int (a.1 / a.2:Nat),.int (a.1 % a.2:Nat)]) cs
set_option exponentiation.threshold 1000 in
theorem zzq {S b n d:Nat} (hb:1 <= b) (hb2:b < 2 ^ 240) (hn:n <= 240) (hd:d < 2 ^ n):(S % b) * 2 ^ n + d < 2 ^ 480:=by
 have hrb:S % b < b:=Nat.mod_lt _ hb
 have h1:(S % b) * 2 ^ n + d < b * 2 ^ n:=by
  have:(S % b + 1) * 2 ^ n <= b * 2 ^ n:=Nat.mul_le_mul_right _ hrb
  rw [Nat.add_mul,Nat.one_mul] at this
  lia
 refine Nat.lt_of_lt_of_le h1 (Nat.le_trans ?_ (Nat.le_of_eq (Nat.pow_add 2 240 240).symm))
 exact Nat.mul_le_mul (Nat.le_of_lt hb2) (Nat.pow_le_pow_right (by decide) hn)
noncomputable def PdL (K:KF) (va ad vq:Option V) (b n l:Nat) (r:Nat) (o1 o2:Option V) (ys:List V) (cs:List Cell):Prop:=ForR zdw (bden (IS.sems P4 zd7)) K (.items ys) [va,some (.int b),some (.int n),ad,some (.int r),some (.ref l),o1,o2,vq] cs
structure PdT (b n r d X:Nat):Prop where
 hn:n <= 4000
 hr:((r:Nat):Int).natAbs < bigN
 e:(r:Int) * 2 ^ ((n:Nat):Int).toNat + (d:Int) = (X:Int)
 D:D2nOk (X:Int) (b:Int) (n:Int)
 q1:(X:Int).fdiv (b:Int) = ((X / b:Nat):Int)
 q2:(X:Int).fmod (b:Int) = ((X % b:Nat):Int)
theorem z0s {K:KF} {va ad vq o1 o2:Option V} {b n l r d X:Nat} {ys:List V} {cs:List Cell} {ql:List V} (T:PdT b n r d X) (h:cs[l]? = some (.list ql)) (hl:ql.length < lim)
  (q:PdL K va ad vq b n l (X % b) (some (.int d)) (some (.int (X / b:Nat))) ys (cs.set l (.list (ql ++ [.int (X / b:Nat)])))):PdL K va ad vq b n l r o1 o2 (.int d :: ys) cs :=
 .go (.items _ _) rfl (.shlI ⟨Int.natCast_nonneg _,Int.ofNat_le.mpr T.hn,T.hr⟩ (.addI' T.e (zac f4_d2n ((X:Int),(b:Int),(n:Int)) ⟨T.D,by
  show bindK _ (.tup [.int ((X:Int).fdiv (b:Int)),.int ((X:Int).fmod (b:Int))]) _ _
  rw [T.q1,T.q2]
  exact ⟨.append h,.append' h hl rfl q⟩⟩)))
theorem pdt_of {b n S d:Nat} (hb:1 <= b) (hb2:b < 2 ^ 240) (hn:n <= 240) (hd:d < 2 ^ n):PdT b n (S % b) d ((S % b) * 2 ^ n + d) where
 hn:=Nat.le_trans hn (by decide)
 hr:=by
  rw [Int.natAbs_natCast,show bigN = 2 ^ 240 by decide +kernel]
  exact Nat.lt_trans (Nat.mod_lt _ hb) hb2
 e:=by rw [Int.toNat_natCast]; push_cast; rfl
 D:=⟨by have:=ztg _ 480 (zzq (S:=S) hb hb2 hn hd); lia,by lia,by rw [Int.natAbs_natCast,show bigN = 2 ^ 240 by decide +kernel]; exact hb2⟩
 q1:=by rw [Int.fdiv_eq_ediv_of_nonneg _ (Int.natCast_nonneg b)]; rfl
 q2:=by rw [Int.fmod_eq_emod_of_nonneg _ (Int.natCast_nonneg b)]; rfl
theorem z0u {K:KF} {va ad vq:Option V} {b n:Nat} {cs0:List Cell} (hb:1 <= b) (hb2:b < 2 ^ 240) (hn:n <= 240) (R:List Nat):∀ (S ql:List Nat) (o1 o2:Option V),(∀ d ∈ R,d < 2 ^ n) -> ql.length + R.length <= 1000 -> val n ql.reverse = val n S / b ->
  (∀ (q2:List Nat) (u1 u2:Option V),q2.length = ql.length + R.length -> val n q2.reverse = val n (R.reverse ++ S) / b -> K .next [va,some (.int b),some (.int n),ad,some (.int (val n (R.reverse ++ S) % b:Nat)),some (.ref cs0.length),u1,u2,vq] (cs0 ++ [.list (natV q2)])) ->
  PdL K va ad vq b n cs0.length (val n S % b) o1 o2 (natV R) (cs0 ++ [.list (natV ql)]):=by
 induction R with
 | nil=>exact fun S ql o1 o2 _ _ hv q=>.done .items (q ql o1 o2 rfl hv)
 | cons d R ih =>
  intro S ql o1 o2 hd hl hv q
  have hdd:=hd d List.mem_cons_self
  refine z0s (pdt_of hb hb2 hn hdd) (zdj _ _) (by rw [natV,List.length_map]; rw [List.length_cons] at hl; show _ < 8388608; exact Nat.lt_of_lt_of_le (zc9 ‹_›) (by decide)) ?_
  rw [zc8,show natV ql ++ [V.int (((val n S % b) * 2 ^ n + d) / b:Nat)] = natV (ql ++ [((val n S % b) * 2 ^ n + d) / b]) by rw [natV,natV,List.map_append]; rfl]
  have em:((val n S % b) * 2 ^ n + d) % b = val n (d :: S) % b:=zvt (val n S) b (2 ^ n) d
  rw [em]
  refine ih (d :: S) (ql ++ [((val n S % b) * 2 ^ n + d) / b]) _ _ (fun x hx=>hd x (List.mem_cons_of_mem _ hx)) (by rw [List.length_append,List.length_singleton]; rw [List.length_cons] at hl; exact zda ‹_›) ?_ fun q2 u1 u2 e1 e2=>?_
  ·rw [List.reverse_append]
   show _ + 2 ^ n * val n ql.reverse = _
   rw [hv]
   exact zw7 (val n S) b (2 ^ n) d hb
  ·have:=q q2 u1 u2 (by rw [e1,List.length_append,List.length_singleton,List.length_cons]; lia)
   rw [List.reverse_cons,List.append_assoc] at this
   exact this e2
noncomputable def pdS1:Spec:=Sp (fun a:Nat × Nat=>[.int a.1,.int a.2]) [] noKw fun a cs K=>PdOk a.1 a.2 cs /\ ∀ xs,K (.tup [.int (a.1 / a.2:Nat),.int (a.1 % a.2:Nat)]) (cs ++ xs)
structure PdD (a b n:Nat):Prop where
 n1:1 <= n
 n2:n <= 240
 bn:b < 2 ^ n
 M:CntOk a n (cntOf a n)
 lt:∀ d ∈ (digs n (cntOf a n) a).reverse,d < 2 ^ n
 len:(digs n (cntOf a n) a).reverse.length = cntOf a n
 v:val n ((digs n (cntOf a n) a).reverse.reverse ++ []) = a
theorem pd_d {a b:Nat} (ha:a < 2 ^ 240) (hb:1 <= b) (hb2:b < 2 ^ 240):PdD a b (Builtin.Int.intBits (b:Int)):=by
 have h1:=zio b hb
 have h2:=ztg b 240 hb2
 refine ⟨h1.1,h2,h1.2,zyt ha h1.1 h2,fun d hd=>zln _ _ _ (zg9 a _ h1.1) d (List.mem_reverse.mp hd),by rw [List.length_reverse,zba],?_⟩
 rw [List.append_nil,List.reverse_reverse]
 exact zpd _ a h1.1
theorem zmp (l:List Nat):(natV l).reverse = natV l.reverse:=List.map_reverse.symm
section
variable {a b n:Nat} {cs:List Cell} {K:KV} {va ad vq u1 u2:Option V} {r:Nat} {q2:List Nat}
theorem z0t (T:PdOk a b cs) (D:PdD a b n) (e1:q2.length = cntOf a n) (e2:val n q2.reverse = a / b) (e3:r = a % b) (q:K (.tup [.int (a / b:Nat),.int (a % b:Nat)]) (cs ++ [.list (natV q2.reverse)])) :
  den0 P4 [zcg,zcf,zce] [va,some (.int b),some (.int n),ad,some (.int r),some (.ref cs.length),u1,u2,vq] (cs ++ [.list (natV q2)]) K:=by
 subst e3
 refine ⟨.reverse (zdj _ _),.reverse (zdj _ _) ?_⟩
 rw [zc8,zmp]
 refine zac zyr ⟨.ref cs.length,q2.reverse,n⟩ ⟨⟨?_,.ref (zdj _ _),?_,?_,?_⟩,?_⟩
 ·rw [List.getElem?_append_left (zaa T.t2)]; exact T.t2
 ·rw [List.length_reverse,e1]; exact D.M.c1
 ·rw [List.length_reverse,e1]; exact Nat.le_trans D.M.cn (by decide)
 ·rw [e2]; exact Nat.lt_of_le_of_lt (Nat.div_le_self _ _) T.ha
 ·rw [e2]; exact ⟨(by decide:2 <= 8388608),q⟩
end
section
variable {C:Cx} {K:Frag} (F2:Facts2 C P4 K) (L:LimAt C)
include F2 L
theorem zgp (Fk:FnK K 66 F_divmod_pos) (B:Bd2 K 66 (S "a") (S "b")):FnOk C.up 66 pdS1 :=
 fn2 (sl:=fun a:Nat × Nat=>[some (.int a.1),some (.int a.2),none,none,none,none,none,none,none]) F2 L Fk (zj7 T4) B (fun _=>rfl) fun a cs K' q=>by
  have D:=pd_d q.1.ha q.1.hb q.1.hb2
  refine ⟨.bits _,.bits (zac f4_dig (a.1,Builtin.Int.intBits (a.2:Int)) ⟨⟨q.1.t1,q.1.ha,D.n1,D.n2⟩,⟨Nat.zero_le _,rfl,.rev ?_⟩⟩)⟩
  rw [zmp]
  refine z0u q.1.hb q.1.hb2 D.n2 (digs (Builtin.Int.intBits (a.2:Int)) (cntOf a.1 (Builtin.Int.intBits (a.2:Int))) a.1).reverse [] [] none none D.lt ?_ ?_ fun q2 u1 u2 e1 e2=>?_
  ·rw [D.len]; have:=D.M.c1; show 0 + _ <= 1000; lia
  ·show 0 = 0 / a.2; rw [Nat.zero_div]
  ·show den0 P4 [zcg,zcf,zce] _ _ K'
   exact z0t q.1 D (by rw [e1,D.len]; exact Nat.zero_add _) (by rw [e2,D.v]) (by rw [D.v]) (q.2 _)
theorem zh7 (Fk:FnK K 66 F_divmod_pos) (B:Bd2 K 66 (S "a") (S "b")):FnOk C.up 66 pdS:=by
 intro A σ args kws args' kws' K' O H B' ra rk q
 obtain ⟨a,rfl,rfl,T,q⟩:=q
 have:=@zgp C K F2 L Fk B A σ _ _ _ _ (fun v c=>v = .tup [.int (a.1 / a.2:Nat),.int (a.1 % a.2:Nat)] /\ (∃ xs,c = σ.g.cs ++ xs) /\ K' (.tup [.int (a.1 / a.2:Nat),.int (a.1 % a.2:Nat)]) σ.g.cs) O H B' ra rk ⟨a,rfl,rfl,T,fun xs=>⟨rfl,⟨xs,rfl⟩,q⟩⟩
 exact ⟨this.1,CRuns.dropP this.2 H⟩
end
structure IdOk (c:Int -> Int -> Prop) (a b:Int) (cs:List Cell):Prop where
 t1:cs[0]? = some (.tab 47 (posOf F_i2d) qI2D)
 t2:cs[1]? = some (.tab 54 (posOf F_d2i) qD2I)
 ha:a.natAbs < 2 ^ 240
 hb:b.natAbs < 2 ^ 240
 c:c a b
noncomputable def idS (c:Int -> Int -> Prop):Spec:=Sp (fun a:Int × Int=>[.int a.1,.int a.2]) [] noKw fun a cs K=>IdOk c a.1 a.2 cs /\ K (.tup [.int (a.1.fdiv a.2),.int (a.1.fmod a.2)]) cs
noncomputable def cA (a b:Int):Prop:=0 <= a /\ 0 < b
noncomputable def cB (_ b:Int):Prop:=0 < b
noncomputable def cC (_ b:Int):Prop:=b ≠ 0
noncomputable def T5:Tab:=[(66,pdS)]
noncomputable def P5:Prm:=law1.prm T5
theorem f5_pd:P5.fn 66 = pdS:=rfl
noncomputable def T6:Tab:=[(73,idS cA),(66,pdS)]
noncomputable def P6:Prm:=law1.prm T6
theorem f6_pd:P6.fn 66 = pdS:=rfl
theorem f6_id:P6.fn 73 = idS cA:=rfl
noncomputable def T7:Tab:=[(73,idS cB),(66,pdS)]
noncomputable def P7:Prm:=law1.prm T7
theorem f7_pd:P7.fn 66 = pdS:=rfl
theorem f7_id:P7.fn 73 = idS cB:=rfl
section
variable {a b:Int} {cs:List Cell} {T0:Tab} {K:KF} {c:Int -> Int -> Prop}
theorem zrl (h:(law1.prm T0).fn 66 = pdS) (T:IdOk c a b cs) (ha:0 <= a) (hb:0 < b) (q:∀ sl,K (.ret (.tup [.int (a.fdiv b),.int (a.fmod b)])) sl cs):bden (IS.sems (law1.prm T0) zcr) [some (.int a),some (.int b),none,none] cs K:=by
 obtain ⟨a,rfl⟩:=Int.eq_ofNat_of_zero_le ha
 obtain ⟨b,rfl⟩:=Int.eq_ofNat_of_zero_le (Int.le_of_lt hb)
 refine zac h (a,b) ⟨⟨T.t1,T.t2,by lia,T.ha,T.hb⟩,?_⟩
 have e1:(a:Int).fdiv (b:Int) = ((a / b:Nat):Int):=by rw [Int.fdiv_eq_ediv_of_nonneg _ (Int.natCast_nonneg b)]; rfl
 have e2:(a:Int).fmod (b:Int) = ((a % b:Nat):Int):=by rw [Int.fmod_eq_emod_of_nonneg _ (Int.natCast_nonneg b)]; rfl
 rw [e1,e2] at q
 exact q _
theorem id_b4 (hb:0 < b) (h1:0 <= a -> bden (IS.sems (law1.prm T0) zcr) [some (.int a),some (.int b),none,none] cs K) (h2:a < 0 -> bden (IS.sems (law1.prm T0) zcs) [some (.int a),some (.int b),none,none] cs K):bden (IS.sems (law1.prm T0) zcq) [some (.int a),some (.int b),none,none] cs K:=by
 by_cases h:a < 0
 ·exact .ltT h (h2 h)
 ·exact .ltF h (h1 (Int.not_lt.mp h))
theorem zyn {c':Int -> Int -> Prop} (h:(law1.prm T0).fn 73 = idS c) (T:IdOk c' a b cs) (hc:c (-a - 1) b) (ha:a < 0) (hb:0 < b) (q:∀ sl,K (.ret (.tup [.int (a.fdiv b),.int (a.fmod b)])) sl cs):bden (IS.sems (law1.prm T0) zcs) [some (.int a),some (.int b),none,none] cs K:=by
 refine .inv (zac h (-a - 1,b) ⟨⟨T.t1,T.t2,Nat.lt_of_le_of_lt (show (-a - 1).natAbs <= a.natAbs by omega) T.ha,T.hb,hc⟩,?_⟩)
 have e:=fl4 a b hb
 refine .inv (.inv (.addI' e.2 ?_))
 rw [e.1]
 exact ⟨(by decide:2 <= 8388608),q _⟩
theorem z1y {c':Int -> Int -> Prop} (h:(law1.prm T0).fn 73 = idS c) (T:IdOk c' a b cs) (hc:c (-a) (-b)) (hb:b < 0) (q:∀ sl,K (.ret (.tup [.int (a.fdiv b),.int (a.fmod b)])) sl cs):bden (IS.sems (law1.prm T0) zct) [some (.int a),some (.int b),none,none] cs K:=by
 refine .neg (.neg (zac h (-a,-b) ⟨⟨T.t1,T.t2,by rw [Int.natAbs_neg]; exact T.ha,by rw [Int.natAbs_neg]; exact T.hb,hc⟩,?_⟩))
 have e:=fl5 a b hb
 refine .neg ?_
 rw [e.2,e.1]
 exact ⟨(by decide:2 <= 8388608),q _⟩
theorem zrm (hb0:b ≠ 0) (h1:b < 0 -> bden (IS.sems (law1.prm T0) zct) [some (.int a),some (.int b),none,none] cs K) (h2:0 < b -> bden (IS.sems (law1.prm T0) zcq) [some (.int a),some (.int b),none,none] cs K):bden (IS.sems (law1.prm T0) zez) [some (.int a),some (.int b),none,none] cs K:=by
 refine .eq (.intF hb0) ?_
 by_cases h:b < 0
 ·exact .ltT h (h1 h)
 ·exact .ltF h (h2 (by lia))
end
section
variable {C:Cx} {K:Frag} (L:LimAt C) (Fk:FnK K 73 F_int_divmod) (B:Bd2 K 73 (S "a") (S "b"))
include L Fk B
theorem ok_idA (F2:Facts2 C P5 K):FnOk C.up 73 (idS cA) :=
 fn2 (sl:=fun a:Int × Int=>[some (.int a.1),some (.int a.2),none,none]) F2 L Fk (zdb T5) B (fun _=>rfl) fun a cs K' q =>
  zrm (Int.ne_of_gt q.1.c.2) (fun h=>absurd h (Int.not_lt.mpr (Int.le_of_lt q.1.c.2))) fun hb=>id_b4 hb (fun ha=>zrl f5_pd q.1 ha hb fun _=>q.2) fun ha=>absurd ha (Int.not_lt.mpr q.1.c.1)
theorem ok_idB (F2:Facts2 C P6 K):FnOk C.up 73 (idS cB) :=
 fn2 (sl:=fun a:Int × Int=>[some (.int a.1),some (.int a.2),none,none]) F2 L Fk (zdb T6) B (fun _=>rfl) fun a cs K' q =>
  zrm (Int.ne_of_gt q.1.c) (fun h=>absurd h (Int.not_lt.mpr (Int.le_of_lt q.1.c))) fun hb=>id_b4 hb (fun ha=>zrl f6_pd q.1 ha hb fun _=>q.2) fun ha=>zyn f6_id q.1 ⟨by lia,hb⟩ ha hb fun _=>q.2
theorem ok_idC (F2:Facts2 C P7 K):FnOk C.up 73 (idS cC) :=
 fn2 (sl:=fun a:Int × Int=>[some (.int a.1),some (.int a.2),none,none]) F2 L Fk (zdb T7) B (fun _=>rfl) fun a cs K' q =>
  zrm q.1.c (fun h=>z1y f7_id q.1 (show 0 < -a.2 by lia) h fun _=>q.2) fun hb=>id_b4 hb (fun ha=>zrl f7_pd q.1 ha hb fun _=>q.2) fun ha=>zyn f7_id q.1 hb ha hb fun _=>q.2
end
noncomputable def msgC:Str:=S "Control characters not allowed in headers"
noncomputable def cvT:IE:=.cmp (.call true (S "type") 11 (pp 161 11 15) [(.nm (S "value") 1 (pp 161 16 21))] (pp 161 11 22)) .Is (.gl (S "str") 9 (pp 161 26 29)) (pp 161 11 29)
noncomputable def cvR:IS:=.asg (.nm (S "regex") 3 (pp 162 12 17)) (.ifx (.nm (S "name") 2 (pp 162 43 47)) (.gl (S "_name_disallowed_re") 17 (pp 162 20 39)) (.gl (S "_value_disallowed_re") 18 (pp 162 53 73)) (pp 162 20 73)) (pp 162 12 73)
noncomputable def cvE:ED:=ED.glob P0 (S "ValueError") 16 (pp 164 22 32)
noncomputable def cvM:ED:=ED.con (.str msgC) 0 (pp 164 33 76)
noncomputable def cvX:ED:=ED.loc (S "regex") 3 (pp 163 15 20)
noncomputable def cvV:ED:=ED.loc (S "value") 1 (pp 163 28 33)
noncomputable def cvRest:List Stmt:=((IE.sems P0 [.nm (S "value") 1 (pp 165 19 24)]).map fun e=>Stmt.Return (some e.ast) (pp 165 12 24))
theorem z4c:bodyOf F_conv = .If (cvT.sem P0).ast ((IS.sems P0 [cvR]).map SD.ast ++ .If (.Call (.Attribute cvX.ast (S "search") (pp 163 15 27)) ([cvV].map ED.ast) [] (pp 163 15 34)) [.Raise (some (.Call (.Name (S "ValueError") (pp 164 22 32)) [cvM.ast] [] (pp 164 22 77))) none (pp 164 16 77)] [] ⟨163,12,164,77⟩ :: cvRest) [] ⟨161,8,165,24⟩ :: [(bodyOf F_conv).getD 1 default]:=by kernel_rfl
noncomputable abbrev za3:Scope:=scopeOf F_conv
theorem WR1:(cvT.sem P0).wf za3 (ownNs za3 ++ []) = true:=by kernel_rfl
theorem WR2:bwf (IS.sems P0 [cvR]) za3 (ownNs za3 ++ []) = true:=by kernel_rfl
theorem WR3:cvE.wf za3 (ownNs za3 ++ []) = true:=by kernel_rfl
theorem WR4:cvM.wf za3 (ownNs za3 ++ []) = true:=by kernel_rfl
theorem WR5:cvX.wf za3 (ownNs za3 ++ []) = true:=by kernel_rfl
theorem WR6:cvV.wf za3 (ownNs za3 ++ []) = true:=by kernel_rfl
theorem zva {C:Cx} {A:Around} {σ:St} {a:Addr} {code:Array Nat} (Pa:PatAt C.base a code) (H:HRel σ.g σ.s.heap) (B:Base C σ.g):GetsM C A σ.s (.ref a) (S "search") (.builtin "re.Pattern.search"):=fun pl Q E k=>by
 obtain ⟨b,o1,o2,o3,o4,o5,its,n,e1,e2,e3⟩:=Pa.at_
 have h1:=H.fz _ _ (B.hf _ _ e1)
 exact getMethod_builtin (T := "re.Pattern") ⟨_,h1,rfl⟩ zdm za2 zcy (fun a ha=>by cases ha; exact ⟨_,h1,rfl⟩) (k _)
theorem zoy (x y z:V):bindP [(S "self",0),(S "value",1),(S "name",2)] [x,y,z] (List.replicate (ownNs za3).length none ++ []) = [some x,some y,some z,none]:=by kernel_rfl
section
variable {C:Cx} {K:Frag} (F2:Facts2 C P0 K) (L:LimAt C) (Fk:FnK K 142 F_conv) (B:BdK K 142 (S "self") (S "value") (S "name")) (Pa:PatAt C.base 107 nameCode)
include F2 L Fk B Pa
theorem zos {A:Around} {σ:St} {self:V} {self':Value} {c:Nat} {t:Tok} {l:List Env} (O:AOk A (C.d + 1)) (H:HRel σ.g σ.s.heap) (Bs:Base C σ.g) (hA:A.frames = some l) (Fr:Frs σ.g l) (rs:VRel σ.g self self') (hb:nameBad c = true) :
  ERuns C A σ (.ref 142) [self',.str ⟨#[c]⟩ t] [(S "name",.bool true)] l msgC:=fun R k=>by
 obtain ⟨fd,hf⟩:=Option.isSome_iff_exists.mp Fk.i
 have Fa:=zsg F2.W Fk (znm []) hf
 have rx:VRel σ.g (.str ⟨#[c]⟩) (.str ⟨#[c]⟩ t):=.str _ _ (by show 1 <= 8388608; decide)
 refine zii (ns:=[]) (sl:=[]) (ps:=[(S "self",0),(S "value",1),(S "name",2)]) (vs:=[self,.str ⟨#[c]⟩,.bool true]) L.l Fa.toFnAt0 O H Bs rfl (fun Q E q=>?_) (znm []).par fun Φ σ3 hsc I S3=>?_
 ·rw [zai hf (B self' (.str ⟨#[c]⟩ t) (.bool true))]
  exact wpAny_pure (q _ σ (Ext.refl H _) rfl (.cons ⟨rfl,rs⟩ (.cons ⟨rfl,rx⟩ (.cons ⟨rfl,.bool true⟩ .nil))) (by rw [Fa.clo]; exact .nil Fa.nofree))
 rw [zoy] at S3
 rw [z4c]
 refine wpAny_execs_cons (if_raw (T:=fun cs=>cs = σ.g.cs) (cvT.good F2.F Φ _ (by rw [hsc]; exact WR1)) S3 (CallR.type (.str _) (CmpR.is (.typ _ _) ⟨rfl,I.cs⟩)) fun σ4 X4 S4 c4=>?_)
 refine zjz (K1:=fun fl sl cs=>fl = .next /\ sl = [some self,some (.str ⟨#[c]⟩),some (.bool true),some (.adr 107)] /\ cs = σ.g.cs) (IS.sems P0 [cvR]) ((IS.all_good F2 _).ok (L.fm _ _) (by rw [hsc]; exact WR2)) (fun fl sl cs h=>h.1) _ σ4 S4 ⟨rfl,rfl,c4⟩ fun sl5 σ5 X5 S5 h5=>?_
 obtain ⟨_,rfl,c5⟩:=h5
 have OV:∀ d ∈ [cvV],EOk C Φ (ownNs za3 ++ []) d:=fun d hd=>by cases List.mem_singleton.mp hd; exact zaw _ _ _ Φ _ (by rw [hsc]; exact WR6)
 refine wpAny_execs_cons (wpAny_If (wpAny_isTrue_value (zb8 (kv:=[]) (kn:=[]) (n:=1) (H:=fun v cs=>v = .adr 107 /\ cs = σ.g.cs) (zaw _ _ _ Φ _ (by rw [hsc]; exact WR5)) rfl (zau _ OV).1 rfl rfl S5 ⟨rfl,c5⟩ fun ov ov' σ6 X6 S6 r6 h6=>?_) rfl))
 obtain ⟨rfl,c6⟩:=h6
 cases r6.inv
 refine ⟨_,zva Pa S6.H S6.B,fun tk=>?_⟩
 have Xt:Ext σ6 (σ6.up σ6.s.heap tk σ6.g) noOwn:=Ext.tok X6.H
 refine zcu (σ:=σ6.up σ6.s.heap tk σ6.g) (kv:=[]) _ [] rfl OV (fun _ z=>nomatch z) (S6.ext Xt) (T:=fun vs _ cs=>vs = [.str ⟨#[c]⟩] /\ cs = σ.g.cs) ⟨rfl,c6⟩ fun vs us a σ7 X7 ra q7=>?_
 obtain ⟨rfl,c7⟩:=q7
 refine ⟨zae _,?_⟩
 obtain ⟨w,hw,rw_⟩:=ra.pos.one
 obtain ⟨tt,rfl,_⟩:=rw_.inv
 have S7:=(S6.ext Xt).ext X7
 rw [show a.kw = [] from ra.kw.nil_of,hw]
 refine zny Pa S7.H S7.B hb fun m σ8 X8 g8 hm=>zph hm ?_
 have S8:=S7.ext X8
 refine wpAny_execs_cons (zqr (n:=cvE) (e:=cvM) (T:=fun cs=>cs = σ.g.cs) (msg:=msgC) rfl (zc5 F2.F.glob _ _ _ Φ _ (by rw [hsc]; exact WR3)) (zfc _ _ _ Φ _ (by rw [hsc]; exact WR4)) S8 ⟨rfl,rfl,by rw [g8]; exact c7⟩ fun σ9 h9 e tt X9 S9 c9 hm=>?_)
 have X39:=((toOwn (Φ:=Φ) X4).trans X5).trans (toOwn (((X6.trans (Xt.trans X7)).trans X8).trans X9))
 have X09:Ext σ σ9 noOwn:=(I.X.trans X39).drop_own I.own0
 refine zwz (Φ:=Φ) (tk:=σ9.s.toks) (by rw [I.hA]; show A.frames.map (Φ.env :: ·) = _; rw [hA]; rfl) I.fr Fr X09 (I.own0 _ (.inl rfl)) S9.F hm fun h' Fl=>k e _ Fl ⟨[],?_⟩
 rw [List.append_nil]
 exact c9
end
noncomputable abbrev zaj:Scope:=scopeOf F_addh
noncomputable def ahT:Tgt:=.tup [(S "k",5,(pp 227 12 13)),(S "v",6,(pp 227 15 16))] 0 (pp 227 12 16)
theorem zty:bodyOf F_addh = (IS.sems P1 [zfs,zfm]).map SD.ast ++ .For ahT.ast (.Call (.Attribute (.Name (S "_params") (pp 227 20 27)) ("items" : Str) (pp 227 20 33)) [] [] (pp 227 20 35)) (loopOf ((bodyOf F_addh).getD 2 default)) [] ⟨227,8,233,66⟩ :: (IS.sems P1 [zhs]).map SD.ast:=by kernel_rfl
theorem WA1:bwf (IS.sems P1 [zfs,zfm]) zaj (ownNs zaj ++ []) = true:=by kernel_rfl
theorem WA2:(ED.loc (S "_params") 3 (pp 227 20 27)).wf zaj (ownNs zaj ++ []) = true:=by kernel_rfl
theorem WA3:bwf (IS.sems P1 [zhs]) zaj (ownNs zaj ++ []) = true:=by kernel_rfl
noncomputable abbrev zh4:List (Str × Nat):=[(S "self",0),(S "_name",1),(S "_value",2),(S "_params",3)]
theorem WA4:zh4.all (fun p=>tgt1 zaj (ownNs zaj ++ []) p.1 p.2) = true:=by kernel_rfl
theorem WA5:nfree zaj = true:=by kernel_rfl
noncomputable abbrev zbo (l:Nat) (x v:Str) (p:Option V):Slots:=[some (.ref l),some (.str x),some (.str v),some (.dct [] []),p,none,none]
theorem zhc (l:Nat) (x v:Str):bindP zh4 [.ref l,.str x,.str v,.dct [] []] (List.replicate (ownNs zaj).length none ++ []) = zbo l x v none:=by kernel_rfl
theorem zd2 {sc:Scope} (h:nfree sc = true) (x:Str):(x,NameKind.free) ∉ sc.names:=fun hx=>by
 have:=List.all_eq_true.mp h _ hx
 cases this
structure AdOk (a:SdA) (cs:List Cell):Prop where
 tb:Tb cs a.l a.k a.hs
 nx:nameOk a.x
 vv:valOk a.v
 ll:a.hs.length < lim
noncomputable def addS:Spec:=Sp (fun a:SdA=>[.ref a.l,.str a.x,.str a.v]) [] noKw fun a cs K=>AdOk a cs /\ K .none (cs.set a.k (.list (pairsV (a.hs ++ [(a.x,a.v)]))))
theorem Tb.app {cs:List Cell} {l k:Nat} {hs:Hs} (h:Tb cs l k hs) (xs:List Cell):Tb (cs ++ xs) l k hs:=by
 obtain ⟨d,h1,h2⟩:=h.ex
 exact ⟨⟨d,(List.getElem?_append_left (zaa h1)).trans h1,(List.getElem?_append_left (zaa h2)).trans h2⟩,(List.getElem?_append_left (zaa h.ls)).trans h.ls⟩
theorem zbk (cs:List Cell) (c:Cell):(cs ++ [c])[cs.length]? = some c:=by rw [List.getElem?_append_right (Nat.le_refl _),Nat.sub_self]; rfl
theorem zng {l:Nat} {x v:Str} {cs:List Cell} {K1:KF} (cl:ClsR (cs ++ [.list []]) (.ref l) 241) (vv:valOk v) (q:K1 .next (zbo l x v (some (.ref cs.length))) (cs ++ [.list [.str v]])):bden (IS.sems P1 [zfs,zfm]) (zbo l x v none) cs K1 :=
 ⟨Nat.zero_le _,.isNot (.str _) ⟨cl,zac zeo ⟨.ref l,v,false⟩ ⟨vv,⟨.append (zbk _ _),.append (zbk _ _) (by decide) (by rw [zc8]; exact q)⟩⟩⟩⟩
theorem z3j {l k:Nat} {hs:Hs} {x v:Str} {cs:List Cell} {K1:KF} (tb:Tb cs l k hs) (nx:nameOk x) (ll:hs.length < lim) (q:K1 .next (zbo l x v (some (.ref cs.length))) (cs.set k (.list (pairsV (hs ++ [(x,v)]))) ++ [.list [.str v]])) :
  bden (IS.sems P1 [zhs]) (zbo l x v (some (.ref cs.length))) (cs ++ [.list [.str v]]) K1:=by
 have t:=tb.app [.list [.str v]]
 refine ⟨_,t.at,.append t.ls,t.cls,zac zeo ⟨.ref l,x,true⟩ ⟨nx,.join _,.join1 (.ref (zbk _ _)) ⟨(by decide:2 <= lim),.append t.ls (by rw [pairsV,List.length_map]; exact ll) ?_⟩⟩⟩
 rw [List.set_append_left _ _ (zaa tb.ls)]
 rw [pairsV,List.map_append] at q
 exact q
theorem znt (hs:Hs):∀ y ∈ pairsV hs,stayV y:=fun y hy=>by
 obtain ⟨p,_,rfl⟩:=List.mem_map.mp hy
 exact zup fun z hz=>by
  rcases List.mem_cons.mp hz with rfl | hz
  ·exact zl9 _
  ·cases List.mem_singleton.mp hz; exact zl9 _
theorem zuw {cs:List Cell} {k:Nat} {hs:Hs} (l:Nat) (c:Cell) (h:(cs.set k (.list (pairsV hs)))[l]? = some c):cs[l]? = some c \/ ∃ ys,c = Cell.list ys /\ ∀ y ∈ ys,stayV y:=by
 by_cases e:k = l
 ·subst e
  rw [List.getElem?_set_self (by have:=zaa h; rw [List.length_set] at this; exact this)] at h
  cases h
  exact .inr ⟨_,rfl,znt hs⟩
 ·rw [List.getElem?_set_ne e] at h; exact .inl h
section
variable {C:Cx} {K:Frag} (F2:Facts2 C P1 K) (L:LimAt C)
include F2 L
theorem z04 (Fk:FnK K 238 F_addh) (B:BdW K 238 (S "self") (S "_name") (S "_value") (S "_params")):FnOk C.up 238 addS:=by
 intro A σ args kws args' kws' K' O H Bs ra rk q
 obtain ⟨a,rfl,rfl,h,q⟩:=q
 cases rk.nil_of
 obtain ⟨u1,u2,u3,rfl,r1,r2,r3⟩:=ra.three
 obtain ⟨fd,hf⟩:=Option.isSome_iff_exists.mp Fk.i
 have Fa:FnAt0 C 238 zaj (bodyOf F_addh) fd:=zen F2.W Fk hf rfl rfl rfl
 obtain ⟨o,ho,hd⟩:=Fa.ho
 refine ⟨zc3 (C:=C.up) (H.fz _ _ (Bs.hf _ _ ho)) hd,?_⟩
 have hk:=h.tb.ls
 refine CRuns.dropC (c0:=σ.g.cs.set a.k (.list (pairsV (a.hs ++ [(a.x,a.v)])))) (List.length_set ..) (fun l c e=>zuw l c e) ?_ H
 refine CRuns.at_ (C:=C) (d:=C.d) ?_
 refine z2d (C:=C) (ns:=[]) (sl:=[]) (ps:=zh4) (vs:=[.ref a.l,.str a.x,.str a.v,.dct [] []]) L.l Fa O H ⟨Bs.pr,Bs.hf,Bs.fl⟩ rfl (fun Q E k=>bindsW hf B H ⟨Bs.pr,Bs.hf,Bs.fl⟩ F2.F.lo r1 r2 r3 fun bs' σ' X e r=>k bs' σ' X e r (by rw [zai hf Fk.k]; exact .nil (zd2 WA5))) WA4 fun Φ σ3 hsc I S3=>?_
 rw [zhc] at S3
 rw [zty]
 refine zbb (K1:=fun fl sl cs=>fl = .next /\ sl = zbo a.l a.x a.v (some (.ref σ.g.cs.length)) /\ cs = σ.g.cs ++ [.list [.str a.v]]) (IS.sems P1 [zfs,zfm]) ((IS.all_good F2 _).ok (L.fm _ _) (by rw [hsc]; exact WA1)) _ σ3 S3 ?_ (fun fl sl c hk ne=>(ne hk.1).elim) fun sl4 σ4 X4 S4 h4=>?_
 ·exact zng (by rw [I.cs]; exact (h.tb.app _).cls) h.vv (by rw [I.cs]; exact ⟨rfl,rfl,rfl⟩)
 obtain ⟨_,rfl,c4⟩:=h4
 refine zfg (K1:=fun fl sl cs=>fl = .next /\ sl = zbo a.l a.x a.v (some (.ref σ.g.cs.length)) /\ cs = σ4.g.cs) (zg2 (i:=3) (by rw [hsc]; exact WA2) rfl S4 ⟨rfl,rfl⟩ ⟨rfl,rfl,rfl⟩) (fun fl sl c hk ne=>(ne hk.1).elim) fun sl5 σ5 X5 S5 h5=>?_
 obtain ⟨_,rfl,c5⟩:=h5
 refine zby _ ((IS.all_good F2 _).ok (L.fm _ _) (by rw [hsc]; exact WA3)) _ _ _ S5 ?_
 rw [c5,c4]
 exact z3j h.tb h.nx h.ll ⟨rfl,⟨_,rfl⟩,q⟩
end
noncomputable def ahS:ED:=ED.loc (S "self") 0 (pp 234 30 34)
noncomputable def ahN:ED:=ED.loc (S "_name") 1 (pp 234 56 61)
noncomputable def ahB:ED:=ED.con (.bool true) 0 (pp 234 68 72)
noncomputable def ahA:ED:=ED.attr P1 (ED.loc (S "self") 0 (pp 234 8 12)) (pp 234 8 21)
noncomputable def ahJ:ED:=(IE.mcall (.con (.str (S "; ")) 0 (pp 234 75 79)) .join (pp 234 75 84) [(.nm (S "parts") 4 (pp 234 85 90))] (pp 234 75 91)).sem P1
noncomputable def ahC:Expr:=.Call (.Attribute ahS.ast (S "_convert_string_type") (pp 234 30 55)) ([ahN].map ED.ast) (kwAst [(S "name",(pp 234 63 72))] [ahB]) (pp 234 30 73)
theorem z4a:(IS.sems P1 [zhs]).map SD.ast = [.Expr (.Call (.Attribute ahA.ast (S "append") (pp 234 8 28)) [.Tuple [ahC,ahJ.ast] 0 (pp 234 29 92)] [] (pp 234 8 93)) (pp 234 8 93)]:=by kernel_rfl
theorem WY1:ahS.wf zaj (ownNs zaj ++ []) = true:=by kernel_rfl
theorem WY2:ahN.wf zaj (ownNs zaj ++ []) = true:=by kernel_rfl
theorem WY3:ahB.wf zaj (ownNs zaj ++ []) = true:=by kernel_rfl
theorem WY4:ahA.wf zaj (ownNs zaj ++ []) = true:=by kernel_rfl
section
variable {C:Cx} {K:Frag} (O:LawOk C K law1) (F2:Facts2 C.up P1 K) (L:LimAt C.up) (Fc:FnK K 142 F_conv) (Bc:BdK K 142 (S "self") (S "value") (S "name")) (Pa:PatAt C.base 107 nameCode)
include O F2 L Fc Bc Pa
theorem z3k {Φ:Fm} {σ:St} {l k:Nat} {hs:Hs} {c:Nat} {v:Str} {p:Option V} {outer:List Env} {Q:Value -> Shared -> Prop} {E:Value -> Shared -> Prop} (hsc:Φ.env.scope = zaj) (fr:Φ.env.frame = some Φ.env.locals) (hA:Φ.A.frames = some (Φ.env :: outer)) (Fr:Frs σ.g outer) (S:Std C.up Φ (look (ownNs zaj ++ []) (zbo l ⟨#[c]⟩ v p)) σ) (tb:Tb σ.g.cs l k hs) (hb:nameBad c = true)
  (q:∀ e σ7 σ',Ext σ σ7 noOwn -> Std C.up Φ (look (ownNs zaj ++ []) (zbo l ⟨#[c]⟩ v p)) σ7 -> σ7.g.cs = σ.g.cs -> Fly (σ7.wfl (plus σ7.g.fl Φ.env.locals)) σ' (Φ.env :: outer) msgC e -> (∃ xs,σ'.g.cs = σ.g.cs ++ xs) -> E (.ref e) σ'.s):wpAny C.M Φ.A (eval ahC Φ.env) Q E σ.s:=by
 have ON:∀ d ∈ [ahN],EOk C.up Φ (ownNs zaj ++ []) d:=fun d hd=>by cases List.mem_singleton.mp hd; exact zaw _ _ _ Φ _ (by rw [hsc]; exact WY2)
 have OB:∀ d ∈ [ahB],EOk C.up Φ (ownNs zaj ++ []) d:=fun d hd=>by cases List.mem_singleton.mp hd; exact zfc _ _ _ Φ _ (by rw [hsc]; exact WY3)
 refine zb8 (C:=C.up) (o:=ahS) (kv:=[ahB]) (kn:=[(Mine.S "name",(pp 234 63 72))]) (n:=1) (H:=fun v cs=>v = .ref l /\ cs = σ.g.cs) (zaw _ _ _ Φ _ (by rw [hsc]; exact WY1)) rfl (zau _ ON).1 rfl rfl S ⟨rfl,rfl⟩ fun ov ov' σ1 X1 S1 r1 h1=>?_
 obtain ⟨rfl,c1⟩:=h1
 refine ⟨.ref 142,F2.F.cmeth S1.O rfl (by rw [c1]; exact tb.cls) S1.H S1.B r1,fun tk=>?_⟩
 have Xt:Ext σ1 (σ1.up σ1.s.heap tk σ1.g) noOwn:=Ext.tok X1.H
 refine zcu (σ:=σ1.up σ1.s.heap tk σ1.g) (kv:=[ahB]) _ [(Mine.S "name",(pp 234 63 72))] rfl ON OB (S1.ext Xt) (T:=fun vs us cs=>vs = [.str ⟨#[c]⟩] /\ us = [.bool true] /\ cs = σ.g.cs) ⟨rfl,rfl,c1⟩ fun vs us a σ7 X7 ra q7=>?_
 obtain ⟨rfl,rfl,c7⟩:=q7
 obtain ⟨w,hw,rw_⟩:=ra.pos.one
 obtain ⟨tt,rfl,_⟩:=rw_.inv
 obtain ⟨⟨kn,kb⟩,hk,hl,rb⟩:=ra.kw.one
 cases (hl:_ = kn)
 cases (show kb = .bool true from rb.inv)
 have S7:=(S1.ext Xt).ext X7
 obtain ⟨fd,hf⟩:=Option.isSome_iff_exists.mp Fc.i
 obtain ⟨o,ho,hd⟩:=(zsg F2.W Fc (znm []) hf).ho
 refine ⟨zc3 (C:=C.up) (S7.H.fz _ _ (S7.B.hf _ _ ho)) hd,?_⟩
 rw [hk,hw]
 have X17:=X1.trans (Xt.trans X7)
 have r7:=(r1.mono (Xt.trans X7).le).wfl (plus σ7.g.fl Φ.env.locals)
 have O':LawOk { C with fl:=plus C.fl Φ.env.locals,d:=C.d,fm:=fun _ _=>True } K law1:=O.other _ _
 have B':Base { C with fl:=plus C.fl Φ.env.locals,d:=C.d,fm:=fun _ _=>True } (σ7.wfl (plus σ7.g.fl Φ.env.locals)).g:=⟨S7.B.pr,S7.B.hf,fun a z=>z.elim .inl fun y=>.inr (S7.B.fl a y)⟩
 have Fr':Frs (σ7.wfl (plus σ7.g.fl Φ.env.locals)).g (Φ.env :: outer):=fun env he=>by
  rcases List.mem_cons.mp he with rfl | he
  ·exact ⟨S7.F.kind,_,fr,.inl rfl⟩
  ·obtain ⟨h1,L,h2,h3⟩:=Fr env he
   exact ⟨h1,L,h2,.inr (X17.le.fl ▸ h3)⟩
 exact (zos (zdf O' zbt) ⟨fun _ _=>trivial,O'.W.lim⟩ Fc Bc ⟨Pa.at_⟩ S7.O (zfb S7.H S7.F) B' hA Fr' r7 hb).runs fun e σ' Fl hx=>q e σ7 σ' X17 S7 c7 Fl (c7 ▸ hx)
theorem zo3 (Fk:FnK K 238 F_addh) (B:BdW K 238 (S "self") (S "_name") (S "_value") (S "_params")) {A:Around} {σ:St} {l k:Nat} {hs:Hs} {c:Nat} {v:Str} {self' v':Value} {t:Tok} {outer:List Env} (Oa:AOk A (C.d + 2)) (H:HRel σ.g σ.s.heap) (Bs:Base C σ.g) (hA:A.frames = some outer) (Fr:Frs σ.g outer)
  (rs:VRel σ.g (.ref l) self') (rv:VRel σ.g (.str v) v') (tb:Tb σ.g.cs l k hs) (vv:valOk v) (hb:nameBad c = true):ERuns C A σ (.ref 238) [self',.str ⟨#[c]⟩ t,v'] [] outer msgC:=fun R kk=>by
 obtain ⟨fd,hf⟩:=Option.isSome_iff_exists.mp Fk.i
 have Fa:FnAt0 C.up 238 zaj (bodyOf F_addh) fd:=zen F2.W Fk hf rfl rfl rfl
 have rx:VRel σ.g (.str ⟨#[c]⟩) (.str ⟨#[c]⟩ t):=.str _ _ (by show 1 <= 8388608; decide)
 have Bs':Base C.up σ.g:=⟨Bs.pr,Bs.hf,Bs.fl⟩
 refine zii (C:=C.up) (ns:=[]) (sl:=[]) (ps:=zh4) (vs:=[.ref l,.str ⟨#[c]⟩,.str v,.dct [] []]) L.l Fa Oa H Bs' rfl (fun Q E k=>bindsW hf B H Bs' F2.F.lo rs rx rv fun bs' σ' X e r=>k bs' σ' X e r (by rw [zai hf Fk.k]; exact .nil (zd2 WA5))) WA4 fun Φ σ3 hsc I S3=>?_
 rw [zhc] at S3
 rw [zty]
 refine zjz (K1:=fun fl sl cs=>fl = .next /\ sl = zbo l ⟨#[c]⟩ v (some (.ref σ.g.cs.length)) /\ cs = σ.g.cs ++ [.list [.str v]]) (IS.sems P1 [zfs,zfm]) ((IS.all_good F2 _).ok (L.fm _ _) (by rw [hsc]; exact WA1)) (fun fl sl c hk=>hk.1) _ σ3 S3 ?_ fun sl4 σ4 X4 S4 h4=>?_
 ·exact zng (by rw [I.cs]; exact (tb.app _).cls) vv (by rw [I.cs]; exact ⟨rfl,rfl,rfl⟩)
 obtain ⟨_,rfl,c4⟩:=h4
 refine wpAny_execs_cons (zg2 (i:=3) (K2:=fun fl sl cs=>fl = .next /\ sl = zbo l ⟨#[c]⟩ v (some (.ref σ.g.cs.length)) /\ cs = σ4.g.cs) (by rw [hsc]; exact WA2) rfl S4 ⟨rfl,rfl⟩ ⟨rfl,rfl,rfl⟩ _ _ fun fl sl5 f σ5 X5 r5 S5 h5=>?_)
 obtain ⟨rfl,rfl,c5⟩:=h5
 cases r5
 have c5':=c5.trans c4
 have t5:Tb σ5.g.cs l k hs:=by rw [c5']; exact tb.app _
 have X05:=(I.X.trans X4).trans X5
 rw [z4a]
 refine wpAny_execs_cons (wpAny_Expr_any (zb8 (C:=C.up) (o:=ahA) (kv:=[]) (kn:=[]) (n:=1) (H:=fun v cs=>v = .ref k /\ cs = σ5.g.cs) (zj1 F2.F _ (zaw _ _ _) Φ _ (by rw [hsc]; exact WY4)) rfl (fun t ht=>by cases List.mem_singleton.mp ht; rfl) rfl rfl S5 ⟨_,t5.at,rfl,rfl⟩ fun ov ov' σ6 X6 S6 r6 h6=>?_) (by unfold interactive; rw [S5.F.kind]; rfl) rfl)
 obtain ⟨rfl,c6⟩:=h6
 cases r6.inv.1
 have t6:Tb σ6.g.cs l k hs:=c6 ▸ t5
 refine ⟨_,zc2 S6.H t6.ls F.slot_list_append F.type_list_append,fun tk=>?_⟩
 have Xt:Ext σ6 (σ6.up σ6.s.heap tk σ6.g) noOwn:=Ext.tok X6.H
 have X56:=toOwn (Φ:=Φ) (X6.trans Xt)
 refine evalArgs_kw rfl (zbe (wpAny_Tuple (k:=0) (zbe (z3k O F2 L Fc Bc Pa (σ:=σ6.up σ6.s.heap tk σ6.g) hsc I.fr (by rw [I.hA]; show A.frames.map (Φ.env :: ·) = _; rw [hA]; rfl) (fun env he=>?_) (S6.ext Xt) t6 hb fun e σ7 σ' X7 S7 c7 Fl hx=>?_))))
 ·obtain ⟨h1,L,h2,h3⟩:=Fr env he
  exact ⟨h1,L,h2,(X05.trans X56).le.fl ▸ h3⟩
 have X07:Ext σ σ7 noOwn:=((X05.trans X56).trans (toOwn X7)).drop_own I.own0
 refine fly_on (by rw [I.hA]; show A.frames.map (Φ.env :: ·) = _; rw [hA]; rfl) I.fr Fl fun h' Fl2=>?_
 refine kk e _ (z2e X07 (I.own0 _ (.inl rfl)) Fl2) ?_
 obtain ⟨xs,hx⟩:=hx
 exact ⟨[.list [.str v]] ++ xs,by show σ'.g.cs = _; rw [hx]; show σ6.g.cs ++ xs = _; rw [c6,c5',List.append_assoc]⟩
end
structure Fns1 (K:Frag):Prop where
 k142:FnK K 142 F_conv
 k83:FnK K 83 F_ISTERMINAL
 k90:FnK K 90 F_ISNONTERMINAL
 k97:FnK K 97 F_ISEOF
 k188:FnK K 188 F_get
 k135:FnK K 135 F_init
 k205:FnK K 205 F_items
 k180:FnK K 180 F_getall
 k231:FnK K 231 F_setd
 k238:FnK K 238 F_addh
 k250:FnK K 250 F_law_written
 k255:FnK K 255 F_law_gathered
 k260:FnK K 260 F_law_carries
 k267:FnK K 267 F_law_sign
 k272:FnK K 272 F_law_led
 k279:FnK K 279 F_law_sets
 k52:FnK K 52 F_int2digits
 k59:FnK K 59 F_digits2int
 k38:FnK K 38 F_div2n1n
 k66:FnK K 66 F_divmod_pos
 k73:FnK K 73 F_int_divmod
 k284:FnK K 284 F_law
 b142:BdK K 142 (S "self") (S "value") (S "name")
 b83:Bd1 K 83 (S "x")
 b90:Bd1 K 90 (S "x")
 b97:Bd1 K 97 (S "x")
 b188:BdD3 K 188 (S "self") (S "name") (S "default")
 b135:BdP2 K 135 (S "self") (S "headers")
 b135d:BdD2 K 135 (S "self") (S "headers")
 b205:Bd1 K 205 (S "self")
 b180:Bd2 K 180 (S "self") (S "name")
 b231:Bd3 K 231 (S "self") (S "name") (S "value")
 b238:BdW K 238 (S "self") (S "_name") (S "_value") (S "_params")
 b250:Bd1 K 250 (S "cells")
 b255:Bd1 K 255 (S "text")
 b267:Bd2 K 267 (S "carry") (S "mark")
 b272:Bd2 K 272 (S "rows") (S "marked")
 b279:Bd1 K 279 (S "rows")
 b52:Bd2 K 52 (S "a") (S "n")
 b59:Bd2 K 59 (S "digits") (S "n")
 b38:Bd3 K 38 (S "a") (S "b") (S "n")
 b66:Bd2 K 66 (S "a") (S "b")
 b73:Bd2 K 73 (S "a") (S "b")
 b284:Bd1 K 284 (S "script")
 makes:makesIn K 241 = true
 finds:findIn K (.ref 241) "__init__" = some (some (.ref 135))
 typ:typeIn K (.ref 135) = some (.type "function")
 keep:∀ S:Setting,(peek K S (keeperOf (.ref 241))).isSome = true
 q52:(fdO K 52).map (·.qualname) = some (S "_int2digits")
 c52:(fdO K 52).map (·.code) = some (.ref 51)
 q59:(fdO K 59).map (·.qualname) = some (S "_digits2int")
 c59:(fdO K 59).map (·.code) = some (.ref 58)
theorem zcb {C:Cx}:∀ p ∈ ([]:Tab),FnOk C p.1 p.2:=fun _ h=>nomatch h
theorem zab {C:Cx} {a:Addr} {s:Spec} {T:Tab} (h:FnOk C a s) (q:∀ p ∈ T,FnOk C p.1 p.2):∀ p ∈ (a,s) :: T,FnOk C p.1 p.2:=fun p hp=>by
 rcases List.mem_cons.mp hp with rfl | hp
 ·exact h
 ·exact q p hp
noncomputable def T3:Tab:=[(231,setdS),(238,addS),(241,orS mkHS mk0S)] ++ T2
noncomputable def P3:Prm:=law1.prm T3
section
variable {C:Cx} {K:Frag} (O:LawOk C K law1) (hfm:∀ A env,C.fm A env) (Fs:Fns1 K)
include O
theorem lw_f2 {T:Tab} (d:Nat) (Fn:FnsOk (C.at d) (law1.prm T)):Facts2 (C.at d) (law1.prm T) K:=zdf (O.more (fun _ _ e=>e) d) Fn
theorem lw_0 (d:Nat):Facts2 (C.at d) P0 K:=lw_f2 O d zbt
include hfm
theorem zbx (d:Nat):LimAt (C.at d):=⟨hfm,O.W.lim⟩
include Fs
theorem lw_1 (d:Nat):FnsOk (C.at (d + 1)) P1:=zcm (C:=C.at d) zbt T1 <|
 zab (z03 (lw_0 O d) (zbx O hfm d) Fs.k142 Fs.b142) <| zab (zh9 (lw_0 O d) (zbx O hfm d) Fs.k83 Fs.b83) <| zab (ze4 (lw_0 O d) (zbx O hfm d) Fs.k90 Fs.b90) <| zab (zvf (lw_0 O d) (zbx O hfm d) Fs.k97 Fs.b97) zcb
theorem lw_2 (d:Nat):FnsOk (C.at (d + 2)) P2:=zcm (C:=C.at (d + 1)) (lw_1 O hfm Fs d) [(188,getS),(135,orS initS init0S),(205,itemsS),(180,getAllS)] <|
 have F:=lw_f2 O (d + 1) (lw_1 O hfm Fs d)
 have L:=zbx O hfm (d + 1)
 zab (ok_get F L Fs.k188 Fs.b188) <| zab (ok_or (z02 F L Fs.k135 Fs.b135) (zve F L Fs.k135 Fs.b135d)) <| zab (zml F L Fs.k205 Fs.b205) <| zab (zjd F L Fs.k180 Fs.b180) zcb
theorem lw_3 (d:Nat):FnsOk (C.at (d + 3)) P3:=zcm (C:=C.at (d + 2)) (lw_2 O hfm Fs d) [(231,setdS),(238,addS),(241,orS mkHS mk0S)] <|
 have F:=lw_f2 O (d + 2) (lw_2 O hfm Fs d)
 have F1:=lw_f2 O (d + 2) (lw_1 O hfm Fs (d + 1))
 have L:=zbx O hfm (d + 2)
 zab (z00 F L Fs.k231 Fs.b231) <| zab (z04 F1 L Fs.k238 Fs.b238) <| zab (z01 (z1e (O.more (fun _ _ e=>e) (d + 2)).W (lw_2 O hfm Fs d) Fs.makes Fs.finds Fs.typ Fs.keep)) zcb
end
noncomputable abbrev zdo:Scope:=scopeOf F_law_gathered
noncomputable def tgO:ED:=ED.loc (S "table") 1 (pp 256 20 25)
noncomputable def tgE:List IE:=[.call true (S "chr") 1 (pp 256 37 40) [.bin false (.nm (S "symbol") 8 (pp 256 41 47)) .Sub (.gl (S "NT_OFFSET") 34 (pp 256 50 59)) (pp 256 41 59)] (pp 256 37 60),
 .item (.con (.str (S "+-")) 0 (pp 256 62 66)) (.bin false (.bin false (.nm (S "minus") 3 (pp 256 68 73)) .Add (.nm (S "side") 4 (pp 256 76 80)) (pp 256 68 80)) .Mod (.con (.int 2) 0 (pp 256 84 85)) (pp 256 67 85)) (pp 256 62 86)]
noncomputable def tgC:ED:=ED.cmcall P3 tgO (S "add_header") 238 (pp 256 20 36) (IE.sems P3 tgE) [] [] (pp 256 20 87)
noncomputable def tgT:Stmt:=.Try [.Expr tgC.ast (pp 256 20 87)] [.ExceptHandler (some (.Name ("ValueError" : Str) (pp 257 23 33))) (some ("fault" : Str)) [.Expr (.Call (.Attribute (.Name ("words" : Str) (pp 258 20 25)) ("append" : Str) (pp 258 20 32)) [.Call (.Name ("str" : Str) (pp 258 33 36)) [.Name ("fault" : Str) (pp 258 37 42)] [] (pp 258 33 43)] [] (pp 258 20 44)) (pp 258 20 44)] ⟨257,16,258,44⟩] [] [] ⟨255,16,258,44⟩
structure FmG (C:Cx) (A:Around) (env:Env):Prop where
 f:∃ outer,A.frames = some (env :: outer) /\ ∀ e ∈ outer,e.scope.kind = .function /\ ∃ L,e.frame = some L /\ C.fl L
 fr:env.frame = some env.locals
structure BadD (sl:Slots) (cs:List Cell) (K:KF):Prop where
 h:∃ (c:Nat) (v:Str) (l k:Nat) (hs:Hs) (lw:Nat) (ws:List V),(tgO.val sl cs fun ov cs1=>ov = .ref l /\ cs1 = cs /\ vals (IE.sems P3 tgE) sl cs1 fun vs cs2=>vs = [.str ⟨#[c]⟩,.str v] /\ cs2 = cs) /\ nameBad c = true /\ valOk v /\ Tb cs l k hs /\
  (sl[2]?).join = some (.ref lw) /\ (sl[9]?).join = none /\ cs[lw]? = some (.list ws) /\ ws.length < lim /\ K .next sl (cs.set lw (.list (ws ++ [.str msgC])))
noncomputable def gK (sc:Scope) (x:Str):Bool:=match sc.names.lookup x with | some .globalImplicit=>true | _=>false
noncomputable def lK (sc:Scope) (x:Str):Bool:=match sc.names.lookup x with | some .local=>true | _=>false
theorem gK_at {sc:Scope} {x:Str} (h:gK sc x = true):sc.names.lookup x = some .globalImplicit:=by
 unfold gK at h; split at h
 ·assumption
 ·cases h
theorem lK_at {sc:Scope} {x:Str} (h:lK sc x = true):sc.names.lookup x = some .local:=by
 unfold lK at h; split at h
 ·assumption
 ·cases h
noncomputable def tryG:SD:=⟨tgT,fun sc ns=>tgC.wf sc ns && ((gK sc "ValueError" && gK sc "str") && ((lK sc "words" && lK sc "fault") && (ns.idxOf ("words" : Str) == 2 && ns.idxOf ("fault" : Str) == 9))),
 fun sl cs K=>tgC.val sl cs (fun _ cs=>K .next sl cs) \/ BadD sl cs K⟩
theorem two_b {a b:Bool} (h:(a && b) = true):a = true /\ b = true:=(Bool.and_eq_true _ _).mp h
section
variable {C:Cx} {K:Frag} (O:LawOk C K law1) (F2:Facts2 C P3 K) (hd:2 <= C.d) (hfm:∀ A env,C.fm A env -> FmG C A env) (Fs:Fns1 K) (Pa:PatAt C.base 107 nameCode)
include O F2 hd hfm Fs Pa
theorem zug:SGood C tryG:=fun Φ ns fm w sl σ KK S q=>by
 obtain ⟨w1,w2⟩:=two_b w
 obtain ⟨w3,w4⟩:=two_b w2
 obtain ⟨w5,w6⟩:=two_b w4
 obtain ⟨⟨outer,hA,ho⟩,fr⟩:=hfm _ _ fm
 have Oc:EOk C Φ ns tgC:=zf6 F2.F _ _ _ _ _ (zaw _ _ _) (IE.all_good F2.F tgE) all_nil Φ ns w1
 have hi:interactive Φ.env = false:=by unfold interactive; rw [S.F.kind]; rfl
 rcases q with q | q
 ·intro Q E k
  exact wpAny_Try_except (wpAny_execs_cons (wpAny_Expr_any (Oc.val sl σ _ S q _ _ fun v a σ1 X1 r1 q1=>wpAny_execs_nil (wpAny_execs_nil (k .next sl .next σ1 (toOwn X1) .next (S.ext X1) q1))) hi rfl))
 ·obtain ⟨c,v,l,k,hs,lw,ws,hv,hb,vv,tb,s2,s9,hw,hl,q⟩:=q.h
  have e2:ns.idxOf ("words" : Str) = 2:=eq_of_beq (two_b w6).1
  have e9:ns.idxOf ("fault" : Str) = 9:=eq_of_beq (two_b w6).2
  refine zpg O.W (O.globs _ (List.mem_of_getElem? (i:=16) rfl)) (O.globs _ (List.mem_of_getElem? (i:=9) rfl)) S hA fr rfl rfl rfl ⟨gK_at (two_b w3).1,gK_at (two_b w3).2,lK_at (two_b w5).1,lK_at (two_b w5).2,by decide +kernel,by decide +kernel⟩ (fun Q E kq=>?_) (by unfold look; rw [e2]; exact s2) (by unfold look; rw [e9]; exact s9) hw hl (by decide +kernel) q
  have w1':(ED.cmcall P3 tgO (Mine.S "add_header") 238 (pp 256 20 36) (IE.sems P3 tgE) [] [] (pp 256 20 87)).wf Φ.env.scope ns = true:=w1
  obtain ⟨wb1,wb⟩:=(Bool.and_eq_true _ _).mp w1'
  have wb2:=((Bool.and_eq_true _ _).mp wb).1
  have OE:=(IE.all_good F2.F tgE).ok wb2
  refine zb8 (C:=C) (o:=tgO) (es:=(IE.sems P3 tgE).map ED.ast) (kv:=[]) (kn:=[]) (n:=2) (H:=fun ov cs1=>ov = .ref l /\ cs1 = σ.g.cs /\ vals (IE.sems P3 tgE) sl cs1 fun vs cs2=>vs = [.str ⟨#[c]⟩,.str v] /\ cs2 = σ.g.cs) (zaw _ _ _ Φ _ wb1) rfl (zau _ OE).1 rfl rfl S hv fun ov ov' σ1 X1 S1 r1 h1=>?_
  obtain ⟨rfl,c1,q1⟩:=h1
  have t1:Tb σ1.g.cs l k hs:=by rw [c1]; exact tb
  refine ⟨.ref 238,F2.F.cmeth S1.O rfl t1.cls S1.H S1.B r1,fun tk=>?_⟩
  have Xt:Ext σ1 (σ1.up σ1.s.heap tk σ1.g) noOwn:=Ext.tok X1.H
  refine zcu (σ:=σ1.up σ1.s.heap tk σ1.g) (kv:=[]) _ [] rfl OE (fun _ z=>nomatch z) (S1.ext Xt) (T:=fun vs us cs=>vs = [.str ⟨#[c]⟩,.str v] /\ cs = σ.g.cs) q1 fun vs us a σ7 X7 ra q7=>?_
  obtain ⟨rfl,c7⟩:=q7
  obtain ⟨x',v',hp,rx,rv⟩:=ra.pos.two
  obtain ⟨tt,rfl,_⟩:=rx.inv
  have S7:=(S1.ext Xt).ext X7
  obtain ⟨fd,hf⟩:=Option.isSome_iff_exists.mp Fs.k238.i
  obtain ⟨o,h1,h2⟩:=zm3 hf
  refine ⟨zc3 (C:=C) (S7.H.fz _ _ (S7.B.hf _ _ (F2.W.sub _ _ h1))) h2,?_⟩
  rw [show a.kw = [] from ra.kw.nil_of,hp]
  have X17:=X1.trans (Xt.trans X7)
  have O':LawOk { C with fl:=plus C.fl Φ.env.locals,d:=0,fm:=fun _ _=>True } K law1:=O.other _ _
  have hfm':∀ A env,(fun _ _=>True:Around -> Env -> Prop) A env:=fun _ _=>trivial
  have B':Base { C with fl:=plus C.fl Φ.env.locals,d:=0,fm:=fun _ _=>True } (σ7.wfl (plus σ7.g.fl Φ.env.locals)).g:=⟨S7.B.pr,S7.B.hf,fun a z=>z.elim .inl fun y=>.inr (S7.B.fl a y)⟩
  have Fr':Frs (σ7.wfl (plus σ7.g.fl Φ.env.locals)).g (Φ.env :: outer):=fun env he=>by
   rcases List.mem_cons.mp he with rfl | he
   ·exact ⟨S7.F.kind,_,fr,.inl rfl⟩
   ·obtain ⟨h1,L,h2,h3⟩:=ho env he
    exact ⟨h1,L,h2,.inr (S7.B.fl _ h3)⟩
  have t7:Tb (σ7.wfl (plus σ7.g.fl Φ.env.locals)).g.cs l k hs:=by show Tb σ7.g.cs l k hs; rw [c7]; exact tb
  exact (zo3 O' (lw_f2 O' 1 (lw_1 O' hfm' Fs 0)) (zbx O' hfm' 1) Fs.k142 Fs.b142 ⟨Pa.at_⟩ Fs.k238 Fs.b238 (S7.O.less hd) (zfb S7.H S7.F) B' hA Fr' ((r1.mono (Xt.trans X7).le).wfl _) (rv.wfl _) t7 vv hb).runs fun e σ' Fl hx=>kq e σ7 σ' X17 S7 c7 Fl (by obtain ⟨xs,hx⟩:=hx; exact ⟨xs,hx.trans (by show σ7.g.cs ++ xs = _; rw [c7])⟩)
end
noncomputable def tokN (s:List Nat):Option Nat:=List.rec none (fun p _ ih=>if S p.1 = mkS s then some p.2 else ih) exactL
theorem tok_at (x:Str) (l:List (String × Nat)):dctGet x (l.map fun p=>S p.1) (l.map fun p=>.int (p.2:Nat)) = (List.rec (motive:=fun _=>Option Nat) none (fun p _ ih=>if S p.1 = x then some p.2 else ih) l).map fun n=>V.int (n:Nat):=by
 induction l with
 | nil=>rfl
 | cons p l ih =>
  show (if S p.1 = x then _ else dctGet x _ _) = Option.map _ (if S p.1 = x then _ else _)
  rw [ih]
  split <;> rfl
theorem zx5 (s:List Nat):dctGet (mkS s) exactK exactV = (tokN s).map fun n=>V.int (n:Nat):=tok_at (mkS s) exactL
noncomputable def sz (r:List Nat):Nat:=if (tokN (r.take 3)).isSome then 3 else if (tokN (r.take 2)).isSome then 2 else 1
noncomputable def symN (r:List Nat):Nat:=(tokN (r.take (sz r))).getD (256 + r.headD 0)
theorem sz_pos (r:List Nat):1 <= sz r:=by unfold sz; split <;> (try split) <;> decide
structure GS where
 minus:Nat
 side:Nat
 kind:Nat
 hs:Hs
 n:Nat
noncomputable def sgT (b:Nat):Str:=mkS [if b % 2 = 0 then 43 else 45]
noncomputable def gname (c:Nat) (s:GS):GS:=if nameBad c = true then { s with n:=s.n + 1 } else { s with hs:=s.hs ++ [(mkS [c],sgT (s.minus + s.side))] }
noncomputable def gstep (m:Nat) (s:GS):GS:=if 256 <= m then gname (m - 256) s else if m = 14 \/ m = 15 then { s with minus:=m - 14 } else { s with kind:=m,side:=1 }
inductive Gd:List Nat -> GS -> GS -> Prop
 | nil (s):Gd [] s s
 | cons {c r s s'} (h:Gd ((c :: r).drop (sz (c :: r))) (gstep (symN (c :: r)) s) s'):Gd (c :: r) s s'
noncomputable def szL (b2 b3:Bool):List V:=Bool.rec [] [.int 2] b2 ++ Bool.rec [] [.int 3] b3
section
variable {cs:List Cell} {X r:List Nat} {j ch:Nat}
theorem zmb (h:X.drop j = ch :: r) (n:Nat):Txt.slice (mkS X) (some (j:Int)) (some ((j:Int) + (n:Int))) = mkS ((ch :: r).take n) :=
 h ▸ zp0 X j n (Nat.sub_pos_iff_lt.mp (by rw [<- List.length_drop,h]; exact Nat.succ_pos _))
theorem zuj {s:List Nat}:(dctGet (mkS s) exactK exactV).isSome = (tokN s).isSome:=by rw [zx5,Option.isSome_map]
theorem zp4 {K:List V -> List Cell -> Prop} {sl:Slots} (h:X.drop j = ch :: r) (q:K (szL (tokN ((ch :: r).take 2)).isSome (tokN ((ch :: r).take 3)).isSome) cs) (h2:(sl[0]?).join = some (.str (mkS X))) (h9:(sl[7]?).join = some (.int j)) :
  CompR za1 (boolT .And (IE.sems P3 za4)) (emitL (za5.sem P3).val) (none :: none :: sl) K [] (.items [.int 2,.int 3]) cs:=by
 have two:∀ {acc:List V} {z:Nat} {b0:Bool} {ys:List V} {o:Option V},(tokN ((ch :: r).take z)).isSome = b0 -> acc.length <= 2 -> (∀ o,CompR za1 (boolT .And (IE.sems P3 za4)) (emitL (za5.sem P3).val) (none :: o :: sl) K (acc ++ Bool.rec [] [.int z] b0) (.items ys) cs) ->
   CompR za1 (boolT .And (IE.sems P3 za4)) (emitL (za5.sem P3).val) (none :: o :: sl) K acc (.items (.int z :: ys)) cs:=by
  intro acc z b0 ys o e hl q
  refine .go (.items _ _) rfl ?_
  show atS (none :: some (.int z) :: sl) 2 _
  show Option.rec False _ ((sl[0]?).join)
  rw [h2]
  show Option.rec False _ ((sl[7]?).join)
  rw [h9]
  show Option.rec False _ ((sl[7]?).join)
  rw [h9]
  refine .addI ⟨_,_,_,.int _,.int _,.none,.str' (zmb h z) (.inD' (zuj.trans e) ?_)⟩
  cases b0 with
  | false=>rw [<- List.append_nil acc]; exact q _
  | true=>exact ⟨Nat.lt_of_le_of_lt hl (by decide),q _⟩
 exact two (z:=2) rfl (Nat.zero_le _) fun _=>two (z:=3) rfl (by cases (tokN ((ch :: r).take 2)).isSome <;> decide) fun _=>.done .items q
theorem zvw {P:Prm} {K:KV} (r:List Nat) (q:K (.int (sz r:Nat)) cs):BinR false cs (fun v cs=>CallR P cs K (.bi "max") [v] []) .Add (.lst [.int 1]) (.lst (szL (tokN (r.take 2)).isSome (tokN (r.take 3)).isSome)):=by
 unfold sz at q
 cases h3:(tokN (r.take 3)).isSome <;> cases h2:(tokN (r.take 2)).isSome <;> rw [h3] at q <;> (try rw [h2] at q)
 ·exact .addL (.lst _) (.lst _) ⟨by decide,.max (a:=1) (r:=[]) (.lst _) q⟩
 ·exact .addL (.lst _) (.lst _) ⟨by decide,.max (a:=1) (r:=[2]) (.lst _) q⟩
 ·exact .addL (.lst _) (.lst _) ⟨by decide,.max (a:=1) (r:=[3]) (.lst _) q⟩
 ·exact .addL (.lst _) (.lst _) ⟨by decide,.max (a:=1) (r:=[2,3]) (.lst _) q⟩
theorem get_at (h:X.drop j = ch :: r):idxV (mkS X).cps.toList (j:Int) = some ch:=by
 rw [zq9]
 have:(X.drop j)[0]? = some ch:=by rw [h]; rfl
 rw [List.getElem?_drop] at this
 unfold idxV
 rw [if_pos (Int.natCast_nonneg _)]
 exact this
end
noncomputable def gN:IE:=.cmp (.call true (S "ISNONTERMINAL") 26 (pp 254 15 28) [(.nm (S "symbol") 8 (pp 254 29 35))] (pp 254 15 36)) .Is (.con (.bool true) 0 (pp 254 40 44)) (pp 254 15 44)
noncomputable def gP:IE:=.cmp (.nm (S "place") 7 (pp 251 11 16)) .GtE (.nm (S "behind") 6 (pp 251 20 26)) (pp 251 11 26)
noncomputable def gR:IE:=.call true (S "range") 5 (pp 250 17 22) [(.call true (S "len") 0 (pp 250 23 26) [(.nm (S "text") 0 (pp 250 27 31))] (pp 250 23 32))] (pp 250 17 33)
noncomputable def gI:SD:=.ite (gN.sem P3) [tryG] (IS.sems P3 zcx) ⟨254,12,262,40⟩
noncomputable def gB:SD:=.ite (gP.sem P3) (IS.sems P3 (ze5.take 2) ++ [gI]) [] ⟨251,8,262,40⟩
noncomputable def gF:SD:=.for_ zcz (gR.sem P3) [gB] ⟨250,4,262,40⟩
noncomputable def gAll:List SD:=IS.sems P3 [zfr,zfo] ++ [gF] ++ IS.sems P3 [zcv]
theorem z4b:gAll.map SD.ast = bodyOf F_law_gathered:=by kernel_rfl
theorem z3l:bwf gAll zdo (ownNs zdo ++ []) = true:=by kernel_rfl
theorem f3_add:P3.fn 238 = addS:=rfl
theorem f3_nt:P3.fn 90 = tokS fun i=>decide (256 <= i):=rfl
theorem MethR.get' {P:Prm} {cs:List Cell} {K:KV} {ks:List Str} {vs:List V} {x:Str} {d v:V} (e:(dctGet x ks vs).getD d = v) (k:K v cs):MethR P cs K .get (.dct ks vs) [.str x,d]:=.get (by rw [e]; exact k)
theorem sym_at (ch:Nat) (r:List Nat):(dctGet (mkS ((ch :: r).take (sz (ch :: r)))) exactK exactV).getD (.int (256 + (ch:Nat))) = .int (symN (ch :: r):Nat):=by
 rw [zx5]
 unfold symN
 cases tokN ((ch :: r).take (sz (ch :: r))) <;> rfl
noncomputable abbrev gsl (X:List Nat) (lt lw:Nat) (s:GS) (b:Nat) (o sy:Option V):Slots:=[some (.str (mkS X)),some (.ref lt),some (.ref lw),some (.int (s.minus:Nat)),some (.int (s.side:Nat)),some (.int (s.kind:Nat)),some (.int (b:Nat)),o,sy,none]
noncomputable def wordsV (n:Nat):List V:=List.replicate n (.str msgC)
noncomputable def gcs (cs:List Cell) (s:GS):List Cell:=cs ++ [.attr (some (.ref (cs.length + 2))),.inst 241 cs.length,.list (pairsV s.hs),.list (wordsV s.n)]
noncomputable def GL (K:KF) (j m:Nat) (sl:Slots) (cs:List Cell):Prop:=ForR zcz (bden [gB]) K (.items (upTo j m)) sl cs
theorem zan {α:Type} (cs xs:List α) (i:Nat):(cs ++ xs)[cs.length + i]? = xs[i]?:=by rw [List.getElem?_append_right (Nat.le_add_right _ _),Nat.add_sub_cancel_left]
theorem zbh {α:Type} (cs xs:List α) (i:Nat) (a:α):(cs ++ xs).set (cs.length + i) a = cs ++ xs.set i a:=by rw [List.set_append_right _ _ (Nat.le_add_right _ _),Nat.add_sub_cancel_left]
theorem zyp (cs:List Cell) (s:GS):Tb (gcs cs s) (cs.length + 1) (cs.length + 2) s.hs:=⟨⟨cs.length,zan cs _ 1,zan cs _ 0⟩,zan cs _ 2⟩
theorem gcs_w (cs:List Cell) (s:GS):(gcs cs s)[cs.length + 3]? = some (.list (wordsV s.n)):=zan cs _ 3
section
variable {K:KF} {X r:List Nat} {j m ch:Nat} {o sy:Option V} {cs:List Cell} {s:GS}
theorem sg_at (b:Nat):idxV (S "+-").cps.toList ((b:Int).fmod 2) = some (if b % 2 = 0 then 43 else 45):=by
 have e:(S "+-").cps.toList = [43,45]:=by rw [S,zaz]; rfl
 rw [e]
 have h:((b:Int).fmod 2) = ((b % 2:Nat):Int):=by rw [Int.fmod_eq_emod_of_nonneg _ (by decide)]; rfl
 rw [h]
 rcases Nat.mod_two_eq_zero_or_one b with h | h <;> rw [h] <;> rfl
theorem zpj {T:List V -> List Cell -> Prop} {c:Nat} {lt lw b:Nat} (hc:c < 0x110000) (q:T [.str (mkS [c]),.str (sgT (s.minus + s.side))] cs):vals (IE.sems P3 tgE) (gsl X lt lw s b o (some (.int ((256 + c:Nat):Int)))) cs T:=by
 refine .subI' (z:=(c:Nat)) (by rw [Int.natCast_add]; show (256:Int) + c - 256 = c; lia) (.chr ⟨Int.natCast_nonneg _,by exact Int.ofNat_lt.mpr ‹_›⟩ ?_)
 refine .addI' (z:=((s.minus + s.side:Nat):Int)) (Int.natCast_add _ _).symm (.modI (by decide) ⟨_,.str (sg_at _),?_⟩)
 exact q
theorem sg_ok (b:Nat):valOk (sgT b):=by
 unfold valOk sgT
 rw [zq9]
 split <;> decide +kernel
theorem zr0 {c b:Nat} (hc:c < 0x110000) (hl:s.hs.length < lim) (hn:s.n < lim) (q:K .next (gsl X (cs.length + 1) (cs.length + 3) (gname c s) b o (some (.int ((256 + c:Nat):Int)))) (gcs cs (gname c s))) :
  tryG.den (gsl X (cs.length + 1) (cs.length + 3) s b o (some (.int ((256 + c:Nat):Int)))) (gcs cs s) K:=by
 have tb:=zyp cs s
 unfold gname at q
 by_cases hb:nameBad c = true
 ·rw [if_pos hb] at q
  refine .inr ⟨⟨c,_,_,_,_,cs.length + 3,wordsV s.n,⟨rfl,rfl,zpj hc ⟨rfl,rfl⟩⟩,hb,sg_ok _,tb,rfl,rfl,gcs_w cs s,by rw [wordsV,List.length_replicate]; exact hn,?_⟩⟩
  rw [gcs,zbh]
  have e:wordsV s.n ++ [.str msgC] = wordsV (s.n + 1):=List.replicate_succ'.symm
  rw [e]; exact q
 ·rw [if_neg hb] at q
  refine .inl ⟨tb.cls,zpj hc (zac f3_add ⟨cs.length + 1,mkS [c],sgT (s.minus + s.side),cs.length + 2,s.hs⟩ ⟨⟨tb,?_,sg_ok _,hl⟩,?_⟩)⟩
  ·show (nameBad c || false) = false
   rw [eq_false_of_ne_true hb]; rfl
  ·show K .next _ ((gcs cs s).set (cs.length + 2) _)
   rw [gcs,zbh]; exact q
theorem zq0 {K:KV} {x:Int} {b:Bool} (e:decide (256 <= x) = b) (k:K (.bool b) cs):CallR P3 cs K (.adr 90) [.int x] []:=zac f3_nt x (by show K (.bool (decide (256 <= x))) cs; rw [e]; exact k)
theorem zry {b y:Nat} (hc:y < 256 + 0x110000) (hl:s.hs.length < lim) (hn:s.n < lim) (q:K .next (gsl X (cs.length + 1) (cs.length + 3) (gstep y s) b o (some (.int (y:Nat)))) (gcs cs (gstep y s))) :
  gI.den (gsl X (cs.length + 1) (cs.length + 3) s b o (some (.int (y:Nat)))) (gcs cs s) K:=by
 unfold gstep at q
 by_cases h:256 <= y
 ·rw [if_pos h] at q
  refine zq0 (b:=true) (decide_eq_true (Int.ofNat_lt.mpr ‹_›)) (.is (.bool _ _) ?_)
  obtain ⟨c,rfl⟩:=Nat.exists_eq_add_of_le h
  rw [Nat.add_sub_cancel_left] at q
  exact zr0 (by lia) hl hn q
 ·rw [if_neg h] at q
  refine zq0 (b:=false) (decide_eq_false fun z=>h (Int.ofNat_le.mp z)) (.is (.bool _ _) ?_)
  by_cases h2:y = 14 \/ y = 15
  ·rw [if_pos h2] at q
   exact ⟨by decide,.inI (l:=[14,15]) (.tup _) (decide_eq_true (by rcases h2 with rfl | rfl <;> decide)) (.subI' (z:=((y - 14:Nat):Int)) (by lia) q)⟩
  ·rw [if_neg h2] at q
   exact ⟨by decide,.inI (l:=[14,15]) (.tup _) (decide_eq_false fun z=>h2 ((List.mem_cons.mp z).imp Int.ofNat.inj fun z=>Int.ofNat.inj (List.mem_singleton.mp z))) q⟩
end
theorem tok_lt {s:List Nat} {n:Nat} (h:tokN s = some n):n < 256:=by
 have all:exactL.all (fun p=>Nat.blt p.2 256) = true:=by decide +kernel
 unfold tokN at h
 generalize exactL = l at h all
 induction l with
 | nil=>cases h
 | cons p l ih =>
  have h':(if S p.1 = mkS s then some p.2 else _) = some n:=h
  have a:=(Bool.and_eq_true _ _).mp all
  split at h'
  ·cases h'; exact Nat.blt_eq.mp a.1
  ·exact ih h' a.2
theorem zzw {ch:Nat} {r:List Nat} (h:ch < 0x110000):symN (ch :: r) < 256 + 0x110000:=by
 unfold symN
 cases e:tokN ((ch :: r).take (sz (ch :: r))) with
 | none=>show 256 + ch < _; lia
 | some n=>have:=tok_lt e; show n < _; exact Nat.le_trans ‹_› (by decide)
theorem lens (m:Nat) (s:GS):(gstep m s).hs.length + (gstep m s).n <= s.hs.length + s.n + 1:=by
 unfold gstep gname
 split
 ·split
  ·show s.hs.length + (s.n + 1) <= _; exact Nat.lt_succ_self _
  ·show (s.hs ++ _).length + s.n <= _; rw [List.length_append,List.length_singleton]; lia
 ·split <;> exact Nat.le_succ _
theorem zp1 {X r:List Nat} {j ch:Nat} (h:X.drop j = ch :: r) (n:Nat):Txt.slice (mkS X) (some (j:Int)) (some ((j + n:Nat):Int)) = mkS ((ch :: r).take n):=by
 exact zmb h n
section
variable {K:KF} {X r:List Nat} {j m ch:Nat} {o sy:Option V} {cs:List Cell} {s:GS}
theorem zws (h:X.drop j = ch :: r) (hc:ch < 0x110000) (hl:s.hs.length < lim) (hn:s.n < lim) (q:GL K (j + 1) m (gsl X (cs.length + 1) (cs.length + 3) (gstep (symN (ch :: r)) s) (j + sz (ch :: r)) (some (.int (j:Nat))) (some (.int (symN (ch :: r):Nat)))) (gcs cs (gstep (symN (ch :: r)) s))) :
  GL K j (m + 1) (gsl X (cs.length + 1) (cs.length + 3) s j o sy) (gcs cs s) :=
 .go (.items _ _) rfl (.geT (Int.le_refl _) ⟨by decide,by decide,_,.tup _,zp4 h ⟨by cases (tokN ((ch :: r).take 2)).isSome <;> cases (tokN ((ch :: r).take 3)).isSome <;> decide,
  zvw (ch :: r) (.addI' (Int.natCast_add _ _).symm ⟨.get _ _,_,_,_,.int _,.int _,.none,.str' (zp1 h (sz (ch :: r))) ⟨_,.str (get_at h),.ord (.addI (.get' (sym_at ch r) (zry (zzw hc) hl hn q)))⟩⟩)⟩ rfl rfl⟩)
theorem zwt {b:Nat} (hb:j < b) (q:GL K (j + 1) m (gsl X (cs.length + 1) (cs.length + 3) s b (some (.int (j:Nat))) sy) (gcs cs s)):GL K j (m + 1) (gsl X (cs.length + 1) (cs.length + 3) s b o sy) (gcs cs s) :=
 .go (.items _ _) rfl (.geF (Int.not_le.mpr (Int.ofNat_lt.mpr hb)) q)
theorem z19 {S':GS} (hX:X.length <= 1000) (hc:∀ c ∈ X,c < 0x110000) (q:∀ b o sy,K .next (gsl X (cs.length + 1) (cs.length + 3) S' b o sy) (gcs cs S')) (m:Nat):∀ (j b:Nat) (s:GS) (o sy:Option V),j + m = X.length -> j <= b -> s.hs.length + s.n <= j -> Gd (X.drop b) s S' ->
  GL K j m (gsl X (cs.length + 1) (cs.length + 3) s b o sy) (gcs cs s):=by
 induction m with
 | zero =>
  intro j b s o sy hj hb hU hW
  rw [List.drop_of_length_le (Nat.le_trans (Nat.le_of_eq hj.symm) hb)] at hW
  cases hW
  exact .done .items (q _ _ _)
 | succ m ih =>
  intro j b s o sy hj hb hU hW
  have hlt:j < X.length:=by rw [<- hj]; exact Nat.lt_add_of_pos_right (Nat.succ_pos _)
  have hj':j + 1 + m = X.length:=by rw [<- hj,Nat.add_assoc,Nat.add_comm 1]
  rcases Nat.lt_or_eq_of_le hb with h | h
  ·exact zwt h (ih (j + 1) b s _ _ hj' h (Nat.le_succ_of_le hU) hW)
  ·subst h
   have hd:X.drop j = X[j] :: X.drop (j + 1):=List.drop_eq_getElem_cons hlt
   have hm:s.hs.length + s.n < lim:=Nat.lt_of_le_of_lt hU (Nat.lt_trans hlt (Nat.lt_of_le_of_lt hX (by decide)))
   rw [hd] at hW
   cases hW with
   | cons hW =>
    refine zws hd (hc _ (List.getElem_mem _)) (zc9 ‹_›) (by lia) (ih (j + 1) _ _ _ _ hj' (Nat.add_le_add_left (sz_pos _) j) (Nat.le_trans (lens _ _) (Nat.succ_le_succ hU)) ?_)
    rw [<- List.drop_drop,hd]
    exact hW
end
noncomputable def gs0:GS:=⟨0,0,0,[],0⟩
structure GaA where
 X:List Nat
 S':GS
structure GaOk (a:GaA):Prop where
 hX:a.X.length <= 1000
 hc:∀ c ∈ a.X,c < 0x110000
 g:Gd a.X gs0 a.S'
theorem zww {a:GaA} {cs:List Cell} {K:KV} (h:GaOk a) (q:K (.tup [.ref (cs.length + 1),.int (a.S'.kind:Nat),.ref (cs.length + 3)]) (gcs cs a.S')):bden gAll [some (.str (mkS a.X)),none,none,none,none,none,none,none,none,none] cs fun fl _ cs=>K (retOf fl) cs:=by
 refine CallR.fn (show orS mkHS mk0S [] [] cs _ from .inr ⟨(),rfl,rfl,?_⟩)
 have H:bden ([gF] ++ IS.sems P3 [zcv]) (gsl a.X (cs.length + 1) (cs ++ [Cell.attr (some (.ref (cs.length + 2))),.inst 241 cs.length,.list []]).length gs0 0 none none) (cs ++ [Cell.attr (some (.ref (cs.length + 2))),.inst 241 cs.length,.list []] ++ [Cell.list []]) fun fl _ cs=>K (retOf fl) cs:=by
  rw [show (cs ++ [Cell.attr (some (.ref (cs.length + 2))),.inst 241 cs.length,.list []]).length = cs.length + 3 from List.length_append,List.append_assoc]
  exact .lenS (.rng1 ⟨_,zqo (Nat.le_trans h.hX (by decide)),z19 h.hX h.hc (fun b o sy=>⟨(by decide:3 <= lim),q⟩) a.X.length 0 0 gs0 none none (Nat.zero_add _) (Nat.le_refl _) (Nat.le_refl _) h.g⟩)
 exact ⟨Nat.zero_le _,H⟩
noncomputable abbrev Cx.gath (C:Cx) (f:Addr -> Prop) (d:Nat):Cx:={ C with fl:=f,d:=d,fm:=FmG { C with fl:=f } }
theorem LawOk.gath {C:Cx} {K:Frag} {l:Law} (O:LawOk C K l) (f:Addr -> Prop) (d:Nat):LawOk (C.gath f d) K l :=
 ⟨⟨⟨O.W.inK.sub⟩,O.W.blt,O.W.glo,O.W.lim,O.W.lo,O.W.bmain⟩,O.globs,O.cf,fun a bad h=>by
  obtain ⟨code,⟨q⟩,s⟩:=O.pats a bad h
  exact ⟨code,⟨q⟩,s⟩⟩
theorem FnsOk.frames {C:Cx} {P:Prm} (h:∀ f,FnsOk { C with fl:=f,fm:=fun _ _=>True } P) (f:Addr -> Prop) (fm:Around -> Env -> Prop):FnsOk { C with fl:=f,fm:=fm } P:=fun a {A σ args kws args' kws' K} O H B ra rk q=>by
 obtain ⟨k,r⟩:=h f a (A:=A) (σ:=σ) O H ⟨B.pr,B.hf,B.fl⟩ ra rk q
 exact ⟨fun E Q x=>k E Q x,fun R x=>r R x⟩
theorem zz2 (x:V):bindP [(S "text",0)] [x] (List.replicate (ownNs zdo).length none ++ []) = [some x,none,none,none,none,none,none,none,none,none]:=by kernel_rfl
theorem z3n:[(S "text",0)].all (fun p=>tgt1 zdo (ownNs zdo ++ []) p.1 p.2) = true:=by kernel_rfl
theorem z37:nfree zdo = true:=by kernel_rfl
theorem zr6 {C:Cx} {K:Frag} (O:LawOk C K law1) (Fs:Fns1 K) (Pa:PatAt C.base 107 nameCode) {f:Addr -> Prop} {A:Around} {σ:St} {a:GaA} {x':Value} {outer:List Env} {KK:KV} (Oa:AOk A 5) (H:HRel σ.g σ.s.heap) (B:Base { C with fl:=f } σ.g) (hA:A.frames = some outer)
  (ho:∀ e ∈ outer,e.scope.kind = .function /\ ∃ L,e.frame = some L /\ f L) (rx:VRel σ.g (.str (mkS a.X)) x') (h:GaOk a) (q:KK (.tup [.ref (σ.g.cs.length + 1),.int (a.S'.kind:Nat),.ref (σ.g.cs.length + 3)]) (gcs σ.g.cs a.S')):CRuns (C.gath f 4) A σ (.ref 255) [x'] [] KK:=by
 have O':=O.gath f 4
 have Fn:FnsOk (C.gath f 4) P3:=FnsOk.frames (C:={ C with d:=4 }) (fun f=>lw_3 (C:={ C with fl:=f,fm:=fun _ _=>True }) (O.other f C.d) (fun _ _=>trivial) Fs 1) f _
 have F2:Facts2 (C.gath f 4) P3 K:=zdf O' Fn
 obtain ⟨fd,hf⟩:=Option.isSome_iff_exists.mp Fs.k255.i
 have Fa:FnAt0 (C.gath f 4) 255 zdo (bodyOf F_law_gathered) fd:=zen F2.W Fs.k255 hf rfl rfl rfl
 refine zbl (ns:=[]) (sl:=[]) (ps:=[(S "text",0)]) (vs:=[.str (mkS a.X)]) O'.W.lim Fa Oa H ⟨B.pr,B.hf,B.fl⟩ rfl (fun M A E Q h=>by rw [zai hf (Fs.b255 x')]; exact wpAny_pure h) (.cons ⟨rfl,rx⟩ .nil) (by rw [zai hf Fs.k255.k]; exact .nil (zd2 z37)) z3n fun Φ σ3 hsc I S3=>?_
 rw [zz2] at S3
 rw [<- z4b]
 have fm:(C.gath f 4).fm Φ.A Φ.env:=⟨⟨outer,by rw [I.hA]; show A.frames.map (Φ.env :: ·) = _; rw [hA]; rfl,ho⟩,I.fr⟩
 have G:SAll (C.gath f 4) gAll:=by
  have hT:SGood (C.gath f 4) tryG:=zug O' F2 (show 2 <= 4 by decide) (fun A env h=>⟨h.f,h.fr⟩) Fs ⟨Pa.at_⟩
  have hI:SGood (C.gath f 4) gI:=zid _ (gN.good F2.F) (fun d hd=>by cases List.mem_singleton.mp hd; exact hT) (IS.all_good F2 _)
  have hB:SGood (C.gath f 4) gB:=zid _ (gP.good F2.F) (fun d hd=>by
   rcases List.mem_append.mp hd with hd | hd
   ·exact IS.all_good F2 _ d hd
   ·cases List.mem_singleton.mp hd; exact hI) (fun d hd=>nomatch hd)
  have hF:SGood (C.gath f 4) gF:=zm1 _ _ (gR.good F2.F) (fun d hd=>by cases List.mem_singleton.mp hd; exact hB)
  intro d hd
  rcases List.mem_append.mp hd with hd | hd
  ·rcases List.mem_append.mp hd with hd | hd
   ·exact IS.all_good F2 _ d hd
   ·cases List.mem_singleton.mp hd; exact hF
  ·exact IS.all_good F2 _ d hd
 exact zby gAll (G.ok fm (by rw [hsc]; exact z3l)) _ σ3 _ S3 (zww h (I.cs ▸ q))
end Mine
end
section
namespace Mine
namespace L1
noncomputable abbrev P:=Int × Nat
noncomputable def stp (t:Int) (m:Nat):P:=(t / 2,max m (t % 2).toNat)
noncomputable def sem (V:Int) (n:Nat):P:=(V / 2 ^ n,if V % 2 ^ n = 0 then 0 else 1)
noncomputable def sgn (v:Int):Int:=if v < 0 then -1 else if v = 0 then 0 else 1
noncomputable def sgP (p:P):Int:=if p.1 < 0 then -1 else if p.1 = 0 then (p.2:Int) else 1
theorem zds {a b:Int} {m n:Nat} (ha:a.natAbs <= m) (hb:b.natAbs <= n):(a + b).natAbs <= m + n:=Nat.le_trans (Int.natAbs_add_le a b) (Nat.add_le_add ha hb)
theorem zl2 {P:Int -> Prop} (k:Nat) (d:∀ n:Fin (k + 1),P (n.val:Int) /\ P (-(n.val:Int))) {t:Int} (h:t.natAbs <= k):P t:=by
 rcases Int.natAbs_eq t with e | e <;> rw [e]
 ·exact (d ⟨_,Nat.lt_succ_of_le h⟩).1
 ·exact (d ⟨_,Nat.lt_succ_of_le h⟩).2
theorem half10 {t:Int} (h:t.natAbs <= 10):(t / 2).natAbs <= 5 /\ (t % 2).toNat <= 1 /\ t % 2 = ((t % 2).toNat:Nat):=zl2 (P:=fun t=>(t / 2).natAbs <= 5 /\ (t % 2).toNat <= 1 /\ t % 2 = ((t % 2).toNat:Nat)) 10 (by decide) h
noncomputable def prI (i:Nat):P:=(((i / 2:Nat):Int) - 5,i % 2)
theorem zhd {p:P} (h:p.1.natAbs <= 5 /\ p.2 <= 1):∃ i:Fin 22,p = prI i.val:=by
 obtain ⟨c,m⟩:=p
 exact zl2 (P:=fun t=>∀ m:Fin 2,∃ i:Fin 22,(t,m.val) = prI i.val) 5 (by decide +kernel) h.1 ⟨m,Nat.lt_succ_of_le h.2⟩
theorem two_pow_pos (n:Nat):(0:Int) < 2 ^ n:=Int.pow_pos (by decide)
theorem zu0 (V:Int):sem V 0 = (V,0):=by
 unfold sem
 rw [Int.pow_zero,Int.ediv_one,Int.emod_one,if_pos rfl]
theorem zme (V e:Int) (n:Nat):stp ((sem V n).1 + e) (sem V n).2 = sem (V + e * 2 ^ n) (n + 1):=by
 have hp:=two_pow_pos n
 have hq:(2:Int) ^ (n + 1) = 2 ^ n * 2:=Int.pow_succ ..
 unfold sem stp
 dsimp only
 generalize (2:Int) ^ n = p at *
 rw [hq]
 have h0:V / p + e = (V + e * p) / p:=(Int.add_mul_ediv_right V e (Int.ne_of_gt hp)).symm
 have h1:V % p = (V + e * p) % p:=(Int.add_mul_emod_self_right V e p).symm
 rw [h0,h1]
 generalize V + e * p = W
 clear h0 h1
 have h2:W / p / 2 = W / (p * 2):=Int.ediv_ediv_of_nonneg (Int.le_of_lt hp)
 rw [h2]
 refine Prod.ext rfl ?_
 show max _ _ = _
 have h3:W % (p * 2) = W % p + p * (W / p % 2):=by
  have a1:=Int.mul_ediv_add_emod W p
  have a2:=Int.mul_ediv_add_emod (W / p) 2
  have a3:=Int.mul_ediv_add_emod W (p * 2)
  rw [<- h2] at a3
  grind
 rw [h3]
 have hm:=Int.emod_nonneg W (Int.ne_of_gt hp)
 rcases Int.emod_two_eq (W / p) with h | h
 ·rw [h,Int.mul_zero,Int.add_zero]
  exact Nat.max_zero _
 ·rw [h,Int.mul_one,if_neg (show ¬ W % p + p = 0 by lia)]
  by_cases h4:W % p = 0
  ·rw [if_pos h4]; rfl
  ·rw [if_neg h4]; rfl
theorem zp9 (V:Int) (n:Nat):sgP (sem V n) = sgn V:=by
 have hp:=two_pow_pos n
 unfold sgP sem sgn
 dsimp only
 generalize (2:Int) ^ n = p at *
 have a1:=Int.mul_ediv_add_emod V p
 have a2:=Int.emod_nonneg V (Int.ne_of_gt hp)
 have a3:=Int.emod_lt_of_pos V hp
 by_cases h:V < 0
 ·have h1:V / p < 0:=Int.ediv_neg_of_neg_of_pos h hp
  rw [if_pos h1,if_pos h]
 ·have h1:0 <= V / p:=Int.ediv_nonneg (Int.not_lt.mp h) (Int.le_of_lt hp)
  rw [if_neg (Int.not_lt.mpr h1),if_neg h]
  by_cases h2:V / p = 0
  ·rw [if_pos h2]
   rw [h2,Int.mul_zero,Int.zero_add] at a1
   rw [a1]
   by_cases h3:V = 0
   ·rw [if_pos h3,if_pos h3]; rfl
   ·rw [if_neg h3,if_neg h3]; rfl
  ·rw [if_neg h2,if_neg]
   intro h3
   rw [h3,Int.zero_ediv] at h2
   exact h2 rfl
structure Lin where
 first:Int
 second:Int
 start:Int
noncomputable def Lin.off (L:Lin) (d:Nat):Int:=[0,L.second,L.first,L.first + L.second].getD d 0
noncomputable def Lin.val (L:Lin) (x y:Nat):Int:=L.start + L.first * x + L.second * y
structure Lin.Ok (L:Lin):Prop where
 l1:L.first.natAbs + L.second.natAbs + L.start.natAbs <= 5
noncomputable def idx {α:Type} [DecidableEq α] (p:α) (l:List α):Nat:=List.rec 0 (fun a _ ih=>if a = p then 0 else ih + 1) l
noncomputable def visit {α:Type} [DecidableEq α] (st:List α × List Nat) (p:α):List α × List Nat :=
 ((if p ∈ st.1 then st.1 else st.1 ++ [p]),st.2 ++ [idx p (if p ∈ st.1 then st.1 else st.1 ++ [p])])
noncomputable def Lin.nexts (L:Lin) (c:P):List P:=[stp (c.1 + 0) c.2,stp (c.1 + L.second) c.2,stp (c.1 + L.first) c.2,stp (c.1 + (L.first + L.second)) c.2]
noncomputable def Lin.turn (L:Lin) (found:List P) (c:P):List P × List Nat:=(L.nexts c).foldl visit (found,[])
structure Clo (L:Lin) (found:List P) (rows:List (List Nat)):Prop where
 cl:∀ (i:Nat) (row:List Nat),rows[i]? = some row -> row.length = 4 /\ ∃ p,found[i]? = some p /\ ∀ d,d < 4 -> ∃ j,row[d]? = some j /\ found[j]? = some (stp (p.1 + L.off d) p.2)
structure Inv (L:Lin) (found:List P) (rows:List (List Nat)):Prop extends Clo L found rows where
 nd:found.Nodup
 bd:∀ p ∈ found,p.1.natAbs <= 5 /\ p.2 <= 1
 z:found[0]? = some (L.start,0)
 le:rows.length <= found.length
theorem zev {L:Lin} (h:L.Ok) {p:P} (hp:p.1.natAbs <= 5 /\ p.2 <= 1) {e:Int} (he:e.natAbs <= 5):(stp (p.1 + e) p.2).1.natAbs <= 5 /\ (stp (p.1 + e) p.2).2 <= 1:=by
 have H:=half10 (zds hp.1 he)
 exact ⟨H.1,Nat.max_le.mpr ⟨hp.2,H.2.1⟩⟩
theorem zfu {L:Lin} (h:L.Ok):L.second.natAbs <= 5 /\ L.first.natAbs <= 5 /\ (L.first + L.second).natAbs <= 5 :=
 have h1:=Nat.le_trans (Nat.le_add_right _ _) h.l1
 ⟨Nat.le_trans (Nat.le_add_left _ _) h1,Nat.le_trans (Nat.le_add_right _ _) h1,Nat.le_trans (Int.natAbs_add_le _ _) h1⟩
theorem st_bd {L:Lin} (h:L.Ok):L.start.natAbs <= 5:=Nat.le_trans (Nat.le_add_left _ _) h.l1
structure Vis {α:Type} (f:List α) (r:List Nat) (ps:List α) (f':List α) (r':List Nat):Prop where
 pre:∃ t,f' = f ++ t
 nd:f.Nodup -> f'.Nodup
 sub:∀ p ∈ f',p ∈ f \/ p ∈ ps
 row:∃ s,r' = r ++ s /\ s.length = ps.length /\ ∀ (i:Nat) (p:α),ps[i]? = some p -> ∃ j:Nat,s[i]? = some j /\ f'[j]? = some p
theorem zbr {α:Type} {f t:List α} {j:Nat} {p:α} (h:f[j]? = some p):(f ++ t)[j]? = some p:=by
 rw [List.getElem?_append_left (List.getElem?_eq_some_iff.mp h).1]; exact h
theorem zlb {α:Type} [DecidableEq α] {f:List α} {p:α} (h:p ∈ f):f[idx p f]? = some p:=by
 induction f with
 | nil=>cases h
 | cons a f ih =>
  show (a :: f)[if a = p then 0 else idx p f + 1]? = some p
  by_cases e:a = p
  ·rw [if_pos e,e]; rfl
  ·rw [if_neg e]
   rcases List.mem_cons.mp h with h | h
   ·exact absurd h.symm e
   ·exact ih h
theorem zke {α:Type} [DecidableEq α] (ps:List α):∀ (f:List α) (r:List Nat),Vis f r ps (ps.foldl visit (f,r)).1 (ps.foldl visit (f,r)).2:=by
 induction ps with
 | nil=>exact fun f r=>⟨⟨[],(List.append_nil f).symm⟩,fun h=>h,fun p h=>.inl h,[],(List.append_nil r).symm,rfl,fun i p e=>nomatch e⟩
 | cons p ps ih =>
  intro f r
  rw [List.foldl_cons]
  obtain ⟨f1,hf1⟩:∃ f1,f1 = if p ∈ f then f else f ++ [p]:=⟨_,rfl⟩
  have hv:visit (f,r) p = (f1,r ++ [idx p f1]):=by rw [hf1]; rfl
  rw [hv]
  have V:=ih f1 (r ++ [idx p f1])
  have hm:p ∈ f1:=by
   rw [hf1]
   by_cases h:p ∈ f
   ·rw [if_pos h]; exact h
   ·rw [if_neg h]; exact List.mem_append_right _ List.mem_cons_self
  have hp:∃ t,f1 = f ++ t:=by
   rw [hf1]
   by_cases h:p ∈ f
   ·rw [if_pos h]; exact ⟨[],(List.append_nil f).symm⟩
   ·rw [if_neg h]; exact ⟨[p],rfl⟩
  have hs:∀ q ∈ f1,q ∈ f \/ q = p:=by
   intro q hq
   rw [hf1] at hq
   by_cases h:p ∈ f
   ·rw [if_pos h] at hq; exact .inl hq
   ·rw [if_neg h] at hq
    exact (List.mem_append.mp hq).imp id List.mem_singleton.mp
  have hn:f.Nodup -> f1.Nodup:=by
   intro hn
   rw [hf1]
   by_cases h:p ∈ f
   ·rw [if_pos h]; exact hn
   ·rw [if_neg h]
    exact List.nodup_append.mpr ⟨hn,List.nodup_cons.mpr ⟨(fun h=>nomatch h),List.nodup_nil⟩,fun a ha b hb=>by rw [List.mem_singleton.mp hb]; exact fun e=>h (e ▸ ha)⟩
  obtain ⟨t1,e1⟩:=hp
  obtain ⟨t2,e2⟩:=V.pre
  obtain ⟨s,es,hl,hg⟩:=V.row
  refine ⟨⟨t1 ++ t2,by rw [e2,e1,List.append_assoc]⟩,fun h=>V.nd (hn h),fun q hq=>?_,idx p f1 :: s,by rw [es,List.append_assoc]; rfl,by rw [List.length_cons,List.length_cons,hl],fun i q e=>?_⟩
  ·rcases V.sub q hq with h | h
   ·exact (hs q h).imp id fun e=>by rw [e]; exact List.mem_cons_self
   ·exact .inr (List.mem_cons_of_mem _ h)
  ·cases i with
   | zero=>cases e; exact ⟨_,rfl,by rw [e2]; exact zbr (zlb hm)⟩
   | succ i=>exact hg i q e
theorem zvm (L:Lin) (c:P) (d:Nat) (h:d < 4):(L.nexts c)[d]? = some (stp (c.1 + L.off d) c.2):=by
 rcases d with _ | _ | _ | _ | d
 ·rfl
 ·rfl
 ·rfl
 ·rfl
 ·lia
theorem zvl {L:Lin} (h:L.Ok) {c:P} (hc:c.1.natAbs <= 5 /\ c.2 <= 1):∀ p ∈ L.nexts c,p.1.natAbs <= 5 /\ p.2 <= 1:=by
 have o:=zfu h
 intro p hp
 unfold Lin.nexts at hp
 rcases List.mem_cons.mp hp with rfl | hp
 ·exact zev h hc (by decide)
 rcases List.mem_cons.mp hp with rfl | hp
 ·exact zev h hc o.1
 rcases List.mem_cons.mp hp with rfl | hp
 ·exact zev h hc o.2.1
 cases List.mem_singleton.mp hp
 exact zev h hc o.2.2
theorem zud {L:Lin} (h:L.Ok) {found:List P} {rows:List (List Nat)} (I:Inv L found rows) {c:P} (hc:found[rows.length]? = some c):Inv L (L.turn found c).1 (rows ++ [(L.turn found c).2]):=by
 have V:=zke (L.nexts c) found []
 have e:(L.nexts c).foldl visit (found,[]) = L.turn found c:=rfl
 rw [e] at V
 generalize L.turn found c = tr at V ⊢
 obtain ⟨f',r'⟩:=tr
 dsimp only at V ⊢
 obtain ⟨t,et⟩:=V.pre
 obtain ⟨s,es,hl,hg⟩:=V.row
 rw [List.nil_append] at es
 subst es
 have hb:=zvl h (I.bd c (List.mem_of_getElem? hc))
 have hlen:f'.length = found.length + t.length:=by rw [et,List.length_append]
 have hlt:=(List.getElem?_eq_some_iff.mp hc).1
 refine ⟨⟨fun i row e=>?_⟩,V.nd I.nd,fun p hp=>(V.sub p hp).elim (I.bd p) (hb p),by rw [et]; exact zbr I.z,by rw [List.length_append,List.length_singleton]; lia⟩
 by_cases hi:i < rows.length
 ·rw [List.getElem?_append_left hi] at e
  obtain ⟨h1,p,h2,h3⟩:=I.cl i row e
  exact ⟨h1,p,by rw [et]; exact zbr h2,fun d hd=>by
   obtain ⟨j,h4,h5⟩:=h3 d hd
   exact ⟨j,h4,by rw [et]; exact zbr h5⟩⟩
 ·rw [List.getElem?_append_right (Nat.not_lt.mp hi)] at e
  have hi0:i - rows.length = 0:=by
   cases hk:i - rows.length with
   | zero=>rfl
   | succ k=>rw [hk] at e; cases e
  rw [hi0] at e
  cases e
  have hi2:i = rows.length:=by lia
  subst hi2
  exact ⟨hl,c,by rw [et]; exact zbr hc,fun d hd=>hg d _ (zvm L c d hd)⟩
theorem zwe {L:Lin} (h:L.Ok):Inv L [(L.start,0)] [] :=
 ⟨⟨fun i row e=>nomatch e⟩,List.nodup_cons.mpr ⟨(fun h=>nomatch h),List.nodup_nil⟩,fun p hp=>by cases List.mem_singleton.mp hp; exact ⟨by show L.start.natAbs <= 5; have:=h.l1; lia,Nat.zero_le 1⟩,rfl,Nat.zero_le _⟩
theorem zmn (n:Nat):∀ l:List Nat,l.Nodup -> (∀ x ∈ l,x < n) -> l.length <= n:=by
 induction n with
 | zero =>
  intro l _ h
  cases l with
  | nil=>exact Nat.le_refl _
  | cons x l=>exact absurd (h x List.mem_cons_self) (Nat.not_lt_zero _)
 | succ n ih =>
  intro l hn h
  have h1:=ih (l.erase n) (hn.erase n) fun x hx=>by
   have h2:=(List.Nodup.mem_erase_iff hn).mp hx
   have:=h x h2.2
   have:=h2.1
   lia
  have h3:=List.length_erase (a:=n) (l:=l)
  by_cases hm:n ∈ l
  ·rw [if_pos hm] at h3; lia
  ·rw [if_neg hm] at h3; lia
noncomputable def code (p:P):Nat:=(p.1 + 5).toNat * 2 + p.2
theorem zq3 {α β:Type} {f:α -> β} {l:List α} (hf:∀ a ∈ l,∀ b ∈ l,f a = f b -> a = b) (hn:l.Nodup):(l.map f).Nodup:=by
 induction l with
 | nil=>exact List.nodup_nil
 | cons a l ih =>
  obtain ⟨h1,h2⟩:=List.nodup_cons.mp hn
  rw [List.map_cons]
  refine List.nodup_cons.mpr ⟨fun h=>?_,ih (fun x hx y hy=>hf x (List.mem_cons_of_mem _ hx) y (List.mem_cons_of_mem _ hy)) h2⟩
  obtain ⟨b,hb,e⟩:=List.mem_map.mp h
  rw [<- hf b (List.mem_cons_of_mem _ hb) a List.mem_cons_self e] at h1
  exact h1 hb
theorem zih {L:Lin} {found:List P} {rows:List (List Nat)} (I:Inv L found rows):found.length <= 22:=by
 have d:∀ i:Fin 22,code (prI i.val) = i.val:=by decide +kernel
 have h:=zmn 22 (found.map code) (zq3 (fun a ha b hb e=>?_) I.nd) ?_
 ·rwa [List.length_map] at h
 ·obtain ⟨i,rfl⟩:=zhd (I.bd a ha)
  obtain ⟨j,rfl⟩:=zhd (I.bd b hb)
  rw [d,d] at e
  rw [e]
 ·intro x hx
  obtain ⟨p,hp,rfl⟩:=List.mem_map.mp hx
  obtain ⟨i,rfl⟩:=zhd (I.bd p hp)
  rw [d]
  exact i.isLt
structure Tab (L:Lin) (found:List P) (rows:List (List Nat)):Prop extends Clo L found rows where
 z:found[0]? = some (L.start,0)
 le:rows.length = found.length
 n:found.length <= 22
theorem tab_of {L:Lin} {found:List P} {rows:List (List Nat)} (I:Inv L found rows) (h:¬ rows.length < found.length):Tab L found rows:=⟨I.toClo,I.z,Nat.le_antisymm I.le (Nat.not_lt.mp h),zih I⟩
noncomputable def nxt (rows:List (List Nat)) (i d:Nat):Nat:=((rows[i]?).getD []).getD d 0
theorem zmm {L:Lin} {found:List P} {rows:List (List Nat)} (T:Tab L found rows) {i:Nat} {p:P} (h:found[i]? = some p) {d:Nat} (hd:d < 4):found[nxt rows i d]? = some (stp (p.1 + L.off d) p.2) /\ ∃ row,rows[i]? = some row /\ row.length = 4 /\ row[d]? = some (nxt rows i d):=by
 have hi:=(List.getElem?_eq_some_iff.mp h).1
 rw [<- T.le] at hi
 have hr:=List.getElem?_eq_getElem hi
 obtain ⟨h1,q,h2,h3⟩:=T.cl i _ hr
 cases h.symm.trans h2
 obtain ⟨j,h4,h5⟩:=h3 d hd
 have e:nxt rows i d = j:=by
  unfold nxt
  rw [hr]
  show (rows[i]).getD d 0 = j
  rw [List.getD_eq_getElem?_getD,h4]; rfl
 rw [e]
 exact ⟨h5,_,hr,h1,h4⟩
noncomputable def bit (x k:Nat):Nat:=x / 2 ^ k % 2
noncomputable def stA (rows:List (List Nat)) (x y:Nat):Nat -> Nat:=Nat.rec 0 fun k i=>nxt rows i (2 * bit x k + bit y k)
theorem zmq (x n:Nat):x % 2 ^ (n + 1) = x % 2 ^ n + 2 ^ n * bit x n:=by
 unfold bit
 rw [Nat.pow_succ,Nat.mod_mul]
theorem zf8 (x k:Nat):bit x k < 2:=Nat.mod_lt _ (by decide)
theorem zqy (L:Lin) {a b:Nat} (ha:a < 2) (hb:b < 2):L.off (2 * a + b) = L.first * a + L.second * b:=by
 have h1:a = 0 \/ a = 1:=by lia
 have h2:b = 0 \/ b = 1:=by lia
 unfold Lin.off
 rcases h1 with rfl | rfl <;> rcases h2 with rfl | rfl <;> simp
theorem zt9 (L:Lin) (x y n:Nat):L.val (x % 2 ^ (n + 1)) (y % 2 ^ (n + 1)) = L.val (x % 2 ^ n) (y % 2 ^ n) + L.off (2 * bit x n + bit y n) * 2 ^ n:=by
 rw [zqy L (zf8 x n) (zf8 y n),zmq,zmq]
 unfold Lin.val
 push_cast
 grind
theorem zma {L:Lin} {found:List P} {rows:List (List Nat)} (T:Tab L found rows) (x y n:Nat):found[stA rows x y n]? = some (sem (L.val (x % 2 ^ n) (y % 2 ^ n)) n):=by
 induction n with
 | zero =>
  rw [Nat.pow_zero,Nat.mod_one,Nat.mod_one,zu0]
  show found[0]? = _
  rw [T.z]
  unfold Lin.val
  simp
 | succ n ih =>
  have h4:2 * bit x n + bit y n < 4:=by
   have:=zf8 x n
   have:=zf8 y n
   lia
  rw [zt9,<- zme]
  exact (zmm T ih h4).1
theorem zzz {L:Lin} {found:List P} {rows:List (List Nat)} (T:Tab L found rows) {x y n:Nat} (hx:x < 2 ^ n) (hy:y < 2 ^ n):∃ p,found[stA rows x y n]? = some p /\ sgP p = sgn (L.val x y) /\ p = sem (L.val x y) n:=by
 have h:=zma T x y n
 rw [Nat.mod_eq_of_lt hx,Nat.mod_eq_of_lt hy] at h
 exact ⟨_,h,zp9 _ _,rfl⟩
end L1
end Mine
end
section
namespace Mine
namespace L1
noncomputable def mk (m:List Bool) (k:Nat):Bool:=m.getD k false
noncomputable def ledT (rows:List (List Nat)) (m:List Bool):List Bool:=(List.range rows.length).map fun k=>mk m k || (mk m (nxt rows k 0) || mk m (nxt rows k 1))
noncomputable def ledN (rows:List (List Nat)) (m:List Bool):Nat -> List Bool:=Nat.rec m fun _ ih=>ledT rows ih
theorem zmr {rows:List (List Nat)} {m:List Bool} {k:Nat} (h:k < rows.length):mk (ledT rows m) k = (mk m k || (mk m (nxt rows k 0) || mk m (nxt rows k 1))):=by
 unfold ledT mk
 rw [List.getD_eq_getElem?_getD,List.getElem?_map,List.getElem?_range h]
 rfl
theorem zic (rows:List (List Nat)) (m:List Bool):(ledT rows m).length = rows.length:=by unfold ledT; rw [List.length_map,List.length_range]
theorem cnt_lt (a:List Bool):∀ b:List Bool,a.length = b.length -> (∀ k,k < a.length -> mk a k = true -> mk b k = true) -> a = b \/ a.countP id < b.countP id:=by
 induction a with
 | nil=>intro b hl _; exact .inl (List.eq_nil_of_length_eq_zero hl.symm).symm
 | cons x a ih =>
  intro b hl h
  cases b with
  | nil=>cases hl
  | cons y b =>
   have h0:x = true -> y = true:=h 0 (Nat.succ_pos _)
   have ih:=ih b (Nat.succ.inj hl) fun k hk=>h (k + 1) (Nat.succ_lt_succ hk)
   rw [List.countP_cons,List.countP_cons]
   rcases ih with rfl | ih
   ·cases x <;> cases y
    ·exact .inl rfl
    ·exact .inr (Nat.lt_succ_self _)
    ·exact absurd (h0 rfl) (by decide)
    ·exact .inl rfl
   ·right
    cases x <;> cases y
    ·exact ih
    ·exact Nat.lt_succ_of_lt ih
    ·exact absurd (h0 rfl) (by decide)
    ·exact Nat.succ_lt_succ ih
theorem z1p {rows:List (List Nat)} {m:List Bool} (hm:m.length = rows.length):ledT rows (ledN rows m rows.length) = ledN rows m rows.length:=by
 have len:∀ n,(ledN rows m n).length = rows.length:=fun n=>by
  cases n with
  | zero=>exact hm
  | succ n=>exact zic ..
 have up:∀ n,ledN rows m n = ledN rows m (n + 1) \/ (ledN rows m n).countP id < (ledN rows m (n + 1)).countP id:=fun n =>
  cnt_lt _ _ ((len n).trans (len (n + 1)).symm) fun k hk e=>by
   show mk (ledT rows (ledN rows m n)) k = true
   rw [zmr (by rw [<- len n]; exact hk),e]; rfl
 have grow:∀ n,ledN rows m n = ledN rows m (n + 1) \/ n + 1 <= (ledN rows m (n + 1)).countP id:=by
  intro n
  induction n with
  | zero=>exact (up 0).imp id fun h=>Nat.lt_of_le_of_lt (Nat.zero_le _) h
  | succ n ih =>
   rcases ih with e | ih
   ·exact .inl (congrArg (ledT rows) e)
   ·exact (up (n + 1)).imp id fun h=>Nat.lt_of_le_of_lt ih h
 rcases grow rows.length with e | h
 ·exact e.symm
 ·have h2:=List.countP_le_length (p:=id) (l:=ledN rows m (rows.length + 1))
  rw [len] at h2
  exact absurd (Nat.le_trans h h2) (Nat.not_succ_le_self _)
theorem zv3 {rows:List (List Nat)} {m:List Bool} (hm:m.length = rows.length) (j:Nat):ledN rows m (rows.length + j) = ledN rows m rows.length:=by
 induction j with
 | zero=>rfl
 | succ j ih=>exact (congrArg (ledT rows) ih).trans (z1p hm)
noncomputable def pth (rows:List (List Nat)):Nat -> Nat -> Nat -> Nat:=Nat.rec (fun _ k=>k) fun _ ih z k=>ih (z / 2) (nxt rows k (z % 2))
noncomputable def Okr (rows:List (List Nat)):Prop:=∀ i d,i < rows.length -> d < 4 -> nxt rows i d < rows.length
theorem zv7 {rows:List (List Nat)} (h:Okr rows) {m:List Bool} (n:Nat):∀ (z k:Nat),k < rows.length -> mk m (pth rows n z k) = true -> mk (ledN rows m n) k = true:=by
 induction n with
 | zero=>exact fun z k _ e=>e
 | succ n ih =>
  intro z k hk e
  have h1:=ih (z / 2) (nxt rows k (z % 2)) (h k _ hk (Nat.lt_trans (Nat.mod_lt z (by decide)) (by decide))) e
  show mk (ledT rows (ledN rows m n)) k = true
  rw [zmr hk]
  rcases Nat.mod_two_eq_zero_or_one z with hz | hz
  ·rw [hz] at h1; rw [h1,Bool.true_or,Bool.or_true]
  ·rw [hz] at h1; rw [h1,Bool.or_true,Bool.or_true]
theorem zv5 {rows:List (List Nat)} (h:Okr rows) {m:List Bool} (n:Nat):∀ k:Nat,k < rows.length -> mk (ledN rows m n) k = true -> ∃ n' z,mk m (pth rows n' z k) = true:=by
 induction n with
 | zero=>exact fun k _ e=>⟨0,0,e⟩
 | succ n ih =>
  intro k hk e
  have e':mk (ledT rows (ledN rows m n)) k = true:=e
  rw [zmr hk,Bool.or_eq_true,Bool.or_eq_true] at e'
  rcases e' with e' | e' | e'
  ·exact ih k hk e'
  ·obtain ⟨n',z,q⟩:=ih _ (h k 0 hk (by decide)) e'
   refine ⟨n' + 1,2 * z,?_⟩
   show mk m (pth rows n' (2 * z / 2) (nxt rows k (2 * z % 2))) = true
   rw [Nat.mul_div_cancel_left _ (by decide),Nat.mul_mod_right]; exact q
  ·obtain ⟨n',z,q⟩:=ih _ (h k 1 hk (by decide)) e'
   refine ⟨n' + 1,2 * z + 1,?_⟩
   show mk m (pth rows n' ((2 * z + 1) / 2) (nxt rows k ((2 * z + 1) % 2))) = true
   rw [show (2 * z + 1) / 2 = z by lia,show (2 * z + 1) % 2 = 1 by lia]; exact q
theorem z1o {rows:List (List Nat)} (h:Okr rows) {m:List Bool} (hm:m.length = rows.length) {k:Nat} (hk:k < rows.length):mk (ledN rows m rows.length) k = true ↔ ∃ n z,mk m (pth rows n z k) = true:=by
 refine ⟨zv5 h _ k hk,fun ⟨n,z,e⟩=>?_⟩
 have h1:=zv7 h n z k hk e
 have up:∀ j,mk (ledN rows m (n + j)) k = true:=fun j=>by
  induction j with
  | zero=>exact h1
  | succ j ih =>
   show mk (ledT rows (ledN rows m (n + j))) k = true
   rw [zmr hk,ih]; rfl
 have h2:=up rows.length
 rw [Nat.add_comm,zv3 hm] at h2
 exact h2
section
variable {L:Lin} {found:List P} {rows:List (List Nat)} (T:Tab L found rows)
include T
theorem okr:Okr rows:=fun i d hi hd=>by
 rw [T.le] at hi
 have:=(zmm T (List.getElem?_eq_getElem hi) hd).1
 rw [T.le]
 exact (List.getElem?_eq_some_iff.mp this).1
theorem pth_ok (n:Nat):∀ (z k m:Nat) (V:Int),found[k]? = some (sem V m) -> found[pth rows n z k]? = some (sem (V + L.second * ((z % 2 ^ n:Nat):Int) * 2 ^ m) (m + n)):=by
 induction n with
 | zero =>
  intro z k m V h
  rw [Nat.pow_zero,Nat.mod_one]
  show found[k]? = _
  simpa using h
 | succ n ih =>
  intro z k m V h
  have hd:z % 2 < 2:=Nat.mod_lt z (by decide)
  have h1:=(zmm T h (d:=z % 2) (Nat.lt_trans hd (by decide))).1
  rw [zme] at h1
  have h2:=ih (z / 2) _ (m + 1) _ h1
  have e1:L.off (z % 2) = L.second * ((z % 2:Nat):Int):=by
   have:=zqy L (a:=0) (b:=z % 2) (by decide) hd
   rw [Nat.mul_zero,Nat.zero_add] at this
   rw [this]; simp
  have e2:z % 2 ^ (n + 1) = z % 2 + 2 * (z / 2 % 2 ^ n):=by rw [Nat.pow_succ,Nat.mul_comm,Nat.mod_mul]
  have e3:V + L.off (z % 2) * 2 ^ m + L.second * ((z / 2 % 2 ^ n:Nat):Int) * 2 ^ (m + 1) = V + L.second * ((z % 2 ^ (n + 1):Nat):Int) * 2 ^ m:=by
   rw [e1,e2,Int.pow_succ]
   push_cast
   grind
  rw [e3] at h2
  rw [show m + (n + 1) = m + 1 + n by lia]
  exact h2
theorem zl6 {tk:Int -> Bool} {takes:List Bool} (ht:takes = found.map fun p=>tk (sgP p)) {x y m:Nat} (hx:x < 2 ^ m) (hy:y < 2 ^ m) :
  mk (ledN rows takes rows.length) (stA rows x y m) = true ↔ ∃ z:Nat,tk (sgn (L.val x (y + 2 ^ m * z))) = true:=by
 have h0:=zma T x y m
 rw [Nat.mod_eq_of_lt hx,Nat.mod_eq_of_lt hy] at h0
 have hk:=(List.getElem?_eq_some_iff.mp h0).1
 have tell:∀ n z,mk takes (pth rows n z (stA rows x y m)) = tk (sgn (L.val x (y + 2 ^ m * (z % 2 ^ n)))):=fun n z=>by
  have h1:=pth_ok T n z _ m _ h0
  unfold mk
  rw [ht,List.getD_eq_getElem?_getD,List.getElem?_map,h1]
  show tk (sgP (sem _ _)) = _
  rw [zp9]
  congr 2
  unfold Lin.val
  push_cast
  grind
 rw [z1o (okr T) (by rw [ht,List.length_map,T.le]) (by rw [T.le]; exact hk)]
 constructor
 ·rintro ⟨n,z,e⟩
  rw [tell] at e
  exact ⟨_,e⟩
 ·rintro ⟨z,e⟩
  refine ⟨z,z,?_⟩
  rw [tell,Nat.mod_eq_of_lt Nat.lt_two_pow_self]
  exact e
end
end L1
end Mine
end
section
namespace Mine
namespace L1
noncomputable def setF (rows:List (List Nat)) (mask fig:Nat) (acc k:Nat):Nat:=if mask.testBit k = true then (acc ||| 1 <<< nxt rows k fig) ||| 1 <<< nxt rows k (fig + 1) else acc
noncomputable def setS (rows:List (List Nat)) (mask fig:Nat):Nat:=(List.range rows.length).foldl (setF rows mask fig) 0
theorem zk7 (a j:Nat):(1 <<< a).testBit j = decide (a = j):=by rw [Nat.one_shiftLeft,Nat.testBit_two_pow]
theorem zuz {rows:List (List Nat)} {mask fig:Nat} (ks:List Nat):∀ (acc j:Nat),(ks.foldl (setF rows mask fig) acc).testBit j = true ↔ acc.testBit j = true \/ ∃ k ∈ ks,mask.testBit k = true /\ (nxt rows k fig = j \/ nxt rows k (fig + 1) = j):=by
 induction ks with
 | nil=>exact fun acc j=>⟨.inl,fun h=>h.elim id fun ⟨_,h,_⟩=>nomatch h⟩
 | cons k ks ih =>
  intro acc j
  rw [List.foldl_cons,ih]
  have e:(setF rows mask fig acc k).testBit j = true ↔ acc.testBit j = true \/ (mask.testBit k = true /\ (nxt rows k fig = j \/ nxt rows k (fig + 1) = j)):=by
   unfold setF
   by_cases h:mask.testBit k = true
   ·rw [if_pos h,Nat.testBit_or,Nat.testBit_or,zk7,zk7,Bool.or_eq_true,Bool.or_eq_true,decide_eq_true_eq,decide_eq_true_eq,or_assoc]
    exact ⟨fun q=>q.imp id fun q=>⟨h,q⟩,fun q=>q.imp id fun q=>q.2⟩
   ·rw [if_neg h]
    exact ⟨.inl,fun q=>q.elim id fun q=>absurd q.1 h⟩
  rw [e]
  constructor
  ·rintro ((h | h) | ⟨k',h1,h2⟩)
   ·exact .inl h
   ·exact .inr ⟨k,List.mem_cons_self,h⟩
   ·exact .inr ⟨k',List.mem_cons_of_mem _ h1,h2⟩
  ·rintro (h | ⟨k',h1,h2⟩)
   ·exact .inl (.inl h)
   ·rcases List.mem_cons.mp h1 with rfl | h1
    ·exact .inl (.inr h2)
    ·exact .inr ⟨k',h1,h2⟩
theorem zuy {rows:List (List Nat)} {mask fig j:Nat}:(setS rows mask fig).testBit j = true ↔ ∃ k,k < rows.length /\ mask.testBit k = true /\ (nxt rows k fig = j \/ nxt rows k (fig + 1) = j):=by
 unfold setS
 rw [zuz,Nat.zero_testBit]
 constructor
 ·rintro (h | ⟨k,h1,h2⟩)
  ·cases h
  ·exact ⟨k,List.mem_range.mp h1,h2⟩
 ·rintro ⟨k,h1,h2⟩
  exact .inr ⟨k,List.mem_range.mpr h1,h2⟩
noncomputable def Set (rows:List (List Nat)) (x m mask:Nat):Prop:=∀ j,mask.testBit j = true ↔ ∃ y,y < 2 ^ m /\ stA rows x y m = j
theorem zz0 (rows:List (List Nat)) (x y x' y' n:Nat) (hx:∀ k,k < n -> bit x k = bit x' k) (hy:∀ k,k < n -> bit y k = bit y' k):stA rows x y n = stA rows x' y' n:=by
 induction n with
 | zero=>rfl
 | succ n ih =>
  show nxt rows (stA rows x y n) _ = nxt rows (stA rows x' y' n) _
  rw [ih (fun k hk=>hx k (Nat.lt_succ_of_lt hk)) (fun k hk=>hy k (Nat.lt_succ_of_lt hk)),hx n (Nat.lt_succ_self n),hy n (Nat.lt_succ_self n)]
theorem zlr {y n b k:Nat} (hk:k < n):bit (y + 2 ^ n * b) k = bit y k:=by
 unfold bit
 have e:2 ^ n * b = 2 ^ k * (2 * (2 ^ (n - k - 1) * b)):=by
  rw [<- Nat.mul_assoc,<- Nat.mul_assoc,<- Nat.pow_succ,<- Nat.pow_add]
  congr 2
  omega
 rw [e,Nat.add_mul_div_left _ _ (Nat.two_pow_pos k),Nat.add_mul_mod_self_left]
theorem zth {y n b:Nat} (hy:y < 2 ^ n) (hb:b < 2):bit (y + 2 ^ n * b) n = b:=by
 unfold bit
 rw [Nat.add_mul_div_left _ _ (Nat.two_pow_pos n),Nat.div_eq_of_lt hy,Nat.zero_add,Nat.mod_eq_of_lt hb]
section
variable {L:Lin} {found:List P} {rows:List (List Nat)} (T:Tab L found rows)
theorem zmc (rows:List (List Nat)):Set rows 0 0 1:=fun j=>by
 rw [show (1:Nat) = 1 <<< 0 from rfl,zk7,decide_eq_true_eq]
 constructor
 ·rintro rfl; exact ⟨0,Nat.zero_lt_one,rfl⟩
 ·rintro ⟨y,_,e⟩; exact e
include T
theorem zx8 (x y m:Nat):stA rows x y m < rows.length:=by
 have:=(List.getElem?_eq_some_iff.mp (zma T x y m)).1
 rwa [T.le]
theorem zho {x m mask b:Nat} (hx:x < 2 ^ m) (hb:b < 2) (S:Set rows x m mask):Set rows (x + 2 ^ m * b) (m + 1) (setS rows mask (2 * b)):=fun j=>by
 rw [zuy]
 have hxx:∀ y y':Nat,(∀ k,k < m -> bit y k = bit y' k) -> stA rows (x + 2 ^ m * b) y m = stA rows x y' m:=fun y y' h=>zz0 rows _ _ _ _ m (fun k hk=>zlr hk) h
 have step:∀ y,stA rows (x + 2 ^ m * b) y (m + 1) = nxt rows (stA rows (x + 2 ^ m * b) y m) (2 * b + bit y m):=fun y=>by
  show nxt rows (stA rows (x + 2 ^ m * b) y m) (2 * bit (x + 2 ^ m * b) m + _) = _
  rw [zth hx hb]
 constructor
 ·rintro ⟨k,hk,h1,h2⟩
  obtain ⟨y,hy,e⟩:=(S k).mp h1
  have go:∀ c,c < 2 -> nxt rows k (2 * b + c) = j -> ∃ y,y < 2 ^ (m + 1) /\ stA rows (x + 2 ^ m * b) y (m + 1) = j:=fun c hc hj=>by
   refine ⟨y + 2 ^ m * c,?_,?_⟩
   ·rw [Nat.pow_succ]
    have:2 ^ m * c <= 2 ^ m * 1:=Nat.mul_le_mul_left _ (Nat.le_of_lt_succ hc)
    lia
   ·rw [step,hxx _ y (fun k hk=>zlr hk),zth hy hc,e,hj]
  rcases h2 with h2 | h2
  ·exact go 0 (by decide) h2
  ·exact go 1 (by decide) h2
 ·rintro ⟨y,hy,e⟩
  have hb2:=zf8 y m
  rw [step] at e
  refine ⟨stA rows x (y % 2 ^ m) m,zx8 T _ _ _,(S _).mpr ⟨_,Nat.mod_lt _ (Nat.two_pow_pos m),rfl⟩,?_⟩
  have e2:stA rows (x + 2 ^ m * b) y m = stA rows x (y % 2 ^ m) m:=hxx _ _ fun k hk=>by
   have:=zlr (y:=y % 2 ^ m) (b:=y / 2 ^ m) hk
   rw [Nat.mod_add_div] at this
   exact this
  rw [e2] at e
  have:bit y m = 0 \/ bit y m = 1:=by lia
  rcases this with h | h
  ·rw [h] at e; exact .inl e
  ·rw [h] at e; exact .inr e
end
structure SInv (rows:List (List Nat)) (sets:List Nat) (ways:List (List Nat)):Prop where
 z:sets[0]? = some 1
 le:ways.length <= sets.length
 nd:sets.Nodup
 cl:∀ (i:Nat) (w:List Nat),ways[i]? = some w -> ∃ mask a b:Nat,sets[i]? = some mask /\ w = [a,b] /\ sets[a]? = some (setS rows mask 0) /\ sets[b]? = some (setS rows mask 2)
 re:∀ mask ∈ sets,∃ x m,x < 2 ^ m /\ Set rows x m mask
noncomputable def setT (rows:List (List Nat)) (sets:List Nat) (mask:Nat):List Nat × List Nat:=[setS rows mask 0,setS rows mask 2].foldl visit (sets,[])
theorem zp5 (rows:List (List Nat)):SInv rows [1] []:=⟨rfl,Nat.zero_le _,List.nodup_cons.mpr ⟨(fun h=>nomatch h),List.nodup_nil⟩,fun i w e=>(nomatch e),fun mask h=>by cases List.mem_singleton.mp h; exact ⟨0,0,Nat.zero_lt_one,zmc rows⟩⟩
theorem zub {α:Type} {s:List α} {a b:α} (hl:s.length = 2) (ha:s[0]? = some a) (hb:s[1]? = some b):s = [a,b]:=by
 match s,hl,ha,hb with
 | [p,q],_,ha,hb=>cases ha; cases hb; rfl
theorem zp6 {L:Lin} {found:List P} {rows:List (List Nat)} (T:Tab L found rows) {sets:List Nat} {ways:List (List Nat)} (I:SInv rows sets ways) {mask:Nat} (hm:sets[ways.length]? = some mask):SInv rows (setT rows sets mask).1 (ways ++ [(setT rows sets mask).2]):=by
 have V:=zke [setS rows mask 0,setS rows mask 2] sets []
 have e:[setS rows mask 0,setS rows mask 2].foldl visit (sets,[]) = setT rows sets mask:=rfl
 rw [e] at V
 generalize setT rows sets mask = tr at V ⊢
 obtain ⟨f',r'⟩:=tr
 dsimp only at V ⊢
 obtain ⟨t,et⟩:=V.pre
 obtain ⟨s,es,hl,hg⟩:=V.row
 rw [List.nil_append] at es
 subst es
 have hlen:f'.length = sets.length + t.length:=by rw [et,List.length_append]
 have hlt:=(List.getElem?_eq_some_iff.mp hm).1
 refine ⟨by rw [et]; exact zbr I.z,by rw [List.length_append,List.length_singleton]; lia,V.nd I.nd,fun i w e=>?_,fun mk hmk=>?_⟩
 ·by_cases hi:i < ways.length
  ·rw [List.getElem?_append_left hi] at e
   obtain ⟨mask',a,b,h1,h2,h3,h4⟩:=I.cl i w e
   exact ⟨mask',a,b,by rw [et]; exact zbr h1,h2,by rw [et]; exact zbr h3,by rw [et]; exact zbr h4⟩
  ·rw [List.getElem?_append_right (Nat.not_lt.mp hi)] at e
   have hi0:i - ways.length = 0:=by
    cases hk:i - ways.length with
    | zero=>rfl
    | succ k=>rw [hk] at e; cases e
   rw [hi0] at e
   cases e
   have hi2:i = ways.length:=by lia
   subst hi2
   obtain ⟨a,ha,ha2⟩:=hg 0 _ rfl
   obtain ⟨b,hb,hb2⟩:=hg 1 _ rfl
   refine ⟨mask,a,b,by rw [et]; exact zbr hm,zub hl ha hb,ha2,hb2⟩
 ·rcases V.sub mk hmk with h | h
  ·exact I.re mk h
  ·obtain ⟨x,m,hx,S⟩:=I.re mask (List.mem_of_getElem? hm)
   have hx':∀ b,b < 2 -> x + 2 ^ m * b < 2 ^ (m + 1):=fun b hb=>by
    have:2 ^ m * b <= 2 ^ m * 1:=Nat.mul_le_mul_left _ (Nat.le_of_lt_succ hb)
    rw [Nat.pow_succ]
    lia
   rcases List.mem_cons.mp h with rfl | h
   ·exact ⟨_,m + 1,hx' 0 (by decide),zho T hx (by decide) S⟩
   ·cases List.mem_singleton.mp h
    exact ⟨_,m + 1,hx' 1 (by decide),zho T hx (by decide) S⟩
structure STab (rows:List (List Nat)) (sets:List Nat) (ways:List (List Nat)):Prop extends SInv rows sets ways where
 al:ways.length = sets.length
noncomputable def bval:List Nat -> Nat:=List.rec 0 fun d _ ih=>d + 2 * ih
noncomputable def plc (ways:List (List Nat)) (i:Nat) (ds:List Nat):Nat:=ds.foldl (fun i d=>nxt ways i d) i
theorem plc_ok {L:Lin} {found:List P} {rows:List (List Nat)} (T:Tab L found rows) {sets:List Nat} {ways:List (List Nat)} (I:STab rows sets ways) (ds:List Nat):∀ (x m i mask:Nat),(∀ d ∈ ds,d < 2) -> x < 2 ^ m -> sets[i]? = some mask -> Set rows x m mask -> ∃ mask',sets[plc ways i ds]? = some mask' /\ Set rows (x + 2 ^ m * bval ds) (m + ds.length) mask':=by
 induction ds with
 | nil =>
  intro x m i mask _ _ h S
  exact ⟨mask,h,by show Set rows (x + 2 ^ m * 0) (m + 0) mask; rw [Nat.mul_zero]; exact S⟩
 | cons d ds ih =>
  intro x m i mask hd hx h S
  have hd1:=hd d List.mem_cons_self
  have hi:=(List.getElem?_eq_some_iff.mp h).1
  rw [<- I.al] at hi
  have hw:=List.getElem?_eq_getElem hi
  obtain ⟨mask',a,b,h1,h2,h3,h4⟩:=I.cl i _ hw
  cases h.symm.trans h1
  have hn:sets[nxt ways i d]? = some (setS rows mask (2 * d)):=by
   unfold nxt
   rw [hw,h2]
   have:d = 0 \/ d = 1:=by lia
   rcases this with rfl | rfl
   ·exact h3
   ·exact h4
  have hx':x + 2 ^ m * d < 2 ^ (m + 1):=by
   have:2 ^ m * d <= 2 ^ m * 1:=Nat.mul_le_mul_left _ (Nat.le_of_lt_succ hd1)
   rw [Nat.pow_succ]
   lia
  obtain ⟨mask2,h5,h6⟩:=ih (x + 2 ^ m * d) (m + 1) _ _ (fun e he=>hd e (List.mem_cons_of_mem _ he)) hx' hn (zho T hx hd1 S)
  refine ⟨mask2,h5,?_⟩
  have e1:x + 2 ^ m * d + 2 ^ (m + 1) * bval ds = x + 2 ^ m * bval (d :: ds):=by
   show _ = x + 2 ^ m * (d + 2 * bval ds)
   rw [Nat.mul_add,Nat.pow_succ,Nat.mul_assoc,Nat.add_assoc]
  rw [e1,show m + 1 + ds.length = m + (d :: ds).length by rw [List.length_cons]; lia] at h6
  exact h6
end L1
end Mine
end
section
namespace Mine
namespace L1
noncomputable def bmask:List Bool -> Nat:=List.rec 0 fun b _ ih=>b.toNat + 2 * ih
theorem zjy (l:List Bool):∀ k,(bmask l).testBit k = mk l k:=by
 induction l with
 | nil=>intro k; exact Nat.zero_testBit k
 | cons b l ih =>
  intro k
  show (b.toNat + 2 * bmask l).testBit k = mk (b :: l) k
  cases k with
  | zero =>
   rw [Nat.testBit_zero]
   show decide ((b.toNat + 2 * bmask l) % 2 = 1) = b
   cases b <;> simp <;> lia
  | succ k =>
   rw [Nat.testBit_succ,show (b.toNat + 2 * bmask l) / 2 = bmask l by cases b <;> simp <;> lia,ih]
   rfl
theorem and_ne {a b:Nat}:a &&& b ≠ 0 ↔ ∃ k,a.testBit k = true /\ b.testBit k = true:=by
 constructor
 ·intro h
  refine Classical.byContradiction fun q=>h (Nat.eq_of_testBit_eq fun k=>?_)
  rw [Nat.testBit_and,Nat.zero_testBit]
  cases h1:a.testBit k with
  | false=>rfl
  | true =>
   cases h2:b.testBit k with
   | false=>rfl
   | true=>exact absurd ⟨k,h1,h2⟩ q
 ·rintro ⟨k,h1,h2⟩ e
  have:=congrArg (fun n=>n.testBit k) e
  rw [Nat.testBit_and,h1,h2,Nat.zero_testBit] at this
  cases this
section
variable {L:Lin} {found:List P} {rows:List (List Nat)} (T:Tab L found rows)
include T
theorem zkg {tk:Int -> Bool} {x m mask:Nat} (hx:x < 2 ^ m) (S:Set rows x m mask):mask &&& bmask (ledN rows (found.map fun p=>tk (sgP p)) rows.length) ≠ 0 ↔ ∃ y:Nat,tk (sgn (L.val x y)) = true:=by
 rw [and_ne]
 constructor
 ·rintro ⟨k,h1,h2⟩
  rw [zjy] at h2
  obtain ⟨y,hy,rfl⟩:=(S k).mp h1
  obtain ⟨z,e⟩:=(zl6 T rfl hx hy).mp h2
  exact ⟨_,e⟩
 ·rintro ⟨y,e⟩
  have hy:=Nat.mod_lt y (Nat.two_pow_pos m)
  refine ⟨stA rows x (y % 2 ^ m) m,(S _).mpr ⟨_,hy,rfl⟩,?_⟩
  rw [zjy]
  exact (zl6 T rfl hx hy).mpr ⟨y / 2 ^ m,by rw [Nat.mod_add_div]; exact e⟩
theorem zl7 {tk:Int -> Bool} {x m mask:Nat} (hx:x < 2 ^ m) (S:Set rows x m mask):mask &&& bmask (ledN rows (found.map fun p=>!tk (sgP p)) rows.length) = 0 ↔ ∀ y:Nat,tk (sgn (L.val x y)) = true:=by
 have h:=zkg T (tk:=fun c=>!tk c) hx S
 constructor
 ·intro e y
  cases hq:tk (sgn (L.val x y)) with
  | true=>rfl
  | false=>exact absurd e (h.mpr ⟨y,by rw [hq]; rfl⟩)
 ·intro q
  refine Classical.byContradiction fun e=>?_
  obtain ⟨y,hy⟩:=h.mp e
  rw [q y] at hy
  cases hy
end
noncomputable def Lin.hld (L:Lin) (x:Nat):Int:=L.first * x + L.start
noncomputable def Lin.dv (L:Lin):Int:=if L.second = 0 then 1 else L.second
noncomputable def Lin.whl (L:Lin) (x:Nat):Int:=(-L.hld x).fdiv L.dv
noncomputable def Lin.v1 (L:Lin) (x:Nat):Int:=L.hld x + L.second * max 0 (L.whl x)
noncomputable def Lin.v2 (L:Lin) (x:Nat):Int:=L.hld x + L.second * 1000000
theorem zbn (L:Lin) (x y:Nat):L.val x y = L.hld x + L.second * y:=by unfold Lin.val Lin.hld; lia
theorem zb1 {v:Int} (h:0 < v):sgn v = 1:=by unfold sgn; rw [if_neg (Int.not_lt.mpr (Int.le_of_lt ‹_›)),if_neg (Int.ne_of_gt ‹_›)]
theorem zb2 {v:Int} (h:v < 0):sgn v = -1:=by unfold sgn; rw [if_pos h]
theorem ze9 {v:Int} (h:v = 0):sgn v = 0:=by unfold sgn; rw [if_neg (by lia),if_pos h]
theorem tri (v:Int):v < 0 \/ v = 0 \/ 0 < v:=by lia
theorem zyj {z:Int} (h:0 <= z):∃ n:Nat,z = n:=⟨z.toNat,(Int.toNat_of_nonneg h).symm⟩
theorem three {L:Lin} {x:Nat} (hb:(L.hld x).natAbs < 1000000) (c:Int):(∃ y:Nat,sgn (L.val x y) = c) ↔ sgn (L.hld x) = c \/ sgn (L.v1 x) = c \/ sgn (L.v2 x) = c:=by
 constructor
 ·rintro ⟨y,rfl⟩
  rw [zbn]
  rcases tri L.second with hs | hs | hs
  ·-- downward
   have hy:L.second * (y:Int) <= 0:=Int.mul_nonpos_of_nonpos_of_nonneg (Int.le_of_lt hs) (Int.natCast_nonneg y)
   rcases tri (L.hld x + L.second * y) with h | h | h
   ·rw [zb2 h]
    refine .inr (.inr (zb2 ?_))
    unfold Lin.v2
    omega
   ·rw [ze9 h]
    refine .inr (.inl (ze9 ?_))
    have e:L.whl x = y:=by
     unfold Lin.whl Lin.dv
     rw [if_neg (Int.ne_of_lt hs),show -L.hld x = L.second * y by omega,Int.mul_fdiv_cancel_left _ (Int.ne_of_lt hs)]
    unfold Lin.v1
    rw [e,Int.max_eq_right (Int.natCast_nonneg y)]
    exact h
   ·rw [zb1 h]
    exact .inl (zb1 (by omega))
  ·rw [hs,Int.zero_mul,Int.add_zero]; exact .inl rfl
  ·have hy:0 <= L.second * (y:Int):=Int.mul_nonneg (Int.le_of_lt hs) (Int.natCast_nonneg y)
   rcases tri (L.hld x + L.second * y) with h | h | h
   ·rw [zb2 h]
    exact .inl (zb2 (by omega))
   ·rw [ze9 h]
    refine .inr (.inl (ze9 ?_))
    have e:L.whl x = y:=by
     unfold Lin.whl Lin.dv
     rw [if_neg (Int.ne_of_gt hs),show -L.hld x = L.second * y by omega,Int.mul_fdiv_cancel_left _ (Int.ne_of_gt hs)]
    unfold Lin.v1
    rw [e,Int.max_eq_right (Int.natCast_nonneg y)]
    exact h
   ·rw [zb1 h]
    refine .inr (.inr (zb1 ?_))
    unfold Lin.v2
    omega
 ·rintro (h | h | h)
  ·exact ⟨0,by rw [zbn]; simpa using h⟩
  ·obtain ⟨n,hn⟩:=zyj (Int.le_max_left 0 (L.whl x))
   exact ⟨n,by rw [zbn,<- hn]; exact h⟩
  ·exact ⟨1000000,by rw [zbn]; exact h⟩
noncomputable def Lin.any (L:Lin) (tk:Int -> Bool) (x:Nat):Bool:=tk (sgn (L.hld x)) || (tk (sgn (L.v1 x)) || tk (sgn (L.v2 x)))
noncomputable def Lin.all (L:Lin) (tk:Int -> Bool) (x:Nat):Bool:=tk (sgn (L.hld x)) && (tk (sgn (L.v1 x)) && tk (sgn (L.v2 x)))
theorem zl0 {L:Lin} {x:Nat} (hb:(L.hld x).natAbs < 1000000) (tk:Int -> Bool):L.any tk x = true ↔ ∃ y:Nat,tk (sgn (L.val x y)) = true:=by
 unfold Lin.any
 rw [Bool.or_eq_true,Bool.or_eq_true]
 have h:=three hb
 constructor
 ·rintro (q | q | q)
  ·obtain ⟨y,e⟩:=(h _).mpr (.inl rfl); exact ⟨y,by rw [e]; exact q⟩
  ·obtain ⟨y,e⟩:=(h _).mpr (.inr (.inl rfl)); exact ⟨y,by rw [e]; exact q⟩
  ·obtain ⟨y,e⟩:=(h _).mpr (.inr (.inr rfl)); exact ⟨y,by rw [e]; exact q⟩
 ·rintro ⟨y,q⟩
  rcases (h _).mp ⟨y,rfl⟩ with e | e | e
  ·exact .inl (e ▸ q)
  ·exact .inr (.inl (e ▸ q))
  ·exact .inr (.inr (e ▸ q))
theorem ztt {L:Lin} {x:Nat} (hb:(L.hld x).natAbs < 1000000) (tk:Int -> Bool):L.all tk x = true ↔ ∀ y:Nat,tk (sgn (L.val x y)) = true:=by
 have h:=zl0 hb fun c=>!tk c
 have e:L.any (fun c=>!tk c) x = !L.all tk x:=by unfold Lin.any Lin.all; rw [Bool.not_and,Bool.not_and]
 rw [e] at h
 constructor
 ·intro q y
  cases hq:tk (sgn (L.val x y)) with
  | true=>rfl
  | false=>have:=h.mpr ⟨y,by rw [hq]; rfl⟩; rw [q] at this; cases this
 ·intro q
  cases ha:L.all tk x with
  | true=>rfl
  | false =>
   rw [ha] at h
   obtain ⟨y,hy⟩:=h.mp rfl
   rw [q y] at hy; cases hy
theorem zrw {L:Lin} (h:L.Ok) {x:Nat} (hx:x < 65536):(L.hld x).natAbs < 1000000:=by
 have h2:(L.first * (x:Int)).natAbs <= 5 * 65536:=by
  rw [Int.natAbs_mul,Int.natAbs_natCast]
  exact Nat.mul_le_mul (zfu h).2.1 (Nat.le_of_lt hx)
 exact Nat.lt_of_le_of_lt (zds h2 (st_bd h)) (by decide)
theorem zkp {a b:Int} {x:Nat} (h:b.natAbs < x) (ha:a ≠ 0):sgn (a * x + b) = sgn a:=by
 have hb:(b.natAbs:Int) < x:=Int.ofNat_lt.mpr h
 rcases tri a with h1 | h1 | h1
 ·have p:a * (x:Int) <= -1 * x:=Int.mul_le_mul_of_nonneg_right (Int.le_neg_of_le_neg (Int.neg_pos_of_neg h1)) (Int.natCast_nonneg x)
  rw [zb2 h1,zb2]
  exact Int.lt_of_lt_of_le (Int.add_lt_add_of_le_of_lt p (Int.lt_of_le_of_lt Int.le_natAbs hb)) (by rw [Int.neg_one_mul,Int.add_left_neg]; exact Int.le_refl 0)
 ·exact absurd h1 ha
 ·have p:1 * (x:Int) <= a * x:=Int.mul_le_mul_of_nonneg_right h1 (Int.natCast_nonneg x)
  rw [zb1 h1,zb1]
  refine Int.lt_of_lt_of_le ?_ (Int.add_le_add_right p b)
  have q:-(x:Int) < b:=Int.neg_lt_of_neg_lt (Int.lt_of_le_of_lt (Int.natAbs_neg b ▸ Int.le_natAbs) hb)
  rw [Int.one_mul]
  exact Int.add_right_neg (x:Int) ▸ Int.add_lt_add_left q x
theorem zhn (v:Int):sgn v = v.sign:=by
 rcases tri v with h | h | h
 ·rw [zb2 h,Int.sign_eq_neg_one_of_neg h]
 ·rw [h]; rfl
 ·rw [zb1 h,Int.sign_eq_one_of_pos h]
theorem zut {a b:Int} (ha:a ≠ 0) (h:(a * b).sign = a.sign):0 < b:=by
 rw [Int.sign_mul] at h
 rcases tri b with q | q | q
 ·rw [Int.sign_eq_neg_one_of_neg q] at h
  rcases tri a with z | z | z
  ·rw [Int.sign_eq_neg_one_of_neg z] at h; cases h
  ·exact absurd z ha
  ·rw [Int.sign_eq_one_of_pos z] at h; cases h
 ·rw [q,Int.sign_zero,Int.mul_zero] at h
  exact absurd (Int.sign_eq_zero_iff_zero.mp h.symm) ha
 ·exact q
theorem zmf {L:Lin} {x x':Nat} {t:Int} (e:L.hld x' = L.hld x + L.second * t) (hs:sgn (L.hld x') = sgn (L.hld x)) (h0:L.hld x ≠ 0) {y:Nat}:∃ y':Nat,sgn (L.val x' y') = sgn (L.val x y):=by
 have big:∀ h:L.second ≠ 0,sgn (L.val x' ((L.hld x').natAbs + 1)) = sgn L.second:=fun h=>by
  rw [zbn,Int.add_comm]; exact zkp (Nat.lt_succ_self _) h
 by_cases c1:sgn (L.val x y) = sgn (L.hld x)
 ·exact ⟨0,by rw [c1,zbn,Int.natCast_zero,Int.mul_zero,Int.add_zero]; exact hs⟩
 by_cases c2:L.second = 0
 ·refine absurd ?_ c1
  rw [zbn,c2,Int.zero_mul,Int.add_zero]
 by_cases c3:sgn (L.val x y) = sgn L.second
 ·exact ⟨_,(big c2).trans c3.symm⟩
 have hy:=Int.natCast_nonneg y
 rw [zbn] at c1 c3 ⊢
 rcases tri (L.hld x + L.second * y) with h | h | h
 ·rw [zb2 h] at c1 c3
  have q1:0 <= L.hld x:=Int.not_lt.mp fun z=>c1 (zb2 z).symm
  have q2:0 <= L.second:=Int.not_lt.mp fun z=>c3 (zb2 z).symm
  exact absurd h (Int.not_lt.mpr (Int.add_nonneg q1 (Int.mul_nonneg q2 hy)))
 ·have e1:L.hld x = L.second * -y:=by rw [Int.mul_neg]; exact (Int.neg_eq_comm.mp (Int.neg_eq_of_add_eq_zero h)).symm
  have e2:L.hld x' = L.second * (-y + t):=by rw [e,e1,Int.mul_add]
  have hy':(0:Int) < y:=Int.lt_iff_le_and_ne.mpr ⟨hy,fun z=>h0 (by rw [e1,<- z,Int.neg_zero,Int.mul_zero])⟩
  have p:0 < -(-(y:Int) + t):=by
   refine zut (a:=-L.second) (fun z=>c2 (Int.neg_eq_zero.mp z)) ?_
   rw [Int.neg_mul_neg,<- e2,<- zhn,hs,zhn,e1,Int.mul_neg,<- Int.neg_mul,Int.sign_mul,Int.sign_eq_one_of_pos hy',Int.mul_one]
  obtain ⟨n,hn⟩:=zyj (Int.le_of_lt p)
  exact ⟨n,by rw [h,zbn,e2,<- hn,<- Int.mul_add,Int.add_right_neg,Int.mul_zero]⟩
 ·rw [zb1 h] at c1 c3
  have q1:L.hld x <= 0:=Int.not_lt.mp fun z=>c1 (zb1 z).symm
  have q2:L.second <= 0:=Int.not_lt.mp fun z=>c3 (zb1 z).symm
  exact absurd h (Int.not_lt.mpr (Int.add_nonpos q1 (Int.mul_nonpos_of_nonpos_of_nonneg q2 hy)))
theorem split8 {s x:Nat} (h1:1 <= s) (h8:s <= 8) (hx:8 <= x):∃ x' q,x = x' + s * q /\ x' < 8 /\ 8 <= x' + s :=
 ⟨8 - s + (x - (8 - s)) % s,(x - (8 - s)) / s,by rw [Nat.add_assoc,Nat.mod_add_div,Nat.add_sub_cancel' (Nat.le_trans (Nat.sub_le _ _) hx)],
  Nat.lt_of_lt_of_le (Nat.add_lt_add_left (Nat.mod_lt _ h1) _) (Nat.le_of_eq (Nat.sub_add_cancel h8)),
  by rw [Nat.add_right_comm,Nat.sub_add_cancel h8]; exact Nat.le_add_right _ _⟩
theorem eight {L:Lin} (h:L.Ok) (x:Nat):∃ x',x' < 8 /\ ∀ c,(∃ y:Nat,sgn (L.val x y) = c) ↔ ∃ y:Nat,sgn (L.val x' y) = c:=by
 by_cases hx:x < 8
 ·exact ⟨x,hx,fun c=>Iff.rfl⟩
 by_cases hf:L.first = 0
 ·refine ⟨0,by decide,fun c=>?_⟩
  have e:∀ y:Nat,L.val x y = L.val 0 y:=fun y=>by unfold Lin.val; rw [hf,Int.zero_mul,Int.zero_mul]
  exact ⟨fun ⟨y,q⟩=>⟨y,e y ▸ q⟩,fun ⟨y,q⟩=>⟨y,(e y).symm ▸ q⟩⟩
 have hx8:=Nat.not_lt.mp hx
 have s5:max 1 L.second.natAbs + L.start.natAbs <= 5:=Nat.le_trans (Nat.add_le_add_right (Nat.max_le.mpr ⟨Nat.le_trans (Int.natAbs_pos.mpr hf) (Nat.le_add_right _ _),Nat.le_add_left _ _⟩) _) h.l1
 have s8:=Nat.le_trans (Nat.le_trans (Nat.le_add_right _ _) s5) (by decide:5 <= 8)
 obtain ⟨x',q,e1,e2,e3⟩:=split8 (Nat.le_max_left 1 L.second.natAbs) s8 hx8
 have n1:sgn (L.hld x) = sgn L.first:=zkp (Nat.lt_of_le_of_lt (st_bd h) (Nat.lt_of_lt_of_le (by decide) hx8)) hf
 have n2:sgn (L.hld x') = sgn L.first:=zkp (Nat.lt_of_add_lt_add_right (Nat.lt_of_lt_of_le (Nat.lt_of_le_of_lt (Nat.add_comm _ _ ▸ s5) (by decide)) e3)) hf
 have nz:∀ z:Nat,sgn (L.hld z) = sgn L.first -> L.hld z ≠ 0:=fun z hz h0=>by
  rw [h0,zhn L.first] at hz
  exact hf (Int.sign_eq_zero_iff_zero.mp hz.symm)
 by_cases h0:L.second = 0
 ·refine ⟨x',e2,fun c=>?_⟩
  have e:∀ y:Nat,sgn (L.val x y) = sgn (L.val x' y):=fun y=>by rw [zbn,zbn,h0,Int.zero_mul,Int.add_zero,Int.add_zero,n1,n2]
  exact ⟨fun ⟨y,q⟩=>⟨y,e y ▸ q⟩,fun ⟨y,q⟩=>⟨y,(e y).symm ▸ q⟩⟩
 have ex:∃ u:Int,L.hld x = L.hld x' + L.second * u:=by
  have d:L.hld x = L.hld x' + ((L.second.natAbs:Nat):Int) * (L.first * q):=by
   unfold Lin.hld
   rw [e1,Nat.max_eq_right (Int.natAbs_pos.mpr h0),Int.natCast_add,Int.natCast_mul,Int.mul_add,Int.mul_left_comm,Int.add_right_comm]
  rcases Int.natAbs_eq L.second with z | z
  ·exact ⟨L.first * q,by rw [<- z] at d; exact d⟩
  ·exact ⟨-(L.first * q),by rw [d,Int.mul_neg,<- Int.neg_mul,<- Int.neg_eq_comm.mp z.symm]⟩
 obtain ⟨u,hu⟩:=ex
 refine ⟨x',e2,fun c=>⟨?_,?_⟩⟩
 ·rintro ⟨y,rfl⟩
  exact zmf (t:=-u) (by rw [hu,Int.mul_neg,Int.add_neg_cancel_right]) (n2.trans n1.symm) (nz x n1)
 ·rintro ⟨y,rfl⟩
  exact zmf hu (n1.trans n2.symm) (nz x' n2)
theorem zsr {L:Lin} (h:L.Ok) (tk:Int -> Bool) (x:Nat):∃ x',x' < 8 /\ ((∃ y:Nat,tk (sgn (L.val x y)) = true) ↔ L.any tk x' = true) /\ ((∀ y:Nat,tk (sgn (L.val x y)) = true) ↔ L.all tk x' = true):=by
 obtain ⟨x',h1,h2⟩:=eight h x
 have hb:=zrw h (x:=x') (Nat.le_trans ‹_› (by decide))
 refine ⟨x',h1,?_,?_⟩
 ·rw [zl0 hb]
  constructor
  ·rintro ⟨y,q⟩
   obtain ⟨y',e⟩:=(h2 _).mp ⟨y,rfl⟩
   exact ⟨y',by rw [e]; exact q⟩
  ·rintro ⟨y,q⟩
   obtain ⟨y',e⟩:=(h2 _).mpr ⟨y,rfl⟩
   exact ⟨y',by rw [e]; exact q⟩
 ·rw [ztt hb]
  constructor
  ·intro q y
   obtain ⟨y',e⟩:=(h2 _).mpr ⟨y,rfl⟩
   rw [<- e]; exact q y'
  ·intro q y
   obtain ⟨y',e⟩:=(h2 _).mp ⟨y,rfl⟩
   rw [<- e]; exact q y'
end L1
end Mine
end
section
namespace Mine
open PySem PySem.SeqAt PySem.W PySem.Calls
theorem f1_t:P1.fn 83 = tokS fun i=>decide (i < 256):=rfl
theorem f1_e:P1.fn 97 = tokS fun i=>decide (i = 0):=rfl
noncomputable def signS:Spec:=Sp (fun a:Int × Nat=>[.int a.1,.int (a.2:Nat)]) [] noKw fun a cs K=>K (.int (L1.sgP a)) cs
section
variable {cs:List Cell} {K:KV} {b:Bool} {x:Int}
theorem zpk (e:decide (x < 256) = b) (k:K (.bool b) cs):CallR P1 cs K (.adr 83) [.int x] []:=zac f1_t x (by show K (.bool (decide (x < 256))) cs; rw [e]; exact k)
theorem zss (e:decide (x = 0) = b) (k:K (.bool b) cs):CallR P1 cs K (.adr 97) [.int x] []:=zac f1_e x (by show K (.bool (decide (x = 0))) cs; rw [e]; exact k)
end
section
variable {C:Cx} {K:Frag} (F2:Facts2 C P1 K) (L:LimAt C)
include F2 L
theorem z0y (Fk:FnK K 267 F_law_sign) (B:Bd2 K 267 (S "carry") (S "mark")):FnOk C.up 267 signS :=
 fn2 (sl:=fun a:Int × Nat=>[some (.int a.1),some (.int (a.2:Nat)),none,none]) F2 L Fk (zo4 T1) B (fun _=>rfl) fun a cs K' q=>by
  obtain ⟨c,m⟩:=a
  unfold L1.sgP at q
  dsimp only at q
  by_cases h1:c < 0
  ·rw [if_pos h1] at q
   exact .addI (zpk (decide_eq_true (by lia)) (zss (decide_eq_false (Int.ne_of_lt ‹_›)) (.is (.bool _ _) (.is (.bool _ _) (.is (.bool _ _) (.neg q))))))
  ·rw [if_neg h1] at q
   by_cases h2:c = 0
   ·rw [if_pos h2] at q
    exact .addI (zpk (decide_eq_false (by lia)) (zss (decide_eq_true h2) (.is (.bool _ _) (.is (.bool _ _) q))))
   ·rw [if_neg h2] at q
    exact .addI (zpk (decide_eq_false (by lia)) (zss (decide_eq_false h2) (.is (.bool _ _) (.is (.bool _ _) (.is (.bool _ _) q)))))
end
structure RowsAt (cs:List Cell) (r:Nat) (as:List Nat) (rs:List (List Nat)):Prop where
 h:cs[r]? = some (.list (as.map V.ref))
 l:as.length = rs.length
 at_:∀ (i a:Nat) (row:List Nat),as[i]? = some a -> rs[i]? = some row -> cs[a]? = some (.list (natV row))
structure RowsOk (rs:List (List Nat)):Prop where
 n:rs.length <= 22
 four:∀ row ∈ rs,row.length = 4
theorem RowsAt.get {cs:List Cell} {r:Nat} {as:List Nat} {rs:List (List Nat)} (R:RowsAt cs r as rs) {i:Nat} (hi:i < rs.length):∃ a row,(as.map V.ref)[i]? = some (.ref a) /\ rs[i]? = some row /\ cs[a]? = some (.list (natV row)):=by
 have h1:i < as.length:=R.l ▸ hi
 refine ⟨as[i],rs[i],by rw [List.getElem?_map,List.getElem?_eq_getElem h1]; rfl,List.getElem?_eq_getElem hi,R.at_ i _ _ (List.getElem?_eq_getElem h1) (List.getElem?_eq_getElem hi)⟩
theorem RowsAt.none {cs:List Cell} {r:Nat} {as:List Nat} {rs:List (List Nat)} (R:RowsAt cs r as rs):(as.map V.ref)[rs.length]? = .none:=by rw [List.getElem?_eq_none]; rw [List.length_map,R.l]; exact Nat.le_refl _
theorem zjh {row:List Nat} {d:Nat} (h:d < row.length):idxV (natV row) (d:Int) = some (.int (row.getD d 0:Nat)):=by
 rw [zbs,natV,List.getElem?_map,List.getD_eq_getElem?_getD,List.getElem?_eq_getElem h]; rfl
theorem zgy {rs:List (List Nat)} {i d:Nat} {row:List Nat} (h:rs[i]? = some row):L1.nxt rs i d = row.getD d 0:=by unfold L1.nxt; rw [h]; rfl
noncomputable def mv (m:List Bool):List V:=m.map V.bool
theorem mv_at {m:List Bool} {k:Nat} (h:k < m.length):idxV (mv m) (k:Int) = some (.bool (L1.mk m k)):=by
 rw [zbs,mv,List.getElem?_map,L1.mk,List.getD_eq_getElem?_getD,List.getElem?_eq_getElem h]; rfl
noncomputable def ledG (rs:List (List Nat)) (m:List Bool) (k:Nat):Bool:=L1.mk m k || (L1.mk m (L1.nxt rs k 0) || L1.mk m (L1.nxt rs k 1))
section
variable {cs:List Cell} {r:Nat} {as:List Nat} {rs:List (List Nat)} {m:List Bool}
theorem z1n {K:KV} {i a:Nat} {row:List Nat} {s0 s3:Option V} {tl:Slots} (ha:cs[a]? = some (.list (natV row))) (hr:rs[i]? = some row) (h4:row.length = 4) (hi:i < m.length) (h0:row.getD 0 0 < m.length) (h1:row.getD 1 0 < m.length) (q:K (.bool (ledG rs m i)) cs) :
  (zeq.sem P4).val (s0 :: some (.int i) :: some (.ref a) :: s3 :: some (.lst (mv m)) :: tl) cs K:=by
 unfold ledG at q
 rw [zgy hr,zgy hr] at q
 refine ⟨_,.seq (.lst _) (mv_at hi),?_⟩
 cases hb:L1.mk m i with
 | true=>rw [hb] at q; exact q
 | false =>
  rw [hb] at q
  refine ⟨_,.seq (.ref ha) (zjh (d:=0) (by lia)),_,.seq (.lst _) (mv_at h0),?_⟩
  cases hb0:L1.mk m (row.getD 0 0) with
  | true=>rw [hb0] at q; exact q
  | false =>
   rw [hb0] at q
   exact ⟨_,.seq (.ref ha) (zjh (d:=1) (by lia)),_,.seq (.lst _) (mv_at h1),q⟩
theorem zv6 {K:List V -> List Cell -> Prop} {s3:Option V} {tl:Slots} (R:RowsAt cs r as rs) (O:RowsOk rs) (B:L1.Okr rs) (hm:m.length = rs.length) (q:K (mv (L1.ledT rs m)) cs) (n:Nat):∀ (i:Nat) ,i + n = rs.length ->
  CompR zgu (boolT .And (IE.sems P4 zg3)) (emitL (zeq.sem P4).val) (none :: none :: none :: s3 :: some (.lst (mv m)) :: tl) K (mv ((List.range i).map (ledG rs m))) (.enumc r i) cs:=by
 induction n with
 | zero=>intro i e; cases (e:i = _); exact .done (.enumc R.h R.none) q
 | succ n ih =>
  intro i e
  have hi:i < rs.length:=zf0 ‹_›
  obtain ⟨a,row,h1,h2,h3⟩:=R.get hi
  have h4:=O.four row (List.mem_of_getElem? h2)
  have b0:=B i 0 hi (by decide)
  have b1:=B i 1 hi (by decide)
  rw [zgy h2] at b0 b1
  refine .go (.enumc R.h h1) rfl ⟨?_,z1n h3 h2 h4 (hm ▸ hi) (hm ▸ b0) (hm ▸ b1) ?_⟩
  ·rw [mv,List.length_map,List.length_map,List.length_range]; have:=O.n; show i < 8388608; exact Nat.lt_of_le_of_lt (Nat.le_trans (Nat.le_of_lt ‹_›) ‹_›) (by decide)
  ·have e1:mv ((List.range i).map (ledG rs m)) ++ [.bool (ledG rs m i)] = mv ((List.range (i + 1)).map (ledG rs m)):=by rw [List.range_succ,List.map_append,mv,mv,List.map_append]; rfl
   rw [e1]
   exact ih (i + 1) (ind_s ‹_›)
theorem zv4 {K:KF} (R:RowsAt cs r as rs) (O:RowsOk rs) (B:L1.Okr rs) (hm:m.length = rs.length) (q:∀ o,K .next [some (.ref r),some (.lst (mv (L1.ledN rs m rs.length))),o] cs) (n:Nat):∀ (i:Nat) (o:Option V),i + n = rs.length ->
  ForR zgv (bden (IS.sems P4 zhe)) K (.cell r i) [some (.ref r),some (.lst (mv (L1.ledN rs m i))),o] cs:=by
 induction n with
 | zero=>intro i o e; cases (e:i = _); exact .done (.cell R.h R.none) (q o)
 | succ n ih =>
  intro i o e
  have hi:i < rs.length:=zf0 ‹_›
  obtain ⟨a,row,h1,h2,h3⟩:=R.get hi
  have hl:(L1.ledN rs m i).length = rs.length:=by
   cases i with
   | zero=>exact hm
   | succ i=>exact L1.zic _ _
  refine .go (.cell R.h h1) rfl ⟨rfl,.enum (.cell R.h) (zv6 R O B hl ?_ rs.length 0 (Nat.zero_add _))⟩
  refine ⟨?_,ih (i + 1) _ (ind_s ‹_›)⟩
  rw [mv,List.length_map,L1.zic]; have:=O.n; show _ <= 8388608; exact Nat.le_trans ‹_› (by decide)
theorem zvd {K:List V -> List Cell -> Prop} {sl:Slots} (r:List Bool):∀ (acc:List V),acc.length + r.length <= 1000 -> K (acc ++ natV (r.map Bool.toNat)) cs -> CompR zec (boolT .And (IE.sems P4 zem)) (emitL (zep.sem P4).val) (none :: none :: sl) K acc (.items (mv r)) cs:=by
 suffices h:∀ (acc:List V) (o:Option V),acc.length + r.length <= 1000 -> K (acc ++ natV (r.map Bool.toNat)) cs -> CompR zec (boolT .And (IE.sems P4 zem)) (emitL (zep.sem P4).val) (none :: none :: sl) K acc (.items (mv r)) cs from fun acc=>h acc none
 induction r with
 | nil=>exact fun acc _ _ q=>.done .items (by rw [<- List.append_nil acc]; exact q)
 | cons b r ih =>
  intro acc o hl q
  rw [List.length_cons] at hl
  refine .go (.items _ _) rfl ⟨Nat.lt_of_lt_of_le (zc9 ‹_›:acc.length < 1000) (by decide),.intB ?_⟩
  refine ih _ none (by rw [List.length_append,List.length_singleton]; exact zda ‹_›) ?_
  rw [List.append_assoc]
  have e:V.int (if b = true then 1 else 0) = .int (b.toNat:Nat):=by cases b <;> rfl
  rw [e]
  exact q
end
theorem zpc (m:List Bool):val 1 (m.map Bool.toNat) = L1.bmask m:=by
 induction m with
 | nil=>rfl
 | cons b m ih =>
  show b.toNat + 2 ^ 1 * val 1 (m.map Bool.toNat) = b.toNat + 2 * L1.bmask m
  rw [ih]
theorem zxr (m:List Bool):L1.bmask m < 2 ^ m.length:=by
 induction m with
 | nil=>decide
 | cons b m ih =>
  show b.toNat + 2 * L1.bmask m < 2 ^ (m.length + 1)
  rw [Nat.pow_succ]
  have:b.toNat <= 1:=by cases b <;> decide
  lia
structure LdA where
 r:Nat
 as:List Nat
 rs:List (List Nat)
 m:List Bool
structure LdOk (a:LdA) (cs:List Cell):Prop where
 t:cs[1]? = some (.tab 54 (posOf F_d2i) qD2I)
 R:RowsAt cs a.r a.as a.rs
 O:RowsOk a.rs
 B:L1.Okr a.rs
 m:a.m.length = a.rs.length
noncomputable def ledS:Spec:=Sp (fun a:LdA=>[.ref a.r,.lst (mv a.m)]) [] noKw fun a cs K=>LdOk a cs /\ K (.int (L1.bmask (L1.ledN a.rs a.m a.rs.length):Nat)) cs
section
variable {C:Cx} {K:Frag} (F2:Facts2 C P4 K) (L:LimAt C)
include F2 L
theorem ok_led (Fk:FnK K 272 F_law_led) (B:Bd2 K 272 (S "rows") (S "marked")):FnOk C.up 272 ledS :=
 fn2 (sl:=fun a:LdA=>[some (.ref a.r),some (.lst (mv a.m)),none]) F2 L Fk (ztw T4) B (fun _=>rfl) fun a cs K' q=>by
  have h:=q.1
  have hl:(L1.ledN a.rs a.m a.rs.length).length = a.rs.length:=by
   cases e:a.rs.length with
   | zero=>show a.m.length = 0; rw [h.m,e]
   | succ n=>exact (L1.zic _ _).trans e
  have h22:=h.O.n
  refine ⟨_,.cell h.R.h,zv4 h.R h.O h.B h.m (fun o=>?_) a.rs.length 0 none (Nat.zero_add _)⟩
  refine ⟨_,.lst _,zvd _ [] (by rw [List.length_nil,hl]; lia) ⟨?_,?_⟩⟩
  ·rw [List.nil_append,natV,List.length_map,List.length_map,hl]; show _ <= 8388608; exact Nat.le_trans ‹_› (by decide)
  ·refine zac zyr ⟨_,(L1.ledN a.rs a.m a.rs.length).map Bool.toNat,1⟩ ⟨⟨h.t,.lst _,?_,?_,?_⟩,?_⟩
   ·rw [List.length_map,hl]; exact Nat.le_trans ‹_› (by decide)
   ·rw [List.length_map,hl]; show 1 * _ <= 4000; lia
   ·rw [zpc]; exact Nat.lt_of_lt_of_le (zxr _) (Nat.pow_le_pow_right (by decide) (by rw [hl]; exact Nat.le_trans ‹_› (by decide)))
   ·rw [zpc]; exact q.2
end
theorem WhileR.go {test:Slots -> List Cell -> KB -> Prop} {body:Slots -> List Cell -> KF -> Prop} {K:KF} {sl:Slots} {cs:List Cell}
  (h:test sl cs fun b c=>Bool.rec (K .next sl c) (body sl c fun fl sl' cs'=>Fl.rec (WhileR test body K sl' cs') (K .next sl' cs') (WhileR test body K sl' cs') (fun v=>K (.ret v) sl' cs') fl) b):WhileR test body K sl cs :=
 .mk (fun b c=>Bool.rec (K .next sl c) (body sl c fun fl sl' cs'=>Fl.rec (WhileR test body K sl' cs') (K .next sl' cs') (WhileR test body K sl' cs') (fun v=>K (.ret v) sl' cs') fl) b)
  (fun fl sl' cs'=>Fl.rec (WhileR test body K sl' cs') (K .next sl' cs') (WhileR test body K sl' cs') (fun v=>K (.ret v) sl' cs') fl) h (fun c q=>q) (fun c q=>q)
  (fun fl sl' cs' g q=>by cases fl <;> first | exact q | cases g) (fun fl sl' cs' g q=>by cases fl <;> first | exact q | cases g)
section
variable {c:Bool} {cs:List Cell} {K:KV} {a b k z:Nat}
theorem BinR.shrN (e:a / 2 ^ k = z) (q:K (.int (z:Nat)) cs):BinR c cs K .RShift (.int (a:Nat)) (.int (k:Nat)):=.shrI (Int.natCast_nonneg _) (by rw [Int.toNat_natCast,zko,e]; exact q)
theorem BinR.andN (e:a &&& b = z) (q:K (.int (z:Nat)) cs):BinR c cs K .BitAnd (.int (a:Nat)) (.int (b:Nat)):=.andI (by rw [zes,e]; exact q)
theorem BinR.orN (e:a ||| b = z) (q:K (.int (z:Nat)) cs):BinR c cs K .BitOr (.int (a:Nat)) (.int (b:Nat)):=.orI (by rw [zj0,e]; exact q)
theorem BinR.shlN (h:k <= 4000) (q:K (.int (1 <<< k:Nat)) cs):BinR c cs K .LShift (.int 1) (.int (k:Nat)):=.shlI ⟨Int.natCast_nonneg _,by exact Int.ofNat_le.mpr ‹_›,by decide +kernel⟩ (by
 rw [Int.toNat_natCast,Int.one_mul]
 rw [Nat.one_shiftLeft,Int.natCast_pow] at q
 exact q)
end
theorem z2v (m k:Nat):(m / 2 ^ k) &&& 1 = (m.testBit k).toNat:=by
 rw [Nat.and_one_is_mod,Nat.toNat_testBit]
theorem zmw {α:Type} [DecidableEq α] (p:α) (l:List α) (h:p ∈ l):L1.idx p l < l.length /\ ∀ m,m < L1.idx p l -> l[m]? ≠ some p:=by
 induction l with
 | nil=>cases h
 | cons a l ih =>
  show (if a = p then 0 else L1.idx p l + 1) < _ /\ ∀ m,m < (if a = p then 0 else L1.idx p l + 1) -> _
  by_cases e:a = p
  ·rw [if_pos e]; exact ⟨Nat.succ_pos _,fun m hm=>nomatch hm⟩
  ·rw [if_neg e]
   obtain ⟨h1,h2⟩:=ih ((List.mem_cons.mp h).resolve_left fun z=>e z.symm)
   refine ⟨Nat.succ_lt_succ h1,fun m hm=>?_⟩
   cases m with
   | zero=>exact fun z=>e (Option.some.inj z)
   | succ m=>exact h2 m (Nat.lt_of_succ_lt_succ hm)
theorem z3i {α:Type} [DecidableEq α] (p:α) (l:List α):(List.range l.length).any (fun j=>decide (l[j]? = some p)) = decide (p ∈ l):=by
 rw [Bool.eq_iff_iff,List.any_eq_true,decide_eq_true_iff]
 constructor
 ·rintro ⟨j,_,h⟩
  exact List.mem_of_getElem? (of_decide_eq_true h)
 ·intro h
  obtain ⟨j,hj,e⟩:=List.getElem_of_mem h
  exact ⟨j,List.mem_range.mpr hj,decide_eq_true (by rw [List.getElem?_eq_getElem hj,e])⟩
theorem zse {cs:List Cell} (l:List Nat) (p:Nat):Fnd cs (natV l) (.int (p:Nat)) fun j=>decide (l[j]? = some p) :=
 zjs (fun n:Nat=>V.int n) (fun q=>by rw [<- decide_eq_decide.mpr (Int.ofNat_inj (m:=q) (n:=p))]; exact .int _ _ _) (fun g q z y r s=>Int.ofNat_inj.mp (zie r s)) l
noncomputable def refs (b m:Nat):List V:=(List.range m).map fun i=>V.ref (b + i)
theorem zja (b m:Nat):refs b m ++ [.ref (b + m)] = refs b (m + 1):=by rw [refs,refs,List.range_succ,List.map_append]; rfl
theorem zbj (b m:Nat):(refs b m).length = m:=by rw [refs,List.length_map,List.length_range]
theorem zdy (b m:Nat):idxV (refs b (m + 1)) (-1) = some (.ref (b + m)):=by
 unfold idxV
 rw [if_neg (by decide),zbj,if_pos (by lia),show ((-1:Int) + ((m + 1:Nat):Int)).toNat = m by lia,refs,List.getElem?_map,List.getElem?_range (Nat.lt_succ_self m)]
 rfl
noncomputable def scs (cs:List Cell) (S:List Nat) (W:List (List Nat)):List Cell:=cs ++ ([.list (natV S),.list (refs (cs.length + 2) W.length)] ++ W.map fun w=>Cell.list (natV w))
section
variable {cs:List Cell} {S:List Nat} {W:List (List Nat)} {w:List Nat}
theorem scs_s:(scs cs S W)[cs.length]? = some (.list (natV S)):=zan cs _ 0
theorem scs_w:(scs cs S W)[cs.length + 1]? = some (.list (refs (cs.length + 2) W.length)):=zan cs _ 1
theorem zs8 {α:Type} (a b:α) (l:List α) (i:Nat):([a,b] ++ l)[2 + i]? = l[i]?:=zan [a,b] l i
theorem scs_i {i:Nat} (h:W[i]? = some w):(scs cs S W)[cs.length + 2 + i]? = some (.list (natV w)):=by
 rw [scs,Nat.add_assoc,zan,zs8,List.getElem?_map,h]; rfl
theorem zz7:(scs cs S W).length = cs.length + 2 + W.length:=by
 rw [scs,List.length_append,List.length_append,List.length_map]
 show cs.length + (2 + W.length) = _
 exact (Nat.add_assoc _ _ _).symm
theorem zu3 (S':List Nat):(scs cs S W).set cs.length (.list (natV S')) = scs cs S' W:=zbh cs _ 0 _
theorem zu2 (w':List Nat):(scs cs S (W ++ [w])).set (cs.length + 2 + W.length) (.list (natV w')) = scs cs S (W ++ [w']):=by
 have h:=zc8 (W.map fun w=>Cell.list (natV w)) (Cell.list (natV w)) (Cell.list (natV w'))
 have h2:=zbh [Cell.list (natV S),.list (refs (cs.length + 2) (W.length + 1))] (W.map (fun w=>Cell.list (natV w)) ++ [Cell.list (natV w)]) W.length (Cell.list (natV w'))
 rw [List.length_map] at h
 rw [h] at h2
 rw [scs,scs,Nat.add_assoc,zbh,List.map_append,List.map_append,List.length_append,List.length_append]
 exact congrArg (cs ++ ·) h2
theorem zz6:(scs cs S W ++ [Cell.list []]).set (cs.length + 1) (Cell.list (refs (cs.length + 2) W.length ++ [V.ref (scs cs S W).length])) = scs cs S (W ++ [[]]):=by
 rw [zz7,zja,scs,scs,List.append_assoc,zbh,List.map_append,List.length_append]
 rfl
theorem zfa {r:Nat} {as:List Nat} {rs:List (List Nat)} (R:RowsAt cs r as rs):RowsAt (scs cs S W) r as rs :=
 ⟨by rw [scs,List.getElem?_append_left (zaa R.h)]; exact R.h,R.l,fun i a row h1 h2=>by have:=R.at_ i a row h1 h2; rw [scs,List.getElem?_append_left (zaa this)]; exact this⟩
end
noncomputable abbrev ssl (r n:Nat) (f t k w:Option V):Slots:=[some (.ref r),some (.ref n),some (.ref (n + 1)),f,t,k,w]
theorem zli {α:Type} (f:α -> Nat -> α) (a:α) (n:Nat):(List.range (n + 1)).foldl f a = f ((List.range n).foldl f a) n:=by rw [List.range_succ,List.foldl_append]; rfl
section
variable {K:KF} {cs:List Cell} {r:Nat} {as:List Nat} {rs:List (List Nat)} {S:List Nat} {W:List (List Nat)} {w:List Nat} {mask fig:Nat}
theorem zuv {i a acc:Nat} {row:List Nat} {k0 w0:Option V} (hS:S[W.length]? = some mask) (hi:(as.map V.ref)[i]? = some (.ref a)) (hrow:rs[i]? = some row) (ha:(scs cs S (W ++ [w]))[a]? = some (.list (natV row))) (hr:(scs cs S (W ++ [w]))[r]? = some (.list (as.map V.ref))) (h4:row.length = 4) (hf:fig + 1 < 4) (h22:∀ d ∈ row,d <= 22)
  (q:ForR zcc (bden (IS.sems P0 zcp)) K (.enumc r (i + 1)) (ssl r cs.length (some (.int (fig:Nat))) (some (.int (L1.setF rs mask fig acc i:Nat))) (some (.int (i:Nat))) (some (.ref a))) (scs cs S (W ++ [w]))) :
  ForR zcc (bden (IS.sems P0 zcp)) K (.enumc r i) (ssl r cs.length (some (.int (fig:Nat))) (some (.int (acc:Nat))) k0 w0) (scs cs S (W ++ [w])):=by
 have hb:∀ d,d < 4 -> row.getD d 0 <= 4000:=fun d hd=>by
  rw [List.getD_eq_getElem?_getD,List.getElem?_eq_getElem (by lia)]
  exact Nat.le_trans (h22 _ (List.getElem_mem _)) (by decide)
 refine .go (.enumc hr hi) rfl (.lenL (.ref scs_w) (.subI' (z:=(W.length:Nat)) (by rw [zbj,List.length_append,List.length_singleton]; lia) ⟨_,.seq (.ref scs_s) (by rw [zbs,natV,List.getElem?_map,hS]; rfl),.shrN rfl (.andN (b:=1) (z2v mask i) ?_)⟩))
 unfold L1.setF at q
 cases hb1:mask.testBit i with
 | false =>
  rw [if_neg (by rw [hb1]; decide)] at q
  exact .eq (.intF (by decide)) q
 | true =>
  rw [if_pos hb1,zgy hrow,zgy hrow] at q
  refine .eq (.intT rfl) ⟨_,.seq (.ref ha) (zjh (d:=fig) (by lia)),.shlN (hb fig (zc9 ‹_›)) (.orN rfl (.addI' (z:=((fig + 1:Nat):Int)) (Int.natCast_add _ _).symm ⟨_,.seq (.ref ha) (zjh (d:=fig + 1) (by lia)),.shlN (hb _ (zda ‹_›)) (.orN rfl q)⟩))⟩
theorem zux (R:RowsAt cs r as rs) (O:RowsOk rs) (B:∀ row ∈ rs,∀ d ∈ row,d <= 22) (hS:S[W.length]? = some mask) (hf:fig + 1 < 4) (q:∀ k0 w0,K .next (ssl r cs.length (some (.int (fig:Nat))) (some (.int (L1.setS rs mask fig:Nat))) k0 w0) (scs cs S (W ++ [w]))) (n:Nat):∀ (i:Nat) (k0 w0:Option V),i + n = rs.length ->
  ForR zcc (bden (IS.sems P0 zcp)) K (.enumc r i) (ssl r cs.length (some (.int (fig:Nat))) (some (.int ((List.range i).foldl (L1.setF rs mask fig) 0:Nat))) k0 w0) (scs cs S (W ++ [w])):=by
 induction n with
 | zero=>intro i k0 w0 e; cases (e:i = _); exact .done (.enumc (zfa R).h R.none) (q _ _)
 | succ n ih =>
  intro i k0 w0 e
  have hi:i < rs.length:=zf0 ‹_›
  obtain ⟨a,row,h1,h2,h3⟩:=(zfa (S:=S) (W:=W ++ [w]) R).get hi
  refine zuv hS h1 h2 h3 (zfa R).h (O.four row (List.mem_of_getElem? h2)) hf (B row (List.mem_of_getElem? h2)) ?_
  rw [<- zli (L1.setF rs mask fig) 0 i]
  exact ih (i + 1) _ _ (ind_s ‹_›)
theorem zpb {K:KF} {p:Nat} {f k0 w0:Option V} (hl:S.length < lim) (hw:w.length < lim) (q:K .next (ssl r cs.length f (some (.int (p:Nat))) k0 w0) (scs cs (L1.visit (S,w) p).1 (W ++ [(L1.visit (S,w) p).2]))) :
  bden (IS.sems P0 (zco.drop 2)) (ssl r cs.length f (some (.int (p:Nat))) k0 w0) (scs cs S (W ++ [w])) K:=by
 have app:∀ {S':List Nat},p ∈ S' -> K .next (ssl r cs.length f (some (.int (p:Nat))) k0 w0) (scs cs S' (W ++ [w ++ [L1.idx p S']])) -> bden (IS.sems P0 (zco.drop 3)) (ssl r cs.length f (some (.int (p:Nat))) k0 w0) (scs cs S' (W ++ [w])) K:=by
  intro S' hm q
  have hlast:(scs cs S' (W ++ [w]))[cs.length + 2 + W.length]? = some (.list (natV w)):=scs_i (by rw [List.getElem?_append_right (Nat.le_refl _),Nat.sub_self]; rfl)
  have h:=zmw p S' hm
  have hw':=scs_w (cs:=cs) (S:=S') (W:=W ++ [w])
  rw [List.length_append,List.length_singleton] at hw'
  refine .neg ⟨_,.seq (.ref hw') (zdy _ _),.append hlast,.index (.ref scs_s),.index (fun j=>decide (S'[j]? = some p)) (L1.idx p S') (.ref scs_s) (zse _ _) (by rw [natV,List.length_map]; exact h.1) (decide_eq_true (L1.zlb hm)) (fun m hm=>decide_eq_false (h.2 m hm)) (.append hlast (by rw [natV,List.length_map]; exact hw) ?_)⟩
  have e:natV w ++ [V.int (L1.idx p S':Nat)] = natV (w ++ [L1.idx p S']):=by rw [natV,natV,List.map_append]; rfl
  rw [e,zu2]
  exact q
 refine .notInL (fun j=>decide (S[j]? = some p)) (.ref scs_s) (zse _ _) ?_
 have e:(natV S).length = S.length:=List.length_map _
 rw [e,z3i]
 unfold L1.visit at q
 by_cases hm:p ∈ S
 ·rw [if_pos hm] at q
  rw [decide_eq_true hm]
  exact app hm q
 ·rw [if_neg hm] at q
  rw [decide_eq_false hm]
  refine ⟨.append scs_s,.append scs_s (by rw [e]; exact hl) ?_⟩
  have e2:natV S ++ [V.int (p:Nat)] = natV (S ++ [p]):=by rw [natV,natV,List.map_append]; rfl
  rw [e2,zu3]
  exact app (List.mem_append_right _ (List.mem_singleton.mpr rfl)) q
theorem zsi {t0 k0 w0:Option V} (R:RowsAt cs r as rs) (O:RowsOk rs) (B:∀ row ∈ rs,∀ d ∈ row,d <= 22) (hS:S[W.length]? = some mask) (hf:fig + 1 < 4) (hl:S.length < lim) (hw:w.length < lim)
  (q:∀ k0 w0,K .next (ssl r cs.length (some (.int (fig:Nat))) (some (.int (L1.setS rs mask fig:Nat))) k0 w0) (scs cs (L1.visit (S,w) (L1.setS rs mask fig)).1 (W ++ [(L1.visit (S,w) (L1.setS rs mask fig)).2]))) :
  bden (IS.sems P0 zco) (ssl r cs.length (some (.int (fig:Nat))) t0 k0 w0) (scs cs S (W ++ [w])) K:=by
 refine ⟨rfl,.enum (.cell (zfa R).h) (zux R O B hS hf (fun k0 w0=>?_) rs.length 0 _ _ (Nat.zero_add _))⟩
 exact zpb hl hw (q _ _)
end
section
variable {K:KF} {cs:List Cell} {r:Nat} {as:List Nat} {rs:List (List Nat)} {S:List Nat} {W:List (List Nat)} {mask:Nat}
noncomputable def wtest:IE:=.cmp (.call true (Mine.S "len") 0 (pp 295 10 13) [(.nm (Mine.S "ways") 2 (pp 295 14 18))] (pp 295 10 19)) .Lt (.call true (Mine.S "len") 0 (pp 295 22 25) [(.nm (Mine.S "sets") 1 (pp 295 26 30))] (pp 295 22 31)) (pp 295 10 31)
noncomputable abbrev SetW (K:KF) (sl:Slots) (cs:List Cell):Prop:=WhileR (wtest.sem P0).tst (bden (IS.sems P0 zga)) K sl cs
theorem zi2 {α:Type} [DecidableEq α] (S:List α) (w:List Nat) (p:α):(L1.visit (S,w) p).1.length <= S.length + 1 /\ (L1.visit (S,w) p).2.length = w.length + 1 /\ ∃ t,(L1.visit (S,w) p).1 = S ++ t:=by
 unfold L1.visit
 dsimp only
 split
 ·exact ⟨Nat.le_succ _,by rw [List.length_append,List.length_singleton],[],(List.append_nil _).symm⟩
 ·exact ⟨by rw [List.length_append,List.length_singleton]; exact Nat.le_refl _,by rw [List.length_append,List.length_singleton],_,rfl⟩
theorem zkd {f t k w:Option V} (R:RowsAt cs r as rs) (O:RowsOk rs) (B:∀ row ∈ rs,∀ d ∈ row,d <= 22) (hS:S[W.length]? = some mask) (hl:S.length + 1 < lim)
  (q:∀ f t k w,SetW K (ssl r cs.length f t k w) (scs cs (L1.setT rs S mask).1 (W ++ [(L1.setT rs S mask).2]))):SetW K (ssl r cs.length f t k w) (scs cs S W):=by
 obtain ⟨l1,l2,t1,e1⟩:=zi2 S ([]:List Nat) (L1.setS rs mask 0)
 have hS1:(L1.visit (S,([]:List Nat)) (L1.setS rs mask 0)).1[W.length]? = some mask:=by rw [e1]; exact L1.zbr hS
 have hw:(scs cs S W ++ [Cell.list []])[cs.length + 1]? = some (.list (refs (cs.length + 2) W.length)):=by rw [List.getElem?_append_left (zaa scs_w)]; exact scs_w
 have hr:(refs (cs.length + 2) W.length).length < lim:=by rw [zbj]; have:=zaa hS; lia
 refine .go (.lenL (.ref scs_w) (.lenL (.ref scs_s) (.ltT (by rw [zbj,natV,List.length_map]; exact Int.ofNat_lt.mpr (zaa hS)) ⟨.append scs_w,Nat.zero_le _,.append hw hr ?_⟩)))
 rw [zz6]
 refine ⟨by decide,_,.tup _,.go (.items _ _) rfl (zsi (fig:=0) R O B hS (by decide) (zc9 ‹_›) (by decide) fun k0 w0=>?_)⟩
 exact .go (.items _ _) rfl (zsi (fig:=2) R O B hS1 (by decide) (Nat.lt_of_le_of_lt ‹_› ‹_›) (by rw [l2]; decide) fun k0 w0=>.done .items (q _ _ _ _))
theorem zqa {L:L1.Lin} {found:List L1.P} (T:L1.Tab L found rs) (I:L1.SInv rs S W) (h22:rs.length <= 22):S.length <= 2 ^ 22:=by
 refine L1.zmn _ S I.nd fun m hm=>?_
 obtain ⟨x,n,_,St⟩:=I.re m hm
 refine Nat.lt_pow_two_of_testBit m fun i hi=>?_
 cases hb:m.testBit i with
 | false=>rfl
 | true =>
  obtain ⟨y,_,e⟩:=(St i).mp hb
  have:=L1.zx8 T x y n
  lia
theorem zqb {L:L1.Lin} {found:List L1.P} (T:L1.Tab L found rs) (R:RowsAt cs r as rs) (O:RowsOk rs) (B:∀ row ∈ rs,∀ d ∈ row,d <= 22) (q:∀ S W f t k w,L1.STab rs S W -> S.length <= 2 ^ 22 -> K .next (ssl r cs.length f t k w) (scs cs S W)) (n:Nat) :
  ∀ (S:List Nat) (W:List (List Nat)) (f t k w:Option V),2 ^ 22 + 1 <= W.length + n -> L1.SInv rs S W -> SetW K (ssl r cs.length f t k w) (scs cs S W):=by
 induction n with
 | zero =>
  intro S W f t k w hn I
  have h1:=zqa T I O.n
  have:=I.le
  lia
 | succ n ih =>
  intro S W f t k w hn I
  have h1:=zqa T I O.n
  by_cases h:W.length < S.length
  ·refine zkd R O B (List.getElem?_eq_getElem h) (Nat.lt_of_le_of_lt (Nat.succ_le_succ h1) (by decide)) fun f t k w=>ih _ _ _ _ _ _ ?_ (L1.zp6 T I (List.getElem?_eq_getElem h))
   rw [List.length_append,List.length_singleton]; lia
  ·refine .go (.lenL (.ref scs_w) (.lenL (.ref scs_s) (.ltF (by rw [zbj,natV,List.length_map]; lia) (q S W f t k w ⟨I,Nat.le_antisymm I.le (Nat.not_lt.mp h)⟩ h1))))
end
structure StA where
 r:Nat
 as:List Nat
 rs:List (List Nat)
structure StOk (a:StA) (cs:List Cell):Prop where
 T:∃ L found,L1.Tab L found a.rs
 R:RowsAt cs a.r a.as a.rs
 O:RowsOk a.rs
 B:∀ row ∈ a.rs,∀ d ∈ row,d <= 22
noncomputable def setsS:Spec:=Sp (fun a:StA=>[.ref a.r]) [] noKw fun a cs K=>StOk a cs /\ ∀ S W,L1.STab a.rs S W -> S.length <= 2 ^ 22 -> K (.tup [.ref cs.length,.ref (cs.length + 1)]) (scs cs S W)
section
variable {C:Cx} {K:Frag} (F2:Facts2 C P0 K) (L:LimAt C)
include F2 L
theorem z0z (Fk:FnK K 279 F_law_sets) (B:Bd1 K 279 (S "rows")):FnOk C.up 279 setsS :=
 fn1 (sl:=fun a:StA=>[some (.ref a.r),none,none,none,none,none,none]) F2 L Fk (zo5 []) B (fun _=>rfl) fun a cs K' q=>by
  obtain ⟨Lin,found,T⟩:=q.1.T
  have e:cs ++ [Cell.list [V.int 1]] ++ [Cell.list []] = scs cs [1] []:=by rw [List.append_assoc]; rfl
  have el:(cs ++ [Cell.list [V.int 1]]).length = cs.length + 1:=by rw [List.length_append,List.length_singleton]
  have H2:bden (IS.sems P0 [zex,zew]) [some (.ref a.r),some (.ref cs.length),some (.ref (cs ++ [Cell.list [V.int 1]]).length),none,none,none,none] (cs ++ [Cell.list [V.int 1]] ++ [Cell.list []]) fun fl _ c=>K' (retOf fl) c:=by
   rw [e,el]
   exact zqb T q.1.R q.1.O q.1.B (fun S W f t k w h1 h2=>⟨(by decide:2 <= lim),q.2 S W h1 h2⟩) (2 ^ 22 + 1) [1] [] none none none none (by rw [List.length_nil]; exact Nat.le_add_left _ _) (L1.zp5 _)
  exact ⟨by decide,by decide,H2⟩
end
noncomputable def Yc:List Nat:=[40,41,91,93,58,44,59,43,45,42,47,124,38,60,62,61,46,37,123,125,126,94,64,33,120,88,121,89,49]
theorem Y_of:S "()[]:,;+-*/|&<>=.%{}~^@!xXyY1" = mkS Yc:=by rw [S,zaz]; rfl
theorem Y_in:∀ c:Fin 160,Txt.contains (mkS Yc) (mkS [c.val]) = Yc.contains c.val:=by decide +kernel
noncomputable def wm (x:Int):Nat:=((x.fdiv 5).fmod 2).toNat
noncomputable def wf (x:Int):Nat:=((x.fdiv 10).fmod 160).toNat
noncomputable def wl (x:Int):Nat:=[120,88,121,89,49].getD (x.fmod 5).toNat 0
noncomputable def wnames (x:Int):List Nat:=[wl x] ++ (if Yc.contains (wf x) = true then [] else [wf x])
noncomputable def wops:List (List Nat):=[[60],[62],[60,61],[62,61],[61,61],[33,61]]
noncomputable def wop (c:Int):List Nat:=wops.getD (c.fmod 6).toNat []
noncomputable def sgC (b:Nat):Nat:=if b % 2 = 0 then 43 else 45
noncomputable def wpc (c5 x:Int) (p:Nat):List Nat:=(if p = 2 then wop c5 else []) ++ ([sgC (wm x)] ++ wnames x)
noncomputable def wok (c:Nat):Bool:=decide (32 <= c) && !decide (c = 127)
noncomputable def wprs (x:Int) (p:Nat):Hs:=((wnames x).filter wok).map fun c=>(mkS [c],sgT (wm x + min (p / 2) 1))
noncomputable def wtxt (c5:Int) (cc:Nat -> Int) (n:Nat):List Nat:=(List.range n).flatMap fun p=>wpc c5 (cc p) p
noncomputable def wpairs (cc:Nat -> Int) (n:Nat):Hs:=(List.range n).flatMap fun p=>wprs (cc p) p
theorem zbd (c5:Int) (cc:Nat -> Int) (n:Nat):wtxt c5 cc (n + 1) = wtxt c5 cc n ++ wpc c5 (cc n) n:=by rw [wtxt,wtxt,List.range_succ,List.flatMap_append]; simp
theorem zaq (cc:Nat -> Int) (n:Nat):wpairs cc (n + 1) = wpairs cc n ++ wprs (cc n) n:=by rw [wpairs,wpairs,List.range_succ,List.flatMap_append]; simp
theorem zcn (x:Int) {m:Int} (h:0 < m):0 <= x.fmod m /\ x.fmod m < m:=by
 rw [Int.fmod_eq_emod_of_nonneg _ (Int.le_of_lt h)]
 exact ⟨Int.emod_nonneg _ (Int.ne_of_gt h),Int.emod_lt_of_pos _ h⟩
theorem wm_eq (x:Int):(x.fdiv 5).fmod 2 = (wm x:Nat):=(Int.toNat_of_nonneg (zcn _ (by decide)).1).symm
theorem wf_eq (x:Int):(x.fdiv 10).fmod 160 = (wf x:Nat):=(Int.toNat_of_nonneg (zcn _ (by decide)).1).symm
theorem zg5 {m:Nat} (hm:0 < m) (x:Int):(x.fmod m).toNat < m:=(Int.toNat_lt (zcn x (Int.natCast_pos.mpr hm)).1).mpr (zcn x (Int.natCast_pos.mpr hm)).2
theorem zg4 {m:Nat} (hm:0 < m) (x:Int) {P:Nat -> Prop} (d:∀ k:Fin m,P k.val):P (x.fmod m).toNat:=d ⟨_,zg5 hm x⟩
theorem zm2 {α β:Type} (l:List α) (f:α -> β) (d:α) {m:Nat} (hm:0 < m) (h:l.length = m) (x:Int):idxV (l.map f) (x.fmod m) = some (f (l.getD (x.fmod m).toNat d)):=by
 unfold idxV
 rw [if_pos (zcn x (Int.natCast_pos.mpr hm)).1,List.getElem?_map,List.getD_eq_getElem?_getD,List.getElem?_eq_getElem (h ▸ zg5 hm x)]
 rfl
theorem wf_lt (x:Int):wf x < 160:=zg5 (m:=160) (by decide) _
theorem wm_lt (x:Int):wm x < 2:=zg5 (m:=2) (by decide) _
theorem z2f (x:Int):idxV (S "xXyY1").cps.toList (x.fmod 5) = some (wl x):=by
 rw [S,zaz]
 exact zm2 [120,88,121,89,49] (fun a=>a) 0 (m:=5) (by decide) rfl x
theorem sgs (b:Nat) (i:Int) (h:i = ((b % 2:Nat):Int)):idxV (S "+-").cps.toList i = some (sgC b):=by
 have e:(S "+-").cps.toList = [43,45]:=by rw [S,zaz]; rfl
 rw [e,h]
 unfold sgC
 rcases Nat.mod_two_eq_zero_or_one b with h | h <;> rw [h] <;> rfl
noncomputable def opsV:List V:=[.str (S "<"),.str (S ">"),.str (S "<="),.str (S ">="),.str (S "=="),.str (S "!=")]
theorem op_at (c:Int):idxV opsV (c.fmod 6) = some (.str (mkS (wop c))):=by
 have e:opsV = wops.map fun l=>V.str (mkS l):=by
  show [V.str (S "<"),.str (S ">"),.str (S "<="),.str (S ">="),.str (S "=="),.str (S "!=")] = [V.str (mkS [60]),.str (mkS [62]),.str (mkS [60,61]),.str (mkS [62,61]),.str (mkS [61,61]),.str (mkS [33,61])]
  rw [S,S,S,S,S,S,zaz,zaz,zaz,zaz,zaz,zaz]; rfl
 rw [e]
 exact zm2 wops (fun l=>V.str (mkS l)) [] (m:=6) (by decide) rfl c
section
variable {cs:List Cell}
theorem zdr {c:Bool} {K:KV} {i j:Int} (h:decide (j = 0) = false) (k:K (.int (i.fmod j)) cs):BinR c cs K .Mod (.int i) (.int j):=.modI (of_decide_eq_false h) k
theorem zis {c:Bool} {K:KV} {i j:Int} (h:decide (j ≠ 0 /\ j.natAbs < bigN) = true) (k:K (.int (i.fdiv j)) cs):BinR c cs K .FloorDiv (.int i) (.int j):=.fdivI (of_decide_eq_true h) k
theorem zkl (X:List Nat):SrcR cs (.str (mkS X)) (.items (chV X)):=by
 cases h:(mkS X).cps.all (· < 128) with
 | true=>exact .str h
 | false=>exact .strW h
theorem z05 {K:List V -> List Cell -> Prop} {sg:Str} {c0 c1 c2 c3 c4 c5 c6:Option V} (r:List Nat):∀ (acc:List V) (o:Option V),acc.length + r.length <= 1000 -> K (acc ++ pairsV ((r.filter wok).map fun c=>(mkS [c],sg))) cs ->
  CompR zbz (boolT .And (IE.sems P0 zb5)) (emitL (zb7.sem P0).val) [none,o,c0,c1,c2,c3,c4,c5,c6,some (.str sg)] K acc (.items (chV r)) cs:=by
 induction r with
 | nil=>exact fun acc o _ q=>.done .items (by rw [<- List.append_nil acc]; exact q)
 | cons c r ih =>
  intro acc o hl q
  rw [List.length_cons] at hl
  have I:∀ o,K (acc ++ pairsV ((r.filter wok).map fun c=>(mkS [c],sg))) cs -> CompR zbz (boolT .And (IE.sems P0 zb5)) (emitL (zb7.sem P0).val) [none,o,c0,c1,c2,c3,c4,c5,c6,some (.str sg)] K acc (.items (chV r)) cs:=fun o=>ih acc o (znh ‹_›)
  by_cases h1:32 <= c
  ·refine .go (.items _ _) rfl (.ord (.geT (Int.ofNat_lt.mpr ‹_›) (.ord (.ne (.int _ _ _) ?_))))
   by_cases h2:c = 127
   ·subst h2
    exact I _ q
   ·have e:wok c = true:=by unfold wok; rw [decide_eq_true h1,decide_eq_false h2]; rfl
    rw [List.filter_cons_of_pos e] at q
    rw [show decide ((c:Int) = 127) = false from decide_eq_false (by lia)]
    refine ⟨Nat.lt_of_lt_of_le (zc9 ‹_›:acc.length < 1000) (by decide),(by decide:2 <= lim),ih _ _ (by rw [List.length_append,List.length_singleton]; exact zda ‹_›) ?_⟩
    rw [List.append_assoc]
    exact q
  ·have e:¬ wok c = true:=by unfold wok; rw [decide_eq_false h1,Bool.false_and]; decide
   rw [List.filter_cons_of_neg e] at q
   exact .go (.items _ _) rfl (.ord (.geF (by lia) (I _ q)))
end
noncomputable def kc (x:String):List Nat:=x.toList.map Char.toNat
noncomputable def D1c:List Nat:=[33,37,38,40,41,42,43,44,45,46,47,58,59,60,61,62,64,91,93,94,123,124,125,126]
noncomputable def D2c:List Nat:=[61,42,62,46,47,60]
noncomputable def D3c:List Nat:=[61,46]
noncomputable def kOk (k:List Nat):Bool:=match k with
 | []=>false
 | [a]=>D1c.contains a
 | [a,b]=>D1c.contains a && D2c.contains b
 | a :: b :: c :: _=>D1c.contains a && (D2c.contains b && D3c.contains c)
theorem z1q:exactL.all (fun p=>kOk (kc p.1)) = true:=by decide +kernel
theorem zzt {s:List Nat} {n:Nat} (h:tokN s = some n):kOk s = true:=by
 have all:=z1q
 unfold tokN at h
 generalize exactL = l at h all
 induction l with
 | nil=>cases h
 | cons p l ih =>
  have h':(if S p.1 = mkS s then some p.2 else _) = some n:=h
  have a:=(Bool.and_eq_true _ _).mp all
  by_cases e:S p.1 = mkS s
  ·rw [S,zaz] at e
   have:=z1b e
   rw [<- this]; exact a.1
  ·rw [if_neg e] at h'; exact ih h' a.2
theorem zgt {s:List Nat} (h:kOk s = false):tokN s = none:=by
 cases e:tokN s with
 | none=>rfl
 | some n=>rw [zzt e] at h; cases h
theorem k1 {c:Nat} {r:List Nat} (h:D1c.contains c = false):kOk (c :: r) = false:=by
 match r with
 | []=>exact h
 | [b]=>show (D1c.contains c && _) = false; rw [h]; rfl
 | b :: d :: _=>show (D1c.contains c && _) = false; rw [h]; rfl
theorem k2 {c b:Nat} {r:List Nat} (h:D2c.contains b = false):kOk (c :: b :: r) = false:=by
 match r with
 | []=>show (_ && D2c.contains b) = false; rw [h,Bool.and_false]
 | d :: _=>show (_ && (D2c.contains b && _)) = false; rw [h,Bool.false_and,Bool.and_false]
theorem k3 {c b d:Nat} {r:List Nat} (h:D3c.contains d = false):kOk (c :: b :: d :: r) = false:=by
 show (_ && (_ && D3c.contains d)) = false; rw [h,Bool.and_false,Bool.and_false]
section
variable {c b d m:Nat} {r:List Nat} {s s':GS}
theorem z2b (h:D1c.contains c = false) (q:Gd r (gname c s) s'):Gd (c :: r) s s':=by
 have e:sz (c :: r) = 1:=by
  unfold sz
  rw [show (c :: r).take 3 = c :: r.take 2 from rfl,show (c :: r).take 2 = c :: r.take 1 from rfl,zgt (k1 h),zgt (k1 h)]
  rfl
 refine .cons ?_
 have e2:symN (c :: r) = 256 + c:=by
  unfold symN
  rw [e,show (c :: r).take 1 = [c] from rfl,zgt (k1 h)]; rfl
 rw [e,e2]
 unfold gstep
 rw [if_pos (Nat.le_add_right _ _),Nat.add_sub_cancel_left]
 exact q
theorem zmz (ht:tokN [c] = some m) (h:D2c.contains b = false) (q:Gd (b :: r) (gstep m s) s'):Gd (c :: b :: r) s s':=by
 have e:sz (c :: b :: r) = 1:=by
  unfold sz
  rw [show (c :: b :: r).take 3 = c :: b :: r.take 1 from rfl,show (c :: b :: r).take 2 = [c,b] from rfl,zgt (k2 h),zgt (k2 h)]
  rfl
 refine .cons ?_
 have e2:symN (c :: b :: r) = m:=by
  unfold symN
  rw [e,show (c :: b :: r).take 1 = [c] from rfl,ht]; rfl
 rw [e,e2]
 exact q
theorem zmy (ht:tokN [c,b] = some m) (h:D3c.contains d = false) (q:Gd (d :: r) (gstep m s) s'):Gd (c :: b :: d :: r) s s':=by
 have e:sz (c :: b :: d :: r) = 2:=by
  unfold sz
  rw [show (c :: b :: d :: r).take 3 = [c,b,d] from rfl,show (c :: b :: d :: r).take 2 = [c,b] from rfl,zgt (k3 h),ht]
  rfl
 refine .cons ?_
 have e2:symN (c :: b :: d :: r) = m:=by
  unfold symN
  rw [e,show (c :: b :: d :: r).take 2 = [c,b] from rfl,ht]; rfl
 rw [e,e2]
 exact q
end
theorem zrz {a b:GS} (h1:a.minus = b.minus) (h2:a.side = b.side) (h3:a.kind = b.kind) (h4:a.hs = b.hs) (h5:a.n = b.n):a = b:=by
 cases a; cases b
 cases h1; cases h2; cases h3; cases h4; cases h5; rfl
noncomputable def gnames (r:List Nat) (s:GS):GS:={ s with hs:=s.hs ++ (r.filter wok).map (fun c=>(mkS [c],sgT (s.minus + s.side))),n:=s.n + r.countP nameBad }
theorem zpa (c:Nat):wok c = !nameBad c:=by
 unfold wok nameBad
 by_cases h:c <= 31
 ·rw [decide_eq_true h,decide_eq_false (by lia)]; rfl
 ·rw [decide_eq_false h,decide_eq_true (by lia:32 <= c),Bool.false_or,Bool.true_and]; rfl
theorem zlg (c:Nat) (r:List Nat) (s:GS):gnames r (gname c s) = gnames (c :: r) s:=by
 unfold gname
 by_cases hb:nameBad c = true
 ·rw [if_pos hb]
  unfold gnames
  rw [List.filter_cons_of_neg (by rw [zpa,hb]; decide),List.countP_cons_of_pos hb]
  exact zrz rfl rfl rfl rfl (by show s.n + 1 + _ = s.n + (_ + 1); lia)
 ·rw [if_neg hb]
  unfold gnames
  have hb':=eq_false_of_ne_true hb
  rw [List.filter_cons_of_pos (by rw [zpa,hb']; decide),List.countP_cons_of_neg hb]
  exact zrz rfl rfl rfl (List.append_assoc ..) rfl
theorem zwv (r R:List Nat) (h:∀ c ∈ r,D1c.contains c = false):∀ (s s':GS),Gd R (gnames r s) s' -> Gd (r ++ R) s s':=by
 induction r with
 | nil =>
  intro s s' q
  have e:gnames [] s = s:=by unfold gnames; simp
  rw [e] at q; exact q
 | cons c r ih =>
  intro s s' q
  rw [List.cons_append]
  refine z2b (h c List.mem_cons_self) (ih (fun x hx=>h x (List.mem_cons_of_mem _ hx)) _ _ ?_)
  rw [zlg]; exact q
theorem z09 (x:Int):∀ c ∈ wnames x,D1c.contains c = false:=by
 intro c hc
 unfold wnames at hc
 rcases List.mem_append.mp hc with hc | hc
 ·cases List.mem_singleton.mp hc
  exact zg4 (m:=5) (by decide) x (P:=fun k=>D1c.contains ([120,88,121,89,49].getD k 0) = false) (by decide)
 ·split at hc
  ·cases hc
  ·rename_i hn
   cases List.mem_singleton.mp hc
   have hn':=eq_false_of_ne_true hn
   have sub:D1c.all Yc.contains = true:=by decide
   cases hd:D1c.contains (wf x) with
   | false=>rfl
   | true =>
    have:=List.all_eq_true.mp sub _ (List.contains_iff_mem.mp hd)
    rw [this] at hn'; cases hn'
theorem wl_D2 (x:Int):D2c.contains (wl x) = false:=zg4 (m:=5) (by decide) x (P:=fun k=>D2c.contains ([120,88,121,89,49].getD k 0) = false) (by decide)
noncomputable def setM (b:Nat) (s:GS):GS:={ s with minus:=b }
theorem zf2 {b x:Int} {R:List Nat} {s s':GS} (q:Gd R (gnames (wnames x) (setM (wm x) s)) s'):Gd ([sgC (wm x)] ++ wnames x ++ R) s s':=by
 have e:[sgC (wm x)] ++ wnames x ++ R = sgC (wm x) :: wl x :: ((if Yc.contains (wf x) = true then [] else [wf x]) ++ R):=rfl
 have n:=zwv (wnames x) R (z09 x) (setM (wm x) s) s' q
 have h2:=wm_lt x
 rw [e]
 have n':Gd (wl x :: ((if Yc.contains (wf x) = true then [] else [wf x]) ++ R)) (setM (wm x) s) s':=n
 exact lt2 (P:=fun k=>∀ t,Gd t (setM k s) s' -> D2c.contains (t.headD 0) = false -> (∃ b r,t = b :: r) -> Gd (sgC k :: t) s s') (fun t n h z=>by obtain ⟨b,r,rfl⟩:=z; exact zmz (m:=14) (by decide +kernel) h n) (fun t n h z=>by obtain ⟨b,r,rfl⟩:=z; exact zmz (m:=15) (by decide +kernel) h n) _ h2 _ n' (wl_D2 x) ⟨_,_,rfl⟩
noncomputable def opN (c:Int):Nat:=[20,21,29,30,27,28].getD (c.fmod 6).toNat 0
theorem gd_op {c:Int} {d:Nat} {R:List Nat} {s s':GS} (hd:d = 43 \/ d = 45) (q:Gd (d :: R) { s with kind:=opN c,side:=1 } s'):Gd (wop c ++ d :: R) s s':=by
 have d2:D2c.contains d = false:=by rcases hd with rfl | rfl <;> decide
 have d3:D3c.contains d = false:=by rcases hd with rfl | rfl <;> decide
 exact lt6 (P:=fun k=>Gd (d :: R) { s with kind:=[20,21,29,30,27,28].getD k 0,side:=1 } s' -> Gd (wops.getD k [] ++ d :: R) s s') (zmz (m:=20) (by decide +kernel) d2) (zmz (m:=21) (by decide +kernel) d2) (zmy (m:=29) (by decide +kernel) d3) (zmy (m:=30) (by decide +kernel) d3) (zmy (m:=27) (by decide +kernel) d3) (zmy (m:=28) (by decide +kernel) d3) _ (zg5 (m:=6) (by decide) c) q
noncomputable def wgsF (c5:Int) (cc:Nat -> Int):GS:=⟨wm (cc 4),1,opN c5,wpairs cc 5,(wtxt c5 cc 5).countP nameBad⟩
theorem op_bad (c:Int):(wop c).countP nameBad = 0:=zg4 (m:=6) (by decide) c (P:=fun k=>(wops.getD k []).countP nameBad = 0) (by decide +kernel)
theorem sg_bad (b:Nat):nameBad (sgC b) = false:=by unfold sgC; split <;> decide +kernel
theorem zzg (c5 x:Int) (p:Nat):(wpc c5 x p).countP nameBad = (wnames x).countP nameBad:=by
 unfold wpc
 rw [List.countP_append,List.countP_append,List.countP_cons_of_neg (by rw [sg_bad]; decide)]
 split
 ·rw [op_bad]; simp
 ·simp
theorem zdt (c5:Int) (cc:Nat -> Int) (n:Nat):(wtxt c5 cc (n + 1)).countP nameBad = (wtxt c5 cc n).countP nameBad + (wnames (cc n)).countP nameBad:=by
 rw [zbd,List.countP_append,zzg]
theorem wpc_n (c5 x:Int) {p:Nat} (h:p ≠ 2):wpc c5 x p = [sgC (wm x)] ++ wnames x:=by unfold wpc; rw [if_neg h]; rfl
theorem sg_or (b:Nat):sgC b = 43 \/ sgC b = 45:=by unfold sgC; split <;> simp
theorem gd_all (c5:Int) (cc:Nat -> Int):Gd (wtxt c5 cc 5) gs0 (wgsF c5 cc):=by
 have e:wtxt c5 cc 5 = [sgC (wm (cc 0))] ++ wnames (cc 0) ++ ([sgC (wm (cc 1))] ++ wnames (cc 1) ++ (wop c5 ++ sgC (wm (cc 2)) :: (wnames (cc 2) ++ ([sgC (wm (cc 3))] ++ wnames (cc 3) ++ ([sgC (wm (cc 4))] ++ wnames (cc 4) ++ []))))):=by
  rw [zbd,zbd,zbd,zbd,zbd,wpc_n _ _ (by decide:(0:Nat) ≠ 2),wpc_n _ _ (by decide:(1:Nat) ≠ 2),wpc_n _ _ (by decide:(3:Nat) ≠ 2),wpc_n _ _ (by decide:(4:Nat) ≠ 2)]
  show [] ++ _ ++ _ ++ (wop c5 ++ _) ++ _ ++ _ = _
  simp
 rw [e]
 refine zf2 (b:=0) (zf2 (b:=0) (gd_op (sg_or _) ?_))
 rw [<- List.singleton_append,<- List.append_assoc]
 refine zf2 (b:=0) (zf2 (b:=0) (zf2 (b:=0) ?_))
 have fin:∀ {a b:GS},a = b -> Gd [] a b:=fun e=>e ▸ .nil _
 refine fin (zrz rfl rfl rfl ?_ ?_)
 ·show _ = wpairs cc 5
  rw [zaq,zaq,zaq,zaq,zaq]
  rfl
 ·show _ = (wtxt c5 cc 5).countP nameBad
  rw [zdt,zdt,zdt,zdt,zdt]
  rfl
theorem zea (x:Int):(wnames x).length <= 2:=by unfold wnames; rw [List.length_append]; split <;> simp
theorem zkc (c:Int):(wop c).length <= 2:=zg4 (m:=6) (by decide) c (P:=fun k=>(wops.getD k []).length <= 2) (by decide)
theorem zhg (c5:Int) (cc:Nat -> Int) (n:Nat):(wtxt c5 cc n).length <= 5 * n:=by
 induction n with
 | zero=>exact Nat.le_refl _
 | succ n ih =>
  rw [zbd,List.length_append]
  have h1:=zea (cc n)
  have h2:=zkc c5
  have:(wpc c5 (cc n) n).length <= 5:=by
   unfold wpc
   rw [List.length_append,List.length_append,List.length_singleton]
   split
   ·lia
   ·rw [List.length_nil]; lia
  lia
theorem zzd (c5:Int) (cc:Nat -> Int) (n:Nat):∀ c ∈ wtxt c5 cc n,c < 0x110000:=by
 intro c hc
 obtain ⟨p,_,hp⟩:=List.mem_flatMap.mp hc
 have:c < 160:=by
  unfold wpc at hp
  rcases List.mem_append.mp hp with hp | hp
  ·split at hp
   ·exact Nat.blt_eq.mp (List.all_eq_true.mp (zg4 (m:=6) (by decide) c5 (P:=fun k=>(wops.getD k []).all (Nat.blt · 160) = true) (by decide)) c hp)
   ·cases hp
  ·rcases List.mem_append.mp hp with hp | hp
   ·cases List.mem_singleton.mp hp
    rcases sg_or (wm (cc p)) with h | h <;> rw [h] <;> decide
   ·unfold wnames at hp
    rcases List.mem_append.mp hp with hp | hp
    ·cases List.mem_singleton.mp hp
     have h:=zcn (cc p) (m:=5) (by decide)
     unfold wl
     rw [List.getD_eq_getElem?_getD,List.getElem?_eq_getElem (by simp; omega)]
     have all:([120,88,121,89,49]:List Nat).all (Nat.blt · 160) = true:=by decide
     exact Nat.blt_eq.mp (List.all_eq_true.mp all _ (List.getElem_mem _))
    ·split at hp
     ·cases hp
     ·cases List.mem_singleton.mp hp; exact wf_lt _
 exact Nat.le_trans ‹_› (by decide)
structure WrA where
 l:Nat
 xs:List V
 c5:Int
 cc:Nat -> Int
structure WrOk (a:WrA) (cs:List Cell):Prop where
 hl:cs[a.l]? = some (.list a.xs)
 h5:idxV a.xs 5 = some (.int a.c5)
 hc:∀ p:Nat,p < 5 -> idxV a.xs (p:Int) = some (.int (a.cc p))
noncomputable def writS:Spec:=Sp (fun a:WrA=>[.ref a.l]) [] noKw fun a cs K=>WrOk a cs /\ K (.tup [.str (mkS (wtxt a.c5 a.cc 5)),.ref cs.length]) (cs ++ [.list (pairsV (wpairs a.cc 5))])
noncomputable def WrL (K:KF) (j m l n:Nat) (X:List Nat) (o1 o2 o3 o4 o5:Option V) (cs:List Cell):Prop:=ForR zap (bden (IS.sems P0 zad)) K (.items (upTo j m)) [some (.ref l),some (.str (mkS X)),some (.ref n),o1,o2,o3,o4,o5] cs
section
variable {K:KF} {j m l n:Nat} {X:List Nat} {cs:List Cell} {xs:List V} {c5 x:Int} {hs:Hs}
structure WrT (cs:List Cell) (l n j:Nat) (xs:List V) (c5 x:Int) (X:List Nat) (hs:Hs):Prop where
 hl:cs[l]? = some (.list xs)
 hn:cs[n]? = some (.list (pairsV hs))
 h5:idxV xs 5 = some (.int c5)
 hx:idxV xs (j:Int) = some (.int x)
 tx:X.length <= 100
 ts:hs.length <= 100
theorem zof {K:KV} {c:Bool} (x:Int) (q:K (.str (mkS (wnames x))) cs):BinR c cs K .Add (.str (mkS [wl x])) (.str (mkS (if Yc.contains (wf x) = true then [] else [wf x]))) :=
 .addS' (zdq _ _) (by
  rw [zc1,List.length_append]
  split
  ·exact (by decide:1 <= lim)
  ·exact (by decide:2 <= lim)) q
theorem zo9 {o1 o2:Option V} (T:WrT cs l n j xs c5 x X hs) {Y:List Nat} (hY:Y.length <= 200) (q:∀ o1,WrL K (j + 1) m l n (Y ++ ([sgC (wm x)] ++ wnames x)) (some (.int j)) (some (.int (wm x:Nat))) (some (.str (mkS [wf x]))) (some (.str (mkS (wnames x)))) o1 (cs.set n (.list (pairsV (hs ++ wprs x j))))) :
  bden (IS.sems P0 (zad.drop 3)) [some (.ref l),some (.str (mkS Y)),some (.ref n),some (.int j),some (.int (wm x:Nat)),some (.str (mkS [wf x])),some (.str (mkS (wnames x))),o1] cs fun fl sl' cs'=>Fl.rec (ForR zap (bden (IS.sems P0 zad)) K (.items (upTo (j + 1) m)) sl' cs') (K .next sl' cs') (ForR zap (bden (IS.sems P0 zad)) K (.items (upTo (j + 1) m)) sl' cs') (fun v=>K (.ret v) sl' cs') fl:=by
 have hn:=zea x
 refine ⟨_,.str (sgs (wm x) _ (by rw [Nat.mod_eq_of_lt (wm_lt x)])),.addS' (zdq Y [sgC (wm x)]) (by rw [zc1,List.length_append,List.length_singleton]; show _ <= 8388608; exact Nat.lt_of_le_of_lt ‹_› (by decide)) (.addS' (zdq _ _) (by rw [zc1,List.length_append,List.length_append,List.length_singleton]; show _ <= 8388608; lia) ?_)⟩
 refine .fdivI' (z:=((j / 2:Nat):Int)) ⟨by decide,by decide +kernel⟩ (by rw [Int.fdiv_eq_ediv_of_nonneg _ (by decide)]; rfl) (.min2 ?_)
 have e:(wm x:Int) + min ((j / 2:Nat):Int) 1 = ((wm x + min (j / 2) 1:Nat):Int):=by lia
 refine .addI' e (zdr rfl ⟨_,.str (sgs (wm x + min (j / 2) 1) _ (by rw [Int.fmod_eq_emod_of_nonneg _ (by decide)]; rfl)),.extend T.hn,_,zkl _,z05 (sg:=sgT (wm x + min (j / 2) 1)) (wnames x) [] _ (by rw [List.length_nil]; lia) ?_⟩)
 have hp:(pairsV (((wnames x).filter wok).map fun c=>(mkS [c],sgT (wm x + min (j / 2) 1)))).length <= 2:=by
  rw [pairsV,List.length_map,List.length_map]
  exact Nat.le_trans (List.length_filter_le _ _) hn
 refine ⟨Nat.le_trans hp (by decide),.extendL T.hn (.lst _) (by rw [List.nil_append]; have:=T.ts; rw [pairsV,List.length_map]; show hs.length + _ <= 8388608; lia) ?_⟩
 have e2:pairsV hs ++ ([] ++ pairsV (((wnames x).filter wok).map fun c=>(mkS [c],sgT (wm x + min (j / 2) 1)))) = pairsV (hs ++ wprs x j):=by rw [List.nil_append,pairsV,pairsV,pairsV,List.map_append]; rfl
 rw [e2]
 have:=q (some (.str ⟨#[sgC (wm x + min (j / 2) 1)]⟩))
 rw [<- List.append_assoc] at this
 exact this
noncomputable abbrev wrK (K:KF) (j m:Nat):KF:=fun fl sl' cs'=>Fl.rec (ForR zap (bden (IS.sems P0 zad)) K (.items (upTo (j + 1) m)) sl' cs') (K .next sl' cs') (ForR zap (bden (IS.sems P0 zad)) K (.items (upTo (j + 1) m)) sl' cs') (fun v=>K (.ret v) sl' cs') fl
noncomputable abbrev wsl (l:Nat) (X:List Nat) (n j:Nat) (x:Int) (nm:Option V) (o:Option V):Slots:=[some (.ref l),some (.str (mkS X)),some (.ref n),some (.int j),some (.int (wm x:Nat)),some (.str (mkS [wf x])),nm,o]
theorem wr_op (T:WrT cs l n j xs c5 x X hs) (q:∀ o1,WrL K (j + 1) m l n (X ++ wpc c5 x j) (some (.int j)) (some (.int (wm x:Nat))) (some (.str (mkS [wf x]))) (some (.str (mkS (wnames x)))) o1 (cs.set n (.list (pairsV (hs ++ wprs x j))))) (o:Option V) :
  bden (IS.sems P0 (zad.drop 2)) (wsl l X n j x (some (.str (mkS (wnames x)))) o) cs (wrK K j m):=by
 unfold wpc at q
 by_cases h2:j = 2
 ·rw [if_pos h2] at q
  refine .eq (.intT (by rw [h2]; rfl)) ⟨by decide,_,.seq (.ref T.hl) T.h5,zdr rfl ⟨_,.seq (.lst _) (op_at c5),.addS' (zdq _ _) ?_ (zo9 (o2:=none) T (Y:=X ++ wop c5) ?_ fun o1=>?_)⟩⟩
  ·rw [zc1,List.length_append]; exact Nat.le_trans (Nat.add_le_add T.tx (zkc c5)) (by decide)
  ·rw [List.length_append]; exact Nat.le_trans (Nat.add_le_add T.tx (zkc c5)) (by decide)
  ·rw [List.append_assoc]; exact q o1
 ·rw [if_neg h2] at q
  exact .eq (.intF (fun e=>h2 (by lia))) (zo9 (o2:=none) T (Nat.le_trans T.tx (by decide)) q)
theorem zt2 (T:WrT cs l n j xs c5 x X hs) {nm o:Option V} (q:bden (IS.sems P0 (zad.drop 2)) (wsl l X n j x (some (.str (mkS (wnames x)))) o) cs (wrK K j m)) :
  bden (IS.sems P0 (zad.drop 1)) (wsl l X n j x nm o) cs (wrK K j m):=by
 have hY:Txt.contains (Mine.S "()[]:,;+-*/|&<>=.%{}~^@!xXyY1") (mkS [wf x]) = Yc.contains (wf x):=by
  rw [Y_of]; exact Y_in ⟨wf x,wf_lt x⟩
 refine ⟨_,.seq (.ref T.hl) T.hx,zdr rfl ⟨_,.str (z2f x),.inS ?_⟩⟩
 rw [hY]
 have st:=zof (c:=false) (cs:=cs) (K:=fun v cs=>bden (IS.sems P0 (zad.drop 2)) (wsl l X n j x (some v) o) cs (wrK K j m)) x q
 generalize Yc.contains (wf x) = b at st
 cases b with
 | true=>exact st
 | false=>exact st
theorem zze {o1 o2 o3 o4 o5:Option V} (T:WrT cs l n j xs c5 x X hs) (q:∀ o1,WrL K (j + 1) m l n (X ++ wpc c5 x j) (some (.int j)) (some (.int (wm x:Nat))) (some (.str (mkS [wf x]))) (some (.str (mkS (wnames x)))) o1 (cs.set n (.list (pairsV (hs ++ wprs x j))))):WrL K j (m + 1) l n X o1 o2 o3 o4 o5 cs:=by
 have hw:(0:Int) <= ((wf x:Nat):Int) /\ ((wf x:Nat):Int) < 0x110000:=⟨Int.natCast_nonneg _,Int.lt_trans (Int.ofNat_lt.mpr (wf_lt x)) (by decide)⟩
 exact .go (.items _ _) rfl ⟨_,.seq (.ref T.hl) T.hx,zis (by decide +kernel) (.modI' (by decide) (wm_eq x) ⟨_,.seq (.ref T.hl) T.hx,zis (by decide +kernel) (.modI' (by decide) (wf_eq x) (.chr hw (zt2 T (wr_op T q o5))))⟩)⟩
end
theorem zgs (cc:Nat -> Int) (n:Nat):(wpairs cc n).length <= 2 * n:=by
 induction n with
 | zero=>exact Nat.le_refl _
 | succ n ih =>
  rw [zaq,List.length_append]
  have:(wprs (cc n) n).length <= 2:=by rw [wprs,List.length_map]; exact Nat.le_trans (List.length_filter_le _ _) (zea _)
  lia
theorem zbw {α:Type} {cs:List α} {i:Nat} {a:α} (b:List α) (h:cs[i]? = some a):(cs ++ b)[i]? = some a:=by rw [List.getElem?_append_left (List.getElem?_eq_some_iff.mp h).1]; exact h
theorem zzf {K:KF} {a:WrA} {cs:List Cell} (R:WrOk a cs) (q:∀ o1 o2 o3 o4 o5,K .next [some (.ref a.l),some (.str (mkS (wtxt a.c5 a.cc 5))),some (.ref cs.length),o1,o2,o3,o4,o5] (cs ++ [.list (pairsV (wpairs a.cc 5))])) (m:Nat) :
  ∀ (j:Nat) (o1 o2 o3 o4 o5:Option V),j + m = 5 -> WrL K j m a.l cs.length (wtxt a.c5 a.cc j) o1 o2 o3 o4 o5 (cs ++ [.list (pairsV (wpairs a.cc j))]):=by
 induction m with
 | zero=>intro j o1 o2 o3 o4 o5 e; cases (e:j = 5); exact .done .items (q ..)
 | succ m ih =>
  intro j o1 o2 o3 o4 o5 e
  have h1:=zhg a.c5 a.cc j
  have h2:=zgs a.cc j
  refine zze (xs:=a.xs) (c5:=a.c5) (x:=a.cc j) (hs:=wpairs a.cc j) ⟨zbw _ R.hl,zbk _ _,R.h5,R.hc j (zf0 ‹_›),by lia,by lia⟩ fun o1=>?_
  rw [zc8,<- zbd,<- zaq]
  exact ih (j + 1) _ _ _ _ _ (ind_s ‹_›)
section
variable {C:Cx} {K:Frag} (F2:Facts2 C P0 K) (L:LimAt C)
include F2 L
theorem zob (Fk:FnK K 250 F_law_written) (B:Bd1 K 250 (S "cells")):FnOk C.up 250 writS :=
 fn1 (sl:=fun a:WrA=>[some (.ref a.l),none,none,none,none,none,none,none]) F2 L Fk (ziy []) B (fun _=>rfl) fun a cs K' q =>
  ⟨Nat.zero_le _,.rng1 ⟨_,zqo (n:=5) (by decide),zzf q.1 (fun _ _ _ _ _=>⟨(by decide:2 <= lim),q.2⟩) 5 0 none none none none none rfl⟩⟩
end
noncomputable def txC (i:Int):List Nat:=(toString i).toList.map Char.toNat
theorem zff (i:Int):textOf i = mkS (txC i):=zaz _
noncomputable def nmC (l:Nat) (p:Int × Nat):Str:=mkS (l :: txC p.1 ++ List.replicate p.2 43)
noncomputable def lowC (p:Int × Nat):Str:=Txt.lower (nmC 99 p)
noncomputable def texN (n:Nat):Str:=textOf (n:Nat)
theorem z1k:∀ i j:Fin 22,lowC (L1.prI i.val) = lowC (L1.prI j.val) -> i = j:=by decide +kernel
theorem low_up:∀ i:Fin 22,Txt.lower (nmC 67 (L1.prI i.val)) = lowC (L1.prI i.val):=by decide +kernel
theorem nm_ok:∀ i:Fin 22,(nmC 67 (L1.prI i.val)).cps.toList.any nameBad = false /\ (nmC 99 (L1.prI i.val)).cps.toList.any nameBad = false /\ (lowC (L1.prI i.val)).cps.toList.any nameBad = false:=by decide +kernel
theorem z1j:∀ i:Fin 22,(lowC (L1.prI i.val)).length <= 100 /\ (nmC 67 (L1.prI i.val)).length <= 100:=by decide +kernel
theorem tex_ok:∀ i:Fin 32,(mkS (txC (i.val:Nat))).cps.toList.any valBad = false:=by decide +kernel
theorem ze7:texN 0 = S "0":=rfl
noncomputable abbrev Bdp (p:Int × Nat):Prop:=p.1.natAbs <= 5 /\ p.2 <= 1
theorem zib {p q:Int × Nat} (hp:Bdp p) (hq:Bdp q) (e:lowC p = lowC q):p = q:=by
 obtain ⟨i,rfl⟩:=L1.zhd hp
 obtain ⟨j,rfl⟩:=L1.zhd hq
 rw [z1k i j e]
structure NmOk (l:Nat) (p:Int × Nat):Prop where
 low:Txt.lower (nmC l p) = lowC p
 nx:nameOk (nmC l p)
 ny:nameOk (lowC p)
 lb:(lowC p).length <= lim
 ln:(nmC l p).length <= 100
theorem zq4 (l:Nat) (p:Int × Nat):(nmC l p).length = (nmC 67 p).length:=rfl
theorem zfv {l:Nat} {p:Int × Nat} (hl:l = 99 \/ l = 67) (h:Bdp p):NmOk l p:=by
 obtain ⟨i,rfl⟩:=L1.zhd h
 have h1:=nm_ok i
 have h2:=z1j i
 refine ⟨?_,?_,h1.2.2,Nat.le_trans h2.1 (by decide),by rw [zq4]; exact h2.2⟩
 ·rcases hl with rfl | rfl
  ·rfl
  ·exact low_up i
 ·rcases hl with rfl | rfl
  ·exact h1.2.1
  ·exact h1.1
theorem zkf {n:Nat} (h:n < 32):valOk (texN n):=by
 unfold valOk texN
 rw [zff]
 exact tex_ok ⟨n,h⟩
structure DInv (D:Hs) (F:List L1.P):Prop where
 v:∀ p,Bdp p -> fV D (lowC p) = if p ∈ F then some (texN (L1.idx p F)) else none
 lb:∀ q ∈ D,lowB q.1
 n:D.length <= 2 * F.length
theorem zyq (D E:Hs) (x:Str):fV (D ++ E) x = (fV D x).or (fV E x):=by
 induction D with
 | nil=>rfl
 | cons q D ih =>
  show (if Txt.lower q.1 = x then some q.2 else fV (D ++ E) x) = (if Txt.lower q.1 = x then some q.2 else fV D x).or (fV E x)
  split
  ·rfl
  ·exact ih
theorem z1x {p q:L1.P} {F:List L1.P} (h:p ∈ F):L1.idx p (F ++ [q]) = L1.idx p F:=by
 induction F with
 | nil=>cases h
 | cons a F ih =>
  show (if a = p then 0 else L1.idx p (F ++ [q]) + 1) = (if a = p then 0 else L1.idx p F + 1)
  split
  ·rfl
  ·rename_i n
   rw [ih ((List.mem_cons.mp h).resolve_left fun z=>n z.symm)]
theorem zla {p:L1.P} {F:List L1.P} (h:p ∉ F):L1.idx p (F ++ [p]) = F.length:=by
 induction F with
 | nil=>show (if p = p then 0 else _) = 0; rw [if_pos rfl]
 | cons a F ih =>
  show (if a = p then 0 else L1.idx p (F ++ [p]) + 1) = F.length + 1
  rw [if_neg (fun z:a = p=>h (z ▸ List.mem_cons_self)),ih (fun z=>h (List.mem_cons_of_mem _ z))]
theorem zs3 {p:L1.P} (hp:Bdp p):DInv [(nmC 99 p,texN 0)] [p]:=by
 refine ⟨fun q hq=>?_,fun q hq=>?_,(by decide:1 <= 2)⟩
 ·show (if lowC p = lowC q then some (texN 0) else none) = _
  by_cases e:p = q
  ·subst e
   rw [if_pos rfl,if_pos List.mem_cons_self]
   show _ = some (texN (if p = p then 0 else _))
   rw [if_pos rfl]
  ·rw [if_neg (fun z=>e (zib hp hq z)),if_neg (fun z=>e (List.mem_singleton.mp z).symm)]
 ·cases List.mem_singleton.mp hq
  exact (zfv (.inl rfl) hp).lb
theorem zw8 {D:Hs} {F:List L1.P} {p:L1.P} {l l2:Nat} (I:DInv D F) (hl:l = 99 \/ l = 67) (hl2:l2 = 99 \/ l2 = 67) (hp:Bdp p) (h:p ∉ F):DInv (D ++ [(nmC l p,texN F.length)] ++ [(nmC l2 p,texN 0)]) (F ++ [p]):=by
 have n1:=zfv hl hp
 have n2:=zfv hl2 hp
 refine ⟨fun q hq=>?_,fun q hq=>?_,?_⟩
 ·rw [zyq,zyq,I.v q hq]
  show (Option.or (Option.or _ (if Txt.lower (nmC l p) = lowC q then some (texN F.length) else none)) (if Txt.lower (nmC l2 p) = lowC q then some (texN 0) else none)) = _
  rw [n1.low,n2.low]
  by_cases e:p = q
  ·subst e
   rw [if_neg h,if_pos rfl,if_pos (List.mem_append_right _ (List.mem_singleton.mpr rfl)),zla h]; rfl
  ·rw [if_neg (fun z=>e (zib hp hq z)),if_neg (fun z=>e (zib hp hq z))]
   by_cases hm:q ∈ F
   ·rw [if_pos hm,if_pos (List.mem_append_left _ hm),z1x hm]; rfl
   ·rw [if_neg hm,if_neg (fun z=>(List.mem_append.mp z).elim hm fun z=>e (List.mem_singleton.mp z).symm)]; rfl
 ·rcases List.mem_append.mp hq with hq | hq
  ·rcases List.mem_append.mp hq with hq | hq
   ·exact I.lb q hq
   ·cases List.mem_singleton.mp hq; show (Txt.lower _).length <= lim; rw [n1.low]; exact n1.lb
  ·cases List.mem_singleton.mp hq; show (Txt.lower _).length <= lim; rw [n2.low]; exact n2.lb
 ·have:=I.n
  rw [List.length_append,List.length_append,List.length_append,List.length_singleton,List.length_singleton,List.length_singleton]; lia
noncomputable def Tc:Tab:=(73,idS cC) :: T3
noncomputable def Pc:Prm:=law1.prm Tc
theorem fc_id:Pc.fn 73 = idS cC:=rfl
theorem fc_sd:Pc.fn 231 = setdS:=rfl
theorem fc_ad:Pc.fn 238 = addS:=rfl
noncomputable def pairI (p:L1.P):V:=.tup [.int p.1,.int (p.2:Nat)]
noncomputable def fdV (F:List L1.P):List V:=F.map pairI
noncomputable def ccs (cs:List Cell) (D1 D2:Hs) (F:List L1.P) (R:List (List Nat)):List Cell :=
 cs ++ ([.list (pairsV D1),.list (pairsV D2),.list (fdV F),.list (refs (cs.length + 6) R.length),.attr (some (.ref cs.length)),.inst 241 (cs.length + 4)] ++ R.map fun w=>Cell.list (natV w))
section
variable {cs:List Cell} {D1 D2:Hs} {F:List L1.P} {R:List (List Nat)} {w:List Nat}
theorem cc_0:(ccs cs D1 D2 F R)[cs.length]? = some (.list (pairsV D1)):=zan cs _ 0
theorem cc_1:(ccs cs D1 D2 F R)[cs.length + 1]? = some (.list (pairsV D2)):=zan cs _ 1
theorem cc_2:(ccs cs D1 D2 F R)[cs.length + 2]? = some (.list (fdV F)):=zan cs _ 2
theorem cc_3:(ccs cs D1 D2 F R)[cs.length + 3]? = some (.list (refs (cs.length + 6) R.length)):=zan cs _ 3
theorem cc_tb:Tb (ccs cs D1 D2 F R) (cs.length + 5) cs.length D1:=⟨⟨cs.length + 4,zan cs _ 5,zan cs _ 4⟩,cc_0⟩
theorem cc_i {i:Nat} (h:R[i]? = some w):(ccs cs D1 D2 F R)[cs.length + 6 + i]? = some (.list (natV w)):=by
 rw [ccs,Nat.add_assoc,zan]
 refine (zan [Cell.list (pairsV D1),.list (pairsV D2),.list (fdV F),.list (refs (cs.length + 6) R.length),.attr (some (.ref cs.length)),.inst 241 (cs.length + 4)] _ i).trans ?_
 rw [List.getElem?_map,h]; rfl
theorem cc_len:(ccs cs D1 D2 F R).length = cs.length + 6 + R.length:=by
 rw [ccs,List.length_append,List.length_append,List.length_map]
 show cs.length + (6 + R.length) = _
 exact (Nat.add_assoc _ _ _).symm
theorem zlp (D:Hs):(ccs cs D1 D2 F R).set cs.length (.list (pairsV D)) = ccs cs D D2 F R:=zbh cs _ 0 _
theorem z2q (D:Hs):(ccs cs D1 D2 F R).set (cs.length + 1) (.list (pairsV D)) = ccs cs D1 D F R:=zbh cs _ 1 _
theorem z2p (F':List L1.P):(ccs cs D1 D2 F R).set (cs.length + 2) (.list (fdV F')) = ccs cs D1 D2 F' R:=zbh cs _ 2 _
theorem z2o (w':List Nat):(ccs cs D1 D2 F (R ++ [w])).set (cs.length + 6 + R.length) (.list (natV w')) = ccs cs D1 D2 F (R ++ [w']):=by
 have h:=zc8 (R.map fun w=>Cell.list (natV w)) (Cell.list (natV w)) (Cell.list (natV w'))
 have h2:=zbh [Cell.list (pairsV D1),.list (pairsV D2),.list (fdV F),.list (refs (cs.length + 6) (R.length + 1)),.attr (some (.ref cs.length)),.inst 241 (cs.length + 4)] (R.map (fun w=>Cell.list (natV w)) ++ [Cell.list (natV w)]) R.length (Cell.list (natV w'))
 rw [List.length_map] at h
 rw [h] at h2
 rw [ccs,ccs,Nat.add_assoc,zbh,List.map_append,List.map_append,List.length_append,List.length_append]
 exact congrArg (cs ++ ·) h2
theorem cc_new:(ccs cs D1 D2 F R ++ [Cell.list []]).set (cs.length + 3) (Cell.list (refs (cs.length + 6) R.length ++ [V.ref (ccs cs D1 D2 F R).length])) = ccs cs D1 D2 F (R ++ [[]]):=by
 rw [cc_len,zja,ccs,ccs,List.append_assoc,zbh,List.map_append,List.length_append]
 rfl
end
structure Tabs (cs:List Cell):Prop where
 t1:cs[0]? = some (.tab 47 (posOf F_i2d) qI2D)
 t2:cs[1]? = some (.tab 54 (posOf F_d2i) qD2I)
noncomputable def halfV (way t:Int):V:=.tup [.int (t / 2),.int (way * (t % 2))]
theorem zmx {way:Int} (hw:way = 1 \/ way = -1) {m:Int} (hm:0 <= m) (t:Int):(way * t).fdiv (way * m) = t / m /\ (way * t).fmod (way * m) = way * (t % m):=by
 have e:(way * t).fdiv (way * m) = t / m:=by
  rcases hw with rfl | rfl
  ·rw [Int.one_mul,Int.one_mul]; exact Int.fdiv_eq_ediv_of_nonneg _ hm
  ·rw [Int.neg_one_mul,Int.neg_one_mul,Int.neg_fdiv_neg]; exact Int.fdiv_eq_ediv_of_nonneg _ hm
 exact ⟨e,by rw [Int.fmod_def,e,Int.emod_def,Int.mul_sub,Int.mul_assoc]⟩
theorem z16 {way:Int} (hw:way = 1 \/ way = -1) (t:Int):(way * t).fdiv (way * 2) = t / 2 /\ (way * t).fmod (way * 2) = way * (t % 2):=zmx hw (by decide) t
noncomputable def halvesL (way:Int) (n:Nat):KvI:=(List.range n).map fun (k:Nat)=>((k:Int) - 10,halfV way ((k:Int) - 10))
theorem zom (way:Int) (l:List Nat) (t:Int) (h:∃ k ∈ l,t = (k:Int) - 10):dctiGet t ((l.map fun (k:Nat)=>((k:Int) - 10,halfV way ((k:Int) - 10))).map (·.1)) ((l.map fun (k:Nat)=>((k:Int) - 10,halfV way ((k:Int) - 10))).map (·.2)) = some (halfV way t):=by
 induction l with
 | nil=>obtain ⟨k,h,_⟩:=h; cases h
 | cons k l ih =>
  show (if (k:Int) - 10 = t then some (halfV way ((k:Int) - 10)) else _) = _
  by_cases e:(k:Int) - 10 = t
  ·rw [if_pos e,e]
  ·rw [if_neg e]
   obtain ⟨k',hk,e'⟩:=h
   exact ih ⟨k',(List.mem_cons.mp hk).resolve_left fun z=>e (by rw [e',z]),e'⟩
noncomputable def halvesV (way:Int):V:=dctiOf (halvesL way 21)
theorem zrx {way t:Int} (h:t.natAbs <= 10) {cs:List Cell}:ItemR cs (halvesV way) (.int t) (halfV way t) :=
 .dcti (zom way (List.range 21) t (by
  obtain ⟨k,e⟩:=L1.zl2 (P:=fun t=>∃ k:Fin 21,t = ((k.val:Nat):Int) - 10) 10 (by decide) h
  exact ⟨k.val,List.mem_range.mpr k.isLt,e⟩))
section
variable {cs:List Cell}
theorem CallR.max2' {P:Prm} {K:KV} {a b z:Int} (e:Max.max a b = z) (k:K (.int z) cs):CallR P cs K (.bi "max") [.int a,.int b] []:=by subst e; exact .max2 k
theorem zvb {n:Nat} (p q:L1.P):EqR cs (n + 1) (pairI p) (pairI q) (decide (p = q)) :=
 .two (.tup _) (.tup _) (.int _ _ _) (.int _ _ _) (by rw [Bool.eq_iff_iff,Bool.and_eq_true,decide_eq_true_iff,decide_eq_true_iff,decide_eq_true_iff,Prod.ext_iff,Int.ofNat_inj])
theorem zsf (F:List L1.P) (p:L1.P):Fnd cs (fdV F) (pairI p) fun j=>decide (F[j]? = some p) :=
 zjs pairI (fun q=>zvb q p) (fun g q z y r s=>by
  obtain ⟨vs,h1,h2⟩:=zue r s
  obtain ⟨v,w,rfl,a,b⟩:=h1.two
  obtain ⟨v',w',e,c,d⟩:=h2.two
  cases e
  exact Prod.ext (zie a c) (Int.ofNat_inj.mp (zie b d))) F
theorem any_no {α:Type} [DecidableEq α] {p:α} {l:List α} (h:p ∉ l):(List.range l.length).any (fun j=>decide (l[j]? = some p)) = false :=
 List.any_eq_false.mpr fun j _ z=>h (List.mem_of_getElem? (of_decide_eq_true z))
theorem zts {α:Type} [DecidableEq α] {p:α} {l:List α} (h:p ∈ l):(List.range l.length).any (fun j=>decide (l[j]? = some p)) = true:=by
 obtain ⟨j,hj,e⟩:=List.getElem_of_mem h
 exact List.any_eq_true.mpr ⟨j,List.mem_range.mpr hj,decide_eq_true (by rw [List.getElem?_eq_getElem hj,e])⟩
theorem zbu (F:List L1.P):(fdV F).length = F.length:=List.length_map _
theorem zvn {w:List Nat} {i:Nat}:idxV (natV (w ++ [i])) (-1) = some (.int (i:Nat)):=by
 unfold idxV
 have hl:(natV (w ++ [i])).length = w.length + 1:=by rw [natV,List.length_map,List.length_append]; rfl
 rw [if_neg (by decide),hl,if_pos (by lia),show ((-1:Int) + ((w.length + 1:Nat):Int)).toNat = w.length by lia,natV,List.getElem?_map,List.getElem?_append_right (Nat.le_refl _),Nat.sub_self]
 rfl
end
theorem zf9 {n:Nat} (h:n <= 1000):((n:Nat):Int).natAbs < bigN:=by
 rw [Int.natAbs_natCast]
 exact Nat.lt_of_le_of_lt h (by decide +kernel)
structure CtS where
 st:Int
 L:L1.Lin
 way:Int
 c:L1.P
noncomputable abbrev ctl (s:CtS) (n:Nat) (t:Option V) (h r p nm db td:Option V):Slots :=
 [some (.int s.st),some (.int s.L.first),some (.int s.L.second),some (.int s.way),t,some (halvesV s.way),some (.ref n),some (.ref (n + 1)),some (.ref (n + 2)),some (.ref (n + 3)),some (.ref (n + 5)),some (.bool true),some (.int s.c.1),some (.int (s.c.2:Nat)),h,r,p,nm,db,td]
section
variable {K:KF} {cs:List Cell} {s:CtS} {D1 D2:Hs} {F:List L1.P} {R:List (List Nat)} {w:List Nat} {p:L1.P} {t h r nm db:Option V}
theorem zs7 (hm:p ∈ F) (hF:F.length <= 100) (hw:w.length <= 100) (q:K .next (ctl s cs.length t h r (some (pairI p)) nm db (some (.str (texN (L1.idx p F))))) (ccs cs D1 D2 F (R ++ [w ++ [L1.idx p F]]))) :
  bden (IS.sems Pc (zah.drop 5)) (ctl s cs.length t h r (some (pairI p)) nm db (some (.str (texN (L1.idx p F))))) (ccs cs D1 D2 F (R ++ [w])) K:=by
 have hi:=zmw p F hm
 have h3:∀ {w},(ccs cs D1 D2 F (R ++ [w]))[cs.length + 3]? = some (.list (refs (cs.length + 6) (R.length + 1))):=fun {w}=>by
  have:=cc_3 (cs:=cs) (D1:=D1) (D2:=D2) (F:=F) (R:=R ++ [w])
  rw [List.length_append,List.length_singleton] at this
  exact this
 have hr:∀ {w},(ccs cs D1 D2 F (R ++ [w]))[cs.length + 6 + R.length]? = some (.list (natV w)):=fun {w}=>cc_i (by rw [List.getElem?_append_right (Nat.le_refl _),Nat.sub_self]; rfl)
 have h2:(ccs cs D1 D2 F (R ++ [w]))[cs.length + 2]? = some (.list (fdV F)):=cc_2
 refine .neg ⟨_,.seq (.ref h3) (zdy _ _),.append hr,.index (.ref h2),.index (fun j=>decide (F[j]? = some p)) (L1.idx p F) (.ref h2) (zsf _ _) (by rw [zbu]; exact hi.1) (decide_eq_true (L1.zlb hm)) (fun m hm=>decide_eq_false (hi.2 m hm)) (.append hr (by rw [natV,List.length_map]; show _ < 8388608; exact Nat.lt_of_le_of_lt ‹_› (by decide)) ?_)⟩
 have e:natV w ++ [V.int (L1.idx p F:Nat)] = natV (w ++ [L1.idx p F]):=by rw [natV,natV,List.map_append]; rfl
 rw [e,z2o]
 exact .neg ⟨_,.seq (.ref h3) (zdy _ _),.neg ⟨_,.seq (.ref hr) zvn,.strI (zf9 (by lia)) (.eq (.strT rfl) q)⟩⟩
theorem ct_new {l l2:Nat} (h0:p ∉ F) (hl2:l2 = 99 \/ l2 = 67) (hp:Bdp p) (hF:F.length <= 30) (hw:w.length <= 100) (hD:D1.length <= 100) (hD2:D2.length <= 100)
  (q:K .next (ctl s cs.length t h r (some (pairI p)) (some (.str (nmC l p))) (some (.str (nmC l2 p))) (some (.str (texN F.length)))) (ccs cs (D1 ++ [(nmC l2 p,texN 0)]) (D2 ++ [(nmC l p,texN F.length),(nmC l2 p,texN 0)]) (F ++ [p]) (R ++ [w ++ [F.length]]))) :
  bden (IS.sems Pc (zah.drop 4)) (ctl s cs.length t h r (some (pairI p)) (some (.str (nmC l p))) (some (.str (nmC l2 p))) (some (.str (texN F.length)))) (ccs cs D1 D2 F (R ++ [w])) K:=by
 have h2:∀ {D1 D2},(ccs cs D1 D2 F (R ++ [w]))[cs.length + 2]? = some (.list (fdV F)):=cc_2
 have any:(List.range (fdV F).length).any (fun j=>decide (F[j]? = some p)) = false:=by rw [zbu]; exact any_no h0
 refine .notInL (fun j=>decide (F[j]? = some p)) (.ref h2) (zsf _ _) ?_
 rw [any]
 refine ⟨.extend cc_1,.lenL (.ref h2) (.strI (zf9 (by rw [zbu]; exact Nat.le_trans ‹_› (by decide))) ⟨(by decide:2 <= lim),(by decide:2 <= lim),(by decide:2 <= lim),.extendL cc_1 (.lst _) (by rw [pairsV,List.length_map]; show D2.length + 2 <= 8388608; lia) ?_⟩)⟩
 have e:∀ x:Str,pairsV D2 ++ [V.tup [.str (nmC l p),.str x],.tup [.str (nmC l2 p),constV (.str (S "0"))]] = pairsV (D2 ++ [(nmC l p,x),(nmC l2 p,texN 0)]):=fun x=>by rw [pairsV,pairsV,List.map_append]; rfl
 rw [e,zbu,z2q]
 refine ⟨cc_tb.cls,zac fc_ad ⟨cs.length + 5,nmC l2 p,S "0",cs.length,D1⟩ ⟨⟨cc_tb,(zfv hl2 hp).nx,?_,by show D1.length < 8388608; exact Nat.lt_of_le_of_lt ‹_› (by decide)⟩,?_⟩⟩
 ·rw [<- ze7]; exact zkf (by decide)
 rw [zlp,<- ze7]
 refine ⟨.append h2,.append h2 (by rw [zbu]; show _ < 8388608; exact Nat.lt_of_le_of_lt ‹_› (by decide)) ?_⟩
 have e2:fdV F ++ [pairI p] = fdV (F ++ [p]):=by rw [fdV,fdV,List.map_append]; rfl
 rw [e2,z2p]
 have hi:=zla h0
 have T:=zs7 (s:=s) (K:=K) (cs:=cs) (t:=t) (h:=h) (r:=r) (nm:=some (.str (nmC l p))) (db:=some (.str (nmC l2 p))) (D1:=D1 ++ [(nmC l2 p,texN 0)]) (D2:=D2 ++ [(nmC l p,texN F.length),(nmC l2 p,texN 0)]) (F:=F ++ [p]) (R:=R) (w:=w) (p:=p) (List.mem_append_right _ (List.mem_singleton.mpr rfl)) (by rw [List.length_append,List.length_singleton]; exact Nat.lt_of_le_of_lt ‹_› (by decide)) hw
 rw [hi] at T
 exact T q
end
structure CtT (D:Hs) (F:List L1.P) (w:List Nat):Prop where
 I:DInv D F
 bd:∀ p ∈ F,Bdp p
 nF:F.length <= 30
 nw:w.length <= 100
section
variable {K:KF} {cs:List Cell} {s:CtS} {D:Hs} {F:List L1.P} {R:List (List Nat)} {w:List Nat} {p:L1.P} {t h r nm db td:Option V}
theorem z2l {l l2:Nat} (T:CtT D F w) (hl:l = 99 \/ l = 67) (hl2:l2 = 99 \/ l2 = 67) (hp:Bdp p)
  (q:∀ D' td,DInv D' (L1.visit (F,w) p).1 -> K .next (ctl s cs.length t h r (some (pairI p)) (some (.str (nmC l p))) (some (.str (nmC l2 p))) td) (ccs cs D' D' (L1.visit (F,w) p).1 (R ++ [(L1.visit (F,w) p).2]))) :
  bden (IS.sems Pc (zah.drop 3)) (ctl s cs.length t h r (some (pairI p)) (some (.str (nmC l p))) (some (.str (nmC l2 p))) td) (ccs cs D D F (R ++ [w])) K:=by
 have hD:D.length <= 60:=Nat.le_trans T.I.n (by have:=T.nF; lia)
 have n1:=zfv hl hp
 have gt:GtOk ⟨cs.length + 5,nmC l p,cs.length,D⟩ (ccs cs D D F (R ++ [w])):=⟨cc_tb,by show (Txt.lower _).length <= lim; rw [n1.low]; exact n1.lb,by show nameOk (Txt.lower _); rw [n1.low]; exact n1.ny,T.I.lb⟩
 refine ⟨cc_tb.cls,.lenL (.ref cc_2) (.strI (zf9 (by rw [zbu]; have:=T.nF; exact Nat.le_trans ‹_› (by decide))) (zac fc_sd ⟨cs.length + 5,nmC l p,texN (fdV F).length,cs.length,D⟩ ⟨⟨gt,n1.nx,zkf (by rw [zbu]; have:=T.nF; exact Nat.lt_of_le_of_lt ‹_› (by decide)),by show D.length < 8388608; exact Nat.lt_of_le_of_lt ‹_› (by decide)⟩,?_⟩))⟩
 dsimp only
 rw [zbu,n1.low,T.I.v p hp]
 unfold L1.visit at q
 dsimp only at q
 by_cases hm:p ∈ F
 ·rw [if_pos hm] at q ⊢
  have any:=zts hm
  rw [<- zbu F] at any
  refine .notInL (fun j=>decide (F[j]? = some p)) (.ref cc_2) (zsf _ _) ?_
  rw [any]
  exact zs7 hm (Nat.le_trans T.nF (by decide)) T.nw (q D _ T.I)
 ·rw [if_neg hm] at q ⊢
  have hi:=zla hm
  rw [hi] at q
  have N:=zw8 T.I hl hl2 hp hm
  have q':=q _ (some (.str (texN F.length))) N
  rw [List.append_assoc] at q'
  show bden (IS.sems Pc (zah.drop 4)) (ctl s cs.length t h r (some (pairI p)) (some (.str (nmC l p))) (some (.str (nmC l2 p))) (some (.str (texN F.length)))) ((ccs cs D D F (R ++ [w])).set cs.length (.list (pairsV (D ++ [(nmC l p,texN F.length)])))) K
  rw [zlp]
  refine ct_new hm hl2 hp T.nF T.nw (by rw [List.length_append,List.length_singleton]; exact Nat.lt_of_le_of_lt ‹_› (by decide)) (Nat.le_trans ‹_› (by decide)) ?_
  rw [List.append_assoc]
  exact q'
theorem zvr (m:Nat):Txt.mul (S "+") (m:Nat) = mkS (List.replicate m 43):=by
 have e:S "+" = mkS [43]:=by rw [S,zaz]; rfl
 rw [e]
 exact z1a 43 m
theorem zyi {K:KV} {l:Nat} {fr:Slots} {c0:Option V} (hp:Bdp p) (h1:(fr[14]?).join = some (.int p.1)) (h2:(fr[16]?).join = some (pairI p)) (q:K (.str (nmC l p)) cs):(zbv.sem Pc).val (c0 :: some (.str (mkS [l])) :: fr) cs K:=by
 have hn:∀ l',(nmC l' p).length <= 100:=fun l'=>by rw [zq4]; exact (zfv (.inr rfl) hp).ln
 have hn':1 + ((txC p.1).length + p.2) <= 100:=by
  have:=hn l
  rw [nmC,zc1,List.length_append,List.length_cons,List.length_replicate] at this
  lia
 have hpl:(S "+").length * ((p.2:Nat):Int).toNat <= lim:=by
  have e:S "+" = mkS [43]:=by rw [S,zaz]; rfl
  rw [e,Int.toNat_natCast]
  show 1 * _ <= 8388608
  lia
 show Option.rec False _ ((fr[14]?).join)
 rw [h1]
 refine .strI (by have:=hp.1; exact Nat.lt_of_le_of_lt this (by decide +kernel)) ?_
 rw [zff]
 refine .addS' (zdq [l] _) (by rw [zc1,List.length_append,List.length_singleton]; show _ <= 8388608; lia) ?_
 show Option.rec False _ ((fr[16]?).join)
 rw [h2]
 refine ⟨_,.seq (.tup _) (xs:=[.int p.1,.int (p.2:Nat)]) (i:=1) rfl,.mulS' (zvr p.2) hpl ⟨by exact Int.natCast_nonneg _,by lia⟩ (.addS' (zdq _ _) (by rw [zc1,List.length_append,List.length_append,List.length_singleton,List.length_replicate]; show _ <= 8388608; lia) ?_)⟩
 exact q
theorem z06 {K:List V -> List Cell -> Prop} {l l2:Nat} {fr:Slots} (hp:Bdp p) (h1:(fr[14]?).join = some (.int p.1)) (h2:(fr[16]?).join = some (pairI p)) (q:K [.str (nmC l p),.str (nmC l2 p)] cs) :
  CompR zc0 (boolT .And (IE.sems Pc zc4)) (emitL (zbv.sem Pc).val) (none :: none :: fr) K [] (.items (chV [l,l2])) cs :=
 .go (.items _ _) rfl ⟨by decide,zyi hp h1 h2 (.go (.items _ _) rfl ⟨(by decide:1 < lim),zyi hp h1 h2 (.done .items q)⟩)⟩
end
noncomputable def lets (n:Nat):Nat × Nat:=if n % 2 = 0 then (99,67) else (67,99)
theorem z1m (n:Nat):idxV [V.str (S "cC"),.str (S "Cc")] ((n:Int).fmod 2) = some (.str (mkS [(lets n).1,(lets n).2])):=by
 have e1:S "cC" = mkS [99,67]:=by rw [S,zaz]; rfl
 have e2:S "Cc" = mkS [67,99]:=by rw [S,zaz]; rfl
 rw [e1,e2,show ((n:Int).fmod 2) = ((n % 2:Nat):Int) by rw [Int.fmod_eq_emod_of_nonneg _ (by decide)]; rfl]
 unfold lets
 rcases Nat.mod_two_eq_zero_or_one n with h | h <;> rw [h] <;> rfl
theorem zrg (n:Nat):((lets n).1 = 99 \/ (lets n).1 = 67) /\ ((lets n).2 = 99 \/ (lets n).2 = 67):=by
 unfold lets
 split <;> simp
section
variable {K:KF} {cs:List Cell} {s:CtS} {D:Hs} {F:List L1.P} {R:List (List Nat)} {w:List Nat} {t:Int} {h r pp nm db td:Option V}
theorem zzj {way t:Int} (hw:way = 1 \/ way = -1):mulOk way (way * (t % 2)) = true /\ way * (way * (t % 2)) = t % 2:=by
 refine ⟨mul_l (by rcases hw with rfl | rfl <;> decide),?_⟩
 rcases hw with rfl | rfl <;> lia
theorem z2k (T:CtT D F w) (ht:t.natAbs <= 10) (hw:s.way = 1 \/ s.way = -1) (hp:Bdp (L1.stp t s.c.2))
  (q:∀ D' h r p nm db td,DInv D' (L1.visit (F,w) (L1.stp t s.c.2)).1 -> K .next (ctl s cs.length (some (.int t)) h r p nm db td) (ccs cs D' D' (L1.visit (F,w) (L1.stp t s.c.2)).1 (R ++ [(L1.visit (F,w) (L1.stp t s.c.2)).2]))) :
  bden (IS.sems Pc zah) (ctl s cs.length (some (.int t)) h r pp nm db td) (ccs cs D D F (R ++ [w])) K:=by
 have h3:(ccs cs D D F (R ++ [w]))[cs.length + 3]? = some (.list (refs (cs.length + 6) (R.length + 1))):=by
  have:=cc_3 (cs:=cs) (D1:=D) (D2:=D) (F:=F) (R:=R ++ [w])
  rw [List.length_append,List.length_singleton] at this
  exact this
 have hr:(ccs cs D D F (R ++ [w]))[cs.length + 6 + R.length]? = some (.list (natV w)):=cc_i (by rw [List.getElem?_append_right (Nat.le_refl _),Nat.sub_self]; rfl)
 have ww:=zzj (t:=t) hw
 have em:Max.max ((s.c.2:Nat):Int) (t % 2) = ((Max.max s.c.2 (t % 2).toNat:Nat):Int):=by
  rw [(L1.half10 ht).2.2,Int.toNat_natCast]
  rcases Nat.le_total s.c.2 (t % 2).toNat with z | z
  ·rw [Nat.max_eq_right z,Int.max_eq_right (Int.ofNat_le.mpr z)]
  ·rw [Nat.max_eq_left z,Int.max_eq_left (Int.ofNat_le.mpr z)]
 have lw:(natV w).length = w.length:=List.length_map _
 refine ⟨_,zrx ht,.mulI' ww.1 ww.2 (.max2' em ⟨(by decide:2 <= lim),?_⟩)⟩
 show bden (IS.sems Pc (zah.drop 2)) (ctl s cs.length (some (.int t)) (some (.int (t / 2))) (some (.int (s.way * (t % 2)))) (some (pairI (L1.stp t s.c.2))) nm db td) (ccs cs D D F (R ++ [w])) K
 refine ⟨by decide,.neg ⟨_,.seq (.ref h3) (zdy _ _),.lenL (.ref hr) (zdr rfl ⟨_,.seq (.lst _) (by rw [lw]; exact z1m w.length),_,zkl _,z06 hp rfl rfl ⟨(by decide:2 <= lim),?_⟩⟩)⟩⟩
 exact z2l T (zrg _).1 (zrg _).2 hp fun D' td I=>q D' _ _ _ _ _ _ I
theorem ct_for {ts:List Int} (hb:∀ t ∈ ts,t.natAbs <= 10 /\ Bdp (L1.stp t s.c.2)) (hw:s.way = 1 \/ s.way = -1):∀ {D:Hs} {F:List L1.P} {w:List Nat} {t h r pp nm db td:Option V},(∀ p ∈ F,Bdp p) -> DInv D F -> F.length + ts.length <= 30 -> w.length + ts.length <= 100 ->
  (∀ D' t h r p nm db td,DInv D' ((ts.map fun t=>L1.stp t s.c.2).foldl L1.visit (F,w)).1 -> K .next (ctl s cs.length t h r p nm db td) (ccs cs D' D' ((ts.map fun t=>L1.stp t s.c.2).foldl L1.visit (F,w)).1 (R ++ [((ts.map fun t=>L1.stp t s.c.2).foldl L1.visit (F,w)).2]))) ->
  ForR zdk (bden (IS.sems Pc zah)) K (.items (ts.map V.int)) (ctl s cs.length t h r pp nm db td) (ccs cs D D F (R ++ [w])):=by
 induction ts with
 | nil=>exact fun _ I _ _ q=>.done .items (q _ _ _ _ _ _ _ _ I)
 | cons t ts ih =>
  intro D F w t0 h r pp nm db td bF I nF nw q
  rw [List.length_cons] at nF nw
  obtain ⟨h1,h2⟩:=hb t List.mem_cons_self
  obtain ⟨l1,l2,_⟩:=zi2 F w (L1.stp t s.c.2)
  refine .go (.items _ _) rfl (z2k ⟨I,bF,by lia,by lia⟩ h1 hw h2 fun D' h r p nm db td I'=>?_)
  refine ih (fun x hx=>hb x (List.mem_cons_of_mem _ hx)) ?_ I' (by lia) (by lia) q
  intro p hp
  have V:=L1.zke [L1.stp t s.c.2] F w
  rcases V.sub p hp with hp | hp
  ·exact bF p hp
  ·cases List.mem_singleton.mp hp; exact h2
end
noncomputable abbrev cwl (s:CtS) (n:Nat) (t:Option V) (c m:Option V) (h r p nm db td:Option V):Slots :=
 [some (.int s.st),some (.int s.L.first),some (.int s.L.second),some (.int s.way),t,some (halvesV s.way),some (.ref n),some (.ref (n + 1)),some (.ref (n + 2)),some (.ref (n + 3)),some (.ref (n + 5)),some (.bool true),c,m,h,r,p,nm,db,td]
noncomputable def ctest:IE:=.cmp (.call true (S "len") 0 (pp 269 10 13) [(.nm (S "rows") 9 (pp 269 14 18))] (pp 269 10 19)) .Lt (.call true (S "len") 0 (pp 269 22 25) [(.nm (S "found") 8 (pp 269 26 31))] (pp 269 22 32)) (pp 269 10 32)
noncomputable abbrev CarW (K:KF) (sl:Slots) (cs:List Cell):Prop:=WhileR (ctest.sem Pc).tst (bden (IS.sems Pc zc6)) K sl cs
theorem fd_at {F:List L1.P} {i:Nat} {c:L1.P} (h:F[i]? = some c):idxV (fdV F) (i:Int) = some (pairI c):=by rw [zbs,fdV,List.getElem?_map,h]; rfl
section
variable {K:KF} {cs:List Cell} {st way:Int} {L:L1.Lin} {D:Hs} {F:List L1.P} {R:List (List Nat)} {c:L1.P}
theorem zxm {t cc mm h r pp nm db td:Option V} (hL:L.Ok) (hw:way = 1 \/ way = -1) (hc:F[R.length]? = some c) (bF:∀ p ∈ F,Bdp p) (I:DInv D F) (nF:F.length <= 22)
  (q:∀ D' t cc mm h r p nm db td,DInv D' (L.turn F c).1 -> CarW K (cwl ⟨st,L,way,(0,0)⟩ cs.length t cc mm h r p nm db td) (ccs cs D' D' (L.turn F c).1 (R ++ [(L.turn F c).2]))) :
  CarW K (cwl ⟨st,L,way,(0,0)⟩ cs.length t cc mm h r pp nm db td) (ccs cs D D F R):=by
 have hlt:=zaa hc
 have hbc:=bF c (List.mem_of_getElem? hc)
 have ob:=L1.zfu hL
 have h3:(ccs cs D D F R ++ [Cell.list []])[cs.length + 3]? = some (.list (refs (cs.length + 6) R.length)):=by rw [List.getElem?_append_left (zaa cc_3)]; exact cc_3
 refine .go (.lenL (.ref cc_3) (.lenL (.ref cc_2) (.ltT (by rw [zbj,zbu]; exact Int.ofNat_lt.mpr hlt) (.lenL (.ref cc_3) ⟨_,.seq (.ref cc_2) (by rw [zbj]; exact fd_at hc),?_⟩))))
 refine ⟨.append cc_3,Nat.zero_le _,.append h3 (by rw [zbj]; exact Nat.lt_of_le_of_lt (Nat.le_of_lt (Nat.lt_of_lt_of_le hlt nF)) (by decide)) ?_⟩
 rw [cc_new]
 refine .addI (.addI (.addI (.addI' (z:=c.1 + (L.first + L.second)) (Int.add_assoc ..) ⟨(by decide:4 <= lim),_,.tup _,?_⟩)))
 have e:L.turn F c = (([c.1,c.1 + L.second,c.1 + L.first,c.1 + (L.first + L.second)]:List Int).map fun t=>L1.stp t c.2).foldl L1.visit (F,[]):=by
  unfold L1.Lin.turn L1.Lin.nexts
  rw [Int.add_zero]; rfl
 refine ct_for (s:=⟨st,L,way,c⟩) (ts:=[c.1,c.1 + L.second,c.1 + L.first,c.1 + (L.first + L.second)]) (fun t ht=>?_) hw bF I (Nat.le_trans (Nat.add_le_add_right nF 4) (by decide)) ((by decide:0 + 4 <= 100)) fun D' t h r p nm db td I'=>?_
 ·have b0:=L1.zev hL hbc (e:=0) (by decide)
  rw [Int.add_zero] at b0
  have h10:c.1.natAbs <= 10:=Nat.le_trans hbc.1 (by decide)
  rcases List.mem_cons.mp ht with rfl | ht
  ·exact ⟨h10,b0⟩
  rcases List.mem_cons.mp ht with rfl | ht
  ·exact ⟨L1.zds hbc.1 ob.1,L1.zev hL hbc ob.1⟩
  rcases List.mem_cons.mp ht with rfl | ht
  ·exact ⟨L1.zds hbc.1 ob.2.1,L1.zev hL hbc ob.2.1⟩
  cases List.mem_singleton.mp ht
  exact ⟨L1.zds hbc.1 ob.2.2,L1.zev hL hbc ob.2.2⟩
 ·rw [<- e] at I' ⊢
  exact q D' _ _ _ _ _ _ _ _ _ I'
theorem zxn (hL:L.Ok) (hw:way = 1 \/ way = -1) (q:∀ D F R t cc mm h r p nm db td,L1.Tab L F R -> K .next (cwl ⟨st,L,way,(0,0)⟩ cs.length t cc mm h r p nm db td) (ccs cs D D F R)) (n:Nat):∀ (D:Hs) (F:List L1.P) (R:List (List Nat)) (t cc mm h r p nm db td:Option V),
  23 <= R.length + n -> L1.Inv L F R -> DInv D F -> CarW K (cwl ⟨st,L,way,(0,0)⟩ cs.length t cc mm h r p nm db td) (ccs cs D D F R):=by
 induction n with
 | zero =>
  intro D F R t cc mm h r p nm db td hn I DI
  have h1:=L1.zih I
  have:=I.le
  lia
 | succ n ih =>
  intro D F R t cc mm h r p nm db td hn I DI
  have h1:=L1.zih I
  by_cases hlt:R.length < F.length
  ·refine zxm hL hw (List.getElem?_eq_getElem hlt) I.bd DI h1 fun D' t cc mm h r p nm db td DI'=>ih _ _ _ _ _ _ _ _ _ _ _ _ ?_ (L1.zud hL I (List.getElem?_eq_getElem hlt)) DI'
   rw [List.length_append,List.length_singleton]; lia
  ·exact .go (.lenL (.ref cc_3) (.lenL (.ref cc_2) (.ltF (by rw [zbj,zbu]; lia) (q D F R _ _ _ _ _ _ _ _ _ (L1.tab_of I hlt)))))
end
theorem z15 (way:Int) (k:Nat) {x:Int} (e:x = (k:Int) - 10):hasI (halvesL way k) x = false:=by
 unfold hasI halvesL
 rw [List.any_eq_false]
 intro kv hkv
 obtain ⟨j,hj,rfl⟩:=List.mem_map.mp hkv
 have:=List.mem_range.mp hj
 intro z
 have:=of_decide_eq_true z
 dsimp only at this
 omega
theorem zle (way:Int) (k:Nat):halvesL way k ++ [((k:Int) - 10,halfV way ((k:Int) - 10))] = halvesL way (k + 1):=by rw [halvesL,halvesL,List.range_succ,List.map_append]; rfl
theorem zlf {K:KvI -> List Cell -> Prop} {cs:List Cell} {way:Int} {fr:Slots} (hT:Tabs cs) (hw:way = 1 \/ way = -1) (h3:(fr[3]?).join = some (.int way)) (q:K (halvesL way 21) cs) (m:Nat):∀ (k:Nat) (a:Int) (o:Option V),k + m = 21 -> a = (k:Int) - 10 ->
  CompR zb0 (boolT .And (IE.sems Pc zb6)) (emitI (zb4.sem Pc).val (zbc.sem Pc).val) (none :: none :: fr) K (halvesL way k) (.items (rangeFrom 1 m a)) cs:=by
 suffices h:∀ (k:Nat) (a:Int) (o:Option V),k + m = 21 -> a = (k:Int) - 10 -> CompR zb0 (boolT .And (IE.sems Pc zb6)) (emitI (zb4.sem Pc).val (zbc.sem Pc).val) (none :: none :: fr) K (halvesL way k) (.items (rangeFrom 1 m a)) cs from h
 induction m with
 | zero=>intro k a o e _; cases (e:k = 21); exact .done .items q
 | succ m ih =>
  intro k a o e ea
  have hm1:mulOk way a = true:=mul_l (by rcases hw with rfl | rfl <;> decide)
  have hm2:mulOk way 2 = true:=mul_l (by rcases hw with rfl | rfl <;> decide)
  have hh:=z16 hw a
  have sm:∀ x:Int,x.natAbs <= 100 -> x.natAbs < 2 ^ 240:=fun x hx=>Nat.lt_of_le_of_lt hx (by decide +kernel)
  have C0:∀ {KK:KV},KK (halfV way a) cs -> (zbc.sem Pc).val (none :: some (.int a) :: fr) cs KK:=fun {KK} qq=>by
   show Option.rec False _ ((fr[3]?).join)
   rw [h3]
   refine .mulI hm1 ?_
   show Option.rec False _ ((fr[3]?).join)
   rw [h3]
   refine .mulI hm2 (zac fc_id (way * a,way * 2) ⟨⟨hT.t1,hT.t2,sm _ (by rcases hw with rfl | rfl <;> dsimp only <;> lia),sm _ (by show (way * 2).natAbs <= 100; rcases hw with rfl | rfl <;> decide),by show way * 2 ≠ 0; rcases hw with rfl | rfl <;> decide⟩,?_⟩)
   dsimp only
   rw [hh.1,hh.2]
   exact qq
  refine .go (.items _ _) rfl (C0 ⟨⟨?_,z15 way k ea⟩,?_⟩)
  ·rw [halvesL,List.length_map,List.length_range]; show k < 8388608; lia
  ·have e2:halvesL way k ++ [(a,halfV way a)] = halvesL way (k + 1):=by rw [ea]; exact zle way k
   rw [e2]
   exact ih (k + 1) (a + 1) none (ind_s ‹_›) (by lia)
theorem z0p (cs:List Cell):SrcR cs (.rng (-10) 11 1) (.items (rangeFrom 1 21 (-10))):=.rng (a:=-10) (b:=11) (c:=1) ⟨by decide +kernel,by decide⟩
theorem binds4 {K:Frag} {a:Addr} {n m l o:Str} {i j k g:Nat} {x y z u:V} (h:∀ v w t r:Value,(fdO K a).map (fun fd=>bindArgs fd ⟨[v,w,t,r],[]⟩) = some (pure [(n,v),(m,w),(l,t),(o,r)])):Binds K a [(n,i),(m,j),(l,k),(o,g)] [x,y,z,u] [] [x,y,z,u]:=by
 intro C fd W hf σ args' kws' H B ra rk
 cases rk.nil_of
 obtain ⟨v,rest,rfl,r,ra⟩:=ra.cons_of
 obtain ⟨w,t,s,rfl,r2,r3,r4⟩:=ra.three
 exact ⟨_,.cons ⟨rfl,r⟩ (.cons ⟨rfl,r2⟩ (.cons ⟨rfl,r3⟩ (.cons ⟨rfl,r4⟩ .nil))),fun M A E Q k=>by rw [zai hf (h v w t s)]; exact wpAny_pure k⟩
noncomputable abbrev Bd4 (K:Frag) (a:Addr) (n m l o:Str):Prop:=∀ v w t r:Value,(fdO K a).map (fun fd=>bindArgs fd ⟨[v,w,t,r],[]⟩) = some (pure [(n,v),(m,w),(l,t),(o,r)])
structure CaA where
 L:L1.Lin
 way:Int
structure CaOk (a:CaA) (cs:List Cell):Prop where
 T:Tabs cs
 L:a.L.Ok
 w:a.way = 1 \/ a.way = -1
noncomputable def carS:Spec:=Sp (fun a:CaA=>[.int a.L.start,.int a.L.first,.int a.L.second,.int a.way]) [] noKw fun a cs K=>CaOk a cs /\ ∀ D F R,L1.Tab a.L F R -> K (.tup [.bool true,.ref (cs.length + 2),.ref (cs.length + 3)]) (ccs cs D D F R)
theorem zqu {cs:List Cell} {n:Nat} (p:Str × Str):EqR cs (n + 1) (pairV p) (pairV p) true:=.two (.tup _) (.tup _) (.strT rfl) (.strT rfl) rfl
theorem zj5 {α:Type} {R:V -> V -> Prop} (f:α -> V) (l:List α) (h:∀ a,R (f a) (f a)):All2 R (l.map f) (l.map f):=by
 induction l with
 | nil=>exact .nil
 | cons a l ih=>exact .cons (h a) ih
theorem zgx {cs:List Cell} {n:Nat} {a b:V} {D:Hs} (ha:SeqR cs a false (pairsV D)) (hb:SeqR cs b false (pairsV D)):EqR cs (n + 2) a b true:=.allT ha hb (zj5 _ _ zqu)
section
variable {K:KF} {cs:List Cell} {L:L1.Lin} {way:Int}
theorem z2s {K':KV} (T:Tabs cs) (hL:L.Ok) (hw:way = 1 \/ way = -1) (q:∀ D F R,L1.Tab L F R -> K' (.tup [.bool true,.ref (cs.length + 2),.ref (cs.length + 3)]) (ccs cs D D F R)) :
  den0 Pc zd9 [some (.int L.start),some (.int L.first),some (.int L.second),some (.int way),none,none,none,none,none,none,none,none,none,none,none,none,none,none,none,none] cs K':=by
 have hst:L.start.natAbs < bigN:=Nat.lt_of_le_of_lt (L1.st_bd hL) (by decide +kernel)
 have hb0:Bdp (L.start,0):=⟨L1.st_bd hL,Nat.zero_le _⟩
 have n0:=zfv (l:=99) (.inl rfl) hb0
 have e0:S "c" ++ textOf L.start = nmC 99 (L.start,0):=by
  rw [zff,S,zaz]
  show mkS [99] ++ mkS (txC L.start) = mkS ([99] ++ txC L.start ++ [])
  rw [zdq,List.append_nil]
 have l0:(nmC 99 (L.start,0)).length <= lim:=Nat.le_trans n0.ln (by decide)
 refine .neg (.rng2 ⟨_,z0p cs,zlf T hw rfl ?_ 21 0 (-10) none rfl rfl⟩)
 have main:bden (IS.sems Pc [zb3,zbq,zbp]) [some (.int L.start),some (.int L.first),some (.int L.second),some (.int way),none,some (halvesV way),some (.ref cs.length),some (.ref (cs.length + 1)),some (.ref (cs.length + 2)),some (.ref (cs.length + 3)),some (.ref (cs.length + 5)),none,none,none,none,none,none,none,none,none] (ccs cs [] [(nmC 99 (L.start,0),S "0")] [(L.start,0)] []) fun fl _ c=>K' (retOf fl) c:=by
  refine ⟨cc_tb.cls,.strI hst (.addS' e0 l0 (zac fc_sd ⟨cs.length + 5,nmC 99 (L.start,0),S "0",cs.length,[]⟩ ⟨⟨⟨cc_tb,?_,?_,fun p hp=>nomatch hp⟩,n0.nx,?_,(by decide:0 < lim)⟩,?_⟩))⟩
  ·show (Txt.lower _).length <= lim; rw [n0.low]; exact n0.lb
  ·show nameOk (Txt.lower _); rw [n0.low]; exact n0.ny
  ·rw [<- ze7]; exact zkf (by decide)
  ·refine .eq (.strT rfl) ?_
   dsimp only
   rw [zlp,List.nil_append,<- ze7]
   refine zxn (st:=L.start) hL hw (fun D F R t cc mm h r p nm db td TT=>?_) 23 _ _ _ _ _ _ _ _ _ _ _ _ (Nat.le_refl _) (L1.zwe hL) (zs3 hb0)
   exact .eq (zgx (.ref cc_0) (.ref cc_1)) ⟨(by decide:3 <= lim),q D F R TT⟩
 have len1:∀ a:Cell,(cs ++ [a]).length = cs.length + 1:=fun a=>List.length_append
 have len2:∀ a b:Cell,(cs ++ [a] ++ [b]).length = cs.length + 2:=fun a b=>by rw [List.append_assoc]; exact List.length_append
 have len3:∀ a b c:Cell,(cs ++ [a] ++ [b] ++ [c]).length = cs.length + 3:=fun a b c=>by rw [List.append_assoc,List.append_assoc]; exact List.length_append
 have m2:bden (IS.sems Pc [zdl,zb3,zbq,zbp]) [some (.int L.start),some (.int L.first),some (.int L.second),some (.int way),none,some (halvesV way),some (.ref cs.length),some (.ref (cs ++ [Cell.list []]).length),some (.ref (cs ++ [Cell.list []] ++ [Cell.list (pairsV [(nmC 99 (L.start,0),S "0")])]).length),some (.ref (cs ++ [Cell.list []] ++ [Cell.list (pairsV [(nmC 99 (L.start,0),S "0")])] ++ [Cell.list (fdV [(L.start,0)])]).length),none,none,none,none,none,none,none,none,none,none]
   (cs ++ [Cell.list []] ++ [Cell.list (pairsV [(nmC 99 (L.start,0),S "0")])] ++ [Cell.list (fdV [(L.start,0)])] ++ [Cell.list []]) fun fl _ c=>K' (retOf fl) c:=by
  rw [len1,len2,len3,List.append_assoc,List.append_assoc,List.append_assoc]
  refine CallR.fn (show orS mkHS mk0S [.ref cs.length] [] (cs ++ _) _ from .inl ⟨⟨cs.length,[]⟩,rfl,rfl,zan cs _ 0,fun p hp=>(nomatch hp),?_⟩)
  rw [show (cs ++ ([Cell.list []] ++ ([Cell.list (pairsV [(nmC 99 (L.start,0),S "0")])] ++ ([Cell.list (fdV [(L.start,0)])] ++ [Cell.list []])))).length = cs.length + 4 from List.length_append,List.append_assoc]
  exact main
 exact ⟨Nat.zero_le _,.strI hst (.addS' e0 l0 ⟨(by decide:2 <= lim),(by decide:1 <= lim),(by decide:2 <= lim),(by decide:1 <= lim),Nat.zero_le _,(by decide:4 <= lim),m2⟩)⟩
end
section
variable {C:Cx} {K:Frag} (F2:Facts2 C Pc K) (L:LimAt C)
include F2 L
theorem zod (Fk:FnK K 260 F_law_carries) (B:Bd4 K 260 (S "start") (S "first") (S "second") (S "way")):FnOk C.up 260 carS :=
 fn_sp (ps:=[(S "start",0),(S "first",1),(S "second",2),(S "way",3)]) (sl:=fun a:CaA=>[some (.int a.L.start),some (.int a.L.first),some (.int a.L.second),some (.int a.way),none,none,none,none,none,none,none,none,none,none,none,none,none,none,none,none]) (fun a=>[.int a.L.start,.int a.L.first,.int a.L.second,.int a.way]) F2 L Fk (ziz Tc) (fun _=>rfl) (fun _=>binds4 B) (fun _=>rfl) fun a cs K' q =>
  z2s q.1.T q.1.L q.1.w q.2
end
noncomputable def Tl:Tab:=[(250,writS),(260,carS),(267,signS),(272,ledS),(279,setsS),(73,idS cC),(52,digS 0),(205,itemsS),(180,getAllS)]
noncomputable def Pl:Prm:=law1.prm Tl
theorem fl_wr:Pl.fn 250 = writS:=rfl
theorem fl_ca:Pl.fn 260 = carS:=rfl
theorem fl_sg:Pl.fn 267 = signS:=rfl
theorem fl_ld:Pl.fn 272 = ledS:=rfl
theorem fl_st:Pl.fn 279 = setsS:=rfl
theorem fl_id:Pl.fn 73 = idS cC:=rfl
theorem fl_dg:Pl.fn 52 = digS 0:=rfl
theorem fl_it:Pl.fn 205 = itemsS:=rfl
theorem fl_ga:Pl.fn 180 = getAllS:=rfl
noncomputable def cellS (c:List Int) (k:Nat) (x:Int):List Int:=c.set (k % 8) (c.getD (k % 8) 0 + x)
theorem fmod8 (k:Nat):((k:Int).fmod 8) = ((k % 8:Nat):Int):=by rw [Int.fmod_eq_emod_of_nonneg _ (by decide)]; rfl
theorem c_idx {c:List Int} (h:c.length = 8) (j:Nat) (hj:j < 8):idxV (c.map V.int) (j:Int) = some (.int (c.getD j 0)):=by
 rw [zbs,List.getElem?_map,List.getElem?_eq_getElem (by omega)]
 have:c.getD j 0 = c[j]:=by rw [List.getD_eq_getElem?_getD,List.getElem?_eq_getElem (by omega)]; rfl
 rw [this]; rfl
section
variable {K:KF} {cs:List Cell} {sc:Option V} {r:Slots}
noncomputable def CelL (K:KF) (ys:List V) (sl:Slots) (cs:List Cell):Prop:=ForR zx6 (bden (IS.sems Pl zyz)) K (.items ys) sl cs
theorem zte {ys:List V} {n k:Nat} {x:Int} {c:List Int} {o2 o3:Option V} (h:cs[n]? = some (.list (c.map .int))) (hc:c.length = 8)
  (q:CelL K ys (sc :: some (.ref n) :: some (.int (k:Nat)) :: some (.int x) :: r) (cs.set n (.list ((cellS c k x).map .int)))):CelL K (.tup [.int (k:Nat),.int x] :: ys) (sc :: some (.ref n) :: o2 :: o3 :: r) cs:=by
 have h9:k % 8 < 8:=Nat.mod_lt _ (by decide)
 have e:(c.map V.int).set ((k % 8:Nat):Int).toNat (.int (c.getD (k % 8) 0 + x)) = (cellS c k x).map .int:=by rw [Int.toNat_natCast,cellS,List.map_set]
 exact .go (.items _ _) rfl (.modI' (by decide) (fmod8 k) ⟨_,.seq (.ref h) (c_idx hc _ h9),.addI (.modI' (by decide) (fmod8 k) (.list' h ⟨Int.natCast_nonneg _,by rw [List.length_map,hc]; exact Int.ofNat_lt.mpr h9⟩ (congrArg (fun z=>cs.set n (Cell.list z)) e) q))⟩)
theorem zxl (q:∀ c o2 o3,c.length = 8 -> K .next (sc :: some (.ref cs.length) :: o2 :: o3 :: r) (cs ++ [.list (List.map .int c)])) (w:List Int):∀ (k:Nat) (c:List Int) (o2 o3:Option V),c.length = 8 -> CelL K (enumV (w.map .int) k) (sc :: some (.ref cs.length) :: o2 :: o3 :: r) (cs ++ [.list (c.map .int)]):=by
 induction w with
 | nil=>exact fun k c o2 o3 h=>.done .items (q c o2 o3 h)
 | cons x w ih =>
  intro k c o2 o3 h
  refine zte (zbk _ _) h ?_
  rw [zc8]
  exact ih (k + 1) _ _ _ (by rw [cellS,List.length_set]; exact h)
end
noncomputable abbrev wX (c:List Int):List Nat:=wtxt (c.getD 5 0) (fun p=>c.getD p 0) 5
noncomputable abbrev wP (c:List Int):Hs:=wpairs (fun p=>c.getD p 0) 5
theorem law_a {zs:List Int} {cs:List Cell} {K:KV} {K1:KF} {o:Slots} (q:∀ (c:List Int) o2 o3,c.length = 8 -> K1 .next (some (.lst (zs.map .int)) :: some (.ref cs.length) :: o2 :: o3 :: some (.str (mkS (wX c))) :: some (.ref (cs.length + 1)) :: o) (cs ++ [.list (List.map .int c),.list (pairsV (wP c))])) :
  bden (IS.sems Pl [zyg,zyf,zye]) (some (.lst (zs.map .int)) :: none :: none :: none :: none :: none :: o) cs K1:=by
 have hs:sliceL (zs.map V.int) none (some 60) none = (zs.take 60).map V.int:=by rw [List.map_take]; exact zp3 _ 60
 refine ⟨(by decide:8 <= lim),rfl,_,_,_,.none,.int _,.none,.lst' (.lst _) (by decide) hs ⟨?_,.enum (.lst _) ?_⟩⟩
 ·rw [List.length_map,List.length_take]; exact Nat.le_trans (Nat.min_le_left _ _) (by decide)
 refine zxl (fun c o2 o3 hc=>?_) (zs.take 60) 0 [90,358,436,1272,323,10,1017,678] none none rfl
 refine zac fl_wr ⟨cs.length,c.map .int,c.getD 5 0,fun p=>c.getD p 0⟩ ⟨⟨zbk _ _,c_idx hc 5 (by decide),fun p hp=>c_idx hc p (Nat.le_trans ‹_› (by decide))⟩,?_⟩
 have e:(cs ++ [Cell.list (List.map V.int c)]).length = cs.length + 1:=List.length_append
 dsimp only
 rw [e,List.append_assoc]
 exact q c o2 o3 hc
noncomputable def al (k:Nat):List Nat:=[[120,88],[121,89],[49]].getD k []
theorem zy1:∀ c:Fin 160,Txt.contains (mkS (al 0)) (mkS [c.val]) = (al 0).contains c.val /\ Txt.contains (mkS (al 1)) (mkS [c.val]) = (al 1).contains c.val /\ Txt.contains (mkS (al 2)) (mkS [c.val]) = (al 2).contains c.val:=by decide +kernel
theorem zy0:∀ c:Fin 160,decide (Txt.lower (mkS [c.val]) = Txt.lower (mkS [88])) = (al 0).contains c.val /\ decide (Txt.lower (mkS [c.val]) = Txt.lower (mkS [121])) = (al 1).contains c.val /\ decide (Txt.lower (mkS [c.val]) = Txt.lower (mkS [49])) = (al 2).contains c.val /\ (Txt.lower (mkS [c.val])).length <= 10:=by decide +kernel
noncomputable def alN (k:Nat):Nat:=[88,121,49].getD k 0
structure One (x:Str):Prop where
 h:∃ c,c < 160 /\ x = mkS [c]
theorem one_in {x:Str} (h:One x) (k:Nat) (hk:k < 3):Txt.contains (mkS (al k)) x = decide (Txt.lower x = Txt.lower (mkS [alN k])):=by
 obtain ⟨c,hc,rfl⟩:=h.h
 have h1:=zy1 ⟨c,hc⟩
 have h2:=zy0 ⟨c,hc⟩
 match k,hk with
 | 0,_=>exact h1.1.trans h2.1.symm
 | 1,_=>exact h1.2.1.trans h2.2.1.symm
 | 2,_=>exact h1.2.2.trans h2.2.2.1.symm
theorem zh5 {x:Str} (h:One x):lowB x:=by
 obtain ⟨c,hc,rfl⟩:=h.h
 exact Nat.le_trans (zy0 ⟨c,hc⟩).2.2.2 (by decide)
theorem wl_lt (x:Int):wl x < 160:=by
 exact zg4 (m:=5) (by decide) x (P:=fun k=>[120,88,121,89,49].getD k 0 < 160) (by decide)
theorem zl3 (x:Int):∀ c ∈ wnames x,c < 160:=by
 intro c hc
 unfold wnames at hc
 rcases List.mem_append.mp hc with hc | hc
 ·cases List.mem_singleton.mp hc; exact wl_lt x
 ·split at hc
  ·cases hc
  ·cases List.mem_singleton.mp hc; exact wf_lt x
theorem znn (cc:Nat -> Int) (n:Nat):∀ p ∈ wpairs cc n,One p.1 /\ ∃ b,p.2 = sgT b:=by
 intro p hp
 obtain ⟨k,_,hp⟩:=List.mem_flatMap.mp hp
 obtain ⟨c,hc,rfl⟩:=List.mem_map.mp hp
 exact ⟨⟨c,zl3 _ c (List.mem_filter.mp hc).1,rfl⟩,_,rfl⟩
noncomputable def sgs1 (P:Hs) (k:Nat):List Str:=(P.filter fun p=>Txt.contains (mkS (al k)) p.1).map (·.2)
theorem z2a {P:Hs} (h:∀ p ∈ P,One p.1) (k:Nat) (hk:k < 3):allV P (Txt.lower (mkS [alN k])) = (sgs1 P k).map V.str:=by
 unfold allV sgs1
 rw [List.map_map]
 have:(P.filter fun p=>decide (Txt.lower p.1 = Txt.lower (mkS [alN k]))) = P.filter fun p=>Txt.contains (mkS (al k)) p.1:=List.filter_congr fun p hp=>(one_in (h p hp) k hk).symm
 rw [this]; rfl
noncomputable def df (l:List Str):Int:=(l.countP (fun x=>decide (x = mkS [43])):Nat) - (l.countP (fun x=>decide (x = mkS [45])):Nat)
theorem zf5 {l:List Str} {x:Str}:(List.range l.length).countP (fun j=>decide (l[j]? = some x)) = l.countP fun y=>decide (y = x):=by
 have h:∀ (l:List Str),(List.range l.length).countP (fun j=>decide (l[j]? = some x)) = l.countP fun y=>decide (y = x):=by
  intro l
  induction l with
  | nil=>rfl
  | cons a l ih =>
   rw [List.length_cons,List.range_succ_eq_map,List.countP_cons,List.countP_map,List.countP_cons]
   have e:((fun j=>decide ((a :: l)[j]? = some x)) ∘ Nat.succ) = fun j=>decide (l[j]? = some x):=rfl
   rw [e,ih]
   have:decide ((a :: l)[0]? = some x) = decide (a = x):=by
    show decide (some a = some x) = _
    by_cases h:a = x
    ·rw [h]; simp
    ·rw [decide_eq_false h,decide_eq_false (fun z=>h (Option.some.inj z))]
   rw [this]
 exact h l
theorem df_le (l:List Str):(df l).natAbs <= l.length:=by
 have h1:l.countP (fun x=>decide (x = mkS [43])) <= l.length:=List.countP_le_length
 have h2:l.countP (fun x=>decide (x = mkS [45])) <= l.length:=List.countP_le_length
 unfold df
 lia
theorem zhm (P Q:Hs) (k:Nat):sgs1 (P ++ Q) k = sgs1 P k ++ sgs1 Q k:=by unfold sgs1; rw [List.filter_append,List.map_append]
theorem z0x:∀ c:Fin 160,((al 0).contains c.val).toNat + ((al 1).contains c.val).toNat + ((al 2).contains c.val).toNat <= (Yc.contains c.val).toNat:=by decide
theorem ze8 (P:Hs) (k:Nat):(sgs1 P k).length = P.countP fun p=>Txt.contains (mkS (al k)) p.1:=by unfold sgs1; rw [List.length_map,List.countP_eq_length_filter]
theorem zpw (sg:Str) (r:List Nat) (h:∀ c ∈ r,c < 160):(sgs1 ((r.filter wok).map fun c=>(mkS [c],sg)) 0).length + (sgs1 ((r.filter wok).map fun c=>(mkS [c],sg)) 1).length + (sgs1 ((r.filter wok).map fun c=>(mkS [c],sg)) 2).length <= r.countP Yc.contains:=by
 induction r with
 | nil=>exact Nat.le_refl _
 | cons c r ih =>
  have I:=ih fun x hx=>h x (List.mem_cons_of_mem _ hx)
  have hc:=h c List.mem_cons_self
  have o:=z0x ⟨c,hc⟩
  rw [List.countP_cons]
  by_cases hw:wok c = true
  ·rw [List.filter_cons_of_pos hw]
   rw [ze8,ze8,ze8] at I ⊢
   rw [List.map_cons,List.countP_cons,List.countP_cons,List.countP_cons]
   have a:=zy1 ⟨c,hc⟩
   dsimp only at a o ⊢
   rw [a.1,a.2.1,a.2.2]
   have t:∀ b:Bool,(if b = true then 1 else 0) = b.toNat:=fun b=>by cases b <;> rfl
   rw [t,t,t,t]
   lia
  ·rw [List.filter_cons_of_neg hw]; lia
theorem zw0 (cc:Nat -> Int) (n:Nat):(sgs1 (wpairs cc n) 0).length + (sgs1 (wpairs cc n) 1).length + (sgs1 (wpairs cc n) 2).length <= n:=by
 induction n with
 | zero=>exact Nat.le_refl _
 | succ n ih =>
  rw [zaq,zhm,zhm,zhm,List.length_append,List.length_append,List.length_append]
  have h:=zpw (sgT (wm (cc n) + min (n / 2) 1)) (wnames (cc n)) (zl3 _)
  have h2:(wnames (cc n)).countP Yc.contains <= 1:=by
   unfold wnames
   rw [List.countP_append]
   have:([wl (cc n)]:List Nat).countP Yc.contains <= 1:=Nat.le_trans List.countP_le_length (Nat.le_refl _)
   split
   ·rw [List.countP_nil]; exact Nat.le_trans ‹_› (by decide)
   ·rename_i hn
    rw [List.countP_cons_of_neg hn,List.countP_nil]; exact Nat.le_trans ‹_› (by decide)
  have e:wprs (cc n) n = ((wnames (cc n)).filter wok).map fun c=>(mkS [c],sgT (wm (cc n) + min (n / 2) 1)):=rfl
  rw [e]
  lia
noncomputable def linC (P:Hs):L1.Lin:=⟨df (sgs1 P 0),df (sgs1 P 1),df (sgs1 P 2)⟩
theorem zyl (cc:Nat -> Int):(linC (wpairs cc 5)).Ok:=⟨by
 have h:=zw0 cc 5
 have h0:=df_le (sgs1 (wpairs cc 5) 0)
 have h1:=df_le (sgs1 (wpairs cc 5) 1)
 have h2:=df_le (sgs1 (wpairs cc 5) 2)
 show (df _).natAbs + (df _).natAbs + (df _).natAbs <= 5
 lia⟩
noncomputable abbrev zao:Scope:=scopeOf F_law
noncomputable def lgT:Tgt:=.tup [(S "table",6,(pp 311 4 9)),(S "kind",7,(pp 311 11 15)),(S "words",8,(pp 311 17 22))] 0 (pp 311 4 22)
noncomputable def lgF:ED:=ED.glob Pl (S "_law_gathered") 29 (pp 311 25 38)
noncomputable def lgX:ED:=ED.loc (S "text") 4 (pp 311 39 43)
noncomputable def lgC:Expr:=.Call (.Name (S "_law_gathered") (pp 311 25 38)) ([lgX].map ED.ast) [] (pp 311 25 44)
noncomputable def law1s:List IS:=[zyg,zyf,zye]
noncomputable def law2s:List IS:=[zkv,zku,zkt,zks,zhy,zhx,zhv,zhu,zfn,zfl,zfk,zfj,zfi,zek,zej,zei,zeh,zeg,zef,zee]
theorem TX_law:bodyOf F_law = (IS.sems Pl law1s).map SD.ast ++ .Assign [lgT.ast] lgC (pp 311 4 44) :: (IS.sems Pl law2s).map SD.ast:=by kernel_rfl
theorem WL1:bwf (IS.sems Pl law1s) zao (ownNs zao ++ []) = true:=by kernel_rfl
theorem WL2:bwf (IS.sems Pl law2s) zao (ownNs zao ++ []) = true:=by kernel_rfl
theorem WL3:lgF.wf zao (ownNs zao ++ []) = true:=by kernel_rfl
theorem WL4:lgX.wf zao (ownNs zao ++ []) = true:=by kernel_rfl
theorem WL5:lgT.ok zao (ownNs zao ++ []) = true:=by kernel_rfl
theorem WL6 (env:Env):swapsWith lgC (some lgT.ast) 311 env = pure false:=rfl
theorem WL7 (env:Env):swappedStores [lgT.ast] lgC env = pure none:=rfl
section
variable {C:Cx} {K:Frag} (O:LawOk C K law1) (Fa:Facts C Pl) (Fs:Fns1 K) (Pa:PatAt C.base 107 nameCode)
include O Fa Fs Pa
theorem zr5 {Φ:Fm} {σ:St} {a:GaA} {s0 s1 s2 s3 s5 s6 s7 s8:Option V} {o:Slots} {K2:KF} (hsc:Φ.env.scope = zao) (hA:Φ.A.frames = some [Φ.env]) (fr:Φ.env.frame = some Φ.env.locals) (hd:5 <= C.d)
  (S:Std C Φ (look (ownNs zao ++ []) (s0 :: s1 :: s2 :: s3 :: some (.str (mkS a.X)) :: s5 :: s6 :: s7 :: s8 :: o)) σ) (h:GaOk a)
  (q:K2 .next (s0 :: s1 :: s2 :: s3 :: some (.str (mkS a.X)) :: s5 :: some (.ref (σ.g.cs.length + 1)) :: some (.int (a.S'.kind:Nat)) :: some (.ref (σ.g.cs.length + 3)) :: o) (gcs σ.g.cs a.S')) :
  XRuns C Φ (ownNs zao ++ []) σ (exec (.Assign [lgT.ast] lgC (pp 311 4 44)) Φ.env) K2:=fun Q E k=>by
 have OX:∀ d ∈ [lgX],EOk C Φ (ownNs zao ++ []) d:=fun d hd=>by cases List.mem_singleton.mp hd; exact zaw _ _ _ Φ _ (by rw [hsc]; exact WL4)
 have Of:EOk C Φ (ownNs zao ++ []) lgF:=zc5 Fa.glob _ _ _ Φ _ (by rw [hsc]; exact WL3)
 refine wpAny_Assign_stores (wpAny_Call_ofName (Of.val _ σ (fun v cs=>v = .adr 255 /\ cs = σ.g.cs) S ⟨rfl,rfl⟩ _ _ fun fv f' σ1 X1 rf q1=>?_)) (WL6 Φ.env) (WL7 Φ.env)
 obtain ⟨rfl,c1⟩:=q1
 cases rf.inv
 refine za0 (zau _ OX).1 rfl (zcu (kv:=[]) _ [] rfl OX (fun _ z=>nomatch z) (S.ext X1) (T:=fun vs _ cs=>vs = [.str (mkS a.X)] /\ cs = σ.g.cs) ⟨rfl,c1⟩ fun vs us a' σ2 X2 ra q2=>?_)
 obtain ⟨rfl,c2⟩:=q2
 obtain ⟨w,hw,rw_⟩:=ra.pos.one
 have S2:=(S.ext X1).ext X2
 have X02:=X1.trans X2
 obtain ⟨fd,hf⟩:=Option.isSome_iff_exists.mp Fs.k255.i
 obtain ⟨o',h1,h2⟩:=zm3 hf
 refine ⟨zc3 (C:=C) (S2.H.fz _ _ (S2.B.hf _ _ (O.W.inK.sub _ _ h1))) h2,?_⟩
 rw [show a'.kw = [] from ra.kw.nil_of,hw]
 have B':Base { C with fl:=plus C.fl Φ.env.locals } (σ2.wfl (plus σ2.g.fl Φ.env.locals)).g:=⟨S2.B.pr,S2.B.hf,fun a z=>z.elim .inl fun y=>.inr (S2.B.fl a y)⟩
 refine (zr6 (σ:=σ2.wfl (plus σ2.g.fl Φ.env.locals)) (a:=a) (KK:=fun v cs=>v = .tup [.ref (σ.g.cs.length + 1),.int (a.S'.kind:Nat),.ref (σ.g.cs.length + 3)] /\ cs = gcs σ.g.cs a.S') O Fs Pa (S2.O.less hd) (zfb S2.H S2.F) B' hA (fun e he=>by
  cases List.mem_singleton.mp he
  exact ⟨S2.F.kind,_,fr,.inl rfl⟩) (rw_.wfl _) h ?_).runs _ _ fun v x σ3 X3 r3 q3=>?_
 ·show _ = V.tup _ /\ gcs σ2.g.cs _ = _
  rw [show (σ2.wfl (plus σ2.g.fl Φ.env.locals)).g.cs = σ.g.cs from c2]
  exact ⟨rfl,rfl⟩
 obtain ⟨rfl,c3⟩:=q3
 have Y:=zdz X3 S2.H
 have S3:Std C Φ (look (ownNs zao ++ []) (s0 :: s1 :: s2 :: s3 :: some (.str (mkS a.X)) :: s5 :: s6 :: s7 :: s8 :: o)) (σ3.wfl σ2.g.fl):=⟨S2.F.after S2.H X3,Y.H,S2.B.le Y.le,S2.O⟩
 rw [zdi]
 refine zet (.inl rfl) (own2 lgT) S3 (by rw [hsc]; exact WL5) rfl (r3.wfl _) _ _ fun σ4 X4 c4 S4=>?_
 refine k .next _ _ σ4 ((toOwn X02).trans ((Y.mono fun _ z=>.inl z).trans X4)) .next S4 ?_
 rw [show σ4.g.cs = gcs σ.g.cs a.S' from c4.trans c3]
 exact q
end
noncomputable def strV (l:List Str):List V:=l.map V.str
section
variable {cs:List Cell} {lp:Nat} {P:Hs}
theorem zuu {K:List V -> List Cell -> Prop} {fr:Slots} (k:Nat) (h:cs[lp]? = some (.list (pairsV P))) (r:Hs):∀ (i:Nat) (acc:List V) (o1 o2:Option V),P.drop i = r -> acc.length + r.length <= 1000 -> K (acc ++ strV (sgs1 r k)) cs ->
  CompR zpl (boolT .And (IE.sems Pl zrn)) (emitL (zsu.sem Pl).val) (none :: o1 :: o2 :: none :: some (.str (mkS (al k))) :: fr) K acc (.cell lp i) cs:=by
 suffices H:∀ (i:Nat) (acc:List V) (o1 o2:Option V),P.drop i = r -> acc.length + r.length <= 1000 -> K (acc ++ strV (sgs1 r k)) cs -> CompR zpl (boolT .And (IE.sems Pl zrn)) (emitL (zsu.sem Pl).val) (none :: o1 :: o2 :: none :: some (.str (mkS (al k))) :: fr) K acc (.cell lp i) cs from H
 induction r with
 | nil=>exact fun i acc o1 o2 e _ q=>.done (.cell h (zd1 e)) (by rw [<- List.append_nil acc]; exact q)
 | cons p r ih =>
  intro i acc o1 o2 e hl q
  rw [List.length_cons] at hl
  refine .go (.cell h (zdd e)) rfl (.inS ?_)
  cases hb:Txt.contains (mkS (al k)) p.1 with
  | false =>
   have e2:sgs1 (p :: r) k = sgs1 r k:=by unfold sgs1; rw [List.filter_cons_of_neg (by rw [hb]; decide)]
   rw [e2] at q
   exact ih _ _ _ _ (zb9 e) (znh ‹_›) q
  | true =>
   have e2:sgs1 (p :: r) k = p.2 :: sgs1 r k:=by unfold sgs1; rw [List.filter_cons_of_pos (p:=fun p:Str × Str=>Txt.contains (mkS (al k)) p.1) hb]; rfl
   rw [e2] at q
   refine ⟨Nat.lt_of_lt_of_le (zc9 ‹_›:acc.length < 1000) (by decide),ih _ _ _ _ (zb9 e) (by rw [List.length_append,List.length_singleton]; exact zda ‹_›) ?_⟩
   rw [List.append_assoc]
   exact q
theorem ztu:S "xX" = mkS (al 0) /\ S "yY" = mkS (al 1) /\ S "1" = mkS (al 2):=by
 refine ⟨?_,?_,?_⟩ <;> rw [S,zaz] <;> rfl
theorem zya:S "+" = mkS [43] /\ S "-" = mkS [45]:=by
 refine ⟨?_,?_⟩ <;> rw [S,zaz] <;> rfl
noncomputable def sgnV (P:Hs):V:=.lst [.lst (strV (sgs1 P 0)),.lst (strV (sgs1 P 1)),.lst (strV (sgs1 P 2))]
theorem zz3 (P:Hs) (k:Nat):(strV (sgs1 P k)).length <= P.length:=by rw [strV,List.length_map,ze8]; exact List.countP_le_length
theorem zp7 {K:KV} {f0 f1 f2 f3 f4:Option V} {o:Slots} (h:cs[lp]? = some (.list (pairsV P))) (hP:P.length <= 1000) (q:K (sgnV P) cs) :
  ((IE.lcomp false zik zhk (.tup [(.con (.str (S "xX")) 0 (pp 312 79 83)),(.con (.str (S "yY")) 0 (pp 312 85 89)),(.con (.str (S "1")) 0 (pp 312 91 94))] 0 (pp 312 78 95)) zig zql (pp 312 12 96)).sem Pl).val (f0 :: f1 :: f2 :: f3 :: f4 :: some (.ref lp) :: o) cs K:=by
 have one:∀ {k:Nat} {acc ys:List V} {KK:List V -> List Cell -> Prop} {o1:Option V},acc.length <= 2 ->
   (∀ o1,CompR zhk (boolT .And (IE.sems Pl zig)) (emitL (zik.sem Pl).val) (none :: o1 :: f0 :: f1 :: f2 :: f3 :: f4 :: some (.ref lp) :: o) KK (acc ++ [.lst (strV (sgs1 P k))]) (.items ys) cs) ->
   CompR zhk (boolT .And (IE.sems Pl zig)) (emitL (zik.sem Pl).val) (none :: o1 :: f0 :: f1 :: f2 :: f3 :: f4 :: some (.ref lp) :: o) KK acc (.items (.str (mkS (al k)) :: ys)) cs:=by
  intro k acc ys KK o1 ha qq
  refine .go (.items _ _) rfl ⟨Nat.lt_of_le_of_lt ha (by decide),_,.cell h,zuu k h P 0 [] none none rfl (by rw [List.length_nil]; lia) ⟨?_,qq _⟩⟩
  rw [List.nil_append]
  exact Nat.le_trans (zz3 P k) (Nat.le_trans hP (by decide))
 refine ⟨(by decide:3 <= lim),_,.tup _,?_⟩
 show CompR _ _ _ _ _ _ (.items [.str (S "xX"),.str (S "yY"),.str (S "1")]) _
 rw [ztu.1,ztu.2.1,ztu.2.2]
 exact one (Nat.zero_le _) fun _=>one (by decide:1 <= 2) fun _=>one (Nat.le_refl 2) fun _=>.done .items ⟨(by decide:3 <= lim),q⟩
theorem zk8 {K:KV} {l:List Str} {fr:Slots} {c0:Option V} (q:K (.int (df l)) cs):(zll.sem Pl).val (c0 :: some (.lst (strV l)) :: fr) cs K:=by
 have e:(strV l).length = l.length:=List.length_map _
 refine ⟨.count (.lst _),.count (fun j=>decide (l[j]? = some (S "+"))) (.lst _) (zsd _ _) ⟨.count (.lst _),.count (fun j=>decide (l[j]? = some (S "-"))) (.lst _) (zsd _ _) (.subI ?_)⟩⟩
 rw [e,zf5,zf5,zya.1,zya.2]
 exact q
theorem zqz {K:List V -> List Cell -> Prop} {fr:Slots} (q:K [.int (linC P).first,.int (linC P).second,.int (linC P).start] cs) :
  CompR zpu (boolT .And (IE.sems Pl zrv)) (emitL (zll.sem Pl).val) (none :: none :: fr) K [] (.items [.lst (strV (sgs1 P 0)),.lst (strV (sgs1 P 1)),.lst (strV (sgs1 P 2))]) cs :=
 .go (.items _ _) rfl ⟨(by decide:0 < lim),zk8 (.go (.items _ _) rfl ⟨(by decide:1 < lim),zk8 (.go (.items _ _) rfl ⟨(by decide:2 < lim),zk8 (.done .items q)⟩)⟩)⟩
end
noncomputable def wayC (c:List Int):Int:=1 - (((c.getD 5 0).fdiv 6).fmod 2) * 2
theorem fm2 (x:Int):x.fmod 2 = 0 \/ x.fmod 2 = 1:=by
 rw [Int.fmod_eq_emod_of_nonneg _ (by decide)]
 exact Int.emod_two_eq x
theorem zx2 (c:List Int):wayC c = 1 \/ wayC c = -1:=by
 unfold wayC
 rcases fm2 ((c.getD 5 0).fdiv 6) with h | h <;> rw [h]
 ·exact .inl rfl
 ·exact .inr rfl
section
variable {cs:List Cell}
theorem zw6 {K:List V -> List Cell -> Prop} {fr:Slots} (r:List Nat):∀ (acc:List V) (o:Option V),acc.length + r.length <= 1000 -> K (acc ++ wordsV (r.countP nameBad)) cs ->
  CompR zkj (boolT .And (IE.sems Pl zld)) (emitL (zlk.sem Pl).val) (none :: o :: fr) K acc (.items (chV r)) cs:=by
 induction r with
 | nil=>exact fun acc o _ q=>.done .items (by rw [<- List.append_nil acc]; exact q)
 | cons c r ih =>
  intro acc o hl q
  rw [List.length_cons] at hl
  have yes:nameBad c = true -> acc.length < lim /\ CompR zkj (boolT .And (IE.sems Pl zld)) (emitL (zlk.sem Pl).val) (none :: o :: fr) K (acc ++ [.str msgC]) (.items (chV r)) cs:=fun hb=>by
   rw [List.countP_cons_of_pos hb] at q
   refine ⟨Nat.lt_of_lt_of_le (zc9 ‹_›:acc.length < 1000) (by decide),ih _ _ (by rw [List.length_append,List.length_singleton]; exact zda ‹_›) ?_⟩
   rw [List.append_assoc]
   have:[V.str msgC] ++ wordsV (r.countP nameBad) = wordsV (r.countP nameBad + 1):=rfl
   rw [this]; exact q
  by_cases h1:c < 32
  ·exact .go (.items _ _) rfl (.ord (.ltT (Int.ofNat_lt.mpr ‹_›) (yes (by unfold nameBad; rw [decide_eq_true (Nat.le_of_lt_succ ‹_›:c <= 31)]; rfl))))
  ·by_cases h2:c = 127
   ·subst h2
    exact .go (.items _ _) rfl (.ord (.ltF (by lia) (.ord (.eq (.intT rfl) (yes rfl)))))
   ·have hb:¬ nameBad c = true:=by unfold nameBad; rw [decide_eq_false (by lia:¬ c <= 31)]; simpa using h2
    rw [List.countP_cons_of_neg hb] at q
    exact .go (.items _ _) rfl (.ord (.ltF (by lia) (.ord (.eq (.intF (fun e=>h2 (Int.ofNat.inj e))) (ih _ _ (znh ‹_›) q)))))
theorem zdx {n:Nat} {k1:Bool} {a b:V} {l:List Str} (ha:SeqR cs a k1 (strV l)) (hb:SeqR cs b k1 (strV l)):EqR cs (n + 1) a b true:=.allT ha hb (zj5 _ _ fun _=>.strT rfl)
theorem zi1 (n:Nat):wordsV n = strV (List.replicate n msgC):=by unfold wordsV strV; rw [List.map_replicate]
theorem zm4 {n:Nat} {a b c a' b' c':V} (h1:EqR cs n a a' true) (h2:EqR cs n b b' true) (h3:EqR cs n c c' true):EqR cs (n + 1) (.lst [a,b,c]) (.lst [a',b',c']) true:=.allT (.lst _) (.lst _) (.cons h1 (.cons h2 (.cons h3 .nil)))
end
noncomputable def tkI (c:Int):List Int:=[[-1],[1],[-1,0],[0,1],[0],[-1,1]].getD (c.fmod 6).toNat []
theorem tk_at (c:Int):idxV [V.lst [.int (-1)],.lst [.int 1],.lst [.int (-1),.int 0],.lst [.int 0,.int 1],.lst [.int 0],.lst [.int (-1),.int 1]] (c.fmod 6) = some (.lst ((tkI c).map .int)) :=
 zm2 [[-1],[1],[-1,0],[0,1],[0],[-1,1]] (fun l:List Int=>V.lst (l.map .int)) [] (m:=6) (by decide) rfl c
theorem kd_at (c:Int):idxV [V.int 20,.int 21,.int 29,.int 30,.int 27,.int 28] (c.fmod 6) = some (.int (opN c:Nat)) :=
 zm2 [20,21,29,30,27,28] (fun k:Nat=>V.int k) 0 (m:=6) (by decide) rfl c
structure LwI where
 zs:List V
 c:List Int
 lc:Nat
 lp:Nat
 lt:Nat
 lk:Nat
 lw:Nat
structure LwB (a:LwI) (cs:List Cell):Prop where
 t:Tabs cs
 lc:a.c.length = 8
 hc:cs[a.lc]? = some (.list (a.c.map .int))
 hp:cs[a.lp]? = some (.list (pairsV (wP a.c)))
 tb:Tb cs a.lt a.lk (wP a.c)
 hw:cs[a.lw]? = some (.list (wordsV ((wX a.c).countP nameBad)))
theorem Tabs.app {cs:List Cell} (h:Tabs cs) (xs:List Cell):Tabs (cs ++ xs):=⟨zbw _ h.t1,zbw _ h.t2⟩
theorem LwB.app {a:LwI} {cs:List Cell} (h:LwB a cs) (xs:List Cell):LwB a (cs ++ xs):=⟨h.t.app xs,h.lc,zbw _ h.hc,zbw _ h.hp,h.tb.app xs,zbw _ h.hw⟩
noncomputable abbrev lsl (a:LwI) (o2 o3:Option V) (r:Slots):Slots:=some (.lst a.zs) :: some (.ref a.lc) :: o2 :: o3 :: some (.str (mkS (wX a.c))) :: some (.ref a.lp) :: some (.ref a.lt) :: some (.int (opN (a.c.getD 5 0):Nat)) :: some (.ref a.lw) :: r
noncomputable abbrev Lc (a:LwI):L1.Lin:=linC (wP a.c)
theorem zx3 (c:List Int):(wP c).length <= 10:=zgs _ 5
section
variable {a:LwI} {cs:List Cell} {K1:KF} {o2 o3:Option V} {o:Slots}
noncomputable abbrev sl_b (a:LwI) (o2 o3:Option V) (f r:Nat) (o:Slots):Slots:=lsl a o2 o3 (some (sgnV (wP a.c)) :: some (.int (Lc a).first) :: some (.int (Lc a).second) :: some (.int (Lc a).start) :: some (.int (wayC a.c)) :: some (.bool true) :: some (.ref f) :: some (.ref r) :: o)
theorem law_b1 (B:LwB a cs) (q:∀ D F R,L1.Tab (Lc a) F R -> K1 .next (sl_b a o2 o3 (cs.length + 2) (cs.length + 3) o) (ccs cs D D F R)) :
  bden (IS.sems Pl [zkv,zku,zkt,zks]) (lsl a o2 o3 (none :: none :: none :: none :: none :: none :: none :: none :: o)) cs K1:=by
 have hl:=zx3 a.c
 refine zp7 B.hp (Nat.le_trans hl (by decide)) ?_
 refine ⟨_,.lst _,zqz (P:=wP a.c) ⟨(by decide:3 <= lim),?_⟩⟩
 refine ⟨_,.seq (.ref B.hc) (c_idx B.lc 5 (by decide)),zis (by decide +kernel) (zdr rfl (.mulI ?_ (.subI ?_)))⟩
 ·rcases fm2 ((a.c.getD 5 0).fdiv 6) with h | h <;> rw [h] <;> exact mul_l (by decide)
 exact zac fl_ca ⟨Lc a,wayC a.c⟩ ⟨⟨B.t,zyl _,zx2 _⟩,q⟩
theorem law_b2 (B:LwB a cs) {f r:Nat} (q:K1 .next (sl_b a o2 o3 f r (some (.lst (wordsV ((wX a.c).countP nameBad))) :: some (.lst ((tkI (a.c.getD 5 0)).map .int)) :: o)) cs) :
  bden (IS.sems Pl [zhy,zhx,zhv,zhu]) (sl_b a o2 o3 f r (none :: none :: o)) cs K1:=by
 have hl:=zx3 a.c
 have hX:(wX a.c).length <= 25:=zhg _ _ 5
 have hP:∀ p ∈ wP a.c,One p.1:=fun p hp=>(znn _ 5 p hp).1
 have h10:(wP a.c).length <= lim:=Nat.le_trans hl (by decide)
 have nw:(wordsV ((wX a.c).countP nameBad)).length <= 25:=by rw [wordsV,List.length_replicate]; exact Nat.le_trans List.countP_le_length hX
 refine ⟨_,zkl _,zw6 (wX a.c) [] none (by rw [List.length_nil]; lia) ⟨Nat.le_trans nw (by decide),?_⟩⟩
 refine ⟨B.tb.cls,zac fl_it ⟨a.lt,a.lk,wP a.c⟩ ⟨B.tb,h10,(by decide:3 <= lim),?_⟩⟩
 refine ⟨by decide,_,.seq (.ref B.hc) (c_idx B.lc 5 (by decide)),zdr rfl ⟨_,.seq (.lst _) (kd_at _),(by decide:3 <= lim),?_⟩⟩
 have kk:EqR cs 8 (.int (opN (a.c.getD 5 0):Nat)) (.int (opN (a.c.getD 5 0):Nat)) true:=.intT rfl
 refine .ne (zm4 (zgx (.lst _) (.ref B.hp)) (zdx (l:=List.replicate ((wX a.c).countP nameBad) msgC) (.ref (by rw [<- zi1]; exact B.hw)) (by rw [<- zi1]; exact .lst _)) kk) ?_
 have ga:∀ {KK:KV} (k:Nat) (x:Str),k < 3 -> x = mkS [alN k] -> nameOk (Txt.lower (mkS [alN k])) -> lowB (mkS [alN k]) -> KK (.lst (strV (sgs1 (wP a.c) k))) cs -> CallR Pl cs KK (.adr 180) [.ref a.lt,.str x] []:=fun {KK} k x hk hx h1 h2 qq=>by
  subst hx
  refine zac fl_ga ⟨a.lt,mkS [alN k],a.lk,wP a.c⟩ ⟨⟨⟨B.tb,h2,h1,fun p hp=>zh5 (hP p hp)⟩,h10⟩,?_⟩
  dsimp only
  rw [z2a hP k hk]
  exact qq
 have nX:S "X" = mkS [alN 0] /\ S "y" = mkS [alN 1] /\ S "1" = mkS [alN 2]:=by refine ⟨?_,?_,?_⟩ <;> rw [S,zaz] <;> rfl
 have ok3:∀ k:Fin 3,nameOk (Txt.lower (mkS [alN k.val])) /\ lowB (mkS [alN k.val]):=fun k=>by
  match k with
  | 0=>exact ⟨by unfold nameOk; decide +kernel,zh5 ⟨88,by decide,rfl⟩⟩
  | 1=>exact ⟨by unfold nameOk; decide +kernel,zh5 ⟨121,by decide,rfl⟩⟩
  | 2=>exact ⟨by unfold nameOk; decide +kernel,zh5 ⟨49,by decide,rfl⟩⟩
 refine ⟨B.tb.cls,ga 0 _ (by decide) nX.1 (ok3 0).1 (ok3 0).2 ⟨B.tb.cls,ga 1 _ (by decide) nX.2.1 (ok3 1).1 (ok3 1).2 ⟨B.tb.cls,ga 2 _ (by decide) nX.2.2 (ok3 2).1 (ok3 2).2 ⟨(by decide:3 <= lim),?_⟩⟩⟩⟩
 refine .ne (zm4 (zdx (.lst _) (.lst _)) (zdx (.lst _) (.lst _)) (zdx (.lst _) (.lst _))) ?_
 refine .neg ⟨by decide,by decide,.neg ⟨by decide,by decide,by decide,.neg ⟨by decide,by decide,?_⟩⟩⟩
 exact ⟨_,.seq (.ref B.hc) (c_idx B.lc 5 (by decide)),zdr rfl ⟨_,.seq (.lst _) (tk_at _),q⟩⟩
end
noncomputable def tkB (c:List Int) (v:Int):Bool:=decide (v ∈ tkI (c.getD 5 0))
noncomputable def takesB (c:List Int) (F:List L1.P):List Bool:=F.map fun p=>tkB c (L1.sgP p)
noncomputable def bbV (p:Bool × Bool):V:=.lst [.bool p.1,.bool p.2]
noncomputable def toldB (g b s:Nat):Bool × Bool:=(decide (s &&& g ≠ 0),decide (s &&& b = 0))
noncomputable def adrs (b m:Nat):List Nat:=(List.range m).map fun i=>b + i
theorem zj6 (b m:Nat):(adrs b m).map V.ref = refs b m:=by unfold adrs refs; rw [List.map_map]; rfl
theorem ztv {b m i x:Nat} (h:(adrs b m)[i]? = some x):x = b + i:=by
 unfold adrs at h
 rw [List.getElem?_map] at h
 cases e:(List.range m)[i]? with
 | none=>rw [e] at h; cases h
 | some y =>
  rw [e] at h
  cases h
  obtain ⟨hj,ey⟩:=List.getElem?_eq_some_iff.mp e
  rw [List.getElem_range] at ey
  rw [ey]
theorem RowsAt.app {cs:List Cell} {r:Nat} {as:List Nat} {rs:List (List Nat)} (R:RowsAt cs r as rs) (xs:List Cell):RowsAt (cs ++ xs) r as rs:=⟨zbw _ R.h,R.l,fun i a row h1 h2=>zbw _ (R.at_ i a row h1 h2)⟩
section
variable {cs:List Cell}
theorem z2r {D1 D2:Hs} {F:List L1.P} {R:List (List Nat)}:RowsAt (ccs cs D1 D2 F R) (cs.length + 3) (adrs (cs.length + 6) R.length) R :=
 ⟨by rw [zj6]; exact cc_3,by unfold adrs; rw [List.length_map,List.length_range],fun i a row h1 h2=>by rw [ztv h1]; exact cc_i h2⟩
theorem zz8 {S:List Nat} {W:List (List Nat)}:RowsAt (scs cs S W) (cs.length + 1) (adrs (cs.length + 2) W.length) W :=
 ⟨by rw [zj6]; exact scs_w,by unfold adrs; rw [List.length_map,List.length_range],fun i a row h1 h2=>by rw [ztv h1]; exact scs_i h2⟩
theorem zmv {KK:KB} {l:List Int} {p:Int} (q:KK (decide (p ∈ l)) cs):CmpR cs KK .In (.int p) (.lst (l.map .int)):=.inI (.lst _) rfl q
theorem zns {K:List V -> List Cell -> Prop} {fr:Slots} {c:List Int} {F:List L1.P} {f:Nat} (hf:cs[f]? = some (.list (fdV F))) (hF:F.length <= 22) (h18:(fr[18]?).join = some (.lst ((tkI (c.getD 5 0)).map .int))) (q:K (mv (takesB c F)) cs) (n:Nat):∀ (i:Nat),i + n = F.length ->
  CompR zpt (boolT .And (IE.sems Pl zrs)) (emitL (zsy.sem Pl).val) (none :: none :: none :: fr) K (mv ((F.take i).map fun p=>tkB c (L1.sgP p))) (.cell f i) cs:=by
 induction n with
 | zero =>
  intro i e
  cases (e:i = _)
  refine .done (.cell hf (by rw [fdV,List.getElem?_map,List.getElem?_eq_none (Nat.le_refl _)]; rfl)) ?_
  rw [List.take_length]; exact q
 | succ n ih =>
  intro i e
  have hi:i < F.length:=zf0 ‹_›
  have hx:(fdV F)[i]? = some (pairI F[i]):=by rw [fdV,List.getElem?_map,List.getElem?_eq_getElem hi]; rfl
  refine .go (.cell hf hx) rfl ⟨?_,zac fl_sg F[i] ?_⟩
  ·rw [mv,List.length_map,List.length_map,List.length_take]; show _ < 8388608; exact Nat.lt_of_le_of_lt (Nat.le_trans (Nat.min_le_right _ _) ‹_›) (by decide)
  ·show Option.rec False _ ((fr[18]?).join)
   rw [h18]
   refine zmv ?_
   have e1:mv ((F.take i).map fun p=>tkB c (L1.sgP p)) ++ [.bool (decide (L1.sgP F[i] ∈ tkI (c.getD 5 0)))] = mv ((F.take (i + 1)).map fun p=>tkB c (L1.sgP p)):=by
    rw [List.take_add_one,List.getElem?_eq_getElem hi,List.map_append,mv,mv,List.map_append]; rfl
   dsimp only
   rw [e1]
   exact ih (i + 1) (ind_s ‹_›)
theorem zvj {K:List V -> List Cell -> Prop} {fr:Slots} (r:List Bool):∀ (acc:List V),acc.length + r.length <= 1000 -> K (acc ++ mv (r.map (!·))) cs -> CompR zps (boolT .And (IE.sems Pl zrr)) (emitL (zsx.sem Pl).val) (none :: none :: fr) K acc (.items (mv r)) cs:=by
 induction r with
 | nil=>exact fun acc _ q=>.done .items (by rw [<- List.append_nil acc]; exact q)
 | cons b r ih =>
  intro acc hl q
  rw [List.length_cons] at hl
  refine .go (.items _ _) rfl ⟨Nat.lt_of_lt_of_le (zc9 ‹_›:acc.length < 1000) (by decide),ih _ (by rw [List.length_append,List.length_singleton]; exact zda ‹_›) ?_⟩
  rw [List.append_assoc]
  exact q
theorem zpi {K:List V -> List Cell -> Prop} {fr:Slots} {S:List Nat} {s g b:Nat} (hs:cs[s]? = some (.list (natV S))) (hl:S.length <= 2 ^ 22) (hg:(fr[21]?).join = some (.int (g:Nat))) (hb:(fr[22]?).join = some (.int (b:Nat))) (q:K ((S.map (toldB g b)).map bbV) cs) (n:Nat):∀ (i:Nat),i + n = S.length ->
  CompR zki (boolT .And (IE.sems Pl zlc)) (emitL (zlj.sem Pl).val) (none :: none :: fr) K (((S.take i).map (toldB g b)).map bbV) (.cell s i) cs:=by
 induction n with
 | zero =>
  intro i e
  cases (e:i = _)
  refine .done (.cell hs (by rw [natV,List.getElem?_map,List.getElem?_eq_none (Nat.le_refl _)]; rfl)) ?_
  rw [List.take_length]; exact q
 | succ n ih =>
  intro i e
  have hi:i < S.length:=zf0 ‹_›
  have hx:(natV S)[i]? = some (.int (S[i]:Nat)):=by rw [natV,List.getElem?_map,List.getElem?_eq_getElem hi]; rfl
  refine .go (.cell hs hx) rfl ⟨?_,?_⟩
  ·rw [List.length_map,List.length_map,List.length_take]; show _ < 8388608; exact Nat.lt_of_le_of_lt (Nat.le_trans (Nat.min_le_right _ _) ‹_›) (by decide)
  ·show Option.rec False _ ((fr[21]?).join)
   rw [hg]
   refine .andN rfl (.ne (.int _ _ _) ?_)
   show Option.rec False _ ((fr[22]?).join)
   rw [hb]
   refine .andN rfl (.eq (.int _ _ _) ⟨(by decide:2 <= lim),?_⟩)
   have e0:[V.bool !decide (((S[i] &&& g:Nat):Int) = 0),.bool (decide (((S[i] &&& b:Nat):Int) = 0))] = [V.bool (toldB g b S[i]).1,.bool (toldB g b S[i]).2]:=by
    unfold toldB
    have h1:∀ x:Nat,decide ((x:Int) = 0) = decide (x = 0):=fun x=>decide_eq_decide.mpr (by lia)
    rw [h1,h1]
    congr 2
    by_cases h:S[i] &&& g = 0 <;> simp [h]
   have e1:((S.take i).map (toldB g b)).map bbV ++ [.lst [V.bool !decide (((S[i] &&& g:Nat):Int) = 0),.bool (decide (((S[i] &&& b:Nat):Int) = 0))]] = ((S.take (i + 1)).map (toldB g b)).map bbV:=by
    rw [e0,List.take_add_one,List.getElem?_eq_getElem hi,List.map_append,List.map_append]; rfl
   exact (congrArg (fun z=>CompR zki (boolT .And (IE.sems Pl zlc)) (emitL (zlj.sem Pl).val) (none :: none :: fr) K z (.cell s (i + 1)) cs) e1).mpr (ih (i + 1) (ind_s ‹_›))
end
theorem tab_ok {L:L1.Lin} {F:List L1.P} {R:List (List Nat)} (T:L1.Tab L F R):RowsOk R /\ ∀ row ∈ R,∀ d ∈ row,d <= 22:=by
 refine ⟨⟨by rw [T.le]; exact T.n,fun row h=>?_⟩,fun row h d hd=>?_⟩
 ·obtain ⟨i,hi,e⟩:=List.getElem_of_mem h
  exact (T.cl i row (by rw [List.getElem?_eq_getElem hi,e])).1
 ·obtain ⟨i,hi,e⟩:=List.getElem_of_mem h
  obtain ⟨h4,p,_,hh⟩:=T.cl i row (by rw [List.getElem?_eq_getElem hi,e])
  obtain ⟨k,hk,e2⟩:=List.getElem_of_mem hd
  obtain ⟨j,hj,hf⟩:=hh k (Nat.lt_of_lt_of_eq ‹_› ‹_›)
  rw [List.getElem?_eq_getElem hk,e2] at hj
  cases hj
  have:=(List.getElem?_eq_some_iff.mp hf).1
  have:=T.n
  exact Nat.le_of_lt (Nat.lt_of_lt_of_le ‹_› ‹_›)
structure LwT (a:LwI) (cs:List Cell) (f r:Nat) (as:List Nat) (F:List L1.P) (R:List (List Nat)):Prop where
 T:L1.Tab (Lc a) F R
 hf:cs[f]? = some (.list (fdV F))
 R:RowsAt cs r as R
theorem LwT.app {a:LwI} {cs:List Cell} {f r:Nat} {as:List Nat} {F:List L1.P} {R:List (List Nat)} (h:LwT a cs f r as F R) (xs:List Cell):LwT a (cs ++ xs) f r as F R:=⟨h.T,zbw _ h.hf,h.R.app xs⟩
noncomputable def goodN (a:LwI) (F:List L1.P) (R:List (List Nat)):Nat:=L1.bmask (L1.ledN R (takesB a.c F) R.length)
noncomputable def badN (a:LwI) (F:List L1.P) (R:List (List Nat)):Nat:=L1.bmask (L1.ledN R ((takesB a.c F).map (!·)) R.length)
noncomputable def toldL (a:LwI) (F:List L1.P) (R:List (List Nat)) (S:List Nat):List (Bool × Bool):=S.map (toldB (goodN a F R) (badN a F R))
noncomputable abbrev sl_c (a:LwI) (o2 o3:Option V) (f r:Nat) (F:List L1.P) (R:List (List Nat)) (S:List Nat) (ls ld:Nat) (o:Slots):Slots :=
 sl_b a o2 o3 f r (some (.lst (wordsV ((wX a.c).countP nameBad))) :: some (.lst ((tkI (a.c.getD 5 0)).map .int)) :: none :: some (.lst (mv (takesB a.c F))) :: some (.int (goodN a F R:Nat)) :: some (.int (badN a F R:Nat)) :: some (.ref ls) :: some (.ref (ls + 1)) :: some (.lst ((toldL a F R S).map bbV)) :: some (.ref ld) :: o)
section
variable {a:LwI} {cs:List Cell} {K1:KF} {o2 o3:Option V} {o:Slots} {f r:Nat} {as:List Nat} {F:List L1.P} {R:List (List Nat)}
theorem law_c (B:LwB a cs) (X:LwT a cs f r as F R) (q:∀ S W,L1.STab R S W -> S.length <= 2 ^ 22 -> K1 .next (sl_c a o2 o3 f r F R S cs.length (scs cs S W).length o) (scs cs S W ++ [.list []])) :
  bden (IS.sems Pl [zfn,zfl,zfk,zfj,zfi]) (sl_b a o2 o3 f r (some (.lst (wordsV ((wX a.c).countP nameBad))) :: some (.lst ((tkI (a.c.getD 5 0)).map .int)) :: none :: none :: none :: none :: none :: none :: none :: none :: o)) cs K1:=by
 have hF:=X.T.n
 have to:=tab_ok X.T
 have lt:(takesB a.c F).length = R.length:=by rw [takesB,List.length_map,X.T.le]
 have lm:(mv (takesB a.c F)).length = R.length:=by rw [mv,List.length_map,lt]
 have hR:=to.1.n
 refine ⟨_,.cell X.hf,zns (c:=a.c) X.hf hF rfl ⟨by rw [lm]; show _ <= 8388608; exact Nat.le_trans ‹_› (by decide),?_⟩ F.length 0 (Nat.zero_add _)⟩
 refine zac fl_ld ⟨r,as,R,takesB a.c F⟩ ⟨⟨B.t.t2,X.R,to.1,L1.okr X.T,lt⟩,?_⟩
 refine ⟨_,.lst _,zvj _ [] (by rw [List.length_nil,lt]; lia) ⟨by rw [List.nil_append,mv,List.length_map,List.length_map,lt]; show _ <= 8388608; exact Nat.le_trans ‹_› (by decide),?_⟩⟩
 refine zac fl_ld ⟨r,as,R,(takesB a.c F).map (!·)⟩ ⟨⟨B.t.t2,X.R,to.1,L1.okr X.T,by rw [List.length_map]; exact lt⟩,(by decide:2 <= lim),?_⟩
 refine zac fl_st ⟨r,as,R⟩ ⟨⟨⟨_,_,X.T⟩,X.R,to.1,to.2⟩,fun S W T hS=>?_⟩
 refine ⟨_,.cell scs_s,zpi (g:=goodN a F R) (b:=badN a F R) scs_s hS rfl rfl ⟨by rw [List.length_map,List.length_map]; show _ <= 8388608; exact Nat.le_trans ‹_› (by decide),?_⟩ S.length 0 (Nat.zero_add _)⟩
 exact ⟨Nat.zero_le _,q S W T hS⟩
end
noncomputable def dsN (N:Nat):List Nat:=digs 1 (cntOf N 1) N
noncomputable def plN (W:List (List Nat)) (N:Nat):Nat:=L1.plc W 0 (dsN N)
noncomputable def entB (a:LwI) (N:Nat):Bool × Bool:=((Lc a).any (tkB a.c) N,(Lc a).all (tkB a.c) N)
theorem zxo (ds:List Nat):L1.bval ds = val 1 ds:=by
 induction ds with
 | nil=>rfl
 | cons d ds ih=>show d + 2 * L1.bval ds = d + 2 ^ 1 * val 1 ds; rw [ih]
theorem z2t (ds:List Nat) (h:∀ d ∈ ds,d < 2):L1.bval ds < 2 ^ ds.length:=by
 induction ds with
 | nil=>decide
 | cons d ds ih =>
  have h1:=h d List.mem_cons_self
  have h2:=ih fun x hx=>h x (List.mem_cons_of_mem _ hx)
  show d + 2 * L1.bval ds < 2 ^ (ds.length + 1)
  rw [Nat.pow_succ]
  lia
theorem zs0 (N:Nat):∀ d ∈ dsN N,d < 2:=zln 1 (cntOf N 1) N (zg9 N 1 (Nat.le_refl 1))
theorem zsz (N:Nat):L1.bval (dsN N) = N:=by rw [zxo]; exact zpd 1 N (Nat.le_refl 1)
section
variable {a:LwI} {F:List L1.P} {R W:List (List Nat)} {S:List Nat} (T:L1.Tab (Lc a) F R) (I:L1.STab R S W) (hL:(Lc a).Ok)
theorem zyx:badN a F R = L1.bmask (L1.ledN R (F.map fun p=>!tkB a.c (L1.sgP p)) R.length):=by unfold badN takesB; rw [List.map_map]; rfl
include T hL
theorem zui {x m mask:Nat} (hx:x < 2 ^ m) (h64:x < 65536) (St:L1.Set R x m mask):toldB (goodN a F R) (badN a F R) mask = entB a x:=by
 have hb:=L1.zrw hL h64
 have e1:=L1.zkg T (tk:=tkB a.c) hx St
 have e2:=L1.zl7 T (tk:=tkB a.c) hx St
 have a1:=L1.zl0 hb (tkB a.c)
 have a2:=L1.ztt hb (tkB a.c)
 unfold toldB entB
 rw [zyx]
 refine Prod.ext ?_ ?_
 ·show decide (mask &&& goodN a F R ≠ 0) = _
  rw [Bool.eq_iff_iff,decide_eq_true_iff]
  exact e1.trans a1.symm
 ·show decide (mask &&& L1.bmask _ = 0) = _
  rw [Bool.eq_iff_iff,decide_eq_true_iff]
  exact e2.trans a2.symm
include I
theorem zzs {N:Nat} (hN:N < 65536):∃ mask,S[plN W N]? = some mask /\ toldB (goodN a F R) (badN a F R) mask = entB a N:=by
 obtain ⟨mask,h1,h2⟩:=L1.plc_ok T I (dsN N) 0 0 0 1 (zs0 N) (by decide) I.z (L1.zmc R)
 rw [Nat.pow_zero,Nat.one_mul,Nat.zero_add,Nat.zero_add,zsz] at h2
 have hlt:=z2t (dsN N) (zs0 N)
 rw [zsz] at hlt
 exact ⟨mask,h1,zui T hL hlt hN h2⟩
theorem zzr:∀ mask ∈ S,∃ x,x < 8 /\ toldB (goodN a F R) (badN a F R) mask = entB a x:=by
 intro mask hm
 obtain ⟨x,m,hx,St⟩:=I.re mask hm
 have e1:=L1.zkg T (tk:=tkB a.c) hx St
 have e2:=L1.zl7 T (tk:=tkB a.c) hx St
 obtain ⟨x',h8,h1,h2⟩:=L1.zsr hL (tkB a.c) x
 refine ⟨x',h8,?_⟩
 unfold toldB entB
 rw [zyx]
 refine Prod.ext ?_ ?_
 ·show decide (mask &&& goodN a F R ≠ 0) = _
  rw [Bool.eq_iff_iff,decide_eq_true_iff]
  exact e1.trans h1
 ·show decide (mask &&& L1.bmask _ = 0) = _
  rw [Bool.eq_iff_iff,decide_eq_true_iff]
  exact e2.trans h2
end
section
variable {cs:List Cell}
theorem zqw {K:KV} {sl:Slots} {s:Int} {p1 p2 p3:Pos} (h:(sl[11]?).join = some (.int s)) (q:K (.int (if s = 0 then 1 else s)) cs) :
  ((IE.bools .Or [.nm (S "second") 11 p1,.con (.int 1) 0 p2] p3).sem Pl).val sl cs K:=by
 show Option.rec False _ ((sl[11]?).join)
 rw [h]
 by_cases e:s = 0
 ·subst e
  exact q
 ·rw [if_neg e] at q
  show Bool.rec _ _ (decide (s ≠ 0))
  rw [decide_eq_true e]
  exact q
theorem or_two {K:KV} {sl:Slots} {s:Int} {w:V} {p1 p2 p3 p4 p5:Pos} (hw:(sl[29]?).join = some w) (h:(sl[11]?).join = some (.int s)) (q:BinR false cs K .Mult w (.int (if s = 0 then 1 else s))) :
  ((IE.bin false (.nm (S "whole") 29 p4) .Mult (.bools .Or [.nm (S "second") 11 p1,.con (.int 1) 0 p2] p3) p5).sem Pl).val sl cs K:=by
 show Option.rec False _ ((sl[29]?).join)
 rw [hw]
 exact zqw h q
theorem bb_eq {n:Nat} (p q:Bool × Bool):EqR cs (n + 1) (bbV p) (bbV q) (decide (p = q)) :=
 .two (.lst _) (.lst _) (.bool _ _ _) (.bool _ _ _) (by rw [Bool.eq_iff_iff,Bool.and_eq_true,beq_iff_eq,beq_iff_eq,decide_eq_true_iff,Prod.ext_iff])
theorem zl5 {n:Nat} {x y x' y':Int} (hx:x = x') (hy:y = y'):EqR cs (n + 1) (.tup [.int x,.int y]) (.tup [.int x',.int y']) true:=.two (.tup _) (.tup _) (.intT hx) (.intT hy) rfl
noncomputable abbrev sl_d (a:LwI) (o2 o3:Option V) (f r:Nat) (F:List L1.P) (R:List (List Nat)) (S:List Nat) (ls ld:Nat) (fg he wh an vs vl tr st re:Option V) (o:Slots):Slots :=
 sl_c a o2 o3 f r F R S ls ld (fg :: he :: wh :: an :: vs :: vl :: tr :: st :: re :: o)
structure Two (W:List (List Nat)):Prop where
 h:∀ (i:Nat) (w:List Nat),W[i]? = some w -> w.length = 2 /\ ∀ x ∈ w,x < W.length
theorem two_of {R:List (List Nat)} {S:List Nat} {W:List (List Nat)} (I:L1.STab R S W):Two W:=⟨fun i w h=>by
 obtain ⟨mask,a,b,h1,rfl,h3,h4⟩:=I.cl i w h
 refine ⟨rfl,fun x hx=>?_⟩
 rw [I.al]
 rcases List.mem_cons.mp hx with rfl | hx
 ·exact (List.getElem?_eq_some_iff.mp h3).1
 ·cases List.mem_singleton.mp hx
  exact (List.getElem?_eq_some_iff.mp h4).1⟩
section
variable {a:LwI} {f r ls ld:Nat} {F:List L1.P} {R:List (List Nat)} {S:List Nat} {o3 he wh an vs vl tr st re:Option V} {o:Slots} {W:List (List Nat)} {as:List Nat}
theorem zw2 {K:KF} (X:RowsAt cs (ls + 1) as W) (T:Two W) (ds:List Nat):∀ (i:Nat) (fg:Option V),(∀ d ∈ ds,d < 2) -> i < W.length -> (∀ fg,K .next (sl_d a (some (.int (L1.plc W i ds:Nat))) o3 f r F R S ls ld fg he wh an vs vl tr st re o) cs) ->
  ForR zpr (bden (IS.sems Pl ztn)) K (.items (natV ds)) (sl_d a (some (.int (i:Nat))) o3 f r F R S ls ld fg he wh an vs vl tr st re o) cs:=by
 induction ds with
 | nil=>exact fun i fg _ _ q=>.done .items (q fg)
 | cons d ds ih =>
  intro i fg hd hi q
  obtain ⟨b,row,h1,h2,h3⟩:=X.get hi
  obtain ⟨hl,hx⟩:=T.h i row h2
  have d2:d < row.length:=hl ▸ hd d List.mem_cons_self
  refine .go (.items _ _) rfl ⟨_,.seq (.ref X.h) ((zbs _ _).trans h1),_,.seq (.ref h3) (zjh d2),?_⟩
  have e:row.getD d 0 = L1.nxt W i d:=(zgy h2).symm
  have hm:row.getD d 0 < W.length:=by
   rw [List.getD_eq_getElem?_getD,List.getElem?_eq_getElem d2]
   exact hx _ (List.getElem_mem _)
  exact ih (row.getD d 0) _ (fun x hx=>hd x (List.mem_cons_of_mem _ hx)) hm (by rw [e]; exact q)
end
theorem zp8 (v:Int):((if decide (v > 0) = true then 1 else 0) - (if decide (v < 0) = true then 1 else 0):Int) = L1.sgn v:=by
 unfold L1.sgn
 rcases L1.tri v with h | h | h
 ·rw [decide_eq_false (Int.not_lt.mpr (Int.le_of_lt ‹_›):¬ v > 0),decide_eq_true h,if_pos h]; rfl
 ·subst h; rfl
 ·rw [decide_eq_true (h:v > 0),decide_eq_false (Int.not_lt.mpr (Int.le_of_lt ‹_›):¬ v < 0),if_neg (Int.not_lt.mpr (Int.le_of_lt ‹_›):¬ v < 0),if_neg (Int.ne_of_gt ‹_›:¬ v = 0)]; rfl
theorem zuh {K:List V -> List Cell -> Prop} {fr:Slots} {c:List Int} (h18:(fr[18]?).join = some (.lst ((tkI (c.getD 5 0)).map .int))) (l:List Int):∀ (acc:List V) (o:Option V),acc.length + l.length <= 1000 -> K (acc ++ mv (l.map fun v=>tkB c (L1.sgn v))) cs ->
  CompR zpq (boolT .And (IE.sems Pl zrq)) (emitL (zsw.sem Pl).val) (none :: o :: fr) K acc (.items (l.map .int)) cs:=by
 induction l with
 | nil=>exact fun acc _ _ q=>.done .items (by rw [<- List.append_nil acc]; exact q)
 | cons v l ih =>
  intro acc o hl q
  rw [List.length_cons] at hl
  refine .go (.items _ _) rfl ⟨Nat.lt_of_lt_of_le (zc9 ‹_›:acc.length < 1000) (by decide),.gt (.lt (.subB ?_))⟩
  show Option.rec False _ ((fr[18]?).join)
  rw [h18,zp8]
  refine zmv (ih _ _ (by rw [List.length_append,List.length_singleton]; exact zda ‹_›) ?_)
  rw [List.append_assoc]
  exact q
theorem zwg {K:List V -> List Cell -> Prop} {fr:Slots} {x y:Int} (q:K [] cs) :
  CompR zpp (boolT .And (IE.sems Pl zrp)) (emitL (zsv.sem Pl).val) (none :: none :: fr) K [] (.items [.int x,.int y]) cs :=
 .go (.items _ _) rfl (.type (.int _) (.isNot (.typ _ _) (.go (.items _ _) rfl (.type (.int _) (.isNot (.typ _ _) (.done .items q))))))
end
theorem mul_r {a b:Int} (h:b.natAbs < 9223372036854775808):mulOk a b = true:=by unfold mulOk; rw [decide_eq_true h,Bool.or_true]; rfl
theorem mul5 {a b:Int} (h:a.natAbs <= 5):mulOk a b = true:=mul_l (Nat.lt_of_le_of_lt h (by decide))
theorem zwn {α:Type} (xs:List α) (x:α):idxV (xs ++ [x]) (-1) = some x:=by
 unfold idxV
 rw [if_neg (by decide),List.length_append,List.length_singleton,if_pos (by lia),show ((-1:Int) + ((xs.length + 1:Nat):Int)).toNat = xs.length by lia,List.getElem?_append_right (Nat.le_refl _),Nat.sub_self]
 rfl
theorem zmo {cs:List Cell} {n:Nat}:EqR cs (n + 1) (.lst []) (.lst []) true:=EqR.seq (cs:=cs) (n:=n) (k:=false) (fun _=>true) (.lst []) (.lst []) (fun j x y hx _=>nomatch hx)
theorem dv_bd {L:L1.Lin} (h:L.Ok):L.dv ≠ 0 /\ L.dv.natAbs <= 5:=by
 unfold L1.Lin.dv
 by_cases hs:L.second = 0
 ·rw [if_pos hs]; exact ⟨by decide,by decide⟩
 ·rw [if_neg hs]; exact ⟨hs,(L1.zfu h).1⟩
noncomputable def v3 (L:L1.Lin) (N:Nat):List Int:=[L.hld N,L.v1 N,L.v2 N]
theorem v3_any (a:LwI) (N:Nat):((v3 (Lc a) N).map fun v=>tkB a.c (L1.sgn v)).any id = (entB a N).1:=by
 show (_ || (_ || (_ || false))) = _
 rw [Bool.or_false]
 rfl
theorem v3_all (a:LwI) (N:Nat):((v3 (Lc a) N).map fun v=>tkB a.c (L1.sgn v)).all id = (entB a N).2:=by
 show (_ && (_ && (_ && true))) = _
 rw [Bool.and_true]
 rfl
section
variable {a:LwI} {cs:List Cell} {f r ls:Nat} {F:List L1.P} {R:List (List Nat)} {S:List Nat} {W:List (List Nat)} {as:List Nat} {vl st re:Option V} {o:Slots}
noncomputable abbrev sl_e (a:LwI) (f r:Nat) (F:List L1.P) (R:List (List Nat)) (S:List Nat) (ls ld:Nat) (vl st re:Option V) (o:Slots) (x:Option V × Option V × Option V × Option V × Option V × Option V × Option V × Option V):Slots :=
 sl_d a x.1 x.2.1 f r F R S ls ld x.2.2.1 x.2.2.2.1 x.2.2.2.2.1 x.2.2.2.2.2.1 x.2.2.2.2.2.2.1 vl x.2.2.2.2.2.2.2 st re o
theorem zvg {K:KF} (B:LwB a cs) (hL:(Lc a).Ok) (T:L1.Tab (Lc a) F R) (I:L1.STab R S W) (X:RowsAt cs (ls + 1) as W) {E:List (Bool × Bool)} (hE:E.length <= 100) {N:Nat} (hN:N < 65536) {ys:List V} {x}
  (q:∀ x,ForR zhj (bden (IS.sems Pl zit)) K (.items ys) (sl_e a f r F R S ls cs.length vl st re o x) (cs ++ [.list ((E ++ [entB a N]).map bbV)])) :
  ForR zhj (bden (IS.sems Pl zit)) K (.items (.int (N:Nat) :: ys)) (sl_e a f r F R S ls cs.length vl st re o x) (cs ++ [.list (E.map bbV)]):=by
 have C1:=B.app [.list (E.map bbV)]
 have X1:=X.app [.list (E.map bbV)]
 have d:=dv_bd hL
 have hb:=L1.zrw hL hN
 have big:∀ x:Int,x.natAbs < 1000000 -> x.natAbs < 2 ^ 240:=fun x hx=>Nat.lt_trans hx (by decide +kernel)
 have hz:0 < W.length:=by rw [I.al]; exact (List.getElem?_eq_some_iff.mp I.z).1
 have ob:=L1.zfu hL
 have d240:(Lc a).dv.natAbs < 2 ^ 240:=big _ (Nat.lt_of_le_of_lt d.2 (by decide))
 refine .go (.items _ _) rfl (zac fl_dg (N,1) ⟨⟨C1.t.t1,Nat.lt_trans hN (by decide +kernel),Nat.le_refl 1,(by decide:1 <= 240)⟩,⟨_,.lst _,zw2 (W:=W) X1 (two_of I) (dsN N) 0 _ (zs0 N) hz fun fg=>?_⟩⟩)
 refine .mulI (mul5 ob.2.1) (.addI (.neg (zqw rfl (.fdivI ⟨d.1,Nat.lt_of_le_of_lt d.2 (by decide +kernel)⟩ (.neg (zqw rfl (zac fl_id (-(Lc a).hld N,(Lc a).dv) ⟨⟨C1.t.t1,C1.t.t2,by rw [Int.natAbs_neg]; exact big _ hb,d240,d.1⟩,?_⟩)))))))
 refine .max2 (.mulI (mul5 ob.1) (.addI (.powI ⟨by decide,by decide,by decide +kernel⟩ (.mulI (mul5 ob.1) (.addI ⟨(by decide:3 <= lim),?_⟩)))))
 refine ⟨_,.lst _,zuh (c:=a.c) rfl (v3 (Lc a) N) [] none (by decide:0 + 3 <= 1000) ⟨(by decide:3 <= lim),?_⟩⟩
 have hd:(cs ++ [Cell.list (E.map bbV)])[cs.length]? = some (.list (E.map bbV)):=zbk _ _
 refine ⟨.append hd,.any (.lst _) ?_⟩
 rw [v3_any]
 refine .all (.lst _) ?_
 rw [v3_all]
 have hE2:(E.map bbV).length < lim:=by rw [List.length_map]; exact Nat.lt_of_le_of_lt hE (by decide)
 have eA:(cs ++ [Cell.list (E.map bbV)]).set cs.length (.list (E.map bbV ++ [.lst [.bool (entB a N).1,.bool (entB a N).2]])) = cs ++ [.list ((E ++ [entB a N]).map bbV)]:=by rw [zc8,List.map_append]; rfl
 refine ⟨(by decide:2 <= lim),.append' hd hE2 eA ?_⟩
 have em:(-(Lc a).hld N).fmod (Lc a).dv = -(Lc a).hld N - (Lc a).whl N * (Lc a).dv:=by rw [Int.fmod_def,Int.mul_comm]; rfl
 refine .neg (or_two rfl rfl (.mulI (mul_r (Nat.lt_of_le_of_lt d.2 (by decide))) (.subI ⟨(by decide:2 <= lim),.ne (zl5 rfl em) ⟨_,.tup _,zwg ⟨Nat.zero_le _,Nat.zero_le _,.ne (zmo) ?_⟩⟩⟩)))
 obtain ⟨mask,h1,h2⟩:=zzs T I hL hN
 have hp:idxV ((toldL a F R S).map bbV) (L1.plc W 0 (dsN N):Nat) = some (bbV (entB a N)):=by
  rw [zbs,List.getElem?_map,toldL,List.getElem?_map,show S[L1.plc W 0 (dsN N)]? = some mask from h1]
  exact congrArg (fun z=>some (bbV z)) h2
 have hl:idxV ((E ++ [entB a N]).map bbV) (-1) = some (bbV (entB a N)):=by
  rw [List.map_append]
  exact zwn _ _
 have bs:EqR (cs ++ [Cell.list ((E ++ [entB a N]).map bbV)]) 9 (bbV (entB a N)) (bbV (entB a N)) true:=by have h:=bb_eq (cs:=cs ++ [Cell.list ((E ++ [entB a N]).map bbV)]) (n:=8) (entB a N) (entB a N); rw [decide_eq_true rfl] at h; exact h
 exact ⟨_,.seq (.lst _) hp,.neg ⟨_,.seq (.ref (zbk _ _)) hl,.ne bs (q (_,_,_,_,_,_,_,_))⟩⟩
end
noncomputable def xN (c:Int):Nat:=(c.fmod 65536).toNat
theorem xN_eq (c:Int):c.fmod 65536 = (xN c:Nat):=(Int.toNat_of_nonneg (zcn c (by decide)).1).symm
theorem xN_lt (c:Int):xN c < 65536:=zg5 (m:=65536) (by decide) c
theorem and_int (z:Int):Builtin.bitAnd z 1 = z % 2:=by
 cases z with
 | ofNat n =>
  refine (zes n 1).trans ?_
  rw [Nat.and_one_is_mod]
  rfl
 | negSucc n =>
  rw [Int.negSucc_emod _ (by decide)]
  refine Eq.trans (b:=(1:Int) - ((1 &&& n:Nat):Int)) ?_ (by rw [Nat.and_comm,Nat.and_one_is_mod]; rfl)
  unfold Builtin.bitAnd Builtin.bitNot
  rw [decide_eq_false (Int.not_le.mpr (Int.negSucc_lt_zero n))]
  show (1:Int) - ((1 &&& (-Int.negSucc n - 1).toNat:Nat):Int) = _
  rw [Int.neg_negSucc,Int.natCast_succ,Int.add_sub_cancel]
  rfl
theorem zti (c:Int) (k:Nat) (hk:k < 16):Builtin.bitAnd (c.fdiv (2 ^ k)) 1 = (L1.bit (xN c) k:Nat):=by
 have hp:(0:Int) < 2 ^ k:=L1.two_pow_pos k
 rw [and_int,Int.fdiv_eq_ediv_of_nonneg _ (Int.le_of_lt hp)]
 have e:c = (xN c:Nat) + 2 ^ k * (2 * (2 ^ (15 - k) * (c / 65536))):=by
  have h1:=Int.mul_ediv_add_emod c 65536
  have h2:=xN_eq c
  rw [Int.fmod_eq_emod_of_nonneg _ (by decide)] at h2
  have h3:(2:Int) ^ k * (2 * (2 ^ (15 - k) * (c / 65536))) = 65536 * (c / 65536):=by
   rw [<- Int.mul_assoc,<- Int.mul_assoc,<- Int.pow_succ,<- Int.pow_add,show k + 1 + (15 - k) = 16 by lia]
   rfl
  lia
 have e2:c / 2 ^ k = ((xN c / 2 ^ k:Nat):Int) + 2 * (2 ^ (15 - k) * (c / 65536)):=by
  conv=>lhs; rw [e]
  rw [Int.add_mul_ediv_left _ _ (Int.ne_of_gt ‹_›),Int.natCast_ediv,Int.natCast_pow]
  rfl
 rw [e2,Int.add_mul_emod_self_left]
 rfl
section
variable {a:LwI} {cs:List Cell} {f r ls ld:Nat} {F:List L1.P} {R:List (List Nat)} {S:List Nat} {W:List (List Nat)} {as:List Nat} {vl st re:Option V} {o:Slots}
theorem zvh {K:KF} (B:LwB a cs) (hL:(Lc a).Ok) (T:L1.Tab (Lc a) F R) (I:L1.STab R S W) (X:RowsAt cs (ls + 1) as W) (ns:List Nat):∀ (E:List (Bool × Bool)) (x),(∀ n ∈ ns,n < 65536) -> E.length + ns.length <= 100 ->
  (∀ x,K .next (sl_e a f r F R S ls cs.length vl st re o x) (cs ++ [.list ((E ++ ns.map (entB a)).map bbV)])) ->
  ForR zhj (bden (IS.sems Pl zit)) K (.items (natV ns)) (sl_e a f r F R S ls cs.length vl st re o x) (cs ++ [.list (E.map bbV)]):=by
 induction ns with
 | nil =>
  intro E x _ _ q
  rw [List.map_nil,List.append_nil] at q
  exact .done .items (q x)
 | cons n ns ih =>
  intro E x hn hl q
  rw [List.length_cons] at hl
  refine zvg B hL T I X (by lia) (hn n List.mem_cons_self) fun x=>ih _ x (fun m hm=>hn m (List.mem_cons_of_mem _ hm)) (by rw [List.length_append,List.length_singleton]; exact zda ‹_›) fun x=>?_
  rw [List.append_assoc]
  exact q x
theorem zzy {K:KF} (B:LwB a cs) (X:LwT a cs f r as F R) {o3 fg he wh an vs vl tr:Option V} (q:∀ x2,K .next (sl_d a x2 o3 f r F R S ls ld fg he wh an vs vl tr (some (.int (L1.stA R (xN (a.c.getD 6 0)) (xN (a.c.getD 7 0)) 16:Nat))) re o) cs) (n:Nat):∀ (k:Nat) (x2:Option V),k + n = 16 ->
  ForR zpn (bden (IS.sems Pl ztl)) K (.items (upTo k n)) (sl_d a x2 o3 f r F R S ls ld fg he wh an vs vl tr (some (.int (L1.stA R (xN (a.c.getD 6 0)) (xN (a.c.getD 7 0)) k:Nat))) re o) cs:=by
 induction n with
 | zero=>intro k x2 e; cases (e:k = 16); exact .done .items (q x2)
 | succ n ih =>
  intro k x2 e
  have hk:k < 16:=zf0 ‹_›
  have h0:=L1.zma X.T (xN (a.c.getD 6 0)) (xN (a.c.getD 7 0)) k
  have h1:=L1.zf8 (xN (a.c.getD 6 0)) k
  have h2:=L1.zf8 (xN (a.c.getD 7 0)) k
  obtain ⟨_,row,hr,h4,hrow⟩:=L1.zmm X.T h0 (d:=2 * L1.bit (xN (a.c.getD 6 0)) k + L1.bit (xN (a.c.getD 7 0)) k) (by lia)
  obtain ⟨b,row',g1,g2,g3⟩:=X.R.get (List.getElem?_eq_some_iff.mp hr).1
  cases hr.symm.trans g2
  have hi:idxV (natV row) ((2 * L1.bit (xN (a.c.getD 6 0)) k + L1.bit (xN (a.c.getD 7 0)) k:Nat):Int) = some (.int (L1.stA R (xN (a.c.getD 6 0)) (xN (a.c.getD 7 0)) (k + 1):Nat)):=by
   rw [zbs,natV,List.getElem?_map,hrow]; rfl
  have b6:=zti (a.c.getD 6 0) k hk
  have b7:=zti (a.c.getD 7 0) k hk
  refine .go (.items _ _) rfl ⟨_,.seq (.ref X.R.h) ((zbs _ _).trans g1),_,.seq (.ref B.hc) (c_idx B.lc 6 (by decide)),.shrI (Int.natCast_nonneg _) (.andI ?_)⟩
  rw [Int.toNat_natCast,b6]
  refine .mulI (mul_l (by decide)) ⟨_,.seq (.ref B.hc) (c_idx B.lc 7 (by decide)),.shrI (Int.natCast_nonneg _) (.andI ?_)⟩
  rw [Int.toNat_natCast,b7]
  exact .addI' (by rw [Int.natCast_add,Int.natCast_mul]; rfl) ⟨_,.seq (.ref g3) hi,ih (k + 1) _ (ind_s ‹_›)⟩
theorem zvk {K:List V -> List Cell -> Prop} {fr:Slots} {E:List (Bool × Bool)} {l:Nat} (hd:cs[l]? = some (.list (E.map bbV))) (h26:(fr[26]?).join = some (.ref l)) (q:K [] cs) (ps:List (Bool × Bool)):∀ (o:Option V),(∀ p ∈ ps,p ∈ E) ->
  CompR zpm (boolT .And (IE.sems Pl zro)) (emitL (zst.sem Pl).val) (none :: o :: fr) K [] (.items (ps.map bbV)) cs:=by
 induction ps with
 | nil=>exact fun _ _=>.done .items q
 | cons p ps ih =>
  intro o hp
  refine .go (.items _ _) rfl ?_
  show Option.rec False _ ((fr[26]?).join)
  rw [h26]
  refine .notInL (fun j=>decide (E[j]? = some p)) (.ref hd) (zjs bbV (fun z=>bb_eq z p) (fun g q z y r s=>by
   obtain ⟨vs,h1,h2⟩:=zv0 r s
   obtain ⟨v,w,rfl,a,b⟩:=h1.two
   obtain ⟨v',w',e,c,d⟩:=h2.two
   cases e
   cases a.inv; cases b.inv
   exact Prod.ext (Value.bool.inj c.inv) (Value.bool.inj d.inv)) E) ?_
  rw [List.length_map,zts (hp p List.mem_cons_self)]
  exact ih _ fun x hx=>hp x (List.mem_cons_of_mem _ hx)
end
noncomputable def eight9 (c:List Int):List Nat:=List.range 8 ++ [xN (c.getD 6 0)]
theorem z07 (c:List Int):∀ n ∈ eight9 c,n < 65536:=by
 intro n hn
 rcases List.mem_append.mp hn with h | h
 ·exact Nat.lt_trans (List.mem_range.mp h) (by decide)
 ·cases List.mem_singleton.mp h; exact xN_lt _
theorem z17 {way:Int} (hw:way = 1 \/ way = -1) (t:Int):(way * t).fdiv (way * 65536) = t / 65536 /\ (way * t).fmod (way * 65536) = way * (t % 65536):=zmx hw (by decide) t
theorem min_16 {way:Int} (hw:way = 1 \/ way = -1) (t:Int):min (way * (way * (t % 65536))) 1 = (((L1.sem t 16).2:Nat):Int):=by
 have e:way * (way * (t % 65536)) = t % 65536:=by rw [<- Int.mul_assoc]; rcases hw with rfl | rfl <;> exact Int.one_mul _
 have h:=Int.emod_nonneg t (by decide:(65536:Int) ≠ 0)
 rw [e]
 show _ = (((if t % 65536 = 0 then 1 - 1 else 1:Nat)):Int)
 by_cases h0:t % 65536 = 0
 ·rw [if_pos h0,h0]; rfl
 ·rw [if_neg h0,Int.min_eq_right (show (1:Int) <= t % 65536 from Int.add_one_le_of_lt (Int.lt_iff_le_and_ne.mpr ⟨h,Ne.symm h0⟩))]; rfl
section
variable {a:LwI} {cs:List Cell} {f r ls ld:Nat} {F:List L1.P} {R:List (List Nat)} {S:List Nat} {W:List (List Nat)} {as:List Nat} {o:Slots}
theorem val_bd {L:L1.Lin} (h:L.Ok) {x y:Nat} (hx:x < 65536) (hy:y < 65536):(L.val x y).natAbs < 1000000:=by
 have ob:=L1.zfu h
 have m:∀ {a:Int} {z:Nat},a.natAbs <= 5 -> z < 65536 -> (a * (z:Int)).natAbs <= 5 * 65536:=fun h1 h2=>by rw [Int.natAbs_mul,Int.natAbs_natCast]; exact Nat.mul_le_mul h1 (Nat.le_of_lt h2)
 exact Nat.lt_of_le_of_lt (L1.zds (L1.zds (L1.st_bd h) (m ob.2.1 hx)) (m ob.1 hy)) (by decide)
theorem law_e {K1:KF} (B:LwB a cs) (hL:(Lc a).Ok) (X:LwT a cs f r as F R) (I:L1.STab R S W) (x8:cs[ld]? = some (.list ((eight9 a.c).map fun n=>bbV (entB a n)))) {o2 o3 fg he wh an vs vl tr st re:Option V}
  (q:∀ sl,K1 (.ret (.bool true)) sl cs) :
  bden (IS.sems Pl [zej,zei,zeh,zeg,zef,zee]) (sl_d a o2 o3 f r F R S ls ld fg he wh an vs vl tr st re o) cs K1:=by
 have ob:=L1.zfu hL
 have l6:=xN_lt (a.c.getD 6 0)
 have l7:=xN_lt (a.c.getD 7 0)
 have hv:=val_bd hL l6 l7
 have hw:=zx2 a.c
 obtain ⟨p,hp,hs,hse⟩:=L1.zzz X.T (n:=16) l6 l7
 refine .rng1 ⟨_,zqo (by decide),zzy (re:=re) B X (fun x2=>?_) 16 0 o2 rfl⟩
 have ev:(Lc a).first * (xN (a.c.getD 6 0):Nat) + (Lc a).second * (xN (a.c.getD 7 0):Nat) + (Lc a).start = (Lc a).val (xN (a.c.getD 6 0)) (xN (a.c.getD 7 0)):=by unfold L1.Lin.val; rw [Int.add_comm,Int.add_assoc]
 refine ⟨_,.seq (.ref B.hc) (c_idx B.lc 6 (by decide)),.modI' (by decide) (xN_eq _) (.mulI (mul5 ob.2.1) ⟨_,.seq (.ref B.hc) (c_idx B.lc 7 (by decide)),.modI' (by decide) (xN_eq _) (.mulI (mul5 ob.1) (.addI (.addI' ev ?_)))⟩)⟩
 have wl:(wayC a.c).natAbs = 1:=by rcases hw with h | h <;> rw [h] <;> rfl
 have wl5:(wayC a.c).natAbs <= 5:=wl ▸ (by decide)
 have b1:(wayC a.c * (Lc a).val (xN (a.c.getD 6 0)) (xN (a.c.getD 7 0))).natAbs < 2 ^ 240:=by
  rw [Int.natAbs_mul,wl,Nat.one_mul]; exact Nat.lt_trans hv (by decide +kernel)
 have b2:(wayC a.c * 65536).natAbs < 2 ^ 240:=by rw [Int.natAbs_mul,wl]; decide +kernel
 have n0:wayC a.c * 65536 ≠ 0:=by rcases hw with h | h <;> rw [h] <;> decide
 have hh:=z17 hw ((Lc a).val (xN (a.c.getD 6 0)) (xN (a.c.getD 7 0)))
 refine .mulI (mul5 wl5) (.mulI (mul5 wl5) (zac fl_id (wayC a.c * (Lc a).val (xN (a.c.getD 6 0)) (xN (a.c.getD 7 0)),wayC a.c * 65536) ⟨⟨B.t.t1,B.t.t2,b1,b2,n0⟩,?_⟩))
 dsimp only
 rw [hh.1,hh.2]
 have hx:idxV (fdV F) (L1.stA R (xN (a.c.getD 6 0)) (xN (a.c.getD 7 0)) 16:Nat) = some (pairI p):=by rw [zbs,fdV,List.getElem?_map,hp]; rfl
 have mo:mulOk (wayC a.c) (wayC a.c * ((Lc a).val (xN (a.c.getD 6 0)) (xN (a.c.getD 7 0)) % 65536)) = true:=mul5 wl5
 have p1:p.1 = (Lc a).val (xN (a.c.getD 6 0)) (xN (a.c.getD 7 0)) / 65536:=by rw [hse]; rfl
 have p2:((p.2:Nat):Int) = min (wayC a.c * (wayC a.c * ((Lc a).val (xN (a.c.getD 6 0)) (xN (a.c.getD 7 0)) % 65536))) 1:=by rw [hse,min_16 hw]
 refine ⟨_,.seq (.ref X.hf) hx,.mulI mo (.min2 ⟨(by decide:2 <= lim),.ne (zl5 p1 p2) ⟨_,.seq (.ref X.hf) hx,_,.seq (.tup _) rfl,?_⟩⟩)⟩
 rw [<- p1]
 refine zac fl_sg p (.gt (.lt (.subB (.ne (.intT ?_) ?_))))
 ·rw [hs]; exact (zp8 _).symm
 have x9:cs[ld]? = some (.list (((eight9 a.c).map (entB a)).map bbV)):=by rw [List.map_map]; exact x8
 refine ⟨_,.lst _,zvk x9 rfl ⟨Nat.zero_le _,Nat.zero_le _,.eq zmo (q _)⟩ (toldL a F R S) none fun e he=>?_⟩
 obtain ⟨mask,hm,rfl⟩:=List.mem_map.mp he
 obtain ⟨x,h8,e⟩:=zzr X.T I hL mask hm
 rw [e]
 exact List.mem_map_of_mem (List.mem_append_left _ (List.mem_range.mpr h8))
end
noncomputable abbrev no27:Slots:=[none,none,none,none,none,none,none,none,none,none,none,none,none,none,none,none,none,none,none,none,none,none,none,none,none,none,none]
theorem zxu (ds es:List SD):∀ (sl:Slots) (cs:List Cell) (K:KF),bden (ds ++ es) sl cs K = bden ds sl cs fun fl sl cs=>Fl.rec (bden es sl cs K) (K .brk sl cs) (K .cont sl cs) (fun v=>K (.ret v) sl cs) fl:=by
 induction ds with
 | nil=>exact fun _ _ _=>rfl
 | cons d ds ih =>
  intro sl cs K
  refine congrArg (d.den sl cs) ?_
  funext fl sl cs
  cases fl with
  | next=>exact ih sl cs K
  | brk=>rfl
  | cont=>rfl
  | ret v=>rfl
theorem zd5 (ds es:List SD) {sl:Slots} {cs:List Cell} {K:KF} (h:bden ds sl cs fun fl sl cs=>Fl.rec (bden es sl cs K) (K .brk sl cs) (K .cont sl cs) (fun v=>K (.ret v) sl cs) fl):bden (ds ++ es) sl cs K:=by
 rw [zxu]; exact h
section
variable {a:LwI} {cs:List Cell} {o2 o3:Option V}
theorem law_n {f r ls:Nat} {F:List L1.P} {R:List (List Nat)} {S:List Nat} {W:List (List Nat)} {as:List Nat} {K1:KF} {o:Slots} {fg he wh an vs vl tr st re:Option V} (B:LwB a cs) (hL:(Lc a).Ok) (T:L1.Tab (Lc a) F R) (I:L1.STab R S W) (X:RowsAt cs (ls + 1) as W)
  (q:∀ x,K1 .next (sl_e a f r F R S ls cs.length vl st re o x) (cs ++ [.list ((eight9 a.c).map fun n=>bbV (entB a n))])) :
  bden (IS.sems Pl [zek]) (sl_d a o2 o3 f r F R S ls cs.length fg he wh an vs vl tr st re o) (cs ++ [.list []]) K1:=by
 have C1:=B.app [.list []]
 have hs:Builtin.Range.small 0 8 1 = true /\ Builtin.Range.rangeSize 0 8 1 = (8:Nat):=by decide +kernel
 refine .rng1 (.listR hs.1 hs.2 (by decide:8 <= lim) ⟨_,.seq (.ref C1.hc) (c_idx C1.lc 6 (by decide)),.modI' (by decide) (xN_eq _) ⟨(by decide:1 <= lim),.addL (.lst _) (.lst _) ⟨(by decide:9 <= lim),?_⟩⟩⟩)
 refine ⟨_,.lst _,zvh (vl:=vl) (st:=st) (re:=re) (o:=o) B hL T I X (eight9 a.c) [] (o2,o3,fg,he,wh,an,vs,tr) (z07 _) (by decide:0 + 9 <= 100) fun x=>?_⟩
 have:=q x
 rw [show ((eight9 a.c).map fun n=>bbV (entB a n)) = ([] ++ (eight9 a.c).map (entB a)).map bbV by rw [List.nil_append,List.map_map]; rfl] at this
 exact this
theorem law_2 {K1:KF} (B:LwB a cs) (hL:(Lc a).Ok) (q:∀ sl cs',Tabs cs' -> K1 (.ret (.bool true)) sl cs') :
  bden (IS.sems Pl law2s) (lsl a o2 o3 no27) cs K1:=by
 refine zd5 (IS.sems Pl [zkv,zku,zkt,zks]) (IS.sems Pl [zhy,zhx,zhv,zhu,zfn,zfl,zfk,zfj,zfi,zek,zej,zei,zeh,zeg,zef,zee]) (law_b1 B fun D F R T=>?_)
 have B1:LwB a (ccs cs D D F R):=B.app _
 refine zd5 (IS.sems Pl [zhy,zhx,zhv,zhu]) (IS.sems Pl [zfn,zfl,zfk,zfj,zfi,zek,zej,zei,zeh,zeg,zef,zee]) (law_b2 B1 ?_)
 have X1:LwT a (ccs cs D D F R) (cs.length + 2) (cs.length + 3) (adrs (cs.length + 6) R.length) F R:=⟨T,cc_2,z2r⟩
 refine zd5 (IS.sems Pl [zfn,zfl,zfk,zfj,zfi]) (IS.sems Pl [zek,zej,zei,zeh,zeg,zef,zee]) (law_c B1 X1 fun S W I hS=>?_)
 generalize ccs cs D D F R = c1 at B1 X1
 have B2:LwB a (scs c1 S W):=B1.app _
 have X2:LwT a (scs c1 S W) _ _ _ F R:=X1.app _
 refine zd5 (IS.sems Pl [zek]) (IS.sems Pl [zej,zei,zeh,zeg,zef,zee]) (law_n B2 hL T I (zz8 (cs:=c1) (S:=S)) fun x=>?_)
 have xl:=zbk (scs c1 S W) (.list ((eight9 a.c).map fun n=>bbV (entB a n)))
 have B3:=B2.app [.list ((eight9 a.c).map fun n=>bbV (entB a n))]
 exact law_e B3 hL (X2.app _) I xl fun sl=>q sl _ B3.t
end
theorem zz1 (x:V):bindP [(S "script",0)] [x] (List.replicate (ownNs zao).length none ++ []) = some x :: none :: none :: none :: none :: none :: none :: none :: none :: no27:=by kernel_rfl
theorem z3m:[(S "script",0)].all (fun p=>tgt1 zao (ownNs zao ++ []) p.1 p.2) = true:=by kernel_rfl
theorem z36:nfree zao = true:=by kernel_rfl
noncomputable def LawA (ds:List SD):Prop:=∀ {zs:List Int} {cs:List Cell} {K1:KF},(∀ (c:List Int) o2 o3,c.length = 8 -> K1 .next (some (.lst (zs.map .int)) :: some (.ref cs.length) :: o2 :: o3 :: some (.str (mkS (wX c))) :: some (.ref (cs.length + 1)) :: none :: none :: none :: no27) (cs ++ [.list (List.map .int c),.list (pairsV (wP c))])) ->
  bden ds (some (.lst (zs.map .int)) :: none :: none :: none :: none :: none :: none :: none :: none :: no27) cs K1
noncomputable def LawZ (ds:List SD):Prop:=∀ {a:LwI} {cs:List Cell} {o2 o3:Option V} {K1:KF},LwB a cs -> (Lc a).Ok -> (∀ sl cs',Tabs cs' -> K1 (.ret (.bool true)) sl cs') -> bden ds (lsl a o2 o3 no27) cs K1
structure LawD (ds es:List SD):Prop where
 T:bodyOf F_law = ds.map SD.ast ++ .Assign [lgT.ast] lgC (pp 311 4 44) :: es.map SD.ast
 w1:bwf ds zao (ownNs zao ++ []) = true
 w2:bwf es zao (ownNs zao ++ []) = true
 a:LawA ds
 z:LawZ es
theorem lawD:LawD (IS.sems Pl law1s) (IS.sems Pl law2s):=⟨TX_law,WL1,WL2,fun q=>law_a (K:=fun _ _=>True) q,law_2⟩
theorem zv9 {C:Cx} {K:Frag} {ds es:List SD} (D:LawD ds es) (G1:SAll C ds) (G2:SAll C es) (O:LawOk C K law1) (hfm:∀ A env,C.fm A env) (F2:Facts2 C Pl K) (Fs:Fns1 K) (Pa:PatAt C.base 107 nameCode) {A:Around} {σ:St} {zs:List Int} {x':Value} {KK:KV} (Oa:AOk A (C.d + 1)) (hd:5 <= C.d) (H:HRel σ.g σ.s.heap) (B:Base C σ.g) (hA:A.frames = some [])
  (T:Tabs σ.g.cs) (rx:VRel σ.g (.lst (zs.map .int)) x') (q:∀ cs',Tabs cs' -> KK (.bool true) cs'):CRuns C A σ (.ref 284) [x'] [] KK:=by
 obtain ⟨fd,hf⟩:=Option.isSome_iff_exists.mp Fs.k284.i
 have Fa:FnAt0 C 284 zao (bodyOf F_law) fd:=zen F2.W Fs.k284 hf rfl rfl rfl
 refine zbl (ns:=[]) (sl:=[]) (ps:=[(S "script",0)]) (vs:=[.lst (zs.map .int)]) O.W.lim Fa Oa H B rfl (fun M A E Q h=>by rw [zai hf (Fs.b284 x')]; exact wpAny_pure h) (.cons ⟨rfl,rx⟩ .nil) (by rw [zai hf Fs.k284.k]; exact .nil (zd2 z36)) z3m fun Φ σ3 hsc I S3=>?_
 rw [zz1] at S3
 rw [D.T]
 refine zbb (K1:=fun fl sl cs=>fl = .next /\ ∃ (c:List Int) (o2 o3:Option V),c.length = 8 /\ sl = some (.lst (zs.map .int)) :: some (.ref σ3.g.cs.length) :: o2 :: o3 :: some (.str (mkS (wX c))) :: some (.ref (σ3.g.cs.length + 1)) :: none :: none :: none :: no27 /\ cs = σ3.g.cs ++ [.list (c.map .int),.list (pairsV (wP c))])
  ds (G1.ok (hfm _ _) (by rw [hsc]; exact D.w1)) _ σ3 S3 (D.a fun c o2 o3 hc=>⟨rfl,c,o2,o3,hc,rfl,rfl⟩) (fun fl sl cs h hn=>absurd h.1 hn) fun sl1 σ4 X4 S4 q4=>?_
 obtain ⟨_,c,o2,o3,hc,rfl,hcs⟩:=q4
 have gk:GaOk ⟨wX c,wgsF (c.getD 5 0) fun p=>c.getD p 0⟩:=⟨Nat.le_trans (zhg (c.getD 5 0) (fun p=>c.getD p 0) 5) (by decide),zzd (c.getD 5 0) (fun p=>c.getD p 0) 5,gd_all (c.getD 5 0) (fun p=>c.getD p 0)⟩
 have ln:σ4.g.cs.length = σ3.g.cs.length + 2:=by rw [hcs]; exact List.length_append
 refine zfg (K1:=fun fl sl cs=>fl = .next /\ sl = lsl ⟨zs.map .int,c,σ3.g.cs.length,σ3.g.cs.length + 1,σ3.g.cs.length + 3,σ3.g.cs.length + 4,σ3.g.cs.length + 5⟩ o2 o3 no27 /\ cs = gcs σ4.g.cs (wgsF (c.getD 5 0) fun p=>c.getD p 0))
  (zr5 (a:=⟨wX c,wgsF (c.getD 5 0) fun p=>c.getD p 0⟩) O F2.F Fs Pa hsc (by rw [I.hA]; show A.frames.map (Φ.env :: ·) = _; rw [hA]; rfl) I.fr hd S4 gk ⟨rfl,by rw [ln]; rfl,rfl⟩) (fun fl sl cs h hn=>absurd h.1 hn) fun sl2 σ5 X5 S5 q5=>?_
 obtain ⟨_,rfl,hc5⟩:=q5
 refine zby es (G2.ok (hfm _ _) (by rw [hsc]; exact D.w2)) _ σ5 _ S5 (D.z ⟨?_,hc,?_,?_,?_,?_⟩ (zyl _) fun sl cs' T'=>q cs' T')
 ·rw [hc5,hcs,I.cs]; exact (T.app _).app _
 ·rw [hc5,hcs]; exact zbw _ (zan σ3.g.cs _ 0)
 ·rw [hc5,hcs]; exact zbw _ (zan σ3.g.cs _ 1)
 ·rw [hc5]
  have h:=zyp σ4.g.cs (wgsF (c.getD 5 0) fun p=>c.getD p 0)
  rw [ln] at h
  exact h
 ·rw [hc5]
  have h:=gcs_w σ4.g.cs (wgsF (c.getD 5 0) fun p=>c.getD p 0)
  rw [ln] at h
  exact h
theorem zv8 {C:Cx} {K:Frag} (O:LawOk C K law1) (hfm:∀ A env,C.fm A env) (F2:Facts2 C Pl K) (Fs:Fns1 K) (Pa:PatAt C.base 107 nameCode) {A:Around} {σ:St} {zs:List Int} {x':Value} {KK:KV} (Oa:AOk A (C.d + 1)) (hd:5 <= C.d) (H:HRel σ.g σ.s.heap) (B:Base C σ.g) (hA:A.frames = some [])
  (T:Tabs σ.g.cs) (rx:VRel σ.g (.lst (zs.map .int)) x') (q:∀ cs',Tabs cs' -> KK (.bool true) cs'):CRuns C A σ (.ref 284) [x'] [] KK :=
 zv9 lawD (IS.all_good F2 _) (IS.all_good F2 _) O hfm F2 Fs Pa Oa hd H B hA T rx q
section
variable {C:Cx} {K:Frag} (O:LawOk C K law1) (hfm:∀ A env,C.fm A env) (Fs:Fns1 K) (b4:Bd4 K 260 (S "start") (S "first") (S "second") (S "way")) (t1:TabFact C 51 47) (t2:TabFact C 58 54)
include O hfm Fs t1
theorem lw_52:FnOk (C.at 10) 52 (digS 0):=zh6 O hfm Fs.k52 Fs.b52 Fs.q52 Fs.c52 t1 0
include t2
theorem lw_4:FnsOk (C.at 10) P4:=zcm (C:=C.at 9) zbt T4 <|
 zab (zoc (lw_0 O 9) (zbx O hfm 9) Fs.k38 Fs.b38) <| zab (lw_52 O hfm Fs t1) <| zab (zh8 O hfm Fs.k59 Fs.b59 Fs.q59 Fs.c59 t2 1) zcb
theorem lw_66:FnOk (C.at 11) 66 pdS:=zh7 (lw_f2 O 10 (lw_4 O hfm Fs t1 t2)) (zbx O hfm _) Fs.k66 Fs.b66
theorem lw_5:FnsOk (C.at 11) P5:=zcm (C:=C.at 10) zbt T5 <| zab (lw_66 O hfm Fs t1 t2) zcb
theorem lw_6:FnsOk (C.at 12) P6:=zcm (C:=C.at 11) zbt T6 <|
 zab (ok_idA (zbx O hfm 11) Fs.k73 Fs.b73 (lw_f2 O 11 (lw_5 O hfm Fs t1 t2))) <| zab (FnOk.less (C:=C.at 11) (lw_66 O hfm Fs t1 t2)) zcb
theorem lw_7:FnsOk (C.at 13) P7:=zcm (C:=C.at 12) zbt T7 <|
 zab (ok_idB (zbx O hfm 12) Fs.k73 Fs.b73 (lw_f2 O 12 (lw_6 O hfm Fs t1 t2))) <| zab (FnOk.less (C:=C.at 12) (FnOk.less (C:=C.at 11) (lw_66 O hfm Fs t1 t2))) zcb
theorem lw_73:FnOk (C.at 14) 73 (idS cC):=ok_idC (zbx O hfm 13) Fs.k73 Fs.b73 (lw_f2 O 13 (lw_7 O hfm Fs t1 t2))
theorem lw_c:FnsOk (C.at 14) Pc:=zcm (C:=C.at 13) (lw_3 O hfm Fs 10) [(73,idS cC)] <| zab (lw_73 O hfm Fs t1 t2) zcb
theorem lw_272:FnOk (C.at 11) 272 ledS:=ok_led (lw_f2 O 10 (lw_4 O hfm Fs t1 t2)) (zbx O hfm _) Fs.k272 Fs.b272
include b4
theorem lw_l:FnsOk (C.at 15) Pl:=zcm (C:=C.at 14) zbt Tl <|
 have L:=zbx O hfm 14
 have F1:=lw_f2 O 14 (lw_1 O hfm Fs 13)
 zab (zob (lw_0 O 14) L Fs.k250 Fs.b250) <| zab (zod (lw_f2 O 14 (lw_c O hfm Fs t1 t2)) L Fs.k260 b4) <| zab (z0y F1 L Fs.k267 Fs.b267) <|
 zab (FnOk.less (C:=C.at 14) <| FnOk.less (C:=C.at 13) <| FnOk.less (C:=C.at 12) <| FnOk.less (C:=C.at 11) <| lw_272 O hfm Fs t1 t2) <|
 zab (z0z (lw_0 O 14) L Fs.k279 Fs.b279) <| zab (FnOk.less (C:=C.at 14) <| lw_73 O hfm Fs t1 t2) <|
 zab (FnOk.less (C:=C.at 14) <| FnOk.less (C:=C.at 13) <| FnOk.less (C:=C.at 12) <| FnOk.less (C:=C.at 11) <| FnOk.less (C:=C.at 10) <| lw_52 O hfm Fs t1) <|
 zab (zml F1 L Fs.k205 Fs.b205) <| zab (zjd F1 L Fs.k180 Fs.b180) zcb
theorem z1i (Pa:PatAt C.base 107 nameCode) {A:Around} {σ:St} {zs:List Int} {x':Value} {KK:KV} (Oa:AOk A 16) (H:HRel σ.g σ.s.heap) (B:Base C σ.g) (hA:A.frames = some [])
  (T:Tabs σ.g.cs) (rx:VRel σ.g (.lst (zs.map .int)) x') (q:∀ cs',Tabs cs' -> KK (.bool true) cs'):CRuns (C.at 15) A σ (.ref 284) [x'] [] KK :=
 zv8 (C:=C.at 15) (O.more (fun _ _ e=>e) 15) hfm (lw_f2 O 15 (lw_l O hfm Fs b4 t1 t2)) Fs Pa Oa (show 5 <= 15 by decide) H ⟨B.pr,B.hf,B.fl⟩ hA T rx q
end
noncomputable def glB1:List (Str × String):=[(S "len", "len"),(S "chr", "chr"),(S "ord", "ord"),(S "max", "max"),(S "divmod", "divmod")]
noncomputable def glT1:List (Str × String):=[(S "range", "range"),(S "enumerate", "enumerate"),(S "zip", "zip"),(S "reversed", "reversed"),(S "str", "str"),(S "int", "int"),(S "type", "type"),(S "list", "list")]
noncomputable def glB2:List (Str × String):=[(S "min", "min"),(S "any", "any"),(S "all", "all")]
noncomputable def glT2:List (Str × String):=[(S "ValueError", "ValueError")]
noncomputable def glA:List (Str × Addr):=[(S "_name_disallowed_re",107),(S "_value_disallowed_re",112),(S "Headers",241),(S "_div2n1n",38),(S "_int2digits",52),(S "_digits2int",59),(S "_divmod_pos",66),(S "int_divmod",73),(S "ISTERMINAL",83),(S "ISNONTERMINAL",90),(S "ISEOF",97),(S "_law_written",250),(S "_law_gathered",255),(S "_law_carries",260),(S "_law_sign",267),(S "_law_led",272),(S "_law_sets",279)]
noncomputable def glI:List (Str × Int × Tok):=[(S "NT_OFFSET",256,464),(S "ENDMARKER",0,366),(S "_DIV_LIMIT",4000,284)]
theorem zlh:law1.globs = glB1.map (fun p=>(p.1,.bi p.2)) ++ (glT1.map (fun p=>(p.1,.typ p.2)) ++ (glB2.map (fun p=>(p.1,.bi p.2)) ++ (glT2.map (fun p=>(p.1,.typ p.2)) ++ (glA.map (fun p=>(p.1,.adr p.2)) ++ (glI.map (fun p=>(p.1,.int p.2.1)) ++ [(S "EXACT_TOKEN_TYPES",.dct exactK exactV)]))))):=by kernel_rfl
noncomputable def exE (P:Params) (i:Nat) (q:String × Nat):DictEntry:=⟨PyData.keyHash P (Str.ofString q.1),.str (Str.ofString q.1) (min (466 + 2 * i) (500 + i)),.int (q.2:Nat) (354 + 2 * q.2)⟩
noncomputable def exEs (P:Params):List (String × Nat) -> Nat -> List DictEntry:=List.rec (fun _=>[]) fun q _ ih i=>exE P i q :: ih (i + 1)
noncomputable def tupL (l:List Int):Obj:=⟨.type "tuple",none,.seq (l.map fun i=>Value.int i 0).toArray 0,#[]⟩
noncomputable def nameL:List Int:=[14,10,4,1,1,22,0,31,16,127,0,13,7,22,0,31,16,127,0,1]
noncomputable def valL:List Int:=[14,14,4,1,1,9,4294966783,0,0,2147483648,0,0,0,0,0,13,11,9,4294966783,0,0,2147483648,0,0,0,0,0,1]
noncomputable def patL (x:String) (t u:Tok) (b:Addr):Obj:=⟨.type "re.Pattern",none,.fields #[.str (Str.ofString x) t,.int 32 u,.int 0 0,.none,.none,.ref b,.int 0 0],#[]⟩
noncomputable def isCellD (o:Obj):Bool:=match o.data with
 | .cell _=>true
 | _=>false
structure KFr (K:Frag) (w:World):Prop where
 f:Fns1 K
 b260:Bd4 K 260 (S "start") (S "first") (S "second") (S "way")
 hd1:codeHdIn K 51 47 = true
 hd2:codeHdIn K 58 54 = true
 gb:(glB1 ++ (glT1 ++ (glB2 ++ glT2))).map (fun p=>nsIn K mainGlobals p.1) = (glB1 ++ (glT1 ++ (glB2 ++ glT2))).map fun _=>some none
 ga:glA.map (fun p=>nsIn K mainGlobals p.1) = glA.map fun p=>some (some (.ref p.2))
 gi:glI.map (fun p=>nsIn K mainGlobals p.1) = glI.map fun p=>some (some (.int p.2.1 p.2.2))
 ex0:nsIn K mainGlobals (S "EXACT_TOKEN_TYPES") = some (some (.ref 74))
 ex:K.lookup 74 = some (dictO (exEs w.params exactL 0) 48)
 noSeq:noSeq K 241 = true
 hga:findIn K (.ref 241) "__getattribute__" = some (some (.builtin "object.__getattribute__"))
 hk:findIn K (.ref 241) "__getattr__" = some none
 mt:law1.meths.map (fun p=>(findIn K (.ref 241) p.1,typeIn K (.ref p.2))) = law1.meths.map fun p=>(some (some (.ref p.2)),some (.type "function"))
 hn:findIn K (.ref 241) headersName = some none
 hs:findIn K (.ref 241) "__setattr__" = some (some (.builtin "object.__setattr__"))
 hp:plainOver K 241 = true
 ht:takerIn K 241 headersName = some none
 hh:(clsIn K 241).any (·.hasDict) = true
 tp:[106,107,111,112].map (fun a=>K.lookup a) = [some (tupL nameL),some (patL "[\\x00-\\x1F\\x7F]" 621 644 106),some (tupL valL),some (patL "[\\x00-\\x08\\x0A-\\x1F\\x7F]" 647 678 111)]
 alc:(K.all fun p=>!isCellD p.2 && !(p.1 == 47 || p.1 == 54)) = true
 blt4:nsIn K mainGlobals "__builtins__" = some (some (.ref 4))
 lawA:nsIn K mainGlobals "law" = some (some (.ref 284))
section
variable {w:World} {K:Frag}
theorem zfe {l:List (Str × String)} {f:String -> V} {f':String -> Value} (hv:∀ (g:Gh) i,VRel g (f i) (f' i)) (h1:∀ p ∈ l,nsIn K mainGlobals p.1 = some none) (h2:l.map (fun p=>(p.1 == ("__name__" : Str),bootBuiltins p.1)) = l.map fun p=>(false,some (f' p.2))) :
  ∀ p ∈ l.map (fun p=>(p.1,f p.2)),GlobFact w K p.1 p.2:=by
 intro p hp
 obtain ⟨q,hq,rfl⟩:=List.mem_map.mp hp
 have e:=List.map_inj_left.mp h2 q hq
 exact .inr ⟨h1 q hq,fun z=>Bool.noConfusion ((beq_iff_eq.mpr z).symm.trans (congrArg Prod.fst e)),_,congrArg Prod.snd e,fun g=>hv g _⟩
theorem zys {g:Gh} (l:List (String × Nat)):∀ i,All2 (StrKey g.pr) (l.map fun p=>S p.1) (exEs g.pr l i) /\ VRels g (l.map fun p=>.int (p.2:Nat)) ((exEs g.pr l i).map (·.val)):=by
 induction l with
 | nil=>exact fun _=>⟨.nil,.nil⟩
 | cons q l ih=>exact fun i=>⟨.cons ⟨_,rfl,rfl⟩ (ih (i + 1)).1,.cons (.int _ _) (ih (i + 1)).2⟩
theorem globs1 (F:KFr K w):∀ p ∈ law1.globs,GlobFact w K p.1 p.2:=by
 have g:=List.map_inj_left.mp F.gb
 have m1:=fun p h=>g p (List.mem_append_left _ h)
 have m2:=fun p h=>g p (List.mem_append_right _ (List.mem_append_left _ h))
 have m3:=fun p h=>g p (List.mem_append_right _ (List.mem_append_right _ (List.mem_append_left _ h)))
 have m4:=fun p h=>g p (List.mem_append_right _ (List.mem_append_right _ (List.mem_append_right _ h)))
 rw [zlh]
 refine List.forall_mem_append.mpr ⟨zfe (f:=.bi) (fun _ i=>.bi i) m1 (by kernel_rfl),List.forall_mem_append.mpr ⟨zfe (f:=.typ) (fun _ i=>.typ i) m2 (by kernel_rfl),List.forall_mem_append.mpr ⟨zfe (f:=.bi) (fun _ i=>.bi i) m3 (by kernel_rfl),
  List.forall_mem_append.mpr ⟨zfe (f:=.typ) (fun _ i=>.typ i) m4 (by kernel_rfl),List.forall_mem_append.mpr ⟨fun p hp=>?_,List.forall_mem_append.mpr ⟨fun p hp=>?_,fun p hp=>?_⟩⟩⟩⟩⟩⟩
 ·obtain ⟨q,hq,rfl⟩:=List.mem_map.mp hp
  exact .inl ⟨_,List.map_inj_left.mp F.ga q hq,fun g _ _=>.adr _⟩
 ·obtain ⟨q,hq,rfl⟩:=List.mem_map.mp hp
  exact .inl ⟨_,List.map_inj_left.mp F.gi q hq,fun g _ _=>.int _ _⟩
 ·cases List.mem_singleton.mp hp
  refine .inl ⟨.ref 74,F.ex0,fun g hp hh=>?_⟩
  have e:=hh _ _ F.ex
  rw [<- hp] at e
  exact .dct e (zys exactL 0).1 (zys exactL 0).2 (by decide)
theorem cls1 (F:KFr K w):ClsFacts K (law1.prm []) where
 noSeq:=F.noSeq
 hga:=F.hga
 hk:=F.hk
 meth:=fun p hp=>by
  have e:=List.map_inj_left.mp F.mt p hp
  have n:law1.meths.map (fun p=>p.1 == headersName) = law1.meths.map fun _=>false:=by kernel_rfl
  exact ⟨congrArg Prod.fst e,congrArg Prod.snd e,fun z=>Bool.noConfusion ((beq_iff_eq.mpr z).symm.trans (List.map_inj_left.mp n p hp))⟩
 hd:=by
  have h:=F.hh
  cases e:clsIn K 241 with
  | none=>rw [e] at h; cases h
  | some cd=>rw [e] at h; exact ⟨cd,e,h⟩
 hn:=F.hn
 hs:=F.hs
 hp:=F.hp
 ht:=F.ht
 hh:=F.hh
end
end Mine
end
section
namespace Mine
open PySem PySem.SeqAt PySem.W PySem.Calls PyProof.Rows
section
variable {C:Cx} {w:World} {K:Frag} {h:Heap}
noncomputable def okB (a:Addr) (o:Obj):Bool:=!isCellD o && !(a == 47 || a == 54)
noncomputable def base1 (h:Heap) (a:Addr):Option Obj:=(h.get? a).filter (okB a)
noncomputable abbrev cx1 (prog:Program) (w:World) (h:Heap) (d:Nat):Cx:={ prog:=prog,w:=w,base:=base1 h,d:=d }
theorem zd6 {a:Addr} {o:Obj}:base1 h a = some o ↔ h.get? a = some o /\ okB a o = true:=Option.filter_eq_some_iff
theorem zdh {a:Addr} {o:Obj} {d:Data} (e:h.get? a = some o) (hn:(a == 47 || a == 54) = false) (hd:o.data = d) (hc:isCellD ⟨o.cls,o.dict,d,o.slots⟩ = false):base1 h a = some o:=by
 subst hd
 refine zd6.mpr ⟨e,?_⟩
 unfold okB
 rw [hn,show isCellD o = false from hc]
 rfl
theorem zi5 {prog:Program} {d:Nat} {c P:Addr} (hn:(c == 47 || c == 54) = false) (X:K.In h) (e:codeHdIn K c P = true):TabFact (cx1 prog w h d) c P:=by
 obtain ⟨o,vs,file,tf,flags,tg,inF,text,tt,e1,e2,e3,r⟩:=codeHd_of_K X e
 exact ⟨o,vs,file,tf,flags,tg,inF,text,tt,zdh e1 hn e3 rfl,e2,e3,r⟩
theorem zjj {β:Type} {a:Addr} {b:β} (l:List (Addr × β)) (h:l.lookup a = some b):(a,b) ∈ l:=by
 induction l with
 | nil=>cases h
 | cons q r ih =>
  rw [List.lookup_cons] at h
  cases hb:a == q.1 with
  | true=>rw [hb] at h; cases h; rw [eq_of_beq hb]; exact List.mem_cons_self
  | false=>rw [hb] at h; exact List.mem_cons_of_mem _ (ih h)
theorem zyh (F:KFr K w) (W:Within C K):PatAt C.base 107 nameCode:=by
 have h:=F.tp
 rw [List.map_cons,List.map_cons,List.cons.injEq,List.cons.injEq] at h
 exact ⟨106,_,_,_,_,_,_,_,W.sub _ _ h.2.1,W.sub _ _ h.1,by kernel_rfl⟩
theorem pat_vl (F:KFr K w) (W:Within C K):PatAt C.base 112 valCode:=by
 have h:=F.tp
 rw [List.map_cons,List.map_cons,List.map_cons,List.map_cons,List.cons.injEq,List.cons.injEq,List.cons.injEq,List.cons.injEq] at h
 exact ⟨111,_,_,_,_,_,_,_,W.sub _ _ h.2.2.2.1,W.sub _ _ h.2.2.1,by kernel_rfl⟩
theorem pats1 (F:KFr K w) (W:Within C K):PatsOk C (law1.prm []):=by
 intro a bad e
 have hm:(a,bad) ∈ [((107:Addr),nameBad),(112,valBad)]:=zjj _ e
 rcases List.mem_cons.mp hm with e | hm
 ·cases e
  exact ⟨nameCode,zyh F W,zvp⟩
 ·cases List.mem_singleton.mp hm
  exact ⟨valCode,pat_vl F W,zzl⟩
theorem hin1 (F:KFr K w) (X:K.In h) (a:Addr) (o:Obj) (e:K.lookup a = some o):base1 h a = some o :=
 zd6.mpr ⟨X a o e,List.all_eq_true.mp F.alc _ (zjj K e)⟩
theorem w01 {prog:Program} (F:KFr K w) (X:K.In h) {mg mb:Str -> Option Value} (Tg:h.Ns mainGlobals mg) (Tb:h.Ns builtinsNs mb) (N:h.NoLimit) (hbi:∀ x:Str,x ≠ "__name__" -> mb x = bootBuiltins x)
  (hbm:∃ bm ob,mg "__builtins__" = some (.ref bm) /\ bm ≠ builtinsNs /\ h.get? bm = some ob /\ ob.cls = .type "module" /\ ob.dict = some builtinsNs /\ ob.data = .plain) (d:Nat):W0 (cx1 prog w h d) K:=by
 have L:Lim0 (cx1 prog w h d):=by
  obtain ⟨mc,⟨o,es,ep,h1,h2,h3,h4⟩,hn⟩:=N
  exact ⟨o,es,ep,mc,zdh h1 rfl h2 rfl,h2,fun h' e=>⟨o,es,ep,e,h2,h3,h4⟩,hn⟩
 refine ⟨⟨hin1 F X⟩,?_,?_,L,?_,?_⟩
 ·obtain ⟨o,es,ep,h1,h2,h3,h4⟩:=Tb
  exact ⟨o,mb,zdh h1 rfl h2 rfl,fun h' e=>⟨o,es,ep,e,h2,h3,h4⟩,hbi⟩
 ·have Tg':=Tg
  obtain ⟨o,es,ep,h1,h2,h3,h4⟩:=Tg
  refine ⟨o,mg,zdh h1 rfl h2 rfl,fun h' e=>⟨o,es,ep,e,h2,h3,h4⟩,fun x v e=>?_⟩
  cases v with
  | none=>exact mg_none_of X Tg' e
  | some v=>exact mg_of X Tg' e
 ·obtain ⟨o,_,_,_,h1,_⟩:=L
  exact ⟨o,h1⟩
 ·obtain ⟨bm,ob,h1,h2,h3,h4,h5,h6⟩:=hbm
  have e2:=mg_of X Tg F.blt4
  rw [h1] at e2
  cases e2
  exact ⟨4,ob,F.blt4,h2,zdh h3 rfl h6 rfl,h4,h5,h6⟩
noncomputable def cs1:List Cell:=[.tab 47 (posOf F_i2d) qI2D,.tab 54 (posOf F_d2i) qD2I]
noncomputable def gh1 (h:Heap) (P:Params):Gh:=⟨base1 h,fun l=>cond (l == 0) 47 54,cs1,P,fun _=>False⟩
theorem zi4 {l:Nat} (h:l < cs1.length):l = 0 \/ l = 1:=by
 have:l < 2:=h
 lia
theorem hrel1 {P:Params} (h1:h.get? 47 = some (tabObj #[])) (h2:h.get? 54 = some (tabObj #[])):HRel (gh1 h P) h where
 fz:=fun a o e=>(zd6.mp e).1
 ce:=by
  intro l c e
  rcases zi4 (zaa e) with rfl | rfl
  ·cases e; exact ⟨rfl,#[],h1,trivial,.inl rfl⟩
  ·cases e; exact ⟨rfl,#[],h2,trivial,.inl rfl⟩
 ap:=by
  intro l hl
  rcases zi4 hl with rfl | rfl
  ·show (h.get? 47).filter _ = none; rw [h1]; rfl
  ·show (h.get? 54).filter _ = none; rw [h2]; rfl
 inj:=by
  intro l l' hl hl' e
  rcases zi4 hl with rfl | rfl <;> rcases zi4 hl' with rfl | rfl
  ·rfl
  ·exact absurd (show (47:Nat) = 54 from e) (by decide)
  ·exact absurd (show (54:Nat) = 47 from e) (by decide)
  ·rfl
 nofr:=fun a o e v z=>by
  have h:=(zd6.mp e).2
  unfold okB isCellD at h
  rw [z] at h
  cases h
 lv:=fun _ z=>z.elim
theorem zwf {g:Gh} {vs:List Value} {zs:List Int} (h:IntsAre vs zs):VRels g (zs.map V.int) vs:=by
 induction h with
 | nil=>exact .nil
 | cons n t _ ih=>exact .cons (.int n t) ih
theorem codeTab {c P:Addr} (hc:CodeHd h c P) (ht:h.get? P = some (tabObj #[])):isCodeTable h P:=by
 obtain ⟨o,vs,file,tf,flags,tg,inF,text,tt,e1,e2,e3,e4,_⟩:=hc
 exact Heap.TableAt.isCodeTable (c:=c) (ps:=#[]) ⟨⟨o,vs,e1,e2,e3,e4⟩,ht⟩
theorem old1 {s:Shared} {P:Params} {σ':St} (X:Ext ⟨s,gh1 s.heap P⟩ σ' noOwn) (T:Tabs σ'.g.cs) (h1:s.heap.get? 47 = some (tabObj #[])) (h2:s.heap.get? 54 = some (tabObj #[])) (c1:isCodeTable s.heap 47) (c2:isCodeTable s.heap 54):OldK s.heap σ'.s.heap:=by
 have t0:=X.H.ce 0 _ T.t1
 have t1:=X.H.ce 1 _ T.t2
 rw [X.le.ρ 0 (by show 0 < 2; decide)] at t0
 rw [X.le.ρ 1 (by show 1 < 2; decide)] at t1
 obtain ⟨_,ps,e0,_⟩:=t0
 obtain ⟨_,qs,e1,_⟩:=t1
 have rest:∀ b o,s.heap.get? b = some o -> b ≠ 47 -> b ≠ 54 -> σ'.s.heap.get? b = some o:=fun b o e n1 n2=>(fun ⟨o2,g1,_,g3⟩=>g3 (fun z=>z) ▸ g1) (X.keep b o e (fun l hl=>by
  rcases zi4 hl with rfl | rfl
  ·exact n1
  ·exact n2) fun z=>z)
 refine ⟨fun b o e=>?_,fun b o e=>?_⟩
 ·by_cases n1:b = 47
  ·cases n1
   cases h1.symm.trans e
   exact .inr (.inl ⟨c1,rfl,#[],ps,rfl,by rw [Array.empty_append]; exact e0⟩)
  ·by_cases n2:b = 54
   ·cases n2
    cases h2.symm.trans e
    exact .inr (.inl ⟨c2,rfl,#[],qs,rfl,by rw [Array.empty_append]; exact e1⟩)
   ·exact .inl (rest b o e n1 n2)
 ·by_cases n1:b = 47
  ·exact n1 ▸ ⟨_,e0⟩
  ·by_cases n2:b = 54
   ·exact n2 ▸ ⟨_,e1⟩
   ·exact ⟨_,rest b o e n1 n2⟩
end
theorem O16:AOk callerA 16:=⟨rfl,by decide,by decide⟩
theorem law1_run {prog:Program} {w:World} {K:Frag} (F:KFr K w) {s:Shared} {mg mb:Str -> Option Value} (X:K.In s.heap) (h1:s.heap.get? 47 = some (tabObj #[])) (h2:s.heap.get? 54 = some (tabObj #[]))
  (Tg:s.heap.Ns mainGlobals mg) (Tb:s.heap.Ns builtinsNs mb) (N:s.heap.NoLimit) (hbi:∀ x:Str,x ≠ "__name__" -> mb x = bootBuiltins x)
  (hbm:∃ bm ob,mg "__builtins__" = some (.ref bm) /\ bm ≠ builtinsNs /\ s.heap.get? bm = some ob /\ ob.cls = .type "module" /\ ob.dict = some builtinsNs /\ ob.data = .plain)
  {fa:Addr} (hmg:mg "law" = some (.ref fa)) {a:Addr} {vs:List Value} {zs:List Int} (hl:s.heap.get? a = some { cls:=.type "list",data:=.seq vs.toArray }) (hI:IntsAre vs zs) (hz:zs.length <= 63)
  {Q E:Value -> Shared -> Prop} (k:∀ h' tk,OldK s.heap h' -> Q (.bool true) { s with heap:=h',toks:=tk }):wpAny (model prog w) callerA (call (.ref fa) [.ref a]) Q E s:=by
 have e:=mg_of X Tg F.lawA
 rw [hmg] at e
 cases e
 have W:=w01 (prog:=prog) F X Tg Tb N hbi hbm 0
 have O:LawOk (cx1 prog w s.heap 0) K law1:=⟨W,globs1 F,cls1 F,pats1 F W.inK⟩
 have n1:(a == 47 || a == 54) = false:=by
  cases e1:a == 47 with
  | true=>rw [eq_of_beq e1,h1] at hl; cases hl
  | false =>
   cases e2:a == 54 with
   | true=>rw [eq_of_beq e2,h2] at hl; cases hl
   | false=>rfl
 have rv:VRel (gh1 s.heap w.params) (.lst (zs.map V.int)) (.ref a) :=
  .lst (ep:=0) (zdh hl n1 rfl rfl) (zwf hI) (by rw [List.length_map]; exact Nat.le_trans hz (by decide))
 have run:=z1i (K:=K) (zs:=zs) (A:=callerA) (σ:=⟨s,gh1 s.heap w.params⟩) (x':=.ref a) (KK:=fun v c=>v = .bool true /\ Tabs c) O (fun _ _=>trivial) F.f F.b260 (zi5 rfl X F.hd1) (zi5 rfl X F.hd2) (zyh F W.inK) O16 (hrel1 h1 h2) ⟨rfl,fun a o e=>e,fun _ z=>z.elim⟩ rfl ⟨rfl,rfl⟩ rv fun c T=>⟨rfl,T⟩
 refine run.runs Q E fun v x σ' Xt r q=>?_
 obtain ⟨rfl,T⟩:=q
 cases r.inv
 have:=k σ'.s.heap σ'.s.toks (old1 Xt T h1 h2 (codeTab (codeHd_of_K (c:=51) X F.hd1) h1) (codeTab (codeHd_of_K (c:=58) X F.hd2) h2))
 rw [Xt.sh]
 exact this
end Mine
end
namespace Mine
open PySem PySem.W
theorem well_list {P:Params} {h:Heap} {a:Addr} {xs:List WData} (W:Well P h (.ref a) (.list xs)):∃ vs:List Value,h.get? a = some { cls:=.type "list",data:=.seq vs.toArray }:=by
 cases W with
 | list e _=>exact ⟨_,e⟩
theorem list_same {h:Heap} {a:Addr} {vs vs':List Value} (e:h.get? a = some { cls:=.type "list",data:=.seq vs'.toArray }) (L:h.IsList a vs.toArray):h.get? a = some { cls:=.type "list",data:=.seq vs.toArray }:=by
 obtain ⟨o,e1,_,n,e2⟩:=L
 rw [e] at e1
 cases e1
 injection e2 with e3 e4
 rw [e,e3]
end Mine
namespace Mine.main
theorem tw11156056980113079860:True:=⟨⟩
theorem tw16826212616301561204:True:=⟨⟩
theorem tw14493317819698629375:True:=⟨⟩
theorem tw10140136200207757160:True:=⟨⟩
theorem tw14510055921401542917:True:=⟨⟩
theorem tw3952082471794788734:True:=⟨⟩
theorem tw1750853009144216356:True:=⟨⟩
theorem tw4427053143261297921:True:=⟨⟩
theorem tw13612491273024933556:True:=⟨⟩
theorem tw11013106996041573379:True:=⟨⟩
theorem tw3137596982192898869:True:=⟨⟩
theorem tw18431692314602308842:True:=⟨⟩
theorem tw10152407322737693077:True:=⟨⟩
theorem tw8118072479153026202:True:=⟨⟩
theorem tw9986019674649008433:True:=⟨⟩
theorem tw5436791530062809996:True:=⟨⟩
theorem tw8440099810896429113:True:=⟨⟩
theorem tw14313061170024940013:True:=⟨⟩
theorem tw16461936056556126171:True:=⟨⟩
theorem tw4681395471914393968:True:=⟨⟩
theorem tw7875838824674609581:True:=⟨⟩
theorem tw17402982504261768225:True:=⟨⟩
theorem tw17297283025540448806:True:=⟨⟩
theorem tw12915833801598196605:True:=⟨⟩
theorem tw10821422270917381399:True:=⟨⟩
theorem tw4038153913678941442:True:=⟨⟩
theorem tw11595507254763858292:True:=⟨⟩
theorem tw8645133422005227894:True:=⟨⟩
theorem tw9772175576572683089:True:=⟨⟩
theorem tw18325589031809861271:True:=⟨⟩
theorem tw9274054859765456524:True:=⟨⟩
theorem tw1779879307203188530:True:=⟨⟩
theorem tw2852251193174398662:True:=⟨⟩
theorem tw17353955331779342651:True:=⟨⟩
theorem tw8207831470162742035:True:=⟨⟩
theorem tw17120147093228096131:True:=⟨⟩
theorem tw16049902774474827687:True:=⟨⟩
theorem tw16923884221124529275:True:=⟨⟩
theorem tw1632041292262086317:True:=⟨⟩
theorem tw2647654807098235363:True:=⟨⟩
theorem tw15768048840197415361:True:=⟨⟩
theorem tw1270039299266317192:True:=⟨⟩
theorem tw9361300454564663673:True:=⟨⟩
theorem tw2583023086579268501:True:=⟨⟩
theorem tw15554039934745177238:True:=⟨⟩
theorem tw16153842264607907944:True:=⟨⟩
theorem tw17644181745481072423:True:=⟨⟩
theorem tw11003572833241299968:True:=⟨⟩
theorem tw5401703158475992631:True:=⟨⟩
theorem tw10896356407431480244:True:=⟨⟩
theorem tw2906824675625879941:True:=⟨⟩
theorem tw6511744376749373798:True:=⟨⟩
theorem tw15955573374722617477:True:=⟨⟩
theorem tw3562595001068472590:True:=⟨⟩
theorem tw14009396871252706886:True:=⟨⟩
theorem tw15270170921892066516:True:=⟨⟩
theorem tw10094358506670053839:True:=⟨⟩
theorem tw11595355409239048105:True:=⟨⟩
theorem tw2238316416991798583:True:=⟨⟩
theorem tw17715262827843222689:True:=⟨⟩
theorem tw14639212616227390028:True:=⟨⟩
theorem tw750237026923860459:True:=⟨⟩
theorem tw2354262462317623899:True:=⟨⟩
theorem tw16519101796099990279:True:=⟨⟩
theorem tw765107192605250810:True:=⟨⟩
theorem tw17695171507069755227:True:=⟨⟩
theorem tw10707853282979444102:True:=⟨⟩
theorem tw5613160597433933154:True:=⟨⟩
theorem tw16008457594558532635:True:=⟨⟩
theorem tw7436448052282571913:True:=⟨⟩
theorem tw11752208632293872130:True:=⟨⟩
theorem tw4475767826048309731:True:=⟨⟩
theorem tw13350764725976880583:True:=⟨⟩
theorem tw7173623326730630234:True:=⟨⟩
theorem tw12623159325031504133:True:=⟨⟩
theorem tw9656510801202774680:True:=⟨⟩
theorem tw15131278010643852716:True:=⟨⟩
theorem tw7439787175107056256:True:=⟨⟩
theorem tw13693970394777133609:True:=⟨⟩
theorem tw2538046985915079169:True:=⟨⟩
theorem tw15643365686152983790:True:=⟨⟩
theorem tw18234761425742761375:True:=⟨⟩
theorem tw341453280667917650:True:=⟨⟩
theorem tw3532412968194664532:True:=⟨⟩
theorem tw5781596087445459943:True:=⟨⟩
theorem tw8905464785575363620:True:=⟨⟩
theorem tw16778611742570070204:True:=⟨⟩
theorem tw302440914744352476:True:=⟨⟩
theorem tw5571399437266216444:True:=⟨⟩
theorem tw7237411587787531456:True:=⟨⟩
theorem tw8947760058931562597:True:=⟨⟩
theorem tw5665406974723832613:True:=⟨⟩
theorem tw10114013102757674387:True:=⟨⟩
theorem tw1054321117371714560:True:=⟨⟩
theorem tw16320729459185622934:True:=⟨⟩
theorem tw14759895335926876869:True:=⟨⟩
theorem tw11712898817490728241:True:=⟨⟩
theorem tw3938019374604804178:True:=⟨⟩
theorem tw15514936471743626214:True:=⟨⟩
theorem tw1496695287857109588:True:=⟨⟩
theorem tw6969975859711568873:True:=⟨⟩
theorem tw684408950050414953:True:=⟨⟩
theorem tw12706235939375600548:True:=⟨⟩
theorem tw4990475226369331113:True:=⟨⟩
theorem tw12590340796369385619:True:=⟨⟩
theorem tw16135426469972691074:True:=⟨⟩
theorem tw7380652910202371479:True:=⟨⟩
theorem tw14771111431291430275:True:=⟨⟩
theorem tw16035907590883218939:True:=⟨⟩
theorem tw1429040668314091153:True:=⟨⟩
theorem tw7411558596216406370:True:=⟨⟩
theorem tw7751025194823839400:True:=⟨⟩
theorem tw16071463447376511305:True:=⟨⟩
theorem tw10455743928339290457:True:=⟨⟩
theorem tw10234815189450012239:True:=⟨⟩
theorem tw6741292078354696603:True:=⟨⟩
theorem tw10791763240276692219:True:=⟨⟩
theorem tw12900284412222446716:True:=⟨⟩
theorem tw14313897822631088780:True:=⟨⟩
theorem tw6696893160125735727:True:=⟨⟩
theorem tw8484041278411425421:True:=⟨⟩
theorem tw7293298908176781663:True:=⟨⟩
theorem tw14788915703135433725:True:=⟨⟩
theorem tw7214478077546791972:True:=⟨⟩
theorem tw4651154628705390771:True:=⟨⟩
theorem tw7590696779544312186:True:=⟨⟩
theorem tw9561784451562097942:True:=⟨⟩
theorem tw10924716458440934090:True:=⟨⟩
theorem tw10864377008497418100:True:=⟨⟩
theorem tw12077450504624328385:True:=⟨⟩
theorem tw6063798129297943090:True:=⟨⟩
theorem tw16922381011570985944:True:=⟨⟩
theorem tw13876859957761632879:True:=⟨⟩
theorem tw16641786646906312760:True:=⟨⟩
theorem tw6112859857366181021:True:=⟨⟩
theorem tw2702614204127132176:True:=⟨⟩
theorem tw11461230924637031220:True:=⟨⟩
theorem tw18302796317244248524:True:=⟨⟩
theorem tw17737603089517620647:True:=⟨⟩
theorem tw17336282652733537790:True:=⟨⟩
theorem tw16251939892948500945:True:=⟨⟩
theorem tw14080665800827857628:True:=⟨⟩
theorem tw17052023290607921161:True:=⟨⟩
theorem tw15365013842991253249:True:=⟨⟩
theorem tw65644731488775911:True:=⟨⟩
theorem tw7904437144335635152:True:=⟨⟩
theorem tw9369988214560726041:True:=⟨⟩
theorem tw15079240505294077160:True:=⟨⟩
theorem tw6910295442248876197:True:=⟨⟩
theorem tw5259387161420218263:True:=⟨⟩
theorem tw16572128252103988241:True:=⟨⟩
theorem tw3960113756560652017:True:=⟨⟩
theorem tw9730157408454304684:True:=⟨⟩
theorem tw14662554035588321541:True:=⟨⟩
theorem tw15467891735981029475:True:=⟨⟩
theorem tw4900431672193113347:True:=⟨⟩
theorem tw7790209067792180648:True:=⟨⟩
theorem tw15303317825217679618:True:=⟨⟩
theorem tw1118068078248606362:True:=⟨⟩
theorem tw4544244032028310869:True:=⟨⟩
theorem tw13355152605343272895:True:=⟨⟩
theorem tw13503263706703578961:True:=⟨⟩
theorem tw13724616953566380437:True:=⟨⟩
theorem tw11710404883906591787:True:=⟨⟩
theorem tw4452170602077327944:True:=⟨⟩
theorem tw7268301785047649679:True:=⟨⟩
theorem tw4839478117068044826:True:=⟨⟩
theorem tw11554813239044494598:True:=⟨⟩
theorem tw1628013610222277130:True:=⟨⟩
theorem tw8467378866343419333:True:=⟨⟩
theorem tw33456957511925785:True:=⟨⟩
theorem tw52199770228462824:True:=⟨⟩
theorem tw6334894449686545209:True:=⟨⟩
theorem tw3234112476842188716:True:=⟨⟩
theorem tw9682133043923132273:True:=⟨⟩
theorem tw7186131708394509389:True:=⟨⟩
theorem tw9897820754763898449:True:=⟨⟩
theorem tw14439473939278146460:True:=⟨⟩
theorem tw17091655785135471103:True:=⟨⟩
theorem tw14061640607465278742:True:=⟨⟩
theorem tw6361450105264607166:True:=⟨⟩
theorem tw1306636233014830658:True:=⟨⟩
theorem tw16819838333489098493:True:=⟨⟩
theorem tw13803360072150633466:True:=⟨⟩
theorem tw10177057350305019805:True:=⟨⟩
theorem tw7846812961960373227:True:=⟨⟩
theorem tw2287757881348798766:True:=⟨⟩
theorem tw13626721169425172152:True:=⟨⟩
theorem tw12483276189755474720:True:=⟨⟩
theorem tw7083192437325867461:True:=⟨⟩
theorem tw8930851030842425676:True:=⟨⟩
theorem tw17236958762192778904:True:=⟨⟩
theorem tw15017983477296125989:True:=⟨⟩
theorem tw9190990891756207365:True:=⟨⟩
theorem tw13590572293223372214:True:=⟨⟩
theorem tw3343439749351644125:True:=⟨⟩
theorem tw12343854547171428336:True:=⟨⟩
theorem tw9272984997812220495:True:=⟨⟩
theorem tw1504049600530537962:True:=⟨⟩
theorem tw13224007501803129859:True:=⟨⟩
theorem tw17974016328880235120:True:=⟨⟩
theorem tw13777938177461255882:True:=⟨⟩
theorem tw12702744160499308131:True:=⟨⟩
theorem tw4261964983698606537:True:=⟨⟩
theorem tw13402765919934010277:True:=⟨⟩
theorem tw9360745474812902239:True:=⟨⟩
theorem tw14161005256144132680:True:=⟨⟩
theorem tw5261291663784722523:True:=⟨⟩
theorem tw14672674291997333471:True:=⟨⟩
theorem tw2190695567426971638:True:=⟨⟩
theorem tw656089360051881306:True:=⟨⟩
theorem tw12670839924663504800:True:=⟨⟩
theorem tw1277820614484962519:True:=⟨⟩
theorem tw7113585516715319716:True:=⟨⟩
theorem tw2566753976717531306:True:=⟨⟩
theorem tw2544328076492683441:True:=⟨⟩
theorem tw6912675738884088206:True:=⟨⟩
theorem tw8729708805864041840:True:=⟨⟩
theorem tw4333880214566435006:True:=⟨⟩
theorem tw12732289081945773324:True:=⟨⟩
theorem tw223528310411579522:True:=⟨⟩
theorem tw8478376212529829071:True:=⟨⟩
theorem tw10334261112615635914:True:=⟨⟩
theorem tw15342904991969174519:True:=⟨⟩
theorem tw16187894506366716058:True:=⟨⟩
theorem tw16832360635688203351:True:=⟨⟩
theorem tw11785714552879321826:True:=⟨⟩
theorem tw5649967823195072380:True:=⟨⟩
theorem tw4637267157515435788:True:=⟨⟩
theorem tw15737690656516749961:True:=⟨⟩
theorem tw3045742163950154196:True:=⟨⟩
theorem tw2496676261509829067:True:=⟨⟩
theorem tw6697339332421208802:True:=⟨⟩
theorem tw4500915450034043215:True:=⟨⟩
theorem tw1409966394225722968:True:=⟨⟩
theorem tw11544348965984651327:True:=⟨⟩
theorem tw2524017781993486291:True:=⟨⟩
theorem tw6785657489111691699:True:=⟨⟩
theorem tw2279707942289718827:True:=⟨⟩
theorem tw9840939614602229412:True:=⟨⟩
theorem tw10298723112805639129:True:=⟨⟩
theorem tw16411370214107742406:True:=⟨⟩
theorem tw16452447596832230105:True:=⟨⟩
theorem tw5084117380071580128:True:=⟨⟩
theorem tw2895952525429962455:True:=⟨⟩
theorem tw12057704586751987240:True:=⟨⟩
theorem tw7298748307773712898:True:=⟨⟩
theorem tw11403851563620829512:True:=⟨⟩
theorem tw10669944970481658594:True:=⟨⟩
theorem tw18134284020713443437:True:=⟨⟩
theorem tw15928290008803537013:True:=⟨⟩
theorem tw12093647306153771053:True:=⟨⟩
theorem tw18332899500509843999:True:=⟨⟩
theorem tw15577286369154851727:True:=⟨⟩
theorem tw12455012482086183272:True:=⟨⟩
theorem tw14722489848711283861:True:=⟨⟩
theorem tw13591255225166038476:True:=⟨⟩
theorem tw16193401482309157537:True:=⟨⟩
theorem tw6508729118710982530:True:=⟨⟩
theorem tw9994787619460420439:True:=⟨⟩
theorem tw1157997071576566072:True:=⟨⟩
theorem tw14635473669698735251:True:=⟨⟩
theorem tw11815829001073249272:True:=⟨⟩
theorem tw6660377722381337597:True:=⟨⟩
theorem tw14545751437235015076:True:=⟨⟩
theorem tw9302470337196694018:True:=⟨⟩
theorem tw2921958311620399285:True:=⟨⟩
theorem tw104360540948158410:True:=⟨⟩
theorem tw9381277316556691805:True:=⟨⟩
theorem tw11646826074482590764:True:=⟨⟩
theorem tw3299218664060906527:True:=⟨⟩
theorem tw4297412468100583042:True:=⟨⟩
theorem tw6044114016751833949:True:=⟨⟩
theorem tw12361340156312767134:True:=⟨⟩
theorem tw1714950047550659301:True:=⟨⟩
theorem tw13113777628852026922:True:=⟨⟩
theorem tw1826329307503635854:True:=⟨⟩
theorem tw9069182735580402390:True:=⟨⟩
theorem tw17725498274588495791:True:=⟨⟩
theorem tw2759098988195820126:True:=⟨⟩
theorem tw18442785490491869365:True:=⟨⟩
theorem tw13838900630717943254:True:=⟨⟩
theorem tw8475525182357872103:True:=⟨⟩
theorem tw8652556701797213591:True:=⟨⟩
theorem tw3549514262204291990:True:=⟨⟩
theorem tw1439166485080882:True:=⟨⟩
end Mine.main
open PySem PySem.W PyProof.Rows
set_option Elab.async true
set_option maxRecDepth 100000 in
set_option maxHeartbeats 8000000 in
theorem Mine.main:PySem.Challenge.rw_rs0231_01.Holds:=by
 w_on; o_law; k_head; (case hw=>w_witness2)
 k_fill
 intro w s₀ s₁ mg mb G Y fa o pm cd doc dV kV ho hd hcd hD hmg hg args vals as hpre hlay hrd hwl hlo
 have KX:=km_in_of Y
 have hT:=km_tabs_of Y
 refine Ground.open G ?_
 intro T B D TE TW
 clear hD hcd hd ho Y
 wrow_args hpre hlay hrd hwl hlo
 rename_i zs _ _ _ _ _ _ _ a vs _ hL ra w1 r0 hI hr hc1 hc2
 obtain ⟨vs',hv⟩:=Mine.well_list w1
 have hv2:=Mine.list_same hv hL
 refine Mine.law1_run ?F KX (hT 47 (by decide)) (hT 54 (by decide)) T.g T.b T.nolimit T.builtins T.bmain hmg hv2 hI (by omega) fun h' tk O=>?_
 case F =>
  constructor
  case f=>constructor <;> first | ((repeat intro _); kernel_rfl) | (constructor <;> kernel_rfl)
  all_goals first | ((repeat intro _); kernel_rfl) | kernel_rfl
 refine ⟨.inl ⟨.bool true,.bool true,[],rfl,fun cls=>rfl,.bool true,by first | rfl | kernel_rfl,fun _=>⟨List.nodup_nil,fun a ha=>by cases ha⟩⟩,O,rfl,.of_eq hg⟩
theorem PySem.Challenge.cw_rs0231_01_holds : PySem.Challenge.rw_rs0231_01.Holds :=
 Mine.main
